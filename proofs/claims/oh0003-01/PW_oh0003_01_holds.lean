import PyProof.Rows.All
import Wide.All
import OpenK.AllK
import Wide.FinOn
import PySem.Challenge.RW_oh0003_01
open PySem PySem.W PyProof.Rows
set_option Elab.async false
set_option maxRecDepth 100000
set_option maxHeartbeats 8000000 in
open_top hd for PySem.Challenge.rw_oh0003_01

section TxtL0
open PySem PySem.W PyProof.Rows PySem.Calls
namespace Mine

/-- the heap only grows -/
abbrev Ext (h h' : Heap) : Prop := ∀ b o, h.get? b = some o → h'.get? b = some o
theorem Ext.rfl' {h : Heap} : Ext h h := fun _ _ e => e
theorem Ext.trans' {h₁ h₂ h₃ : Heap} (a : Ext h₁ h₂) (b : Ext h₂ h₃) : Ext h₁ h₃ := fun x o e => b x o (a x o e)
theorem ext_push {h : Heap} (o : Obj) : Ext h (h.push o) := fun _ _ e => Heap.get?_push_of_some _ e

/-- how deep the interpreter stands -/
structure Calm (k : Nat) (A : Around) : Prop where
  hh : A.handled = none
  dp : A.depth ≤ 301 + k
  un : A.units ≤ 4 + 3 * k
theorem Calm.deeper {k : Nat} {A : Around} (c : Calm k A) (env : Env) : Calm (k + 1) (A.deeper env) :=
  ⟨c.hh, by have := c.dp; show A.depth + 1 ≤ _; omega, by have := c.un; show A.units + 3 ≤ _; omega⟩
theorem Calm.in1 {k : Nat} {A : Around} (c : Calm k A) : Calm (k + 1) A.in1 :=
  ⟨c.hh, by have := c.dp; show A.depth ≤ _; omega, by have := c.un; show A.units + 1 ≤ _; omega⟩
theorem Calm.room {k : Nat} {A : Around} (c : Calm k A) (hk : k ≤ 100 := by omega) : A.depth < recursionLimit := by
  have := c.dp; unfold recursionLimit; omega
theorem Calm.mono {k k' : Nat} {A : Around} (c : Calm k A) (hk : k ≤ k') : Calm k' A :=
  ⟨c.hh, by have := c.dp; omega, by have := c.un; omega⟩

noncomputable abbrev KK (w : World) : Frag := hd.heap_39 w.params

/-- what the top has left -/
structure Gr (w : World) (mg mb : Str → Option Value) (h : Heap) : Prop where
  X : (KK w).In h
  g : h.Ns mainGlobals mg
  b : h.Ns builtinsNs mb
  lim : h.NoLimit
  dig : ∃ mc, h.Ns cStatics mc ∧ mc "sys.int_max_str_digits" = none
  bt : ∀ x : Str, x ≠ "__name__" → mb x = bootBuiltins x
  bm : ∃ bm ob, mg "__builtins__" = some (.ref bm) ∧ bm ≠ builtinsNs ∧ h.get? bm = some ob ∧ ob.cls = .type "module" ∧ ob.dict = some builtinsNs ∧ ob.data = .plain
  cd : CodeHd h 33 29
theorem Gr.keeps {w : World} {mg mb : Str → Option Value} {h h' : Heap} (G : Gr w mg mb h) (k : Ext h h') : Gr w mg mb h' :=
  ⟨G.X.keeps k, G.g.keeps k, G.b.keeps k, G.lim.keeps k, let ⟨mc, a, b⟩ := G.dig; ⟨mc, a.keeps k, b⟩, G.bt, let ⟨bm, ob, a, b, c, r⟩ := G.bm; ⟨bm, ob, a, b, k _ _ c, r⟩, G.cd.keeps k⟩

/-- the state s with another heap and another clock -/
@[reducible] def St (s : Shared) (h : Heap) (tk : Nat) : Shared := ⟨h, s.gens, s.drawn, tk, s.os⟩

abbrev upd (m : Str → Option Value) (x : Str) (v : Value) : Str → Option Value := fun y => if y = x then some v else m y
theorem upd_self {m : Str → Option Value} {x : Str} {v : Value} : upd m x v x = some v := if_pos rfl
theorem upd_ne {m : Str → Option Value} {x y : Str} {v : Value} {r : Option Value} (h : m y = r) (hne : y ≠ x) : upd m x v y = r := (if_neg hne).trans h

section
variable {prog : Program} {w : World} {A : Around} {E : Value → Shared → Prop} {s : Shared} {hp h₀ : Heap} {tk : Nat} {mg mb : Str → Option Value} {env : Env} {x : Str} {pos : Pos} {v : Value} {Q : Value → Shared → Prop}

/-- a local name -/
theorem nmL {M : Model} {m : Str → Option Value} (hn : hp.Ns env.locals m) (hv : m x = some v) (h : Q v (St s hp tk))
    (hk : env.scope.kind = .function := by rfl) (hx : env.kindOf x = some .local := by rfl) (hd : (x == ("__debug__" : Str)) = false := by decide) :
    wpAny M A (eval (.Name x pos) env) Q E (St s hp tk) := wpAny_Name (wpAny_loadName_local hk hx hn hv h) hd
/-- a cell of this frame -/
theorem nmC {M : Model} {c : Addr} (hc : env.cells.lookup x = some c) (hv : hp.IsCell c (some v)) (h : Q v (St s hp tk))
    (hk : env.scope.kind = .function := by rfl) (hx : env.kindOf x = some .cell := by rfl) (hd : (x == ("__debug__" : Str)) = false := by decide) :
    wpAny M A (eval (.Name x pos) env) Q E (St s hp tk) := wpAny_Name (wpAny_loadName_cell hk hx hc hv h) hd
theorem nmF {M : Model} {c : Addr} (hc : env.cells.lookup x = some c) (hv : hp.IsCell c (some v)) (h : Q v (St s hp tk))
    (hk : env.scope.kind = .function := by rfl) (hx : env.kindOf x = some .free := by rfl) (hd : (x == ("__debug__" : Str)) = false := by decide) (hn : (x == ("__classdict__" : Str)) = false := by decide) :
    wpAny M A (eval (.Name x pos) env) Q E (St s hp tk) := wpAny_Name (wpAny_loadName_free hk hx hc hv h hn) hd
/-- a name of the text's top -/
theorem nmG {M : Model} (G : Gr w mg mb hp) (e : nsIn (KK w) mainGlobals x = some (some v)) (h : Q v (St s hp tk))
    (hg : env.globals = mainGlobals := by rfl) (hk : env.scope.kind = .function := by rfl) (hx : env.kindOf x = some .globalImplicit := by rfl) (hd : (x == ("__debug__" : Str)) = false := by decide) :
    wpAny M A (eval (.Name x pos) env) Q E (St s hp tk) :=
  Name_function_global hk hx (loadGlobal_global (env := env) (hg ▸ G.g) (mg_of G.X G.g e) h) hd
/-- a built-in name -/
theorem nmB {M : Model} (G : Gr w mg mb hp) (e : nsIn (KK w) mainGlobals x = some none) (hv : bootBuiltins x = some v) (hn : x ≠ "__name__") (h : Q v (St s hp tk))
    (hg : env.globals = mainGlobals := by rfl) (hb : env.builtins = builtinsNs := by rfl) (hk : env.scope.kind = .function := by rfl) (hx : env.kindOf x = some .globalImplicit := by rfl) (hd : (x == ("__debug__" : Str)) = false := by decide) :
    wpAny M A (eval (.Name x pos) env) Q E (St s hp tk) :=
  Name_function_global hk hx (loadGlobal_builtin (env := env) (hg ▸ G.g) (mg_none_of G.X G.g e) (hb ▸ G.b) ((G.bt x hn).trans hv) h) hd

theorem cInt {M : Model} {i : Int} {k : Nat} (h : ∀ t tk', Q (.int i t) (St s hp tk')) : wpAny M A (eval (.Constant (.int i) k pos) env) Q E (St s hp tk) := wpAny_Constant_int (h _ _)
theorem cStr {M : Model} {y : Str} {k : Nat} (h : ∀ t tk', Q (.str y t) (St s hp tk')) : wpAny M A (eval (.Constant (.str y) k pos) env) Q E (St s hp tk) := wpAny_Constant_str (h _ _)
theorem cNone {M : Model} {k : Nat} (h : Q .none (St s hp tk)) : wpAny M A (eval (.Constant .none k pos) env) Q E (St s hp tk) := wpAny_Constant_none h
theorem cBool {M : Model} {b : Bool} {k : Nat} (h : Q (.bool b) (St s hp tk)) : wpAny M A (eval (.Constant (.bool b) k pos) env) Q E (St s hp tk) := wpAny_Constant_bool h

variable {a b : Int} {t u : Tok}
theorem oAdd (h : ∀ t tk', Q (.int (a + b) t) (St s hp tk')) : wpAny (model prog w) A (binaryOp .Add (.int a t) (.int b u)) Q E (St s hp tk) := P.add_int (h _ _)
theorem oSub (h : ∀ t tk', Q (.int (a - b) t) (St s hp tk')) : wpAny (model prog w) A (binaryOp .Sub (.int a t) (.int b u)) Q E (St s hp tk) := P.sub_int (h _ _)
theorem oNeg (h : ∀ t tk', Q (.int (-a) t) (St s hp tk')) : wpAny (model prog w) A (unaryOp .USub (.int a t)) Q E (St s hp tk) := P.neg_int (h _ _)
theorem oMod (hb : 0 < b) (h : ∀ t tk', Q (.int (a % b) t) (St s hp tk')) : wpAny (model prog w) A (binaryOp .Mod (.int a t) (.int b u)) Q E (St s hp tk) :=
  mod_int' (by omega) (by rw [Int.fmod_eq_emod_of_nonneg _ (by omega)]; exact h _ _)
theorem oDiv (hb : 0 < b) (hb2 : b < 2 ^ 29) (ha : 0 ≤ a) (ha' : a < 2 ^ 60) (h : ∀ t tk', Q (.int (a / b) t) (St s hp tk')) : wpAny (model prog w) A (binaryOp .FloorDiv (.int a t) (.int b u)) Q E (St s hp tk) :=
  floordiv_int (by omega) (by rw [Int.fdiv_eq_ediv_of_nonneg _ (by omega)]; exact h _ _) (Or.inl (PyProof.noPylong_small (by omega)))
theorem oGt (h : Q (.bool (decide (a > b))) (St s hp tk)) : wpAny (model prog w) A (compareOp .Gt (.int a t) (.int b u)) Q E (St s hp tk) := P.gt_int h
theorem oGe (h : Q (.bool (decide (a ≥ b))) (St s hp tk)) : wpAny (model prog w) A (compareOp .GtE (.int a t) (.int b u)) Q E (St s hp tk) := P.ge_int h
theorem oLt (h : Q (.bool (decide (a < b))) (St s hp tk)) : wpAny (model prog w) A (compareOp .Lt (.int a t) (.int b u)) Q E (St s hp tk) := P.lt_int h
theorem oLe (h : Q (.bool (decide (a ≤ b))) (St s hp tk)) : wpAny (model prog w) A (compareOp .LtE (.int a t) (.int b u)) Q E (St s hp tk) := P.le_int h
theorem oEq (h : Q (.bool (a == b)) (St s hp tk)) : wpAny (model prog w) A (compareOp .Eq (.int a t) (.int b u)) Q E (St s hp tk) := P.eq_int h
end

/-- storing a local name -/
theorem stL {M : Model} {A : Around} {E : Value → Shared → Prop} {s : Shared} {hp h₀ : Heap} {tk : Nat} {env : Env} {m : Str → Option Value} {x : Str} {v : Value} {Q : Unit → Shared → Prop} (F : Fr h₀ env.locals hp m)
    (h : ∀ h' tk', Fr h₀ env.locals h' (upd m x v) → Heap.SameBut env.locals hp h' → Q () (St s h' tk'))
    (hk : env.scope.kind = .function := by rfl) (hx : env.kindOf x = some .local := by rfl) : wpAny M A (storeName env x v) Q E (St s hp tk) :=
  wpAny_storeName_local hx F.ns (fun h' hn hs => h h' _ (F.set hn hs) hs) (by rw [hk]; rfl)
theorem frx {h₀ h h' : Heap} {L : Addr} {m : Str → Option Value} (F : Fr h₀ L h m) (k : Ext h h') : Fr h₀ L h' m :=
  ⟨F.ns.keeps k, fun b o e => k _ _ (F.keep b o e), F.above⟩

theorem ns_not_list {h : Heap} {L a : Addr} {m : Str → Option Value} {xs : Array Value} (hn : h.Ns L m) (hl : h.IsList a xs) : a ≠ L := by
  rintro rfl
  obtain ⟨o, e1, _, n, e2⟩ := hl
  obtain ⟨o', es, ep, e3, e4, _⟩ := hn
  rw [e1] at e3; cases e3
  rw [e2] at e4; cases e4
theorem list_set {h h' : Heap} {L a : Addr} {m : Str → Option Value} {xs : Array Value} (hl : h.IsList a xs) (hn : h.Ns L m) (hs : Heap.SameBut L h h') : h'.IsList a xs := by
  obtain ⟨o, e1, r⟩ := hl
  exact ⟨o, (hs.2 a (ns_not_list hn ⟨o, e1, r⟩)).trans e1, r⟩
theorem list_ext {h h' : Heap} {a : Addr} {xs : Array Value} (hl : h.IsList a xs) (k : Ext h h') : h'.IsList a xs := by
  obtain ⟨o, e1, r⟩ := hl
  exact ⟨o, k _ _ e1, r⟩

/-- a call of one of the text's defs -/
theorem callFn {prog : Program} {w : World} {A : Around} {E : Value → Shared → Prop} {s : Shared} {hp : Heap} {tk : Nat} {K : Frag} {Q : Value → Shared → Prop} {name qual : Str} {params : Arguments} {body : List Stmt} {scope : Scope}
    {dV kV doc pm cdv ct oc : Value} {an od : Option Addr} {osl : Array (Option Value)} {f : Addr} {args : List Value} {binds : List (Str × Value)}
    (X : K.In hp) (hlim : hp.NoLimit) (hroom : A.depth < recursionLimit)
    (ho : K.lookup f = some ⟨oc, od, .func (fnOf name qual params body scope dV kV doc pm an cdv ct), osl⟩) (hcd : codeIn K cdv qual = true)
    (hbind : bindArgs (fnOf name qual params body scope dV kV doc pm an cdv ct) ⟨args, []⟩ = pure binds) (hloc : ∀ y ∈ binds, scope.names.lookup y.1 = some .local)
    (h : ∀ L h₁ tk', Fr hp L h₁ (fun y => binds.reverse.lookup y) → L = hp.objs.size →
      wpAny (model prog w) (A.deeper (envOf qual scope L f cdv)) (execs body (envOf qual scope L f cdv))
        (fun fl s' => Q (match fl with | .ret v => v | _ => .none) s')
        (fun e s' => wpAny (model prog w) (A.deeper (envOf qual scope L f cdv)) (leaving (envOf qual scope L f cdv) e) (fun _ s'' => E e s'') (fun e' s'' => E e' s'') s')
        (St s h₁ tk'))
    (hcell : ∀ x ∈ scope.names, x.2 ≠ .cell := by decide) (hco : scope.isCoroutine = false := by rfl) (hgen : scope.isGenerator = false := by rfl) (hk : scope.kind = .function := by rfl) :
    wpAny (model prog w) A (call (.ref f) args) Q E (St s hp tk) := by
  refine wpAny_call (codeAny_call_function hroom (X _ _ ho) rfl hco hgen rfl (codeRec_of X hcd) ?_)
  rw [hbind]
  refine wpAny_pure (wpAny_newFunctionEnv hcell hloc (fun h₁ hns hsb => ⟨hlim.fresh _ hsb, ?_⟩) hk)
  show codeAny _ _ (.func body (envOf qual scope hp.objs.size f cdv)) _ _
  exact codeAny_func (h _ h₁ _ ⟨hns, fun b o e => hsb.extBut b o (Nat.ne_of_lt (Heap.lt_size e)) (Heap.get?_push_of_some _ e), Nat.le_refl _⟩ rfl)

/-- a list of ints -/
def LI (h : Heap) (a : Addr) (ns : List Int) : Prop := ∃ vs : List Value, h.IsList a vs.toArray ∧ IntsAre vs ns
theorem LI.ext {h h' : Heap} {a : Addr} {ns : List Int} (x : LI h a ns) (k : Ext h h') : LI h' a ns :=
  let ⟨vs, e, i⟩ := x; ⟨vs, list_ext e k, i⟩
theorem LI.set {h h' : Heap} {L a : Addr} {m : Str → Option Value} {ns : List Int} (x : LI h a ns) (hn : h.Ns L m) (hs : Heap.SameBut L h h') : LI h' a ns :=
  let ⟨vs, e, i⟩ := x; ⟨vs, list_set e hn hs, i⟩
theorem small {l : List Value} (h : l.length ≤ 1000 := by exact Nat.le_of_ble_eq_true rfl) : l.length ≤ sizeLine := Nat.le_trans h (by decide)
theorem pushed_list (h : Heap) (its : Array Value) : (h.push { cls := .type "list", data := .seq its }).IsList h.objs.size its :=
  ⟨_, Heap.get?_push_size _ rfl, rfl, 0, rfl⟩

section
variable {prog : Program} {w : World} {A : Around} {E : Value → Shared → Prop} {s : Shared} {hp : Heap} {tk : Nat} {env : Env} {Q : Value → Shared → Prop}
/-- two lists glued -/
theorem addL {l b : Addr} {vs ws : List Value} (hl : hp.IsList l vs.toArray) (hb : hp.IsList b ws.toArray)
    (h : ∀ a h', Ext hp h' → h'.IsList a (vs ++ ws).toArray → Q (.ref a) (St s h' tk)) (hsz : vs.length + ws.length ≤ sizeLine) :
    wpAny (model prog w) A (binaryOp .Add (.ref l) (.ref b)) Q E (St s hp tk) := by
  obtain ⟨⟨cls, dd, data, sl⟩, ho, hc, n, hd⟩ := id hl
  obtain ⟨⟨cls2, dd2, data2, sl2⟩, ho2, hc2, n2, hd2⟩ := id hb
  simp only at hc hd hc2 hd2
  subst hc hd hc2 hd2
  have e : vs.toArray ++ ws.toArray = (vs ++ ws).toArray := by simp
  refine concat_meets ⟨_, ho, rfl⟩ ⟨_, ho2, rfl⟩ noFill_list_add seq_list_add PySem.F.slot_list_add PySem.F.entry_list_add (PySem.F.args_list_add_2 _ _) (list_addW l b vs.toArray ws.toArray n n2 dd dd2 sl sl2 (by simpa using hsz)) ⟨ho, ho2, ?_⟩
  rw [e]
  exact h _ _ (ext_push _) (pushed_list _ _)
theorem addLI {l b : Addr} {ns ms : List Int} (hl : LI hp l ns) (hb : LI hp b ms)
    (h : ∀ a h', Ext hp h' → LI h' a (ns ++ ms) → Q (.ref a) (St s h' tk)) (hsz : ns.length + ms.length ≤ sizeLine) :
    wpAny (model prog w) A (binaryOp .Add (.ref l) (.ref b)) Q E (St s hp tk) := by
  obtain ⟨vs, hl, hi⟩ := hl
  obtain ⟨ws, hb, hj⟩ := hb
  refine addL hl hb (fun a h' e l => h _ _ e ⟨_, l, hi.append hj⟩) ?_
  rw [hi.length, hj.length]; exact hsz
/-- a list display -/
theorem dList {M : Model} {elts : List Expr} {pos : Pos} (h : wpAny M A (spliced (backTo pos (starEach elts env))) (fun vs s₁ => vs.length ≤ sizeLine ∧ ∃ h₁ tk₁, s₁ = St s h₁ tk₁ ∧ ∀ a h', Ext h₁ h' → h'.IsList a vs.toArray → Q (.ref a) (St s h' tk₁)) E (St s hp tk)) :
    wpAny M A (eval (.List elts pos) env) Q E (St s hp tk) :=
  wpAny_List (wpAny_mono h (fun vs s₁ ⟨a, h₁, tk₁, e, b⟩ => ⟨a, by subst e; exact b _ _ (ext_push _) (pushed_list _ _)⟩) fun _ _ x => x)
/-- xs[i] of a list -/
theorem itemL {value slice : Expr} {a : Addr} {l : List Value} {k : Int} {u : Tok} {x : Value} (hl : hp.IsList a l.toArray) (h0 : 0 ≤ k) (hfit : k < 2 ^ 63) (hx : l[k.toNat]? = some x) (h : Q x (St s hp tk))
    (hs : subscripted slice false (.ref a) (.int k u) = operate [.ref a, .int k u] (getItem (.ref a) (.int k u)) := by with_unfolding_all rfl) (hg : ∀ r, letTemporaryGo value (.ref a) r = pure () := by intro _; with_unfolding_all rfl) :
    wpAny (model prog w) A (subscriptTail value slice (.ref a) (.int k u)) Q E (St s hp tk) := item_listL hl h0 hfit hx h hs hg
theorem ints_get {vs : List Value} {ns : List Int} (hi : IntsAre vs ns) : ∀ {i : Nat} {n : Int}, ns[i]? = some n → ∃ t, vs[i]? = some (.int n t) := by
  induction hi with
  | nil => intro i n e; simp at e
  | cons m t _ ih =>
    intro i n e
    cases i with
    | zero => simp at e; subst e; exact ⟨t, rfl⟩
    | succ i => exact ih (i := i) (by simpa using e)
theorem itemLI {value slice : Expr} {a : Addr} {ns : List Int} {k : Int} {u : Tok} {n : Int} (hl : LI hp a ns) (h0 : 0 ≤ k) (hfit : k < 2 ^ 63) (hx : ns[k.toNat]? = some n) (h : ∀ t, Q (.int n t) (St s hp tk))
    (hs : subscripted slice false (.ref a) (.int k u) = operate [.ref a, .int k u] (getItem (.ref a) (.int k u)) := by with_unfolding_all rfl) (hg : ∀ r, letTemporaryGo value (.ref a) r = pure () := by intro _; with_unfolding_all rfl) :
    wpAny (model prog w) A (subscriptTail value slice (.ref a) (.int k u)) Q E (St s hp tk) := by
  obtain ⟨vs, hl, hi⟩ := hl
  obtain ⟨t, e⟩ := ints_get hi hx
  exact itemL hl h0 hfit e (h _) hs hg
/-- xs[lo:hi] of a list -/
theorem sliceL {value : Expr} {lower upper : Option Expr} {p pos : Pos}
    (h : wpAny (model prog w) A (eval value env) (fun o s₁ => wpAny (model prog w) A (evalPart lower env) (fun vl s₂ => wpAny (model prog w) A (evalPart upper env) (fun vu s₃ =>
      ∃ l items lo hi h₃ tk₃, s₃ = St s h₃ tk₃ ∧ o = .ref l ∧ h₃.IsList l items ∧ items.size ≤ sizeLine ∧ IsPart vl lo ∧ IsPart vu hi ∧
        ∀ a h', Ext h₃ h' → h'.IsList a (slicePick items lo hi none) → Q (.ref a) (St s h' tk₃)) E s₂) E s₁) E (St s hp tk))
    (ht : ∀ o r, letTemporaryGo value o r = pure () := by intro _ _; rfl) :
    wpAny (model prog w) A (eval (.Subscript value (.Slice lower upper none p) pos) env) Q E (St s hp tk) := by
  refine wpAny_Subscript_list_slice (wpAny_mono h (fun o s₁ h1 => wpAny_mono h1 (fun vl s₂ h2 => wpAny_mono h2 (fun vu s₃ h3 => ?_) fun _ _ x => x) fun _ _ x => x) fun _ _ x => x) ht
  obtain ⟨l, items, lo, hi, h₃, tk₃, rfl, rfl, e1, e2, e3, e4, k⟩ := h3
  refine ⟨l, items, lo, hi, rfl, e1, e2, e3, e4, k _ _ (Ext.trans' (ext_push _) (ext_push _)) ?_⟩
  have := pushed_list (h₃.push { cls := .type "slice", data := .fields #[vl, vu, .none] }) (slicePick items lo hi none)
  rwa [Heap.size_push] at this
end
end Mine

end TxtL0

section TxtL1
open PySem PySem.W PyProof.Rows PySem.Calls
namespace Mine
/-- what the parse makes of an octet and those behind it -/
inductive Parses : Int → Int → List Int → Int → Prop
  | done {v b : Int} : 0 ≤ b → b < 256 → b % 128 < 64 → Parses v b [] v
  | more {v b c n : Int} {r : List Int} : 0 ≤ b → b < 256 → 64 ≤ b % 128 → 0 ≤ v → v < 2 ^ 40 → Parses (v * 64 + c % 64) c r n → Parses v b (c :: r) n

def Enc (ys : List Int) (n : Int) : Prop := ∃ b r, ys = b :: r ∧ Parses (b % 64) b r n ∧ 63 * (r.length : Int) ≤ n
theorem Parses.lift {v b n : Int} {r : List Int} (p : Parses v b r n) (hb : b < 128) : Parses v (128 + b) r n := by
  cases p with
  | done h1 h2 h3 => exact .done (by omega) (by omega) (by omega)
  | more h1 h2 h3 h4 h5 h6 => exact .more (by omega) (by omega) (by omega) h4 h5 h6

set_option maxHeartbeats 1000000 in
theorem octets_call {prog : Program} {w : World} {A : Around} {E : Value → Shared → Prop} {s : Shared} {hp : Heap} {tk : Nat} {mg mb : Str → Option Value} {k : Nat} {n : Int} {t : Tok} {Q : Value → Shared → Prop}
    (G : Gr w mg mb hp) (c : Calm k A) (hk : k ≤ 20) (h0 : 0 ≤ n) (hn : n < 2 ^ 24)
    (h : ∀ a ys h' tk, Ext hp h' → LI h' a ys → Enc ys n → Q (.ref a) (St s h' tk)) :
    wpAny (model prog w) A (call (.ref 55) [.int n t]) Q E (St s hp tk) := by
  refine callFn (binds := [("number", .int n t)]) G.X G.lim c.room rfl rfl rfl (locs rfl) (fun L h₁ tk₁ F _ => ?_)
  refine wpAny_execs_cons (wpAny_Assign_Name (dList (wpAny_items_cons (wpAny_BinOp (nmL F.ns rfl (cInt fun _ _ => oMod (by decide) fun t₁ _ => wpAny_items_nil ⟨small, _, _, rfl, fun a₁ h₂ E₂ hl₂ => ?_⟩))))))
  have F₂ := frx F E₂
  refine stL F₂ (fun h₃ tk₃ F₃ S₃ => ?_)
  refine wpAny_execs_cons (wpAny_While ?_)
  have hl : LI h₃ a₁ [n % 64] := LI.set ⟨_, hl₂, .cons _ t₁ .nil⟩ F₂.ns S₃
  refine codeAny_whileLoop (I := fun j s' => ∃ h' tk m num tn o0 os a, s' = St s h' tk ∧ Fr hp L h' m ∧ m "number" = some (.int num tn) ∧ m "octets" = some (.ref a) ∧
    LI h' a (o0 :: os) ∧ 0 ≤ num ∧ num < 2 ^ 24 ∧ num.toNat = j ∧ o0 % 64 = num % 64 ∧ 0 ≤ o0 ∧ o0 < 128 ∧ Parses num o0 os n ∧ 63 * (os.length : Int) + num ≤ n) ?_ n.toNat
    ⟨_, _, _, n, _, n % 64, [], _, rfl, F₃, rfl, rfl, hl, h0, hn, rfl, by omega, by omega, by omega, .done (by omega) (by omega) (by omega), by simp⟩
  rintro j _ ⟨h', tk, m, num, tn, o0, os, a, rfl, F', hm1, hm2, hL, hn0, hn1, hj, ho1, ho2, ho3, hP, hlen⟩
  refine wpAny_isTrue_Compare1 (nmL F'.ns hm1 (cInt fun _ _ => oGt (wpAny_truthy_bool ?_)))
  split
  · rename_i hgt
    have hgt : num > 63 := of_decide_eq_true hgt
    refine wpAny_execs_cons (wpAny_Assign_Name (wpAny_BinOp (nmL F'.ns hm1 (cInt fun _ _ => oDiv (by decide) (by decide) (by omega) (by omega) fun t₄ _ => stL F' (fun h₄ tk₄ F₄ S₄ => ?_)))))
    refine wpAny_execs_cons (wpAny_Assign_Name (wpAny_BinOp (dList (wpAny_items_cons (wpAny_BinOp (cInt fun _ _ => wpAny_BinOp (nmL F₄.ns upd_self (cInt fun _ _ => oMod (by decide) fun _ _ => oAdd fun t₅ _ => wpAny_items_nil ⟨small, _, _, rfl, fun a₅ h₅ E₅ hl₅ => ?_⟩))))))))
    refine nmL (frx F₄ E₅).ns (upd_ne hm2 (by decide)) (addLI (ns := [64 + num / 64 % 64]) ⟨_, hl₅, .cons _ t₅ .nil⟩ ((hL.set F'.ns S₄).ext E₅) (fun a₆ h₆ E₆ hl₆ => ?_) ?_)
    · have F₆ := frx (frx F₄ E₅) E₆
      refine stL F₆ (fun h₇ tk₇ F₇ S₇ => wpAny_execs_nil ?_)
      refine ⟨(num / 64).toNat, by omega, h₇, _, _, num / 64, _, 64 + num / 64 % 64, o0 :: os, a₆, rfl, F₇, upd_ne upd_self (by decide), upd_self, hl₆.set F₆.ns S₇, by omega, by omega, rfl, by omega, by omega, by omega, ?_, ?_⟩
      · refine .more (by omega) (by omega) (by omega) (by omega) (by omega) ?_
        have : num / 64 * 64 + o0 % 64 = num := by omega
        rw [this]; exact hP
      · simp only [List.length_cons]; omega
    · simp only [List.length_cons, List.length_nil, sizeLine]; omega
  · rename_i hgt
    have hgt : ¬ num > 63 := fun x => hgt (decide_eq_true x)
    refine wpAny_execs_nil ?_
    refine wpAny_execs_cons (wpAny_Return_some (wpAny_BinOp (dList (wpAny_items_cons (wpAny_BinOp (cInt fun _ _ => Subscript_ (nmL F'.ns hm2 (cInt fun _ _ => itemLI hL (by decide) (by decide) rfl fun _ => oAdd fun t₄ _ => wpAny_items_nil ⟨small, _, _, rfl, fun a₄ h₄ E₄ hl₄ => ?_⟩))))))))
    obtain ⟨vs, hL', hi⟩ := hL.ext E₄
    cases hi with
    | cons _ t' hi =>
    rename_i vs
    refine sliceL (nmL (frx F' E₄).ns hm2 (wpAny_evalPart_some (cInt fun _ _ => wpAny_evalPart_none ⟨_, _, _, _, _, _, rfl, rfl, hL', ?_, .int _ _, .none, fun a₅ h₅ E₅ hl₅ => ?_⟩)))
    · simp only [List.size_toArray, List.length_cons, hi.length, sizeLine]; omega
    · have e : slicePick (Value.int o0 t' :: vs).toArray (some 1) none none = vs.toArray := slicePick_from _ 1 (by simp)
      rw [e] at hl₅
      refine addLI (ns := [128 + o0]) (ms := os) ⟨_, list_ext hl₄ E₅, .cons _ t₄ .nil⟩ ⟨_, hl₅, hi⟩ (fun a₆ h₆ E₆ hl₆ => ?_) ?_
      · refine h _ _ _ _ (fun b o e => E₆ _ _ (E₅ _ _ (E₄ _ _ (F'.keep _ _ e)))) hl₆ ⟨128 + o0, os, rfl, ?_, by omega⟩
        have : (128 + o0) % 64 = num := by omega
        rw [this]
        exact hP.lift ho3
      · simp only [List.length_cons, List.length_nil, sizeLine]; omega
end Mine

end TxtL1

section TxtL2
open PySem PySem.W PyProof.Rows PySem.Calls
namespace Mine

theorem and64 {b : Int} (h0 : 0 ≤ b) (h1 : b < 256) : Builtin.bitAnd b 64 = if 64 ≤ b % 128 then 64 else 0 := by
  obtain ⟨n, rfl⟩ := Int.eq_ofNat_of_zero_le h0
  have hn : n < 256 := by omega
  have : ∀ n : Fin 256, Builtin.bitAnd ((n : Nat) : Int) 64 = if 64 ≤ ((n : Nat) : Int) % 128 then 64 else 0 := by decide +kernel
  exact this ⟨n, hn⟩
theorem or64 {v d : Int} (h0 : 0 ≤ v) (h1 : 0 ≤ d) (h2 : d < 64) : Builtin.bitOr (v * 64) d = v * 64 + d := by
  obtain ⟨n, rfl⟩ := Int.eq_ofNat_of_zero_le h0
  obtain ⟨k, rfl⟩ := Int.eq_ofNat_of_zero_le h1
  have hk : k < 2 ^ 6 := by omega
  have e : n <<< 6 ||| k = n <<< 6 + k := (Nat.shiftLeft_add_eq_or_of_lt hk n).symm
  have e2 : n <<< 6 = n * 64 := by rw [Nat.shiftLeft_eq]
  rw [e2] at e
  have hb : ∀ a c : Nat, Builtin.bitOr (a : Int) (c : Int) = ((a ||| c : Nat) : Int) := by
    intro a c
    have n1 : ¬ (0 ≤ Builtin.bitNot (a : Int)) := by unfold Builtin.bitNot; omega
    have n2 : ¬ (0 ≤ Builtin.bitNot (c : Int)) := by unfold Builtin.bitNot; omega
    have d1 : Builtin.bitNot (Builtin.bitNot (a : Int)) = a := by unfold Builtin.bitNot; omega
    have d2 : Builtin.bitNot (Builtin.bitNot (c : Int)) = c := by unfold Builtin.bitNot; omega
    unfold Builtin.bitOr Builtin.bitAnd
    simp only [n1, n2, decide_false, d1, d2, Int.toNat_natCast]
    unfold Builtin.bitNot; omega
  have := hb (n * 64) k
  rw [e] at this
  push_cast at this
  exact this

section
variable {prog : Program} {w : World} {A : Around} {E : Value → Shared → Prop} {s : Shared} {hp : Heap} {tk : Nat} {Q : Value → Shared → Prop} {a b : Int} {t u : Tok}
theorem oAnd (h : ∀ t tk', Q (.int (Builtin.bitAnd a b) t) (St s hp tk')) : wpAny (model prog w) A (binaryOp .BitAnd (.int a t) (.int b u)) Q E (St s hp tk) := and_int (h _ _)
theorem oIor (h : ∀ t tk', Q (.int (Builtin.bitOr a b) t) (St s hp tk')) : wpAny (model prog w) A (inplaceOp .BitOr (.int a t) (.int b u)) Q E (St s hp tk) := ior_int (h _ _)
theorem oIshl6 (h0 : 0 ≤ a) (h1 : a < 2 ^ 40) (h : ∀ t tk', Q (.int (a * 64) t) (St s hp tk')) : wpAny (model prog w) A (inplaceOp .LShift (.int a t) (.int 6 u)) Q E (St s hp tk) :=
  ilshift_int_small (by decide) (by decide) (by omega) (h _ _)
end

section
variable {prog : Program} {w : World} {A : Around} {E : Value → Shared → Prop} {s : Shared} {hp : Heap} {tk : Nat} {Q : Value → Shared → Prop} {it l : Addr} {i : Nat} {items : Array Value} {x : Value}
theorem next_item (hit : hp.IsListIter it l i) (hl : hp.IsList l items) (hx : items[i]? = some x)
    (hQ : ∀ h', h'.IsListIter it l (i + 1) → Heap.SameBut it hp h' → Q x (St s h' tk)) :
    wpAny (model prog w) A (call (.builtin "next") [.ref it]) Q E (St s hp tk) := by
  have hT := Heap.IsListIter.typeIs (s := St s hp tk) hit
  obtain ⟨o, ho, hc, hd⟩ := id hit
  obtain ⟨ol, hol, _, nl, hdl⟩ := hl
  refine call_function_entry (by decide +kernel) (by decide +kernel) kdk_entry_next (kdk_args_next _) ?_
  unfold Builtin.«next»
  refine wpAny_bind (m := someArgs "next" 1 2 _) (wpAny_of_eq (a := [Value.ref it]) (by first | rfl | kernel_rfl!) ?_)
  dsimp only
  refine wpAny_bind (wpAny_specialOf (name := Str.ofString "__next__") hT slot_listiter_next.lookup ?_)
  refine wpAny_ite_split (fun hab => absurd hab (by decide)) (fun _ => ?_)
  refine wpAny_bind (wpAny_callSpecial?_slot (name := Str.ofString "__next__") hT slot_listiter_next
    (wpAny_call_entry slot_listiter_next hT entry_listiter_next ?_ (args_listiter_next _)))
  show wpAny _ _ (field (.ref it) 0 >>= _) _ _ _
  refine wpAny_bind (wpAny_field ho hd (x := .ref l) rfl ?_)
  show wpAny _ _ (if (Value.ref l == Value.none) = true then _ else _) _ _ _
  rw [if_neg (show ¬ ((Value.ref l == Value.none) = true) from Bool.false_ne_true)]
  show wpAny _ _ (field (.ref it) 1 >>= _) _ _ _
  refine wpAny_bind (wpAny_field ho hd (x := .int i 0) rfl ?_)
  show wpAny _ _ (seqItems? (.ref l) >>= _) _ _ _
  refine wpAny_bind (wpAny_seqItems hol hdl ?_)
  simp only [Int.toNat_natCast, hx]
  refine wpAny_bind (wpAny_setField ho hd (by simp) (wpAny_pure ⟨x, rfl, wpAny_pure ⟨x, rfl, hQ _ ?_ (Heap.SameBut.update ..)⟩⟩))
  exact ⟨_, Heap.get?_update_self _ ho (Obj.isFreed_of_fields (Obj.data_mapFields hd _)), (Obj.cls_mapFields ..).trans hc, by
    rw [Obj.data_mapFields hd]; simp [rawInt]⟩
theorem next_end (hh : A.handled = none) (hit : hp.IsListIter it l i) (hl : hp.IsList l items) (hx : items[i]? = none)
    (hE : ∀ h₁ h' e, Heap.SameBut it hp h₁ → Heap.NewExc h₁ h' e "StopIteration" → E (.ref e) (St s h' tk)) :
    wpAny (model prog w) A (call (.builtin "next") [.ref it]) Q E (St s hp tk) := by
  have hT := Heap.IsListIter.typeIs (s := St s hp tk) hit
  obtain ⟨o, ho, hc, hd⟩ := id hit
  obtain ⟨ol, hol, _, nl, hdl⟩ := hl
  refine call_function_entry (by decide +kernel) (by decide +kernel) kdk_entry_next (kdk_args_next _) ?_
  unfold Builtin.«next»
  refine wpAny_bind (m := someArgs "next" 1 2 _) (wpAny_of_eq (a := [Value.ref it]) (by first | rfl | kernel_rfl!) ?_)
  dsimp only
  refine wpAny_bind (wpAny_specialOf (name := Str.ofString "__next__") hT slot_listiter_next.lookup ?_)
  refine wpAny_ite_split (fun hab => absurd hab (by decide)) (fun _ => ?_)
  refine wpAny_bind (wpAny_callSpecial?_slot (name := Str.ofString "__next__") hT slot_listiter_next
    (wpAny_call_entry slot_listiter_next hT entry_listiter_next ?_ (args_listiter_next _)))
  show wpAny _ _ (field (.ref it) 0 >>= _) _ _ _
  refine wpAny_bind (wpAny_field ho hd (x := .ref l) rfl ?_)
  show wpAny _ _ (if (Value.ref l == Value.none) = true then _ else _) _ _ _
  rw [if_neg (show ¬ ((Value.ref l == Value.none) = true) from Bool.false_ne_true)]
  show wpAny _ _ (field (.ref it) 1 >>= _) _ _ _
  refine wpAny_bind (wpAny_field ho hd (x := .int i 0) rfl ?_)
  show wpAny _ _ (seqItems? (.ref l) >>= _) _ _ _
  refine wpAny_bind (wpAny_seqItems hol hdl ?_)
  simp only [Int.toNat_natCast, hx]
  refine wpAny_bind (wpAny_rule (wpAny_bind (wpAny_setField ho hd (by simp) ?_)))
  show wpAny _ _ (newExc (.type "StopIteration") [] >>= _) _ _ _
  refine wpAny_bind ?_
  simp only [newExc, newTuple]
  refine wpAny_bind (wpAny_newObj_type ?_ (by size_fits))
  refine wpAny_bind (m := firstArgMember _ _) (wpAny_of_eq (a := Value.none) (by first | rfl | (simp only [firstArgMember]; rfl)) ?_)
  refine wpAny_newObj_type ?_ (by size_fits)
  refine wpAny_raiseNew_none hh ?_
  refine hE _ _ _ (Heap.SameBut.update ..) ⟨fun b o hb => Heap.get?_push_of_some _ (Heap.get?_push_of_some _ hb), Heap.get?_none_of_le (by simp), ?_⟩
  exact ⟨_, _, Heap.get?_push_size _ rfl, rfl, rfl⟩
end
end Mine

end TxtL2

section TxtL3
open PySem PySem.W PyProof.Rows PySem.Calls
open PyProof.Rows.TI (gone gone_get gone_none gone_some)
namespace Mine

theorem gone_size (h : Heap) : ∀ l : List Addr, (gone h l).objs.size = h.objs.size
  | [] => rfl
  | a :: l => by unfold gone; rw [Heap.size_after_update, gone_size h l]
theorem gone_ext {h : Heap} {l : List Addr} : Ext (gone h l) h := fun _ _ e => (gone_some e).2
theorem frGone {h₀ h : Heap} {L : Addr} {m : Str → Option Value} (l : List Addr) (F : Fr h₀ L h m) : Fr (gone h₀ l) L h m :=
  ⟨F.ns, fun b o e => F.keep _ _ (gone_ext _ _ e), by rw [gone_size]; exact F.above⟩
theorem iter_not_ns {h : Heap} {L it l : Addr} {i : Nat} {m : Str → Option Value} (hn : h.Ns L m) (hi : h.IsListIter it l i) : it ≠ L := by
  rintro rfl
  obtain ⟨o, e1, _, e2⟩ := hi
  obtain ⟨o', es, ep, e3, e4, _⟩ := hn
  rw [e1] at e3; cases e3
  rw [e2] at e4; cases e4
theorem iter_not_list {h : Heap} {it l a : Addr} {i : Nat} {xs : Array Value} (hi : h.IsListIter it l i) (hl : h.IsList a xs) : a ≠ it := by
  rintro rfl
  obtain ⟨o, e1, _, e2⟩ := hi
  obtain ⟨o', e3, _, n, e4⟩ := hl
  rw [e1] at e3; cases e3
  rw [e2] at e4; cases e4
theorem iter_set {h h' : Heap} {L it l : Addr} {i : Nat} {m : Str → Option Value} (hi : h.IsListIter it l i) (hn : h.Ns L m) (hs : Heap.SameBut L h h') : h'.IsListIter it l i := by
  obtain ⟨o, e1, r⟩ := id hi
  exact ⟨o, (hs.2 it (iter_not_ns hn hi)).trans e1, r⟩
theorem ns_but {h h' : Heap} {L it : Addr} {m : Str → Option Value} (hn : h.Ns L m) (hs : Heap.SameBut it h h') (hne : L ≠ it) : h'.Ns L m := by
  obtain ⟨o, es, ep, e3, r⟩ := hn
  exact ⟨o, es, ep, (hs.2 L hne).trans e3, r⟩
theorem frBut {h₀ h h' : Heap} {L it : Addr} {m : Str → Option Value} (F : Fr h₀ L h m) (hs : Heap.SameBut it h h') (hne : L ≠ it) (h0 : h₀.get? it = none) : Fr h₀ L h' m :=
  ⟨ns_but F.ns hs hne, fun b o e => (hs.2 b (by rintro rfl; rw [h0] at e; cases e)).trans (F.keep b o e), F.above⟩

section
variable {prog : Program} {w : World} {A : Around} {E : Value → Shared → Prop} {s : Shared} {hp g : Heap} {tk : Nat} {mg mb : Str → Option Value} {k : Nat} {Q : Value → Shared → Prop} {it l : Addr} {i : Nat} {octs : List Int}

set_option maxHeartbeats 1000000 in
theorem parse_ok (G : Gr w mg mb g) (hg : Ext g hp) (hgi : g.get? it = none) (c : Calm k A) (hk : k ≤ 20)
    (hit : hp.IsListIter it l i) (hl : LI hp l octs) {ys rest : List Int} {n : Int} (hd : octs.drop i = ys ++ rest) (he : Enc ys n) 
    (h : ∀ t h' tk, (∀ b o, b ≠ it → hp.get? b = some o → h'.get? b = some o) → h'.IsListIter it l (i + ys.length) → Q (.int n t) (St s h' tk)) :
    wpAny (model prog w) A (call (.ref 41) [.ref it]) Q E (St s hp tk) := by
  obtain ⟨vs, hL, hi⟩ := hl
  have hlit : l ≠ it := iter_not_list hit hL
  obtain ⟨b₀, r₀, rfl, hP, -⟩ := he
  refine callFn (binds := [("iterator", .ref it)]) (G.X.keeps hg) (G.lim.keeps hg) c.room rfl rfl rfl (locs rfl) (fun L h₁ tk₁ F _ => ?_)
  have hit₁ : h₁.IsListIter it l i := let ⟨o, e, r⟩ := hit; ⟨o, F.keep _ _ e, r⟩
  have F₁ := frGone [it] F
  have hgo : (gone hp [it]).get? it = none := gone_none (List.mem_singleton.mpr rfl)
  have hLg : (gone hp [it]).IsList l vs.toArray := let ⟨o, e, r⟩ := hL; ⟨o, (gone_get (by simpa using hlit)).trans e, r⟩
  have hgg : Ext g (gone hp [it]) := fun b o e => (gone_get (by simp only [List.mem_singleton]; rintro rfl; rw [hgi] at e; cases e)).trans (hg _ _ e)
  have geti : ∀ (j : Nat) (x : Int) (r : List Int), octs.drop j = x :: r → ∃ t, vs[j]? = some (.int x t) := fun j x r e => ints_get hi (by
    have : (octs.drop j)[0]? = some x := by rw [e]; rfl
    rw [List.getElem?_drop] at this; simpa using this)
  -- one look at the iterator
  have nx : ∀ {h' : Heap} {tk' : Nat} {m : Str → Option Value} {j : Nat} {x : Int} {r : List Int} {A' : Around} {Q' : Value → Shared → Prop} {E' : Value → Shared → Prop} {pos np ap : Pos} {env : Env},
      Fr (gone hp [it]) env.locals h' m → h'.IsListIter it l j → octs.drop j = x :: r → m "iterator" = some (.ref it) → env.globals = mainGlobals → env.builtins = builtinsNs → env.scope.kind = .function →
      env.kindOf "next" = some .globalImplicit → env.kindOf "iterator" = some .local →
      (∀ t h'', Fr (gone hp [it]) env.locals h'' m → h''.IsListIter it l (j + 1) → Q' (.int x t) (St s h'' tk')) →
      wpAny (model prog w) A' (eval (.Call (.Name "next" np) [.Name "iterator" ap] [] pos) env) Q' E' (St s h' tk') := by
    intro h' tk' m j x r A' Q' E' pos np ap env F' hit' hdr hm e1 e2 e3 e4 e5 hQ
    obtain ⟨t, ht⟩ := geti j x r hdr
    refine wpAny_Call_NameR (nmB (G.keeps (Ext.trans' hgg F'.keep)) rfl boot_next (by decide) (callWith_builtin1 (args_cons (nmL F'.ns hm (args_nil ?_) e3 e5))) e1 e2 e3 e4)
    refine next_item hit' (list_ext hLg F'.keep) (by simpa using ht) (fun h'' hi'' hs'' => ?_)
    exact hQ t h'' (frBut F' hs'' (iter_not_ns F'.ns hit').symm hgo) hi''
  refine wpAny_execs_cons (wpAny_Assign_Name (nx F₁ hit₁ hd rfl rfl rfl rfl rfl rfl fun t₂ h₂ F₂ hit₂ => stL F₂ fun h₃ tk₃ F₃ S₃ => ?_))
  have hit₃ := iter_set hit₂ F₂.ns S₃
  refine wpAny_execs_cons (wpAny_Assign_Name (wpAny_BinOp (nmL F₃.ns upd_self (cInt fun _ _ => oAnd fun _ _ => stL F₃ fun h₄ tk₄ F₄ S₄ => ?_))))
  have hit₄ := iter_set hit₃ F₃.ns S₄
  refine wpAny_execs_cons (wpAny_While ?_)
  refine codeAny_whileLoop (I := fun j s' => ∃ h' tk m b v r tb tv i', s' = St s h' tk ∧ Fr (gone hp [it]) L h' m ∧ m "iterator" = some (.ref it) ∧ m "b" = some (.int b tb) ∧ m "val" = some (.int v tv) ∧
    h'.IsListIter it l i' ∧ Parses v b r n ∧ octs.drop i' = r ++ rest ∧ i' + r.length = i + (r₀.length + 1) ∧ r.length = j) ?_ r₀.length
    ⟨_, _, _, b₀, b₀ % 64, r₀, _, _, i + 1, rfl, F₄, rfl, rfl, upd_self.trans (by rw [bitAnd_m6]), hit₄, hP, by rw [← List.drop_drop, hd]; rfl, by omega, rfl⟩
  rintro j _ ⟨h', tk', m, b, v, r, tb, tv, i', rfl, F', hm1, hm2, hm3, hit', hP', hdr, hlen, hj⟩
  refine wpAny_isTrue_value (wpAny_BinOp (nmL F'.ns hm2 (cInt fun _ _ => oAnd fun _ _ => P.truthy_int ?_)))
  cases hP' with
  | done hb0 hb1 hb2 =>
    rw [and64 hb0 hb1, if_neg (show ¬ (64 ≤ b % 128) by omega)]
    refine wpAny_execs_nil (wpAny_execs_cons (wpAny_Return_some (nmL F'.ns hm3 ?_)))
    refine h _ _ _ (fun b' o hb' e => F'.keep _ _ ((gone_get (by simpa using hb')).trans e)) ?_
    have : i' = i + (b₀ :: r₀).length := by simpa using hlen
    rw [← this]; exact hit'
  | @more _ _ c' _ r' hb0 hb1 hb2 hv0 hv1 hP' =>
    rw [and64 hb0 hb1, if_pos hb2]
    refine wpAny_execs_cons (wpAny_AugAssign_Name (wpAny_loadName_local rfl rfl F'.ns hm3 (cInt fun _ _ => oIshl6 hv0 hv1 fun _ _ => stL F' fun h₅ tk₅ F₅ S₅ => ?_)))
    refine wpAny_execs_cons (wpAny_Assign_Name (nx F₅ (iter_set hit' F'.ns S₅) hdr (upd_ne hm1 (by decide)) rfl rfl rfl rfl rfl fun t₆ h₆ F₆ hit₆ => stL F₆ fun h₇ tk₇ F₇ S₇ => ?_))
    refine wpAny_execs_cons (wpAny_AugAssign_Name (wpAny_loadName_local rfl rfl F₇.ns (upd_ne upd_self (by decide)) (wpAny_BinOp (nmL F₇.ns upd_self (cInt fun _ _ => oAnd fun _ _ => oIor fun t₈ _ => stL F₇ fun h₈ tk₈ F₈ S₈ => ?_)))))
    refine wpAny_execs_nil ?_
    refine ⟨r'.length, by rw [← hj]; simp, h₈, _, _, c', v * 64 + c' % 64, r', _, t₈, i' + 1, rfl, F₈, upd_ne (upd_ne (upd_ne hm1 (by decide)) (by decide)) (by decide), upd_ne upd_self (by decide), upd_self.trans ?_, iter_set (iter_set hit₆ F₆.ns S₇) F₇.ns S₈, hP', ?_, ?_, rfl⟩
    · rw [bitAnd_m6, or64 hv0 (by omega) (by omega)]
    · rw [← List.drop_drop, hdr]; rfl
    · simp only [List.length_cons] at hlen; omega
end
end Mine

end TxtL3

section TxtL4
open PySem PySem.W PyProof.Rows PySem.Calls
open PyProof.Rows.TI (gone gone_get gone_none gone_some)
namespace Mine

/-- an exception on its way, as far as what caught it looks -/
structure Fly (base : Heap) (outer : List Env) (e : Addr) (cls : String) (a0 : Value) (h : Heap) : Prop where
  stays : base.StaysIn h
  new : base.get? e = none
  frames : h.FunFrames base outer
  traced : h.TracedW base e (.type cls) a0

section
variable {prog : Program} {w : World} {A : Around} {E : Value → Shared → Prop} {s : Shared} {hp g base : Heap} {tk : Nat} {mg mb : Str → Option Value} {k : Nat} {Q : Value → Shared → Prop} {it l : Addr} {i : Nat} {octs : List Int} {outer : List Env}

set_option maxHeartbeats 1000000 in
theorem parse_end (G : Gr w mg mb g) (hg : Ext g hp) (c : Calm k A) (hk : k ≤ 20)
    (hit : hp.IsListIter it l i) (hl : LI hp l octs) (hd : octs.length ≤ i)
    (hfr : A.frames = some outer) (hb : base.StaysIn hp) (hbi : base.get? it = none) (hff : hp.FunFrames base outer)
    (h : ∀ e a0 h' tk, Fly base outer e "StopIteration" a0 h' → hp.UpToSlots h' → E (.ref e) (St s h' tk)) :
    wpAny (model prog w) A (call (.ref 41) [.ref it]) Q E (St s hp tk) := by
  obtain ⟨vs, hL, hi⟩ := hl
  refine callFn (binds := [("iterator", .ref it)]) (G.X.keeps hg) (G.lim.keeps hg) c.room rfl rfl rfl (locs rfl) (fun L h₁ tk₁ F hLs => ?_)
  have hit₁ : h₁.IsListIter it l i := let ⟨o, e, r⟩ := hit; ⟨o, F.keep _ _ e, r⟩
  have hx : vs.toArray[i]? = none := by
    rw [List.getElem?_toArray, List.getElem?_eq_none_iff, hi.length]; exact hd
  refine wpAny_execs_cons (wpAny_Assign_Name (wpAny_Call_NameR (nmB (G.keeps (Ext.trans' hg F.keep)) rfl boot_next (by decide) (callWith_builtin1 (args_cons (nmL F.ns rfl (args_nil ?_)))))))
  refine next_end (c.deeper _).hh hit₁ (list_ext hL F.keep) hx (fun h₂ h₃ e S₂ hn => ?_)
  have hLit : L ≠ it := (iter_not_ns F.ns hit₁).symm
  have k3 : ∀ b o, b ≠ it → hp.get? b = some o → h₃.get? b = some o := fun b o hne e' => hn.keeps _ _ ((S₂.2 b hne).trans (F.keep _ _ e'))
  have nofield : ∀ b o, hp.get? b = some o → (∀ vs, o.data ≠ .fields vs) → b ≠ it := by
    rintro b o e1 e2 rfl
    obtain ⟨o', e3, _, e4⟩ := hit
    rw [e1] at e3; cases e3
    exact e2 _ e4
  have bne : ∀ b o, base.get? b = some o → b ≠ it := by rintro b o e1 rfl; rw [hbi] at e1; cases e1
  have hbe : base.get? e = none := by
    cases hq : base.get? e with
    | none => rfl
    | some o =>
      have := (S₂.2 e (bne _ _ hq)).trans (F.keep _ _ (hb _ _ hq))
      rw [hn.new] at this; cases this
  have hbL : base.get? L = none := by
    cases hq : base.get? L with
    | none => rfl
    | some o => exact absurd (Heap.lt_size (hb _ _ hq)) (by rw [hLs]; exact Nat.lt_irrefl _)
  obtain ⟨ob, t, he, hc, hdat⟩ := hn.there
  refine wpAny_leaving_firstW (base := base) (outer := outer) (L := L) (vs := #[t, .none, .none, .none, .bool false, .none]) (a0 := t) (Around.frames_deeper hfr) ?_ rfl he ?_ hbe hdat rfl rfl (fun h' hL' => ?_)
  · refine Heap.FunFrames.cons (by intro x; cases x) rfl (ns_but F.ns S₂ hLit |>.keeps hn.keeps) hbL (Heap.FunFrames.of_keeps (fun b o e1 e2 => ⟨o, k3 b o (nofield _ _ e1 e2) e1, rfl⟩) hff)
  · exact fun b o e1 => k3 b o (bne _ _ e1) (hb _ _ e1)
  · obtain ⟨k1, ⟨_, _, k2⟩, k4, k5⟩ := hL'
    rw [hc] at k4
    exact h e t h' _ ⟨k1, hbe, k2, k4⟩ fun b o e1 e2 => k5 b o (k3 b o (nofield _ _ e1 e2) e1) e2
end
end Mine

end TxtL4

section TxtL5
open PySem PySem.W PyProof.Rows PySem.Calls
open PyProof.Rows.TI (gone gone_get gone_none gone_some)
namespace Mine

theorem extBut_new {h h' : Heap} (x : Heap.ExtBut h.objs.size h h') : Ext h h' := fun b o e => x b o (Nat.ne_of_lt (Heap.lt_size e)) e
theorem get_size_none (h : Heap) : h.get? h.objs.size = none := Heap.get?_none_of_le (Nat.le_refl _)

section
variable {prog : Program} {w : World} {A : Around} {E : Value → Shared → Prop} {s : Shared} {hp base : Heap} {tk : Nat} {Q : Value → Shared → Prop} {l : Addr} {items : Array Value}
theorem iter_list (hl : hp.IsList l items) (h : ∀ it h', Ext hp h' → h'.IsListIter it l 0 → hp.get? it = none → Q (.ref it) (St s h' tk)) :
    wpAny (model prog w) A (call (.builtin "iter") [.ref l]) Q E (St s hp tk) := by
  refine call_function_entry (by decide +kernel) (by decide +kernel) kdk_entry_iter (kdk_args_iter _) ?_
  unfold Builtin.«iter»
  refine wpAny_bind (m := someArgs "iter" 1 2 _) (wpAny_of_eq (a := [Value.ref l]) (by first | rfl | kernel_rfl!) ?_)
  dsimp only
  refine wpAny_bind (wpAny_pyIter_list hl (wpAny_pure ⟨_, rfl, h _ _ (ext_push _) ?_ (get_size_none _)⟩))
  exact ⟨_, Heap.get?_push_size _ rfl, rfl, rfl⟩

/-- where the exception is let fly again in its own frame -/
theorem flight_here {M : Model} {e L : Addr} {l : List Env} {cls a0 fl : Value} {Q : Unit → Shared → Prop} (hkb : base.StaysIn hp) (hl : hp.FunFrames base l) (ht : hp.TracedAtW base e cls a0 fl)
    (h : ∀ h', base.StaysIn h' → h'.FunFrames base l → h'.TracedAtW base e cls a0 (rawInt L) → hp.UpToSlots h' → Q () (St s h' tk)) :
    wpAny M A (do
      if (← field (.ref e) 1) == .none then unsupported "frame.own-activation:exception-without-traceback"
      setFlight (.ref e) (some L)) Q E (St s hp tk) := by
  obtain ⟨oe, vs, T, oT, ts, he, hc, hd, h1, hbT, hTe, hT, hdT, h3⟩ := ht
  have hsz : 3 < ts.size := (Array.getElem?_eq_some_iff.mp h3).1
  refine wpAny_bind (wpAny_field he hd h1 ?_)
  rw [if_neg (show ¬ ((Value.ref T == Value.none) = true) from Bool.false_ne_true)]
  unfold setFlight
  refine wpAny_bind (wpAny_field he hd h1 ?_)
  rw [if_pos (show ((Value.ref T != Value.none) = true) from rfl)]
  refine wpAny_setField hT hdT hsz ?_
  have hof : ∀ b o, b ≠ T → hp.get? b = some o → (hp.update T (Obj.mapFields (·.setIfInBounds 3 (rawInt L)))).get? b = some o := fun b o hb e => (Heap.get?_update_other _ _ hb.symm).trans e
  refine h _ (fun b o e1 => hof b o (by rintro rfl; rw [hbT] at e1; cases e1) (hkb _ _ e1)) (Heap.FunFrames.of_keeps (fun b o e1 e2 => ⟨o, hof b o (by rintro rfl; rw [hT] at e1; cases e1; exact e2 _ hdT) e1, rfl⟩) hl) ?_
    (fun b o e1 e2 => ⟨o.slots, hof b o (by rintro rfl; rw [hT] at e1; cases e1; exact e2 _ hdT) e1⟩)
  refine ⟨oe, vs, T, _, _, hof e oe hTe.symm he, hc, hd, h1, hbT, hTe, Heap.get?_update_self _ hT (Obj.isFreed_of_fields (Obj.data_mapFields hdT _)), Obj.data_mapFields hdT _, ?_⟩
  simp [hsz]

theorem fun_set {h h' base : Heap} {L : Addr} {m : Str → Option Value} {l : List Env} (hl : h.FunFrames base l) (x : h.UpToSlots h') : h'.FunFrames base l :=
  Heap.FunFrames.of_keeps (fun b o e1 e2 => let ⟨sl, e⟩ := x b o e1 e2; ⟨_, e, rfl⟩) hl
theorem list_slots {h h' : Heap} {a : Addr} {xs : Array Value} (hl : h.IsList a xs) (x : h.UpToSlots h') : h'.IsList a xs := by
  obtain ⟨o, e1, e2, n, e3⟩ := hl
  obtain ⟨sl, e⟩ := x a o e1 (fun vs q => by rw [e3] at q; cases q)
  exact ⟨_, e, e2, n, e3⟩
theorem LI.slots {h h' : Heap} {a : Addr} {ns : List Int} (hl : LI h a ns) (x : h.UpToSlots h') : LI h' a ns :=
  let ⟨vs, e, i⟩ := hl; ⟨vs, list_slots e x, i⟩

theorem plain_set {h h' : Heap} {L a : Addr} {m : Str → Option Value} {xs : Array Value} (hl : PlainL h a xs) (hn : h.Ns L m) (hs : Heap.SameBut L h h') : PlainL h' a xs := by
  obtain ⟨o, n, e1, r⟩ := id hl
  exact ⟨o, n, (hs.2 a (ns_not_list hn hl.isList)).trans e1, r⟩
/-- a list display, all that is known of it -/
theorem dListP {M : Model} {env : Env} {elts : List Expr} {pos : Pos} (h : wpAny M A (spliced (backTo pos (starEach elts env))) (fun vs s₁ => vs.length ≤ sizeLine ∧ ∃ h₁ tk₁, s₁ = St s h₁ tk₁ ∧ ∀ a h', Ext h₁ h' → PlainL h' a vs.toArray → h₁.get? a = none → Q (.ref a) (St s h' tk₁)) E (St s hp tk)) :
    wpAny M A (eval (.List elts pos) env) Q E (St s hp tk) :=
  wpAny_List (wpAny_mono h (fun vs s₁ ⟨a, h₁, tk₁, e, b⟩ => ⟨a, by subst e; exact b _ _ (ext_push _) ⟨_, 0, Heap.get?_push_size _ rfl, rfl, rfl, rfl⟩ (get_size_none _)⟩) fun _ _ x => x)

/-- the numbers, each by its octets -/
inductive Encs : List Int → List Int → Prop
  | nil : Encs [] []
  | cons {ys octs : List Int} {n : Int} {ns : List Int} : Enc ys n → Encs octs ns → Encs (ys ++ octs) (n :: ns)

variable {mg mb : Str → Option Value} {k : Nat} {octs ns : List Int} {outer : List Env}
set_option maxHeartbeats 2000000 in
theorem lengths_call (G : Gr w mg mb base) (hb : base.StaysIn hp) (c : Calm k A) (hk : k ≤ 15)
    (hfr : A.frames = some outer) (hff : hp.FunFrames base outer) (hl : LI hp l octs) (he : Encs octs ns) (hns : ns.length ≤ 1000)
    (h : ∀ a h' tk, base.StaysIn h' → hp.UpToSlots h' → LI h' a ns → Q (.ref a) (St s h' tk)) :
    wpAny (model prog w) A (call (.ref 62) [.ref l]) Q E (St s hp tk) := by
  have G' := G.keeps hb
  refine callFn (binds := [("octets", .ref l)]) G'.X G'.lim c.room rfl rfl rfl (locs rfl) (fun L h₁ tk₁ F hLs => ?_)
  obtain ⟨vs, hL, hi⟩ := id hl
  refine wpAny_execs_cons (Assign_Tuple_swapped (names := ["walker", "lengths"]) ?_)
  refine wpAny_Tuple (args_cons (wpAny_Call_NameR (nmB (G'.keeps F.keep) rfl boot_iter (by decide) (callWith_builtin1 (args_cons (nmL F.ns rfl (args_nil (iter_list (list_ext hL F.keep) fun it h₂ E₂ hit₂ hno₂ => ?_))))))))
  have F₂ := frx F E₂
  refine args_cons (dListP (args_nil ⟨small, _, _, rfl, fun D h₃ E₃ hD₃ hno₃ => args_nil ⟨small, ?_⟩⟩))
  have F₃ := frx F₂ E₃
  have hit₃ : h₃.IsListIter it l 0 := let ⟨o, e, r⟩ := hit₂; ⟨o, E₃ _ _ e, r⟩
  refine unpackItems_tuple (items := #[.ref it, .ref D]) (c.deeper _).hh ⟨_, Heap.get?_push_size _ rfl, rfl, 0, rfl⟩ (fun h₄ E₄ => ?_)
  have E₃₄ : Ext h₃ h₄ := Ext.trans' (ext_push _) (extBut_new E₄)
  have F₄ := frx F₃ E₃₄
  have hit₄ : h₄.IsListIter it l 0 := let ⟨o, e, r⟩ := hit₃; ⟨o, E₃₄ _ _ e, r⟩
  refine wpAny_bind (wpAny_holding (bindName_ (stL F₄ fun h₅ tk₅ F₅ S₅ => ?_)))
  refine wpAny_bind (wpAny_holding (bindName_ (stL F₅ fun h₆ tk₆ F₆ S₆ => ?_)))
  refine wpAny_pure ?_
  refine wpAny_execs_cons (wpAny_Try_except (wpAny_execs_cons (wpAny_While ?_)))
  have hitno : hp.get? it = none := by
    cases hq : hp.get? it with
    | none => rfl
    | some o => rw [F.keep _ _ hq] at hno₂; cases hno₂
  have hDno : hp.get? D = none := by
    cases hq : hp.get? D with
    | none => rfl
    | some o => rw [F₂.keep _ _ hq] at hno₃; cases hno₃
  have hDL : PlainL h₆ D #[] := plain_set (plain_set (hD₃.keeps E₃₄) F₄.ns S₅) F₅.ns S₆
  have hit₆ : h₆.IsListIter it l 0 := iter_set (iter_set hit₄ F₄.ns S₅) F₅.ns S₆
  refine codeAny_whileLoop (I := fun j s' => ∃ h' tk' m done vd rest i, s' = St s h' tk' ∧ Fr hp L h' m ∧ m "walker" = some (.ref it) ∧ m "lengths" = some (.ref D) ∧
    h'.IsListIter it l i ∧ PlainL h' D vd.toArray ∧ IntsAre vd done ∧ Encs (octs.drop i) rest ∧ done ++ rest = ns ∧ rest.length = j) ?_ ns.length
    ⟨h₆, _, _, [], [], ns, 0, rfl, F₆, rfl, rfl, hit₆, hDL, .nil, he, rfl, rfl⟩
  rintro j _ ⟨h', tk', m, done, vd, rest, i, rfl, F', hm1, hm2, hit', hD', hvd, hen, hcat, hj⟩
  refine wpAny_isTrue_value (cBool (wpAny_truthy_bool ?_))
  refine wpAny_execs_cons (wpAny_Expr (wpAny_Call_append rfl rfl rfl rfl (nmL F'.ns hm2 ⟨D, vd.toArray, rfl, hD', ?_⟩)))
  refine wpAny_Call_NameR (nmG (G'.keeps F'.keep) rfl (callWith_K (G'.keeps F'.keep).X rfl (args_cons (nmL F'.ns hm1 (args_nil ⟨(G'.keeps F'.keep).X, ?_⟩)))))
  generalize hq : octs.drop i = q at hen
  cases hen with
  | @cons ys octs' n ns' hy hr =>
    refine parse_ok G' F'.keep hitno (c.deeper _) (by omega) hit' (hl.ext F'.keep) hq hy (fun t₇ h₇ tk₇ k₇ hit₇ => ?_)
    have hDit : D ≠ it := iter_not_list hit' hD'.isList
    have F₇ : Fr hp L h₇ m := ⟨let ⟨o, es, ep, e3, r⟩ := F'.ns; ⟨o, es, ep, k₇ _ _ (iter_not_ns F'.ns hit').symm e3, r⟩, fun b o e => k₇ b o (by rintro rfl; rw [hitno] at e; cases e) (F'.keep _ _ e), F'.above⟩
    have hD₇ : PlainL h₇ D vd.toArray := let ⟨o, n, e, r⟩ := hD'; ⟨o, n, k₇ _ _ hDit e, r⟩
    refine list_append_plainL hD₇ (fun h₈ hD₈ S₈ => ?_) ?_
    · refine wpAny_execs_nil ?_
      refine ⟨ns'.length, by rw [← hj]; simp, h₈, _, m, done ++ [n], vd ++ [.int n t₇], ns', i + ys.length, rfl, ?_, hm1, hm2, ?_, ?_, hvd.append (.cons _ _ .nil), ?_, ?_, rfl⟩
      · exact frBut F₇ S₈ (ns_not_list F₇.ns hD₇.isList).symm hDno
      · obtain ⟨o, e, r⟩ := hit₇
        exact ⟨o, (S₈.2 it hDit.symm).trans e, r⟩
      · simpa using hD₈
      · rw [← List.drop_drop, hq]; simpa using hr
      · rw [← hcat]; simp
    · rw [List.size_toArray, hvd.length]
      have : done.length ≤ ns.length := by rw [← hcat]; simp
      exact Nat.le_trans (Nat.le_trans this hns) (by decide)
  | nil =>
    have hend : octs.length ≤ i := List.drop_eq_nil_iff.mp hq
    have hbL : base.get? L = none := by
      cases hq : base.get? L with
      | none => rfl
      | some o => exact absurd (Heap.lt_size (hb _ _ hq)) (by rw [hLs]; exact Nat.lt_irrefl _)
    have hbit : base.get? it = none := by
      cases hq : base.get? it with
      | none => rfl
      | some o => rw [hb _ _ hq] at hitno; cases hitno
    refine parse_end (base := base) G' F'.keep (c.deeper _) (by omega) hit' (hl.ext F'.keep) hend (Around.frames_deeper hfr) (fun b o e => F'.keep _ _ (hb _ _ e)) hbit
      (Heap.FunFrames.cons (by intro x; cases x) rfl F'.ns hbL (Heap.FunFrames.of_keeps (fun b o e _ => ⟨o, F'.keep _ _ e, rfl⟩) hff)) (fun e a0 h₇ tk₇ fly up₇ => ?_)
    -- the loop's own mark
    refine wpAny_noteFrame_onW (Around.frames_deeper hfr) fly.frames rfl fly.traced fly.stays fly.new (fun h₈ hN => ?_)
    obtain ⟨n1, n2, n3, up₈⟩ := hN
    refine flight_here n1 n2 n3 (fun h₉ f1 f2 f3 up₉ => ?_)
    -- the try's
    refine wpAny_noteFrame_againW rfl f3 ?_
    refine wpAny_setFlight_noneW f1 f2 f3 (fun h₁₀ g1 g2 g3 g4 => ?_)
    have up : h'.UpToSlots h₁₀ := (up₇.trans (Heap.UpToSlots.trans up₈ up₉)).trans (fun b o e1 e2 => ⟨o.slots, g4 b o e1 e2⟩)
    have ty : Shared.TypeIs (St s h₁₀ tk₇) (.ref e) "StopIteration" := by
      obtain ⟨oe, vs', T, oT, ts, q1, q2, _⟩ := g3
      exact ⟨_, q1, q2.1⟩
    refine wpAny_handleBy_builtin (X := "StopIteration") (T := "StopIteration") (b := true) (isSubtype_of_subB (by decide +kernel)) (isSubtype_of_subB (by decide +kernel)) (isSubtype_of_subB (by decide +kernel))
      (nmB (G.keeps g1) rfl rfl (by decide) ⟨rfl, ty, ?_⟩)
    rw [if_pos rfl]
    refine wpAny_setFlight_noneW g1 g2 (Heap.TracedW.at g3) (fun h₁₁ k1 k2 k3 k4 => ?_)
    have up' : h'.UpToSlots h₁₁ := up.trans (fun b o e1 e2 => ⟨o.slots, k4 b o e1 e2⟩)
    refine wpAny_execs_cons (wpAny_Return_some (nmL (up'.ns F'.ns) hm2 ?_))
    refine h D h₁₁ tk₇ k1 ((Heap.UpToSlots.of_keeps F'.keep).trans up') ?_
    rw [List.append_nil] at hcat
    subst hcat
    exact LI.slots ⟨vd, hD'.isList, hvd⟩ up'
end
end Mine

end TxtL5

section TxtP1
open PySem PySem.W PyProof.Rows PySem.Calls
open PySem.StrLaws PySem.Builtin PySem.Builtin.Str
namespace Mine

abbrev nl : Str := ⟨#[10]⟩
theorem nl_is : (Str.ofString "\n") = nl := by decide +kernel

theorem at_nl (x : Str) (p i : Nat) (hp : p ≤ x.length) : At x nl p i ↔ (i < p ∧ x.cps.toList[i]? = some 10) := by
  have := subAt_one x 10 i
  unfold At
  have hl : (nl : Str).length = 1 := rfl
  constructor
  · rintro ⟨h1, h2⟩
    rw [hl] at h1
    exact ⟨by omega, this.mp ⟨by rw [show (({ cps := #[10] } : Str)).length = 1 from rfl]; omega, h2⟩⟩
  · rintro ⟨h1, h2⟩
    exact ⟨by rw [hl]; omega, (this.mpr h2).2⟩

def hit (x : Str) (p i : Nat) : Bool := decide (i < p ∧ x.cps.toList[i]? = some 10)
theorem occ_run (x : Str) (p limit : Nat) (hp : p ≤ x.length) : ∀ (n a : Nat) (arr : Array Nat) (free : Nat), free ≤ a → arr.size + n ≤ limit →
    (forIn (List.range' a n) (arr, free) (occBody x nl p limit)).run.fst.size = arr.size + (List.range' a n).countP (hit x p)
  | 0, a, arr, free, _, _ => by simp
  | n + 1, a, arr, free, h1, h2 => by
    rw [List.range'_succ, List.forIn_cons, List.countP_cons]
    unfold occBody
    by_cases hc : At x nl p a
    · have hh : hit x p a = true := decide_eq_true ((at_nl x p a hp).mp hc)
      have hlt : arr.size < limit := by omega
      rw [if_pos ⟨⟨⟨hlt, h1⟩, hc.1⟩, hc.2⟩, if_pos hh]
      have := occ_run x p limit hp n (a + 1) (arr.push a) (a + nl.length) (Nat.le_refl _) (by rw [Array.size_push]; omega)
      rw [Array.size_push] at this
      show (forIn (List.range' (a + 1) n) (arr.push a, a + nl.length) (occBody x nl p limit)).run.fst.size = _
      rw [this]; omega
    · have hh : ¬ hit x p a = true := fun q => hc ((at_nl x p a hp).mpr (of_decide_eq_true q))
      rw [if_neg (fun q => hc ⟨q.1.2, q.2⟩), if_neg hh]
      have := occ_run x p limit hp n (a + 1) arr free (by omega) (by omega)
      show (forIn (List.range' (a + 1) n) (arr, free) (occBody x nl p limit)).run.fst.size = _
      rw [this]; omega

theorem countP_range (l : List Nat) : ∀ p, p ≤ l.length → (List.range' 0 p).countP (fun i => decide (l[i]? = some 10)) = (l.take p).count 10
  | 0, _ => by simp
  | p + 1, h => by
    have e1 : List.range' 0 (p + 1) = List.range' 0 p ++ [p] := by rw [List.range'_concat]; simp
    rw [e1, List.countP_append, countP_range l p (by omega), List.take_add_one, List.count_append]
    congr 1
    rw [List.countP_singleton]
    have : l[p]? = some l[p] := List.getElem?_eq_getElem h
    rw [this]
    by_cases hq : l[p] = 10
    · rw [hq]; simp
    · simp [hq]

theorem occ_count (x : Str) (p : Nat) (hp : p ≤ x.length) : (occurrences x nl 0 p (x.length + 1)).length = (x.cps.toList.take p).count 10 := by
  rw [occ_eq, Array.length_toList, occ_run x p _ hp _ _ _ _ (Nat.le_refl _) (by simp only [List.size_toArray, List.length_nil]; omega)]
  have e : p + 1 - 0 = p + 1 := rfl
  have e1 : List.range' 0 (p + 1) = List.range' 0 p ++ [p] := by rw [List.range'_concat]; simp
  rw [e, e1, List.countP_append, List.countP_singleton]
  rw [if_neg (by intro h; have := (of_decide_eq_true h).1; omega)]
  have : (List.range' 0 p).countP (hit x p) = (List.range' 0 p).countP (fun i => decide (x.cps.toList[i]? = some 10)) := by
    refine List.countP_congr fun i hi => ?_
    have hi : i < p := by simpa using (List.mem_range'_1.mp hi).2
    simp only [hit, decide_eq_true_eq]
    exact ⟨fun h => h.2, fun h => ⟨hi, h⟩⟩
  rw [this, countP_range _ p (by rw [Array.length_toList]; exact hp)]
  simp

theorem last_nl (x : Str) (p : Nat) (hp : p ≤ x.length) :
    (lastOccurrence x nl 0 p = none ∧ ∀ i, i < p → x.cps.toList[i]? ≠ some 10) ∨
    ∃ i, lastOccurrence x nl 0 p = some i ∧ i < p ∧ x.cps.toList[i]? = some 10 ∧ ∀ k, i < k → k < p → x.cps.toList[k]? ≠ some 10 := by
  have h := last_run x nl p (List.range' 0 (p + 1 - 0)) [] none (fun _ hi => nomatch hi) (fun _ hi => nomatch hi) (List.pairwise_lt_range' ..)
  rw [← last_eq] at h
  have mem : ∀ i, i < p → i ∈ [] ++ List.range' 0 (p + 1 - 0) := fun i hi => by rw [List.nil_append]; exact List.mem_range'_1.mpr ⟨Nat.zero_le _, by omega⟩
  cases hl : lastOccurrence x nl 0 p with
  | none =>
    rw [hl] at h
    exact .inl ⟨rfl, fun i hi q => h i (mem i hi) ((at_nl x p i hp).mpr ⟨hi, q⟩)⟩
  | some i =>
    rw [hl] at h
    obtain ⟨h1, h2⟩ := h
    have h1 := (at_nl x p i hp).mp h1
    exact .inr ⟨i, rfl, h1.1, h1.2, fun k hk hkp q => h2 k (mem k hkp) hk ((at_nl x p k hp).mpr ⟨hkp, q⟩)⟩
end Mine

end TxtP1

section TxtL6
open PySem PySem.W PyProof.Rows PySem.Calls
open PyProof.Rows.TI (gone gone_get gone_none gone_some)
open PySem.Builtin PySem.Builtin.Str
namespace Mine

/-- a call of a def that lies in the heap -/
theorem callFnH {prog : Program} {w : World} {A : Around} {E : Value → Shared → Prop} {s : Shared} {hp : Heap} {tk : Nat} {Q : Value → Shared → Prop} {name qual : Str} {params : Arguments} {body : List Stmt} {scope : Scope}
    {dV kV doc pm cdv ct : Value} {an : Option Addr} {o : Obj} {f : Addr} {args : List Value} {binds : List (Str × Value)}
    (hlim : hp.NoLimit) (hroom : A.depth < recursionLimit)
    (ho : hp.get? f = some o) (hd : o.data = .func (fnOf name qual params body scope dV kV doc pm an cdv ct)) (hcd : hp.CodeRec cdv qual)
    (hbind : bindArgs (fnOf name qual params body scope dV kV doc pm an cdv ct) ⟨args, []⟩ = pure binds) (hloc : ∀ y ∈ binds, scope.names.lookup y.1 = some .local)
    (h : ∀ L h₁ tk', Fr hp L h₁ (fun y => binds.reverse.lookup y) → L = hp.objs.size →
      wpAny (model prog w) (A.deeper (envOf qual scope L f cdv)) (execs body (envOf qual scope L f cdv))
        (fun fl s' => Q (match fl with | .ret v => v | _ => .none) s')
        (fun e s' => wpAny (model prog w) (A.deeper (envOf qual scope L f cdv)) (leaving (envOf qual scope L f cdv) e) (fun _ s'' => E e s'') (fun e' s'' => E e' s'') s')
        (St s h₁ tk'))
    (hcell : ∀ x ∈ scope.names, x.2 ≠ .cell := by decide) (hco : scope.isCoroutine = false := by rfl) (hgen : scope.isGenerator = false := by rfl) (hk : scope.kind = .function := by rfl) :
    wpAny (model prog w) A (call (.ref f) args) Q E (St s hp tk) := by
  refine wpAny_call (codeAny_call_function hroom ho hd hco hgen rfl hcd ?_)
  rw [hbind]
  refine wpAny_pure (wpAny_newFunctionEnv hcell hloc (fun h₁ hns hsb => ⟨hlim.fresh _ hsb, ?_⟩) hk)
  show codeAny _ _ (.func body (envOf qual scope hp.objs.size f cdv)) _ _
  exact codeAny_func (h _ h₁ _ ⟨hns, fun b o e => hsb.extBut b o (Nat.ne_of_lt (Heap.lt_size e)) (Heap.get?_push_of_some _ e), Nat.le_refl _⟩ rfl)

/-- the def within suffixed_err, as the text has it -/
def coordDef : Stmt := match List.getD (Module.body (Program.main PySem.Challenge.pw_oh0003_01)) 2 (Stmt.Pass ⟨0, 0, 0, 0⟩) with
  | Stmt.FunctionDef _ _ (d :: _) _ _ _ _ _ _ _ => d
  | _ => Stmt.Pass ⟨0, 0, 0, 0⟩
def coordBody : List Stmt := match coordDef with
  | .FunctionDef _ _ b _ _ _ _ _ _ _ => b
  | _ => []
def coordParams : Arguments := match coordDef with
  | .FunctionDef _ a _ _ _ _ _ _ _ _ => a
  | _ => default
def coordScope : Scope := match coordDef with
  | .FunctionDef _ _ _ _ _ _ sc _ _ _ => sc
  | _ => default

/-- column and line, from the text -/
def Col (x : Str) (p : Nat) (col : Int) : Prop :=
  ((x.cps.toList.take p).count 10 = 0 ∧ col = p + 1) ∨
  ∃ i, (x.cps.toList.take p).count 10 ≠ 0 ∧ i < p ∧ x.cps.toList[i]? = some 10 ∧ (∀ k, i < k → k < p → x.cps.toList[k]? ≠ some 10) ∧ col = (p : Int) - i
def Coord (x : Str) (p : Nat) (r : Str) : Prop :=
  (x.length ≤ p ∧ r = "end of document") ∨
  (p < x.length ∧ ∃ col, Col x p col ∧ r = ("line " : Str) ++ (toString (((x.cps.toList.take p).count 10 : Int) + 1) : Str) ++ (", column " : Str) ++ (toString col : Str))

section
variable {prog : Program} {w : World} {A : Around} {E : Value → Shared → Prop} {s : Shared} {hp : Heap} {tk : Nat} {Q : Value → Shared → Prop} {x y : Str} {t u v v' : Tok} {p : Nat}
theorem gives_count4 (hp' : p ≤ x.length) : Gives («str.count» ⟨[.str x t, .str y u, .int 0 v, .int p v'], []⟩) (.int (occurrences x y 0 p (x.length + 1)).length) := by
  show Gives (retInt (occurrences x y 0 (min (max 0 (if (p : Int) < 0 then (p : Int) + x.length else (p : Int))).toNat x.length) (x.length + 1)).length) _
  have e : min (max 0 (if (p : Int) < 0 then (p : Int) + x.length else (p : Int))).toNat x.length = p := by rw [if_neg (by omega)]; omega
  rw [e]
  exact .of_eq rfl
theorem gives_rindex4 {i : Nat} (hp' : p ≤ x.length) (hl : lastOccurrence x y 0 p = some i) : Gives («str.rindex» ⟨[.str x t, .str y u, .int 0 v, .int p v'], []⟩) (.int i) := by
  show Gives (match lastOccurrence x y 0 (min (max 0 (if (p : Int) < 0 then (p : Int) + x.length else (p : Int))).toNat x.length) with | some i => retInt i | none => (do rule "str.rindex.not-found"; raiseError "ValueError" "substring not found")) _
  have e : min (max 0 (if (p : Int) < 0 then (p : Int) + x.length else (p : Int))).toNat x.length = p := by rw [if_neg (by omega)]; omega
  rw [e, hl]
  exact .of_eq rfl
theorem args_count4 (a b c d : Value) : argsOk "str.count" ⟨[a, b, c, d], []⟩ := by exact PySem.F.args_str_count_4 a b c d
theorem count4 (hp' : p ≤ x.length) (h : ∀ t' tk', Q (.int (occurrences x y 0 p (x.length + 1)).length t') (St s hp tk')) :
    wpAny (model prog w) A (call (.builtin "str.count") [.str x t, .str y u, .int 0 v, .int p v']) Q E (St s hp tk) :=
  call_gives PySem.F.slot_str_count (typeIs_str _ _ _) PySem.F.entry_str_count (args_count4 _ _ _ _) (gives_count4 hp') (h _ _)
theorem rindex4 {i : Nat} (hp' : p ≤ x.length) (hl : lastOccurrence x y 0 p = some i) (h : ∀ t' tk', Q (.int i t') (St s hp tk')) :
    wpAny (model prog w) A (call (.builtin "str.rindex") [.str x t, .str y u, .int 0 v, .int p v']) Q E (St s hp tk) :=
  call_gives PySem.F.slot_str_rindex (typeIs_str _ _ _) PySem.F.entry_str_rindex (PySem.F.args_str_rindex_4 _ _ _ _) (gives_rindex4 hp' hl) (h _ _)

theorem int_len {a : Int} (h : a.natAbs < 10 ^ 10) : (Str.ofString (toString a)).length ≤ 11 := by
  rw [PySem.ofString_length]; exact int_text_length_le10 (by decide) h
theorem int_log {a : Int} (h : a.natAbs < 10 ^ 10) : a.natAbs.log2 < 1920 := by
  by_cases h0 : a.natAbs = 0
  · rw [h0]; decide
  · exact Nat.lt_of_lt_of_le ((Nat.log2_lt h0).mpr (Nat.lt_trans h (by decide : 10 ^ 10 < 2 ^ 34))) (by decide)
theorem fInt {a : Int} (h : a.natAbs < 10 ^ 10) (hQ : ∀ t' tk', Q (.str (toString a) t') (St s hp tk')) : wpAny (model prog w) A (formatField (.int a t) Str.empty) Q E (St s hp tk) :=
  formatField_int_small (int_log h) (hQ _ _)
theorem fStr (h : x.length ≤ sizeLine) (hQ : ∀ t' tk', Q (.str x t') (St s hp tk')) : wpAny (model prog w) A (formatField (.str x t) Str.empty) Q E (St s hp tk) :=
  formatField_str (fun t' tk' => hQ t' tk') h
theorem jNil {M : Model} (h : x.length ≤ sizeLine) (hQ : ∀ t' tk', Q (.str x t') (St s hp tk')) : wpAny M A (joinParts x []) Q E (St s hp tk) := joinParts_nil (hQ _ _) h
theorem oLenStr (hx : x.length ≤ sizeLine) (h : ∀ t' tk', Q (.int x.length t') (St s hp tk')) : wpAny (model prog w) A (call (.builtin "len") [.str x t]) Q E (St s hp tk) :=
  len_str (by have : sizeLine = 16777216 := rfl; omega) (h _ _)

theorem countNl (hp' : p ≤ x.length) (h : ∀ t' tk', Q (.int ((x.cps.toList.take p).count 10 : Nat) t') (St s hp tk')) :
    wpAny (model prog w) A (call (.builtin "str.count") [.str x t, .str "\n" u, .int 0 v, .int p v']) Q E (St s hp tk) := by
  rw [nl_is]
  refine count4 hp' (fun t' tk' => ?_)
  rw [occ_count x p hp']; exact h t' tk'
theorem rindexNl {i : Nat} (hp' : p ≤ x.length) (hl : lastOccurrence x nl 0 p = some i) (h : ∀ t' tk', Q (.int i t') (St s hp tk')) :
    wpAny (model prog w) A (call (.builtin "str.rindex") [.str x t, .str "\n" u, .int 0 v, .int p v']) Q E (St s hp tk) := by
  rw [nl_is]
  exact rindex4 hp' hl h

set_option maxHeartbeats 2000000 in
theorem coord_call {mg mb : Str → Option Value} {k : Nat} {qual : Str} {doc pm cdv ct : Value} {o : Obj} {f : Addr} (G : Gr w mg mb hp) (c : Calm k A) (hk : k ≤ 50)
    (ho : hp.get? f = some o) (hd : o.data = .func (fnOf "coord_repr" qual coordParams coordBody coordScope .none .none doc pm none cdv ct)) (hcd : hp.CodeRec cdv qual)
    (hx : x.length ≤ 100000) (hp' : p ≤ 100000)
    (h : ∀ r t h' tk, Ext hp h' → Coord x p r → r.length ≤ 100 → Q (.str r t) (St s h' tk)) :
    wpAny (model prog w) A (call (.ref f) [.str x t, .int p u]) Q E (St s hp tk) := by
  have hsx : x.length ≤ sizeLine := Nat.le_trans hx (by decide)
  refine callFnH (binds := [("src", .str x t), ("pos", .int p u)]) G.lim c.room ho hd hcd rfl (locs rfl) (fun L h₁ tk₁ F hLs => ?_)
  refine wpAny_execs_cons (wpAny_If (wpAny_isTrue_Compare1 (nmL F.ns rfl (wpAny_Call_NameR (nmB (G.keeps F.keep) rfl boot_len (by decide) (callWith_builtin1 (args_cons (nmL F.ns rfl (args_nil (oLenStr hsx fun _ _ => oGe (wpAny_truthy_bool ?_)))))))))))
  split
  · rename_i hge
    have hge : (p : Int) ≥ x.length := of_decide_eq_true hge
    refine wpAny_execs_cons (wpAny_Return_some (cStr fun _ _ => ?_))
    exact h _ _ _ _ F.keep (.inl ⟨by omega, rfl⟩) (by decide)
  · rename_i hge
    have hlt : p < x.length := by
      have : ¬ ((p : Int) ≥ x.length) := fun q => hge (decide_eq_true q)
      omega
    refine wpAny_execs_nil ?_
    have hcl : (x.cps.toList.take p).count 10 ≤ p := Nat.le_trans List.count_le_length (by rw [List.length_take]; omega)
    refine wpAny_execs_cons (wpAny_Assign_Name (wpAny_BinOp (MethodCall_ (nmL F.ns rfl (GM.count (callWith_method1 (args_cons (cStr fun _ _ => args_cons (cInt fun _ _ => args_cons (nmL F.ns rfl (args_nil ?_)))))))))))
    refine countNl (Nat.le_of_lt hlt) (fun _ _ => cInt fun _ _ => oAdd fun t₂ _ => stL F fun h₂ tk₂ F₂ S₂ => ?_)
    -- the end, whatever the column
    have fin : ∀ h₃ tk₃ m col tc tl, Fr hp L h₃ m → m "line" = some (.int (((x.cps.toList.take p).count 10 : Nat) + 1) tl) → m "column" = some (.int col tc) → Col x p col → 0 ≤ col → col ≤ p + 1 →
        wpAny (model prog w) (A.deeper (envOf qual coordScope L f cdv)) (execs (coordBody.drop 3) (envOf qual coordScope L f cdv))
          (fun fl s' => Q (match fl with | .ret v => v | _ => .none) s')
          (fun e s' => wpAny (model prog w) (A.deeper (envOf qual coordScope L f cdv)) (leaving (envOf qual coordScope L f cdv) e) (fun _ s'' => E e s'') (fun e' s'' => E e' s'') s') (St s h₃ tk₃) := by
      intro h₃ tk₃ m col tc tl F₃ hm1 hm2 hcol hc0 hc1
      have e1 := int_len (a := ((x.cps.toList.take p).count 10 : Nat) + 1) (by omega)
      have e2 := int_len (a := col) (by omega)
      have l1 : (Str.ofString "line ").length = 5 := by decide +kernel
      have l2 : (Str.ofString ", column ").length = 9 := by decide +kernel
      have sl : sizeLine = 16777216 := rfl
      refine wpAny_execs_cons (wpAny_Return_some (JoinedStr_many (joinParts_cons (cStr fun _ _ => ⟨?_, joinParts_cons (FormattedValue_plain (nmL F₃.ns hm1 (fInt (by omega) fun _ _ => ⟨?_, joinParts_cons (cStr fun _ _ => ⟨?_, joinParts_cons (FormattedValue_plain (nmL F₃.ns hm2 (fInt (by omega) fun _ _ => ⟨?_, jNil ?_ fun t₄ tk₄ => ?_⟩)))⟩)⟩)))⟩))))
      · rw [PySem.Str.empty_append]; omega
      · rw [PySem.Str.empty_append, PySem.Str.length_append]; omega
      · rw [PySem.Str.empty_append, PySem.Str.length_append, PySem.Str.length_append]; omega
      · rw [PySem.Str.empty_append, PySem.Str.length_append, PySem.Str.length_append, PySem.Str.length_append]; omega
      · rw [PySem.Str.empty_append, PySem.Str.length_append, PySem.Str.length_append, PySem.Str.length_append]; omega
      · refine h _ _ _ _ F₃.keep (.inr ⟨hlt, col, hcol, ?_⟩) ?_
        · rw [PySem.Str.empty_append]
        · rw [PySem.Str.empty_append, PySem.Str.length_append, PySem.Str.length_append, PySem.Str.length_append]; omega
    refine wpAny_execs_cons (wpAny_If (wpAny_isTrue_Compare1 (nmL F₂.ns upd_self (cInt fun _ _ => oEq (wpAny_truthy_bool ?_)))))
    split
    · rename_i hone
      have hone : (((x.cps.toList.take p).count 10 : Nat) : Int) + 1 = 1 := by simpa using hone
      refine wpAny_execs_cons (wpAny_Assign_Name (wpAny_BinOp (nmL F₂.ns rfl (cInt fun _ _ => oAdd fun t₃ _ => stL F₂ fun h₃ tk₃ F₃ S₃ => ?_))))
      refine wpAny_execs_nil ?_
      exact fin h₃ _ _ _ _ _ F₃ (upd_ne upd_self (by decide)) upd_self (.inl ⟨by omega, rfl⟩) (by omega) (by omega)
    · rename_i hone
      have hne : (x.cps.toList.take p).count 10 ≠ 0 := by intro q; rw [q] at hone; exact hone rfl
      rcases last_nl x p (Nat.le_of_lt hlt) with ⟨_, hno⟩ | ⟨i, hi, hip, hi10, hik⟩
      · exfalso
        refine hne (List.count_eq_zero.mpr fun hmem => ?_)
        obtain ⟨i, hi⟩ := List.mem_iff_getElem?.mp hmem
        have hip : i < p := by
          have := (List.getElem?_eq_some_iff.mp hi).1
          rw [List.length_take] at this; omega
        rw [List.getElem?_take_of_lt hip] at hi
        exact hno i hip hi
      · refine wpAny_execs_cons (wpAny_Assign_Name (wpAny_BinOp (nmL F₂.ns rfl (MethodCall_ (nmL F₂.ns rfl (GM.rindex (callWith_method1 (args_cons (cStr fun _ _ => args_cons (cInt fun _ _ => args_cons (nmL F₂.ns rfl (args_nil ?_))))))))))))
        refine rindexNl (Nat.le_of_lt hlt) hi (fun _ _ => oSub fun t₃ _ => stL F₂ fun h₃ tk₃ F₃ S₃ => ?_)
        refine wpAny_execs_nil ?_
        exact fin h₃ _ _ _ _ _ F₃ (upd_ne upd_self (by decide)) upd_self (.inr ⟨i, hne, hip, hi10, hik, rfl⟩) (by omega) (by omega)
end
end Mine

end TxtL6

section TxtL7
open PySem PySem.W PyProof.Rows PySem.Calls
open PyProof.Rows.TI (gone gone_get gone_none gone_some)
open PySem.Builtin PySem.Builtin.Str
namespace Mine

def coordPos : Pos := match coordDef with
  | .FunctionDef _ _ _ _ _ _ _ _ _ p => p
  | _ => ⟨0, 0, 0, 0⟩
def qualC : Str := (Str.ofString "suffixed_err" ++ ".<locals>.") ++ "coord_repr"
/-- the table of the codes within suffixed_err's code -/
def Tab (h : Heap) : Prop := ∃ ps, h.get? 29 = some (tabObj ps) ∧ TriplesOk ps.toList ∧ (codeAmong coordPos ps.toList = none ∨ ∃ c', codeAmong coordPos ps.toList = some (.ref c') ∧ h.CodeRec (.ref c') qualC)
theorem Tab.ext {h h' : Heap} (T : Tab h) (k : Ext h h') : Tab h' := by
  obtain ⟨ps, e, a, b⟩ := T
  exact ⟨ps, k _ _ e, a, b.imp id fun ⟨c', e1, e2⟩ => ⟨c', e1, e2.keeps k⟩⟩
theorem keep_set {h h' : Heap} {L b : Addr} {m : Str → Option Value} {o : Obj} (e : h.get? b = some o) (hd : ∀ es n, o.data ≠ .dict es n) (hn : h.Ns L m) (hs : Heap.SameBut L h h') : h'.get? b = some o :=
  (hs.2 b (by
    rintro rfl
    obtain ⟨o', es, ep, e3, e4, _⟩ := hn
    rw [e] at e3; cases e3
    exact hd _ _ e4)).trans e
theorem code_set {h h' : Heap} {L : Addr} {m : Str → Option Value} {cd : Value} {q : Str} (x : h.CodeRec cd q) (hn : h.Ns L m) (hs : Heap.SameBut L h h') : h'.CodeRec cd q := by
  obtain ⟨c, o, vs, t, e1, e2, e3, e4⟩ := x
  exact ⟨c, o, vs, t, e1, keep_set e2 (fun es n q => by rw [e3] at q; cases q) hn hs, e3, e4⟩
theorem Tab.set {h h' : Heap} {L : Addr} {m : Str → Option Value} (T : Tab h) (hn : h.Ns L m) (hs : Heap.SameBut L h h') : Tab h' := by
  obtain ⟨ps, e, a, b⟩ := T
  exact ⟨ps, keep_set e (fun es n q => by cases q) hn hs, a, b.imp id fun ⟨c', e1, e2⟩ => ⟨c', e1, code_set e2 hn hs⟩⟩

theorem triples_snoc {l : List Value} {a b : Int} {c : Value} (h : TriplesOk l) : TriplesOk (l ++ [rawInt a, rawInt b, c]) := by
  fun_induction TriplesOk l with
  | case1 => trivial
  | case2 _ _ _ _ _ rest ih => exact ih h
  | case3 => exact h.elim

/-- a TOMLDecodeError with its words -/
def ErrAt (h : Heap) (e : Addr) (msg : Str) : Prop := ∃ t tk, h.get? e = some { cls := .ref 24, data := .fields #[.ref t, .none, .none, .none, .bool false, .none] } ∧ h.get? t = some { cls := .type "tuple", data := .seq #[.str msg tk] }

section
variable {prog : Program} {w : World} {A : Around} {E : Value → Shared → Prop} {s : Shared} {hp g : Heap} {tk : Nat} {Q : Value → Shared → Prop} {x y : Str} {t u v : Tok} {p : Nat} {mg mb : Str → Option Value} {k : Nat}

theorem make_err (G : Gr w mg mb hp) {vs : List Value} (hvs : vs.length ≤ sizeLine) (h : ∀ h' e, Heap.MadeExcOf hp h' e (.ref 24) vs → Q (.ref e) (St s h' tk)) :
    wpAny (model prog w) A (call (.ref 24) vs) Q E (St s hp tk) := by
  refine wpAny_call_exc_sub PySem.F.excBase_ValueError (C := 24) (N := 23) (G.X 24 _ rfl) (mN := fun n => nsFind _ n) ⟨_, _, _, G.X 23 _ rfl, rfl, ?_, fun _ => rfl⟩ rfl h hvs
  intro e he
  simp only [List.mem_toArray, List.mem_cons, List.not_mem_nil, or_false] at he
  rcases he with rfl | rfl | rfl | rfl | rfl <;> exact ⟨_, _, rfl⟩

set_option maxHeartbeats 2000000 in
theorem suff_call (G : Gr w mg mb g) (hg : Ext g hp) (hg29 : g.get? 29 = none) (T : Tab hp) (c : Calm k A) (hk : k ≤ 20) (hx : x.length ≤ 100000) (hp' : p ≤ 100000) (hy : y.length ≤ 1000)
    (h : ∀ e r h' tk, (∀ b o, b ≠ 29 → hp.get? b = some o → h'.get? b = some o) → Tab h' → Coord x p r → ErrAt h' e (y ++ (" (at " : Str) ++ r ++ (")" : Str)) → Q (.ref e) (St s h' tk)) :
    wpAny (model prog w) A (call (.ref 34) [.str x t, .int p u, .str y v]) Q E (St s hp tk) := by
  have G' := G.keeps hg
  refine callFn (binds := [("src", .str x t), ("pos", .int p u), ("msg", .str y v)]) G'.X G'.lim c.room rfl rfl rfl (locs rfl) (fun L h₁ tk₁ F hLs => ?_)
  have F₁ := frGone [29] F
  have hgo : (gone hp [29]).get? 29 = none := gone_none (List.mem_singleton.mpr rfl)
  have hgg : Ext g (gone hp [29]) := fun b o e => (gone_get (by simp only [List.mem_singleton]; rintro rfl; rw [hg29] at e; cases e)).trans (hg _ _ e)
  obtain ⟨ps, e29, hps, hcases⟩ := T.ext F.keep
  have hb : h₁.BuiltinsAt mg 29 := by
    obtain ⟨bm, ob, b1, b2, b3, b4, b5, b6⟩ := G.bm
    refine ⟨bm, ob, b1, b2, ?_, ?_, F.keep _ _ (hg _ _ b3), b4, b5, b6⟩
    · rintro rfl
      obtain ⟨o, es, ep, e, hd, _⟩ := G.g
      rw [e] at b3; cases b3; rw [hd] at b6; cases b6
    · rintro rfl; rw [hg29] at b3; cases b3
  refine wpAny_execs_cons (nestDef_K rfl rfl rfl ?_)
  refine wpAny_mono (Q := fun v' s' => ∃ f o cv doc pm ct h₂ tk₂, v' = .ref f ∧ s' = St s h₂ tk₂ ∧ Fr (gone hp [29]) L h₂ (fun n => ([("src", Value.str x t), ("pos", .int p u), ("msg", .str y v)] : List (Str × Value)).reverse.lookup n) ∧ Tab h₂ ∧ h₂.get? f = some o ∧
    o.data = .func (fnOf "coord_repr" qualC coordParams coordBody coordScope .none .none doc pm none cv ct) ∧ h₂.CodeRec cv qualC) ?_ (fun v' s' => ?_) (fun _ _ x => x)
  · rcases hcases with hnf | ⟨c', hf, hrec⟩
    · refine makeFunction_K (mg := mg) (c := 33) (P := 29) rfl rfl ((G'.keeps F.keep).g) rfl ((G'.keeps F.keep).cd) e29 hps hnf (by decide) hb (fun c' ctv doc h₂ tk₂ hx₂ hge hlt hrec htb => ?_)
      have kb : ∀ b o, (gone hp [29]).get? b = some o → h₂.get? b = some o := fun b o e => hx₂ b o (by rintro rfl; rw [hgo] at e; cases e) (F₁.keep _ _ e)
      have hL29 : L ≠ 29 := by
        rintro rfl
        obtain ⟨o', es, ep, e3, e4, _⟩ := F.ns
        rw [e29] at e3; cases e3; cases e4
      refine ⟨_, _, _, _, _, _, _, _, rfl, rfl, ⟨(F.ns.extBut hx₂ hL29).push _, fun b o e => Heap.get?_push_of_some _ (kb b o e), F₁.above⟩, ?_, Heap.get?_push_size _ rfl, rfl, hrec.keeps (ext_push _)⟩
      refine ⟨_, Heap.get?_push_of_some _ htb, ?_, .inr ⟨c', ?_, hrec.keeps (ext_push _)⟩⟩
      · rw [Array.toList_append]; exact triples_snoc hps
      · rw [Array.toList_append]; exact codeAmong_snoc _ hps hnf
    · refine makeFunction_hit (mg := mg) (c := 33) (P := 29) rfl rfl ((G'.keeps F.keep).g) rfl ((G'.keeps F.keep).cd) e29 hps hf hb (fun ctv doc h₂ tk₂ hx₂ hge => ?_)
      have E₂ : ∀ o, Ext h₁ (h₂.push o) := fun o => Ext.trans' hx₂ (ext_push o)
      exact ⟨_, _, _, _, _, _, _, _, rfl, rfl, frx F₁ (E₂ _), Tab.ext ⟨ps, e29, hps, .inr ⟨c', hf, hrec⟩⟩ (E₂ _), Heap.get?_push_size _ rfl, rfl, hrec.keeps (E₂ _)⟩
  · rintro ⟨f, ⟨oc, od, dat, osl⟩, cv, doc, pm, ct, h₂, tk₂, rfl, rfl, F₂, T₂, hf₂, hd₂, hc₂⟩
    simp only at hd₂
    subst hd₂
    refine stL F₂ (fun h₃ tk₃ F₃ S₃ => ?_)
    have T₃ := T₂.set F₂.ns S₃
    have hf₃ := keep_set hf₂ (fun es n q => by cases q) F₂.ns S₃
    have hc₃ := code_set hc₂ F₂.ns S₃
    have G₃ := G.keeps (Ext.trans' hgg F₃.keep)
    have sl : sizeLine = 16777216 := rfl
    have l1 : (Str.ofString " (at ").length = 5 := by decide +kernel
    have l2 : (Str.ofString ")").length = 1 := by decide +kernel
    refine wpAny_execs_cons (wpAny_Return_some (wpAny_Call_NameR (nmG G₃ rfl (callWith_K G₃.X rfl (args_cons ?_)))))
    refine JoinedStr_many (joinParts_cons (FormattedValue_plain (nmL F₃.ns rfl (fStr (by omega) fun _ _ => ⟨?_, joinParts_cons (cStr fun _ _ => ⟨?_, joinParts_cons (FormattedValue_plain (wpAny_Call_NameR (nmL F₃.ns upd_self (callWith_F ⟨_, _, _, _, hf₃⟩ (args_cons (nmL F₃.ns rfl (args_cons (nmL F₃.ns rfl (args_nil ⟨⟨_, _, _, _, hf₃⟩, ?_⟩)))))))))⟩)⟩))))
    · rw [PySem.Str.empty_append]; omega
    · rw [PySem.Str.empty_append, PySem.Str.length_append]; omega
    refine coord_call G₃ (c.deeper _) (by omega) hf₃ rfl hc₃ hx hp' (fun r t₄ h₄ tk₄ E₄ hco hrl => ?_)
    refine fStr (by omega) fun _ _ => ⟨?_, joinParts_cons (cStr fun _ _ => ⟨?_, jNil ?_ fun t₅ tk₅ => ?_⟩)⟩
    · rw [PySem.Str.empty_append, PySem.Str.length_append, PySem.Str.length_append]; omega
    · rw [PySem.Str.empty_append, PySem.Str.length_append, PySem.Str.length_append, PySem.Str.length_append]; omega
    · rw [PySem.Str.empty_append, PySem.Str.length_append, PySem.Str.length_append, PySem.Str.length_append]; omega
    have G₄ := G₃.keeps E₄
    refine args_nil ⟨G₄.X, make_err G₄ small (fun h₅ e hm => ?_)⟩
    have F₄ := frx F₃ E₄
    refine h e r h₅ _ (fun b o hne e1 => hm.keeps _ _ (F₄.keep _ _ ((gone_get (by simpa using hne)).trans e1))) ((T₃.ext E₄).ext hm.keeps) hco ?_
    obtain ⟨t₆, q1, q2, q3⟩ := hm.there
    rw [PySem.Str.empty_append] at q3
    exact ⟨t₆, _, q1, q3⟩
end
end Mine

end TxtL7

section TxtL8
open PySem PySem.W PyProof.Rows PySem.Calls
open PyProof.Rows.TI (gone gone_get gone_none gone_some)
open PySem.Builtin PySem.Builtin.Str
namespace Mine

section
variable {prog : Program} {w : World} {A : Around} {E : Value → Shared → Prop} {s : Shared} {hp g : Heap} {tk : Nat} {Q : Value → Shared → Prop} {mg mb : Str → Option Value} {k : Nat} {e t0 : Addr} {msg : Str} {tm : Tok}

theorem type_err (he : ErrAt hp e msg) (h : Q (.ref 24) (St s hp tk)) : wpAny (model prog w) A (call (.type "type") [.ref e]) Q E (St s hp tk) := by
  obtain ⟨t, tk', e1, e2⟩ := he
  exact call_type_obj e1 rfl h

theorem args_err {M : Model} {Q : Value × List Value → Shared → Prop} (h1 : s.heap.get? e = some { cls := .ref 24, data := .fields #[.ref t0, .none, .none, .none, .bool false, .none] })
    (h2 : s.heap.get? t0 = some { cls := .type "tuple", data := .seq #[.str msg tm] }) (hq : Q (.ref t0, [.str msg tm]) s) :
    wpAny M A (Builtin.BaseException.bexcArgs (.ref e)) Q E s := by
  unfold Builtin.BaseException.bexcArgs
  refine wpAny_bind (wpAny_field h1 rfl (x := .ref t0) rfl ?_)
  exact wpAny_bind (wpAny_seqItems h2 rfl (wpAny_pure hq))

theorem strEntry_err {Q : Fin → Shared → Prop} (h1 : s.heap.get? e = some { cls := .ref 24, data := .fields #[.ref t0, .none, .none, .none, .bool false, .none] })
    (h2 : s.heap.get? t0 = some { cls := .type "tuple", data := .seq #[.str msg tm] }) (hq : Q (.done (.ret (.str msg tm))) s) :
    wpAny (model prog w) A (Builtin.«BaseException.__str__» ⟨[.ref e], []⟩) Q E s := by
  unfold Builtin.«BaseException.__str__»
  repeat (first | with_reducible refine args_err h1 h2 ?_ | wp_step)
  exact hq

theorem strOf_err (X : (KK w).In s.heap) (hu : A.units < cLine) (h1 : s.heap.get? e = some { cls := .ref 24, data := .fields #[.ref t0, .none, .none, .none, .bool false, .none] })
    (h2 : s.heap.get? t0 = some { cls := .type "tuple", data := .seq #[.str msg tm] }) (hq : Q (.str msg tm) s) {prog' : Program} {w' : World} :
    wpAny (model prog' w') A (Builtin.Str.strOf (.ref e)) Q E s := by
  have ty : Looks (model prog' w') s.heap (typeOf (.ref e)) (.ref 24) := (Looks.ld h1).andThen .now
  have fd := looks_findIn (M := model prog' w') X (t := .ref 24) (name := Str.ofString "__str__") (r := some (.builtin "BaseException.__str__")) (by kernel_rfl)
  have ins : Looks (model prog' w') s.heap (isInstance (.ref e) (.type "BaseException")) true := ty.andThen (looks_subIn X (by kernel_rfl))
  have cs : ∀ {Q' : Option Value → Shared → Prop}, Q' (some (.str msg tm)) s → wpAny (model prog' w') A (callSpecial? (.ref e) (Str.ofString "__str__")) Q' E s := by
    intro Q' hq'
    simp only [callSpecial?]
    refine wpAny_bind ((ty.andThen fd).here ?_)
    simp only [PySem.F.excStr_ValueError.str.bind]
    refine wpAny_holding (wpAny_bind (wpAny_pure (wpAny_bind ?_)))
    refine wpAny_call (codeAny_call_builtin PySem.F.excStr_ValueError.str.plain PySem.F.entry_bexc_str ?_)
    refine check_slot (i := "BaseException.__str__") (owner := "BaseException") (n := "__str__") (by decide +kernel) (by decide +kernel) ins (PySem.F.args_bexc_str _) ?_
    refine strEntry_err h1 h2 ?_
    exact wpAny_pure hq'
  unfold Builtin.Str.strOf
  refine wpAny_bind (wpAny_cRoomFor hu ?_)
  refine wpAny_bind (cs ?_)
  refine wpAny_bind (wpAny_pure ?_)
  exact wpAny_pure hq

theorem str_err (G : Gr w mg mb hp) (c : Calm k A) (hk : k ≤ 50) (he : ErrAt hp e msg) (h : ∀ t, Q (.str msg t) (St s hp tk)) : wpAny (model prog w) A (call (.type "str") [.ref e]) Q E (St s hp tk) := by
  obtain ⟨t0, tm, h1, h2⟩ := he
  refine callType_new PySem.F.called_str (by decide) (PySem.F.typeCall_str_1 _) (PySem.F.newCall_str_1 _) (fun obj => PySem.F.args_object_init_2 obj _) PySem.F.entry_str_new
    (meets_str_new (S := fun A' R s' => A'.units + 1 < cLine ∧ (KK w).In s'.heap ∧ s'.heap.get? e = some { cls := .ref 24, data := .fields #[.ref t0, .none, .none, .none, .bool false, .none] } ∧
      s'.heap.get? t0 = some { cls := .type "tuple", data := .seq #[.str msg tm] } ∧ R (.ok (.ret (.str msg tm))) s')
      fun _ _ A' _ _ hq => strOf_err (A := A'.in1) hq.2.1 hq.1 hq.2.2.1 hq.2.2.2.1 hq.2.2.2.2)
    ⟨?_, G.X, h1, h2, typeIs_str _ _ _, h _⟩
  have := c.un
  show A.units + 1 + 1 < 9900
  omega

/-- the law's two pairs compared -/
theorem ne_pair {l b : Addr} {x y : Str} {t u : Tok} (hl : hp.IsList l #[.ref 24, .str x t]) (hb : hp.IsList b #[.ref 24, .str y u]) (c : Calm k A) (hk : k ≤ 50) (hxy : x = y) (h : Q (.bool false) (St s hp tk)) :
    wpAny (model prog w) A (compareOp .NotEq (.ref l) (.ref b)) Q E (St s hp tk) := by
  subst hxy
  refine cmp_ofNotEq ?_
  refine PySem.SeqAt.RcNeAt.lists (items := #[.ref 24, .str x t]) (items2 := #[.ref 24, .str x u]) (e := fun _ => true) hl hb rfl (by have := c.un; show A.units < 9900; omega) (fun j h1 h2 => ?_) prog w E Q h
  have : j = 0 ∨ j = 1 := by simp only [List.size_toArray, List.length_cons, List.length_nil] at h1; omega
  rcases this with rfl | rfl
  · exact PySem.SeqAt.EqAt.same _
  · have := PySem.SeqAt.EqAt.str_str (A := A.in1) (s := St s hp tk) x t x u
    rw [show (x == x) = true from beq_self_eq_true x] at this
    exact this
end
end Mine

end TxtL8

section TxtL9
open PySem PySem.W PyProof.Rows PySem.Calls
open PyProof.Rows.TI (gone gone_get gone_none gone_some)
namespace Mine

section
variable {prog : Program} {w : World} {A : Around} {E : Value → Shared → Prop} {s : Shared} {hp : Heap} {tk : Nat} {env : Env}

/-- the block of a comprehension: its list, its names -/
theorem compBlock {elt target iter : Expr} {ifs : List Expr} {gens : List Comprehension} {scope : Scope} {cl : List (Str × Addr)} {pos : Pos} {I : Addr} {RR : Value → Addr → Result → Shared → Prop}
    (hcell : ∀ y ∈ scope.names, y.2 ≠ .cell) (hkind : scope.kind = .function)
    (self : ∀ h₁ tk₁ Q' E', Ext hp h₁ → Q' (.ref I) (St s h₁ tk₁) → wpAny (model prog w) A (pyIter (.ref I)) Q' E' (St s h₁ tk₁))
    (loop : ∀ D C h₁ tk₁, D ≠ C → hp.get? D = none → hp.get? C = none → hp.objs.size ≤ D → hp.objs.size ≤ C → Ext hp h₁ → PlainL h₁ D #[] → h₁.Ns C (fun _ => none) →
      codeAny (model prog w) A (.compLoop (.ListComp elt (⟨target, iter, ifs, 0⟩ :: gens) scope pos) 0 (.ref I) (.ref D) (compEnvC scope cl C env)) (RR (.ref D) C) (St s h₁ tk₁)) :
    wpAny (model prog w) A (newList []) (fun acc s₃ => wpAny (model prog w) A (newFunctionEnv scope env.globals cl [] env.qual none .none (some env)) (fun cenv s₄ =>
      codeAny (model prog w) A (.compStart (.ListComp elt (⟨target, iter, ifs, 0⟩ :: gens) scope pos) 0 (.ref I) acc { cenv with scope := relabel scope env }) (RR acc cenv.locals) s₄) E s₃) E (St s hp tk) := by
  refine wpAny_newObj_type (wpAny_newFunctionEnv hcell (by intro y hy; simp at hy) (fun h₁ hns₁ hsb₁ => ?_) hkind)
  dsimp only at hns₁ hsb₁ ⊢
  generalize hH2 : hp.push { cls := .type "list", dict := none, data := .seq ([] : List Value).toArray } = H2 at hns₁ hsb₁ ⊢
  have hC : H2.objs.size = hp.objs.size + 1 := by rw [← hH2, Heap.size_push]
  have hDC : hp.objs.size ≠ H2.objs.size := by rw [hC]; exact Nat.ne_of_lt (Nat.lt_succ_self _)
  have old : ∀ b o, hp.get? b = some o → h₁.get? b = some o := fun b o e => hsb₁.extBut b o (by rw [hC]; exact Nat.ne_of_lt (Nat.lt_succ_of_lt (Heap.lt_size e))) (Heap.get?_push_of_some _ (hH2 ▸ Heap.get?_push_of_some _ e))
  have hacc : PlainL h₁ hp.objs.size #[] := ⟨_, 0, hsb₁.extBut _ _ hDC (Heap.get?_push_of_some _ (hH2 ▸ Heap.get?_push_size _ rfl)), rfl, rfl, rfl⟩
  have lp := fun tk₁ => loop hp.objs.size H2.objs.size h₁ tk₁ hDC (get_size_none _) (Heap.get?_none_of_le (by rw [hC]; exact Nat.le_succ _)) (Nat.le_refl _) (by rw [hC]; exact Nat.le_succ _) old hacc hns₁
  exact codeAny_compStart_list (lp _) (self h₁ _ _ _ old (lp _))

theorem ns_after {h h' : Heap} {C D : Addr} {o : Obj} (hs : Heap.SameBut C h h') (e : h.get? D = some o) (hne : D ≠ C) : h'.get? D = some o := (hs.2 D hne).trans e

/-- a comprehension as a value -/
theorem listComp {elt target iter : Expr} {ifs : List Expr} {gens : List Comprehension} {scope : Scope} {cl : List (Str × Addr)} {pos : Pos} {Q : Value → Shared → Prop}
    (hclos : closureFor scope env = pure cl) (hcell : ∀ y ∈ scope.names, y.2 ≠ .cell) (hkind : scope.kind = .function)
    (hnames : ∀ y ∈ scope.names, y.2 = .local → scope.names.lookup y.1 = some .local)
    (h : wpAny (model prog w) A (eval iter env) (fun xv s₁ => wpAny (model prog w) A (pyIter xv) (fun it s₂ => ∃ I h₂ tk₂, it = .ref I ∧ s₂ = St s h₂ tk₂ ∧
      (∀ h₁ tk₁ Q' E', Ext h₂ h₁ → Q' (.ref I) (St s h₁ tk₁) → wpAny (model prog w) A (pyIter (.ref I)) Q' E' (St s h₁ tk₁)) ∧
      ∀ D C h₃ tk₃, D ≠ C → h₂.get? D = none → h₂.get? C = none → h₂.objs.size ≤ D → h₂.objs.size ≤ C → Ext h₂ h₃ → PlainL h₃ D #[] → h₃.Ns C (fun _ => none) →
        codeAny (model prog w) A (.compLoop (.ListComp elt (⟨target, iter, ifs, 0⟩ :: gens) scope pos) 0 (.ref I) (.ref D) (compEnvC scope cl C env))
          (fun r s' => ∃ h' tk' m, r = .ok .next ∧ s' = St s h' tk' ∧ h'.Ns C m ∧ ∀ h'', Heap.SameBut C h' h'' → Q (.ref D) (St s h'' tk')) (St s h₃ tk₃)) E s₁) E (St s hp tk))
    (hs : ∀ x, foldedSetIterable iter env x = pure x := by intro _; rfl) :
    wpAny (model prog w) A (eval (.ListComp elt (⟨target, iter, ifs, 0⟩ :: gens) scope pos) env) Q E (St s hp tk) := by
  rw [arm_eval_ListComp]
  refine wpAny_comprehension_free (use := none) rfl hs hclos hkind hnames (wpAny_mono h (fun xv s₁ h₁ => wpAny_mono h₁ (fun it s₂ h₂ => ?_) fun _ _ e => e) fun _ _ e => e)
  obtain ⟨I, h₂, tk₂, rfl, rfl, self, loop⟩ := h₂
  refine compBlock (RR := fun acc C => compPost (model prog w) A E none Q acc C) hcell hkind self (fun D C h₃ tk₃ a1 a2 a3 a4 a5 a6 a7 a8 => codeAny_mono (loop D C h₃ tk₃ a1 a2 a3 a4 a5 a6 a7 a8) fun r s' hr => ?_)
  obtain ⟨h', tk', m, rfl, rfl, hn, k⟩ := hr
  exact ⟨m, hn, k⟩

/-- y = [comprehension], where the model stores ahead of letting the names go -/
theorem assignComp {elt target iter : Expr} {ifs : List Expr} {gens : List Comprehension} {scope : Scope} {cl : List (Str × Addr)} {pos spos py : Pos} {y : Str} {Q : Flow → Shared → Prop}
    (hsw : swapsWith (.ListComp elt (⟨target, iter, ifs, 0⟩ :: gens) scope pos) (some (.Name y py)) spos.line env = pure true)
    (hclos : closureFor scope env = pure cl) (hcell : ∀ y ∈ scope.names, y.2 ≠ .cell) (hkind : scope.kind = .function)
    (hnames : ∀ y ∈ scope.names, y.2 = .local → scope.names.lookup y.1 = some .local)
    (h : wpAny (model prog w) A (eval iter env) (fun xv s₁ => wpAny (model prog w) A (pyIter xv) (fun it s₂ => ∃ I h₂ tk₂, it = .ref I ∧ s₂ = St s h₂ tk₂ ∧
      (∀ h₁ tk₁ Q' E', Ext h₂ h₁ → Q' (.ref I) (St s h₁ tk₁) → wpAny (model prog w) A (pyIter (.ref I)) Q' E' (St s h₁ tk₁)) ∧
      ∀ D C h₃ tk₃, D ≠ C → h₂.get? D = none → h₂.get? C = none → h₂.objs.size ≤ D → h₂.objs.size ≤ C → Ext h₂ h₃ → PlainL h₃ D #[] → h₃.Ns C (fun _ => none) →
        codeAny (model prog w) A (.compLoop (.ListComp elt (⟨target, iter, ifs, 0⟩ :: gens) scope pos) 0 (.ref I) (.ref D) (compEnvC scope cl C env))
          (fun r s' => ∃ h' tk', r = .ok .next ∧ s' = St s h' tk' ∧ wpAny (model prog w) A (storeName env y (.ref D)) (fun _ s'' => ∃ h₅ tk₅ m, s'' = St s h₅ tk₅ ∧ h₅.Ns C m ∧ ∀ h'', Heap.SameBut C h₅ h'' → Q .next (St s h'' tk₅)) E (St s h' tk')) (St s h₃ tk₃)) E s₁) E (St s hp tk))
    (hs : ∀ x, foldedSetIterable iter env x = pure x := by intro _; rfl) :
    wpAny (model prog w) A (exec (.Assign [.Name y py] (.ListComp elt (⟨target, iter, ifs, 0⟩ :: gens) scope pos) spos) env) Q E (St s hp tk) := by
  rw [exec_Assign_Name_used _ _ _ _ hsw]
  refine wpAny_bind (wpAny_standAt (wpAny_bind ?_))
  show wpAny _ A (do let _ ← comprehension (.ListComp elt (⟨target, iter, ifs, 0⟩ :: gens) scope pos) scope env _ (newList []) false (eval iter env) (some (assign (.Name y py) env))) _ _ _
  refine wpAny_bind (wpAny_mono (wpAny_comprehension_free (use := some (assign (.Name y py) env)) (Q := fun _ s' => Q .next s') rfl hs hclos hkind hnames
    (wpAny_mono h (fun xv s₁ h₁ => wpAny_mono h₁ (fun it s₂ h₂ => ?_) fun _ _ e => e) fun _ _ e => e)) (fun _ s' hq => wpAny_pure (wpAny_pure hq)) fun _ _ e => e)
  obtain ⟨I, h₂, tk₂, rfl, rfl, self, loop⟩ := h₂
  refine compBlock (RR := fun acc C => compPost (model prog w) A E (some (assign (.Name y py) env)) (fun _ s' => Q .next s') acc C) hcell hkind self (fun D C h₃ tk₃ a1 a2 a3 a4 a5 a6 a7 a8 => codeAny_mono (loop D C h₃ tk₃ a1 a2 a3 a4 a5 a6 a7 a8) fun r s' hr => ?_)
  obtain ⟨h', tk', rfl, rfl, k⟩ := hr
  show wpAny _ A (assign (.Name y py) env (.ref D)) _ _ _
  refine wpAny_assign_Name (wpAny_mono k (fun _ s'' h'' => ?_) fun _ _ x => x)
  obtain ⟨h₅, tk₅, m, rfl, hn, k'⟩ := h''
  exact ⟨m, hn, k'⟩

/-- a comprehension's turns, over an iterator, by what holds between them -/
theorem compGo {elt target iter : Expr} {ifs : List Expr} {scope : Scope} {pos : Pos} {I D : Addr} {fp wr : List Addr} {n : Nat} {P : Nat → Value → Prop} {Sx : Nat → Heap → Prop} {R : Result → Shared → Prop}
    (W : Walks prog w A I fp wr n P Sx) (J : Nat → Heap → Prop) (hst : Sx 0 hp) (hJ : J 0 hp)
    (turn : ∀ i v h₁ h₂ tk₂ E', i < n → P i v → J i h₁ → (∀ b o, b ∉ wr → h₁.get? b = some o → h₂.get? b = some o) → Sx (i + 1) h₂ →
      wpAny (model prog w) A (letOwnedTupleGo target (.ref I) v) (fun _ s' => wpAny (model prog w) A (assign target env v) (fun _ s₂ =>
        wpAny (model prog w) A (forIn ifs true fun c r => if r = true then do let ok ← isTrue c env (eval c env); pure (ForInStep.yield ok) else pure (ForInStep.yield r)) (fun ok s₃ =>
          if ok = true then wpAny (model prog w) A (eval elt env) (fun x s₄ => wpAny (model prog w) A (call (.builtin "list.append") [.ref D, x]) (fun _ s₅ => ∃ h' tk', s₅ = St s h' tk' ∧ Sx (i + 1) h' ∧ J (i + 1) h') E' s₄) E' s₃
          else ∃ h' tk', s₃ = St s h' tk' ∧ Sx (i + 1) h' ∧ J (i + 1) h') E' s₂) E' s') E' (St s h₂ tk₂))
    (done : ∀ h₁ h₂ tk₂, J n h₁ → (∀ b o, b ∉ wr → h₁.get? b = some o → h₂.get? b = some o) → R (.ok .next) (St s h₂ tk₂)) :
    codeAny (model prog w) A (.compLoop (.ListComp elt [⟨target, iter, ifs, 0⟩] scope pos) 0 (.ref I) (.ref D) env) R (St s hp tk) := by
  refine codeAny_loop rfl (fun k s' => ∃ i h' tk', s' = St s h' tk' ∧ i ≤ n ∧ k = n + 1 - i ∧ Sx i h' ∧ J i h') ?_ (n + 1) ⟨0, hp, tk, rfl, Nat.zero_le _, rfl, hst, hJ⟩
  rintro k _ ⟨i, h', tk', rfl, hi, rfl, hst', hJ'⟩
  show wpAny _ A ((compTurn (.ListComp elt [⟨target, iter, ifs, 0⟩] scope pos) 0 (.ref I) (.ref D) env).onRaise (fun x => do noteFrame x env; theTreesLotGoes x)) _ _ _
  refine wpAny_noted ?_
  rw [compTurn_list]
  refine wpAny_bind (wpAny_standAt (wpAny_bind ?_))
  by_cases hlt : i < n
  · refine W.item i _ _ _ hlt hst' (fun v h₂ tk₂ hPv hst₂ hk₂ => ?_)
    refine wpAny_bind (wpAny_mono (turn i v h' h₂ tk₂ _ hlt hPv hJ' hk₂ hst₂) (fun _ s' h1 => wpAny_bind (wpAny_mono h1 (fun _ s₂ h2 => wpAny_bind (wpAny_mono h2 (fun ok s₃ h3 => ?_) fun _ _ x => x)) fun _ _ x => x)) fun _ _ x => x)
    cases ok with
    | false =>
      obtain ⟨h₄, tk₄, rfl, e1, e2⟩ := h3
      exact wpAny_pure ⟨rfl, n + 1 - (i + 1), by omega, i + 1, h₄, tk₄, rfl, hlt, rfl, e1, e2⟩
    | true =>
      refine wpAny_bind (wpAny_bind (wpAny_mono h3 (fun x s₄ h4 => wpAny_bind (wpAny_mono h4 (fun _ s₅ h5 => ?_) fun _ _ x => x)) fun _ _ x => x))
      obtain ⟨h₄, tk₄, rfl, e1, e2⟩ := h5
      exact wpAny_pure (wpAny_pure ⟨rfl, n + 1 - (i + 1), by omega, i + 1, h₄, tk₄, rfl, hlt, rfl, e1, e2⟩)
  · have hin : i = n := by omega
    subst hin
    exact W.done _ _ _ hst' (fun h₂ tk₂ hk₂ => wpAny_pure (done h' h₂ tk₂ hJ' hk₂))
end
end Mine

end TxtL9

section TxtL10
open PySem PySem.W PyProof.Rows PySem.Calls
open PyProof.Rows.TI (gone gone_get gone_none gone_some)
namespace Mine

theorem paired_snoc_filter {F : Value → Value → Prop} {vals : List Value} {p : Value → Bool} {i : Nat} {v : Value} {ys : List Value} (h : Paired F ((vals.take i).filter p) ys) (hv : vals[i]? = some v) :
    (p v = false → Paired F ((vals.take (i + 1)).filter p) ys) ∧ (∀ y, p v = true → F v y → Paired F ((vals.take (i + 1)).filter p) (ys ++ [y])) := by
  have e : vals.take (i + 1) = vals.take i ++ [v] := by rw [List.take_add_one, hv]; rfl
  rw [e, List.filter_append]
  refine ⟨fun hp => ?_, fun y hp hF => ?_⟩
  · simpa [hp] using h
  · simpa [hp] using Paired.snoc h hF

section
variable {prog : Program} {w : World} {A : Around} {E : Value → Shared → Prop} {s : Shared} {env : Env}

/-- what is asked of a comprehension over known values, its element no object of its own -/
structure Quiet (prog : Program) (w : World) (A : Around) (s : Shared) (h₁ : Heap) (env : Env) (scope : Scope) (cl : List (Str × Addr)) (x : Str) (ifs : List Expr) (elt : Expr) (vals : List Value) (p : Value → Bool) (F : Value → Value → Prop) : Prop where
  test : ∀ C h₃ tk₃ m₃ v Q' E', v ∈ vals → h₃.Ns C m₃ → m₃ x = some v → Ext h₁ h₃ → h₁.objs.size ≤ C → (∀ tk', Q' (p v) (St s h₃ tk')) →
    wpAny (model prog w) A (forIn ifs true fun c r => if r = true then do let ok ← isTrue c (compEnvC scope cl C env) (eval c (compEnvC scope cl C env)); pure (ForInStep.yield ok) else pure (ForInStep.yield r)) Q' E' (St s h₃ tk₃)
  elt : ∀ C h₃ tk₃ m₃ v Q' E', v ∈ vals → p v = true → h₃.Ns C m₃ → m₃ x = some v → Ext h₁ h₃ → h₁.objs.size ≤ C → (∀ y h₄ tk₄, F v y → Ext h₃ h₄ → Q' y (St s h₄ tk₄)) →
    wpAny (model prog w) A (eval elt (compEnvC scope cl C env)) Q' E' (St s h₃ tk₃)

/-- the loop of a comprehension, over any iterator whose values are known -/
theorem compLoopX {elt iter : Expr} {x : Str} {px : Pos} {ifs : List Expr} {scope : Scope} {cl : List (Str × Addr)} {pos : Pos} {I D C : Addr} {fp wr : List Addr} {Sx : Nat → Heap → Prop} {vals : List Value} {p : Value → Bool} {F : Value → Value → Prop}
    {h₁ h₃ : Heap} {tk₃ : Nat} {m₀ : Str → Option Value} {R : Result → Shared → Prop}
    (W : Walks prog w A I fp wr vals.length (fun i v => vals[i]? = some v) Sx) (hlen : vals.length ≤ sizeLine)
    (hkind : scope.kind = .function) (hx : scope.names.lookup x = some .local)
    (hwr : ∀ b ∈ wr, h₁.get? b = none) (hCf : C ∉ fp) (hDf : D ∉ fp) (hDC : D ≠ C) (hD1 : h₁.get? D = none) (hC1 : h₁.objs.size ≤ C)
    (hst : Sx 0 h₃) (hE : Ext h₁ h₃) (hD : PlainL h₃ D #[]) (hC : h₃.Ns C m₀)
    (q : Quiet prog w A s h₁ env scope cl x ifs elt vals p F)
    (done : ∀ h' tk' m ys, Ext h₁ h' → PlainL h' D ys.toArray → h'.Ns C m → Paired F (vals.filter p) ys → R (.ok .next) (St s h' tk')) :
    codeAny (model prog w) A (.compLoop (.ListComp elt [⟨.Name x px, iter, ifs, 0⟩] scope pos) 0 (.ref I) (.ref D) (compEnvC scope cl C env)) R (St s h₃ tk₃) := by
  have hCw : C ∉ wr := fun h => hCf (W.sub _ h)
  have hDw : D ∉ wr := fun h => hDf (W.sub _ h)
  refine compGo W (fun i h => ∃ ys m, PlainL h D (ys : List Value).toArray ∧ h.Ns C m ∧ Paired F ((vals.take i).filter p) ys ∧ Ext h₁ h) hst ⟨[], m₀, hD, hC, by simpa using Paired.nil, hE⟩ ?_ ?_
  · rintro i v h h₂ tk₂ E' hi hv ⟨ys, m, hD', hC', hP, hE'⟩ hk hst₂
    have hD₂ : PlainL h₂ D ys.toArray := let ⟨o, n, e, r⟩ := hD'; ⟨o, n, hk _ _ hDw e, r⟩
    have hC₂ : h₂.Ns C m := let ⟨o, es, ep, e, r⟩ := hC'; ⟨o, es, ep, hk _ _ hCw e, r⟩
    have hE₂ : Ext h₁ h₂ := fun b o e => hk b o (fun hb => by rw [hwr b hb] at e; cases e) (hE' b o e)
    have F₂ : Fr h₁ C h₂ m := ⟨hC₂, hE₂, hC1⟩
    refine wpAny_pure (wpAny_assign_Name (stL (env := compEnvC scope cl C env) F₂ (fun h₅ tk₅ F₅ S₅ => ?_) (by simp [compEnvC, relabel, hkind]) (lookup_relabel_local hx)))
    have hD₅ : PlainL h₅ D ys.toArray := plain_set hD₂ hC₂ S₅
    have hst₅ : Sx (i + 1) h₅ := W.frame _ _ _ hst₂ fun b hb o e => S₅.extBut b o (fun h => hCf (by have h : b = C := h; exact h ▸ hb)) e
    have hmem : v ∈ vals := List.mem_of_getElem? hv
    refine q.test C h₅ tk₅ _ v _ E' hmem F₅.ns upd_self F₅.keep hC1 (fun tk₆ => ?_)
    have hpp := paired_snoc_filter hP hv
    cases hpv : p v with
    | false => exact ⟨h₅, tk₆, rfl, hst₅, ys, _, hD₅, F₅.ns, hpp.1 hpv, F₅.keep⟩
    | true =>
      rw [if_pos rfl]
      refine q.elt C h₅ tk₆ _ v _ E' hmem hpv F₅.ns upd_self F₅.keep hC1 (fun y h₆ tk₇ hFy hE₆ => ?_)
      have hD₆ := hD₅.keeps hE₆
      have hys : ys.length ≤ sizeLine := by
        have e1 := hP.length
        have e2 : ((vals.take i).filter p).length ≤ (vals.take i).length := List.length_filter_le _ _
        rw [List.length_take] at e2
        omega
      refine list_append_plainL hD₆ (fun h₇ hD₇ S₇ => ?_) (by simpa using hys)
      refine ⟨h₇, tk₇, rfl, W.frame _ _ _ hst₅ fun b hb o e => S₇.extBut b o (fun h => hDf (h ▸ hb)) (hE₆ _ _ e), ys ++ [y], _, by simpa using hD₇, (F₅.ns.keeps hE₆).sameBut S₇ hDC.symm, hpp.2 y hpv hFy, fun b o e => S₇.extBut b o (by rintro rfl; rw [hD1] at e; cases e) (hE₆ _ _ (F₅.keep _ _ e))⟩
  · rintro h h₂ tk₂ ⟨ys, m, hD', hC', hP, hE'⟩ hk
    refine done h₂ tk₂ m ys (fun b o e => hk b o (fun hb => by rw [hwr b hb] at e; cases e) (hE' b o e)) (let ⟨o, n, e, r⟩ := hD'; ⟨o, n, hk _ _ hDw e, r⟩) (let ⟨o, es, ep, e, r⟩ := hC'; ⟨o, es, ep, hk _ _ hCw e, r⟩) ?_
    rwa [List.take_of_length_le (Nat.le_refl _)] at hP

/-- a list walked: the iterator, and what it is to the loop -/
theorem iterList {ax : Addr} {vals : List Value} {h₁ : Heap} {tk₁ : Nat} {Q : Value → Shared → Prop} (hh : A.handled = none) (hl : h₁.IsList ax vals.toArray)
    (h : ∀ I h₂, Ext h₁ h₂ → h₁.get? I = none → I < h₂.objs.size → h₁.objs.size ≤ h₂.objs.size → Walks prog w A I [I, ax] [I] vals.length (fun i v => vals[i]? = some v) (fun i h => h.IsListIter I ax i ∧ h.IsList ax vals.toArray) →
      h₂.IsListIter I ax 0 → h₂.IsList ax vals.toArray → Q (.ref I) (St s h₂ tk₁)) :
    wpAny (model prog w) A (pyIter (.ref ax)) Q E (St s h₁ tk₁) := by
  refine wpAny_pyIter_list hl ?_
  have hax : ax < h₁.objs.size := by obtain ⟨o, e, _⟩ := hl; exact Heap.lt_size e
  have W := Walks.list (prog := prog) (w := w) (A := A) hh h₁.objs.size ax (Nat.ne_of_lt hax) vals.toArray
  simp only [List.size_toArray, List.getElem?_toArray] at W
  refine h _ _ (ext_push _) (get_size_none _) (by rw [Heap.size_push]; exact Nat.lt_succ_self _) (by rw [Heap.size_push]; exact Nat.le_succ _) W ⟨_, Heap.get?_push_size _ rfl, rfl, rfl⟩ (list_ext hl (ext_push _))

/-- [elt for x in xs if ..] as a value -/
theorem compList {elt iter : Expr} {x : Str} {px : Pos} {ifs : List Expr} {scope : Scope} {cl : List (Str × Addr)} {pos : Pos} {hp : Heap} {tk : Nat} {Q : Value → Shared → Prop} (hh : A.handled = none)
    (hclos : closureFor scope env = pure cl) (hcell : ∀ y ∈ scope.names, y.2 ≠ .cell) (hkind : scope.kind = .function)
    (hnames : ∀ y ∈ scope.names, y.2 = .local → scope.names.lookup y.1 = some .local) (hx : scope.names.lookup x = some .local)
    (h : wpAny (model prog w) A (eval iter env) (fun xv s₁ => ∃ ax h₁ tk₁ vals p F, xv = .ref ax ∧ s₁ = St s h₁ tk₁ ∧ h₁.IsList ax (vals : List Value).toArray ∧ vals.length ≤ sizeLine ∧ Quiet prog w A s h₁ env scope cl x ifs elt vals p F ∧
      ∀ D h' tk' ys, Ext h₁ h' → PlainL h' D (ys : List Value).toArray → h₁.get? D = none → Paired F (vals.filter p) ys → Q (.ref D) (St s h' tk')) E (St s hp tk))
    (hs : ∀ x, foldedSetIterable iter env x = pure x := by intro _; rfl) :
    wpAny (model prog w) A (eval (.ListComp elt [⟨.Name x px, iter, ifs, 0⟩] scope pos) env) Q E (St s hp tk) := by
  refine listComp hclos hcell hkind hnames (wpAny_mono h (fun xv s₁ h₁ => ?_) fun _ _ x => x) hs
  obtain ⟨ax, h₁, tk₁, vals, p, F, rfl, rfl, hl, hlen, q, k⟩ := h₁
  refine iterList hh hl (fun I h₂ hE₂ hI hI2 hsz W hit hl₂ => ⟨I, h₂, tk₁, rfl, rfl, fun h₃ tk₃ Q' E' hE₃ hQ => W.self 0 _ _ _ ⟨let ⟨o, e, r⟩ := hit; ⟨o, hE₃ _ _ e, r⟩, list_ext hl₂ hE₃⟩ hQ, ?_⟩)
  intro D C h₃ tk₃ hDC hD hC hDs hCs hE₃ hpl hns
  have hax : ax < h₂.objs.size := by obtain ⟨o, e, _⟩ := hl₂; exact Heap.lt_size e
  have hD1 : h₁.get? D = none := by
    cases hq : h₁.get? D with
    | none => rfl
    | some o => rw [hE₂ _ _ hq] at hD; cases hD
  refine compLoopX W hlen hkind hx (by simpa using hI) (by simp only [List.mem_cons, List.not_mem_nil, or_false, not_or]; exact ⟨Nat.ne_of_gt (Nat.lt_of_lt_of_le hI2 hCs), Nat.ne_of_gt (Nat.lt_of_lt_of_le hax hCs)⟩)
    (by simp only [List.mem_cons, List.not_mem_nil, or_false, not_or]; exact ⟨Nat.ne_of_gt (Nat.lt_of_lt_of_le hI2 hDs), Nat.ne_of_gt (Nat.lt_of_lt_of_le hax hDs)⟩) hDC hD1 (Nat.le_trans hsz hCs) ⟨let ⟨o, e, r⟩ := hit; ⟨o, hE₃ _ _ e, r⟩, list_ext hl₂ hE₃⟩ (Ext.trans' hE₂ hE₃) hpl hns q ?_
  intro h' tk' m ys hE' hD' hC' hP
  refine ⟨h', tk', m, rfl, rfl, hC', fun h'' hs'' => k D h'' tk' ys (fun b o e => hs''.extBut b o (fun q => ?_) (hE' b o e)) (plain_set hD' hC' hs'') hD1 hP⟩
  have := Heap.lt_size e
  rw [q] at this
  exact absurd (Nat.le_trans hsz hCs) (Nat.not_le.mpr this)
end
end Mine

end TxtL10

section TxtL11
open PySem PySem.W PyProof.Rows PySem.Calls
open PyProof.Rows.TI (gone gone_get gone_none gone_some)
namespace Mine

/-- a call of a def of the text's that keeps cells -/
theorem callFnC {prog : Program} {w : World} {A : Around} {E : Value → Shared → Prop} {s : Shared} {hp : Heap} {tk : Nat} {K : Frag} {Q : Value → Shared → Prop} {name qual : Str} {params : Arguments} {body : List Stmt} {scope : Scope}
    {dV kV doc pm cdv ct oc : Value} {an od : Option Addr} {osl : Array (Option Value)} {f : Addr} {args : List Value} {binds : List (Str × Value)}
    (X : K.In hp) (hlim : hp.NoLimit) (hroom : A.depth < recursionLimit)
    (ho : K.lookup f = some ⟨oc, od, .func (fnOf name qual params body scope dV kV doc pm an cdv ct), osl⟩) (hcd : codeIn K cdv qual = true)
    (hbind : bindArgs (fnOf name qual params body scope dV kV doc pm an cdv ct) ⟨args, []⟩ = pure binds)
    (hkd : (binds.all fun y => scope.names.lookup y.1 == some .local || scope.names.lookup y.1 == some .cell) = true)
    (h : ∀ L h₁ tk', Fr hp L h₁ (bindL (envOfC qual scope L f cdv).kindOf binds fun _ => none) → L = hp.objs.size →
      (∀ n c, (cellsFrom (L + 1) scope.names []).lookup n = some c → h₁.IsCell c (bindC (envOfC qual scope L f cdv).kindOf binds (fun _ => none) n)) →
      wpAny (model prog w) (A.deeper (envOfC qual scope L f cdv)) (execs body (envOfC qual scope L f cdv))
        (fun fl s' => Q (match fl with | .ret v => v | _ => .none) s')
        (fun e s' => wpAny (model prog w) (A.deeper (envOfC qual scope L f cdv)) (leaving (envOfC qual scope L f cdv) e) (fun _ s'' => E e s'') (fun e' s'' => E e' s'') s')
        (St s h₁ tk'))
    (hco : scope.isCoroutine = false := by rfl) (hgen : scope.isGenerator = false := by rfl) (hk : scope.kind = .function := by rfl) :
    wpAny (model prog w) A (call (.ref f) args) Q E (St s hp tk) := by
  refine wpAny_call (codeAny_call_function hroom (X _ _ ho) rfl hco hgen rfl (codeRec_of X hcd) ?_)
  rw [hbind]
  refine wpAny_pure (wpAny_newFunctionEnv_cells hk (kindsX hkd _) fun env' he s' x => ?_)
  subst he
  refine ⟨hlim.keeps x.toInCall.keep, codeAny_func ?_⟩
  have hk₁ := x.toInCall.keep
  have hns := x.toInCall.ns
  have hce := x.cell
  obtain ⟨h₁, tk₁, rfl, _⟩ := x.done
  exact h hp.objs.size h₁ tk₁ ⟨hns, hk₁, Nat.le_refl _⟩ rfl hce

theorem cell_ext {h h' : Heap} {c : Addr} {v : Option Value} (x : h.IsCell c v) (k : Ext h h') : h'.IsCell c v := let ⟨o, e, r⟩ := x; ⟨o, k _ _ e, r⟩
theorem cell_set {h h' : Heap} {c L : Addr} {v : Option Value} {m : Str → Option Value} (x : h.IsCell c v) (hn : h.Ns L m) (hs : Heap.SameBut L h h') : h'.IsCell c v := by
  obtain ⟨o, e, r⟩ := x
  exact ⟨o, keep_set e (fun es n q => by rw [r] at q; cases q) hn hs, r⟩

section
variable {prog : Program} {w : World} {A : Around} {E : Value → Shared → Prop} {s : Shared} {hp : Heap} {tk : Nat} {Q : Value → Shared → Prop}
theorem oAddStr {x y : Str} {t u : Tok} (hl : x.length + y.length ≤ sizeLine) (h : ∀ t tk', Q (.str (x ++ y) t) (St s hp tk')) : wpAny (model prog w) A (binaryOp .Add (.str x t) (.str y u)) Q E (St s hp tk) :=
  PyProof.Rows.add_str (fun t' tk' => h t' tk') hl
theorem oStrInt {a : Int} {t : Tok} (ha : a.natAbs < 10 ^ 10) (h : ∀ t tk', Q (.str (toString a) t) (St s hp tk')) : wpAny (model prog w) A (call (.type "str") [.int a t]) Q E (St s hp tk) :=
  P.str_of_int (int_log ha) (h _ _)
theorem oLenL {a : Addr} {vs : List Value} (hl : hp.IsList a vs.toArray) (hn : vs.length ≤ sizeLine) (h : ∀ t tk', Q (.int vs.length t) (St s hp tk')) : wpAny (model prog w) A (call (.builtin "len") [.ref a]) Q E (St s hp tk) :=
  len_list hl (by have : sizeLine = 16777216 := rfl; simp only [List.size_toArray]; omega) (h _ _)

/-- what the law's own reckoning says of a place -/
def Told (st : List Int) (e p : Int) (r : Str) : Prop :=
  (e ≤ p ∧ r = "end of document") ∨
  (p < e ∧ ∃ sv, st[(st.filter (fun x => decide (x ≤ p))).length - 1]? = some sv ∧ r = ("line " : Str) ++ (toString ((st.filter (fun x => decide (x ≤ p))).length : Int) : Str) ++ (", column " : Str) ++ (toString (p - sv + 1) : Str))

theorem ints_mem {vs : List Value} {ns : List Int} (hi : IntsAre vs ns) : ∀ v ∈ vs, ∃ n t, v = .int n t := by
  induction hi with
  | nil => intro v hv; cases hv
  | cons n t _ ih =>
    intro v hv
    rcases List.mem_cons.mp hv with rfl | hv
    · exact ⟨n, t, rfl⟩
    · exact ih v hv
/-- the int in a value -/
def intIn : Value → Int
  | .int n _ => n
  | _ => 0
theorem filter_ints {vs : List Value} {ns : List Int} (hi : IntsAre vs ns) (q : Int → Bool) : (vs.filter fun v => q (intIn v)).length = (ns.filter q).length := by
  induction hi with
  | nil => rfl
  | cons n t _ ih =>
    simp only [List.filter_cons, intIn]
    by_cases h : q n = true
    · simp only [h, if_true, List.length_cons]; rw [← ih]; rfl
    · have h : q n = false := by simpa using h
      simp only [h, Bool.false_eq_true, if_false]; rw [← ih]; rfl

set_option maxHeartbeats 2000000 in
theorem place_call {mg mb : Str → Option Value} {k : Nat} {a : Addr} {st : List Int} {e p : Int} {t u : Tok} (G : Gr w mg mb hp) (c : Calm k A) (hk : k ≤ 50) (hl : LI hp a st) (hst : st.length ≤ 1000)
    (hsv : p < e → (st.filter (fun x => decide (x ≤ p))).length ≠ 0) (hb : ∀ x ∈ st, x.natAbs ≤ 100000) (hp' : p.natAbs ≤ 100000)
    (h : ∀ r t' h' tk', Ext hp h' → Told st e p r → r.length ≤ 100 → Q (.str r t') (St s h' tk')) :
    wpAny (model prog w) A (call (.ref 67) [.ref a, .int e t, .int p u]) Q E (St s hp tk) := by
  refine callFnC (binds := [("starts", .ref a), ("end", .int e t), ("place", .int p u)]) G.X G.lim c.room rfl rfl rfl rfl (fun L h₁ tk₁ F hLs hcell => ?_)
  have hc : h₁.IsCell (L + 1) (some (.int p u)) := hcell "place" (L + 1) rfl
  refine wpAny_execs_cons (wpAny_If (wpAny_isTrue_Compare1 (nmC rfl hc (nmL F.ns rfl (oGe (wpAny_truthy_bool ?_))))))
  split
  · rename_i hge
    have hge : p ≥ e := of_decide_eq_true hge
    exact wpAny_execs_cons (wpAny_Return_some (cStr fun _ _ => h _ _ _ _ F.keep (.inl ⟨hge, rfl⟩) (by decide)))
  · rename_i hge
    have hlt : p < e := by
      have : ¬ (p ≥ e) := fun q => hge (decide_eq_true q)
      omega
    refine wpAny_execs_nil ?_
    obtain ⟨vs, hL, hi⟩ := id hl
    refine wpAny_execs_cons (wpAny_Assign_Name (wpAny_Call_NameR (nmB (G.keeps F.keep) rfl boot_len (by decide) (callWith_builtin1 (args_cons ?_)))))
    refine compList (c.deeper _).hh rfl (by decide) rfl (by decide) rfl (nmL F.ns rfl ⟨a, h₁, _, vs, fun v => decide (intIn v ≤ p), fun v y => y = v, rfl, rfl, list_ext hL F.keep, ?_, ⟨?_, ?_⟩, ?_⟩)
    · rw [hi.length]; exact Nat.le_trans hst (by decide)
    · intro C h₃ tk₃ m₃ v Q' E' hv hn hm hE hC hQ
      obtain ⟨n, tn, rfl⟩ := ints_mem hi v hv
      exact wpAny_tests_one (wpAny_isTrue_Compare1 (nmL hn hm (nmC rfl (cell_ext hc hE) (oLe (wpAny_truthy_bool (hQ _))))))
    · intro C h₃ tk₃ m₃ v Q' E' hv hpv hn hm hE hC hQ
      exact nmL hn hm (hQ _ _ _ rfl Ext.rfl')
    · intro D h₂ tk₂ ys hE₂ hD hD1 hP
      have hlen : ys.length = (st.filter (fun x => decide (x ≤ p))).length := by rw [← hP.length]; exact filter_ints hi (fun x => decide (x ≤ p))
      have hfl : (st.filter (fun x => decide (x ≤ p))).length ≤ st.length := List.length_filter_le _ _
      refine args_nil (oLenL hD.isList (by rw [hlen]; exact Nat.le_trans (Nat.le_trans hfl hst) (by decide)) fun t₃ tk₃ => ?_)
      rw [hlen]
      have hne := hsv hlt
      obtain ⟨sv, hsvx⟩ : ∃ sv, st[(st.filter (fun x => decide (x ≤ p))).length - 1]? = some sv := ⟨_, List.getElem?_eq_getElem (by omega)⟩
      have hsb := hb sv (List.mem_of_getElem? hsvx)
      obtain ⟨ln, hln⟩ : ∃ ln, (st.filter (fun x => decide (x ≤ p))).length = ln := ⟨_, rfl⟩
      rw [hln] at hlen hfl hne hsvx ⊢
      refine stL (frx F hE₂) (fun h₄ tk₄ F₄ S₄ => ?_)
      have hc₄ := cell_set (cell_ext hc hE₂) (frx F hE₂).ns S₄
      have G₄ := G.keeps F₄.keep
      have e1 := int_len (a := (ln : Int)) (by omega)
      have e2 := int_len (a := p - sv + 1) (by omega)
      have l1 : (Str.ofString "line ").length = 5 := by decide +kernel
      have l2 : (Str.ofString ", column ").length = 9 := by decide +kernel
      have sl : sizeLine = 16777216 := rfl
      refine wpAny_execs_cons (wpAny_Return_some (wpAny_BinOp (wpAny_BinOp (wpAny_BinOp (cStr fun _ _ => wpAny_Call_NameR (nmB G₄ rfl PyProof.Rows.boot_str (by decide) (PyProof.Rows.callWith_type1 (args_cons (nmL F₄.ns upd_self (args_nil (oStrInt (by omega) fun _ _ => oAddStr (by omega) fun _ _ => cStr fun _ _ => oAddStr ?_ fun _ _ => ?_)))))))))))
      · rw [PySem.Str.length_append]; omega
      refine wpAny_Call_NameR (nmB G₄ rfl PyProof.Rows.boot_str (by decide) (PyProof.Rows.callWith_type1 (args_cons (wpAny_BinOp (wpAny_BinOp (nmC rfl hc₄ (Subscript_ (nmL F₄.ns rfl (wpAny_BinOp (nmL F₄.ns upd_self (cInt fun _ _ => oSub fun _ _ => itemLI (n := sv) (hl.ext F₄.keep) (by omega) (by omega) ?_ fun _ => oSub fun _ _ => cInt fun _ _ => oAdd fun _ _ => args_nil (oStrInt (by omega) fun _ _ => oAddStr ?_ fun t₅ tk₅ => ?_))))))))))))
      · rw [← hsvx]; congr 1; omega
      · rw [PySem.Str.length_append, PySem.Str.length_append]; omega
      · refine h _ t₅ h₄ tk₅ F₄.keep (.inr ⟨hlt, sv, by rw [hln]; exact hsvx, by rw [hln]⟩) ?_
        rw [PySem.Str.length_append, PySem.Str.length_append, PySem.Str.length_append]; omega
end
end Mine

end TxtL11

section TxtL12
open PySem PySem.W PyProof.Rows PySem.Calls
open PyProof.Rows.TI (gone gone_get gone_none gone_some)
namespace Mine

theorem ints_all {ys : List Value} (h : ∀ v ∈ ys, ∃ n t, v = .int n t) : IntsAre ys (ys.map intIn) := by
  induction ys with
  | nil => exact .nil
  | cons y ys ih =>
    obtain ⟨n, t, rfl⟩ := h y List.mem_cons_self
    exact .cons n t (ih fun v hv => h v (List.mem_cons_of_mem _ hv))

/-- a number or None -/
def NumOr (v : Value) : Prop := v = .none ∨ ∃ n t, v = .int n t ∧ 0 < n ∧ n < 1000000000

/-- how wide the numbers of a table are -/
def WidthIs (vs : List Value) (r : Int) : Prop :=
  ((∀ v ∈ vs, v = .none) ∧ r = 0) ∨
  ∃ g t, Value.int g t ∈ vs ∧ (∀ n u, Value.int n u ∈ vs → n ≤ g) ∧ ((.none ∈ vs ∧ r = max 4 ((toString g : Str).length : Int)) ∨ (.none ∉ vs ∧ r = max 3 ((toString g : Str).length : Int)))

theorem WidthIs.uniq {vs : List Value} {r r' : Int} (a : WidthIs vs r) (b : WidthIs vs r') : r = r' := by
  rcases a with ⟨a1, a2⟩ | ⟨g, t, a1, a2, a3⟩ <;> rcases b with ⟨b1, b2⟩ | ⟨g', t', b1, b2, b3⟩
  · omega
  · have := a1 _ b1; cases this
  · have := b1 _ a1; cases this
  · have e : g = g' := by have := a2 _ _ b1; have := b2 _ _ a1; omega
    subst e
    rcases a3 with ⟨x, rfl⟩ | ⟨x, rfl⟩ <;> rcases b3 with ⟨y, rfl⟩ | ⟨y, rfl⟩
    · rfl
    · exact absurd x y
    · exact absurd y x
    · rfl

section
variable {prog : Program} {w : World} {A : Around} {E : Value → Shared → Prop} {s : Shared} {hp : Heap} {tk : Nat} {Q : Value → Shared → Prop}

theorem maxLI {a : Addr} {ns : List Int} (hh : A.handled = none) (hl : LI hp a ns) (hne : 0 < ns.length) (h : ∀ g t h' tk', g ∈ ns → (∀ n ∈ ns, n ≤ g) → Ext hp h' → Q (.int g t) (St s h' tk')) :
    wpAny (model prog w) A (call (.builtin "max") [.ref a]) Q E (St s hp tk) := by
  obtain ⟨vs, hl, hi⟩ := hl
  obtain ⟨xs, e⟩ := hi.allInts.items
  have hns : ns = xs.toList.map (·.1) := by
    rw [← hi.numsOf, ← nums_intItems, ← e]
  have hsz : 0 < xs.size := by
    have h3 := hne; rw [hns, List.length_map, Array.length_toList] at h3; exact h3
  rw [e] at hl
  refine max_intList hh hl hsz fun v h' tk hv hk => ?_
  obtain ⟨t, rfl⟩ := intItems_at hv
  obtain ⟨h1, h2⟩ := argBest_gt (numAt xs) (xs.size - 1)
  refine h _ t h' tk ?_ (fun a ha => ?_) hk
  · rw [hns, numAt_eq]; exact getD_mem (by rw [List.length_map, Array.length_toList]; omega)
  · rw [hns] at ha
    obtain ⟨j, hj, rfl⟩ := mem_getD ha
    rw [List.length_map, Array.length_toList] at hj
    rw [← numAt_eq]; exact h2 j (by omega)

theorem oIsNone {v : Value} (hv : NumOr v) (h : Q (.bool (v == .none)) (St s hp tk)) : wpAny (model prog w) A (compareOp .Is v .none) Q E (St s hp tk) := by
  rcases hv with rfl | ⟨n, t, rfl, _⟩
  · exact wpAny_is_plain rfl h
  · exact wpAny_is_plain rfl h
theorem oNotNone {v : Value} (hv : NumOr v) (h : Q (.bool (!(v == .none))) (St s hp tk)) : wpAny (model prog w) A (compareOp .IsNot v .none) Q E (St s hp tk) := by
  rcases hv with rfl | ⟨n, t, rfl, _⟩
  · exact wpAny_isNot_plain rfl h
  · exact wpAny_isNot_plain rfl h

theorem paired_eq {vs ys : List Value} (h : Paired (fun v y => y = v) vs ys) : ys = vs := by
  induction h with
  | nil => rfl
  | cons e _ ih => rw [e, ih]

set_option maxHeartbeats 2000000 in
theorem width_call {mg mb : Str → Option Value} {k : Nat} {a : Addr} {vs : List Value} (G : Gr w mg mb hp) (c : Calm k A) (hk : k ≤ 50) (hl : hp.IsList a vs.toArray) (hst : vs.length ≤ 1000)
    (hv : ∀ v ∈ vs, NumOr v) (h : ∀ r t' h' tk', Ext hp h' → WidthIs vs r → Q (.int r t') (St s h' tk')) :
    wpAny (model prog w) A (call (.ref 72) [.ref a]) Q E (St s hp tk) := by
  have sl : sizeLine = 16777216 := rfl
  refine callFn (binds := [("numbers", .ref a)]) G.X G.lim c.room rfl rfl rfl (locs rfl) (fun L h₁ tk₁ F hLs => ?_)
  refine wpAny_execs_cons (wpAny_Assign_Name (wpAny_Call_NameR (nmB (G.keeps F.keep) rfl boot_max (by decide) (callWith_builtin1 (args_cons (wpAny_BinOp (dList (wpAny_items_cons (cInt fun t₁ _ => wpAny_items_nil ⟨small, _, _, rfl, fun a₁ h₂ E₂ hl₂ => ?_⟩)))))))))
  refine compList (c.deeper _).hh rfl (by decide) rfl (by decide) rfl (nmL (F.ns.keeps E₂) rfl ⟨a, h₂, _, vs, fun v => !(v == .none), fun v y => y = v, rfl, rfl, list_ext hl (Ext.trans' F.keep E₂), by omega, ⟨?_, ?_⟩, ?_⟩)
  · intro C h₃ tk₃ m₃ v Q' E' hv' hn hm hE hC hQ
    exact wpAny_tests_one (wpAny_isTrue_Compare1 (nmL hn hm (cNone (oNotNone (hv v hv') (wpAny_truthy_bool (hQ _))))))
  · intro C h₃ tk₃ m₃ v Q' E' hv hpv hn hm hE hC hQ
    exact nmL hn hm (hQ _ _ _ rfl Ext.rfl')
  intro D h₃ tk₃ ys hE₃ hD hD1 hP
  have eys := paired_eq hP
  subst eys
  have hys : ∀ v ∈ vs.filter (fun v => !(v == .none)), ∃ n t, v = .int n t ∧ v ∈ vs ∧ 0 < n ∧ n < 1000000000 := by
    intro v hm
    obtain ⟨h1, h2⟩ := List.mem_filter.mp hm
    rcases hv v h1 with rfl | ⟨n, t, rfl, h3, h4⟩
    · simp at h2
    · exact ⟨n, t, rfl, h1, h3, h4⟩
  have hfl : (vs.filter (fun v => !(v == .none))).length ≤ vs.length := List.length_filter_le _ _
  refine addL (list_ext hl₂ hE₃) hD.isList (fun a₂ h₄ E₄ hl₄ => ?_) (by simp only [List.length_cons, List.length_nil]; omega)
  have hI : LI h₄ a₂ (0 :: (vs.filter (fun v => !(v == .none))).map intIn) := ⟨_, hl₄, .cons 0 t₁ (ints_all fun v hm => let ⟨n, t, e, _⟩ := hys v hm; ⟨n, t, e⟩)⟩
  refine args_nil (maxLI (c.deeper _).hh hI (by simp) fun g t₂ h₅ tk₅ hg hmx E₅ => ?_)
  have F₅ := frx F (Ext.trans' E₂ (Ext.trans' hE₃ (Ext.trans' E₄ E₅)))
  refine stL F₅ (fun h₆ tk₆ F₆ S₆ => ?_)
  have hall : ∀ n u, Value.int n u ∈ vs → n ≤ g := fun n u hm => hmx n (List.mem_cons_of_mem _ (List.mem_map.mpr ⟨.int n u, List.mem_filter.mpr ⟨hm, rfl⟩, rfl⟩))
  refine wpAny_execs_cons (wpAny_If (wpAny_isTrue_Compare1 (nmL F₆.ns upd_self (cInt fun _ _ => oEq (wpAny_truthy_bool ?_)))))
  split
  · rename_i hg0
    have hg0 : g = 0 := by simpa using hg0
    refine wpAny_execs_cons (wpAny_Return_some (cInt fun _ _ => h _ _ _ _ F₆.keep (.inl ⟨fun v hm => ?_, rfl⟩)))
    rcases hv v hm with rfl | ⟨n, t, rfl, h3, h4⟩
    · rfl
    · have := hall n t hm; omega
  · rename_i hg0
    have hg0 : g ≠ 0 := by simpa using hg0
    refine wpAny_execs_nil ?_
    obtain ⟨gt, hgm, hgp, hgl⟩ : ∃ t, Value.int g t ∈ vs ∧ 0 < g ∧ g < 1000000000 := by
      rcases List.mem_cons.mp hg with e | hm
      · exact absurd e hg0
      · obtain ⟨v, h1, h2⟩ := List.mem_map.mp hm
        obtain ⟨n, t, rfl, h3, h4⟩ := hys v h1
        have h2 : n = g := h2
        subst h2
        exact ⟨t, h3, h4⟩
    have e1 := int_len (a := g) (by omega)
    have G₆ := G.keeps F₆.keep
    refine wpAny_execs_cons (wpAny_Return_some (wpAny_Call_NameR (nmB G₆ rfl boot_max (by decide) (callWith_builtin1 (args_cons (wpAny_BinOp (dList (wpAny_items_cons (cInt fun t₇ tk₇ => wpAny_items_cons ?_)))))))))
    refine wpAny_Call_NameR (nmB G₆ rfl boot_len (by decide) (callWith_builtin1 (args_cons (wpAny_Call_NameR (nmB G₆ rfl PyProof.Rows.boot_str (by decide) (PyProof.Rows.callWith_type1 (args_cons (nmL F₆.ns upd_self (args_nil (oStrInt (by omega) fun _ _ => args_nil ?_))))))))))
    refine oLenStr (by omega) fun t₈ _ => wpAny_items_nil ⟨small, _, _, rfl, fun a₇ h₇ E₇ hl₇ => ?_⟩
    refine compList (c.deeper _).hh rfl (by decide) rfl (by decide) rfl (nmL (F₆.ns.keeps E₇) rfl ⟨a, h₇, _, vs, fun v => v == .none, fun v y => ∃ t, y = .int 4 t, rfl, rfl, list_ext hl (Ext.trans' F₆.keep E₇), by omega, ⟨?_, ?_⟩, ?_⟩)
    · intro C h₃ tk₃ m₃ v Q' E' hv' hn hm hE hC hQ
      exact wpAny_tests_one (wpAny_isTrue_Compare1 (nmL hn hm (cNone (oIsNone (hv v hv') (wpAny_truthy_bool (hQ _))))))
    · intro C h₃ tk₃ m₃ v Q' E' hv hpv hn hm hE hC hQ
      exact cInt fun t _ => hQ _ _ _ ⟨t, rfl⟩ Ext.rfl'
    intro D h₈ tk₈ zs hE₈ hD hD1 hP
    have hz4 : ∀ {us zs : List Value}, Paired (fun _ y => ∃ t, y = Value.int 4 t) us zs → (∀ v ∈ zs, ∃ t, v = .int 4 t) := by
      intro us zs hP
      induction hP with
      | nil => intro v hv; cases hv
      | cons e _ ih =>
        intro v hv
        rcases List.mem_cons.mp hv with rfl | hv
        · exact e
        · exact ih v hv
    have hzl := hP.length
    have hfl : (vs.filter (fun v => v == .none)).length ≤ vs.length := List.length_filter_le _ _
    refine addL (list_ext hl₇ hE₈) hD.isList (fun a₉ h₉ E₉ hl₉ => ?_) (by simp only [List.length_cons, List.length_nil]; omega)
    have hI : LI h₉ a₉ (3 :: ((toString g : Str).length : Int) :: zs.map intIn) := ⟨_, hl₉, .cons 3 t₇ (.cons _ t₈ (ints_all fun v hm => let ⟨t, e⟩ := hz4 hP v hm; ⟨4, t, e⟩))⟩
    refine args_nil (maxLI (c.deeper _).hh hI (by simp) fun r tr h₁₀ tk₁₀ hr hrx E₁₀ => ?_)
    refine h _ _ _ _ (Ext.trans' F₆.keep (Ext.trans' E₇ (Ext.trans' hE₈ (Ext.trans' E₉ E₁₀)))) (.inr ⟨g, gt, hgm, hall, ?_⟩)
    have r3 := hrx 3 (by simp)
    have rl := hrx ((toString g : Str).length : Int) (by simp)
    have hz : ∀ n ∈ zs.map intIn, n = 4 := by
      intro n hn
      obtain ⟨v, h1, rfl⟩ := List.mem_map.mp hn
      obtain ⟨t, rfl⟩ := hz4 hP v h1
      rfl
    by_cases hnn : Value.none ∈ vs
    · refine .inl ⟨hnn, ?_⟩
      have : 0 < zs.length := by
        rw [← hzl]
        exact List.length_pos_of_mem (List.mem_filter.mpr ⟨hnn, rfl⟩)
      have r4 : 4 ≤ r := by
        cases zs with
        | nil => simp at this
        | cons z zs =>
          have := hz (intIn z) (by simp)
          have := hrx (intIn z) (by simp)
          omega
      rcases List.mem_cons.mp hr with e | hr
      · omega
      rcases List.mem_cons.mp hr with e | hr
      · omega
      have := hz r hr; omega
    · refine .inr ⟨hnn, ?_⟩
      have : zs = [] := by
        apply List.eq_nil_of_length_eq_zero
        rw [← hzl, List.length_eq_zero_iff, List.filter_eq_nil_iff]
        intro v hv' e
        have e2 : v = .none := by simpa using e
        exact hnn (e2 ▸ hv')
      subst this
      rcases List.mem_cons.mp hr with e | hr
      · omega
      rcases List.mem_cons.mp hr with e | hr
      · omega
      cases hr
end
end Mine

end TxtL12

section TxtL13
open PySem PySem.W PyProof.Rows PySem.Calls
open PyProof.Rows.TI (gone gone_get gone_none gone_some)
namespace Mine
namespace FF
theorem owner_filter : Manifest.owners.lookup (String.ofList ['r', 'e', 't', 'l', 'i', 'f'].reverse) = some Manifest.sig_filter := by kernel_rfl
theorem slot_next : Slot "filter" "__next__" "filter.__next__" :=
  .of (owner := "filter") (n := "__next__") (by rw [typeLookup_type, builtinLookup_eq_fast]; kernel_rfl) (by decide +kernel) (by decide +kernel) (by decide +kernel)
    (by first | exact .inl (by decide +kernel) | exact .inr (by decide +kernel)) (by rw [isSubtype_type]; kernel_rfl)
theorem slot_iter : Slot "filter" "__iter__" "filter.__iter__" :=
  .of (owner := "filter") (n := "__iter__") (by rw [typeLookup_type, builtinLookup_eq_fast]; kernel_rfl) (by decide +kernel) (by decide +kernel) (by decide +kernel)
    (by first | exact .inl (by decide +kernel) | exact .inr (by decide +kernel)) (by rw [isSubtype_type]; kernel_rfl)
theorem slot_init : Slot "filter" "__init__" "object.__init__" :=
  .of (owner := "object") (n := "__init__") (by rw [typeLookup_type, builtinLookup_eq_fast]; kernel_rfl) (by decide +kernel) (by decide +kernel) (by decide +kernel)
    (by first | exact .inl (by decide +kernel) | exact .inr (by decide +kernel)) (by rw [isSubtype_type]; kernel_rfl)
theorem entry_next : entryFor table "filter.__next__" = some Builtin.«filter.__next__» := entryFor_of_tree (by kernel_rfl)
theorem entry_new : entryFor table "filter.__new__" = some Builtin.«filter.__new__» := entryFor_of_tree (by kernel_rfl)
theorem entry_iter : entryFor table "filter.__iter__" = some Builtin.«dict_keyiterator.__iter__» :=
  entryFor_alias (id' := "dict_keyiterator.__iter__") (by kernel_rfl) (by first | rfl | decide +kernel | (unfold String.splitOn; simp +decide [String.splitOnAux])) (by decide +kernel) (by kernel_rfl)
theorem args_next (a : Value) : argsOk "filter.__next__" ⟨[a], []⟩ := by
  unfold argsOk; rw [signature?_of (id := "filter.__next__") (n := ['_', '_', 't', 'x', 'e', 'n', '_', '_']) (o := ['r', 'e', 't', 'l', 'i', 'f']) (by kernel_rfl) owner_filter]; kernel_rfl
theorem args_iter (a : Value) : argsOk "filter.__iter__" ⟨[a], []⟩ := by
  unfold argsOk; rw [signature?_of (id := "filter.__iter__") (n := ['_', '_', 'r', 'e', 't', 'i', '_', '_']) (o := ['r', 'e', 't', 'l', 'i', 'f']) (by kernel_rfl) owner_filter]; kernel_rfl
theorem mro_filter : mroOf (.type "filter") = pure [.type "filter", .type "object"] := by rw [mroOf_type]; kernel_rfl
theorem lookup_new : typeLookup (.type "filter") "__new__" = pure (some (.builtin "filter.__new__")) := by rw [typeLookup_type, builtinLookup_eq_fast]; kernel_rfl
theorem called : TypeCalled "filter" "filter.__new__" "object.__init__" :=
  ⟨by decide +kernel, by decide +kernel, ⟨_, _, mro_filter⟩, madeBy_type mro_filter lookup_new (by decide +kernel), by decide +kernel, by rw [isSubtype_type]; kernel_rfl, slot_init⟩
theorem typeCall (a b : Value) : checkTypeCall "filter" ⟨[a, b], []⟩ = pure () := by kernel_rfl
theorem newCall (a b : Value) : checkBuiltinCall "filter.__new__" ⟨[.type "filter", a, b], []⟩ = pure () := by kernel_rfl
theorem sub : isSubtype (.type "filter") (.type "filter") = pure true := by rw [isSubtype_type]; kernel_rfl
theorem plain_next : plainId "filter.__next__" = true := by decide +kernel
end FF

abbrev IsFil (h : Heap) (f it : Addr) : Prop := h.get? f = some { cls := .type "filter", dict := none, data := .fields #[.none, .ref it], slots := #[] }

section
variable {prog : Program} {w : World} {K : Type} [DecidableEq K] {knd : KeyKind prog w K} {A : Around} {E : Value → Shared → Prop} {s : Shared}

theorem val_raw_item {it d : Addr} {i ep : Nat} {kvs : List (K × Value)} {k : K} {v : Value} {Q : Option Value → Shared → Prop} (hit : s.heap.IsValIter it d i kvs.length ep)
    (hm : s.heap.DictAt knd d kvs ep) (hx : kvs[i]? = some (k, v))
    (hQ : ∀ h', h'.IsValIter it d (i + 1) kvs.length ep → Heap.SameBut it s.heap h' → Q (some v) { s with heap := h' }) :
    wpAny (model prog w) A (callSpecial? (.ref it) "__next__") Q E s := by
  obtain ⟨o, ho, hc, hd⟩ := id hit
  obtain ⟨od, es, hod, hcd, hdd, hk, hp, hn⟩ := id hm
  refine wpAny_callSpecial?_slot (name := Str.ofString "__next__") hit.typeIs F.slot_dict_valueiterator_next
    (wpAny_call_entry F.slot_dict_valueiterator_next hit.typeIs F.entry_dict_valueiterator_next ?_ (F.args_dict_valueiterator_next_1 _))
  have hsz : es.size = kvs.length := by rw [← hp.length]; simp
  have hlt : i < kvs.length := (List.getElem?_eq_some_iff.mp hx).1
  have hlt' : i < es.size := by rw [hsz]; exact hlt
  have hval : es[i].val = v := (hp.get? (e := es[i]) (by simp [hlt']) hx).2
  have hown : Builtin.Dict_items.ownsTuple "dict_valueiterator" = false := by decide
  refine wpAny_bind (wpAny_pure (wpAny_bind (wpAny_bind (wpAny_bind (wpAny_typeNameOfWhole_valiter hit.typeIs (wpAny_pure (wpAny_bind (wpAny_fieldsOf ho hd ?_))))))))
  simp only [hown, Bool.false_eq_true, if_false]
  show wpAny _ _ (if (Value.ref d == Value.none) = true then _ else _) _ _ s
  rw [if_neg (show ¬ ((Value.ref d == Value.none) = true) from Bool.false_ne_true)]
  refine wpAny_bind (wpAny_pure (wpAny_bind (wpAny_dictEntries hod hdd ?_)))
  rw [if_neg (by rw [hsz]; simp)]
  refine wpAny_bind (wpAny_pure (wpAny_bind (wpAny_dictEpoch hod hdd ?_)))
  rw [if_neg (by simp)]
  refine wpAny_pure ?_
  simp only [show ¬ ((i : Int) < 0) from by omega, if_false, Int.toNat_natCast, Array.getElem?_eq_getElem hlt']
  refine wpAny_bind (wpAny_bind (wpAny_typeNameOfWhole_valiter hit.typeIs (wpAny_pure (wpAny_bind (wpAny_isOneOf_valiter hit.typeIs ?_)))))
  show wpAny _ _ (setField (.ref it) 1 (rawInt ((i : Int) + 1)) >>= _) _ _ s
  refine wpAny_bind (wpAny_setField ho hd (by simp) ?_)
  have hit' : (s.heap.update it (Obj.mapFields (·.setIfInBounds 1 (rawInt ((i : Int) + 1))))).IsValIter it d (i + 1) kvs.length ep :=
    ⟨_, Heap.get?_update_self _ ho (Obj.isFreed_of_fields (Obj.data_mapFields hd _)), (Obj.cls_mapFields ..).trans hc, by rw [Obj.data_mapFields hd]; simp [rawInt]⟩
  refine wpAny_bind (wpAny_holding (wpAny_bind (wpAny_isOneOf_valiter (s := { s with heap := s.heap.update it (Obj.mapFields (·.setIfInBounds 1 (rawInt ((i : Int) + 1)))) }) hit'.typeIs ?_)))
  refine wpAny_bind (wpAny_isOneOf_valiter (s := { s with heap := s.heap.update it (Obj.mapFields (·.setIfInBounds 1 (rawInt ((i : Int) + 1)))) }) hit'.typeIs ?_)
  show wpAny _ _ (pure es[i].val) _ _ _
  exact wpAny_pure (wpAny_pure ⟨_, rfl, hval ▸ hQ _ hit' (Heap.SameBut.update ..)⟩)

theorem val_raw_end {it d : Addr} {i ep : Nat} {kvs : List (K × Value)} {Q : Option Value → Shared → Prop} (hh : A.handled = none) (hit : s.heap.IsValIter it d i kvs.length ep)
    (hm : s.heap.DictAt knd d kvs ep) (hx : kvs[i]? = none)
    (hE : ∀ h' e, Heap.ExtBut it s.heap h' → Shared.TypeIs { s with heap := h' } (.ref e) "StopIteration" → E (.ref e) { s with heap := h' }) : wpAny (model prog w) A (callSpecial? (.ref it) "__next__") Q E s := by
  obtain ⟨o, ho, hc, hd⟩ := id hit
  obtain ⟨od, es, hod, hcd, hdd, hk, hp, hn⟩ := id hm
  refine wpAny_callSpecial?_slot (name := Str.ofString "__next__") hit.typeIs F.slot_dict_valueiterator_next
    (wpAny_call_entry F.slot_dict_valueiterator_next hit.typeIs F.entry_dict_valueiterator_next ?_ (F.args_dict_valueiterator_next_1 _))
  have hsz : es.size = kvs.length := by rw [← hp.length]; simp
  have hge : es.size ≤ i := by rw [hsz]; simpa using hx
  have hown : Builtin.Dict_items.ownsTuple "dict_valueiterator" = false := by decide
  refine wpAny_bind (wpAny_pure (wpAny_bind (wpAny_bind (wpAny_bind (wpAny_typeNameOfWhole_valiter hit.typeIs (wpAny_pure (wpAny_bind (wpAny_fieldsOf ho hd ?_))))))))
  simp only [hown, Bool.false_eq_true, if_false]
  show wpAny _ _ (if (Value.ref d == Value.none) = true then _ else _) _ _ s
  rw [if_neg (show ¬ ((Value.ref d == Value.none) = true) from Bool.false_ne_true)]
  refine wpAny_bind (wpAny_pure (wpAny_bind (wpAny_dictEntries hod hdd ?_)))
  rw [if_neg (by rw [hsz]; simp)]
  refine wpAny_bind (wpAny_pure (wpAny_bind (wpAny_dictEpoch hod hdd ?_)))
  rw [if_neg (by simp)]
  refine wpAny_pure ?_
  simp only [show ¬ ((i : Int) < 0) from by omega, if_false, Int.toNat_natCast, Array.getElem?_eq_none hge]
  refine wpAny_bind (wpAny_bind (wpAny_typeNameOfWhole_valiter hit.typeIs (wpAny_pure ?_)))
  show wpAny _ _ (setField (.ref it) 0 .none >>= _) _ _ s
  refine wpAny_bind (wpAny_setField ho hd (by simp) ?_)
  show wpAny _ _ (newExc (.type "StopIteration") [] >>= _) _ _ _
  refine wpAny_bind ?_
  simp only [newExc, newTuple]
  refine wpAny_bind (wpAny_newObj_type ?_ (by size_fits))
  refine wpAny_bind (m := firstArgMember _ _) (wpAny_of_eq (a := Value.none) (by first | rfl | (simp only [firstArgMember]; rfl)) ?_)
  refine wpAny_newObj_type ?_ (by size_fits)
  simp only [raiseNew]
  refine wpAny_bind (wpAny_handled ?_)
  rw [show A.in1.handled = none from hh]
  refine wpAny_bind (wpAny_pure (wpAny_throw ?_))
  exact hE _ _ (((Heap.SameBut.update ..).extBut.push _).push _) ⟨_, Heap.get?_push_size _ rfl, rfl⟩
end
end Mine

end TxtL13

section TxtL14
open PySem PySem.W PyProof.Rows PySem.Calls
open PyProof.Rows.TI (gone gone_get gone_none gone_some)
namespace Mine

/-- what filter(None, ..) keeps -/
def isNum (v : Value) : Bool := !(v == .none)

section
variable {prog : Program} {w : World} {K : Type} [DecidableEq K] {knd : KeyKind prog w K} {A : Around} {E : Value → Shared → Prop} {s : Shared}

theorem truthNum {v : Value} {Q : Bool → Shared → Prop} (hv : NumOr v) (h : Q (isNum v) s) : wpAny (model prog w) A (truthy v) Q E s := by
  rcases hv with rfl | ⟨n, t, rfl, h0, _⟩
  · exact wpAny_pure h
  · refine PyProof.Rows.truthy_int ?_
    have : (n != 0) = true := by simp; omega
    rw [this]; exact h

theorem fil_body {f it d : Addr} {ep : Nat} {kvs : List (K × Value)} (hh : A.handled = none) (hfi : f ≠ it) (hdi : d ≠ it) (hv : ∀ kv ∈ kvs, NumOr kv.2) : ∀ (n i : Nat) (s : Shared) (R : Result → Shared → Prop), n = kvs.length - i →
    IsFil s.heap f it → s.heap.IsValIter it d i kvs.length ep → s.heap.DictAt knd d kvs ep →
    (∀ i' v h', ((kvs.drop i).map (·.2)).filter isNum = v :: ((kvs.drop i').map (·.2)).filter isNum → h'.IsValIter it d i' kvs.length ep → (∀ b o, b ≠ it → s.heap.get? b = some o → h'.get? b = some o) → R (.ok (.ret v)) { s with heap := h' }) →
    (((kvs.drop i).map (·.2)).filter isNum = [] → ∀ h' e, Heap.ExtBut it s.heap h' → Shared.TypeIs { s with heap := h' } (.ref e) "StopIteration" → R (.error (.ref e)) { s with heap := h' }) →
    wpAny (model prog w) A.in1 (Builtin.«filter.__next__» ⟨[.ref f], []⟩) (fun fin s' => match fin with | .done f => R (.ok f) s' | .again c' => c'.quiet = true ∧ codeAny (model prog w) A c' R s') (fun e s' => R (.error e) s') s := by
  intro n
  induction n with
  | zero =>
    intro i s R hn hf hit hm h1 h2
    have hge : kvs.length ≤ i := by omega
    show wpAny _ _ (field (.ref f) 0 >>= _) _ _ _
    refine wpAny_bind (wpAny_field hf rfl (x := .none) rfl (wpAny_bind (wpAny_field hf rfl (x := .ref it) rfl (wpAny_bind (val_raw_end (knd := knd) hh hit hm (List.getElem?_eq_none hge) (h2 ?_))))))
    rw [List.drop_eq_nil_of_le hge]; rfl
  | succ n ih =>
    intro i s R hn hf hit hm h1 h2
    have hlt : i < kvs.length := by omega
    obtain ⟨⟨k, v⟩, hx⟩ : ∃ p, kvs[i]? = some p := ⟨kvs[i], by simp [hlt]⟩
    have hdr : kvs.drop i = (k, v) :: kvs.drop (i + 1) := by
      rw [List.drop_eq_getElem_cons hlt]; rw [List.getElem?_eq_getElem hlt] at hx; injection hx with hx; rw [hx]
    have hmem : (k, v) ∈ kvs := List.mem_of_getElem? hx
    show wpAny _ _ (field (.ref f) 0 >>= _) _ _ _
    refine wpAny_bind (wpAny_field hf rfl (x := .none) rfl (wpAny_bind (wpAny_field hf rfl (x := .ref it) rfl (wpAny_bind (val_raw_item (knd := knd) hit hm hx fun h' hit' hs' => ?_)))))
    show wpAny _ _ (holding [v] (rule _ >>= fun _ => truthy v) >>= _) _ _ _
    refine wpAny_bind (wpAny_holding (wpAny_bind (wpAny_rule (truthNum (hv _ hmem) ?_))))
    cases hp : isNum v with
    | true =>
      rw [if_pos rfl]
      refine wpAny_pure (h1 (i + 1) v h' ?_ hit' (fun b o hb e => hs'.extBut b o hb e))
      rw [hdr]; simp [hp]
    | false =>
      rw [if_neg (by simp)]
      have hf' : IsFil h' f it := hs'.extBut _ _ hfi hf
      have hm' := hm.extBut hs'.extBut hdi
      refine wpAny_pure ⟨plainId_quiet FF.plain_next _, codeAny_builtin FF.entry_next ?_⟩
      rw [Around.under_plainId FF.plain_next _]
      refine ih (i + 1) { s with heap := h' } R (by omega) hf' hit' hm' (fun i' v' h'' e1 e2 e3 => h1 i' v' h'' ?_ e2 (fun b o hb e => e3 b o hb (hs'.extBut b o hb e))) (fun e0 h'' e e1 e2 => h2 ?_ h'' e (fun b o hb q => e1 b o hb (hs'.extBut b o hb q)) e2)
      · rw [hdr]; simpa [hp] using e1
      · rw [hdr]; simpa [hp] using e0

theorem fil_call {f it d : Addr} {ep i : Nat} {kvs : List (K × Value)} {Q : Value → Shared → Prop} (hh : A.handled = none) (hfi : f ≠ it) (hdi : d ≠ it) (hv : ∀ kv ∈ kvs, NumOr kv.2)
    (hf : IsFil s.heap f it) (hit : s.heap.IsValIter it d i kvs.length ep) (hm : s.heap.DictAt knd d kvs ep)
    (h1 : ∀ i' v h', ((kvs.drop i).map (·.2)).filter isNum = v :: ((kvs.drop i').map (·.2)).filter isNum → h'.IsValIter it d i' kvs.length ep → (∀ b o, b ≠ it → s.heap.get? b = some o → h'.get? b = some o) → Q v { s with heap := h' })
    (h2 : ((kvs.drop i).map (·.2)).filter isNum = [] → ∀ h' e, Heap.ExtBut it s.heap h' → Shared.TypeIs { s with heap := h' } (.ref e) "StopIteration" → E (.ref e) { s with heap := h' }) :
    wpAny (model prog w) A (call (.builtin "filter.__next__") [.ref f]) Q E s :=
  wpAny_call (codeAny_call_builtin FF.slot_next.plain FF.entry_next (FF.slot_next.check _ _ _ _ _ _ _ _ ⟨_, hf, rfl⟩ (FF.args_next _) (fil_body (A := A) (knd := knd) hh hfi hdi hv _ i s (wants Q E) rfl hf hit hm h1 h2)))

theorem fil_next {f it d : Addr} {ep i : Nat} {kvs : List (K × Value)} {Q : Option Value → Shared → Prop} (hh : A.handled = none) (hfi : f ≠ it) (hdi : d ≠ it) (hv : ∀ kv ∈ kvs, NumOr kv.2)
    (hf : IsFil s.heap f it) (hit : s.heap.IsValIter it d i kvs.length ep) (hm : s.heap.DictAt knd d kvs ep)
    (h1 : ∀ i' v h', ((kvs.drop i).map (·.2)).filter isNum = v :: ((kvs.drop i').map (·.2)).filter isNum → h'.IsValIter it d i' kvs.length ep → (∀ b o, b ≠ it → s.heap.get? b = some o → h'.get? b = some o) → Q (some v) { s with heap := h' })
    (h2 : ((kvs.drop i).map (·.2)).filter isNum = [] → ∀ h', (∀ b o, b ≠ it → s.heap.get? b = some o → h'.get? b = some o) → Q none { s with heap := h' }) :
    wpAny (model prog w) A (pyNext (.ref f)) Q E s := by
  unfold pyNext
  refine wpAny_bind (wpAny_attempt (wpAny_callSpecial?_slot (name := Str.ofString "__next__") ⟨_, hf, rfl⟩ FF.slot_next (fil_call (knd := knd) hh hfi hdi hv hf hit hm (fun i' v h' e1 e2 e3 => wpAny_pure (h1 i' v h' e1 e2 e3)) (fun e0 h' e e1 e2 => ?_))))
  exact wpAny_bind (wpAny_isInstance (T := "StopIteration") (b := true) e2 isSubtype_stop (wpAny_pure (h2 e0 h' (fun b o hb q => e1 b o hb q))))

/-- filter(None, d.values()) walked -/
theorem fil_walks (hh : A.handled = none) (f it d : Addr) (hfi : f ≠ it) (hdi : d ≠ it) (kvs : List (K × Value)) (ep : Nat) (hv : ∀ kv ∈ kvs, NumOr kv.2) :
    Walks prog w A f [f, it, d] [it] ((kvs.map (·.2)).filter isNum).length (fun j v => ((kvs.map (·.2)).filter isNum)[j]? = some v)
      (fun j h => ∃ i, IsFil h f it ∧ h.IsValIter it d i kvs.length ep ∧ h.DictAt knd d kvs ep ∧ ((kvs.drop i).map (·.2)).filter isNum = ((kvs.map (·.2)).filter isNum).drop j) where
  sub := fun b hb => by simp at hb; simp [hb]
  frame := fun j h h' ⟨i, a, b, c, e⟩ hk => ⟨i, hk f (by simp) _ a, b.at fun o e => hk it (by simp) o e, c.at' fun o e => hk d (by simp) o e, e⟩
  item := fun j s Q E hj ⟨i, a, b, c, e⟩ hQ => by
    refine fil_next (knd := knd) hh hfi hdi hv a b c (fun i' v h' e1 e2 e3 => ?_) (fun e0 h' e3 => ?_)
    · rw [e, List.drop_eq_getElem_cons hj] at e1
      injection e1 with e1 e4
      refine hQ v h' s.toks ?_ ⟨i', e3 _ _ hfi a, e2, c.at' fun o e => e3 _ o hdi e, e4.symm⟩ (fun b o hb q => e3 b o (fun h => hb (by simp [h])) q)
      rw [List.getElem?_eq_getElem hj, e1]
    · rw [e] at e0
      have := congrArg List.length e0
      simp at this
      omega
  done := fun s Q E ⟨i, a, b, c, e⟩ hQ => by
    refine fil_next (knd := knd) hh hfi hdi hv a b c (fun i' v h' e1 e2 e3 => ?_) (fun e0 h' e3 => hQ h' s.toks (fun b o hb q => e3 b o (fun h => hb (by simp [h])) q))
    rw [e, List.drop_eq_nil_of_le (Nat.le_refl _)] at e1
    cases e1
  self := fun j s Q E ⟨i, a, _⟩ hQ => by
    have hT : s.TypeIs (.ref f) "filter" := ⟨_, a, rfl⟩
    refine wpAny_pyIter_slot hT FF.slot_iter (wpAny_call_entry FF.slot_iter hT FF.entry_iter ?_ (FF.args_iter _))
    show wpAny _ _ (ret (.ref f)) _ _ s
    exact wpAny_pure ⟨_, rfl, "filter", _, hT, FF.slot_next.lookup, hQ⟩

/-- filter(None, d.values()) made -/
theorem fil_new {v d : Addr} {ep : Nat} {kvs : List (K × Value)} {Q : Value → Shared → Prop} (hview : s.heap.IsValuesView v d) (hm : s.heap.DictAt knd d kvs ep)
    (h : ∀ it f h', s.heap.objs.size ≤ it → s.heap.objs.size ≤ f → f ≠ it → IsFil h' f it → h'.IsValIter it d 0 kvs.length ep → Ext s.heap h' → Q (.ref f) { s with heap := h' }) :
    wpAny (model prog w) A (call (.type "filter") [.none, .ref v]) Q E s := by
  refine callType_codes (Q₁ := fun obj s₁ => s₁.TypeIs obj "filter" ∧ Q obj s₁) FF.called (FF.typeCall _ _) F.entry_object_init ?_ ?_
  · refine codeAny_call_builtin (by decide +kernel) FF.entry_new (wpAny_of_eq (FF.newCall _ _) ?_)
    have hsub := FF.sub
    have hmro := FF.mro_filter
    unfold Builtin.«filter.__new__»
    wp_walk using wpAny_pyIter_values hview hm
    have hsz : (s.heap.push { cls := Value.type "dict_valueiterator", data := Data.fields #[Value.ref d, Value.int 0 0, Value.int (↑kvs.length) 0, Value.int (↑ep) 0] }).objs.size = s.heap.objs.size + 1 := Heap.size_push ..
    refine ⟨⟨_, Heap.get?_push_size _ rfl, rfl⟩, h s.heap.objs.size _ _ (Nat.le_refl _) (by rw [hsz]; exact Nat.le_succ _) (by rw [hsz]; exact Nat.succ_ne_self _) (Heap.get?_push_size _ rfl) ⟨_, Heap.get?_push_of_some _ (Heap.get?_push_size _ rfl), rfl, rfl⟩ (Ext.trans' (ext_push _) (ext_push _))⟩
  · rintro obj s₁ ⟨hT, hQ⟩
    exact ⟨hT, F.args_object_init_3 obj _ _, object_init_meets FF.called.init.lookup FF.called.made (by decide) prog w A.in1 (wants (fun r s₂ => r = .none ∧ Q obj s₂) E) s₁ ⟨hT, rfl, hQ⟩⟩
end
end Mine

end TxtL14

section TxtL15
open PySem PySem.W PyProof.Rows PySem.Calls
open PyProof.Rows.TI (gone gone_get gone_none gone_some)
namespace Mine
section
variable {prog : Program} {w : World} {A : Around} {E : Value → Shared → Prop} {s : Shared} {R : Result → Shared → Prop} {I : Addr} {fp wr : List Addr} {n : Nat} {P : Nat → Value → Prop} {Sx : Nat → Heap → Prop}

theorem max_loop {kw : List (Str × Value)} (W : Walks prog w A.in1 I fp wr n P Sx) (num : Nat → Int) (hnum : ∀ j v, P j v → ∃ t, v = .int (num j) t) (S : Addr) (hSf : S ∉ fp) :
    ∀ (k j : Nat) (s : Shared) (g : Int) (t : Tok) (c : Nat), k = n - j → j ≤ n → Sx j s.heap → s.heap.get? S = some { cls := .type "list", dict := none, data := .seq #[.int g t, .int g t] c, slots := #[] } →
    (∀ g' t' h' tk, (g' = g ∨ ∃ i, j ≤ i ∧ i < n ∧ g' = num i) → g ≤ g' → (∀ i, j ≤ i → i < n → num i ≤ g') → (∀ b o, b ∉ wr → b ≠ S → s.heap.get? b = some o → h'.get? b = some o) → R (.ok (.ret (.int g' t'))) { s with heap := h', toks := tk }) →
    codeAny (model prog w) A (.builtin "max.loop" ⟨[.ref I, .none, .ref S], kw⟩) R s := by
  have hSw : S ∉ wr := fun h => hSf (W.sub _ h)
  have hname : (toString "max" ++ toString ".loop" : String) = "max.loop" := by decide
  intro k
  induction k with
  | zero =>
    intro j s g t c hk hj hst hS hR
    have hin : j = n := by omega
    subst hin
    refine codeAny_builtin F.entry_max_loop ?_
    rw [Around.under_plainId F.plain_max_loop _]
    show wpAny _ A.in1 (seqItems? (.ref S) >>= _) _ _ s
    refine wpAny_bind (wpAny_seqItems hS rfl ?_)
    show wpAny _ A.in1 (tryCatch (pyNext (.ref I)) _ >>= _) _ _ s
    refine wpAny_bind (wpAny_tryCatch (W.done s _ _ hst fun h' tk hk' => ?_))
    show wpAny _ A.in1 (updateSeq S (fun _ => #[]) >>= _) _ _ _
    refine wpAny_bind (wpAny_updateSeq (hk' S _ hSw hS) rfl (wpAny_bind (wpAny_letGo (wpAny_pure ?_))))
    exact hR g t _ tk (.inl rfl) (Int.le_refl _) (fun i h1 h2 => by omega) fun b o hbw hbS e => (Heap.get?_update_other _ _ (Ne.symm hbS)).trans (hk' b o hbw e)
  | succ k ih =>
    intro j s g t c hk hj hst hS hR
    have hlt : j < n := by omega
    refine codeAny_builtin F.entry_max_loop ?_
    rw [Around.under_plainId F.plain_max_loop _]
    show wpAny _ A.in1 (seqItems? (.ref S) >>= _) _ _ s
    refine wpAny_bind (wpAny_seqItems hS rfl ?_)
    show wpAny _ A.in1 (tryCatch (pyNext (.ref I)) _ >>= _) _ _ s
    refine wpAny_bind (wpAny_tryCatch (W.item j s _ _ hlt hst fun v h' tk hP hst' hk' => ?_))
    obtain ⟨u, rfl⟩ := hnum j v hP
    have hS' := hk' S _ hSw hS
    show wpAny _ A.in1 (tryCatch (holding [_, _] (richCompare .Gt (.int (num j) u) (.int g t) >>= _)) _ >>= _) _ _ _
    refine wpAny_bind (wpAny_tryCatch (wpAny_holding (wpAny_bind (CmpOf.ints_gt (P := fun i v => ∃ t, v = .int (if i = 0 then num j else g) t) (fun i => if i = 0 then num j else g) (fun _ _ h => h) 0 1 _ _ _ _ _ ⟨u, rfl⟩ ⟨t, rfl⟩ ?_))))
    refine wpAny_bind (wpAny_holding (wpAny_truthy_bool (wpAny_bind (wpAny_letGo (wpAny_pure ?_)))))
    simp only [if_true, Nat.one_ne_zero, if_false]
    by_cases hb : num j > g
    · rw [if_pos (decide_eq_true hb)]
      refine wpAny_bind (wpAny_updateSeq hS' rfl (wpAny_bind (wpAny_letGo ?_)))
      rw [hname]
      refine wpAny_pure ⟨plainId_quiet F.plain_max_loop _, ih (j + 1) _ (num j) u _ (by omega) hlt (W.frame _ _ _ hst' fun b hbf o e => ?_) (Heap.get?_update_self _ hS' rfl) fun g' t' h'' tk'' e1 e2 e3 e4 => ?_⟩
      · exact (Heap.get?_update_other _ _ (fun h : S = b => hSf (by rw [h]; exact hbf))).trans e
      · refine hR g' t' h'' tk'' (.inr ?_) (by omega) (fun i h1 h2 => ?_) fun b o hbw hbS e => e4 b o hbw hbS ((Heap.get?_update_other _ _ (Ne.symm hbS)).trans (hk' b o hbw e))
        · rcases e1 with rfl | ⟨i, h1, h2, rfl⟩
          · exact ⟨j, Nat.le_refl _, hlt, rfl⟩
          · exact ⟨i, by omega, h2, rfl⟩
        · by_cases hij : i = j
          · subst hij; exact e2
          · exact e3 i (by omega) h2
    · rw [if_neg (by simpa using hb)]
      refine wpAny_bind (wpAny_letGo ?_)
      rw [hname]
      refine wpAny_pure ⟨plainId_quiet F.plain_max_loop _, ih (j + 1) _ g t c (by omega) hlt hst' hS' fun g' t' h'' tk'' e1 e2 e3 e4 => ?_⟩
      refine hR g' t' h'' tk'' ?_ e2 (fun i h1 h2 => ?_) fun b o hbw hbS e => e4 b o hbw hbS (hk' b o hbw e)
      · rcases e1 with rfl | ⟨i, h1, h2, rfl⟩
        · exact .inl rfl
        · exact .inr ⟨i, by omega, h2, rfl⟩
      · by_cases hij : i = j
        · subst hij; omega
        · exact e3 i (by omega) h2

/-- max(xs, default=d) -/
theorem max_default {x d : Value} {Q : Value → Shared → Prop}
    (h : wpAny (model prog w) A.in1 (pyIter x) (fun it s₂ => ∃ I fp wr n P Sx, ∃ num : Nat → Int, it = .ref I ∧ Walks prog w A.in1 I fp wr n P Sx ∧ Sx 0 s₂.heap ∧ (∀ b ∈ fp, b < s₂.heap.objs.size) ∧ (∀ j v, P j v → ∃ t, v = .int (num j) t) ∧
      (n = 0 → ∀ h' tk, (∀ b o, b ∉ wr → s₂.heap.get? b = some o → h'.get? b = some o) → Q d { s₂ with heap := h', toks := tk }) ∧
      (∀ g t h' tk, (∃ i, i < n ∧ g = num i) → (∀ i, i < n → num i ≤ g) → (∀ b o, b ∉ wr → s₂.heap.get? b = some o → h'.get? b = some o) → Q (.int g t) { s₂ with heap := h', toks := tk })) E s) :
    wpAny (model prog w) A (call (.builtin "max") [x] [("default", d)]) Q E s := by
  have hname : (toString "max" ++ toString ".loop" : String) = "max.loop" := by decide
  refine wpAny_call (codeAny_call_builtin F.plain_max F.entry_max (wpAny_of_eq (show checkBuiltinCall "max" ⟨[x], [("default", d)]⟩ = pure () by kernel_rfl) ?_))
  show wpAny _ A.in1 (Builtin.Builtins.bindParams "max" ["key", "default"] 0 ⟨[], [("default", d)]⟩ >>= _) _ _ s
  refine wpAny_bind (wpAny_of_eq (show Builtin.Builtins.bindParams "max" ["key", "default"] 0 ⟨[], [("default", d)]⟩ = pure [none, some d] by kernel_rfl) ?_)
  show wpAny _ A.in1 (pure x >>= _) _ _ s
  refine wpAny_bind (wpAny_pure (wpAny_bind (wpAny_mono h (fun it s₂ h₂ => ?_) fun _ _ e => e)))
  obtain ⟨I, fp, wr, n, P, Sx, num, rfl, W, hst, hfp, hnum, hz, hQ⟩ := h₂
  refine wpAny_bind (wpAny_newObj_type ?_)
  have hSf : s₂.heap.objs.size ∉ fp := fun hm => Nat.lt_irrefl _ (hfp _ hm)
  have hSw : s₂.heap.objs.size ∉ wr := fun h => hSf (W.sub _ h)
  rw [hname]
  refine wpAny_pure ⟨plainId_quiet F.plain_max_loop _, codeAny_builtin F.entry_max_loop ?_⟩
  rw [Around.under_plainId F.plain_max_loop _]
  have hst₁ := W.frame _ _ (s₂.heap.push { cls := .type "list", data := .seq ([] : List Value).toArray }) hst fun b _ o e => Heap.get?_push_of_some _ e
  have hS := Heap.get?_push_size s₂.heap (o := { cls := .type "list", data := .seq ([] : List Value).toArray }) rfl
  show wpAny _ A.in1 (seqItems? (.ref s₂.heap.objs.size) >>= _) _ _ _
  refine wpAny_bind (wpAny_seqItems hS rfl ?_)
  show wpAny _ A.in1 (tryCatch (pyNext (.ref I)) _ >>= _) _ _ _
  by_cases hn : n = 0
  · refine wpAny_bind (wpAny_tryCatch (W.done _ _ _ (by rw [hn]; exact hst₁) fun h' tk hk' => ?_))
    exact wpAny_bind (wpAny_rule (wpAny_pure (hz hn h' tk fun b o hb e => hk' b o hb (Heap.get?_push_of_some _ e))))
  · refine wpAny_bind (wpAny_tryCatch (W.item 0 _ _ _ (by omega) hst₁ fun v h' tk hP hst' hk' => ?_))
    obtain ⟨u, rfl⟩ := hnum 0 v hP
    have hS' := hk' _ _ hSw hS
    show wpAny _ A.in1 (updateSeq s₂.heap.objs.size (fun _ => #[.int (num 0) u, .int (num 0) u]) >>= _) _ _ _
    refine wpAny_bind (wpAny_updateSeq hS' rfl ?_)
    rw [hname]
    refine wpAny_pure ⟨plainId_quiet F.plain_max_loop _, max_loop W num hnum s₂.heap.objs.size hSf _ 1 _ (num 0) u _ rfl (by omega) (W.frame _ _ _ hst' fun b hbf o e => ?_) (Heap.get?_update_self _ hS' rfl) fun g' t' h'' tk'' e1 e2 e3 e4 => ?_⟩
    · exact (Heap.get?_update_other _ _ (fun h : s₂.heap.objs.size = b => hSf (by rw [h]; exact hbf))).trans e
    · refine hQ g' t' h'' tk'' ?_ (fun i hi => ?_) fun b o hbw e => e4 b o hbw (Nat.ne_of_lt (Heap.lt_size e)) ((Heap.get?_update_other _ _ (Nat.ne_of_gt (Heap.lt_size e))).trans (hk' b o hbw (Heap.get?_push_of_some _ e)))
      · rcases e1 with rfl | ⟨i, h1, h2, rfl⟩
        · exact ⟨0, by omega, rfl⟩
        · exact ⟨i, h2, rfl⟩
      · by_cases hi0 : i = 0
        · subst hi0; exact e2
        · exact e3 i (by omega) hi
end
end Mine

end TxtL15

section TxtL16
open PySem PySem.W PyProof.Rows PySem.Calls
open PyProof.Rows.TI (gone gone_get gone_none gone_some)
namespace Mine
namespace FF
theorem plain_ci : plainId "proto.contains_iter" = true := by decide +kernel
theorem entry_ci : entryFor table "proto.contains_iter" = some Builtin.«proto.contains_iter» := entryFor_of_tree (by kernel_rfl)
theorem no_contains : typeLookup (.type "dict_values") "__contains__" = pure none := by rw [typeLookup_type, builtinLookup_eq_fast]; kernel_rfl
end FF
section
variable {prog : Program} {w : World} {K : Type} [DecidableEq K] {knd : KeyKind prog w K} {A : Around} {E : Value → Shared → Prop} {s : Shared}

theorem eqNone {v : Value} {Q : Bool → Shared → Prop} (hu : A.units < 100) (hv : NumOr v) (h : Q (v == .none) s) : wpAny (model prog w) A (eqBool v .none) Q E s := by
  have hcl : 1000 < cLine := by decide
  rcases hv with rfl | ⟨n, t, rfl, _⟩
  · exact PySem.SeqAt.eqBoolOverData prog w A E s _ _ _ _ _ _ Q .none .none rfl rfl (by show A.units + 0 < _; omega) h
  · exact PySem.SeqAt.eqBoolOverData prog w A E s _ _ _ _ _ _ Q (.int _ _) .none rfl rfl (by show A.units + 0 < _; omega) h

theorem none_loop {I : Addr} {fp wr : List Addr} {vals : List Value} {Sx : Nat → Heap → Prop} {R : Result → Shared → Prop} (W : Walks prog w A.in1 I fp wr vals.length (fun i v => vals[i]? = some v) Sx) (hu : A.units < 99) (hv : ∀ v ∈ vals, NumOr v) :
    ∀ (k i : Nat) (s : Shared), k = vals.length - i → i ≤ vals.length → Sx i s.heap →
    (∀ h' tk, (∀ b o, b ∉ wr → s.heap.get? b = some o → h'.get? b = some o) → R (.ok (.ret (.bool (decide (Value.none ∈ vals.drop i))))) { s with heap := h', toks := tk }) →
    codeAny (model prog w) A (.builtin "proto.contains_iter" ⟨[.ref I, .none], []⟩) R s := by
  intro k
  induction k with
  | zero =>
    intro i s hk hi hst hR
    have : i = vals.length := by omega
    subst this
    refine codeAny_builtin FF.entry_ci ?_
    rw [Around.under_plainId FF.plain_ci _]
    show wpAny _ A.in1 (pyNext (.ref I) >>= _) _ _ s
    refine wpAny_bind (W.done s _ _ hst fun h' tk hk' => wpAny_bind (wpAny_rule (wpAny_pure ?_)))
    have := hR h' tk hk'
    rwa [List.drop_eq_nil_of_le (Nat.le_refl _)] at this
  | succ k ih =>
    intro i s hk hi hst hR
    have hlt : i < vals.length := by omega
    refine codeAny_builtin FF.entry_ci ?_
    rw [Around.under_plainId FF.plain_ci _]
    show wpAny _ A.in1 (pyNext (.ref I) >>= _) _ _ s
    refine wpAny_bind (W.item i s _ _ hlt hst fun v h' tk hP hst' hk' => ?_)
    have hdr : vals.drop i = v :: vals.drop (i + 1) := by
      rw [List.drop_eq_getElem_cons hlt]; rw [List.getElem?_eq_getElem hlt] at hP; injection hP with hP; rw [hP]
    show wpAny _ A.in1 (eqBool v .none >>= _) _ _ _
    refine wpAny_bind (eqNone (show A.units + 1 < 100 by omega) (hv v (List.mem_of_getElem? hP)) ?_)
    by_cases hn : v = .none
    · subst hn
      rw [if_pos (by rfl)]
      refine wpAny_bind (wpAny_rule (wpAny_pure ?_))
      have := hR h' tk hk'
      rw [hdr, decide_eq_true (List.mem_cons_self)] at this
      exact this
    · rw [if_neg (by simpa using hn)]
      refine wpAny_pure ⟨plainId_quiet FF.plain_ci _, ih (i + 1) { s with heap := h', toks := tk } (by omega) hlt hst' fun h'' tk'' hk'' => ?_⟩
      have := hR h'' tk'' (fun b o hb e => hk'' b o hb (hk' b o hb e))
      rw [hdr] at this
      have e : decide (Value.none ∈ v :: vals.drop (i + 1)) = decide (Value.none ∈ vals.drop (i + 1)) := by
        congr 1; simp [Ne.symm hn]
      rw [e] at this
      exact this

theorem noneIn {v d : Addr} {ep : Nat} {kvs : List (K × Value)} {Q : Value → Shared → Prop} (hh : A.handled = none) (hu : A.units < 99) (hview : s.heap.IsValuesView v d) (hm : s.heap.DictAt knd d kvs ep) (hv : ∀ kv ∈ kvs, NumOr kv.2)
    (h : ∀ h' tk, Ext s.heap h' → Q (.bool (decide (Value.none ∈ kvs.map (·.2)))) { s with heap := h', toks := tk }) : wpAny (model prog w) A (compareOp .In .none (.ref v)) Q E s := by
  show wpAny _ _ (do return .bool (← contains (.ref v) .none)) Q E s
  refine wpAny_bind ?_
  unfold contains
  refine wpAny_holding ?_
  rw [stdlibNamesSay?_of_typeIs hview.typeIs]
  refine wpAny_bind (wpAny_specialOf hview.typeIs FF.no_contains ?_)
  rw [if_neg (by simp)]
  refine wpAny_bind (wpAny_callSpecialUnlessNone?_none hview.typeIs FF.no_contains ?_)
  refine wpAny_bind (wpAny_rule (wpAny_bind (wpAny_tryCatch (wpAny_pyIter_values hview hm (wpAny_bind (wpAny_runValue ?_))))))
  have hd : d < s.heap.objs.size := by obtain ⟨o, es, e, _⟩ := hm; exact Heap.lt_size e
  have W := Walks.dictValues (prog := prog) (w := w) (A := A.in1) (knd := knd) hh s.heap.objs.size d (Nat.ne_of_lt hd) kvs ep
  have W' : Walks prog w A.in1 s.heap.objs.size [s.heap.objs.size, d] [s.heap.objs.size] (kvs.map (·.2)).length (fun i v => (kvs.map (·.2))[i]? = some v) (fun i h => h.IsValIter s.heap.objs.size d i kvs.length ep ∧ h.DictAt knd d kvs ep) := by
    rw [List.length_map]
    refine ⟨W.sub, W.frame, fun i s Q E hi hst hQ => W.item i s Q E hi hst fun v h' tk ⟨k, e⟩ => hQ v h' tk ?_, W.done, W.self⟩
    rw [List.getElem?_map, e]; rfl
  refine none_loop W' hu (fun v hv' => ?_) _ 0 _ rfl (Nat.zero_le _) ⟨⟨_, Heap.get?_push_size _ rfl, rfl, rfl⟩, hm.keep (ext_push _)⟩ fun h' tk hk => ?_
  · obtain ⟨kv, h1, rfl⟩ := List.mem_map.mp hv'
    exact hv kv h1
  · refine wpAny_pure (wpAny_pure ?_)
    rw [List.drop_zero]
    refine h h' tk fun b o e => hk b o (fun hb => ?_) (Heap.get?_push_of_some _ e)
    have := Heap.lt_size e
    simp at hb
    rw [hb] at this
    exact Nat.lt_irrefl _ this

/-- d.values() -/
theorem valuesOf {d : Addr} {kvs : List (K × Value)} {ep : Nat} {o : Expr} {apos pos : Pos} {env : Env} {hp : Heap} {tk : Nat} {Q : Value → Shared → Prop} (hd : (d == sysModules) = false)
    (h : wpAny (model prog w) A (eval o env) (fun ov s₁ => ∃ h₁ tk₁, ov = .ref d ∧ s₁ = St s h₁ tk₁ ∧ h₁.DictAt knd d kvs ep ∧ ∀ v h', Ext h₁ h' → h'.IsValuesView v d → h₁.objs.size ≤ v → v < h'.objs.size → Q (.ref v) (St s h' tk₁)) E (St s hp tk))
    {pl : Sem Bool} (he : eval (.Call (.Attribute o "values" apos) [] [] pos) env = (do
      let ov ← eval o env
      standAt apos.atName
      let (f, first) ← holding [ov] (getMethod ov "values" pl)
      callWith pos f first (backTo pos (starEach [] env)) []) := by rfl) :
    wpAny (model prog w) A (eval (.Call (.Attribute o "values" apos) [] [] pos) env) Q E (St s hp tk) := by
  refine MethodCall_ (pl := pl) (wpAny_mono h (fun ov s₁ h₁ => ?_) fun _ _ x => x) he
  obtain ⟨h₁, tk₁, rfl, rfl, hm, k⟩ := h₁
  have hD : h₁.DictOf knd d kvs := let ⟨o, es, a, b, c, r⟩ := hm; ⟨o, es, ep, a, b, c, r⟩
  refine getMethod_builtin (Heap.DictOf.typeIs hD) PySem.F.plainAttrs_dict PySem.F.slot_dict_values PySem.F.type_dict_values hD.mapOf.noDict (callWith_method0 (call_meetsIn PySem.F.slot_dict_values (Heap.DictOf.typeIs hD) PySem.F.entry_dict_values (PySem.F.args_dict_values_1 _) (meets_dict_values knd d hd) ⟨⟨_, hD⟩, ?_⟩))
  exact k _ _ (ext_push _) ⟨_, Heap.get?_push_size _ rfl, rfl, rfl⟩ (Nat.le_refl _) (by rw [Heap.size_push]; exact Nat.lt_succ_self _)
end
end Mine

end TxtL16

section TxtL17
open PySem PySem.W PyProof.Rows PySem.Calls
open PyProof.Rows.TI (gone gone_get gone_none gone_some)
namespace Mine
/-- what max(filter(None, ..), default=-1) is -/
def MaxIs (vs : List Value) (g : Int) : Prop := ((∀ v ∈ vs, v = .none) ∧ g = -1) ∨ (∃ t, Value.int g t ∈ vs ∧ ∀ n u, Value.int n u ∈ vs → n ≤ g)

section
variable {prog : Program} {w : World} {K : Type} [DecidableEq K] {knd : KeyKind prog w K} {A : Around} {E : Value → Shared → Prop} {s : Shared} {hp : Heap} {tk : Nat} {Q : Value → Shared → Prop}

set_option maxHeartbeats 2000000 in
theorem lineno_call {mg mb : Str → Option Value} {k : Nat} {d : Addr} {kvs : List (K × Value)} {ep : Nat} (G : Gr w mg mb hp) (c : Calm k A) (hk : k ≤ 20) (hd : (d == sysModules) = false) (hm : hp.DictAt knd d kvs ep)
    (hv : ∀ kv ∈ kvs, NumOr kv.2) (h : ∀ r t' h' tk', Ext hp h' → WidthIs (kvs.map (·.2)) r → Q (.int r t') (St s h' tk')) :
    wpAny (model prog w) A (call (.ref 48) [.ref d]) Q E (St s hp tk) := by
  have sl : sizeLine = 16777216 := rfl
  refine callFn (binds := [("linestarts", .ref d)]) G.X G.lim c.room rfl rfl rfl (locs rfl) (fun L h₁ tk₁ F hLs => ?_)
  refine wpAny_execs_cons (wpAny_If (wpAny_isTrue_Compare1 (nmL F.ns rfl (cNone (wpAny_is_other rfl (fun q => nomatch q) (wpAny_truthy_bool ?_))))))
  rw [if_neg (by simp)]
  refine wpAny_execs_nil (wpAny_execs_cons (wpAny_Assign_Name ?_))
  refine wpAny_Call_Name_kw (nmB (G.keeps F.keep) rfl boot_max (by decide) (callWith_kw ?_))
  refine args_cons (wpAny_Call_NameR (nmB (G.keeps F.keep) rfl boot_filter (by decide) (PyProof.Rows.callWith_type1 (args_cons (cNone (args_cons ?_))))))
  refine valuesOf (knd := knd) (kvs := kvs) (ep := ep) hd (nmL F.ns rfl ⟨_, _, rfl, rfl, hm.keep F.keep, fun v h₂ E₂ hview hv1 hv2 => args_nil ?_⟩)
  have hm₂ := hm.keep (Ext.trans' F.keep E₂)
  refine fil_new (knd := knd) hview hm₂ (fun it f h₃ hi1 hf1 hfi hF hit E₃ => args_nil ?_)
  have hm₃ := hm₂.keep E₃
  have hd2 : d < h₂.objs.size := by obtain ⟨o, es, e, _⟩ := hm₂; exact Heap.lt_size e
  have hdi : d ≠ it := Nat.ne_of_lt (Nat.lt_of_lt_of_le hd2 hi1)
  refine kws_cons (wpAny_UnaryOp (cInt fun _ _ => oNeg fun tn tkn => kwAll_nil ?_))
  show wpAny _ _ (call (.builtin "max") [.ref f] [("default", .int (-1) tn)]) _ _ _
  refine wpAny_mono (Q := fun v s' => ∃ g t h' tk', v = .int g t ∧ s' = St s h' tk' ∧ MaxIs (kvs.map (·.2)) g ∧ Ext h₂ h') (max_default ?_) (fun v s' hx => ?_) fun _ _ e => e
  · have W := fun B hB => fil_walks (prog := prog) (w := w) (A := B) (knd := knd) hB f it d hfi hdi kvs ep hv
    have hEx : ∀ h' : Heap, (∀ b o, b ∉ [it] → h₃.get? b = some o → h'.get? b = some o) → Ext h₂ h' := by
      intro h' hk b o e
      refine hk b o (fun hb => ?_) (E₃ b o e)
      have h1 := Heap.lt_size e
      simp at hb
      rw [hb] at h1
      exact absurd hi1 (Nat.not_le.mpr h1)
    have hin : ∀ v ∈ (kvs.map (·.2)).filter isNum, ∃ n t, v = .int n t ∧ v ∈ kvs.map (·.2) := fun v hm' => by
      obtain ⟨h1, h2⟩ := List.mem_filter.mp hm'
      obtain ⟨kv, h3, rfl⟩ := List.mem_map.mp h1
      rcases hv kv h3 with e | ⟨n, t, e, _⟩
      · rw [e] at h2; cases h2
      · exact ⟨n, t, e, h1⟩
    refine (W _ (c.deeper _).in1.hh).self 0 _ _ _ ⟨0, hF, hit, hm₃, by simp⟩ ⟨f, _, _, _, _, _, fun j => intIn ((((kvs.map (·.2)).filter isNum)[j]?).getD .none), rfl, W _ (c.deeper _).in1.hh, ⟨0, hF, hit, hm₃, by simp⟩, ?_, ?_, ?_, ?_⟩
    · intro b hb
      rcases List.mem_cons.mp hb with rfl | hb
      · exact Heap.lt_size hF
      rcases List.mem_cons.mp hb with rfl | hb
      · obtain ⟨o, e, _⟩ := hit; exact Heap.lt_size e
      rcases List.mem_cons.mp hb with rfl | hb
      · obtain ⟨o, es, e, _⟩ := hm₃; exact Heap.lt_size e
      · cases hb
    · intro j v' hj
      obtain ⟨n, t, rfl, _⟩ := hin v' (List.mem_of_getElem? hj)
      refine ⟨t, ?_⟩
      show _ = Value.int (intIn ((((kvs.map (·.2)).filter isNum)[j]?).getD .none)) t
      rw [hj]; rfl
    · intro h0 h' tk' hk'
      refine ⟨_, _, _, _, rfl, rfl, .inl ⟨fun v' hv' => ?_, rfl⟩, hEx h' hk'⟩
      obtain ⟨kv, h3, rfl⟩ := List.mem_map.mp hv'
      rcases hv kv h3 with e | ⟨n, t, e, _⟩
      · exact e
      · have := List.length_pos_of_mem (List.mem_filter (p := isNum).mpr ⟨hv', by rw [e]; rfl⟩)
        omega
    · intro g t h' tk' hg hmx hk'
      refine ⟨_, _, _, _, rfl, rfl, .inr ?_, hEx h' hk'⟩
      obtain ⟨i, hi, rfl⟩ := hg
      obtain ⟨n, t, e, h1⟩ := hin _ (List.getElem_mem hi)
      have e2 : intIn ((((kvs.map (·.2)).filter isNum)[i]?).getD .none) = n := by rw [List.getElem?_eq_getElem hi, e]; rfl
      simp only [] at hmx ⊢
      rw [e2] at hmx ⊢
      refine ⟨t, e ▸ h1, fun n' u hm' => ?_⟩
      obtain ⟨j, hj, e3⟩ := List.getElem_of_mem (List.mem_filter (p := isNum).mpr ⟨hm', rfl⟩)
      have := hmx j hj
      rw [List.getElem?_eq_getElem hj, e3] at this
      exact this
  · obtain ⟨g, t, h₄, tk₄, rfl, rfl, hg, E₄⟩ := hx
    have F₄ := frx F (Ext.trans' E₂ E₄)
    refine stL F₄ (fun h₅ tk₅ F₅ S₅ => ?_)
    have G₅ := G.keeps F₅.keep
    have hm₅ := hm.keep F₅.keep
    refine wpAny_execs_cons (wpAny_If (wpAny_isTrue_Compare1 (nmL F₅.ns upd_self (wpAny_UnaryOp (cInt fun _ _ => oNeg fun _ _ => oEq (wpAny_truthy_bool ?_))))))
    rcases hg with ⟨hall, rfl⟩ | ⟨gt, hgm, hgx⟩
    · rw [if_pos (by decide)]
      exact wpAny_execs_cons (wpAny_Return_some (cInt fun _ _ => h _ _ _ _ F₅.keep (.inl ⟨hall, rfl⟩)))
    · have hgb : 0 < g ∧ g < 1000000000 := by
        obtain ⟨kv, h3, e3⟩ := List.mem_map.mp hgm
        rcases hv kv h3 with e | ⟨n, t, e, h1, h2⟩
        · rw [e] at e3; cases e3
        · rw [e] at e3; injection e3 with e3; omega
      have hne : g ≠ -1 := by omega
      rw [if_neg (by simpa using hne)]
      have e1 := int_len (a := g) (by omega)
      refine wpAny_execs_nil (wpAny_execs_cons (wpAny_Assign_Name (wpAny_Call_NameR (nmB G₅ rfl boot_max (by decide) (callWith_builtin1 (args_cons (cInt fun t3 _ => args_cons ?_)))))))
      refine wpAny_Call_NameR (nmB G₅ rfl boot_len (by decide) (callWith_builtin1 (args_cons (wpAny_Call_NameR (nmB G₅ rfl PyProof.Rows.boot_str (by decide) (PyProof.Rows.callWith_type1 (args_cons (nmL F₅.ns upd_self (args_nil (oStrInt (by omega) fun _ _ => args_nil ?_))))))))))
      refine oLenStr (by omega) fun t₈ _ => args_nil ?_
      refine max_two_ints (c.deeper _).hh (fun h₆ tk₆ E₆ => ?_)
      obtain ⟨wd, tw, hw, hw2⟩ : ∃ (wd : Int) (tw : Tok), (if ((toString g : Str).length : Int) > 3 then Value.int ((toString g : Str).length : Int) t₈ else Value.int 3 t3) = .int wd tw ∧ wd = max 3 ((toString g : Str).length : Int) := by
        by_cases hc : ((toString g : Str).length : Int) > 3
        · exact ⟨_, _, if_pos hc, by omega⟩
        · exact ⟨_, _, if_neg hc, by omega⟩
      rw [hw]
      refine stL (frx F₅ E₆) (fun h₇ tk₇ F₇ S₇ => ?_)
      have G₇ := G.keeps F₇.keep
      have hm₇ := hm.keep F₇.keep
      refine wpAny_execs_cons (wpAny_If (wpAny_isTrue_BoolOp (wpAny_allTrue_And_cons (wpAny_isTrue_Compare1 (nmL F₇.ns upd_self (wpAny_Call_NameR (nmB G₇ rfl boot_len (by decide) (callWith_builtin1 (args_cons (nmG G₇ rfl (args_nil (oLenStr (by decide) fun _ _ => oLt (wpAny_truthy_bool ?_)))))))))))))
      have l4 : ((Str.ofString "  --").length : Int) = 4 := by decide +kernel
      rw [l4]
      have fin : ∀ (wd' : Int) (tw' : Tok) h₈ tk₈ (m₈ : Nat), wd' = (if Value.none ∈ kvs.map (·.2) then max 4 ((toString g : Str).length : Int) else max 3 ((toString g : Str).length : Int)) → Ext hp h₈ → Q (.int wd' tw') (St s h₈ tk₈) := by
        intro wd' tw' h₈ tk₈ m₈ e1 e2
        refine h _ _ _ _ e2 (.inr ⟨g, gt, hgm, hgx, ?_⟩)
        by_cases hnn : Value.none ∈ kvs.map (·.2)
        · rw [if_pos hnn] at e1; exact .inl ⟨hnn, e1⟩
        · rw [if_neg hnn] at e1; exact .inr ⟨hnn, e1⟩
      by_cases hc : wd < 4
      · rw [if_pos (by simpa using hc)]
        refine wpAny_allTrue_And_cons (wpAny_isTrue_Compare1 (cNone (valuesOf (knd := knd) (kvs := kvs) (ep := ep) hd (nmL F₇.ns rfl ⟨_, _, rfl, rfl, hm₇, fun v₂ h₈ E₈ hview hv1 hv2 => ?_⟩))))
        have hc' := c.un
        refine noneIn (knd := knd) (c.deeper _).hh (show A.units + 3 < 99 by omega) hview (hm₇.keep E₈) hv (fun h₉ tk₉ E₉ => wpAny_truthy_bool ?_)
        have F₉ := frx F₇ (Ext.trans' E₈ E₉)
        by_cases hnn : Value.none ∈ kvs.map (·.2)
        · rw [decide_eq_true hnn, if_pos rfl]
          refine wpAny_allTrue_And_nil ?_
          rw [if_pos rfl]
          refine wpAny_execs_cons (wpAny_Assign_Name (wpAny_Call_NameR (nmB (G.keeps F₉.keep) rfl boot_len (by decide) (callWith_builtin1 (args_cons (nmG (G.keeps F₉.keep) rfl (args_nil (oLenStr (by decide) fun _ _ => ?_))))))))
          refine stL F₉ (fun h₁₀ tk₁₀ F₁₀ S₁₀ => wpAny_execs_nil (wpAny_execs_cons (wpAny_Return_some (nmL F₁₀.ns upd_self (fin _ _ _ _ 0 ?_ F₁₀.keep)))))
          rw [if_pos hnn, l4]; omega
        · rw [decide_eq_false hnn, if_neg (by simp), if_neg (by simp)]
          refine wpAny_execs_nil (wpAny_execs_cons (wpAny_Return_some (nmL F₉.ns upd_self (fin _ _ _ _ 0 ?_ F₉.keep))))
          rw [if_neg hnn]; omega
      · rw [if_neg (by simpa using hc), if_neg (by simp)]
        refine wpAny_execs_nil (wpAny_execs_cons (wpAny_Return_some (nmL F₇.ns upd_self (fin _ _ _ _ 0 ?_ F₇.keep))))
        split <;> omega
end
end Mine

end TxtL17

section TxtL18
open PySem PySem.W PyProof.Rows PySem.Calls
open PyProof.Rows.TI (gone gone_get gone_none gone_some)
namespace Mine
namespace FF
theorem lk_list_keys : typeLookup (.type "list") "keys" = pure none := by rw [typeLookup_type, builtinLookup_eq_fast]; kernel_rfl
end FF
section
variable {prog : Program} {w : World} {A : Around} {E : Value → Shared → Prop}

/-- a list has no keys -/
theorem keysMiss {s : Shared} {hp : Heap} {tk : Nat} {a : Addr} {xs : Array Value} {Q : Option Value → Shared → Prop} (hh : A.handled = none) (hl : PlainL hp a xs)
    (h : ∀ h' tk', Ext hp h' → Q none (St s h' tk')) : wpAny (model prog w) A (getAttr? (.ref a) "keys") Q E (St s hp tk) := by
  obtain ⟨⟨c, dct, dat, sl⟩, k, hx, hc, hd, hdat⟩ := hl
  simp only at hc hdat hd
  subst hc hdat hd
  have hT : ∀ tk', (St s hp tk').TypeIs (.ref a) "list" := fun _ => ⟨_, hx, rfl⟩
  have f1 := sub_AttributeError
  have f3 := F.slot_list_getattribute.lookup
  have f4 := F.slot_list_getattribute.bind (.ref a)
  have f5 := am_list_getattr_none
  unfold getAttr? getAttrBy?
  repeat (any_goals (first | assumption | exact hT _ | ((with_reducible show wpAny _ _ (call (Value.builtin "list.__getattribute__") _ _) _ _ _); refine call_meets F.slot_list_getattribute (hT _) am_entry_list_getattribute (F.args_list_getattribute_2 _ _) (meets_getattribute_miss_list a xs k sl "keys" _ FF.lk_list_keys (by decide) (by decide)) ⟨hx, hh, fun h' tk' e hx' => ?_⟩) | wp_step))
  obtain ⟨t', u', he⟩ := hx'.there
  show wpAny _ _ (getattributeRaised _ _ _ _ _ _ _) _ _ _
  unfold getattributeRaised
  repeat (any_goals (first | assumption | wp_step))
  exact h _ _ hx'.keeps
end

/-- a row of a table -/
def RowIs (h : Heap) (v : Value) (p : Int × Value) : Prop := ∃ a t, v = .ref a ∧ h.IsList a #[.int p.1 t, p.2]
structure RowsAre (h : Heap) (vs : List Value) (ps : List (Int × Value)) : Prop where
  len : vs.length = ps.length
  at' : ∀ (i : Nat) v p, vs[i]? = some v → ps[i]? = some p → RowIs h v p
theorem RowsAre.ext {h h' : Heap} {vs : List Value} {ps : List (Int × Value)} (x : RowsAre h vs ps) (k : Ext h h') : RowsAre h' vs ps :=
  ⟨x.len, fun i v p a b => let ⟨q, t, e, l⟩ := x.at' i v p a b; ⟨q, t, e, list_ext l k⟩⟩
theorem RowsAre.set {h h' : Heap} {L : Addr} {m : Str → Option Value} {vs : List Value} {ps : List (Int × Value)} (x : RowsAre h vs ps) (hn : h.Ns L m) (hs : Heap.SameBut L h h') : RowsAre h' vs ps :=
  ⟨x.len, fun i v p a b => let ⟨q, t, e, l⟩ := x.at' i v p a b; ⟨q, t, e, list_set l hn hs⟩⟩

namespace FF
theorem plain_ul : plainId "dict.update.loop" = true := by decide +kernel
theorem entry_ul : entryFor table "dict.update.loop" = some Builtin.«dict.update.loop» := entryFor_of_tree (by kernel_rfl)
end FF

section
variable {prog : Program} {w : World} {A : Around} {E : Value → Shared → Prop} {s : Shared}

theorem dict_loop {I d l : Addr} {vs : List Value} {ps : List (Int × Value)} {hp : Heap} {R : Result → Shared → Prop} (hh : A.handled = none) (hIl : l ≠ I) (hdI : d ≠ I) (hd1 : hp.get? d = none) (hI1 : hp.get? I = none) (hl : hp.IsList l vs.toArray) (hr : RowsAre hp vs ps) (hnd : (ps.map (·.1)).Nodup) (hlen : vs.length ≤ 1000) :
    ∀ (k i : Nat) (h : Heap) (tk : Nat), k = vs.length - i → i ≤ vs.length → Ext hp h → h.IsListIter I l i → h.DictOf (intKind prog w) d (ps.take i) →
    (∀ h' tk', Ext hp h' → h'.DictOf (intKind prog w) d ps → R (.ok (.ret .none)) (St s h' tk')) →
    codeAny (model prog w) A (.builtin "dict.update.loop" ⟨[.ref d, .ref I, rawInt i, .none], []⟩) R (St s h tk) := by
  intro k
  induction k with
  | zero =>
    intro i h tk hk hi hE hit hD hR
    refine codeAny_builtin FF.entry_ul ?_
    rw [Around.under_plainId FF.plain_ul _]
    show wpAny _ A.in1 (pyNext (.ref I) >>= _) _ _ _
    have hi' : i = vs.length := by omega
    refine wpAny_bind (wpAny_pyNext_list_end (A := A.in1) hh hit (list_ext hl hE) (by simp [hi']) (fun h' he => ?_))
    have hE' : Ext hp h' := fun b o e => he b o (fun q => by rw [q, hI1] at e; cases e) (hE b o e)
    refine wpAny_bind (wpAny_pure (wpAny_pure (hR h' tk hE' ?_)))
    have e : ps.take i = ps := by rw [List.take_of_length_le]; rw [← hr.len]; omega
    rw [e] at hD
    obtain ⟨o, es, ep, a, r⟩ := hD
    exact ⟨o, es, ep, he _ _ hdI a, r⟩
  | succ k ih =>
    intro i h tk hk hi hE hit hD hR
    have hlt : i < vs.length := by omega
    have hlp : i < ps.length := by rw [← hr.len]; exact hlt
    refine codeAny_builtin FF.entry_ul ?_
    rw [Around.under_plainId FF.plain_ul _]
    show wpAny _ A.in1 (pyNext (.ref I) >>= _) _ _ _
    refine wpAny_bind (wpAny_pyNext_list_item (A := A.in1) hit (list_ext hl hE) (x := vs[i]) (by simp [hlt]) (fun h' hit' he => ?_))
    have hE' : Ext hp h' := fun b o e => he.extBut b o (fun q => by rw [q, hI1] at e; cases e) (hE b o e)
    obtain ⟨a, t, e, hrow⟩ := hr.at' i vs[i] ps[i] (List.getElem?_eq_getElem hlt) (List.getElem?_eq_getElem hlp)
    rw [e]
    have hrow' := list_ext hrow hE'
    obtain ⟨o, ho, hc, n, hdat⟩ := id hrow'
    have hD' : h'.DictOf (intKind prog w) d (ps.take i) := hD.sameBut he hdI
    show wpAny _ _ (holding [.ref a] _ >>= _) _ _ _
    refine wpAny_bind (wpAny_holding (wpAny_bind (wpAny_tryCatch ?_)))
    unfold Builtin.Dict.pairItems
    refine wpAny_bind (wpAny_typeOf (T := "list") ⟨o, ho, hc⟩ ?_)
    rw [if_pos (by rfl)]
    refine wpAny_bind (wpAny_seqItems ho hdat (wpAny_pure ?_))
    show wpAny _ _ (holding [_, _] (dictSet d (.int ps[i].1 t) ps[i].2)) _ _ _
    refine wpAny_holding ?_
    unfold dictSet
    refine wpAny_holding (wpAny_bind (wpAny_pyHash_int ?_))
    refine wpAny_dictSetHashed_pairs (knd := intKind prog w) (intKind_is prog w _ _) hD' (fun h'' hD'' hs'' => ?_) (by rw [List.length_take]; have : sizeLine = 16777216 := rfl; omega)
    have hst : stored (ps.take i) ps[i].1 ps[i].2 = ps.take (i + 1) := by
      have hno : (ps.take i).any (fun kv => kv.1 = ps[i].1) = false := by
        rw [List.any_eq_false]
        intro kv hkv he2
        have he2 : kv.1 = ps[i].1 := by simpa using he2
        obtain ⟨j, hj, rfl⟩ := List.getElem_of_mem hkv
        rw [List.length_take] at hj
        have e3 : (ps.take i)[j] = ps[j] := List.getElem_take
        rw [e3] at he2
        have h1 : (ps.map (·.1))[j]'(by simp; omega) = (ps.map (·.1))[i]'(by simp; omega) := by simpa using he2
        have := (List.getElem_inj hnd).mp h1
        omega
      unfold stored
      rw [if_neg (by simp [hno]), List.take_add_one, List.getElem?_eq_getElem hlp]
      rfl
    rw [hst] at hD''
    have hE'' : Ext hp h'' := fun b o e => hs''.extBut b o (fun q => by rw [q, hd1] at e; cases e) (hE' b o e)
    have hit'' : h''.IsListIter I l (i + 1) := let ⟨o, e, r⟩ := hit'; ⟨o, hs''.extBut _ _ (Ne.symm hdI) e, r⟩
    refine wpAny_pure ⟨plainId_quiet FF.plain_ul _, ?_⟩
    exact ih (i + 1) h'' _ (by omega) hlt hE'' hit'' hD'' hR

theorem dict_call {l : Addr} {vs : List Value} {ps : List (Int × Value)} {hp : Heap} {tk : Nat} {Q : Value → Shared → Prop} (hh : A.handled = none) (hl : PlainL hp l vs.toArray) (hr : RowsAre hp vs ps) (hnd : (ps.map (·.1)).Nodup) (hlen : vs.length ≤ 1000)
    (h : ∀ d ep h' tk', Ext hp h' → hp.objs.size ≤ d → h'.DictAt (intKind prog w) d ps ep → Q (.ref d) (St s h' tk')) :
    wpAny (model prog w) A (call (.type "dict") [.ref l]) Q E (St s hp tk) := by
  refine callType_codes (Q₁ := fun obj s₁ => obj = .ref hp.objs.size ∧ s₁ = St s (hp.push { cls := .type "dict", data := .dict #[] }) tk) F.kt_called_dict (F.kt_typeCall_dict_1 _) F.entry_dict_init (kt_code_dict_new _ ⟨rfl, rfl⟩) ?_
  rintro obj s₁ ⟨rfl, rfl⟩
  have hnew : (hp.push { cls := .type "dict", data := .dict #[] }).DictOf (intKind prog w) hp.objs.size [] := Heap.DictOf.new hp
  have hE₁ : Ext hp (hp.push { cls := .type "dict", data := .dict #[] }) := ext_push _
  refine ⟨Heap.DictOf.typeIs hnew, F.args_dict_init_2 _ _, ?_⟩
  unfold Builtin.«dict.__init__»
  refine wpAny_bind ?_
  unfold Builtin.Dict.selfAndRest
  refine wpAny_bind (wpAny_notOrdered_dict (Heap.DictOf.typeIs hnew) ?_)
  show wpAny _ _ (pure (hp.objs.size, [Value.ref l])) _ _ _
  refine wpAny_pure ?_
  show wpAny _ _ (Builtin.Dict.updateFrom "dict.__init__" hp.objs.size (.ref l) [] .none) _ _ _
  unfold Builtin.Dict.updateFrom
  have hl₁ := hl.keeps hE₁
  have hTl : ∀ {h' : Heap} {tk'}, PlainL h' l vs.toArray → (St s h' tk').TypeIs (.ref l) "list" := fun x => let ⟨o, n, e, c, _⟩ := x; ⟨o, e, c⟩
  refine wpAny_bind (wpAny_typeOf (hTl hl₁) ?_)
  rw [if_pos (by decide)]
  refine wpAny_bind (keysMiss (A := A.in1.in1) hh hl₁ (fun h₂ tk₂ hE₂ => ?_))
  rw [if_pos (by rfl)]
  have hl₂ := hl₁.keeps hE₂
  refine wpAny_bind (wpAny_rule (wpAny_bind (wpAny_pyIter_list hl₂.isList ?_)))
  have hD₂ : h₂.DictOf (intKind prog w) hp.objs.size [] := let ⟨o, es, ep, a, r⟩ := hnew; ⟨o, es, ep, hE₂ _ _ a, r⟩
  have hlt : hp.objs.size < h₂.objs.size := by obtain ⟨o, es, ep, a, r⟩ := hD₂; exact Heap.lt_size a
  have hll : l < h₂.objs.size := by obtain ⟨o, n, e, _⟩ := hl₂; exact Heap.lt_size e
  refine wpAny_pure ⟨plainId_quiet FF.plain_ul _, ?_⟩
  have hE₃ := Ext.trans' hE₁ (Ext.trans' hE₂ (ext_push (h := h₂) { cls := .type "list_iterator", data := .fields #[.ref l, .int 0 0] }))
  refine dict_loop (A := A.in1) (d := hp.objs.size) (I := h₂.objs.size) hh (Nat.ne_of_lt hll) (Nat.ne_of_lt hlt) (get_size_none _) (Heap.get?_none_of_le (Nat.le_of_lt hlt)) hl.isList hr hnd hlen _ 0 _ _ rfl (Nat.zero_le _) hE₃ ⟨_, Heap.get?_push_size _ rfl, rfl, rfl⟩ ?_ ?_
  · obtain ⟨o, es, ep, a, r⟩ := hD₂
    exact ⟨o, es, ep, ext_push _ _ _ a, r⟩
  · intro h' tk' hE' hD'
    obtain ⟨o, es, ep, r⟩ := hD'
    exact ⟨rfl, h _ ep h' tk' hE' (Nat.le_refl _) ⟨o, es, r⟩⟩
end
end Mine

end TxtL18

section TxtL19
open PySem PySem.W PyProof.Rows PySem.Calls
open PyProof.Rows.TI (gone gone_get gone_none gone_some)
namespace Mine
section
variable {prog : Program} {w : World} {A : Around} {E : Value → Shared → Prop} {s : Shared} {env : Env}

/-- a, b = [u, v] -/
theorem unpack2 {hp : Heap} {tk : Nat} {x y : Str} {px py pos : Pos} {k : Nat} {l : Addr} {u v : Value} {Q : Unit → Shared → Prop} (hh : A.handled = none) (hl : hp.IsList l #[u, v])
    (h : ∀ h', Ext hp h' → wpAny (model prog w) A (storeName env x u) (fun _ s₁ => wpAny (model prog w) A (storeName env y v) (fun _ s₂ => Q () s₂) E s₁) E (St s h' tk)) :
    wpAny (model prog w) A (assign (.Tuple [.Name x px, .Name y py] k pos) env (.ref l)) Q E (St s hp tk) := by
  rw [assign_Tuple]
  refine wpAny_bind (wpAny_standAt ?_)
  unfold unpack
  refine wpAny_bind (wpAny_holding ?_)
  show wpAny _ A (unpackItems (.ref l) (#[u, v] : Array Value).size none) _ _ _
  refine kun_itemsOf hh hl fun h' he => ?_
  refine wpAny_assignInOrder_more (wpAny_assign_Name (wpAny_mono (h h' (fun b o e => he b o (Nat.ne_of_lt (Heap.lt_size e)) e)) (fun _ s₁ h₁ => wpAny_assignInOrder_more (wpAny_assign_Name (wpAny_mono h₁ (fun _ s₂ h₂ => wpAny_assignInOrder_none h₂) fun _ _ e => e))) fun _ _ e => e))

/-- [y for x, y in rows] -/
theorem compSnd {iter : Expr} {x y : Str} {px py pt pn : Pos} {kk : Nat} {scope : Scope} {cl : List (Str × Addr)} {pos : Pos} {hp : Heap} {tk : Nat} {Q : Value → Shared → Prop} (hh : A.handled = none)
    (hclos : closureFor scope env = pure cl) (hcell : ∀ y ∈ scope.names, y.2 ≠ .cell) (hkind : scope.kind = .function)
    (hnames : ∀ y ∈ scope.names, y.2 = .local → scope.names.lookup y.1 = some .local) (hx : scope.names.lookup x = some .local) (hy : scope.names.lookup y = some .local) (hd : (y == ("__debug__" : Str)) = false)
    (h : wpAny (model prog w) A (eval iter env) (fun xv s₁ => ∃ ax h₁ tk₁ vals ps, xv = .ref ax ∧ s₁ = St s h₁ tk₁ ∧ h₁.IsList ax (vals : List Value).toArray ∧ vals.length ≤ sizeLine ∧ RowsAre h₁ vals ps ∧
      ∀ D h' tk', Ext h₁ h' → PlainL h' D (ps.map (·.2)).toArray → Q (.ref D) (St s h' tk')) E (St s hp tk))
    (hs : ∀ x, foldedSetIterable iter env x = pure x := by intro _; rfl) :
    wpAny (model prog w) A (eval (.ListComp (.Name y pn) [⟨.Tuple [.Name x px, .Name y py] kk pt, iter, [], 0⟩] scope pos) env) Q E (St s hp tk) := by
  refine listComp hclos hcell hkind hnames (wpAny_mono h (fun xv s₁ h₁ => ?_) fun _ _ x => x) hs
  obtain ⟨ax, h₁, tk₁, vals, ps, rfl, rfl, hl, hlen, hr, k⟩ := h₁
  refine iterList hh hl (fun I h₂ hE₂ hI hI2 hsz W hit hl₂ => ⟨I, h₂, tk₁, rfl, rfl, fun h₃ tk₃ Q' E' hE₃ hQ => W.self 0 _ _ _ ⟨let ⟨o, e, r⟩ := hit; ⟨o, hE₃ _ _ e, r⟩, list_ext hl₂ hE₃⟩ hQ, ?_⟩)
  intro D C h₃ tk₃ hDC hD hC hDs hCs hE₃ hpl hns
  have hax : ax < h₂.objs.size := by obtain ⟨o, e, _⟩ := hl₂; exact Heap.lt_size e
  have hCf : C ∉ [I, ax] := by simp only [List.mem_cons, List.not_mem_nil, or_false, not_or]; exact ⟨Nat.ne_of_gt (Nat.lt_of_lt_of_le hI2 hCs), Nat.ne_of_gt (Nat.lt_of_lt_of_le hax hCs)⟩
  have hDf : D ∉ [I, ax] := by simp only [List.mem_cons, List.not_mem_nil, or_false, not_or]; exact ⟨Nat.ne_of_gt (Nat.lt_of_lt_of_le hI2 hDs), Nat.ne_of_gt (Nat.lt_of_lt_of_le hax hDs)⟩
  have hCI : C ∉ [I] := fun q => hCf (List.mem_cons.mpr (.inl (List.mem_singleton.mp q)))
  have hDI : D ∉ [I] := fun q => hDf (List.mem_cons.mpr (.inl (List.mem_singleton.mp q)))
  have hD1 : h₁.get? D = none := by
    cases hq : h₁.get? D with
    | none => rfl
    | some o => rw [hE₂ _ _ hq] at hD; cases hD
  have hC1 : h₁.objs.size ≤ C := Nat.le_trans hsz hCs
  have hwr : ∀ b ∈ [I], h₁.get? b = none := by simpa using hI
  refine compGo W (fun i h => ∃ m, PlainL h D ((ps.map (·.2)).take i).toArray ∧ h.Ns C m ∧ Ext h₁ h) ⟨let ⟨o, e, r⟩ := hit; ⟨o, hE₃ _ _ e, r⟩, list_ext hl₂ hE₃⟩ ⟨_, by simpa using hpl, hns, Ext.trans' hE₂ hE₃⟩ ?_ ?_
  · rintro i v h h' tk' E' hi hv ⟨m, hD', hC', hE'⟩ hk hst
    have hip : i < ps.length := by rw [← hr.len]; exact hi
    obtain ⟨a, t, rfl, hrow⟩ := hr.at' i v ps[i] hv (List.getElem?_eq_getElem hip)
    have hE₄ : Ext h₁ h' := fun b o e => hk b o (fun hb => by rw [hwr b hb] at e; cases e) (hE' b o e)
    have hD₄ : PlainL h' D ((ps.map (·.2)).take i).toArray := let ⟨o, n, e, r⟩ := hD'; ⟨o, n, hk _ _ hDI e, r⟩
    have hC₄ : h'.Ns C m := let ⟨o, es, ep, e, r⟩ := hC'; ⟨o, es, ep, hk _ _ hCI e, r⟩
    have F₄ : Fr h₁ C h' m := ⟨hC₄, hE₄, hC1⟩
    refine wpAny_letOwnedTupleGo_listiter hst.1 ?_
    refine unpack2 hh (list_ext hrow hE₄) (fun h₅ hE₅ => ?_)
    refine stL (env := compEnvC scope cl C env) (frx F₄ hE₅) (fun h₆ tk₆ F₆ S₆ => ?_) (by simp [compEnvC, relabel, hkind]) (lookup_relabel_local hx)
    refine stL (env := compEnvC scope cl C env) F₆ (fun h₇ tk₇ F₇ S₇ => ?_) (by simp [compEnvC, relabel, hkind]) (lookup_relabel_local hy)
    refine wpAny_pure ?_
    rw [if_pos rfl]
    refine nmL (env := compEnvC scope cl C env) F₇.ns upd_self ?_ (by simp [compEnvC, relabel, hkind]) (lookup_relabel_local hy) hd
    have hD₇ : PlainL h₇ D ((ps.map (·.2)).take i).toArray := plain_set (plain_set (hD₄.keeps hE₅) (frx F₄ hE₅).ns S₆) F₆.ns S₇
    have hst₇ := W.frame _ _ h₇ hst fun b hb o e => S₇.extBut b o (fun h => hCf (by have h : b = C := h; exact h ▸ hb)) (S₆.extBut b o (fun h => hCf (by have h : b = C := h; exact h ▸ hb)) (hE₅ _ _ e))
    have hsl : sizeLine = 16777216 := rfl
    refine list_append_plainL hD₇ (fun h₈ hD₈ S₈ => ?_) (by rw [List.size_toArray, List.length_take, List.length_map]; omega)
    refine ⟨h₈, tk₇, rfl, W.frame _ _ _ hst₇ fun b hb o e => S₈.extBut b o (fun h => hDf (h ▸ hb)) e, _, ?_, F₇.ns.sameBut S₈ hDC.symm, fun b o e => S₈.extBut b o (by rintro rfl; rw [hD1] at e; cases e) (F₇.keep _ _ e)⟩
    have e : (ps.map (·.2)).take (i + 1) = (ps.map (·.2)).take i ++ [ps[i].2] := by
      rw [List.take_add_one, List.getElem?_map, List.getElem?_eq_getElem hip]; rfl
    rw [e]
    simpa using hD₈
  · rintro h h' tk' ⟨m, hD', hC', hE'⟩ hk
    have hE₄ : Ext h₁ h' := fun b o e => hk b o (fun hb => by rw [hwr b hb] at e; cases e) (hE' b o e)
    have hD₄ : PlainL h' D ((ps.map (·.2)).take vals.length).toArray := let ⟨o, n, e, r⟩ := hD'; ⟨o, n, hk _ _ hDI e, r⟩
    rw [List.take_of_length_le (by rw [List.length_map, hr.len]; exact Nat.le_refl _)] at hD₄
    have hC₄ : h'.Ns C m := let ⟨o, es, ep, e, r⟩ := hC'; ⟨o, es, ep, hk _ _ hCI e, r⟩
    refine ⟨h', tk', m, rfl, rfl, hC₄, fun h'' hs'' => k D h'' tk' (fun b o e => hs''.extBut b o (fun q => ?_) (hE₄ b o e)) (plain_set hD₄ hC₄ hs'')⟩
    have := Heap.lt_size e
    rw [q] at this
    exact absurd hC1 (Nat.not_le.mpr this)
end
end Mine

end TxtL19

section TxtL20
open PySem PySem.W PyProof.Rows PySem.Calls
open PyProof.Rows.TI (gone gone_get gone_none gone_some)
namespace Mine

noncomputable def lawFd (w : World) : Option FuncData := match (KK w).lookup 77 with
  | some o => (match o.data with | .func fd => some fd | _ => none)
  | none => none
noncomputable def lawBody (w : World) : List Stmt := match lawFd w with
  | some fd => (match fd.body with | .stmts b => b | _ => [])
  | none => []
noncomputable def lawScope (w : World) : Scope := match lawFd w with
  | some fd => fd.scope
  | none => { kind := .function, names := [], isGenerator := false, isCoroutine := false }
theorem lawMk {w : World} {P : List Stmt → Scope → Prop} {name qual : Str} {params : Arguments} {body : List Stmt} {scope : Scope}
    {dV kV doc pm cdv ct oc : Value} {an od : Option Addr} {osl : Array (Option Value)} (ho : (KK w).lookup 77 = some ⟨oc, od, .func (fnOf name qual params body scope dV kV doc pm an cdv ct), osl⟩) (h : P body scope) : P (lawBody w) (lawScope w) := by
  unfold lawBody lawScope lawFd
  rw [ho]
  exact h

/-- a table of line beginnings -/
def TableOk (h : Heap) (v : Value) (ps : List (Int × Value)) : Prop :=
  ∃ a vs, v = .ref a ∧ PlainL h a (vs : List Value).toArray ∧ RowsAre h vs ps ∧ (ps.map (·.1)).Nodup ∧ (∀ p ∈ ps, NumOr p.2) ∧ vs.length ≤ 1000
theorem TableOk.ext {h h' : Heap} {v : Value} {ps : List (Int × Value)} (x : TableOk h v ps) (k : Ext h h') : TableOk h' v ps :=
  let ⟨a, vs, e, p, r, n⟩ := x; ⟨a, vs, e, p.keeps k, r.ext k, n⟩

theorem isList_uniq {h : Heap} {a : Addr} {xs ys : Array Value} (x : h.IsList a xs) (y : h.IsList a ys) : xs = ys := by
  obtain ⟨o, e, _, n, d⟩ := x
  obtain ⟨o', e', _, n', d'⟩ := y
  rw [e] at e'; cases e'
  rw [d] at d'; cases d'
  rfl
theorem TableOk.uniq {h : Heap} {v : Value} {ps qs : List (Int × Value)} (x : TableOk h v ps) (y : TableOk h v qs) : ps = qs := by
  obtain ⟨a, vs, rfl, p1, r1, _⟩ := x
  obtain ⟨b, us, e, p2, r2, _⟩ := y
  cases e
  have e := isList_uniq p1.isList p2.isList
  have e : vs = us := by simpa using e
  subst e
  apply List.ext_getElem?
  intro i
  by_cases hi : i < ps.length
  · have hq : i < qs.length := by rw [← r2.len, r1.len]; exact hi
    have hv : i < vs.length := by rw [r1.len]; exact hi
    obtain ⟨c, t, e1, l1⟩ := r1.at' i vs[i] ps[i] (List.getElem?_eq_getElem hv) (List.getElem?_eq_getElem hi)
    obtain ⟨d, u, e2, l2⟩ := r2.at' i vs[i] qs[i] (List.getElem?_eq_getElem hv) (List.getElem?_eq_getElem hq)
    rw [e1] at e2; cases e2
    have e3 := isList_uniq l1 l2
    simp at e3
    rw [List.getElem?_eq_getElem hi, List.getElem?_eq_getElem hq]
    exact congrArg some (Prod.ext e3.1.1 e3.2)
  · have hq : ¬ i < qs.length := by rw [← r2.len, r1.len]; exact hi
    rw [List.getElem?_eq_none (by omega), List.getElem?_eq_none (by omega)]

theorem filter_all (vs : List Value) : vs.filter (fun _ => true) = vs := List.filter_eq_self.mpr fun _ _ => rfl

theorem paired_both {F G : Value → Value → Prop} {vs ys zs : List Value} (h1 : Paired F vs ys) (h2 : Paired G vs zs) (hF : ∀ v ∈ vs, ∀ y, F v y → ∃ n t, y = .int n t) (hP : ∀ v ∈ vs, ∀ y z, F v y → G v z → intIn y = intIn z) (hG : ∀ v ∈ vs, ∀ y, G v y → ∃ n t, y = .int n t) :
    ∃ ns, IntsAre ys ns ∧ IntsAre zs ns := by
  induction h1 generalizing zs with
  | nil => cases h2; exact ⟨[], .nil, .nil⟩
  | cons e _ ih =>
    cases h2 with
    | cons e2 h2 =>
      obtain ⟨n, t, rfl⟩ := hF _ List.mem_cons_self _ e
      obtain ⟨n', t', rfl⟩ := hG _ List.mem_cons_self _ e2
      have : n = n' := hP _ List.mem_cons_self _ _ e e2
      subst this
      obtain ⟨ns, a, b⟩ := ih h2 (fun v hv => hF v (List.mem_cons_of_mem _ hv)) (fun v hv => hP v (List.mem_cons_of_mem _ hv)) (fun v hv => hG v (List.mem_cons_of_mem _ hv))
      exact ⟨n :: ns, .cons n t a, .cons n t' b⟩

section
variable {prog : Program} {w : World} {A : Around} {E : Value → Shared → Prop} {s : Shared} {g h : Heap} {tk : Nat} {L fa : Addr} {cd : Value} {mg mb m : Str → Option Value} {Q : Flow → Shared → Prop}

set_option maxHeartbeats 4000000 in
theorem law10 (G : Gr w mg mb g) (c : Calm 5 A) (F : Fr g L h m) (T : Tab h) {tb : Addr} {tvs : List Value} (hm : m "tables" = some (.ref tb)) (hl : h.IsList tb tvs.toArray) (hlen : tvs.length ≤ 100) (hok : ∀ v ∈ tvs, ∃ ps, TableOk h v ps)
    (hQ : ∀ h' tk', Ext g h' → Tab h' → Q (.ret (.bool true)) (St s h' tk')) :
    wpAny (model prog w) A (execs ((lawBody w).drop 10) (envOfC "law" (lawScope w) L fa cd)) Q E (St s h tk) := by
  refine lawMk (P := fun b sc => wpAny (model prog w) A (execs (b.drop 10) (envOfC "law" sc L fa cd)) Q E (St s h tk)) rfl ?_
  have sl : sizeLine = 16777216 := rfl
  have hcl : 1000 < cLine := by decide
  have hun := c.un
  have hsys : ∀ {h' : Heap} {d : Addr}, (KK w).In h' → h'.objs.size ≤ d → (d == sysModules) = false := by
    intro h' d X hd
    have h77 := Heap.lt_size (X 77 _ rfl)
    have : d ≠ sysModules := by
      intro e
      have e : d = 1 := e
      rw [e] at hd
      exact absurd (Nat.lt_of_lt_of_le h77 hd) (by decide)
    simpa using this
  refine wpAny_execs_cons (wpAny_Return_some (wpAny_Compare1 ?_))
  refine compList c.hh rfl (by decide) rfl (by decide) rfl (nmL F.ns hm ⟨tb, h, _, tvs, fun _ => true, fun v y => ∃ ps r t, TableOk h v ps ∧ y = .int r t ∧ WidthIs (ps.map (·.2)) r, rfl, rfl, hl, by omega, ⟨?_, ?_⟩, ?_⟩)
  · intro C h₃ tk₃ m₃ v Q' E' hv' hn hm hE hC hQ
    exact wpAny_pure (hQ _)
  · intro C h₃ tk₃ m₃ v Q' E' hv' hpv hn hm' hE hC hQ'
    obtain ⟨ps, ok⟩ := hok v hv'
    obtain ⟨a, vs, rfl, hpl, hr, hnd, hnum, hvl⟩ := id (ok.ext hE)
    have G₃ := G.keeps (Ext.trans' F.keep hE)
    refine wpAny_Call_NameR (nmG G₃ rfl (callWith_K G₃.X rfl (args_cons (wpAny_Call_NameR (nmB G₃ rfl boot_dict (by decide) (PyProof.Rows.callWith_type1 (args_cons (nmL hn hm' (args_nil ?_)))))))))
    refine dict_call c.hh hpl hr hnd hvl (fun d ep h₄ tk₄ E₄ hd4 hD => args_nil ⟨(G₃.keeps E₄).X, ?_⟩)
    exact lineno_call (knd := intKind prog w) (G₃.keeps E₄) c (by decide) (hsys G₃.X hd4) hD hnum (fun r t h₅ tk₅ E₅ hw => hQ' _ _ _ ⟨ps, r, t, ok, rfl, hw⟩ (Ext.trans' E₄ E₅))
  intro D h₁ tk₁ ys E₁ hD hD1 hP₁
  refine compList c.hh rfl (by decide) rfl (by decide) rfl (nmL (F.ns.keeps E₁) hm ⟨tb, h₁, _, tvs, fun _ => true, fun v y => ∃ ps r t, TableOk h v ps ∧ y = .int r t ∧ WidthIs (ps.map (·.2)) r, rfl, rfl, list_ext hl E₁, by omega, ⟨?_, ?_⟩, ?_⟩)
  · intro C h₃ tk₃ m₃ v Q' E' hv' hn hm hE hC hQ
    exact wpAny_pure (hQ _)
  · intro C h₃ tk₃ m₃ v Q' E' hv' hpv hn hm' hE hC hQ'
    obtain ⟨ps, ok⟩ := hok v hv'
    obtain ⟨a, vs, rfl, hpl, hr, hnd, hnum, hvl⟩ := id (ok.ext (Ext.trans' E₁ hE))
    have G₃ := G.keeps (Ext.trans' F.keep (Ext.trans' E₁ hE))
    refine wpAny_Call_NameR (nmG G₃ rfl (callWith_K G₃.X rfl (args_cons ?_)))
    refine compSnd c.hh rfl (by decide) rfl (by decide) rfl rfl (by decide) (nmL hn hm' ⟨a, h₃, _, vs, ps, rfl, rfl, hpl.isList, by omega, hr, fun D₂ h₄ tk₄ E₄ hD₄ => args_nil ⟨(G₃.keeps E₄).X, ?_⟩⟩)
    refine width_call (G₃.keeps E₄) c (by decide) hD₄.isList (by rw [List.length_map, ← hr.len]; exact hvl) (fun v hv => ?_) (fun r t h₅ tk₅ E₅ hw => hQ' _ _ _ ⟨ps, r, t, ok, rfl, hw⟩ (Ext.trans' E₄ E₅))
    obtain ⟨p, hp, rfl⟩ := List.mem_map.mp hv
    exact hnum p hp
  intro D₂ h₂ tk₂ zs E₂ hD₂ hD21 hP₂
  rw [filter_all] at hP₁ hP₂
  obtain ⟨ns, i1, i2⟩ := paired_both hP₁ hP₂ (fun v _ y ⟨_, r, t, _, e, _⟩ => ⟨r, t, e⟩) (fun v _ y z ⟨ps, r, t, o1, e1, w1⟩ ⟨qs, r', t', o2, e2, w2⟩ => by
    have := o1.uniq o2
    subst this
    rw [e1, e2]
    exact w1.uniq w2) (fun v _ y ⟨_, r, t, _, e, _⟩ => ⟨r, t, e⟩)
  refine eq_intsK (list_ext hD.isList E₂) i1 hD₂.isList i2 (by omega) ?_
  rw [decide_eq_true rfl]
  exact hQ _ _ (Ext.trans' F.keep (Ext.trans' E₁ E₂)) (T.ext (Ext.trans' E₁ E₂))
end
end Mine

end TxtL20

section TxtL21
open PySem PySem.W PyProof.Rows PySem.Calls
open PyProof.Rows.TI (gone gone_get gone_none gone_some)
namespace Mine
theorem filterMap_some {α β : Type} {f : α → Option β} {g : α → β} : ∀ {l : List α}, (∀ x ∈ l, f x = some (g x)) → l.filterMap f = l.map g
  | [], _ => rfl
  | x :: l, h => by
    rw [List.filterMap_cons_some (h x List.mem_cons_self), List.map_cons, filterMap_some fun y hy => h y (List.mem_cons_of_mem _ hy)]
theorem pick_rev (items : List Value) : slicePick items.toArray none none (some (-1)) = items.reverse.toArray := by
  unfold slicePick sliceBounds sliceRange
  simp only [Option.getD_some, List.size_toArray]
  apply congrArg List.toArray
  have hc : (if (-1 : Int) > 0 then (if (if (-1 : Int) > 0 then (0 : Int) else (items.length : Int) - 1) < (if (-1 : Int) > 0 then (items.length : Int) else -1) then ((if (-1 : Int) > 0 then (items.length : Int) else -1) - (if (-1 : Int) > 0 then (0 : Int) else (items.length : Int) - 1) + -1 - 1) / -1 else 0)
      else (if (if (-1 : Int) > 0 then (0 : Int) else (items.length : Int) - 1) > (if (-1 : Int) > 0 then (items.length : Int) else -1) then ((if (-1 : Int) > 0 then (0 : Int) else (items.length : Int) - 1) - (if (-1 : Int) > 0 then (items.length : Int) else -1) - -1 - 1) / (- -1) else 0)).toNat = items.length := by
    simp only [show ¬ ((-1 : Int) > 0) by decide, if_false]
    by_cases h : items.length = 0
    · rw [if_neg (by omega)]; omega
    · rw [if_pos (by omega)]; simp only [Int.neg_neg, Int.ediv_one]; omega
  rw [hc]
  apply List.ext_getElem?
  intro i
  have key : (List.filterMap (fun x => items.toArray[x]?) (List.map (fun (k : Nat) => ((if (-1 : Int) > 0 then (0 : Int) else (items.length : Int) - 1) + -1 * (k : Int)).toNat) (List.range items.length))) = (List.range items.length).map (fun k => items[items.length - 1 - k]?.getD .none) := by
    rw [List.filterMap_map]
    apply filterMap_some
    intro k hk
    have hk : k < items.length := List.mem_range.mp hk
    simp only [show ¬ ((-1 : Int) > 0) by decide, if_false, Function.comp_apply]
    have e : ((items.length : Int) - 1 + -1 * (k : Int)).toNat = items.length - 1 - k := by omega
    rw [e, List.getElem?_toArray, List.getElem?_eq_getElem (by omega)]
    rfl
  rw [key]
  by_cases hi : i < items.length
  · rw [List.getElem?_map, List.getElem?_range hi, List.getElem?_reverse hi, Option.map_some, List.getElem?_eq_getElem (by omega)]
    rfl
  · rw [List.getElem?_eq_none (by simp; omega), List.getElem?_eq_none (by simp; omega)]

theorem pushed_plain (h : Heap) (its : Array Value) : PlainL (h.push { cls := .type "list", data := .seq its }) h.objs.size its :=
  ⟨_, 0, Heap.get?_push_size _ rfl, rfl, rfl, rfl⟩

section
variable {prog : Program} {w : World} {A : Around} {E : Value → Shared → Prop} {s : Shared} {env : Env} {hp : Heap} {tk : Nat} {Q : Value → Shared → Prop}
/-- xs[::-1] -/
theorem revL {value e : Expr} {p pos : Pos}
    (h : wpAny (model prog w) A (eval value env) (fun o s₁ => wpAny (model prog w) A (eval e env) (fun v s₂ => ∃ l items h₂ tk₂ t, s₂ = St s h₂ tk₂ ∧ o = .ref l ∧ v = .int (-1) t ∧ h₂.IsList l (items : List Value).toArray ∧ items.length ≤ sizeLine ∧
      ∀ a h', Ext h₂ h' → h₂.get? a = none → PlainL h' a items.reverse.toArray → Q (.ref a) (St s h' tk₂)) E s₁) E (St s hp tk))
    (ht : ∀ o r, letTemporaryGo value o r = pure () := by intro _ _; rfl) :
    wpAny (model prog w) A (eval (.Subscript value (.Slice none none (some e) p) pos) env) Q E (St s hp tk) := by
  refine wpAny_Subscript_Slice_step (T := "list") list_getitem_lookup (wpAny_mono h (fun o s₁ h₁ => wpAny_Slice ?_) fun _ _ e => e) ht
  rw [evalPart_none]
  refine wpAny_pure (wpAny_pure (wpAny_evalPart_some (wpAny_mono h₁ (fun v s₂ h₂ => ?_) fun _ _ e => e)))
  obtain ⟨l, items, h₂, tk₂, t, rfl, rfl, rfl, hl, hsz, k⟩ := h₂
  refine ⟨(hl.push _).typeIs, wpAny_getItem_list_slice (hl.push _) (Heap.IsSliceOf.new ..) .none .none (.int _ _) (by simp) ?_ (by simpa using hsz)⟩
  rw [pick_rev]
  refine k _ _ (Ext.trans' (ext_push _) (ext_push _)) (Heap.get?_none_of_le (by rw [Heap.size_push]; exact Nat.le_succ _)) (pushed_plain _ _)
end
end Mine

end TxtL21

section TxtL22
open PySem PySem.W PyProof.Rows PySem.Calls
open PyProof.Rows.TI (gone gone_get gone_none gone_some)
namespace Mine

theorem RowsAre.nil {h : Heap} : RowsAre h [] [] := ⟨rfl, fun i v p a _ => by simp at a⟩
theorem RowsAre.cons {h : Heap} {v : Value} {p : Int × Value} {vs : List Value} {ps : List (Int × Value)} (a : RowIs h v p) (b : RowsAre h vs ps) : RowsAre h (v :: vs) (p :: ps) := by
  refine ⟨by simp [b.len], fun i v' p' e1 e2 => ?_⟩
  cases i with
  | zero => simp at e1 e2; subst e1 e2; exact a
  | succ i => exact b.at' i v' p' (by simpa using e1) (by simpa using e2)
theorem RowsAre.uncons {h : Heap} {v : Value} {p : Int × Value} {vs : List Value} {ps : List (Int × Value)} (a : RowsAre h (v :: vs) (p :: ps)) : RowIs h v p ∧ RowsAre h vs ps :=
  ⟨a.at' 0 v p rfl rfl, by have := a.len; simpa using this, fun i v' p' e1 e2 => a.at' (i + 1) v' p' (by simpa using e1) (by simpa using e2)⟩
theorem RowsAre.rev {h : Heap} {vs : List Value} {ps : List (Int × Value)} (a : RowsAre h vs ps) : RowsAre h vs.reverse ps.reverse := by
  refine ⟨by simp [a.len], fun i v p e1 e2 => ?_⟩
  have hi : i < vs.length := by
    have := (List.getElem?_eq_some_iff.mp e1).1
    simpa using this
  rw [List.getElem?_reverse hi] at e1
  rw [List.getElem?_reverse (by rw [← a.len]; exact hi), ← a.len] at e2
  exact a.at' _ v p e1 e2
theorem RowsAre.filt {h : Heap} (q : Value → Bool) : ∀ {vs : List Value} {ps : List (Int × Value)}, RowsAre h vs ps → ∃ qs, RowsAre h (vs.filter q) qs ∧ List.Sublist qs ps
  | [], [], _ => ⟨[], .nil, .slnil⟩
  | [], _ :: _, a => by have := a.len; simp at this
  | _ :: _, [], a => by have := a.len; simp at this
  | v :: vs, p :: ps, a => by
    obtain ⟨h1, h2⟩ := a.uncons
    obtain ⟨qs, h3, h4⟩ := RowsAre.filt q h2
    by_cases hq : q v = true
    · exact ⟨p :: qs, by rw [List.filter_cons_of_pos hq]; exact .cons h1 h3, h4.cons₂ p⟩
    · exact ⟨qs, by rw [List.filter_cons_of_neg hq]; exact h3, h4.cons p⟩

/-- the row's second is None -/
noncomputable def noneRow (h : Heap) (v : Value) : Bool := @decide (∃ a n t, v = .ref a ∧ h.IsList a #[.int n t, .none]) (Classical.propDecidable _)
theorem noneRow_of {h : Heap} {v : Value} {p : Int × Value} (r : RowIs h v p) : noneRow h v = (p.2 == .none) := by
  obtain ⟨a, t, rfl, hl⟩ := r
  unfold noneRow
  by_cases hp : p.2 = .none
  · rw [hp] at hl
    rw [@decide_eq_true _ (Classical.propDecidable _) ⟨a, p.1, t, rfl, hl⟩, hp]; rfl
  · rw [@decide_eq_false _ (Classical.propDecidable _)]
    · exact (by simpa using hp : (p.2 == Value.none) = false).symm
    · rintro ⟨b, n, u, e, hb⟩
      cases e
      have e := isList_uniq hl hb
      simp at e
      exact hp e.2

theorem TableOk.sub {h : Heap} {a : Addr} {us : List Value} {ps qs : List (Int × Value)} (hp : PlainL h a us.toArray) (hr : RowsAre h us qs) (hs : List.Sublist qs ps) (hn : (ps.map (·.1)).Nodup) (hv : ∀ p ∈ ps, NumOr p.2) (hl : ps.length ≤ 1000) : TableOk h (.ref a) qs :=
  ⟨a, us, rfl, hp, hr, hn.sublist (hs.map _), fun p hp => hv p (hs.subset hp), by rw [hr.len]; exact Nat.le_trans hs.length_le hl⟩

section
variable {prog : Program} {w : World} {A : Around} {E : Value → Shared → Prop} {s : Shared} {g h : Heap} {tk : Nat} {L fa : Addr} {cd : Value} {mg mb m : Str → Option Value} {Q : Flow → Shared → Prop}

set_option maxHeartbeats 4000000 in
theorem law9 (G : Gr w mg mb g) (c : Calm 5 A) (F : Fr g L h m) (T : Tab h) {pr : Addr} {vs : List Value} {ps : List (Int × Value)} (hm : m "pairs" = some (.ref pr)) (hl : PlainL h pr vs.toArray) (hr : RowsAre h vs ps) (hn : (ps.map (·.1)).Nodup) (hv : ∀ p ∈ ps, NumOr p.2) (hlen : ps.length ≤ 1000)
    (hQ : ∀ h' tk', Ext g h' → Tab h' → Q (.ret (.bool true)) (St s h' tk')) :
    wpAny (model prog w) A (execs ((lawBody w).drop 9) (envOfC "law" (lawScope w) L fa cd)) Q E (St s h tk) := by
  refine lawMk (P := fun b sc => wpAny (model prog w) A (execs (b.drop 9) (envOfC "law" sc L fa cd)) Q E (St s h tk)) rfl ?_
  have sl : sizeLine = 16777216 := rfl
  have hvl : vs.length ≤ 1000 := by rw [hr.len]; exact hlen
  have row : ∀ {us qs}, RowsAre h us qs → List.Sublist qs ps → ∀ v ∈ us, ∃ p, RowIs h v p ∧ NumOr p.2 := by
    intro us qs r hs v hm
    obtain ⟨i, hi, rfl⟩ := List.getElem_of_mem hm
    have hiq : i < qs.length := by rw [← r.len]; exact hi
    exact ⟨qs[i], r.at' i _ _ (List.getElem?_eq_getElem hi) (List.getElem?_eq_getElem hiq), hv _ (hs.subset (List.getElem_mem hiq))⟩
  refine wpAny_execs_cons (wpAny_Assign_Name (dList ?_))
  refine wpAny_items_cons (nmL F.ns hm (wpAny_items_cons (revL (nmL F.ns hm (wpAny_UnaryOp (cInt fun _ _ => oNeg fun t₁ tk₁ => ⟨pr, vs, h, _, _, rfl, rfl, rfl, hl.isList, by omega, fun a₁ h₁ E₁ _ hP₁ => ?_⟩))))))
  refine wpAny_items_cons (compList c.hh rfl (by decide) rfl (by decide) rfl (nmL (F.ns.keeps E₁) hm ⟨pr, h₁, _, vs, noneRow h, fun v y => y = v, rfl, rfl, list_ext hl.isList E₁, by omega, ⟨?_, ?_⟩, ?_⟩))
  · intro C h₃ tk₃ m₃ v Q' E' hv' hn' hm' hE hC hQ'
    obtain ⟨p, ⟨a, t, rfl, hrow⟩, hnum⟩ := row hr (List.Sublist.refl _) v hv'
    refine wpAny_tests_one (wpAny_isTrue_Compare1 (Subscript_ (nmL hn' hm' (cInt fun _ _ => itemL (l := [.int p.1 t, p.2]) (list_ext hrow (Ext.trans' E₁ hE)) (by decide) (by decide) rfl (cNone (oIsNone hnum (wpAny_truthy_bool ?_)))))))
    rw [← noneRow_of ⟨a, t, rfl, hrow⟩]; exact hQ' _
  · intro C h₃ tk₃ m₃ v Q' E' hv hpv hn hm hE hC hQ
    exact nmL hn hm (hQ _ _ _ rfl Ext.rfl')
  intro a₂ h₂ tk₂ ys₂ E₂ hD₂ _ hP₂
  refine wpAny_items_cons (compList c.hh rfl (by decide) rfl (by decide) rfl (nmL (F.ns.keeps (Ext.trans' E₁ E₂)) hm ⟨pr, h₂, _, vs, fun v => !noneRow h v, fun v y => y = v, rfl, rfl, list_ext hl.isList (Ext.trans' E₁ E₂), by omega, ⟨?_, ?_⟩, ?_⟩))
  · intro C h₃ tk₃ m₃ v Q' E' hv' hn' hm' hE hC hQ'
    obtain ⟨p, ⟨a, t, rfl, hrow⟩, hnum⟩ := row hr (List.Sublist.refl _) v hv'
    refine wpAny_tests_one (wpAny_isTrue_Compare1 (Subscript_ (nmL hn' hm' (cInt fun _ _ => itemL (l := [.int p.1 t, p.2]) (list_ext hrow (Ext.trans' (Ext.trans' E₁ E₂) hE)) (by decide) (by decide) rfl (cNone (oNotNone hnum (wpAny_truthy_bool ?_)))))))
    rw [← noneRow_of ⟨a, t, rfl, hrow⟩]; exact hQ' _
  · intro C h₃ tk₃ m₃ v Q' E' hv hpv hn hm hE hC hQ
    exact nmL hn hm (hQ _ _ _ rfl Ext.rfl')
  intro a₃ h₃ tk₃ ys₃ E₃ hD₃ _ hP₃
  have E13 := Ext.trans' (Ext.trans' E₁ E₂) E₃
  refine wpAny_items_cons (compList c.hh rfl (by decide) rfl (by decide) rfl (revL (nmL (F.ns.keeps E13) hm (wpAny_UnaryOp (cInt fun _ _ => oNeg fun t₄ tk₄ => ⟨pr, vs, h₃, _, _, rfl, rfl, rfl, list_ext hl.isList E13, by omega, fun a₄ h₄ E₄ _ hP₄ => ⟨a₄, h₄, _, vs.reverse, fun v => !noneRow h v, fun v y => y = v, rfl, rfl, hP₄.isList, by rw [List.length_reverse]; omega, ⟨?_, ?_⟩, ?_⟩⟩)))))
  · intro C h₃ tk₃ m₃ v Q' E' hv' hn' hm' hE hC hQ'
    obtain ⟨p, ⟨a, t, rfl, hrow⟩, hnum⟩ := row hr (List.Sublist.refl _) v (List.mem_reverse.mp hv')
    refine wpAny_tests_one (wpAny_isTrue_Compare1 (Subscript_ (nmL hn' hm' (cInt fun _ _ => itemL (l := [.int p.1 t, p.2]) (list_ext hrow (Ext.trans' E13 (Ext.trans' E₄ hE))) (by decide) (by decide) rfl (cNone (oNotNone hnum (wpAny_truthy_bool ?_)))))))
    rw [← noneRow_of ⟨a, t, rfl, hrow⟩]; exact hQ' _
  · intro C h₃ tk₃ m₃ v Q' E' hv hpv hn hm hE hC hQ
    exact nmL hn hm (hQ _ _ _ rfl Ext.rfl')
  intro a₅ h₅ tk₅ ys₅ E₅ hD₅ _ hP₅
  refine wpAny_items_cons (dListP (wpAny_items_nil ⟨small, _, _, rfl, fun a₆ h₆ E₆ hD₆ _ => wpAny_items_nil ⟨small, _, _, rfl, fun tb h₇ E₇ hT₇ => ?_⟩⟩))
  have E57 := Ext.trans' E₅ (Ext.trans' E₆ E₇)
  have E47 := Ext.trans' E₄ E57
  have E37 := Ext.trans' E₃ E47
  have E27 := Ext.trans' E₂ E37
  have E17 := Ext.trans' E₁ E27
  refine stL (frx F E17) (fun h₈ tk₈ F₈ S₈ => ?_)
  have F₇ := frx F E17
  have up : ∀ {v qs}, TableOk h₇ v qs → TableOk h₈ v qs := fun ⟨a, us, e, p, r, n⟩ => ⟨a, us, e, plain_set p F₇.ns S₈, r.set F₇.ns S₈, n⟩
  have hrev := hr.rev
  obtain ⟨qs₂, r₂, s₂⟩ := hr.filt (noneRow h)
  obtain ⟨qs₃, r₃, s₃⟩ := hr.filt (fun v => !noneRow h v)
  obtain ⟨qs₅, r₅, s₅⟩ := hrev.filt (fun v => !noneRow h v)
  have hnr : (ps.reverse.map (·.1)).Nodup := by rw [List.map_reverse]; exact (List.reverse_perm _).nodup_iff.mpr hn
  have hvr : ∀ p ∈ ps.reverse, NumOr p.2 := fun p hp => hv p (List.mem_reverse.mp hp)
  have e₂ := paired_eq hP₂
  have e₃ := paired_eq hP₃
  have e₅ := paired_eq hP₅
  subst e₂ e₃ e₅
  refine law10 G c F₈ (Tab.set (T.ext E17) F₇.ns S₈) upd_self (list_set hT₇ F₇.ns S₈) (by simp) (fun v hm => ?_) hQ
  have k1 : TableOk h₇ (.ref pr) ps := TableOk.sub (hl.keeps E17) (hr.ext E17) (List.Sublist.refl _) hn hv hlen
  have k2 : TableOk h₇ (.ref a₁) ps.reverse := TableOk.sub (hP₁.keeps E27) (hrev.ext E17) (List.Sublist.refl _) hnr hvr (by rw [List.length_reverse]; exact hlen)
  have k3 : TableOk h₇ (.ref a₂) qs₂ := TableOk.sub (hD₂.keeps E37) (r₂.ext E17) s₂ hn hv hlen
  have k4 : TableOk h₇ (.ref a₃) qs₃ := TableOk.sub (hD₃.keeps E47) (r₃.ext E17) s₃ hn hv hlen
  have k5 : TableOk h₇ (.ref a₅) qs₅ := TableOk.sub (hD₅.keeps (Ext.trans' E₆ E₇)) (r₅.ext E17) s₅ hnr hvr (by rw [List.length_reverse]; exact hlen)
  have k6 : TableOk h₇ (.ref a₆) [] := TableOk.sub (us := []) (ps := ps) (hD₆.keeps E₇) .nil (List.nil_sublist _) hn hv hlen
  simp only [List.mem_cons, List.not_mem_nil, or_false] at hm
  rcases hm with rfl | rfl | rfl | rfl | rfl | rfl
  · exact ⟨_, up k1⟩
  · exact ⟨_, up k2⟩
  · exact ⟨_, up k3⟩
  · exact ⟨_, up k4⟩
  · exact ⟨_, up k5⟩
  · exact ⟨_, up k6⟩
end
end Mine

end TxtL22

section TxtL23
open PySem PySem.W PyProof.Rows PySem.Calls
open PyProof.Rows.TI (gone gone_get gone_none gone_some)
namespace Mine

/-- a zip of two list iterators, its first tuple handed out or not -/
abbrev IsZipW (h : Heap) (z TI TO : Addr) (f0 f1 : Value) : Prop :=
  h.get? z = some { cls := .type "zip", dict := none, data := .fields #[f0, f1, .bool false, .ref TI, .ref TO], slots := #[] }

section
variable {prog : Program} {w : World} {A : Around} {E : Value → Shared → Prop} {s : Shared}

theorem loadAlive {a : Addr} {Q : Option Obj → Shared → Prop} (h : Q (s.heap.get? a) s) : wpAny (model prog w) A (loadIfAlive a) Q E s := fun _ _ _ => h

theorem zip_busy {z TI TO T : Addr} {f1 : Value} {o : Obj} {Q : Bool → Shared → Prop} (hz : IsZipW s.heap z TI TO (rawInt T) f1) (hT : s.heap.get? T = some o)
    (h : ∀ h' f1', IsZipW h' z TI TO (rawInt T) f1' → Heap.SameBut z s.heap h' → Q false { s with heap := h' }) : wpAny (model prog w) A (Builtin.SmallTypes.ownedTupleIsFree (.ref z)) Q E s := by
  unfold Builtin.SmallTypes.ownedTupleIsFree
  refine wpAny_bind (wpAny_field hz rfl (x := rawInt T) rfl ?_)
  show wpAny _ _ (loadIfAlive (Int.toNat T) >>= _) _ _ _
  refine wpAny_bind (loadAlive ?_)
  rw [show (Int.toNat (T : Int) : Addr) = T from Int.toNat_natCast _, hT]
  show wpAny _ _ (field (.ref z) 1 >>= _) _ _ _
  refine wpAny_bind (wpAny_field hz rfl (x := f1) rfl ?_)
  by_cases hf : (f1 != .bool true) = true
  · rw [if_pos hf]
    refine wpAny_bind (wpAny_setField_rec hz (by simp) fun h₁ hz₁ hs₁ => wpAny_pure (h h₁ _ hz₁ hs₁))
  · rw [if_neg hf]
    exact wpAny_pure (h s.heap f1 hz (Heap.SameBut.refl ..))

theorem zip_next_busy {z TI TO i1 i2 l1 l2 T : Addr} {k1 k2 : Nat} {xs ys : Array Value} {x y f1 : Value} {o : Obj} {Q : Value → Shared → Prop} (D : ZipApart z TI TO i1 i2 l1 l2)
    (hz : IsZipW s.heap z TI TO (rawInt T) f1) (hT : s.heap.get? T = some o) (hTI : IsPair s.heap TI (.ref i1) (.ref i2))
    (h1 : s.heap.IsListIter i1 l1 k1) (h2 : s.heap.IsListIter i2 l2 k2) (hl1 : s.heap.IsList l1 xs) (hl2 : s.heap.IsList l2 ys) (hx : xs[k1]? = some x) (hy : ys[k2]? = some y)
    (hQ : ∀ h' P f1', IsZipW h' z TI TO (rawInt T) f1' → h'.IsListIter i1 l1 (k1 + 1) → h'.IsListIter i2 l2 (k2 + 1) → IsPair h' P x y → s.heap.objs.size ≤ P →
      (∀ c o, c ≠ z → c ≠ i1 → c ≠ i2 → s.heap.get? c = some o → h'.get? c = some o) → Q (.ref P) { s with heap := h' }) :
    wpAny (model prog w) A (Builtin.«zip.__next__» ⟨[.ref z], []⟩) (fun fin s' => ∃ v, fin = .done (.ret v) ∧ Q v s') E s := by
  show wpAny _ _ (field (.ref z) 2 >>= _) _ _ _
  refine wpAny_bind (wpAny_field hz rfl (x := .bool false) rfl ?_)
  show wpAny _ _ (field (.ref z) 3 >>= _) _ _ _
  refine wpAny_bind (wpAny_field hz rfl (x := .ref TI) rfl (wpAny_bind (wpAny_seqItems hTI rfl ?_)))
  show wpAny _ _ (Builtin.SmallTypes.ownedTupleIsFree (.ref z) >>= _) _ _ _
  refine wpAny_bind (zip_busy hz hT fun h₁ f1' hz₁ hs₁ => ?_)
  rw [if_neg (by simp)]
  show wpAny _ _ (forIn (#[Value.ref i1, Value.ref i2] : Array Value) _ _ >>= _) _ _ _
  rw [← Array.forIn_toList]
  simp only [List.forIn_cons, List.forIn_nil]
  refine wpAny_bind (wpAny_bind (wpAny_bind (wpAny_holding ?_)))
  show wpAny _ _ (Builtin.SmallTypes.nextOf (.ref i1) >>= _) _ _ _
  refine wpAny_bind (wpAny_nextOf_list_item (h1.extBut hs₁.extBut D.i1z) (hl1.extBut hs₁.extBut D.l1z) hx fun h₂ h1₂ hs₂ => wpAny_pure (wpAny_pure ?_))
  refine wpAny_bind (wpAny_bind (wpAny_holding ?_))
  show wpAny _ _ (Builtin.SmallTypes.nextOf (.ref i2) >>= _) _ _ _
  refine wpAny_bind (wpAny_nextOf_list_item ((h2.extBut hs₁.extBut D.i2z).extBut hs₂.extBut D.i12.symm) ((hl2.extBut hs₁.extBut D.l2z).extBut hs₂.extBut D.l2i1) hy fun h₃ h2₃ hs₃ => wpAny_pure (wpAny_pure (wpAny_pure ?_)))
  show wpAny _ _ (newTuple [x, y] >>= _) _ _ _
  refine wpAny_bind (wpAny_newTuple (wpAny_pure ⟨_, rfl, ?_⟩))
  have hsz : h₃.objs.size = s.heap.objs.size := by rw [hs₃.1, hs₂.1, hs₁.1]
  have hz₃ : IsZipW h₃ z TI TO (rawInt T) f1' := hs₃.extBut _ _ D.i2z.symm (hs₂.extBut _ _ D.i1z.symm hz₁)
  refine hQ _ h₃.objs.size f1' (Heap.get?_push_of_some _ hz₃) ?_ ?_ (Heap.get?_push_size _ rfl) (by rw [hsz]; exact Nat.le_refl _) (fun c o c1 c2 c3 e => Heap.get?_push_of_some _ (hs₃.extBut _ _ c3 (hs₂.extBut _ _ c2 (hs₁.extBut _ _ c1 e))))
  · obtain ⟨o, e, r⟩ := h1₂.extBut hs₃.extBut D.i12; exact ⟨o, Heap.get?_push_of_some _ e, r⟩
  · obtain ⟨o, e, r⟩ := h2₃; exact ⟨o, Heap.get?_push_of_some _ e, r⟩

theorem zip_end_busy {z TI TO i1 i2 l1 l2 T : Addr} {k1 : Nat} {xs : Array Value} {f1 : Value} {o : Obj} {Q : PySem.Fin → Shared → Prop} (hh : A.handled = none) (D : ZipApart z TI TO i1 i2 l1 l2)
    (hz : IsZipW s.heap z TI TO (rawInt T) f1) (hT : s.heap.get? T = some o) (hTI : IsPair s.heap TI (.ref i1) (.ref i2))
    (h1 : s.heap.IsListIter i1 l1 k1) (hl1 : s.heap.IsList l1 xs) (hx : xs[k1]? = none)
    (hE : ∀ h' e, (∀ c o, c ≠ z → c ≠ i1 → s.heap.get? c = some o → h'.get? c = some o) → (∃ o, h'.get? e = some o ∧ o.cls = .type "StopIteration") → E (.ref e) { s with heap := h' }) :
    wpAny (model prog w) A (Builtin.«zip.__next__» ⟨[.ref z], []⟩) Q E s := by
  show wpAny _ _ (field (.ref z) 2 >>= _) _ _ _
  refine wpAny_bind (wpAny_field hz rfl (x := .bool false) rfl ?_)
  show wpAny _ _ (field (.ref z) 3 >>= _) _ _ _
  refine wpAny_bind (wpAny_field hz rfl (x := .ref TI) rfl (wpAny_bind (wpAny_seqItems hTI rfl ?_)))
  show wpAny _ _ (Builtin.SmallTypes.ownedTupleIsFree (.ref z) >>= _) _ _ _
  refine wpAny_bind (zip_busy hz hT fun h₁ f1' hz₁ hs₁ => ?_)
  rw [if_neg (by simp)]
  show wpAny _ _ (forIn (#[Value.ref i1, Value.ref i2] : Array Value) _ _ >>= _) _ _ _
  rw [← Array.forIn_toList]
  simp only [List.forIn_cons, List.forIn_nil]
  refine wpAny_bind (wpAny_bind (wpAny_bind (wpAny_holding ?_)))
  show wpAny _ _ (Builtin.SmallTypes.nextOf (.ref i1) >>= _) _ _ _
  exact wpAny_bind (wpAny_nextOf_list_end hh (h1.extBut hs₁.extBut D.i1z) (hl1.extBut hs₁.extBut D.l1z) hx fun h₂ e he hc => hE h₂ e (fun c o c1 c2 q => he c o c2 (hs₁.extBut _ _ c1 q)) hc)
end
end Mine

end TxtL23

section TxtL24
open PySem PySem.W PyProof.Rows PySem.Calls
open PyProof.Rows.TI (gone gone_get gone_none gone_some)
namespace Mine
section
variable {prog : Program} {w : World} {A : Around} {E : Value → Shared → Prop} {s : Shared}

/-- what enumerate does once it has its item -/
theorem enum_rest {e z : Addr} {i : Nat} {old : Value} {Step : Value → Heap → Prop} {Q : Value → Shared → Prop} (he : IsEnum s.heap e z i old)
    (hN : ∀ (Q' : Value → Shared → Prop), (∀ x h₁, Step x h₁ → IsEnum h₁ e z i old → Q' x { s with heap := h₁ }) → wpAny (model prog w) A (Builtin.SmallTypes.nextOf (.ref z)) Q' E s)
    (hQ : ∀ x h₁ h' tk tk', Step x h₁ → IsEnumOut h' e z ((i : Int) + 1) x h₁.objs.size → IsPair h' h₁.objs.size (.int i tk) x → (∀ b o, b ≠ e → h₁.get? b = some o → h'.get? b = some o) → Q (.ref h₁.objs.size) { s with heap := h', toks := tk' }) :
    wpAny (model prog w) A (Builtin.«enumerate.__next__» ⟨[.ref e], []⟩) (fun fin s' => ∃ v, fin = .done (.ret v) ∧ Q v s') E s := by
  show wpAny _ _ (field (.ref e) 2 >>= _) _ _ _
  refine wpAny_bind (wpAny_field he rfl (x := .ref z) rfl (wpAny_bind (hN _ fun x h₁ st he₁ => ?_)))
  show wpAny _ _ (field (.ref e) 3 >>= _) _ _ _
  refine wpAny_bind (wpAny_field he₁ rfl (x := rawInt i) rfl ?_)
  show wpAny _ _ (field (.ref e) 4 >>= _) _ _ _
  refine wpAny_bind (wpAny_field he₁ rfl (x := .none) rfl ?_)
  show wpAny _ _ (mkInt i >>= _) _ _ _
  refine wpAny_bind (wpAny_mkInt ?_)
  show wpAny _ _ (setField (.ref e) 3 (rawInt ((i : Int) + 1)) >>= _) _ _ _
  refine wpAny_bind (wpAny_setField_rec he₁ (by simp) fun h₂ he₂ hs₂ => ?_)
  replace he₂ : IsEnum h₂ e z ((i : Int) + 1) old := he₂
  show wpAny _ _ (setField (.ref e) 4 .none >>= _) _ _ _
  refine wpAny_bind (wpAny_setField_rec he₂ (by simp) fun h₃ he₃ hs₃ => ?_)
  replace he₃ : IsEnum h₃ e z ((i : Int) + 1) old := he₃
  show wpAny _ _ (newTuple [.int i _, x] >>= _) _ _ _
  refine wpAny_bind (wpAny_newTuple ?_)
  have hsz : h₃.objs.size = h₁.objs.size := by rw [hs₃.1, hs₂.1]
  obtain ⟨tk, htk⟩ : ∃ tk, s.toks = tk := ⟨_, rfl⟩
  simp only [hsz]
  obtain ⟨h₄, hh₄⟩ : ∃ h₄, h₃.push { cls := .type "tuple", data := .seq #[.int i s.toks, x] } = h₄ := ⟨_, rfl⟩
  have he₄ : IsEnum h₄ e z ((i : Int) + 1) old := hh₄ ▸ Heap.get?_push_of_some _ he₃
  have hT₄ : IsPair h₄ h₁.objs.size (.int i s.toks) x := by rw [← hh₄, ← hsz]; exact Heap.get?_push_size _ rfl
  have hk₄ : ∀ b o, b ≠ e → h₁.get? b = some o → h₄.get? b = some o := fun b o hb q => hh₄ ▸ Heap.get?_push_of_some _ (hs₃.extBut _ _ hb (hs₂.extBut _ _ hb q))
  have hel : h₁.objs.size ≠ e := Nat.ne_of_gt (Heap.lt_size he₁)
  show wpAny _ _ (Builtin.SmallTypes.ownedTupleIsFree (.ref e) >>= _) _ _ { s with heap := h₃.push { cls := .type "tuple", data := .seq #[.int i s.toks, x] }, toks := _ }
  rw [hh₄]
  refine wpAny_bind ?_
  unfold Builtin.SmallTypes.ownedTupleIsFree
  refine wpAny_bind (wpAny_field he₄ rfl (x := .none) rfl (wpAny_pure ?_))
  simp only [if_true]
  refine wpAny_bind (wpAny_rule (wpAny_bind (wpAny_field he₄ rfl (x := old) rfl ?_)))
  refine wpAny_bind (wpAny_setField_rec he₄ (by simp) fun h₅ he₅ hs₅ => ?_)
  replace he₅ : IsEnum h₅ e z ((i : Int) + 1) x := he₅
  refine wpAny_bind ?_
  show wpAny _ _ (Builtin.SmallTypes.ownedTupleHandOut (.ref e) (.ref h₁.objs.size)) _ _ _
  unfold Builtin.SmallTypes.ownedTupleHandOut
  refine wpAny_bind (wpAny_setField_rec he₅ (by simp) fun h₆ he₆ hs₆ => ?_)
  replace he₆ : IsEnumOut h₆ e z ((i : Int) + 1) x h₁.objs.size := he₆
  refine wpAny_setField_rec he₆ (by simp) fun h₇ he₇ hs₇ => ?_
  replace he₇ : IsEnumOut h₇ e z ((i : Int) + 1) x h₁.objs.size := he₇
  refine wpAny_bind (wpAny_letGo (wpAny_pure ⟨_, rfl, hQ x h₁ h₇ s.toks _ st he₇ ?_ ?_⟩))
  · exact hs₇.extBut _ _ hel (hs₆.extBut _ _ hel (hs₅.extBut _ _ hel hT₄))
  · exact fun b o hb q => hs₇.extBut _ _ hb (hs₆.extBut _ _ hb (hs₅.extBut _ _ hb (hk₄ b o hb q)))

/-- the places of an enumerate over a zip over two lists -/
structure EZ (e z TI TO i1 i2 l1 l2 : Addr) : Prop where
  D : ZipApart z TI TO i1 i2 l1 l2
  ez : e ≠ z
  eTI : e ≠ TI
  eTO : e ≠ TO
  e1 : e ≠ i1
  e2 : e ≠ i2
  el1 : e ≠ l1
  el2 : e ≠ l2

/-- between two turns: the zip's own state -/
def ZipSt (z TI TO i1 i2 l1 l2 : Addr) (xs ys : Array Value) (i : Nat) (h : Heap) : Prop :=
  IsPair h TI (.ref i1) (.ref i2) ∧ h.IsListIter i1 l1 i ∧ h.IsListIter i2 l2 i ∧ h.IsList l1 xs ∧ h.IsList l2 ys ∧
  ((i = 0 ∧ IsZip h z TI TO .none ∧ ∃ a b, IsPair h TO a b) ∨ ∃ (T : Addr) (f1 : Value) (o : Obj), IsZipW h z TI TO (rawInt T) f1 ∧ h.get? T = some o ∧ T ≠ z ∧ T ≠ TO ∧ T ≠ i1 ∧ T ≠ i2)

theorem ez_next {e z TI TO i1 i2 l1 l2 : Addr} {xs ys : Array Value} {i : Nat} {x y : Value} {Q : Value → Shared → Prop} (D : ZipApart z TI TO i1 i2 l1 l2)
    (hst : ZipSt z TI TO i1 i2 l1 l2 xs ys i s.heap) (hx : xs[i]? = some x) (hy : ys[i]? = some y)
    (hQ : ∀ P h', ZipSt z TI TO i1 i2 l1 l2 xs ys (i + 1) h' → IsPair h' P x y → s.heap.objs.size ≤ P → (∀ c o, c ≠ z → c ≠ TO → c ≠ i1 → c ≠ i2 → s.heap.get? c = some o → h'.get? c = some o) → Q (.ref P) { s with heap := h' }) :
    wpAny (model prog w) A (Builtin.SmallTypes.nextOf (.ref z)) Q E s := by
  obtain ⟨hTI, h1, h2, hl1, hl2, hz⟩ := hst
  have fin : ∀ P h', IsPair h' P x y → s.heap.objs.size ≤ P → h'.IsListIter i1 l1 (i + 1) → h'.IsListIter i2 l2 (i + 1) → (∀ c o, c ≠ z → c ≠ TO → c ≠ i1 → c ≠ i2 → s.heap.get? c = some o → h'.get? c = some o) →
      (∃ (T : Addr) (f1 : Value) (o : Obj), IsZipW h' z TI TO (rawInt T) f1 ∧ h'.get? T = some o ∧ T ≠ z ∧ T ≠ TO ∧ T ≠ i1 ∧ T ≠ i2) → Q (.ref P) { s with heap := h' } := by
    intro P h' a b c d k hz'
    exact hQ P h' ⟨k _ _ D.TIz D.TITO D.TIi1 D.TIi2 hTI, c, d, hl1.at fun o e => k _ o D.l1z D.l1TO D.l1i1 D.l1i2 e, hl2.at fun o e => k _ o D.l2z D.l2TO D.l2i1 D.l2i2 e, .inr hz'⟩ a b k
  unfold Builtin.SmallTypes.nextOf
  have hTy : s.TypeIs (.ref z) "zip" := by rcases hz with ⟨_, hz, _⟩ | ⟨T, f1, o, hz, _⟩ <;> exact ⟨_, hz, rfl⟩
  rcases hz with ⟨_, hz, a, b, hTO⟩ | ⟨T, f1, o, hz, hT, t1, t2, t3, t4⟩
  · refine wpAny_bind (wpAny_callSpecial?_slot (name := Str.ofString "__next__") hTy F.slot_zip_next (wpAny_call_entry F.slot_zip_next hTy F.entry_zip_next (zip_next_item D hz hTI hTO h1 h2 hl1 hl2 hx hy fun h' a1 a2 a3 a4 a5 a6 a7 => wpAny_pure ?_) (F.args_zip_next_1 _)))
    have lt : ∀ {c o}, s.heap.get? c = some o → s.heap.objs.size ≠ c := fun e => Nat.ne_of_gt (Heap.lt_size e)
    exact fin _ h' a5 (Nat.le_refl _) a3 a4 a7 ⟨_, _, _, a1, a5, lt hz, lt hTO, (by obtain ⟨_, e, _⟩ := h1; exact lt e), (by obtain ⟨_, e, _⟩ := h2; exact lt e)⟩
  · refine wpAny_bind (wpAny_callSpecial?_slot (name := Str.ofString "__next__") hTy F.slot_zip_next (wpAny_call_entry F.slot_zip_next hTy F.entry_zip_next (zip_next_busy D hz hT hTI h1 h2 hl1 hl2 hx hy fun h' P f1' a1 a3 a4 a5 a6 a7 => wpAny_pure ?_) (F.args_zip_next_1 _)))
    exact fin _ h' a5 a6 a3 a4 (fun c o c1 c2 c3 c4 e => a7 c o c1 c3 c4 e) ⟨T, f1', o, a1, a7 _ _ t1 t3 t4 hT, t1, t2, t3, t4⟩
end
end Mine

end TxtL24

section TxtL25
open PySem PySem.W PyProof.Rows PySem.Calls
open PyProof.Rows.TI (gone gone_get gone_none gone_some)
namespace Mine
section
variable {prog : Program} {w : World} {A : Around} {E : Value → Shared → Prop} {s : Shared} {hp : Heap} {tk : Nat} {env : Env}

theorem ez_item {e z TI TO i1 i2 l1 l2 : Addr} {xs ys : Array Value} {i : Nat} {x y old : Value} {Q : Option Value → Shared → Prop} (D : EZ e z TI TO i1 i2 l1 l2)
    (he : IsEnum hp e z i old) (hst : ZipSt z TI TO i1 i2 l1 l2 xs ys i hp) (hx : xs[i]? = some x) (hy : ys[i]? = some y)
    (hQ : ∀ T P h' u tk', IsEnumOut h' e z ((i : Int) + 1) (.ref P) T → ZipSt z TI TO i1 i2 l1 l2 xs ys (i + 1) h' → IsPair h' T (.int i u) (.ref P) → IsPair h' P x y → hp.objs.size ≤ T → hp.objs.size ≤ P →
      (∀ c o, c ≠ e → c ≠ z → c ≠ TO → c ≠ i1 → c ≠ i2 → hp.get? c = some o → h'.get? c = some o) → Q (some (.ref T)) (St s h' tk')) :
    wpAny (model prog w) A (pyNext (.ref e)) Q E (St s hp tk) := by
  have hT : (St s hp tk).TypeIs (.ref e) "enumerate" := ⟨_, he, rfl⟩
  unfold pyNext
  refine wpAny_bind (wpAny_attempt (wpAny_callSpecial?_slot (name := Str.ofString "__next__") hT F.slot_enumerate_next (wpAny_call_entry F.slot_enumerate_next hT F.entry_enumerate_next ?_ (F.args_enumerate_next_1 _))))
  refine enum_rest (s := St s hp tk) (Step := fun v h₁ => ∃ P, v = .ref P ∧ ZipSt z TI TO i1 i2 l1 l2 xs ys (i + 1) h₁ ∧ IsPair h₁ P x y ∧ hp.objs.size ≤ P ∧ (∀ c o, c ≠ z → c ≠ TO → c ≠ i1 → c ≠ i2 → hp.get? c = some o → h₁.get? c = some o)) he ?_ ?_
  · intro Q' h
    refine ez_next (e := e) D.D hst hx hy fun P h' a b c k => h _ h' ⟨P, rfl, a, b, c, k⟩ (k _ _ D.ez D.eTO D.e1 D.e2 he)
  · rintro v h₁ h' u tk' ⟨P, rfl, hst₁, hP, hPs, k⟩ ho hpair hk
    have hel : e < hp.objs.size := Heap.lt_size he
    have he₁ := k _ _ D.ez D.eTO D.e1 D.e2 he
    have hPe : P ≠ e := Nat.ne_of_gt (Nat.lt_of_lt_of_le hel hPs)
    have hsz : hp.objs.size ≤ h₁.objs.size := Nat.le_of_lt (Nat.lt_of_le_of_lt hPs (Heap.lt_size hP))
    refine wpAny_pure (hQ _ P h' u tk' ho ?_ hpair (hk _ _ hPe hP) hsz hPs (fun c o c1 c2 c3 c4 c5 q => hk _ _ c1 (k _ _ c2 c3 c4 c5 q)))
    obtain ⟨a1, a2, a3, a4, a5, a6⟩ := hst₁
    refine ⟨hk _ _ D.eTI.symm a1, a2.at fun o q => hk _ _ D.e1.symm q, a3.at fun o q => hk _ _ D.e2.symm q, a4.at fun o q => hk _ _ D.el1.symm q, a5.at fun o q => hk _ _ D.el2.symm q, ?_⟩
    rcases a6 with ⟨h0, _⟩ | ⟨T, f1, o, b1, b2, b3⟩
    · omega
    · by_cases hTe : T = e
      · subst hTe
        exact .inr ⟨T, f1, _, hk _ _ D.ez.symm b1, ho, b3⟩
      · exact .inr ⟨T, f1, o, hk _ _ D.ez.symm b1, hk _ _ hTe b2, b3⟩

theorem ez_end {e z TI TO i1 i2 l1 l2 : Addr} {xs ys : Array Value} {i : Nat} {old : Value} {Q : Option Value → Shared → Prop} (hh : A.handled = none) (D : EZ e z TI TO i1 i2 l1 l2) (h0 : 0 < i)
    (he : IsEnum hp e z i old) (hst : ZipSt z TI TO i1 i2 l1 l2 xs ys i hp) (hx : xs[i]? = none)
    (hQ : ∀ h' tk', (∀ c o, c ≠ z → c ≠ i1 → hp.get? c = some o → h'.get? c = some o) → Q none (St s h' tk')) :
    wpAny (model prog w) A (pyNext (.ref e)) Q E (St s hp tk) := by
  have hT : (St s hp tk).TypeIs (.ref e) "enumerate" := ⟨_, he, rfl⟩
  obtain ⟨a1, a2, a3, a4, a5, a6⟩ := hst
  rcases a6 with ⟨h1, _⟩ | ⟨T, f1, o, b1, b2, b3⟩
  · omega
  have hTz : (St s hp tk).TypeIs (.ref z) "zip" := ⟨_, b1, rfl⟩
  unfold pyNext
  refine wpAny_bind (wpAny_attempt (wpAny_callSpecial?_slot (name := Str.ofString "__next__") hT F.slot_enumerate_next (wpAny_call_entry F.slot_enumerate_next hT F.entry_enumerate_next ?_ (F.args_enumerate_next_1 _))))
  show wpAny _ _ (field (.ref e) 2 >>= _) _ _ _
  refine wpAny_bind (wpAny_field he rfl (x := .ref z) rfl (wpAny_bind ?_))
  unfold Builtin.SmallTypes.nextOf
  refine wpAny_bind (wpAny_callSpecial?_slot (name := Str.ofString "__next__") hTz F.slot_zip_next (wpAny_call_entry F.slot_zip_next hTz F.entry_zip_next (zip_end_busy (s := St s hp tk) hh D.D b1 b2 a1 a2 a4 hx fun h' e' k hc => ?_) (F.args_zip_next_1 _)))
  obtain ⟨ob, ho, hc⟩ := hc
  exact wpAny_bind (wpAny_isInstance (T := "StopIteration") (b := true) ⟨ob, ho, hc⟩ isSubtype_stop (wpAny_pure (hQ h' _ k)))

theorem enum_new_zip {z TI TO : Addr} {Q : Value → Shared → Prop} (hz : IsZip hp z TI TO .none)
    (h : ∀ h', IsEnum h' hp.objs.size z 0 .none → Ext hp h' → Q (.ref hp.objs.size) (St s h' tk)) : wpAny (model prog w) A (call (.type "enumerate") [.ref z]) Q E (St s hp tk) := by
  refine callType_codes (Q₁ := fun obj s₁ => s₁.TypeIs obj "enumerate" ∧ Q obj s₁) F.called_enumerate (F.typeCall_enumerate_1 _) F.entry_object_init ?_ ?_
  · refine codeAny_call_builtin (by decide +kernel) F.entry_enumerate_new (wpAny_of_eq (F.newCall_enumerate_1 _) ?_)
    have hsub := sub_enumerate
    have hfin : ∀ (R : Prop), (Shared.TypeIs (St s (hp.push { cls := .type "enumerate", data := .fields #[.none, .bool false, .ref z, rawInt 0, .none, .none] }) tk) (.ref hp.objs.size) "enumerate" ∧ Q (.ref hp.objs.size) (St s (hp.push { cls := .type "enumerate", data := .fields #[.none, .bool false, .ref z, rawInt 0, .none, .none] }) tk) → R) → R :=
      fun R k => k ⟨⟨_, Heap.get?_push_size _ rfl, rfl⟩, h _ (Heap.get?_push_size _ rfl) (ext_push _)⟩
    wp_walk using wpAny_pyIter_zip hz
    refine wpAny_stack_any fun st => wpAny_pure ?_
    split
    · rename_i c _ _ _ _ _
      cases (c == Value.type "enumerate")
      · wp_walk using wpAny_pyIter_zip hz
        exact hfin _ fun x => x
      · wp_walk using wpAny_pyIter_zip hz
        exact hfin _ fun x => x
    · wp_walk using wpAny_pyIter_zip hz
      exact hfin _ fun x => x
  · rintro obj s₁ ⟨hT, hQ⟩
    exact ⟨hT, F.args_object_init_2 obj _, object_init_meets F.called_enumerate.init.lookup F.called_enumerate.made (by decide) prog w A.in1 (wants (fun r s₂ => r = .none ∧ Q obj s₂) E) s₁ ⟨hT, rfl, hQ⟩⟩

/-- a comprehension's turns, by what holds between them, the iterator's part of it in there too -/
theorem compGoI {elt target iter : Expr} {ifs : List Expr} {scope : Scope} {pos : Pos} {I D : Addr} {n : Nat} {R : Result → Shared → Prop} (J : Nat → Heap → Prop) (N : Nat → Heap → Value → Heap → Prop) (Dn : Heap → Heap → Prop) (hJ : J 0 hp)
    (next : ∀ i h tk (Q' : Option Value → Shared → Prop) (E' : Value → Shared → Prop), i < n → J i h → (∀ v h' tk', N i h v h' → Q' (some v) (St s h' tk')) → wpAny (model prog w) A (pyNext (.ref I)) Q' E' (St s h tk))
    (last : ∀ h tk (Q' : Option Value → Shared → Prop) (E' : Value → Shared → Prop), J n h → (∀ h' tk', Dn h h' → Q' none (St s h' tk')) → wpAny (model prog w) A (pyNext (.ref I)) Q' E' (St s h tk))
    (turn : ∀ i v h₁ h₂ tk₂ E', i < n → J i h₁ → N i h₁ v h₂ →
      wpAny (model prog w) A (letOwnedTupleGo target (.ref I) v) (fun _ s' => wpAny (model prog w) A (assign target env v) (fun _ s₂ =>
        wpAny (model prog w) A (forIn ifs true fun c r => if r = true then do let ok ← isTrue c env (eval c env); pure (ForInStep.yield ok) else pure (ForInStep.yield r)) (fun ok s₃ =>
          if ok = true then wpAny (model prog w) A (eval elt env) (fun x s₄ => wpAny (model prog w) A (call (.builtin "list.append") [.ref D, x]) (fun _ s₅ => ∃ h' tk', s₅ = St s h' tk' ∧ J (i + 1) h') E' s₄) E' s₃
          else ∃ h' tk', s₃ = St s h' tk' ∧ J (i + 1) h') E' s₂) E' s') E' (St s h₂ tk₂))
    (done : ∀ h₁ h₂ tk₂, J n h₁ → Dn h₁ h₂ → R (.ok .next) (St s h₂ tk₂)) :
    codeAny (model prog w) A (.compLoop (.ListComp elt [⟨target, iter, ifs, 0⟩] scope pos) 0 (.ref I) (.ref D) env) R (St s hp tk) := by
  refine codeAny_loop rfl (fun k s' => ∃ i h' tk', s' = St s h' tk' ∧ i ≤ n ∧ k = n + 1 - i ∧ J i h') ?_ (n + 1) ⟨0, hp, tk, rfl, Nat.zero_le _, rfl, hJ⟩
  rintro k _ ⟨i, h', tk', rfl, hi, rfl, hJ'⟩
  show wpAny _ A ((compTurn (.ListComp elt [⟨target, iter, ifs, 0⟩] scope pos) 0 (.ref I) (.ref D) env).onRaise (fun x => do noteFrame x env; theTreesLotGoes x)) _ _ _
  refine wpAny_noted ?_
  rw [compTurn_list]
  refine wpAny_bind (wpAny_standAt (wpAny_bind ?_))
  by_cases hlt : i < n
  · refine next i _ _ _ _ hlt hJ' (fun v h₂ tk₂ hN => ?_)
    refine wpAny_bind (wpAny_mono (turn i v h' h₂ tk₂ _ hlt hJ' hN) (fun _ s' h1 => wpAny_bind (wpAny_mono h1 (fun _ s₂ h2 => wpAny_bind (wpAny_mono h2 (fun ok s₃ h3 => ?_) fun _ _ x => x)) fun _ _ x => x)) fun _ _ x => x)
    cases ok with
    | false =>
      obtain ⟨h₄, tk₄, rfl, e1⟩ := h3
      exact wpAny_pure ⟨rfl, n + 1 - (i + 1), by omega, i + 1, h₄, tk₄, rfl, hlt, rfl, e1⟩
    | true =>
      refine wpAny_bind (wpAny_bind (wpAny_mono h3 (fun x s₄ h4 => wpAny_bind (wpAny_mono h4 (fun _ s₅ h5 => ?_) fun _ _ x => x)) fun _ _ x => x))
      obtain ⟨h₄, tk₄, rfl, e1⟩ := h5
      exact wpAny_pure (wpAny_pure ⟨rfl, n + 1 - (i + 1), by omega, i + 1, h₄, tk₄, rfl, hlt, rfl, e1⟩)
  · have hin : i = n := by omega
    subst hin
    exact last _ _ _ _ hJ' (fun h₂ tk₂ hN => wpAny_pure (done h' h₂ tk₂ hJ' hN))
end
end Mine

end TxtL25

section TxtL26
open PySem PySem.W PyProof.Rows PySem.Calls
open PyProof.Rows.TI (gone gone_get gone_none gone_some)
namespace Mine

theorem ezApart (N a b : Nat) (ha : a < N) (hb : b < N) : EZ (N + 5) (N + 4) (N + 2) (N + 3) N (N + 1) a b := by
  refine ⟨?_, ?_, ?_, ?_, ?_, ?_, ?_, ?_⟩
  · constructor <;> (show ¬ ((_ : Nat) = _); omega)
  all_goals (show ¬ ((_ : Nat) = _); omega)

theorem apart5 (N q : Nat) (h : N + 5 < q ∨ q < N) : q ≠ N + 5 ∧ q ≠ N + 4 ∧ q ≠ N + 3 ∧ q ≠ N ∧ q ≠ N + 1 := by omega
theorem ints_at {vs : List Value} {ns : List Int} (hi : IntsAre vs ns) {i : Nat} {v : Value} (h : vs[i]? = some v) : ∃ n t, ns[i]? = some n ∧ v = .int n t := by
  have hl := hi.length
  have hlt := (List.getElem?_eq_some_iff.mp h).1
  have hn : i < ns.length := by omega
  obtain ⟨t, e⟩ := ints_get hi (List.getElem?_eq_getElem hn)
  rw [h] at e
  cases e
  exact ⟨_, t, List.getElem?_eq_getElem hn, rfl⟩
theorem rows_snoc {h : Heap} {rs : List Value} {ps : List (Int × Value)} {v : Value} {p : Int × Value} (a : RowsAre h rs ps) (b : RowIs h v p) : RowsAre h (rs ++ [v]) (ps ++ [p]) := by
  refine ⟨by simp [a.len], fun i v' p' e1 e2 => ?_⟩
  by_cases hi : i < rs.length
  · rw [List.getElem?_append_left hi] at e1
    rw [List.getElem?_append_left (by rw [← a.len]; exact hi)] at e2
    exact a.at' i v' p' e1 e2
  · have hl := a.len
    rw [List.getElem?_append_right (by omega)] at e1
    rw [List.getElem?_append_right (by omega)] at e2
    have h1 := (List.getElem?_eq_some_iff.mp e1).1
    have : i - rs.length = 0 := by simp at h1; omega
    rw [this] at e1
    have : i - ps.length = 0 := by omega
    rw [this] at e2
    simp at e1 e2
    subst e1 e2
    exact b

/-- a list display, and where it lies -/
theorem dListS {prog : Program} {w : World} {A : Around} {E : Value → Shared → Prop} {s : Shared} {hp : Heap} {tk : Nat} {Q : Value → Shared → Prop} {env : Env} {elts : List Expr} {pos : Pos} (h : wpAny (model prog w) A (spliced (backTo pos (starEach elts env))) (fun vs s₁ => vs.length ≤ sizeLine ∧ ∃ h₁ tk₁, s₁ = St s h₁ tk₁ ∧ ∀ a h', Ext h₁ h' → PlainL h' a vs.toArray → h₁.objs.size ≤ a → Q (.ref a) (St s h' tk₁)) E (St s hp tk)) :
    wpAny (model prog w) A (eval (.List elts pos) env) Q E (St s hp tk) :=
  wpAny_List (wpAny_mono h (fun vs s₁ ⟨a, h₁, tk₁, e, b⟩ => ⟨a, by subst e; exact b _ _ (ext_push _) ⟨_, 0, Heap.get?_push_size _ rfl, rfl, rfl, rfl⟩ (Nat.le_refl _)⟩) fun _ _ x => x)

section
variable {prog : Program} {w : World} {A : Around} {E : Value → Shared → Prop} {s : Shared} {g h : Heap} {tk : Nat} {L fa : Addr} {cd : Value} {mg mb m : Str → Option Value} {Q : Flow → Shared → Prop}

set_option maxHeartbeats 4000000 in
theorem law8 (G : Gr w mg mb g) (c : Calm 5 A) (F : Fr g L h m) (T : Tab h) {sa za : Addr} {st sz : List Int} {b : Int} {bt : Tok} (hm : m "starts" = some (.ref sa)) (hs : LI h sa st) (hc1 : h.IsCell (L + 1) (some (.ref za))) (hz : LI h za sz) (hc2 : h.IsCell (L + 2) (some (.int b bt)))
    (hn : st.Nodup) (hl : st.length = sz.length) (h0 : 0 < st.length) (hlen : st.length ≤ 100) (hb0 : 0 < b) (hb1 : b < 10000000)
    (hQ : ∀ h' tk', Ext g h' → Tab h' → Q (.ret (.bool true)) (St s h' tk')) :
    wpAny (model prog w) A (execs ((lawBody w).drop 8) (envOfC "law" (lawScope w) L fa cd)) Q E (St s h tk) := by
  refine lawMk (P := fun b sc => wpAny (model prog w) A (execs (b.drop 8) (envOfC "law" sc L fa cd)) Q E (St s h tk)) rfl ?_
  have sl : sizeLine = 16777216 := rfl
  have G₁ := G.keeps F.keep
  obtain ⟨xs, hxs, ix⟩ := hs
  obtain ⟨ys, hys, iy⟩ := hz
  have hxl := ix.length
  have hyl := iy.length
  refine wpAny_execs_cons (assignComp rfl rfl (by decide) rfl (by decide) ?_)
  refine wpAny_Call_NameR (nmB G₁ rfl boot_enumerate (by decide) (PyProof.Rows.callWith_type1 (args_cons (wpAny_Call_NameR (nmB G₁ rfl boot_zip (by decide) (PyProof.Rows.callWith_type1 (args_cons (nmL F.ns hm (args_cons (nmC rfl hc1 (args_nil ?_)))))))))))
  refine call_zip_2 (s := St s h tk) hxs hys (fun h₁ z1 z2 z3 z4 z5 z6 E₁ => args_nil ?_)
  refine enum_new_zip z1 (fun h₂ he E₂ => ?_)
  refine wpAny_pyIter_enum (s := St s h₂ tk) he ⟨_, h₂, _, rfl, rfl, fun h₃ tk₃ Q' E' hE₃ hQ => wpAny_pyIter_enum (s := St s h₃ tk₃) (hE₃ _ _ he) hQ, ?_⟩
  intro D C h₃ tk₃ hDC hD hC hDs hCs hE₃ hpl hns
  obtain ⟨N, hN⟩ : ∃ N, h.objs.size = N := ⟨_, rfl⟩
  have hsa : sa < N := by obtain ⟨o, q, _⟩ := hxs; rw [← hN]; exact Heap.lt_size q
  have hza : za < N := by obtain ⟨o, q, _⟩ := hys; rw [← hN]; exact Heap.lt_size q
  have z1 : IsZip h₁ (N + 4) (N + 2) (N + 3) .none := hN ▸ z1
  have z2 : IsPair h₁ (N + 2) (.ref N) (.ref (N + 1)) := hN ▸ z2
  have z3 : IsPair h₁ (N + 3) .none .none := hN ▸ z3
  have z4 : h₁.IsListIter N sa 0 := hN ▸ z4
  have z5 : h₁.IsListIter (N + 1) za 0 := hN ▸ z5
  have z6 : h₁.objs.size = N + 5 := by rw [← hN]; exact z6
  have he : IsEnum h₂ (N + 5) (N + 4) 0 .none := by rw [← z6]; have := he; rwa [show (St s h tk).heap.objs.size = N from hN] at this
  have X := ezApart N sa za hsa hza
  have hE12 : Ext h h₂ := Ext.trans' E₁ E₂
  have hel : N + 5 < h₂.objs.size := Heap.lt_size he
  have hDN : N + 5 < D := Nat.lt_of_lt_of_le hel hDs
  have hCN : N + 5 < C := Nat.lt_of_lt_of_le hel hCs
  rw [show h₁.objs.size = N + 5 from z6]
  have hD1 : ∀ (b : Addr), b < N → b ≠ D := fun b hb => Nat.ne_of_lt (Nat.lt_trans hb (Nat.lt_of_le_of_lt (Nat.le_add_right _ _) hDN))
  have hCa : h.objs.size ≤ C := by rw [hN]; exact Nat.le_of_lt (Nat.lt_of_le_of_lt (Nat.le_add_right _ _) hCN)
  have hold : ∀ {h' : Heap} {b : Addr} {o : Obj}, h.get? b = some o → b < N := fun q => hN ▸ Heap.lt_size q
  refine compGoI (n := xs.length) (fun i h' => ∃ old rs ps mc, IsEnum h' (N + 5) (N + 4) i old ∧ ZipSt (N + 4) (N + 2) (N + 3) N (N + 1) sa za xs.toArray ys.toArray i h' ∧ PlainL h' D (rs : List Value).toArray ∧ h'.Ns C mc ∧ RowsAre h' rs ps ∧ (∀ a, Value.ref a ∈ rs → a ≠ D ∧ N + 5 < a) ∧ ps.map (·.1) = st.take i ∧ (∀ p ∈ ps, NumOr p.2) ∧ Ext h h')
    (fun i h' v h'' => ∃ T P x y u, v = .ref T ∧ xs[i]? = some x ∧ ys[i]? = some y ∧ IsEnumOut h'' (N + 5) (N + 4) ((i : Int) + 1) (.ref P) T ∧ ZipSt (N + 4) (N + 2) (N + 3) N (N + 1) sa za xs.toArray ys.toArray (i + 1) h'' ∧ IsPair h'' T (.int i u) (.ref P) ∧ IsPair h'' P x y ∧ h'.objs.size ≤ T ∧ h'.objs.size ≤ P ∧
      (∀ c o, c ≠ N + 5 → c ≠ N + 4 → c ≠ N + 3 → c ≠ N → c ≠ N + 1 → h'.get? c = some o → h''.get? c = some o))
    (fun h' h'' => ∀ c o, c ≠ N + 4 → c ≠ N → h'.get? c = some o → h''.get? c = some o) ?_ ?_ ?_ ?_ ?_
  · refine ⟨.none, [], [], _, hE₃ _ _ he, ?_, hpl, hns, .nil, (fun r hr => by cases hr), rfl, (fun p hp => by cases hp), Ext.trans' hE12 hE₃⟩
    have E13 := Ext.trans' E₂ hE₃
    exact ⟨E13 _ _ z2, z4.at fun o q => E13 _ _ q, z5.at fun o q => E13 _ _ q, list_ext hxs (Ext.trans' E₁ E13), list_ext hys (Ext.trans' E₁ E13), .inl ⟨rfl, E13 _ _ z1, _, _, E13 _ _ z3⟩⟩
  · rintro i h' tk' Q' E' hi ⟨old, rs, ps, mc, a1, a2, _⟩ k
    have hiy : i < ys.length := by omega
    exact ez_item X a1 a2 (x := xs[i]) (y := ys[i]) (by simp [hi]) (by simp [hiy]) (fun T P h'' u tk'' b1 b2 b3 b4 b5 b6 b7 => k _ _ _ ⟨T, P, xs[i], ys[i], u, rfl, List.getElem?_eq_getElem hi, List.getElem?_eq_getElem hiy, b1, b2, b3, b4, b5, b6, b7⟩)
  · rintro h' tk' Q' E' ⟨old, rs, ps, mc, a1, a2, _⟩ k
    exact ez_end c.hh X (by omega) a1 a2 (by simp) (fun h'' tk'' b => k _ _ b)
  · rintro i v h' h₄ tk₄ E' hi ⟨old, rs, ps, mc, a1, a2, a3, a4, a5, a6, a7, a8, a9⟩ ⟨Tp, P, x, y, u, rfl, hx, hy, b1, b2, b3, b4, b5, b6, b7⟩
    obtain ⟨xi, tx, exi, rfl⟩ := ints_at ix hx
    obtain ⟨yi, ty, eyi, rfl⟩ := ints_at iy hy
    have hip : i < st.length := (List.getElem?_eq_some_iff.mp exi).1
    have keep : ∀ {q : Addr} {o : Obj}, N + 5 < q → h'.get? q = some o → h₄.get? q = some o := fun hq q => by
      obtain ⟨d1, d2, d3, d4, d5⟩ := apart5 N _ (.inl hq)
      exact b7 _ _ d1 d2 d3 d4 d5 q
    have keepO : ∀ {q : Addr} {o : Obj}, h.get? q = some o → h'.get? q = some o → h₄.get? q = some o := fun {q o} hq q' => by
      obtain ⟨d1, d2, d3, d4, d5⟩ := apart5 N _ (.inr (hN ▸ Heap.lt_size hq))
      exact b7 _ _ d1 d2 d3 d4 d5 q'
    have E₄ : Ext h h₄ := fun b o q => keepO q (a9 b o q)
    have hDlt : D < h'.objs.size := by obtain ⟨o, n, q, _⟩ := a3; exact Heap.lt_size q
    have hClt : C < h'.objs.size := by obtain ⟨o, es, ep, q, _⟩ := a4; exact Heap.lt_size q
    have hC₄ : h₄.Ns C mc := let ⟨o, es, ep, q, r⟩ := a4; ⟨o, es, ep, keep hCN q, r⟩
    have hD₄ : PlainL h₄ D rs.toArray := let ⟨o, n, q, r⟩ := a3; ⟨o, n, keep hDN q, r⟩
    have hR₄ : RowsAre h₄ rs ps := ⟨a5.len, fun i v p e1 e2 => by
      obtain ⟨a, t, rfl, o, q, r⟩ := a5.at' i v p e1 e2
      exact ⟨a, t, rfl, o, keep (a6 a (List.mem_of_getElem? e1)).2 q, r⟩⟩
    refine wpAny_letOwnedTupleGo_enum b1 (fun h₅ e₅ s₅ => ?_)
    have hsz' : N + 5 < h'.objs.size := Nat.lt_trans hDN hDlt
    have k5 : ∀ {q : Addr} {o : Obj}, q ≠ N + 5 → h₄.get? q = some o → h₅.get? q = some o := fun hq q => s₅.extBut _ _ hq q
    have E₅ : Ext h h₅ := fun b o q => k5 (apart5 N _ (.inr (hN ▸ Heap.lt_size q))).1 (E₄ b o q)
    have hT₅ : IsPair h₅ Tp (.int i u) (.ref P) := k5 (Nat.ne_of_gt (Nat.lt_of_lt_of_le hsz' b5)) b3
    have hP₅ : IsPair h₅ P (.int xi tx) (.int yi ty) := k5 (Nat.ne_of_gt (Nat.lt_of_lt_of_le hsz' b6)) b4
    have F₅ : Fr h C h₅ mc := ⟨(let ⟨o, es, ep, q, r⟩ := hC₄; ⟨o, es, ep, k5 (Nat.ne_of_gt hCN) q, r⟩), E₅, hCa⟩
    have hD₅ : PlainL h₅ D rs.toArray := let ⟨o, n, q, r⟩ := hD₄; ⟨o, n, k5 (Nat.ne_of_gt hDN) q, r⟩
    have hR₅ : RowsAre h₅ rs ps := ⟨hR₄.len, fun i v p e1 e2 => by
      obtain ⟨a, t, rfl, o, q, r⟩ := hR₄.at' i v p e1 e2
      exact ⟨a, t, rfl, o, k5 (Nat.ne_of_gt (a6 a (List.mem_of_getElem? e1)).2) q, r⟩⟩
    have hZ₅ : ZipSt (N + 4) (N + 2) (N + 3) N (N + 1) sa za xs.toArray ys.toArray (i + 1) h₅ := by
      obtain ⟨c1, c2, c3, c4, c5, c6⟩ := b2
      refine ⟨k5 X.eTI.symm c1, c2.at fun o q => k5 X.e1.symm q, c3.at fun o q => k5 X.e2.symm q, c4.at fun o q => k5 X.el1.symm q, c5.at fun o q => k5 X.el2.symm q, ?_⟩
      rcases c6 with ⟨h0, _⟩ | ⟨T', f1, o, d1, d2, d3⟩
      · omega
      · by_cases hTe : T' = N + 5
        · subst hTe
          exact .inr ⟨_, f1, _, k5 X.ez.symm d1, e₅, d3⟩
        · exact .inr ⟨T', f1, o, k5 X.ez.symm d1, k5 hTe d2, d3⟩
    refine wpAny_assign_Tuple c.hh (s := St s h₅ tk₄) ⟨_, hT₅, rfl, _, rfl⟩ rfl rfl (fun h₆ x₆ => ?_)
    have E₆ : Ext h₅ h₆ := fun b o q => x₆ b o (Nat.ne_of_lt (Heap.lt_size q)) q
    refine wpAny_assignInOrder_more (wpAny_assign_Name (stL (frx F₅ E₆) (fun h₇ tk₇ F₇ S₇ => ?_)))
    have tup : ∀ {h₁ h₂ : Heap} {q : Addr} {a b : Value} {mm}, IsPair h₁ q a b → h₁.Ns C mm → Heap.SameBut C h₁ h₂ → IsPair h₂ q a b := fun p n s => keep_set p (fun es n q => by cases q) n s
    have hP₇ := tup (E₆ _ _ hP₅) (frx F₅ E₆).ns S₇
    refine wpAny_assignInOrder_more ?_
    show wpAny _ _ (assign (.Tuple _ 0 _) _ (.ref P)) _ _ _
    refine wpAny_assign_Tuple c.hh (s := St s h₇ tk₇) ⟨_, hP₇, rfl, _, rfl⟩ rfl rfl (fun h₈ x₈ => ?_)
    have E₈ : Ext h₇ h₈ := fun b o q => x₈ b o (Nat.ne_of_lt (Heap.lt_size q)) q
    refine wpAny_assignInOrder_more (wpAny_assign_Name (stL (frx F₇ E₈) (fun h₉ tk₉ F₉ S₉ => wpAny_assignInOrder_more (wpAny_assign_Name (stL F₉ (fun ha tka Fa Sa => wpAny_assignInOrder_none (wpAny_assignInOrder_none (wpAny_pure ?_))))))))
    rw [if_pos rfl]
    have hc2a : ha.IsCell (L + 2) (some (.int b bt)) := cell_ext hc2 Fa.keep
    have hRa : RowsAre ha rs ps := ((((hR₅.ext E₆).set (frx F₅ E₆).ns S₇).ext E₈).set (frx F₇ E₈).ns S₉).set F₉.ns Sa
    have hDa : PlainL ha D rs.toArray := plain_set (plain_set ((plain_set (hD₅.keeps E₆) (frx F₅ E₆).ns S₇).keeps E₈) (frx F₇ E₈).ns S₉) F₉.ns Sa
    have hother : ∀ {q : Addr} {o : Obj}, q ≠ C → h₅.get? q = some o → ha.get? q = some o := fun hq q => Sa.extBut _ _ hq (S₉.extBut _ _ hq (E₈ _ _ (S₇.extBut _ _ hq (E₆ _ _ q))))
    have hZa : ZipSt (N + 4) (N + 2) (N + 3) N (N + 1) sa za xs.toArray ys.toArray (i + 1) ha := by
      obtain ⟨c1, c2, c3, c4, c5, c6⟩ := hZ₅
      have dC : ∀ {q : Addr}, q ≤ N + 5 → q ≠ C := fun hq => Nat.ne_of_lt (Nat.lt_of_le_of_lt hq hCN)
      refine ⟨hother (dC (Nat.add_le_add_left (by decide) _)) c1, c2.at fun o q => hother (dC (Nat.le_add_right _ _)) q, c3.at fun o q => hother (dC (Nat.add_le_add_left (by decide) _)) q, c4.at fun o q => hother (dC (Nat.le_trans (Nat.le_of_lt hsa) (Nat.le_add_right _ _))) q, c5.at fun o q => hother (dC (Nat.le_trans (Nat.le_of_lt hza) (Nat.le_add_right _ _))) q, ?_⟩
      rcases c6 with ⟨h0, _⟩ | ⟨T', f1, o, d1, d2, d3⟩
      · omega
      · by_cases hTC : T' = C
        · subst hTC
          obtain ⟨o', es, ep, q, _⟩ := Fa.ns
          exact .inr ⟨_, f1, o', hother (dC (Nat.add_le_add_left (by decide) _)) d1, q, d3⟩
        · exact .inr ⟨T', f1, o, hother (dC (Nat.add_le_add_left (by decide) _)) d1, hother hTC d2, d3⟩
    have hea : IsEnum ha (N + 5) (N + 4) ((i : Int) + 1) (.ref P) := hother (Nat.ne_of_lt hCN) e₅
    have hps : ps.length = i := by have := congrArg List.length a7; rw [List.length_map, List.length_take] at this; omega
    have e1 : st.take (i + 1) = st.take i ++ [xi] := by rw [List.take_add_one, exi]; rfl
    have fin : ∀ (v : Value) (u : Tok) (hb : Heap) (tkb : Nat) (ra : Addr), NumOr v → Ext ha hb → hb.IsList ra #[.int xi u, v] → ha.objs.size ≤ ra →
        wpAny (model prog w) A (call (.builtin "list.append") [.ref D, .ref ra]) (fun _ s₅ => ∃ h' tk', s₅ = St s h' tk' ∧ ∃ old rs ps mc, IsEnum h' (N + 5) (N + 4) ((i + 1 : Nat) : Int) old ∧ ZipSt (N + 4) (N + 2) (N + 3) N (N + 1) sa za xs.toArray ys.toArray (i + 1) h' ∧ PlainL h' D (rs : List Value).toArray ∧ h'.Ns C mc ∧ RowsAre h' rs ps ∧ (∀ a, Value.ref a ∈ rs → a ≠ D ∧ N + 5 < a) ∧ ps.map (·.1) = st.take (i + 1) ∧ (∀ p ∈ ps, NumOr p.2) ∧ Ext h h') E' (St s hb tkb) := by
      intro v u hb tkb ra hv hE hra hrn
      refine list_append_plainL (hDa.keeps hE) (fun hc hDc Sc => ⟨hc, tkb, rfl, .ref P, rs ++ [.ref ra], ps ++ [(xi, v)], _, ?_, ?_, by simpa using hDc, (Fa.ns.keeps hE).sameBut Sc hDC.symm, ?_, ?_, ?_, ?_, ?_⟩) (by rw [List.size_toArray, hRa.len, hps]; omega)
      · have := Sc.extBut _ _ (Nat.ne_of_lt hDN) (hE _ _ hea); exact this
      · obtain ⟨c1, c2, c3, c4, c5, c6⟩ := hZa
        have dD : ∀ {q : Addr}, q ≤ N + 5 → q ≠ D := fun hq => Nat.ne_of_lt (Nat.lt_of_le_of_lt hq hDN)
        have ho : ∀ {q : Addr} {o : Obj}, q ≠ D → ha.get? q = some o → hc.get? q = some o := fun hq q => Sc.extBut _ _ hq (hE _ _ q)
        refine ⟨ho (dD (Nat.add_le_add_left (by decide) _)) c1, c2.at fun o q => ho (dD (Nat.le_add_right _ _)) q, c3.at fun o q => ho (dD (Nat.add_le_add_left (by decide) _)) q, c4.at fun o q => ho (dD (Nat.le_trans (Nat.le_of_lt hsa) (Nat.le_add_right _ _))) q, c5.at fun o q => ho (dD (Nat.le_trans (Nat.le_of_lt hza) (Nat.le_add_right _ _))) q, ?_⟩
        rcases c6 with ⟨h0, _⟩ | ⟨T', f1, o, d1, d2, d3⟩
        · omega
        · by_cases hTD : T' = D
          · subst hTD
            obtain ⟨o', n', q, _⟩ := hDc
            exact .inr ⟨_, f1, o', ho (dD (Nat.add_le_add_left (by decide) _)) d1, q, d3⟩
          · exact .inr ⟨T', f1, o, ho (dD (Nat.add_le_add_left (by decide) _)) d1, ho hTD d2, d3⟩
      · refine rows_snoc ⟨hRa.len, fun j v p q1 q2 => ?_⟩ ⟨ra, u, rfl, ?_⟩
        · obtain ⟨a, t, rfl, o, q, r⟩ := hRa.at' j v p q1 q2
          exact ⟨a, t, rfl, o, Sc.extBut _ _ (a6 a (List.mem_of_getElem? q1)).1 (hE _ _ q), r⟩
        · obtain ⟨o, q, r⟩ := hra
          refine ⟨o, Sc.extBut _ _ ?_ q, r⟩
          rintro rfl
          obtain ⟨o', n', q', _⟩ := hDa
          exact Nat.lt_irrefl _ (Nat.lt_of_lt_of_le (Heap.lt_size q') hrn)
      · intro a hm
        rcases List.mem_append.mp hm with hm | hm
        · exact a6 a hm
        · have : a = ra := by simpa using hm
          subst this
          refine ⟨?_, ?_⟩
          · rintro rfl
            obtain ⟨o', n', q', _⟩ := hDa
            exact Nat.lt_irrefl _ (Nat.lt_of_lt_of_le (Heap.lt_size q') hrn)
          · exact Nat.lt_of_lt_of_le (Heap.lt_size hea) hrn
      · rw [List.map_append, a7, e1]; rfl
      · intro p hp
        rcases List.mem_append.mp hp with hp | hp
        · exact a8 p hp
        · have : p = (xi, v) := by simpa using hp
          subst this; exact hv
      · exact fun b o q => Sc.extBut _ _ (hD1 b (hN ▸ Heap.lt_size q)) (hE _ _ (Fa.keep b o q))
    refine dListS (wpAny_items_cons (nmL Fa.ns rfl (wpAny_items_cons (IfExp_ (wpAny_isTrue_Compare1 (nmL Fa.ns rfl (cInt fun _ _ => oEq (wpAny_truthy_bool ?_))))))))
    by_cases hy0 : yi = 0
    · rw [if_pos (by simpa using hy0)]
      exact cNone (wpAny_items_nil ⟨small, _, _, rfl, fun ra hb hE hra hrn => fin .none _ hb _ ra (.inl rfl) hE hra.isList hrn⟩)
    · rw [if_neg (by simpa using hy0)]
      refine wpAny_BinOp (nmC rfl hc2a (nmL Fa.ns rfl (oAdd fun u₂ _ => wpAny_items_nil ⟨small, _, _, rfl, fun ra hb hE hra hrn => fin (.int (b + i) u₂) _ hb _ ra (.inr ⟨_, _, rfl, by omega, by omega⟩) hE hra.isList hrn⟩)))
  · rintro h' h₄ tk₄ ⟨old, rs, ps, mc, a1, a2, a3, a4, a5, a6, a7, a8, a9⟩ k
    have kD : ∀ {q : Addr} {o : Obj}, N + 5 < q → h'.get? q = some o → h₄.get? q = some o := fun hq q => k _ _ (apart5 N _ (.inl hq)).2.1 (apart5 N _ (.inl hq)).2.2.2.1 q
    have E₄ : Ext h h₄ := fun b o q => k _ _ (apart5 N _ (.inr (hN ▸ Heap.lt_size q))).2.1 (apart5 N _ (.inr (hN ▸ Heap.lt_size q))).2.2.2.1 (a9 b o q)
    have hC₄ : h₄.Ns C mc := let ⟨o, es, ep, q, r⟩ := a4; ⟨o, es, ep, kD hCN q, r⟩
    have hD₄ : PlainL h₄ D rs.toArray := let ⟨o, n, q, r⟩ := a3; ⟨o, n, kD hDN q, r⟩
    have hR₄ : RowsAre h₄ rs ps := ⟨a5.len, fun i v p e1 e2 => by
      obtain ⟨a, t, rfl, o, q, r⟩ := a5.at' i v p e1 e2
      exact ⟨a, t, rfl, o, kD (a6 a (List.mem_of_getElem? e1)).2 q, r⟩⟩
    have hCL : C ≠ L := by
      rintro rfl
      obtain ⟨o, es, ep, q, _⟩ := F.ns
      exact absurd (Nat.lt_trans (hN ▸ Heap.lt_size q) (Nat.lt_of_le_of_lt (Nat.le_add_right _ 5) hCN)) (Nat.lt_irrefl _)
    refine ⟨h₄, tk₄, rfl, rfl, stL (frx F E₄) (fun h₅ tk₅ F₅ S₅ => ⟨h₅, tk₅, mc, rfl, ?_, fun h₆ S₆ => ?_⟩)⟩
    · exact hC₄.sameBut S₅ hCL
    · have hC₅ := hC₄.sameBut S₅ hCL
      have F₆ : Fr g L h₆ (upd m "pairs" (.ref D)) := ⟨F₅.ns.sameBut S₆ (Ne.symm hCL), fun b o q => S₆.extBut b o (Nat.ne_of_lt (Nat.lt_trans (hN ▸ Heap.lt_size (F.keep b o q)) (Nat.lt_of_le_of_lt (Nat.le_add_right _ 5) hCN))) (F₅.keep b o q), F₅.above⟩
      have hlp : ps.length ≤ 1000 := by have := congrArg List.length a7; rw [List.length_map, List.length_take] at this; omega
      refine law9 G c F₆ (Tab.set (Tab.set (T.ext E₄) (frx F E₄).ns S₅) hC₅ S₆) upd_self (plain_set (plain_set hD₄ (frx F E₄).ns S₅) hC₅ S₆) ((hR₄.set (frx F E₄).ns S₅).set hC₅ S₆) ?_ a8 hlp hQ
      rw [a7, List.take_of_length_le (by omega)]; exact hn
end
end Mine

end TxtL26

section TxtL27
open PySem PySem.W PyProof.Rows PySem.Calls
open PyProof.Rows.TI (gone gone_get gone_none gone_some)
namespace Mine

theorem cell_not_list {h : Heap} {c a : Addr} {v : Option Value} {xs : Array Value} (x : h.IsCell c v) (y : h.IsList a xs) : a ≠ c := by
  rintro rfl
  obtain ⟨o, e, d⟩ := x
  obtain ⟨o', e', _, n, d'⟩ := y
  rw [e] at e'; cases e'
  rw [d] at d'; cases d'
theorem LI.cell {h h' : Heap} {c a : Addr} {v : Option Value} {ns : List Int} (y : LI h a ns) (x : h.IsCell c v) (s : Heap.SameBut c h h') : LI h' a ns := by
  obtain ⟨vs, l, i⟩ := y
  obtain ⟨o, e, r⟩ := id l
  exact ⟨vs, ⟨o, s.extBut _ _ (cell_not_list x l) e, r⟩, i⟩
theorem Tab.cell {h h' : Heap} {c : Addr} {v : Option Value} (T : Tab h) (x : h.IsCell c v) (s : Heap.SameBut c h h') : Tab h' := by
  obtain ⟨o, e, d⟩ := x
  have ne : ∀ {b : Addr} {o' : Obj}, h.get? b = some o' → o'.data ≠ .cell v → b ≠ c := by
    rintro b o' q hd rfl
    rw [e] at q; cases q
    exact hd d
  obtain ⟨ps, q, a, b⟩ := T
  refine ⟨ps, s.extBut _ _ (ne q (by intro hd; cases hd)) q, a, b.imp id fun ⟨c', e1, e2⟩ => ⟨c', e1, ?_⟩⟩
  obtain ⟨cc, oo, vs, t, r1, r2, r3, r4⟩ := e2
  exact ⟨cc, oo, vs, t, r1, s.extBut _ _ (ne r2 (by rw [r3]; intro hd; cases hd)) r2, r3, r4⟩

/-- a subscript of a temporary value -/
theorem tempTail {prog : Program} {w : World} {A : Around} {E : Value → Shared → Prop} {s : Shared} {value slice : Expr} {o i : Value} {Q : Value → Shared → Prop}
    (h : wpAny (model prog w) A (subscriptTail (.Name "x" ⟨0, 0, 0, 0⟩) slice o i) Q E s) : wpAny (model prog w) A (subscriptTail value slice o i) Q E s := by
  intro Γ p hΓ
  have h1 := h Γ p hΓ
  unfold subscriptTail at h1 ⊢
  rw [Sem.wp_bind'] at h1 ⊢
  refine Sem.wp_mono _ Γ _ (fun b p' s' h2 => ?_) (fun _ _ _ x => x) p s h1
  rw [Sem.wp_bind'] at h2 ⊢
  refine Sem.wp_mono _ Γ _ (fun r p₂ s₂ h3 => ?_) (fun _ _ _ x => x) p' s' h2
  exact (wpAny_bind (wpAny_letTemporaryGo (wpAny_pure (M := model prog w) (A := A) (E := E) (Q := Q) h3))) Γ p₂ hΓ

section
variable {prog : Program} {w : World} {A : Around} {E : Value → Shared → Prop} {s : Shared} {g h : Heap} {tk : Nat} {L fa : Addr} {cd : Value} {mg mb m : Str → Option Value} {Q : Flow → Shared → Prop}

theorem fr_cell {c : Addr} {v : Option Value} {h' : Heap} (F : Fr g L h m) (x : h.IsCell c v) (hc : g.objs.size ≤ c) (hcL : L ≠ c) (S : Heap.SameBut c h h') : Fr g L h' m :=
  ⟨F.ns.sameBut S hcL, fun b o q => S.extBut b o (Nat.ne_of_lt (Nat.lt_of_lt_of_le (Heap.lt_size q) hc)) (F.keep b o q), F.above⟩

set_option maxHeartbeats 4000000 in
theorem law7 (G : Gr w mg mb g) (c : Calm 5 A) (F : Fr g L h m) (T : Tab h) {sc sa za : Addr} {ns st sz : List Int} (hsc : m "script" = some (.ref sc)) (hns : LI h sc ns) (hnl : ns.length ≤ 1000) (hm : m "starts" = some (.ref sa)) (hs : LI h sa st) (hc1 : h.IsCell (L + 1) (some (.ref za))) (hz : LI h za sz) (hc2 : h.IsCell (L + 2) none)
    (hn : st.Nodup) (hl : st.length = sz.length) (h0 : 0 < st.length) (hlen : st.length ≤ 100)
    (hQ : ∀ h' tk', Ext g h' → Tab h' → Q (.ret (.bool true)) (St s h' tk')) :
    wpAny (model prog w) A (execs ((lawBody w).drop 7) (envOfC "law" (lawScope w) L fa cd)) Q E (St s h tk) := by
  refine lawMk (P := fun b sc => wpAny (model prog w) A (execs (b.drop 7) (envOfC "law" sc L fa cd)) Q E (St s h tk)) rfl ?_
  have sl : sizeLine = 16777216 := rfl
  refine wpAny_execs_cons (wpAny_Assign_Name (wpAny_BinOp (wpAny_BinOp (Subscript_ (wpAny_BinOp (nmL F.ns hsc (dList (wpAny_items_cons (cInt fun t₁ _ => wpAny_items_nil ⟨small, _, _, rfl, fun a₁ h₁ E₁ hl₁ => ?_⟩)))))))))
  refine addLI (hns.ext E₁) ⟨_, hl₁, .cons 996 t₁ .nil⟩ (fun a₂ h₂ E₂ hl₂ => ?_) (by simp only [List.length_cons, List.length_nil]; omega)
  obtain ⟨n0, hn0⟩ : ∃ n0, (ns ++ [996])[0]? = some n0 := ⟨(ns ++ [996])[0]'(by simp), List.getElem?_eq_getElem _⟩
  refine cInt fun _ _ => tempTail (itemLI (n := n0) hl₂ (by decide) (by decide) hn0 fun _ => ?_)
  refine wpAny_BinOp (cInt fun _ _ => cInt fun _ _ => pow_int_small (by decide) (by decide) (by decide) ?_)
  refine oMod (by decide) fun _ _ => cInt fun _ _ => oAdd fun tb _ => ?_
  have E12 := Ext.trans' E₁ E₂
  refine wpAny_storeName_cell (s := St s h₂ _) rfl rfl rfl (cell_ext hc2 E12) (fun h₃ hc₃ S₃ => ?_)
  have hb := Int.emod_nonneg n0 (by decide : ((10 : Int) ^ Int.toNat 6) ≠ 0)
  have hb2 := Int.emod_lt_of_pos n0 (by decide : 0 < ((10 : Int) ^ Int.toNat 6))
  have hp : ((10 : Int) ^ Int.toNat 6) = 1000000 := by decide
  have hcg : g.objs.size ≤ L + 2 := Nat.le_trans F.above (Nat.le_add_right _ _)
  have x2 := cell_ext hc2 E12
  have hne : L + 1 ≠ L + 2 := Nat.ne_of_lt (Nat.lt_succ_self _)
  have hc1' : h₃.IsCell (L + 1) (some (.ref za)) := let ⟨o, q, r⟩ := cell_ext hc1 E12; ⟨o, S₃.extBut _ _ hne q, r⟩
  exact law8 G c (fr_cell (frx F E12) x2 hcg (Nat.ne_of_lt (Nat.lt_succ_of_lt (Nat.lt_succ_self _))) S₃) ((T.ext E12).cell x2 S₃) hm ((hs.ext E12).cell x2 S₃) hc1' ((hz.ext E12).cell x2 S₃) hc₃ hn hl h0 hlen (by omega) (by omega) hQ
end
end Mine

end TxtL27

section TxtL28
open PySem PySem.W PyProof.Rows PySem.Calls
open PyProof.Rows.TI (gone gone_get gone_none gone_some)
namespace Mine

section
variable {prog : Program} {w : World} {A : Around} {s : Shared} {hp : Heap} {tk : Nat} {env : Env}
/-- a for loop, by what holds between its turns -/
theorem forGo {target : Expr} {body : List Stmt} {I : Addr} {n : Nat} {R : Result → Shared → Prop} (J : Nat → Heap → Prop) (N : Nat → Heap → Value → Heap → Prop) (Dn : Heap → Heap → Prop) (hJ : J 0 hp)
    (next : ∀ i h tk (Q' : Option Value → Shared → Prop) (E' : Value → Shared → Prop), i < n → J i h → (∀ v h' tk', N i h v h' → Q' (some v) (St s h' tk')) → wpAny (model prog w) A (pyNext (.ref I)) Q' E' (St s h tk))
    (last : ∀ h tk (Q' : Option Value → Shared → Prop) (E' : Value → Shared → Prop), J n h → (∀ h' tk', Dn h h' → Q' none (St s h' tk')) → wpAny (model prog w) A (pyNext (.ref I)) Q' E' (St s h tk))
    (turn : ∀ i v h₁ h₂ tk₂ E', i < n → J i h₁ → N i h₁ v h₂ →
      wpAny (model prog w) A (letOwnedTupleGo target (.ref I) v) (fun _ s' => wpAny (model prog w) A (assign target env v) (fun _ s₂ =>
        wpAny (model prog w) A (execs body env) (fun f s₃ => f = .next ∧ ∃ h' tk', s₃ = St s h' tk' ∧ J (i + 1) h') E' s₂) E' s') E' (St s h₂ tk₂))
    (done : ∀ h₁ h₂ tk₂, J n h₁ → Dn h₁ h₂ → R (.ok .next) (St s h₂ tk₂)) :
    codeAny (model prog w) A (.forLoop target (.ref I) body [] env) R (St s hp tk) := by
  refine codeAny_forLoop_any (fun k s' => ∃ i h' tk', s' = St s h' tk' ∧ i ≤ n ∧ k = n + 1 - i ∧ J i h') ?_ (n + 1) ⟨0, hp, tk, rfl, Nat.zero_le _, rfl, hJ⟩
  rintro k _ ⟨i, h', tk', rfl, hi, rfl, hJ'⟩
  by_cases hlt : i < n
  · refine next i _ _ _ _ hlt hJ' (fun v h₂ tk₂ hN => ?_)
    refine wpAny_mono (turn i v h' h₂ tk₂ _ hlt hJ' hN) (fun _ s' h1 => wpAny_mono h1 (fun _ s₂ h2 => wpAny_mono h2 (fun f s₃ h3 => ?_) fun _ _ x => x) fun _ _ x => x) fun _ _ x => x
    obtain ⟨rfl, h₄, tk₄, rfl, e1⟩ := h3
    exact ⟨n + 1 - (i + 1), by omega, i + 1, h₄, tk₄, rfl, hlt, rfl, e1⟩
  · have hin : i = n := by omega
    subst hin
    exact last _ _ _ _ hJ' (fun h₂ tk₂ hN => wpAny_execs_nil (done h' h₂ tk₂ hJ' hN))
end

theorem Tab.ne {h : Heap} {a : Addr} {xs : Array Value} (T : Tab h) (l : h.IsList a xs) : a ≠ 29 := by
  rintro rfl
  obtain ⟨ps, e, _⟩ := T
  obtain ⟨o, e', c, _⟩ := l
  rw [e] at e'; cases e'
  cases c

theorem Tab.but {h h' : Heap} {S : List Addr} (T : Tab h) (k : ∀ q o, q ∉ S → h.get? q = some o → h'.get? q = some o) (hS : ∀ q ∈ S, ∀ o, h.get? q = some o → ∀ vs s t, o.data = .fields vs → vs[1]? ≠ some (.str s t)) (h29 : 29 ∉ S) : Tab h' := by
  obtain ⟨ps, e, a, b⟩ := T
  refine ⟨ps, k _ _ h29 e, a, b.imp id fun ⟨c', e1, e2⟩ => ⟨c', e1, ?_⟩⟩
  obtain ⟨cc, oo, vs, t, r1, r2, r3, r4⟩ := e2
  exact ⟨cc, oo, vs, t, r1, k _ _ (fun hm => hS _ hm _ r2 vs _ _ r3 r4) r2, r3, r4⟩

/-- what the law holds while it goes on -/
structure LCx (g : Heap) (L : Addr) (sc sa za : Addr) (ns st sz : List Int) (x : Str) (h : Heap) (m : Str → Option Value) : Prop where
  F : Fr g L h m
  T : Tab h
  msc : m "script" = some (.ref sc)
  hsc : LI h sc ns
  mst : m "starts" = some (.ref sa)
  hst : LI h sa st
  tx : ∃ t, m "text" = some (.str x t)
  c1 : h.IsCell (L + 1) (some (.ref za))
  hz : LI h za sz
  c2 : h.IsCell (L + 2) none
  n1 : sc ≠ 29
  n2 : sa ≠ 29
  n3 : za ≠ 29
  n4 : 29 < L
  n5 : g.get? 29 = none

section
variable {g h h' : Heap} {L sc sa za : Addr} {ns st sz : List Int} {x : Str} {m : Str → Option Value}
theorem LCx.ext (X : LCx g L sc sa za ns st sz x h m) (k : Ext h h') : LCx g L sc sa za ns st sz x h' m :=
  ⟨frx X.F k, X.T.ext k, X.msc, X.hsc.ext k, X.mst, X.hst.ext k, X.tx, cell_ext X.c1 k, X.hz.ext k, cell_ext X.c2 k, X.n1, X.n2, X.n3, X.n4, X.n5⟩
theorem LCx.store (X : LCx g L sc sa za ns st sz x h m) {y : Str} {v : Value} (F : Fr g L h' (upd m y v)) (S : Heap.SameBut L h h') (a : ("script" : Str) ≠ y) (b : ("starts" : Str) ≠ y) (c : ("text" : Str) ≠ y) : LCx g L sc sa za ns st sz x h' (upd m y v) :=
  ⟨F, X.T.set X.F.ns S, upd_ne X.msc a, X.hsc.set X.F.ns S, upd_ne X.mst b, X.hst.set X.F.ns S, (let ⟨t, e⟩ := X.tx; ⟨t, upd_ne e c⟩), cell_set X.c1 X.F.ns S, X.hz.set X.F.ns S, cell_set X.c2 X.F.ns S, X.n1, X.n2, X.n3, X.n4, X.n5⟩
theorem LCx.but29 (X : LCx g L sc sa za ns st sz x h m) (k : ∀ b o, b ≠ 29 → h.get? b = some o → h'.get? b = some o) (T : Tab h') : LCx g L sc sa za ns st sz x h' m := by
  have lc : ∀ {a ns}, LI h a ns → a ≠ 29 → LI h' a ns := fun ⟨vs, ⟨o, e, r⟩, i⟩ hn => ⟨vs, ⟨o, k _ _ hn e, r⟩, i⟩
  have cc : ∀ {c v}, h.IsCell c v → c ≠ 29 → h'.IsCell c v := fun ⟨o, e, r⟩ hn => ⟨o, k _ _ hn e, r⟩
  have hL : L ≠ 29 := Nat.ne_of_gt X.n4
  refine ⟨⟨let ⟨o, es, ep, e, r⟩ := X.F.ns; ⟨o, es, ep, k _ _ hL e, r⟩, fun b o e => k b o (by rintro rfl; rw [X.n5] at e; cases e) (X.F.keep b o e), X.F.above⟩, T, X.msc, lc X.hsc X.n1, X.mst, lc X.hst X.n2, X.tx, cc X.c1 (Nat.ne_of_gt (Nat.lt_succ_of_lt X.n4)), lc X.hz X.n3, cc X.c2 (Nat.ne_of_gt (Nat.lt_succ_of_lt (Nat.lt_succ_of_lt X.n4))), X.n1, X.n2, X.n3, X.n4, X.n5⟩
end

theorem LCx.iter {g h h' : Heap} {L sc sa za I l : Addr} {ns st sz : List Int} {x : Str} {m : Str → Option Value} {i : Nat} (X : LCx g L sc sa za ns st sz x h m) (hI : h.IsListIter I l i) (k : ∀ q o, q ∉ [I] → h.get? q = some o → h'.get? q = some o) (hg : g.get? I = none) : LCx g L sc sa za ns st sz x h' m := by
  obtain ⟨oi, ei, ci, di⟩ := hI
  have k' : ∀ {q : Addr} {o : Obj}, h.get? q = some o → o.data ≠ oi.data → h'.get? q = some o := fun {q o} e hd => k q o (by
    intro hm
    have : q = I := by simpa using hm
    subst this
    rw [ei] at e; cases e
    exact hd rfl) e
  have lc : ∀ {a ns}, LI h a ns → LI h' a ns := fun ⟨vs, ⟨o, e, c, n, d⟩, i⟩ => ⟨vs, ⟨o, k' e (by rw [d, di]; intro q; cases q), c, n, d⟩, i⟩
  have cc : ∀ {c v}, h.IsCell c v → h'.IsCell c v := fun ⟨o, e, d⟩ => ⟨o, k' e (by rw [d, di]; intro q; cases q), d⟩
  have kg : ∀ q o, g.get? q = some o → h'.get? q = some o := by
    intro q o e
    refine k q o (fun hm => ?_) (X.F.keep q o e)
    have : q = I := by simpa using hm
    subst this
    rw [hg] at e; cases e
  refine ⟨⟨let ⟨o, es, ep, e, d, r⟩ := X.F.ns; ⟨o, es, ep, k' e (by rw [d, di]; intro q; cases q), d, r⟩, kg, X.F.above⟩, X.T.but k ?_ ?_, X.msc, lc X.hsc, X.mst, lc X.hst, X.tx, cc X.c1, lc X.hz, cc X.c2, X.n1, X.n2, X.n3, X.n4, X.n5⟩
  · intro q hq o ho vs s t hd hv
    have : q = I := by simpa using hq
    subst this
    rw [ei] at ho; cases ho; rw [di] at hd; cases hd; cases hv
  · intro hm
    have : 29 = I := by simpa using hm
    subst this
    obtain ⟨ps, e, _⟩ := X.T
    rw [ei] at e; cases e
    cases ci
theorem ErrAt.ext {h h' : Heap} {e : Addr} {msg : Str} (x : ErrAt h e msg) (k : Ext h h') : ErrAt h' e msg := let ⟨t, tk, a, b⟩ := x; ⟨t, tk, k _ _ a, k _ _ b⟩
theorem ErrAt.set {h h' : Heap} {e L : Addr} {m : Str → Option Value} {msg : Str} (x : ErrAt h e msg) (hn : h.Ns L m) (hs : Heap.SameBut L h h') : ErrAt h' e msg :=
  let ⟨t, tk, a, b⟩ := x; ⟨t, tk, keep_set a (fun _ _ q => by cases q) hn hs, keep_set b (fun _ _ q => by cases q) hn hs⟩

/-- all but the law's names and the table of codes is kept -/
abbrev KeptBut (L : Addr) (h h' : Heap) : Prop := ∀ b o, b ≠ L → b ≠ 29 → h.get? b = some o → h'.get? b = some o

/-- what is asked of the text and of the lines' beginnings -/
structure Agree (x : Str) (st : List Int) : Prop where
  len : x.length ≤ 90000
  zero : st[0]? = some 0
  bound : ∀ a ∈ st, a.natAbs ≤ 90000
  stl : st.length ≤ 1000
  told : ∀ (p : Nat) r r', Coord x p r → Told st x.length p r' → r = r'

section
variable {prog : Program} {w : World} {A : Around} {E : Value → Shared → Prop} {s : Shared} {g h : Heap} {tk : Nat} {L fa : Addr} {cd : Value} {mg mb m : Str → Option Value} {Q : Flow → Shared → Prop}
variable {sc sa za : Addr} {ns st sz : List Int} {x : Str}

theorem filter_ne {st : List Int} {p : Int} (h0 : st[0]? = some 0) (hp : 0 ≤ p) : (st.filter (fun x => decide (x ≤ p))).length ≠ 0 := by
  cases st with
  | nil => simp at h0
  | cons a st =>
    simp at h0
    subst h0
    simp [hp]

set_option maxHeartbeats 8000000 in
theorem law6 (G : Gr w mg mb g) (c : Calm 5 A) (X : LCx g L sc sa za ns st sz x h m) (hx : Agree x st) (hnl : ns.length ≤ 1000) (hn : st.Nodup) (hl : st.length = sz.length) (h0 : 0 < st.length) (hlen : st.length ≤ 100)
    (hst0 : ∀ a ∈ st, 0 ≤ a) (hsz0 : ∀ a ∈ sz, 0 ≤ a ∧ a ≤ 1000)
    (hQ : ∀ h' tk', Ext g h' → Tab h' → Q (.ret (.bool true)) (St s h' tk')) :
    wpAny (model prog w) A (execs ((lawBody w).drop 6) (envOfC "law" (lawScope w) L fa cd)) Q E (St s h tk) := by
  refine lawMk (P := fun b sc => wpAny (model prog w) A (execs (b.drop 6) (envOfC "law" sc L fa cd)) Q E (St s h tk)) rfl ?_
  have sl : sizeLine = 16777216 := rfl
  have hxl := hx.len
  have G₁ := G.keeps X.F.keep
  obtain ⟨tx, htx⟩ := X.tx
  refine wpAny_execs_cons (wpAny_For (wpAny_Call_NameR (nmB G₁ rfl boot_zip (by decide) (PyProof.Rows.callWith_type1 (args_cons (wpAny_BinOp (nmL X.F.ns X.mst (dList (wpAny_items_cons (wpAny_Call_NameR (nmB G₁ rfl boot_len (by decide) (callWith_builtin1 (args_cons (nmL X.F.ns htx (args_nil ?_)))))))))))))))
  refine oLenStr (by omega) fun t₁ _ => wpAny_items_nil ⟨small, _, _, rfl, fun a₁ h₁ E₁ hl₁ => ?_⟩
  refine addLI (X.hst.ext E₁) ⟨_, hl₁, .cons _ t₁ .nil⟩ (fun a₂ h₂ E₂ hl₂ => ?_) (by simp only [List.length_cons, List.length_nil]; omega)
  have X₂ := X.ext (Ext.trans' E₁ E₂)
  refine args_cons (wpAny_BinOp (nmC rfl X₂.c1 (dList (wpAny_items_cons (cInt fun t₃ _ => wpAny_items_nil ⟨small, _, _, rfl, fun a₃ h₃ E₃ hl₃ => ?_⟩)))))
  refine addLI (X₂.hz.ext E₃) ⟨_, hl₃, .cons 8 t₃ .nil⟩ (fun a₄ h₄ E₄ hl₄ => args_nil ?_) (by simp only [List.length_cons, List.length_nil]; omega)
  have X₄ := X₂.ext (Ext.trans' E₃ E₄)
  obtain ⟨xs, hxs, ix⟩ := hl₂.ext (Ext.trans' E₃ E₄)
  obtain ⟨ys, hys, iy⟩ := hl₄
  have hxl2 := ix.length
  have hyl2 := iy.length
  refine call_zip_2 (s := St s h₄ _) hxs hys (fun h₅ z1 z2 z3 z4 z5 z6 E₅ => ?_)
  obtain ⟨N, hN⟩ : ∃ N, h₄.objs.size = N := ⟨_, rfl⟩
  have hLN : L < N := by obtain ⟨o, es, ep, q, _⟩ := X₄.F.ns; rw [← hN]; exact Heap.lt_size q
  have z1 : IsZip h₅ (N + 4) (N + 2) (N + 3) .none := hN ▸ z1
  have z2 : IsPair h₅ (N + 2) (.ref N) (.ref (N + 1)) := hN ▸ z2
  have z3 : IsPair h₅ (N + 3) .none .none := hN ▸ z3
  have z4 : h₅.IsListIter N a₂ 0 := hN ▸ z4
  have z5 : h₅.IsListIter (N + 1) a₄ 0 := hN ▸ z5
  show wpAny _ _ (pyIter (.ref (h₄.objs.size + 4))) _ _ _
  rw [hN]
  refine wpAny_pyIter_zip (s := St s h₅ _) z1 ?_
  have hN1 : ∀ {q : Addr}, N ≤ q → q ≠ L ∧ q ≠ 29 := fun hq => ⟨Nat.ne_of_gt (Nat.lt_of_lt_of_le hLN hq), Nat.ne_of_gt (Nat.lt_of_lt_of_le (Nat.lt_trans X.n4 hLN) hq)⟩
  have hlt2 : a₂ < N := by obtain ⟨o, q, _⟩ := hxs; rw [← hN]; exact Heap.lt_size q
  have hlt4 : a₄ < N := by obtain ⟨o, q, _⟩ := hys; rw [← hN]; exact Heap.lt_size q
  have hDz := (ezApart N a₂ a₄ hlt2 hlt4).D
  have W := WalksT.zip2 (prog := prog) (w := w) (A := A) c.hh (N + 4) (N + 2) (N + 3) N (N + 1) a₂ a₄ hDz xs.toArray ys.toArray
  have hmin : min xs.toArray.size ys.toArray.size = xs.length := by simp; simp at hxl2 hyl2; omega
  rw [hmin] at W
  have keepZ : ∀ {h' h'' : Heap} (i : Nat), a₂ ≠ 29 → a₄ ≠ 29 → KeptBut L h' h'' → (∀ q, h'.IsList q xs.toArray → q ≠ L) → (∀ q, h'.IsList q ys.toArray → q ≠ L) →
      (IsZip h' (N + 4) (N + 2) (N + 3) .none ∧ IsPair h' (N + 2) (.ref N) (.ref (N + 1)) ∧ (∃ a b, IsPair h' (N + 3) a b) ∧ h'.IsListIter N a₂ i ∧ h'.IsListIter (N + 1) a₄ i ∧ h'.IsList a₂ xs.toArray ∧ h'.IsList a₄ ys.toArray) →
      (IsZip h'' (N + 4) (N + 2) (N + 3) .none ∧ IsPair h'' (N + 2) (.ref N) (.ref (N + 1)) ∧ (∃ a b, IsPair h'' (N + 3) a b) ∧ h''.IsListIter N a₂ i ∧ h''.IsListIter (N + 1) a₄ i ∧ h''.IsList a₂ xs.toArray ∧ h''.IsList a₄ ys.toArray) := by
    intro h' h'' i n2 n4 k l2 l4 ⟨e1, e2, ⟨a, b, e3⟩, e4, e5, e6, e7⟩
    have kk : ∀ {q : Addr} {o : Obj}, N ≤ q → h'.get? q = some o → h''.get? q = some o := fun hq e => k _ _ (hN1 hq).1 (hN1 hq).2 e
    exact ⟨kk (Nat.le_add_right _ _) e1, kk (Nat.le_add_right _ _) e2, ⟨a, b, kk (Nat.le_add_right _ _) e3⟩, e4.at fun o q => kk (Nat.le_refl _) q, e5.at fun o q => kk (Nat.le_add_right _ _) q, e6.at fun o q => k _ _ (l2 _ e6) n2 q, e7.at fun o q => k _ _ (l4 _ e7) n4 q⟩
  have hb29 : ∀ {q : Addr}, q < N → q ∉ [N + 4, N + 3, N, N + 1] := fun {q} hq hm => by
    simp only [List.mem_cons, List.not_mem_nil, or_false] at hm
    have := apart5 N q (.inr hq)
    rcases hm with e | e | e | e
    · exact this.2.1 e
    · exact this.2.2.1 e
    · exact this.2.2.2.1 e
    · exact this.2.2.2.2 e
  -- the law's things lie below N
  have low : ∀ {h' h'' : Heap} {m' : Str → Option Value} {i : Nat}, LCx g L sc sa za ns st sz x h' m' → (IsZip h' (N + 4) (N + 2) (N + 3) .none ∧ IsPair h' (N + 2) (.ref N) (.ref (N + 1)) ∧ (∃ a b, IsPair h' (N + 3) a b) ∧ h'.IsListIter N a₂ i ∧ h'.IsListIter (N + 1) a₄ i ∧ h'.IsList a₂ xs.toArray ∧ h'.IsList a₄ ys.toArray) → (∀ q o, q ∉ [N + 4, N + 3, N, N + 1] → h'.get? q = some o → h''.get? q = some o) → LCx g L sc sa za ns st sz x h'' m' := fun {h' h'' m' i} X' hst' k => by
    have lc : ∀ {a ns}, LI h₄ a ns → LI h' a ns → LI h'' a ns := fun ⟨_, ⟨_, e₀, _⟩, _⟩ ⟨vs, ⟨o, e, r⟩, i⟩ => ⟨vs, ⟨o, k _ _ (hb29 (hN ▸ Heap.lt_size e₀)) e, r⟩, i⟩
    have cc : ∀ {c v v'}, h₄.IsCell c v' → h'.IsCell c v → h''.IsCell c v := fun ⟨_, e₀, _⟩ ⟨o, e, r⟩ => ⟨o, k _ _ (hb29 (hN ▸ Heap.lt_size e₀)) e, r⟩
    refine ⟨⟨let ⟨o, es, ep, q, r⟩ := X'.F.ns; ⟨o, es, ep, k _ _ (hb29 hLN) q, r⟩, fun q o e => k _ _ (hb29 (hN ▸ Heap.lt_size (X₄.F.keep q o e))) (X'.F.keep q o e), X'.F.above⟩, X'.T.but k ?_ (hb29 (Nat.lt_trans X.n4 hLN)), X'.msc, lc X₄.hsc X'.hsc, X'.mst, lc X₄.hst X'.hst, X'.tx, cc X₄.c1 X'.c1, lc X₄.hz X'.hz, cc X₄.c2 X'.c2, X'.n1, X'.n2, X'.n3, X'.n4, X'.n5⟩
    obtain ⟨e1, e2, ⟨ea, eb, e3⟩, ⟨o4, e4, _, d4⟩, ⟨o5, e5, _, d5⟩, _⟩ := hst'
    intro q hq o ho vs s t hd hv
    simp only [List.mem_cons, List.not_mem_nil, or_false] at hq
    rcases hq with rfl | rfl | rfl | rfl
    · rw [e1] at ho; cases ho; cases hd; cases hv
    · rw [e3] at ho; cases ho; cases hd
    · rw [e4] at ho; cases ho; rw [d4] at hd; cases hd; cases hv
    · rw [e5] at ho; cases ho; rw [d5] at hd; cases hd; cases hv
  refine forGo (n := xs.length) (fun i h' => (∃ m', LCx g L sc sa za ns st sz x h' m') ∧ (IsZip h' (N + 4) (N + 2) (N + 3) .none ∧ IsPair h' (N + 2) (.ref N) (.ref (N + 1)) ∧ (∃ a b, IsPair h' (N + 3) a b) ∧ h'.IsListIter N a₂ i ∧ h'.IsListIter (N + 1) a₄ i ∧ h'.IsList a₂ xs.toArray ∧ h'.IsList a₄ ys.toArray))
    (fun i h' v h'' => ∃ T a b ta tb, v = .ref T ∧ (st ++ [(x.length : Int)])[i]? = some a ∧ (sz ++ [8])[i]? = some b ∧ h'.objs.size ≤ T ∧ h''.IsTuple T #[.int a ta, .int b tb] ∧
      (IsZip h'' (N + 4) (N + 2) (N + 3) (rawInt T) ∧ IsPair h'' (N + 2) (.ref N) (.ref (N + 1)) ∧ (∃ a b, IsPair h'' (N + 3) a b) ∧ h''.IsListIter N a₂ (i + 1) ∧ h''.IsListIter (N + 1) a₄ (i + 1) ∧ h''.IsList a₂ xs.toArray ∧ h''.IsList a₄ ys.toArray ∧
        T ≠ N + 4 ∧ T ≠ N + 3 ∧ T ≠ N ∧ T ≠ N + 1) ∧ (∀ b o, b ∉ [N + 4, N + 3, N, N + 1] → h'.get? b = some o → h''.get? b = some o))
    (fun h' h'' => ∀ b o, b ∉ [N + 4, N + 3, N, N + 1] → h'.get? b = some o → h''.get? b = some o) ?_ ?_ ?_ ?_ ?_
  · exact ⟨⟨_, X₄.ext E₅⟩, z1, z2, ⟨_, _, z3⟩, z4, z5, list_ext hxs E₅, list_ext hys E₅⟩
  · intro i h' tk' Q' E' hi hJ k
    refine W.item i (St s h' tk') Q' E' hi hJ.2 (fun T vals h'' tk'' ⟨vx, vy, e1, e2, e3⟩ hT htup mid kp => ?_)
    subst e3
    obtain ⟨a, ta, f1, rfl⟩ := ints_at ix (by simpa using e1)
    obtain ⟨b, tb, f2, rfl⟩ := ints_at iy (by simpa using e2)
    exact k _ h'' tk'' ⟨T, a, b, ta, tb, rfl, f1, f2, hT, htup, mid, kp⟩
  · intro h' tk' Q' E' hJ k
    exact W.done (St s h' tk') Q' E' hJ.2 (fun h'' tk'' kp => k h'' tk'' kp)
  · rintro i v h' h₆ tk₆ E' hi ⟨⟨m', X'⟩, hst'⟩ ⟨T, a, b, ta, tb, rfl, ea, eb, hTs, hT, mid, kp⟩
    have ha0 : 0 ≤ a ∧ a ≤ 90000 := by
      rcases List.mem_append.mp (List.mem_of_getElem? ea) with hm | hm
      · have h1 := hst0 a hm; have h2 := hx.bound a hm; omega
      · have : a = (x.length : Int) := by simpa using hm
        omega
    have hb0 : 0 ≤ b ∧ b ≤ 1000 := by
      rcases List.mem_append.mp (List.mem_of_getElem? eb) with hm | hm
      · exact hsz0 b hm
      · have : b = 8 := by simpa using hm
        omega
    refine W.go _ _ _ i T (St s h₆ tk₆) _ E' mid (fun h₇ st₇ k₇ => ?_)
    have X₇ := low X' hst' (fun q o hq e => k₇ q o hq (kp q o hq e))
    have hTw : T ∉ [N + 4, N + 3, N, N + 1] := W.apart i T h₆ mid
    have hT₇ : h₇.IsTuple T #[.int a ta, .int b tb] := let ⟨o, e, r⟩ := hT; ⟨o, k₇ _ _ hTw e, r⟩
    refine wpAny_assign_Tuple c.hh (s := St s h₇ tk₆) hT₇ rfl rfl (fun h₈ x₈ => ?_)
    have E₈ : Ext h₇ h₈ := fun b o q => x₈ b o (Nat.ne_of_lt (Heap.lt_size q)) q
    have X₈ := X₇.ext E₈
    refine wpAny_assignInOrder_more (wpAny_assign_Name (stL X₈.F (fun h₉ tk₉ F₉ S₉ => ?_)))
    have X₉ := X₈.store F₉ S₉ (by decide) (by decide) (by decide)
    refine wpAny_assignInOrder_more (wpAny_assign_Name (stL X₉.F (fun hA tkA FA SA => wpAny_assignInOrder_none ?_)))
    have XA := X₉.store FA SA (by decide) (by decide) (by decide)
    have kA : KeptBut L h₇ hA := fun q o n1 n2 e => SA.extBut _ _ n1 (S₉.extBut _ _ n1 (E₈ _ _ e))
    have ms : upd (upd m' "start" (.int a ta)) "size" (.int b tb) "start" = some (.int a ta) := rfl
    refine wpAny_execs_cons (wpAny_For (dListP (wpAny_items_cons (nmL XA.F.ns ms (wpAny_items_cons (wpAny_BinOp (nmL XA.F.ns ms (wpAny_BinOp (nmL XA.F.ns upd_self (cInt fun _ _ => ?_))))))))))
    refine oDiv (by decide) (by decide) hb0.1 (by omega) fun _ _ => oAdd fun t₁ _ => wpAny_items_cons (wpAny_BinOp (nmL XA.F.ns ms (nmL XA.F.ns upd_self (oAdd fun t₂ _ => wpAny_items_nil ⟨small, _, _, rfl, fun al hB EB hal _ => ?_⟩))))
    refine iterList c.hh hal.isList (fun I hC EC hI hI2 hszC W₂ hit hlC => ?_)
    have XC := XA.ext (Ext.trans' EB EC)
    have hgI : g.get? I = none := by
      cases hq : g.get? I with
      | none => rfl
      | some o => rw [XA.ext EB |>.F.keep _ _ hq] at hI; cases hI
    refine forGo (n := 3) (fun j h' => (∃ m', LCx g L sc sa za ns st sz x h' m') ∧ (h'.IsListIter I al j ∧ h'.IsList al [Value.int a ta, .int (a + b / 2) t₁, .int (a + b) t₂].toArray) ∧ (∀ q o, q ≠ L → q ≠ 29 → q ≠ I → hC.get? q = some o → h'.get? q = some o))
      (fun j h' v h'' => [Value.int a ta, .int (a + b / 2) t₁, .int (a + b) t₂][j]? = some v ∧ (h''.IsListIter I al (j + 1) ∧ h''.IsList al [Value.int a ta, .int (a + b / 2) t₁, .int (a + b) t₂].toArray) ∧ (∀ q o, q ∉ [I] → h'.get? q = some o → h''.get? q = some o))
      (fun h' h'' => ∀ q o, q ∉ [I] → h'.get? q = some o → h''.get? q = some o) ?_ ?_ ?_ ?_ ?_
    · exact ⟨⟨_, XC⟩, ⟨hit, hlC⟩, fun q o _ _ _ e => e⟩
    · intro j h' tk' Q' E' hj hJ k
      exact W₂.item j (St s h' tk') Q' E' hj hJ.2.1 (fun v h'' tk'' hv hst'' kp => k v h'' tk'' ⟨hv, hst'', kp⟩)
    · intro h' tk' Q' E' hJ k
      exact W₂.done (St s h' tk') Q' E' hJ.2.1 (fun h'' tk'' kp => k h'' tk'' kp)
    · rintro j v hD hE tkE E'' hj ⟨⟨mD, XD⟩, hitD, kD⟩ ⟨hv, hitE, kE⟩
      obtain ⟨pn, pt, rfl, hpn⟩ : ∃ (pn : Nat) (pt : Tok), v = .int (pn : Int) pt ∧ pn ≤ 91000 := by
        have hj' : j = 0 ∨ j = 1 ∨ j = 2 := by omega
        have h2 : 0 ≤ b / 2 ∧ b / 2 ≤ b := by omega
        rcases hj' with rfl | rfl | rfl
        · cases hv; exact ⟨a.toNat, ta, by rw [Int.toNat_of_nonneg ha0.1], by omega⟩
        · cases hv; exact ⟨(a + b / 2).toNat, t₁, by rw [Int.toNat_of_nonneg (by omega)], by omega⟩
        · cases hv; exact ⟨(a + b).toNat, t₂, by rw [Int.toNat_of_nonneg (by omega)], by omega⟩
      have XE := XD.iter hitD.1 kE hgI
      refine wpAny_pure (wpAny_assign_Name (stL XE.F (fun hF tkF FF SF => ?_)))
      have XF := XE.store FF SF (by decide) (by decide) (by decide)
      have GF := G.keeps XF.F.keep
      obtain ⟨tt, htt⟩ := XF.tx
      refine wpAny_execs_cons (wpAny_Assign_Name (wpAny_Call_NameR (nmG GF rfl (callWith_K GF.X rfl (args_cons (nmL XF.F.ns htt (args_cons (nmL XF.F.ns upd_self (args_cons (cStr fun _ _ => args_nil ⟨GF.X, ?_⟩))))))))))
      have l8 : (Str.ofString "so it is").length = 8 := by decide +kernel
      refine suff_call G XF.F.keep XF.n5 XF.T c (by decide) (by omega) (by omega) (by omega) (fun e r hG tkG kG TG hco herr => ?_)
      have XG := XF.but29 kG TG
      refine stL XG.F (fun hH tkH FH SH => ?_)
      have XH := XG.store FH SH (by decide) (by decide) (by decide)
      have GH := G.keeps XH.F.keep
      have herrH := herr.set XG.F.ns SH
      refine wpAny_execs_cons (wpAny_If (wpAny_isTrue_Compare1 (dList (wpAny_items_cons (wpAny_Call_NameR (nmB GH rfl boot_type (by decide) (PyProof.Rows.callWith_type1 (args_cons (nmL XH.F.ns upd_self (args_nil (type_err herrH ?_)))))))))))
      refine wpAny_items_cons (wpAny_Call_NameR (nmB GH rfl PyProof.Rows.boot_str (by decide) (PyProof.Rows.callWith_type1 (args_cons (nmL XH.F.ns upd_self (args_nil (str_err GH c (by decide) herrH fun ts => wpAny_items_nil ⟨small, _, _, rfl, fun l₁ hK EK hl₁ => ?_⟩)))))))
      have XK := XH.ext EK
      have GK := G.keeps XK.F.keep
      obtain ⟨tt2, htt2⟩ := XK.tx
      refine dList (wpAny_items_cons (nmG GK rfl (wpAny_items_cons (wpAny_BinOp (wpAny_BinOp (cStr fun _ _ => wpAny_Call_NameR (nmG GK rfl (callWith_K GK.X rfl (args_cons (nmL XK.F.ns XK.mst (args_cons ?_)))))))))))
      refine wpAny_Call_NameR (nmB GK rfl boot_len (by decide) (callWith_builtin1 (args_cons (nmL XK.F.ns htt2 (args_nil (oLenStr (by omega) fun _ _ => args_cons (nmL XK.F.ns rfl (args_nil ⟨GK.X, ?_⟩))))))))
      refine place_call GK c (by decide) XK.hst hx.stl (fun _ => filter_ne hx.zero (by omega)) (fun q hq => Nat.le_trans (hx.bound q hq) (by decide)) (by omega) (fun r' t' hM tkM EM htold hr' => ?_)
      have l13 : (Str.ofString "so it is (at ").length = 13 := by decide +kernel
      have l1 : (Str.ofString ")").length = 1 := by decide +kernel
      refine oAddStr (by omega) fun _ _ => cStr fun _ _ => oAddStr (by rw [PySem.Str.length_append]; omega) fun _ _ => wpAny_items_nil ⟨small, _, _, rfl, fun l₂ hO EO hl₂ => ?_⟩
      have e3 := hx.told pn r r' hco htold
      have hxy : (Str.ofString "so it is" ++ (" (at " : Str) ++ r ++ (")" : Str)) = (Str.ofString "so it is (at " ++ r' ++ Str.ofString ")") := by
        rw [e3]
        have : Str.ofString "so it is" ++ (" (at " : Str) = Str.ofString "so it is (at " := by decide +kernel
        rw [this]
      refine ne_pair (list_ext hl₁ (Ext.trans' EM EO)) hl₂ c (by decide) hxy (wpAny_truthy_bool ?_)
      rw [if_neg (by simp)]
      have EHO : Ext hH hO := Ext.trans' EK (Ext.trans' EM EO)
      obtain ⟨oi, ei, ci, di⟩ := id hitE.1
      have hIL : I ≠ L := by
        rintro rfl
        obtain ⟨o, es, ep, q, d, _⟩ := XE.F.ns
        rw [ei] at q; cases q
        rw [di] at d; cases d
      have hI29 : I ≠ 29 := by
        rintro rfl
        obtain ⟨ps, q, _⟩ := XE.T
        rw [ei] at q; cases q
        cases ci
      have kEO : ∀ {q : Addr} {o : Obj}, q ≠ L → q ≠ 29 → hE.get? q = some o → hO.get? q = some o := fun n1 n2 q => EHO _ _ (SH.extBut _ _ n1 (kG _ _ n2 (SF.extBut _ _ n1 q)))
      refine wpAny_execs_nil (wpAny_execs_nil ⟨rfl, hO, _, rfl, ⟨_, XH.ext EHO⟩, ⟨⟨oi, kEO hIL hI29 ei, ci, di⟩, ?_⟩, fun q o n1 n2 n3 e => kEO n1 n2 (kE _ _ (by simpa using n3) (kD _ _ n1 n2 n3 e))⟩)
      have nl := ns_not_list XE.F.ns hitE.2
      have n29 := XE.T.ne hitE.2
      obtain ⟨o, q, r⟩ := hitE.2
      exact ⟨o, kEO nl n29 q, r⟩
    · rintro hD hE tkE ⟨⟨mD, XD⟩, hitD, kD⟩ kE
      have XE := XD.iter hitD.1 kE hgI
      have kOut : KeptBut L h₇ hE := fun q o n1 n2 e => by
        have eB := EB _ _ (kA q o n1 n2 e)
        have hqI : q ≠ I := by rintro rfl; rw [hI] at eB; cases eB
        exact kE _ _ (by simpa using hqI) (kD _ _ n1 n2 hqI (EC _ _ eB))
      refine wpAny_execs_nil ⟨rfl, hE, tkE, rfl, ⟨_, XE⟩, keepZ (i + 1) ?_ ?_ kOut ?_ ?_ st₇⟩
      · exact X₇.T.ne st₇.2.2.2.2.2.1
      · exact X₇.T.ne st₇.2.2.2.2.2.2
      · exact fun q hq => ns_not_list X₇.F.ns hq
      · exact fun q hq => ns_not_list X₇.F.ns hq
  · rintro h' h₆ tk₆ ⟨⟨m', X'⟩, hst'⟩ kp
    have X₆ := low X' hst' kp
    exact law7 G c X₆.F X₆.T X₆.msc X₆.hsc hnl X₆.mst X₆.hst X₆.c1 X₆.hz X₆.c2 hn hl h0 hlen hQ
end
end Mine

end TxtL28

section TxtL29
open PySem PySem.W PyProof.Rows PySem.Calls
open PyProof.Rows.TI (gone gone_get gone_none gone_some)
namespace Mine
section
variable {g h h' : Heap} {L sc sa za : Addr} {ns st sz : List Int} {x : Str} {m : Str → Option Value}
theorem LCx.butL (X : LCx g L sc sa za ns st sz x h m) (k : ∀ q o, q ≠ L → h.get? q = some o → h'.get? q = some o) (hn : h'.Ns L m) : LCx g L sc sa za ns st sz x h' m := by
  have lc : ∀ {a ns}, LI h a ns → LI h' a ns := fun ⟨vs, hl, i⟩ => ⟨vs, let ⟨o, e, r⟩ := id hl; ⟨o, k _ _ (ns_not_list X.F.ns hl) e, r⟩, i⟩
  have cL : ∀ {c : Addr}, L < c → c ≠ L := fun h => Nat.ne_of_gt h
  have cc : ∀ {c v}, c ≠ L → h.IsCell c v → h'.IsCell c v := fun n ⟨o, e, r⟩ => ⟨o, k _ _ n e, r⟩
  refine ⟨⟨hn, fun q o e => k q o (Nat.ne_of_lt (Nat.lt_of_lt_of_le (Heap.lt_size e) X.F.above)) (X.F.keep q o e), X.F.above⟩, X.T.but (S := [L]) (fun q o hq e => k q o (by simpa using hq) e) ?_ ?_, X.msc, lc X.hsc, X.mst, lc X.hst, X.tx, cc (cL (Nat.lt_succ_self _)) X.c1, lc X.hz, cc (cL (Nat.lt_succ_of_lt (Nat.lt_succ_self _))) X.c2, X.n1, X.n2, X.n3, X.n4, X.n5⟩
  · intro q hq o ho vs s t hd hv
    have : q = L := by simpa using hq
    subst this
    obtain ⟨o', es, ep, e, d, _⟩ := X.F.ns
    rw [e] at ho; cases ho; rw [d] at hd; cases hd
  · intro hm
    have : 29 = L := by simpa using hm
    exact absurd X.n4 (by rw [← this]; exact Nat.lt_irrefl _)
end
section
variable {prog : Program} {w : World} {A : Around} {E : Value → Shared → Prop} {s : Shared} {g h : Heap} {tk : Nat} {L fa : Addr} {cd : Value} {mg mb m : Str → Option Value} {Q : Flow → Shared → Prop}
variable {sc sa za : Addr} {ns st sz : List Int} {x : Str}

set_option maxHeartbeats 8000000 in
theorem law5 (G : Gr w mg mb g) (c : Calm 5 A) (hfr : A.frames = some [envOfC "law" (lawScope w) L fa cd]) (X : LCx g L sc sa za ns st sz x h m) (hx : Agree x st) (hnl : ns.length ≤ 1000) (hn : st.Nodup) (hl : st.length = sz.length) (h0 : 0 < st.length) (hlen : st.length ≤ 100)
    (hst0 : ∀ a ∈ st, 0 ≤ a) (hsz0 : ∀ a ∈ sz, 0 ≤ a ∧ a ≤ 1000) {oa la : Addr} {octs ls : List Int} (ho : m "octets" = some (.ref oa)) (hoa : LI h oa octs) (hla : m "lengths" = some (.ref la)) (hll : LI h la ls) (hen : Encs octs ls) (hlsl : ls.length ≤ 1000)
    (hQ : ∀ h' tk', Ext g h' → Tab h' → Q (.ret (.bool true)) (St s h' tk')) :
    wpAny (model prog w) A (execs ((lawBody w).drop 5) (envOfC "law" (lawScope w) L fa cd)) Q E (St s h tk) := by
  have key : ∀ (Q' : Value → Shared → Prop) E', (∀ a h' tk', (∀ q o, q ≠ L → h.get? q = some o → h'.get? q = some o) → h'.Ns L m → LI h' a ls → Q' (.ref a) (St s h' tk')) → wpAny (model prog w) A (call (.ref 62) [.ref oa]) Q' E' (St s h tk) := by
    intro Q' E' k
    have hgg : Ext g (gone h [L]) := fun b o e => (gone_get (by simpa using Nat.ne_of_lt (Nat.lt_of_lt_of_le (Heap.lt_size e) X.F.above))).trans (X.F.keep _ _ e)
    have hgo : (gone h [L]).get? L = none := gone_none (List.mem_singleton.mpr rfl)
    have hst : (gone h [L]).StaysIn h := fun b o e => by
      by_cases hb : b = L
      · subst hb; rw [hgo] at e; cases e
      · rwa [gone_get (by simpa using hb)] at e
    refine lengths_call (G.keeps hgg) hst c (by decide) hfr ?_ hoa hen hlsl (fun a h' tk' s1 s2 s3 => k a h' tk' (fun q o hq e => s1 q o ((gone_get (by simpa using hq)).trans e)) (s2.ns X.F.ns) s3)
    refine Heap.FunFrames.cons ?_ rfl X.F.ns hgo trivial
    exact lawMk (w := w) (P := fun _ sc => sc.kind ≠ .module) rfl (by decide)
  clear hfr
  revert key
  refine lawMk (P := fun b sc => (∀ (Q' : Value → Shared → Prop) E', (∀ a h' tk', (∀ q o, q ≠ L → h.get? q = some o → h'.get? q = some o) → h'.Ns L m → LI h' a ls → Q' (.ref a) (St s h' tk')) → wpAny (model prog w) A (call (.ref 62) [.ref oa]) Q' E' (St s h tk)) → wpAny (model prog w) A (execs (b.drop 5) (envOfC "law" sc L fa cd)) Q E (St s h tk)) rfl ?_
  intro key
  have hcl : 1000 < cLine := by decide
  have hun := c.un
  have G₁ := G.keeps X.F.keep
  refine wpAny_execs_cons (wpAny_If (wpAny_isTrue_Compare1 (wpAny_Call_NameR (nmG G₁ rfl (callWith_K G₁.X rfl (args_cons (nmL X.F.ns ho (args_nil ⟨G₁.X, key _ _ (fun a h₂ tk₂ k₂ hn₂ hl₂ => ?_)⟩))))))))
  have X₂ := X.butL k₂ hn₂
  obtain ⟨us, hu, iu⟩ := hl₂
  obtain ⟨vs, hv, iv⟩ := hll
  have hv₂ : h₂.IsList la vs.toArray := let ⟨o, e, r⟩ := id hv; ⟨o, k₂ _ _ (ns_not_list X.F.ns hv) e, r⟩
  refine nmL X₂.F.ns hla (ne_intsK hu iu hv₂ iv (by omega) (wpAny_truthy_bool ?_))
  rw [decide_eq_true rfl, if_neg (by simp)]
  refine wpAny_execs_nil ?_
  exact law6 G c X₂ hx hnl hn hl h0 hlen hst0 hsz0 hQ
end
end Mine

end TxtL29

section TxtL30
open PySem PySem.W PyProof.Rows PySem.Calls
open PyProof.Rows.TI (gone gone_get gone_none gone_some)
namespace Mine
section
variable {prog : Program} {w : World} {A : Around} {E : Value → Shared → Prop} {s : Shared} {env : Env}

/-- the loop of a comprehension with no test, over any iterator -/
theorem compLoopP {elt iter : Expr} {x : Str} {px : Pos} {scope : Scope} {cl : List (Str × Addr)} {pos : Pos} {I D C : Addr} {fp wr : List Addr} {n : Nat} {P : Nat → Value → Prop} {Sx : Nat → Heap → Prop} {F : Nat → Value → Prop}
    {h₁ h₃ : Heap} {tk₃ : Nat} {m₀ : Str → Option Value} {R : Result → Shared → Prop}
    (W : Walks prog w A I fp wr n P Sx) (hlen : n ≤ sizeLine)
    (hkind : scope.kind = .function) (hx : scope.names.lookup x = some .local)
    (hwr : ∀ b ∈ wr, h₁.get? b = none) (hCf : C ∉ fp) (hDf : D ∉ fp) (hDC : D ≠ C) (hD1 : h₁.get? D = none) (hC1 : h₁.objs.size ≤ C)
    (hst : Sx 0 h₃) (hE : Ext h₁ h₃) (hD : PlainL h₃ D #[]) (hC : h₃.Ns C m₀)
    (q : ∀ i v h₄ tk₄ m₄ (Q' : Value → Shared → Prop) (E' : Value → Shared → Prop), i < n → P i v → h₄.Ns C m₄ → m₄ x = some v → Ext h₁ h₄ → (∀ y h₅ tk₅, F i y → Ext h₄ h₅ → Q' y (St s h₅ tk₅)) →
      wpAny (model prog w) A (eval elt (compEnvC scope cl C env)) Q' E' (St s h₄ tk₄))
    (done : ∀ h' tk' m (ys : List Value), Ext h₁ h' → PlainL h' D ys.toArray → h'.Ns C m → ys.length = n → (∀ (j : Nat) y, ys[j]? = some y → F j y) → R (.ok .next) (St s h' tk')) :
    codeAny (model prog w) A (.compLoop (.ListComp elt [⟨.Name x px, iter, [], 0⟩] scope pos) 0 (.ref I) (.ref D) (compEnvC scope cl C env)) R (St s h₃ tk₃) := by
  have hCw : C ∉ wr := fun h => hCf (W.sub _ h)
  have hDw : D ∉ wr := fun h => hDf (W.sub _ h)
  refine compGo W (fun i h => ∃ ys m, PlainL h D (ys : List Value).toArray ∧ h.Ns C m ∧ ys.length = i ∧ (∀ (j : Nat) y, ys[j]? = some y → F j y) ∧ Ext h₁ h) hst ⟨[], m₀, hD, hC, rfl, (fun j y e => by simp at e), hE⟩ ?_ ?_
  · rintro i v h h₂ tk₂ E' hi hv ⟨ys, m, hD', hC', hyl, hyF, hE'⟩ hk hst₂
    have hD₂ : PlainL h₂ D ys.toArray := let ⟨o, n, e, r⟩ := hD'; ⟨o, n, hk _ _ hDw e, r⟩
    have hC₂ : h₂.Ns C m := let ⟨o, es, ep, e, r⟩ := hC'; ⟨o, es, ep, hk _ _ hCw e, r⟩
    have hE₂ : Ext h₁ h₂ := fun b o e => hk b o (fun hb => by rw [hwr b hb] at e; cases e) (hE' b o e)
    have F₂ : Fr h₁ C h₂ m := ⟨hC₂, hE₂, hC1⟩
    refine wpAny_pure (wpAny_assign_Name (stL (env := compEnvC scope cl C env) F₂ (fun h₅ tk₅ F₅ S₅ => ?_) (by simp [compEnvC, relabel, hkind]) (lookup_relabel_local hx)))
    have hD₅ : PlainL h₅ D ys.toArray := plain_set hD₂ hC₂ S₅
    have hst₅ : Sx (i + 1) h₅ := W.frame _ _ _ hst₂ fun b hb o e => S₅.extBut b o (fun h => hCf (by have h : b = C := h; exact h ▸ hb)) e
    refine wpAny_pure ?_
    rw [if_pos rfl]
    refine q i v h₅ tk₅ _ _ E' hi hv F₅.ns upd_self F₅.keep (fun y h₆ tk₇ hFy hE₆ => ?_)
    have hD₆ := hD₅.keeps hE₆
    refine list_append_plainL hD₆ (fun h₇ hD₇ S₇ => ?_) (by rw [List.size_toArray]; omega)
    refine ⟨h₇, tk₇, rfl, W.frame _ _ _ hst₅ fun b hb o e => S₇.extBut b o (fun h => hDf (h ▸ hb)) (hE₆ _ _ e), ys ++ [y], _, by simpa using hD₇, (F₅.ns.keeps hE₆).sameBut S₇ hDC.symm, by simp [hyl], ?_, fun b o e => S₇.extBut b o (by rintro rfl; rw [hD1] at e; cases e) (hE₆ _ _ (F₅.keep _ _ e))⟩
    intro j z ez
    by_cases hj : j < ys.length
    · rw [List.getElem?_append_left hj] at ez; exact hyF j z ez
    · rw [List.getElem?_append_right (by omega)] at ez
      have h1 := (List.getElem?_eq_some_iff.mp ez).1
      have : j = i := by simp at h1; omega
      subst this
      rw [show j - ys.length = 0 by omega] at ez
      simp at ez
      subst ez; exact hFy
  · rintro h h₂ tk₂ ⟨ys, m, hD', hC', hyl, hyF, hE'⟩ hk
    exact done h₂ tk₂ m ys (fun b o e => hk b o (fun hb => by rw [hwr b hb] at e; cases e) (hE' b o e)) (let ⟨o, n, e, r⟩ := hD'; ⟨o, n, hk _ _ hDw e, r⟩) (let ⟨o, es, ep, e, r⟩ := hC'; ⟨o, es, ep, hk _ _ hCw e, r⟩) hyl hyF

/-- range(n), and its walk -/
theorem rangeWalk {n : Nat} {t : Tok} {hp : Heap} {tk : Nat} {Q : Value → Shared → Prop} (hh : A.handled = none) (hn : n ≤ 100000)
    (h : ∀ I h₂ tk₂, Ext hp h₂ → hp.get? I = none → I < h₂.objs.size → hp.objs.size ≤ h₂.objs.size → Walks prog w A I [I] [I] n (fun i v => ∃ t, v = .int (0 + i * 1) t) (fun i h => IsRangeIter h I (0 + (i : Nat) * 1) ((n : Int) - (i : Nat)) 1) →
      IsRangeIter h₂ I (0 + ((0 : Nat) : Int) * 1) ((n : Int) - ((0 : Nat) : Int)) 1 → Q (.ref I) (St s h₂ tk₂)) :
    wpAny (model prog w) A (call (.type "range") [.int n t]) (fun xv s₁ => wpAny (model prog w) A (pyIter xv) Q E s₁) E (St s hp tk) := by
  refine call_range_1 ?_
  refine wpAny_pyIter_range (IsRange.new _ _ _ _ _ _ _) (small_one (by omega) (by omega) (by omega) (by omega)) ?_
  have hsz : (hp.push { cls := .type "range", data := .fields #[.int 0 tk, .int n t, .int 1 (tk + 1)] }).objs.size = hp.objs.size + 1 := Heap.size_push ..
  have e : Builtin.Range.rangeSize 0 (n : Int) 1 = (n : Int) := by rw [rangeSize_one]; split <;> omega
  rw [e]
  have hit := Heap.get?_push_size (hp.push { cls := .type "range", data := .fields #[.int 0 tk, .int n t, .int 1 (tk + 1)] }) (o := { cls := .type "range_iterator", data := .fields #[rawInt 0, rawInt n, rawInt 1] }) rfl
  refine h (hp.push { cls := .type "range", data := .fields #[.int 0 tk, .int n t, .int 1 (tk + 1)] }).objs.size _ _ (Ext.trans' (ext_push _) (ext_push _)) (Heap.get?_none_of_le (by rw [hsz]; exact Nat.le_succ _)) (Heap.lt_size hit) (by rw [Heap.size_push, hsz]; exact Nat.le_trans (Nat.le_succ _) (Nat.le_succ _)) (Walks.range hh _ 0 1 n) ?_
  show _ = _
  have e1 : (0 + ((0 : Nat) : Int) * 1) = 0 := by simp
  have e2 : ((n : Int) - ((0 : Nat) : Int)) = n := by simp
  rw [e1, e2]
  exact hit

/-- [elt for x in range(n)] as a value -/
theorem compRange {elt iter : Expr} {x : Str} {px : Pos} {scope : Scope} {cl : List (Str × Addr)} {pos : Pos} {hp : Heap} {tk : Nat} {Q : Value → Shared → Prop} (hh : A.handled = none)
    (hclos : closureFor scope env = pure cl) (hcell : ∀ y ∈ scope.names, y.2 ≠ .cell) (hkind : scope.kind = .function)
    (hnames : ∀ y ∈ scope.names, y.2 = .local → scope.names.lookup y.1 = some .local) (hx : scope.names.lookup x = some .local) {n : Nat} {F : Nat → Value → Prop} (hn : n ≤ 100000)
    (hiter : ∀ (Q' : Value → Shared → Prop), (∀ t tk', wpAny (model prog w) A (call (.type "range") [.int n t]) Q' E (St s hp tk')) → wpAny (model prog w) A (eval iter env) Q' E (St s hp tk))
    (q : ∀ C i v h₄ tk₄ m₄ (Q' : Value → Shared → Prop) (E' : Value → Shared → Prop), i < n → (∃ t, v = .int (i : Nat) t) → h₄.Ns C m₄ → m₄ x = some v → Ext hp h₄ → hp.objs.size ≤ C → (∀ y h₅ tk₅, F i y → Ext h₄ h₅ → Q' y (St s h₅ tk₅)) →
      wpAny (model prog w) A (eval elt (compEnvC scope cl C env)) Q' E' (St s h₄ tk₄))
    (k : ∀ D h' tk' (ys : List Value), Ext hp h' → PlainL h' D ys.toArray → hp.get? D = none → ys.length = n → (∀ (j : Nat) y, ys[j]? = some y → F j y) → Q (.ref D) (St s h' tk'))
    (hs : ∀ x, foldedSetIterable iter env x = pure x := by intro _; rfl) :
    wpAny (model prog w) A (eval (.ListComp elt [⟨.Name x px, iter, [], 0⟩] scope pos) env) Q E (St s hp tk) := by
  have sl : sizeLine = 16777216 := rfl
  refine listComp hclos hcell hkind hnames (hiter _ (fun t tk' => rangeWalk hh hn (fun I h₂ tk₂ hE₂ hI hI2 hsz W hit => ⟨I, h₂, tk₂, rfl, rfl, fun h₃ tk₃ Q' E' hE₃ hQ => W.self 0 _ _ _ (hE₃ _ _ hit) hQ, ?_⟩))) hs
  intro D C h₃ tk₃ hDC hD hC hDs hCs hE₃ hpl hns
  have hD1 : hp.get? D = none := by
    cases hq : hp.get? D with
    | none => rfl
    | some o => rw [hE₂ _ _ hq] at hD; cases hD
  refine compLoopP (F := F) W (by omega) hkind hx (by simpa using hI) (by simp only [List.mem_singleton]; exact Nat.ne_of_gt (Nat.lt_of_lt_of_le hI2 hCs)) (by simp only [List.mem_singleton]; exact Nat.ne_of_gt (Nat.lt_of_lt_of_le hI2 hDs)) hDC hD1 (Nat.le_trans hsz hCs) (hE₃ _ _ hit) (Ext.trans' hE₂ hE₃) hpl hns ?_ ?_
  · intro i v h₄ tk₄ m₄ Q' E' hi hv hn hm hE hQ
    exact q C i v h₄ tk₄ m₄ Q' E' hi (let ⟨t, e⟩ := hv; ⟨t, by rw [e]; congr 1; omega⟩) hn hm hE (Nat.le_trans hsz hCs) hQ
  · intro h' tk' m ys hE' hD' hC' hyl hyF
    refine ⟨h', tk', m, rfl, rfl, hC', fun h'' hs'' => k D h'' tk' ys (fun b o e => hs''.extBut b o (fun q => ?_) (hE' b o e)) (plain_set hD' hC' hs'') hD1 hyl hyF⟩
    have := Heap.lt_size e
    rw [q] at this
    exact absurd (Nat.le_trans hsz hCs) (Nat.not_le.mpr this)

/-- y = [elt for x in range(n)] -/
theorem assignRange {elt iter : Expr} {x y : Str} {px py spos : Pos} {scope : Scope} {cl : List (Str × Addr)} {pos : Pos} {hp : Heap} {tk : Nat} {Q : Flow → Shared → Prop} (hh : A.handled = none)
    (hsw : swapsWith (.ListComp elt [⟨.Name x px, iter, [], 0⟩] scope pos) (some (.Name y py)) spos.line env = pure true)
    (hclos : closureFor scope env = pure cl) (hcell : ∀ y ∈ scope.names, y.2 ≠ .cell) (hkind : scope.kind = .function)
    (hnames : ∀ y ∈ scope.names, y.2 = .local → scope.names.lookup y.1 = some .local) (hx : scope.names.lookup x = some .local) {n : Nat} {F : Nat → Value → Prop} (hn : n ≤ 100000)
    (hiter : ∀ (Q' : Value → Shared → Prop), (∀ t tk', wpAny (model prog w) A (call (.type "range") [.int n t]) Q' E (St s hp tk')) → wpAny (model prog w) A (eval iter env) Q' E (St s hp tk))
    (q : ∀ C i v h₄ tk₄ m₄ (Q' : Value → Shared → Prop) (E' : Value → Shared → Prop), i < n → (∃ t, v = .int (i : Nat) t) → h₄.Ns C m₄ → m₄ x = some v → Ext hp h₄ → hp.objs.size ≤ C → (∀ y h₅ tk₅, F i y → Ext h₄ h₅ → Q' y (St s h₅ tk₅)) →
      wpAny (model prog w) A (eval elt (compEnvC scope cl C env)) Q' E' (St s h₄ tk₄))
    (k : ∀ D C mc h' tk' (ys : List Value), Ext hp h' → PlainL h' D ys.toArray → hp.get? D = none → hp.objs.size ≤ C → h'.Ns C mc → ys.length = n → (∀ (j : Nat) y, ys[j]? = some y → F j y) →
      wpAny (model prog w) A (storeName env y (.ref D)) (fun _ s'' => ∃ h₅ tk₅ m, s'' = St s h₅ tk₅ ∧ h₅.Ns C m ∧ ∀ h'', Heap.SameBut C h₅ h'' → Q .next (St s h'' tk₅)) E (St s h' tk'))
    (hs : ∀ x, foldedSetIterable iter env x = pure x := by intro _; rfl) :
    wpAny (model prog w) A (exec (.Assign [.Name y py] (.ListComp elt [⟨.Name x px, iter, [], 0⟩] scope pos) spos) env) Q E (St s hp tk) := by
  have sl : sizeLine = 16777216 := rfl
  refine assignComp hsw hclos hcell hkind hnames (hiter _ (fun t tk' => rangeWalk hh hn (fun I h₂ tk₂ hE₂ hI hI2 hsz W hit => ⟨I, h₂, tk₂, rfl, rfl, fun h₃ tk₃ Q' E' hE₃ hQ => W.self 0 _ _ _ (hE₃ _ _ hit) hQ, ?_⟩))) hs
  intro D C h₃ tk₃ hDC hD hC hDs hCs hE₃ hpl hns
  have hD1 : hp.get? D = none := by
    cases hq : hp.get? D with
    | none => rfl
    | some o => rw [hE₂ _ _ hq] at hD; cases hD
  refine compLoopP (F := F) W (by omega) hkind hx (by simpa using hI) (by simp only [List.mem_singleton]; exact Nat.ne_of_gt (Nat.lt_of_lt_of_le hI2 hCs)) (by simp only [List.mem_singleton]; exact Nat.ne_of_gt (Nat.lt_of_lt_of_le hI2 hDs)) hDC hD1 (Nat.le_trans hsz hCs) (hE₃ _ _ hit) (Ext.trans' hE₂ hE₃) hpl hns ?_ ?_
  · intro i v h₄ tk₄ m₄ Q' E' hi hv hn hm hE hQ
    exact q C i v h₄ tk₄ m₄ Q' E' hi (let ⟨t, e⟩ := hv; ⟨t, by rw [e]; congr 1; omega⟩) hn hm hE (Nat.le_trans hsz hCs) hQ
  · intro h' tk' m ys hE' hD' hC' hyl hyF
    exact ⟨h', tk', rfl, rfl, k D C m h' tk' ys hE' hD' hD1 (Nat.le_trans hsz hCs) hC' hyl hyF⟩
end
end Mine

end TxtL30

section TxtL31
open PySem PySem.W PyProof.Rows PySem.Calls
open PyProof.Rows.TI (gone gone_get gone_none gone_some)
namespace Mine

/-- where the lines begin -/
def startsOf (sz : List Int) : List Int := (List.range sz.length).map fun k => (sz.take k).sum + (k : Int)

theorem take_sum_succ (sz : List Int) (k : Nat) (hk : k < sz.length) : (sz.take (k + 1)).sum = (sz.take k).sum + sz[k] := by
  rw [List.take_add_one, List.getElem?_eq_getElem hk]
  simp only [Option.toList_some, List.sum_append, List.sum_cons, List.sum_nil, Int.add_zero]
theorem take_sum_bound {sz : List Int} (h : ∀ a ∈ sz, 0 ≤ a ∧ a ≤ 1000) : ∀ k, 0 ≤ (sz.take k).sum ∧ (sz.take k).sum ≤ 1000 * k
  | 0 => by simp
  | k + 1 => by
    have ih := take_sum_bound h k
    by_cases hk : k < sz.length
    · rw [take_sum_succ sz k hk]
      have := h _ (List.getElem_mem hk)
      omega
    · rw [List.take_of_length_le (by omega)]
      rw [List.take_of_length_le (by omega)] at ih
      omega
theorem take_sum_mono {sz : List Int} (h : ∀ a ∈ sz, 0 ≤ a ∧ a ≤ 1000) {i : Nat} : ∀ {j : Nat}, i ≤ j → (sz.take i).sum ≤ (sz.take j).sum
  | 0, hj => by rw [show i = 0 by omega]; exact Int.le_refl _
  | j + 1, hj => by
    by_cases he : i = j + 1
    · rw [he]; exact Int.le_refl _
    · have ih := take_sum_mono h (i := i) (j := j) (by omega)
      by_cases hk : j < sz.length
      · rw [take_sum_succ sz j hk]
        have := h _ (List.getElem_mem hk)
        omega
      · rw [List.take_of_length_le (show sz.length ≤ j + 1 by omega)]
        rw [List.take_of_length_le (show sz.length ≤ j by omega)] at ih
        exact ih
theorem starts_get {sz : List Int} {i : Nat} (hi : i < sz.length) : (startsOf sz)[i]? = some ((sz.take i).sum + (i : Int)) := by
  unfold startsOf
  rw [List.getElem?_map, List.getElem?_range hi]; rfl
theorem starts_len (sz : List Int) : (startsOf sz).length = sz.length := by simp [startsOf]
theorem starts_mem {sz : List Int} {a : Int} (h : a ∈ startsOf sz) : ∃ i, i < sz.length ∧ a = (sz.take i).sum + (i : Int) := by
  unfold startsOf at h
  obtain ⟨k, h1, rfl⟩ := List.mem_map.mp h
  exact ⟨k, List.mem_range.mp h1, rfl⟩
theorem starts_nodup {sz : List Int} (h : ∀ a ∈ sz, 0 ≤ a ∧ a ≤ 1000) : (startsOf sz).Nodup := by
  unfold List.Nodup startsOf
  rw [List.pairwise_map]
  refine List.pairwise_lt_range.imp ?_
  intro a b hab e
  have := take_sum_mono h (Nat.le_of_lt hab)
  omega

section
variable {prog : Program} {w : World} {A : Around} {E : Value → Shared → Prop} {s : Shared}

theorem sumLI {hp : Heap} {tk : Nat} {a : Addr} {ns : List Int} {Q : Value → Shared → Prop} (hh : A.handled = none) (hl : LI hp a ns) (hb : ∀ a ∈ ns, 0 ≤ a ∧ a ≤ 1000) (hlen : ns.length ≤ 1000) (h : ∀ t h' tk', Ext hp h' → Q (.int ns.sum t) (St s h' tk')) :
    wpAny (model prog w) A (call (.builtin "sum") [.ref a]) Q E (St s hp tk) := by
  obtain ⟨vs, hl, hi⟩ := hl
  obtain ⟨xs, e⟩ := hi.allInts.items
  have hns : ns = xs.toList.map (·.1) := by rw [← hi.numsOf, ← nums_intItems, ← e]
  rw [e] at hl
  have hxl : xs.size = ns.length := by rw [hns]; simp
  refine sum_intList hh hl (fun j hj => ?_) (fun h' tk' t' hk => ?_)
  · rw [preSum_eq, numAt_eq, ← hns]
    have h1 := take_sum_bound hb (j + 1)
    have hjn : j < ns.length := by omega
    have h2 : ns.getD j 0 = ns[j] := by simp [List.getD, List.getElem?_eq_getElem hjn]
    rw [h2]
    have h3 := hb _ (List.getElem_mem hjn)
    unfold InLong
    omega
  · rw [preSum_eq, ← hns, hxl, List.take_of_length_le (Nat.le_refl _)]
    exact h t' h' tk' hk
end

section
variable {prog : Program} {w : World} {A : Around} {E : Value → Shared → Prop} {s : Shared} {g h : Heap} {tk : Nat} {L fa : Addr} {cd : Value} {mg mb m : Str → Option Value} {Q : Flow → Shared → Prop}
variable {sc za : Addr} {ns sz : List Int} {x : Str}

theorem ints_of {ys : List Value} {f : Nat → Int} (h : ∀ (j : Nat) y, ys[j]? = some y → ∃ t, y = .int (f j) t) : IntsAre ys ((List.range ys.length).map f) := by
  have h1 : ∀ v ∈ ys, ∃ n t, v = .int n t := fun v hv => by
    obtain ⟨i, hi, rfl⟩ := List.getElem_of_mem hv
    obtain ⟨t, e⟩ := h i _ (List.getElem?_eq_getElem hi)
    exact ⟨_, t, e⟩
  have h2 := ints_all h1
  have e : ys.map intIn = (List.range ys.length).map f := by
    apply List.ext_getElem?
    intro i
    by_cases hi : i < ys.length
    · obtain ⟨t, e⟩ := h i _ (List.getElem?_eq_getElem hi)
      rw [List.getElem?_map, List.getElem?_map, List.getElem?_range hi, List.getElem?_eq_getElem hi, e]; rfl
    · rw [List.getElem?_eq_none (by simpa using hi), List.getElem?_eq_none (by simpa using hi)]
  rwa [e] at h2

set_option maxHeartbeats 8000000 in
theorem law4 (G : Gr w mg mb g) (c : Calm 5 A) (hfr : A.frames = some [envOfC "law" (lawScope w) L fa cd]) (F : Fr g L h m) (T : Tab h) (hsc : m "script" = some (.ref sc)) (hns : LI h sc ns) (htx : ∃ t, m "text" = some (.str x t)) (hc1 : h.IsCell (L + 1) (some (.ref za))) (hz : LI h za sz) (hc2 : h.IsCell (L + 2) none)
    (h29 : 29 < L) (hg29 : g.get? 29 = none) (hx : Agree x (startsOf sz)) (hnl : ns.length ≤ 1000) (h0 : 0 < sz.length) (hlen : sz.length ≤ 80) (hsz0 : ∀ a ∈ sz, 0 ≤ a ∧ a ≤ 1000)
    {oa la : Addr} {octs ls : List Int} (ho : m "octets" = some (.ref oa)) (hoa : LI h oa octs) (hla : m "lengths" = some (.ref la)) (hll : LI h la ls) (hen : Encs octs ls) (hlsl : ls.length ≤ 1000)
    (hQ : ∀ h' tk', Ext g h' → Tab h' → Q (.ret (.bool true)) (St s h' tk')) :
    wpAny (model prog w) A (execs ((lawBody w).drop 4) (envOfC "law" (lawScope w) L fa cd)) Q E (St s h tk) := by
  refine lawMk (P := fun b sc => wpAny (model prog w) A (execs (b.drop 4) (envOfC "law" sc L fa cd)) Q E (St s h tk)) rfl ?_
  have sl : sizeLine = 16777216 := rfl
  have G₁ := G.keeps F.keep
  obtain ⟨vz, hvz, iz⟩ := id hz
  have hvl := iz.length
  refine wpAny_execs_cons (assignRange (n := sz.length) (F := fun i y => ∃ t, y = .int ((sz.take i).sum + (i : Int)) t) c.hh rfl rfl (by decide) rfl (by decide) rfl (by omega) ?_ ?_ ?_)
  · intro Q' k
    refine wpAny_Call_NameR (nmB G₁ rfl boot_range (by decide) (PyProof.Rows.callWith_type1 (args_cons (wpAny_Call_NameR (nmB G₁ rfl boot_len (by decide) (callWith_builtin1 (args_cons (nmC rfl hc1 (args_nil (oLenL hvz (by omega) fun t tk' => args_nil ?_))))))))))
    rw [hvl]
    exact k t tk'
  · rintro C i v h₄ tk₄ m₄ Q' E' hi ⟨t, rfl⟩ hn hm hE hC hQ'
    have G₄ := G₁.keeps hE
    refine wpAny_BinOp (wpAny_Call_NameR (nmB G₄ rfl boot_sum (by decide) (callWith_builtin1 (args_cons (sliceL (nmC rfl (cell_ext hc1 hE) (wpAny_evalPart_none (wpAny_evalPart_some (nmL hn hm ⟨za, vz.toArray, none, some (i : Int), h₄, _, rfl, rfl, list_ext hvz hE, by simp; omega, .none, .int _ _, fun a h₅ E₅ hl₅ => args_nil ?_⟩)))))))))
    rw [slicePick_upto'] at hl₅
    have hli : LI h₅ a (sz.take i) := ⟨vz.take i, by simpa using hl₅, iz.take i⟩
    refine sumLI c.hh hli (fun a ha => hsz0 a (List.mem_of_mem_take ha)) (by rw [List.length_take]; omega) (fun t₂ h₆ tk₆ E₆ => ?_)
    exact nmL ((hn.keeps E₅).keeps E₆) hm (oAdd fun t₃ _ => hQ' _ _ _ ⟨t₃, rfl⟩ (Ext.trans' E₅ E₆))
  · intro D C mc h₁ tk₁ ys E₁ hD hD1 hC hnC hyl hyF
    refine stL (frx F E₁) (fun h₂ tk₂ F₂ S₂ => ?_)
    have hCL : C ≠ L := by
      rintro rfl
      obtain ⟨o, es, ep, q, _⟩ := F.ns
      exact absurd (Nat.lt_of_lt_of_le (Heap.lt_size q) hC) (Nat.lt_irrefl _)
    have hnC₂ := hnC.sameBut S₂ hCL
    refine ⟨h₂, tk₂, mc, rfl, hnC₂, fun h₃ S₃ => ?_⟩
    have F₃ : Fr g L h₃ (upd m "starts" (.ref D)) := ⟨F₂.ns.sameBut S₃ (Ne.symm hCL), fun b o q => S₃.extBut b o (Nat.ne_of_lt (Nat.lt_of_lt_of_le (Heap.lt_size (F.keep b o q)) hC)) (F₂.keep b o q), F₂.above⟩
    have up : ∀ {a ns}, LI h a ns → LI h₃ a ns := fun x => ((x.ext E₁).set (frx F E₁).ns S₂).set hnC₂ S₃
    have T₃ : Tab h₃ := ((T.ext E₁).set (frx F E₁).ns S₂).set hnC₂ S₃
    have cu : ∀ {c v}, h.IsCell c v → h₃.IsCell c v := fun x => cell_set (cell_set (cell_ext x E₁) (frx F E₁).ns S₂) hnC₂ S₃
    have hst : LI h₃ D (startsOf sz) := by
      have := ints_of hyF
      rw [hyl] at this
      exact ⟨ys, list_set (list_set hD.isList (frx F E₁).ns S₂) hnC₂ S₃, this⟩
    have ne : ∀ {a ns}, LI h₃ a ns → a ≠ 29 := fun ⟨_, l, _⟩ => T₃.ne l
    exact law5 G c hfr ⟨F₃, T₃, upd_ne hsc (by decide), up hns, upd_self, hst, (let ⟨t, e⟩ := htx; ⟨t, upd_ne e (by decide)⟩), cu hc1, up hz, cu hc2, ne (up hns), ne hst, ne (up hz), h29, hg29⟩ hx hnl (starts_nodup hsz0) (starts_len sz) (by rw [starts_len]; exact h0) (by rw [starts_len]; omega)
      (fun a ha => by obtain ⟨i, hi, rfl⟩ := starts_mem ha; have := take_sum_bound hsz0 i; omega) hsz0 (upd_ne ho (by decide)) (up hoa) (upd_ne hla (by decide)) (up hll) hen hlsl hQ
end
end Mine

end TxtL31

section TxtL32
open PySem PySem.W PyProof.Rows PySem.Calls
open PyProof.Rows.TI (gone gone_get gone_none gone_some)
namespace Mine

theorem compTurn2_0 (elt t1 i1 t2 i2 : Expr) (scope : Scope) (pos : Pos) (it acc : Value) (env : Env) :
    compTurn (.ListComp elt [⟨t1, i1, [], 0⟩, ⟨t2, i2, [], 0⟩] scope pos) 0 it acc env = (standAt i1.pos >>= fun _ => pyNext it >>= fun r => match r with
      | none => pure (.done .next)
      | some v => letOwnedTupleGo t1 it v >>= fun _ => assign t1 env v >>= fun _ =>
        (eval i2 env >>= fun x => standAt i2.pos >>= fun _ => foldedSetIterable i2 env x >>= fun x => holding [x] (pyIter x) >>= fun j => runOwn (.compStart (.ListComp elt [⟨t1, i1, [], 0⟩, ⟨t2, i2, [], 0⟩] scope pos) 1 j acc env) env >>= fun _ =>
          again (.compLoop (.ListComp elt [⟨t1, i1, [], 0⟩, ⟨t2, i2, [], 0⟩] scope pos) 0 it acc env))) := by rfl
theorem compTurn2_1 (elt t1 i1 t2 i2 : Expr) (scope : Scope) (pos : Pos) (it acc : Value) (env : Env) :
    compTurn (.ListComp elt [⟨t1, i1, [], 0⟩, ⟨t2, i2, [], 0⟩] scope pos) 1 it acc env = (standAt i2.pos >>= fun _ => pyNext it >>= fun r => match r with
      | none => pure (.done .next)
      | some v => letOwnedTupleGo t2 it v >>= fun _ => assign t2 env v >>= fun _ =>
        (eval elt env >>= fun x => call (.builtin "list.append") [acc, x] >>= fun _ => pure ()) >>= fun _ =>
          again (.compLoop (.ListComp elt [⟨t1, i1, [], 0⟩, ⟨t2, i2, [], 0⟩] scope pos) 1 it acc env)) := by rfl

theorem Encs.snoc {octs ns ys : List Int} {n : Int} (h : Encs octs ns) (e : Enc ys n) : Encs (octs ++ ys) (ns ++ [n]) := by
  induction h with
  | nil => simpa using Encs.cons e .nil
  | cons a _ ih => rw [List.append_assoc]; exact .cons a ih

section
variable {prog : Program} {w : World} {A : Around} {E : Value → Shared → Prop} {s : Shared} {env : Env} {R : Result → Shared → Prop}

theorem compStart2 {elt t1 i1 t2 i2 : Expr} {scope : Scope} {pos : Pos} {it acc : Value}
    (h0 : codeAny (model prog w) A (.compLoop (.ListComp elt [⟨t1, i1, [], 0⟩, ⟨t2, i2, [], 0⟩] scope pos) 1 it acc env) R s)
    (h : wpAny (model prog w) A (pyIter it) (fun it' s' => codeAny (model prog w) A (.compLoop (.ListComp elt [⟨t1, i1, [], 0⟩, ⟨t2, i2, [], 0⟩] scope pos) 1 it' acc env) R s')
      (notedBy (model prog w) A env fun x s' => R (.error x) s') s) :
    codeAny (model prog w) A (.compStart (.ListComp elt [⟨t1, i1, [], 0⟩, ⟨t2, i2, [], 0⟩] scope pos) 1 it acc env) R s := by
  refine codeAny_of_tree ?_
  show wpAny _ _ ((compStart (.ListComp elt [⟨t1, i1, [], 0⟩, ⟨t2, i2, [], 0⟩] scope pos) 1 it acc env).onRaise (fun x => do noteFrame x env; standAt theWindowsPlace)) _ _ s
  refine wpAny_notedAt ?_
  unfold compStart
  show wpAny _ _ (ask >>= _) _ _ s
  refine wpAny_bind (wpAny_askSetting (wpAny_ite ?_))
  split
  · first
      | exact wpAny_bind (wpAny_pure (wpAny_pure (And.intro rfl h0)))
      | exact wpAny_pure (And.intro rfl h0)
  · refine wpAny_bind (wpAny_rule ?_)
    show wpAny _ _ (standAt i2.pos >>= _) _ _ s
    exact wpAny_bind (wpAny_standAt (wpAny_bind (wpAny_mono h (fun it' s' h' => wpAny_pure (And.intro rfl h')) fun _ _ x => x)))

theorem comp2Inner {t1 i1 i2 : Expr} {y : Str} {py pn : Pos} {scope : Scope} {cl : List (Str × Addr)} {pos : Pos} {I D C l : Addr} {pre ws : List Value} {hp h₁ : Heap} {tk : Nat} {m : Str → Option Value} (hh : A.handled = none)
    (hkind : scope.kind = .function) (hy : scope.names.lookup y = some .local) (hdb : (y == ("__debug__" : Str)) = false)
    (hit : hp.IsListIter I l 0) (hl : hp.IsList l ws.toArray) (hlI : l ≠ I) (hD : PlainL hp D pre.toArray) (hC : hp.Ns C m) (hDC : D ≠ C) (hDI : D ≠ I) (hDl : D ≠ l) (hCI : C ≠ I) (hCl : C ≠ l)
    (hE : Ext h₁ hp) (hD1 : h₁.get? D = none) (hC1 : h₁.objs.size ≤ C) (hI1 : h₁.get? I = none) (hlen : pre.length + ws.length ≤ sizeLine)
    (done : ∀ h' tk' m', Ext h₁ h' → PlainL h' D (pre ++ ws).toArray → h'.Ns C m' → (∀ q o, q ≠ I → q ≠ D → q ≠ C → hp.get? q = some o → h'.get? q = some o) → R (.ok .next) (St s h' tk')) :
    codeAny (model prog w) A (.compLoop (.ListComp (.Name y pn) [⟨t1, i1, [], 0⟩, ⟨.Name y py, i2, [], 0⟩] scope pos) 1 (.ref I) (.ref D) (compEnvC scope cl C env)) R (St s hp tk) := by
  refine codeAny_loop rfl (fun k s' => ∃ j h' tk' m', s' = St s h' tk' ∧ j ≤ ws.length ∧ k = ws.length + 1 - j ∧ h'.IsListIter I l j ∧ h'.IsList l ws.toArray ∧ PlainL h' D (pre ++ ws.take j).toArray ∧ h'.Ns C m' ∧ Ext h₁ h' ∧ (∀ q o, q ≠ I → q ≠ D → q ≠ C → hp.get? q = some o → h'.get? q = some o)) ?_ (ws.length + 1) ⟨0, hp, tk, m, rfl, Nat.zero_le _, rfl, hit, hl, by simpa using hD, hC, hE, fun q o _ _ _ e => e⟩
  rintro k _ ⟨j, h', tk', m', rfl, hj, rfl, a1, a2, a3, a4, a5, a6⟩
  show wpAny _ A ((compTurn (.ListComp (.Name y pn) [⟨t1, i1, [], 0⟩, ⟨.Name y py, i2, [], 0⟩] scope pos) 1 (.ref I) (.ref D) (compEnvC scope cl C env)).onRaise (fun x => do noteFrame x (compEnvC scope cl C env); theTreesLotGoes x)) _ _ _
  refine wpAny_noted ?_
  rw [compTurn2_1]
  refine wpAny_bind (wpAny_standAt (wpAny_bind ?_))
  by_cases hlt : j < ws.length
  · refine wpAny_pyNext_list_item a1 a2 (x := ws[j]) (by simp [hlt]) (fun h₂ hit₂ S₂ => ?_)
    have F₂ : Fr h₁ C h₂ m' := ⟨a4.sameBut S₂ hCI, fun b o e => S₂.extBut _ _ (by rintro rfl; rw [hI1] at e; cases e) (a5 b o e), hC1⟩
    refine wpAny_bind (wpAny_pure (wpAny_bind (wpAny_assign_Name (stL (env := compEnvC scope cl C env) F₂ (fun h₃ tk₃ F₃ S₃ => ?_) (by simp [compEnvC, relabel, hkind]) (lookup_relabel_local hy)))))
    refine wpAny_bind (wpAny_bind (nmL (env := compEnvC scope cl C env) F₃.ns upd_self ?_ (by simp [compEnvC, relabel, hkind]) (lookup_relabel_local hy) hdb))
    have hD₃ : PlainL h₃ D (pre ++ ws.take j).toArray := plain_set (a3.extBut S₂.extBut hDI) F₂.ns S₃
    refine wpAny_bind (list_append_plainL hD₃ (fun h₄ hD₄ S₄ => wpAny_pure (wpAny_pure ⟨rfl, ws.length + 1 - (j + 1), by omega, j + 1, h₄, tk₃, _, rfl, hlt, rfl, ?_, ?_, ?_, F₃.ns.sameBut S₄ hDC.symm, ?_, ?_⟩)) (by rw [List.size_toArray, List.length_append, List.length_take]; omega))
    · obtain ⟨o, e, r⟩ := hit₂; exact ⟨o, S₄.extBut _ _ (Ne.symm hDI) (S₃.extBut _ _ (Ne.symm hCI) e), r⟩
    · obtain ⟨o, e, r⟩ := a2; exact ⟨o, S₄.extBut _ _ (Ne.symm hDl) (S₃.extBut _ _ (Ne.symm hCl) (S₂.extBut _ _ hlI e)), r⟩
    · have e : ws.take (j + 1) = ws.take j ++ [ws[j]] := by rw [List.take_add_one, List.getElem?_eq_getElem hlt]; rfl
      rw [e, ← List.append_assoc]; simpa using hD₄
    · exact fun b o e => S₄.extBut _ _ (by rintro rfl; rw [hD1] at e; cases e) (F₃.keep b o e)
    · exact fun q o n1 n2 n3 e => S₄.extBut _ _ n2 (S₃.extBut _ _ n3 (S₂.extBut _ _ n1 (a6 q o n1 n2 n3 e)))
  · have hin : j = ws.length := by omega
    subst hin
    refine wpAny_pyNext_list_end hh a1 a2 (by simp) (fun h₂ x₂ => wpAny_pure (done h₂ tk' m' (fun b o e => x₂ _ _ (by rintro rfl; rw [hI1] at e; cases e) (a5 b o e)) ?_ ?_ (fun q o n1 n2 n3 e => x₂ _ _ n1 (a6 q o n1 n2 n3 e))))
    · rw [List.take_of_length_le (Nat.le_refl _)] at a3
      exact a3.extBut x₂ hDI
    · obtain ⟨o, es, ep, e, r⟩ := a4; exact ⟨o, es, ep, x₂ _ _ hCI e, r⟩
end
end Mine

end TxtL32

section TxtL33
open PySem PySem.W PyProof.Rows PySem.Calls
open PyProof.Rows.TI (gone gone_get gone_none gone_some)
namespace Mine
theorem Enc.len {ys : List Int} {n : Int} (e : Enc ys n) (hn : n < 2 ^ 24) : ys.length ≤ 270000 := by
  obtain ⟨b, r, rfl, _, h⟩ := e
  simp only [List.length_cons]
  omega
/-- two lists glued, the new one's place new -/
theorem addLIF {prog : Program} {w : World} {A : Around} {E : Value → Shared → Prop} {s : Shared} {hp : Heap} {tk : Nat} {Q : Value → Shared → Prop} {l b : Addr} {ns ms : List Int} (hl : LI hp l ns) (hb : LI hp b ms)
    (h : ∀ a h', Ext hp h' → LI h' a (ns ++ ms) → hp.get? a = none → Q (.ref a) (St s h' tk)) (hsz : ns.length + ms.length ≤ sizeLine) :
    wpAny (model prog w) A (binaryOp .Add (.ref l) (.ref b)) Q E (St s hp tk) := by
  obtain ⟨vs, hl, hi⟩ := hl
  obtain ⟨ws, hb, hj⟩ := hb
  have hvl := hi.length
  have hwl := hj.length
  obtain ⟨⟨cls, dd, data, sl⟩, ho, hc, n, hd⟩ := id hl
  obtain ⟨⟨cls2, dd2, data2, sl2⟩, ho2, hc2, n2, hd2⟩ := id hb
  simp only at hc hd hc2 hd2
  subst hc hd hc2 hd2
  have e : vs.toArray ++ ws.toArray = (vs ++ ws).toArray := by simp
  refine concat_meets ⟨_, ho, rfl⟩ ⟨_, ho2, rfl⟩ noFill_list_add seq_list_add PySem.F.slot_list_add PySem.F.entry_list_add (PySem.F.args_list_add_2 _ _) (list_addW l b vs.toArray ws.toArray n n2 dd dd2 sl sl2 (by simp; omega)) ⟨ho, ho2, ?_⟩
  rw [e]
  exact h _ _ (ext_push _) ⟨_, pushed_list _ _, hi.append hj⟩ (get_size_none _)

set_option maxHeartbeats 1000000 in
theorem octets_callF {prog : Program} {w : World} {A : Around} {E : Value → Shared → Prop} {s : Shared} {hp : Heap} {tk : Nat} {mg mb : Str → Option Value} {k : Nat} {n : Int} {t : Tok} {Q : Value → Shared → Prop}
    (G : Gr w mg mb hp) (c : Calm k A) (hk : k ≤ 20) (h0 : 0 ≤ n) (hn : n < 2 ^ 24)
    (h : ∀ a ys h' tk, Ext hp h' → LI h' a ys → Enc ys n → hp.get? a = none → Q (.ref a) (St s h' tk)) :
    wpAny (model prog w) A (call (.ref 55) [.int n t]) Q E (St s hp tk) := by
  refine callFn (binds := [("number", .int n t)]) G.X G.lim c.room rfl rfl rfl (locs rfl) (fun L h₁ tk₁ F _ => ?_)
  refine wpAny_execs_cons (wpAny_Assign_Name (dList (wpAny_items_cons (wpAny_BinOp (nmL F.ns rfl (cInt fun _ _ => oMod (by decide) fun t₁ _ => wpAny_items_nil ⟨small, _, _, rfl, fun a₁ h₂ E₂ hl₂ => ?_⟩))))))
  have F₂ := frx F E₂
  refine stL F₂ (fun h₃ tk₃ F₃ S₃ => ?_)
  refine wpAny_execs_cons (wpAny_While ?_)
  have hl : LI h₃ a₁ [n % 64] := LI.set ⟨_, hl₂, .cons _ t₁ .nil⟩ F₂.ns S₃
  refine codeAny_whileLoop (I := fun j s' => ∃ h' tk m num tn o0 os a, s' = St s h' tk ∧ Fr hp L h' m ∧ m "number" = some (.int num tn) ∧ m "octets" = some (.ref a) ∧
    LI h' a (o0 :: os) ∧ 0 ≤ num ∧ num < 2 ^ 24 ∧ num.toNat = j ∧ o0 % 64 = num % 64 ∧ 0 ≤ o0 ∧ o0 < 128 ∧ Parses num o0 os n ∧ 63 * (os.length : Int) + num ≤ n) ?_ n.toNat
    ⟨_, _, _, n, _, n % 64, [], _, rfl, F₃, rfl, rfl, hl, h0, hn, rfl, by omega, by omega, by omega, .done (by omega) (by omega) (by omega), by simp⟩
  rintro j _ ⟨h', tk, m, num, tn, o0, os, a, rfl, F', hm1, hm2, hL, hn0, hn1, hj, ho1, ho2, ho3, hP, hlen⟩
  refine wpAny_isTrue_Compare1 (nmL F'.ns hm1 (cInt fun _ _ => oGt (wpAny_truthy_bool ?_)))
  split
  · rename_i hgt
    have hgt : num > 63 := of_decide_eq_true hgt
    refine wpAny_execs_cons (wpAny_Assign_Name (wpAny_BinOp (nmL F'.ns hm1 (cInt fun _ _ => oDiv (by decide) (by decide) (by omega) (by omega) fun t₄ _ => stL F' (fun h₄ tk₄ F₄ S₄ => ?_)))))
    refine wpAny_execs_cons (wpAny_Assign_Name (wpAny_BinOp (dList (wpAny_items_cons (wpAny_BinOp (cInt fun _ _ => wpAny_BinOp (nmL F₄.ns upd_self (cInt fun _ _ => oMod (by decide) fun _ _ => oAdd fun t₅ _ => wpAny_items_nil ⟨small, _, _, rfl, fun a₅ h₅ E₅ hl₅ => ?_⟩))))))))
    refine nmL (frx F₄ E₅).ns (upd_ne hm2 (by decide)) (addLI (ns := [64 + num / 64 % 64]) ⟨_, hl₅, .cons _ t₅ .nil⟩ ((hL.set F'.ns S₄).ext E₅) (fun a₆ h₆ E₆ hl₆ => ?_) ?_)
    · have F₆ := frx (frx F₄ E₅) E₆
      refine stL F₆ (fun h₇ tk₇ F₇ S₇ => wpAny_execs_nil ?_)
      refine ⟨(num / 64).toNat, by omega, h₇, _, _, num / 64, _, 64 + num / 64 % 64, o0 :: os, a₆, rfl, F₇, upd_ne upd_self (by decide), upd_self, hl₆.set F₆.ns S₇, by omega, by omega, rfl, by omega, by omega, by omega, ?_, ?_⟩
      · refine .more (by omega) (by omega) (by omega) (by omega) (by omega) ?_
        have : num / 64 * 64 + o0 % 64 = num := by omega
        rw [this]; exact hP
      · simp only [List.length_cons]; omega
    · simp only [List.length_cons, List.length_nil, sizeLine]; omega
  · rename_i hgt
    have hgt : ¬ num > 63 := fun x => hgt (decide_eq_true x)
    refine wpAny_execs_nil ?_
    refine wpAny_execs_cons (wpAny_Return_some (wpAny_BinOp (dList (wpAny_items_cons (wpAny_BinOp (cInt fun _ _ => Subscript_ (nmL F'.ns hm2 (cInt fun _ _ => itemLI hL (by decide) (by decide) rfl fun _ => oAdd fun t₄ _ => wpAny_items_nil ⟨small, _, _, rfl, fun a₄ h₄ E₄ hl₄ => ?_⟩))))))))
    obtain ⟨vs, hL', hi⟩ := hL.ext E₄
    cases hi with
    | cons _ t' hi =>
    rename_i vs
    refine sliceL (nmL (frx F' E₄).ns hm2 (wpAny_evalPart_some (cInt fun _ _ => wpAny_evalPart_none ⟨_, _, _, _, _, _, rfl, rfl, hL', ?_, .int _ _, .none, fun a₅ h₅ E₅ hl₅ => ?_⟩)))
    · simp only [List.size_toArray, List.length_cons, hi.length, sizeLine]; omega
    · have e : slicePick (Value.int o0 t' :: vs).toArray (some 1) none none = vs.toArray := slicePick_from _ 1 (by simp)
      rw [e] at hl₅
      refine addLIF (ns := [128 + o0]) (ms := os) ⟨_, list_ext hl₄ E₅, .cons _ t₄ .nil⟩ ⟨_, hl₅, hi⟩ (fun a₆ h₆ E₆ hl₆ hf₆ => ?_) ?_
      · have hfr : hp.get? a₆ = none := by
          cases hq : hp.get? a₆ with
          | none => rfl
          | some o => rw [E₅ _ _ (E₄ _ _ (F'.keep _ _ hq))] at hf₆; cases hf₆
        refine h _ _ _ _ (fun b o e => E₆ _ _ (E₅ _ _ (E₄ _ _ (F'.keep _ _ e)))) hl₆ ⟨128 + o0, os, rfl, ?_, by omega⟩ hfr
        have : (128 + o0) % 64 = num := by omega
        rw [this]
        exact hP.lift ho3
      · simp only [List.length_cons, List.length_nil, sizeLine]; omega

section
variable {prog : Program} {w : World} {A : Around} {E : Value → Shared → Prop} {s : Shared} {g h : Heap} {tk : Nat} {L fa : Addr} {cd : Value} {mg mb m : Str → Option Value} {Q : Flow → Shared → Prop}
variable {sc za : Addr} {ns sz : List Int} {x : Str}

set_option maxHeartbeats 8000000 in
theorem law3 (G : Gr w mg mb g) (c : Calm 5 A) (hfr : A.frames = some [envOfC "law" (lawScope w) L fa cd]) (F : Fr g L h m) (T : Tab h) (hsc : m "script" = some (.ref sc)) (hns : LI h sc ns) (htx : ∃ t, m "text" = some (.str x t)) (hc1 : h.IsCell (L + 1) (some (.ref za))) (hz : LI h za sz) (hc2 : h.IsCell (L + 2) none)
    (h29 : 29 < L) (hg29 : g.get? 29 = none) (hx : Agree x (startsOf sz)) (hnl : ns.length ≤ 1000) (h0 : 0 < sz.length) (hlen : sz.length ≤ 80) (hsz0 : ∀ a ∈ sz, 0 ≤ a ∧ a ≤ 1000)
    {la : Addr} {ls : List Int} (hla : m "lengths" = some (.ref la)) (hll : LI h la ls) (hlsl : ls.length ≤ 50) (hls0 : ∀ a ∈ ls, 0 ≤ a ∧ a < 2 ^ 24)
    (hQ : ∀ h' tk', Ext g h' → Tab h' → Q (.ret (.bool true)) (St s h' tk')) :
    wpAny (model prog w) A (execs ((lawBody w).drop 3) (envOfC "law" (lawScope w) L fa cd)) Q E (St s h tk) := by
  refine lawMk (P := fun b sc => wpAny (model prog w) A (execs (b.drop 3) (envOfC "law" sc L fa cd)) Q E (St s h tk)) rfl ?_
  have sl : sizeLine = 16777216 := rfl
  have G₁ := G.keeps F.keep
  obtain ⟨vl, hvl, il⟩ := id hll
  have hvn := il.length
  refine wpAny_execs_cons (assignComp rfl rfl (by decide) rfl (by decide) (nmL F.ns hla (iterList c.hh hvl (fun I h₂ hE₂ hI hI2 hsz W hit hl₂ => ⟨I, h₂, _, rfl, rfl, fun h₃ tk₃ Q' E' hE₃ hQ => W.self 0 _ _ _ ⟨let ⟨o, e, r⟩ := hit; ⟨o, hE₃ _ _ e, r⟩, list_ext hl₂ hE₃⟩ hQ, ?_⟩))))
  intro D C h₃ tk₃ hDC hD hC hDs hCs hE₃ hpl hns'
  have hlalt : la < h₂.objs.size := by obtain ⟨o, e, _⟩ := hl₂; exact Heap.lt_size e
  have hDI : D ≠ I := Nat.ne_of_gt (Nat.lt_of_lt_of_le hI2 hDs)
  have hCI : C ≠ I := Nat.ne_of_gt (Nat.lt_of_lt_of_le hI2 hCs)
  have hDla : D ≠ la := Nat.ne_of_gt (Nat.lt_of_lt_of_le hlalt hDs)
  have hCla : C ≠ la := Nat.ne_of_gt (Nat.lt_of_lt_of_le hlalt hCs)
  have hlaI : la ≠ I := by
    rintro rfl
    obtain ⟨o, e, _⟩ := hvl
    rw [hI] at e; cases e
  have hD1 : h.get? D = none := by
    cases hq : h.get? D with
    | none => rfl
    | some o => rw [hE₂ _ _ hq] at hD; cases hD
  have hC1 : h.objs.size ≤ C := Nat.le_trans hsz hCs
  refine codeAny_loop rfl (fun k s' => ∃ i h' tk' mc ys octs, s' = St s h' tk' ∧ i ≤ vl.length ∧ k = vl.length + 1 - i ∧ h'.IsListIter I la i ∧ h'.IsList la vl.toArray ∧ PlainL h' D (ys : List Value).toArray ∧ IntsAre ys octs ∧ Encs octs (ls.take i) ∧ octs.length ≤ i * 270000 ∧ h'.Ns C mc ∧ Ext h h') ?_ (vl.length + 1) ⟨0, h₃, tk₃, _, [], [], rfl, Nat.zero_le _, rfl, (let ⟨o, e, r⟩ := hit; ⟨o, hE₃ _ _ e, r⟩), list_ext hl₂ hE₃, hpl, .nil, by simpa using Encs.nil, by simp, hns', Ext.trans' hE₂ hE₃⟩
  rintro k _ ⟨i, h', tk', mc, ys, octs, rfl, hi, rfl, a1, a2, a3, a4, a5, a6, a7, a8⟩
  show wpAny _ A ((compTurn _ 0 (.ref I) (.ref D) _).onRaise (fun x => do noteFrame x _; theTreesLotGoes x)) _ _ _
  refine wpAny_noted ?_
  rw [compTurn2_0]
  refine wpAny_bind (wpAny_standAt (wpAny_bind ?_))
  by_cases hlt : i < vl.length
  · refine wpAny_pyNext_list_item a1 a2 (x := vl[i]) (by simp [hlt]) (fun h₄ hit₄ S₄ => ?_)
    obtain ⟨n, tn, en, ev⟩ := ints_at il (List.getElem?_eq_getElem hlt)
    rw [ev]
    have hnb := hls0 n (List.mem_of_getElem? en)
    have F₄ : Fr h C h₄ mc := ⟨a7.sameBut S₄ hCI, fun b o e => S₄.extBut _ _ (by rintro rfl; rw [hI] at e; cases e) (a8 b o e), hC1⟩
    refine wpAny_bind (wpAny_pure (wpAny_bind (wpAny_assign_Name (stL F₄ (fun h₅ tk₅ F₅ S₅ => ?_)))))
    have G₅ := G₁.keeps F₅.keep
    refine wpAny_bind (wpAny_Call_NameR (nmG G₅ rfl (callWith_K G₅.X rfl (args_cons (nmL F₅.ns upd_self (args_nil ⟨G₅.X, octets_callF G₅ c (by decide) hnb.1 hnb.2 (fun l2 zs h₆ tk₆ E₆ hl₆ he hl2n => ?_)⟩))))))
    obtain ⟨ws, hws, iw⟩ := hl₆
    have hwl := iw.length
    have hzl := he.len hnb.2
    refine wpAny_bind (wpAny_standAt (wpAny_bind (wpAny_of_eq rfl (wpAny_bind (wpAny_holding (wpAny_pyIter_list (s := St s h₆ tk₆) hws ?_))))))
    have hD₅ : PlainL h₅ D ys.toArray := plain_set (a3.extBut S₄.extBut hDI) F₄.ns S₅
    have F₅ns : h₅.Ns C (upd mc "length" (.int n tn)) := F₅.ns
    have hDlt : D < h₅.objs.size := by obtain ⟨o, n, e, _⟩ := hD₅; exact Heap.lt_size e
    have hClt : C < h₅.objs.size := by obtain ⟨o, es, ep, e, _⟩ := F₅.ns; exact Heap.lt_size e
    have hDl2 : D ≠ l2 := by rintro rfl; obtain ⟨o, n, e, _⟩ := hD₅; rw [hl2n] at e; cases e
    have hCl2 : C ≠ l2 := by rintro rfl; obtain ⟨o, es, ep, e, _⟩ := F₅ns; rw [hl2n] at e; cases e
    have e6D : D < h₆.objs.size := by obtain ⟨o, n, e, _⟩ := hD₅; exact Heap.lt_size (E₆ _ _ e)
    have e6C : C < h₆.objs.size := by obtain ⟨o, es, ep, e, _⟩ := F₅.ns; exact Heap.lt_size (E₆ _ _ e)
    have hl2lt : l2 < h₆.objs.size := by obtain ⟨o, e, _⟩ := hws; exact Heap.lt_size e
    have E67 : Ext h₆ (h₆.push { cls := .type "list_iterator", data := .fields #[.ref l2, .int 0 0] }) := ext_push _
    have E57 := Ext.trans' E₆ E67
    have h2I : (h₆.push { cls := .type "list_iterator", data := .fields #[.ref l2, .int 0 0] }).IsListIter h₆.objs.size l2 0 := ⟨_, Heap.get?_push_size _ rfl, rfl, rfl⟩
    have hIn : h.get? h₆.objs.size = none := by
      cases hq : h.get? h₆.objs.size with
      | none => rfl
      | some o => exact absurd (Heap.lt_size (E₆ _ _ (F₅.keep _ _ hq))) (Nat.lt_irrefl _)
    have hyl := a4.length
    have hyl2 : ys.length + ws.length ≤ sizeLine := by omega
    refine wpAny_bind (wpAny_runOwn ?_)
    rw [Around.mark_none]
    refine compStart2 (comp2Inner c.hh rfl rfl (by decide) h2I (list_ext hws E67) (Nat.ne_of_lt hl2lt) (hD₅.keeps E57) (F₅ns.keeps E57) hDC (Nat.ne_of_lt e6D) hDl2 (Nat.ne_of_lt e6C) hCl2 (Ext.trans' F₅.keep E57) hD1 hC1 hIn hyl2 ?_) (wpAny_pyIter_listiter h2I (comp2Inner c.hh rfl rfl (by decide) h2I (list_ext hws E67) (Nat.ne_of_lt hl2lt) (hD₅.keeps E57) (F₅ns.keeps E57) hDC (Nat.ne_of_lt e6D) hDl2 (Nat.ne_of_lt e6C) hCl2 (Ext.trans' F₅.keep E57) hD1 hC1 hIn hyl2 ?_))
    all_goals
      intro h₈ tk₈ m₈ E₈ hD₈ hC₈ k₈
      have kI : ∀ {q : Addr} {o : Obj}, q ≠ D → q ≠ C → h₅.get? q = some o → h₈.get? q = some o := fun n1 n2 e => k₈ _ _ (Nat.ne_of_lt (Heap.lt_size (E₆ _ _ e))) n1 n2 (E57 _ _ e)
      have hi5 : h₅.IsListIter I la (i + 1) := let ⟨o, e, r⟩ := hit₄; ⟨o, S₅.extBut _ _ (Ne.symm hCI) e, r⟩
      have hl5 : h₅.IsList la vl.toArray := let ⟨o, e, r⟩ := a2; ⟨o, S₅.extBut _ _ (Ne.symm hCla) (S₄.extBut _ _ hlaI e), r⟩
      have ht : ls.take (i + 1) = ls.take i ++ [n] := by rw [List.take_add_one, en]; rfl
      refine wpAny_pure ⟨rfl, vl.length + 1 - (i + 1), by omega, i + 1, h₈, tk₈, m₈, ys ++ ws, octs ++ zs, rfl, hlt, rfl, ?_, ?_, hD₈, a4.append iw, ?_, ?_, hC₈, E₈⟩
      · obtain ⟨o, e, r⟩ := hi5; exact ⟨o, kI (Ne.symm hDI) (Ne.symm hCI) e, r⟩
      · obtain ⟨o, e, r⟩ := hl5; exact ⟨o, kI (Ne.symm hDla) (Ne.symm hCla) e, r⟩
      · rw [ht]; exact a5.snoc he
      · rw [List.length_append]; omega
  · have hin : i = vl.length := by omega
    subst hin
    refine wpAny_pyNext_list_end c.hh a1 a2 (by simp) (fun h₄ x₄ => wpAny_pure ?_)
    have E₄ : Ext h h₄ := fun b o e => x₄ _ _ (by rintro rfl; rw [hI] at e; cases e) (a8 b o e)
    have hD₄ : PlainL h₄ D ys.toArray := a3.extBut x₄ hDI
    have hC₄ : h₄.Ns C mc := let ⟨o, es, ep, e, r⟩ := a7; ⟨o, es, ep, x₄ _ _ hCI e, r⟩
    rw [List.take_of_length_le (by omega)] at a5
    have hCL : C ≠ L := by
      rintro rfl
      obtain ⟨o, es, ep, q, _⟩ := F.ns
      exact absurd (Nat.lt_of_lt_of_le (Heap.lt_size q) hC1) (Nat.lt_irrefl _)
    refine ⟨h₄, tk', rfl, rfl, stL (frx F E₄) (fun h₅ tk₅ F₅ S₅ => ⟨h₅, tk₅, mc, rfl, hC₄.sameBut S₅ hCL, fun h₆ S₆ => ?_⟩)⟩
    have hnC₂ := hC₄.sameBut S₅ hCL
    have F₆ : Fr g L h₆ (upd m "octets" (.ref D)) := ⟨F₅.ns.sameBut S₆ (Ne.symm hCL), fun b o q => S₆.extBut b o (Nat.ne_of_lt (Nat.lt_of_lt_of_le (Heap.lt_size (F.keep b o q)) hC1)) (F₅.keep b o q), F₅.above⟩
    have up : ∀ {a ns}, LI h a ns → LI h₆ a ns := fun x => ((x.ext E₄).set (frx F E₄).ns S₅).set hnC₂ S₆
    have T₆ : Tab h₆ := ((T.ext E₄).set (frx F E₄).ns S₅).set hnC₂ S₆
    have cu : ∀ {c v}, h.IsCell c v → h₆.IsCell c v := fun x => cell_set (cell_set (cell_ext x E₄) (frx F E₄).ns S₅) hnC₂ S₆
    exact law4 G c hfr F₆ T₆ (upd_ne hsc (by decide)) (up hns) (let ⟨t, e⟩ := htx; ⟨t, upd_ne e (by decide)⟩) (cu hc1) (up hz) (cu hc2) h29 hg29 hx hnl h0 hlen hsz0 upd_self ⟨ys, list_set (list_set hD₄.isList (frx F E₄).ns S₅) hnC₂ S₆, a4⟩ (upd_ne hla (by decide)) (up hll) a5 (by omega) hQ
end
end Mine

end TxtL33

section TxtL34
open PySem PySem.W PyProof.Rows PySem.Calls
open PyProof.Rows.TI (gone gone_get gone_none gone_some)
namespace Mine

theorem paired_map {f : Int → Int} {vs ys : List Value} {ns : List Int} (hi : IntsAre vs ns) (h : Paired (fun v y => ∃ t, y = .int (f (intIn v)) t) vs ys) : IntsAre ys (ns.map f) := by
  induction hi generalizing ys with
  | nil => cases h; exact .nil
  | cons n t _ ih =>
    cases h with
    | cons e h =>
      obtain ⟨u, rfl⟩ := e
      exact .cons _ u (ih h)

section
variable {prog : Program} {w : World} {A : Around} {E : Value → Shared → Prop} {s : Shared} {g h : Heap} {tk : Nat} {L fa : Addr} {cd : Value} {mg mb m : Str → Option Value} {Q : Flow → Shared → Prop}
variable {sc za : Addr} {ns sz : List Int} {x : Str}

set_option maxHeartbeats 8000000 in
theorem law2 (G : Gr w mg mb g) (c : Calm 5 A) (hfr : A.frames = some [envOfC "law" (lawScope w) L fa cd]) (F : Fr g L h m) (T : Tab h) (hsc : m "script" = some (.ref sc)) (hns : LI h sc ns) (htx : ∃ t, m "text" = some (.str x t)) (hc1 : h.IsCell (L + 1) (some (.ref za))) (hz : LI h za sz) (hc2 : h.IsCell (L + 2) none)
    (h29 : 29 < L) (hg29 : g.get? 29 = none) (hx : Agree x (startsOf sz)) (hnl : ns.length ≤ 1000) (h0 : 0 < sz.length) (hlen : sz.length ≤ 40) (hsz0 : ∀ a ∈ sz, 0 ≤ a ∧ a ≤ 1000)
    (hQ : ∀ h' tk', Ext g h' → Tab h' → Q (.ret (.bool true)) (St s h' tk')) :
    wpAny (model prog w) A (execs ((lawBody w).drop 2) (envOfC "law" (lawScope w) L fa cd)) Q E (St s h tk) := by
  refine lawMk (P := fun b sc => wpAny (model prog w) A (execs (b.drop 2) (envOfC "law" sc L fa cd)) Q E (St s h tk)) rfl ?_
  have sl : sizeLine = 16777216 := rfl
  obtain ⟨vz, hvz, iz⟩ := id hz
  have hvl := iz.length
  refine wpAny_execs_cons (wpAny_Assign_Name (wpAny_BinOp (compList c.hh rfl (by decide) rfl (by decide) rfl (sliceL (nmC rfl hc1 (wpAny_evalPart_none (wpAny_evalPart_some (wpAny_UnaryOp (cInt fun _ _ => oNeg fun _ _ => ⟨za, vz.toArray, none, some (-1), h, _, rfl, rfl, hvz, by simp; omega, .none, .int _ _, fun a₁ h₁ E₁ hl₁ => ?_⟩)))))))))
  have e := slicePick_butLast vz.toArray 1 (by decide)
  rw [show (-((1 : Nat) : Int)) = -1 by decide] at e
  rw [e] at hl₁
  have hl₁' : h₁.IsList a₁ (vz.take (vz.length - 1)).toArray := by simpa using hl₁
  have iz' := iz.take (vz.length - 1)
  refine ⟨a₁, h₁, _, vz.take (vz.length - 1), fun _ => true, fun v y => ∃ t, y = .int (intIn v + 1) t, rfl, rfl, hl₁', by rw [List.length_take]; omega, ⟨?_, ?_⟩, ?_⟩
  · intro C h₃ tk₃ m₃ v Q' E' hv hn hm hE hC hQ
    exact wpAny_pure (hQ _)
  · intro C h₃ tk₃ m₃ v Q' E' hv hpv hn hm hE hC hQ
    obtain ⟨n, tn, rfl⟩ := ints_mem iz' v hv
    exact wpAny_BinOp (nmL hn hm (cInt fun _ _ => oAdd fun t _ => hQ _ _ _ ⟨t, rfl⟩ Ext.rfl'))
  intro D h₂ tk₂ ys E₂ hD hD1 hP
  rw [filter_all] at hP
  have iy := paired_map (f := fun a => a + 1) iz' hP
  refine dList (wpAny_items_cons (cInt fun t₁ _ => wpAny_items_cons (cInt fun t₂ _ => wpAny_items_nil ⟨small, _, _, rfl, fun a₃ h₃ E₃ hl₃ => ?_⟩)))
  refine addLI (ns := (sz.take (vz.length - 1)).map fun a => a + 1) ⟨ys, list_ext hD.isList E₃, iy⟩ ⟨_, hl₃, .cons 4096 t₁ (.cons 5000000 t₂ .nil)⟩ (fun a₄ h₄ E₄ hl₄ => ?_) (by simp only [List.length_map, List.length_take, List.length_cons, List.length_nil]; omega)
  have E14 := Ext.trans' E₁ (Ext.trans' E₂ (Ext.trans' E₃ E₄))
  refine stL (frx F E14) (fun h₅ tk₅ F₅ S₅ => ?_)
  have up : ∀ {a ns}, LI h a ns → LI h₅ a ns := fun x => (x.ext E14).set (frx F E14).ns S₅
  have T₅ : Tab h₅ := (T.ext E14).set (frx F E14).ns S₅
  have cu : ∀ {c v}, h.IsCell c v → h₅.IsCell c v := fun x => cell_set (cell_ext x E14) (frx F E14).ns S₅
  refine law3 G c hfr F₅ T₅ (upd_ne hsc (by decide)) (up hns) (let ⟨t, e⟩ := htx; ⟨t, upd_ne e (by decide)⟩) (cu hc1) (up hz) (cu hc2) h29 hg29 hx hnl h0 (by omega) hsz0 upd_self (hl₄.set (frx F E14).ns S₅) (by simp only [List.length_append, List.length_map, List.length_take, List.length_cons, List.length_nil]; omega) ?_ hQ
  intro a ha
  rcases List.mem_append.mp ha with ha | ha
  · obtain ⟨b, hb, rfl⟩ := List.mem_map.mp ha
    have := hsz0 b (List.mem_of_mem_take hb)
    omega
  · simp only [List.mem_cons, List.not_mem_nil, or_false] at ha
    omega
end
end Mine

end TxtL34

section TxtL35
open PySem PySem.W PyProof.Rows PySem.Calls PySem.Builtin PySem.Builtin.Str
open PyProof.Rows.TI (gone gone_get gone_none gone_some)
namespace Mine

/-- the signs of a line, by tens -/
def patL : Str := "aaaa\ta\r\x0c\u2028a"
def lineOf (n : Nat) : Str := Txt.join "" ((List.range n).map fun (k : Nat) => Txt.item patL ((k : Int) % 10))
def textOf (sz : List Int) : Str := Txt.join "\n" (sz.map fun a => lineOf a.toNat)

theorem strs_of {ys : List Value} {f : Nat → Str} (h : ∀ (j : Nat) y, ys[j]? = some y → ∃ t, y = .str (f j) t) : ∃ l : List (Str × Tok), ys = strValues l ∧ l.map (·.1) = (List.range ys.length).map f := by
  have key : ∀ (ys : List Value) (k : Nat), (∀ (j : Nat) y, ys[j]? = some y → ∃ t, y = .str (f (k + j)) t) → ∃ l : List (Str × Tok), ys = strValues l ∧ l.map (·.1) = (List.range ys.length).map (fun j => f (k + j)) := by
    intro ys
    induction ys with
    | nil => intro k _; exact ⟨[], rfl, rfl⟩
    | cons y ys ih =>
      intro k h
      obtain ⟨t, rfl⟩ := h 0 y rfl
      obtain ⟨l, e1, e2⟩ := ih (k + 1) (fun j y' e => by
        obtain ⟨t, e'⟩ := h (j + 1) y' (by simpa using e)
        exact ⟨t, by rw [e', show k + (j + 1) = k + 1 + j by omega]⟩)
      refine ⟨(f k, t) :: l, by rw [e1]; rfl, ?_⟩
      rw [List.map_cons, e2, List.length_cons, List.range_succ_eq_map, List.map_cons, List.map_map]
      congr 1
      apply List.map_congr_left
      intro j _
      show f (k + 1 + j) = f (k + (j + 1))
      rw [show k + 1 + j = k + (j + 1) by omega]
  obtain ⟨l, e1, e2⟩ := key ys 0 (fun j y e => by rw [Nat.zero_add]; exact h j y e)
  exact ⟨l, e1, by rw [e2]; simp⟩

theorem joinOk_small {sep : Str} {texts : List Str} {B : Nat} (hB : ∀ x ∈ texts, x.length ≤ B) (hb : texts.length * (B + sep.length) ≤ 1000000) : JoinOk sep texts = true := by
  have key : ∀ (l : List Str) (a : Nat), (∀ x ∈ l, x.length ≤ B) → l.foldl (· + ·.length + sep.length) a ≤ a + l.length * (B + sep.length) := by
    intro l
    induction l with
    | nil => intro a _; simp
    | cons x l ih =>
      intro a h
      have h1 := ih (a + x.length + sep.length) (fun y hy => h y (List.mem_cons_of_mem _ hy))
      have h2 := h x List.mem_cons_self
      rw [List.foldl_cons, List.length_cons, Nat.succ_mul]
      omega
  have h1 := key texts 0 hB
  have sl : sizeLine = 16777216 := rfl
  unfold JoinOk tooLong
  simp
  omega

theorem item_len (x : Str) (i : Int) : (Txt.item x i).length = 1 := rfl

theorem paired_strs {f : Int → Str} {vs ys : List Value} {ns : List Int} (hi : IntsAre vs ns) (h : Paired (fun v y => ∃ t, y = .str (f (intIn v)) t) vs ys) : ∃ l : List (Str × Tok), ys = strValues l ∧ l.map (·.1) = ns.map f := by
  induction hi generalizing ys with
  | nil => cases h; exact ⟨[], rfl, rfl⟩
  | cons n t _ ih =>
    cases h with
    | cons e h =>
      obtain ⟨u, rfl⟩ := e
      obtain ⟨l, e1, e2⟩ := ih h
      exact ⟨(f n, u) :: l, by rw [e1]; rfl, by rw [List.map_cons, e2]; rfl⟩

section
variable {prog : Program} {w : World} {A : Around} {E : Value → Shared → Prop} {s : Shared} {g h : Heap} {tk : Nat} {L fa : Addr} {cd : Value} {mg mb m : Str → Option Value} {Q : Flow → Shared → Prop}
variable {sc za : Addr} {ns sz : List Int}

set_option maxHeartbeats 8000000 in
theorem law1 (G : Gr w mg mb g) (c : Calm 5 A) (hfr : A.frames = some [envOfC "law" (lawScope w) L fa cd]) (F : Fr g L h m) (T : Tab h) (hsc : m "script" = some (.ref sc)) (hns : LI h sc ns) (hc1 : h.IsCell (L + 1) (some (.ref za))) (hz : LI h za sz) (hc2 : h.IsCell (L + 2) none)
    (h29 : 29 < L) (hg29 : g.get? 29 = none) (hx : Agree (textOf sz) (startsOf sz)) (hnl : ns.length ≤ 1000) (h0 : 0 < sz.length) (hlen : sz.length ≤ 40) (hsz0 : ∀ a ∈ sz, 0 ≤ a ∧ a ≤ 1000) (hline : ∀ n, (lineOf n).length ≤ n)
    (hQ : ∀ h' tk', Ext g h' → Tab h' → Q (.ret (.bool true)) (St s h' tk')) :
    wpAny (model prog w) A (execs ((lawBody w).drop 1) (envOfC "law" (lawScope w) L fa cd)) Q E (St s h tk) := by
  refine lawMk (P := fun b sc => wpAny (model prog w) A (execs (b.drop 1) (envOfC "law" sc L fa cd)) Q E (St s h tk)) rfl ?_
  have sl : sizeLine = 16777216 := rfl
  have G₁ := G.keeps F.keep
  obtain ⟨vz, hvz, iz⟩ := id hz
  have hvl := iz.length
  have hpl : patL.length = 10 := by decide +kernel
  refine wpAny_execs_cons (wpAny_Assign_Name (MethodCall_ (cStr fun t₁ _ => GM.join (callWith_method1 (args_cons ?_)))))
  refine compList c.hh rfl (by decide) rfl (by decide) rfl (nmC rfl hc1 ⟨za, h, _, vz, fun _ => true, fun v y => ∃ t, y = .str (lineOf (intIn v).toNat) t, rfl, rfl, hvz, by omega, ⟨?_, ?_⟩, ?_⟩)
  · intro C h₃ tk₃ m₃ v Q' E' hv hn hm hE hC hQ
    exact wpAny_pure (hQ _)
  · intro C h₃ tk₃ m₃ v Q' E' hv hpv hn hm hE hC hQ'
    obtain ⟨n, tn, rfl⟩ := ints_mem iz v hv
    have hnb : 0 ≤ n ∧ n ≤ 1000 := by
      obtain ⟨i, hi, e⟩ := List.getElem_of_mem hv
      obtain ⟨n', t', e1, e2⟩ := ints_at iz (List.getElem?_eq_getElem hi)
      rw [e] at e2; cases e2
      exact hsz0 _ (List.mem_of_getElem? e1)
    obtain ⟨k, rfl⟩ := Int.eq_ofNat_of_zero_le hnb.1
    have G₃ := G₁.keeps hE
    refine MethodCall_ (cStr fun t₂ tk₂ => GM.join (callWith_method1 (args_cons ?_)))
    refine compRange (n := k) (F := fun i y => ∃ t, y = .str (Txt.item patL ((i : Int) % 10)) t) c.hh rfl (by decide) rfl (by decide) rfl (by omega) ?_ ?_ ?_
    · intro Q₄ kk
      exact wpAny_Call_NameR (nmB G₃ rfl boot_range (by decide) (PyProof.Rows.callWith_type1 (args_cons (nmL hn hm (args_nil (kk _ _))))))
    · rintro C' i v h₄ tk₄ m₄ Q₄ E₄ hi ⟨tv, rfl⟩ hn' hm' hE' hC' hQ₄
      refine Subscript_ (cStr fun t₄ _ => wpAny_BinOp (nmL hn' hm' (cInt fun _ _ => oMod (by decide) fun t₅ tk₅ => ?_)))
      have hm10 : 0 ≤ (i : Int) % 10 ∧ (i : Int) % 10 < 10 := by omega
      refine item_str_or c.hh ?_ ?_ ?_
      · unfold fitsSsize; simp; omega
      · intro hbad
        exfalso
        have hpl' : ((Str.ofString "aaaa\ta\r\x0c\u2028a").length : Int) = 10 := by
          have : (Str.ofString "aaaa\ta\r\x0c\u2028a").length = 10 := hpl
          omega
        rw [hpl'] at hbad
        omega
      · intro _ _
        exact hQ₄ _ _ _ ⟨_, rfl⟩ Ext.rfl'
    · intro D h₄ tk₄ ys E₄ hD hD1 hyl hyF
      obtain ⟨l, e1, e2⟩ := strs_of hyF
      rw [hyl] at e2
      rw [e1] at hD
      refine args_nil (SC.join (s := St s h₄ tk₄) hD.isList e2 (joinOk_small (B := 1) ?_ ?_) (fun t' tk' => hQ' _ _ _ ⟨t', rfl⟩ E₄))
      · intro y hy
        obtain ⟨j, _, rfl⟩ := List.mem_map.mp hy
        exact Nat.le_of_eq (item_len _ _)
      · simp only [List.length_map, List.length_range]; show k * (1 + 0) ≤ _; omega
  · intro D h₂ tk₂ ys E₂ hD hD1 hP
    rw [filter_all] at hP
    obtain ⟨l, e1, e2⟩ := paired_strs (f := fun a => lineOf a.toNat) iz hP
    rw [e1] at hD
    have l1 : (Str.ofString "\n").length = 1 := by decide +kernel
    refine args_nil (SC.join (s := St s h₂ tk₂) hD.isList e2 (joinOk_small (B := 1000) ?_ ?_) (fun t' tk' => ?_))
    · intro y hy
      obtain ⟨a, ha, rfl⟩ := List.mem_map.mp hy
      have h1 := hline a.toNat
      have h2 := hsz0 a ha
      omega
    · rw [List.length_map, l1]; omega
    refine stL (frx F E₂) (fun h₅ tk₅ F₅ S₅ => ?_)
    have up : ∀ {a ns}, LI h a ns → LI h₅ a ns := fun x => (x.ext E₂).set (frx F E₂).ns S₅
    have T₅ : Tab h₅ := (T.ext E₂).set (frx F E₂).ns S₅
    have cu : ∀ {c v}, h.IsCell c v → h₅.IsCell c v := fun x => cell_set (cell_ext x E₂) (frx F E₂).ns S₅
    exact law2 G c hfr F₅ T₅ (upd_ne hsc (by decide)) (up hns) ⟨_, upd_self⟩ (cu hc1) (up hz) (cu hc2) h29 hg29 hx hnl h0 hlen hsz0 hQ
end
end Mine

end TxtL35

section TxtP2
open PySem PySem.W PyProof.Rows PySem.Calls PySem.Builtin PySem.Builtin.Str
namespace Mine

def TT : List (List Nat) → List Nat
  | [] => []
  | [l] => l
  | l :: r :: rest => l ++ 10 :: TT (r :: rest)
def SS (lines : List (List Nat)) (i : Nat) : Nat := ((lines.take i).map List.length).sum + i
theorem SS_zero (lines : List (List Nat)) : SS lines 0 = 0 := by simp [SS]
theorem SS_succ (l : List Nat) (rest : List (List Nat)) (i : Nat) : SS (l :: rest) (i + 1) = l.length + 1 + SS rest i := by
  unfold SS; rw [List.take_succ_cons, List.map_cons, List.sum_cons]; omega
theorem count_none {l : List Nat} (h : 10 ∉ l) : l.count 10 = 0 := List.count_eq_zero.mpr h

/-- the line of a place, and where it begins -/
structure LineAt (lines : List (List Nat)) (p c : Nat) : Prop where
  cnt : ((TT lines).take p).count 10 = c
  lt : c < lines.length
  from' : SS lines c ≤ p
  upto : c + 1 < lines.length → p < SS lines (c + 1)
  nl : 0 < c → 0 < SS lines c ∧ (TT lines)[SS lines c - 1]? = some 10
  clear : ∀ k, SS lines c ≤ k → k < p → (TT lines)[k]? ≠ some 10

theorem line_first {l : List Nat} {rest : List (List Nat)} {p : Nat} (hl : 10 ∉ l) (hp : p ≤ l.length) (pre : ∀ k, k < p → (TT (l :: rest))[k]? = l[k]?) (tk : (TT (l :: rest)).take p = l.take p) : LineAt (l :: rest) p 0 where
  cnt := by rw [tk]; exact count_none fun h => hl (List.mem_of_mem_take h)
  lt := by simp
  from' := by rw [SS_zero]; exact Nat.zero_le _
  upto := fun _ => by rw [SS_succ, SS_zero]; omega
  nl := fun h => absurd h (Nat.lt_irrefl _)
  clear := fun k _ hk e => by
    rw [pre k hk] at e
    exact hl (List.mem_of_getElem? e)

theorem line_at : ∀ (lines : List (List Nat)), (∀ l ∈ lines, 10 ∉ l) → lines ≠ [] → ∀ p, p ≤ (TT lines).length → ∃ c, LineAt lines p c
  | [], _, h, _, _ => absurd rfl h
  | [l], hl, _, p, hp => ⟨0, line_first (hl l List.mem_cons_self) hp (fun _ _ => rfl) rfl⟩
  | l :: r :: rest, hl, _, p, hp => by
    have hl0 := hl l List.mem_cons_self
    have e : TT (l :: r :: rest) = l ++ 10 :: TT (r :: rest) := rfl
    by_cases hpl : p ≤ l.length
    · refine ⟨0, line_first hl0 hpl (fun k hk => ?_) ?_⟩
      · rw [e, List.getElem?_append_left (by omega)]
      · rw [e, List.take_append_of_le_length hpl]
    · obtain ⟨q, rfl⟩ : ∃ q, p = l.length + 1 + q := ⟨p - (l.length + 1), by omega⟩
      have hq : q ≤ (TT (r :: rest)).length := by rw [e, List.length_append, List.length_cons] at hp; omega
      obtain ⟨c, X⟩ := line_at (r :: rest) (fun l' h' => hl l' (List.mem_cons_of_mem _ h')) (by simp) q hq
      have shift : ∀ k, (TT (l :: r :: rest))[l.length + 1 + k]? = (TT (r :: rest))[k]? := by
        intro k
        rw [e, List.getElem?_append_right (by omega), show l.length + 1 + k - l.length = k + 1 by omega, List.getElem?_cons_succ]
      refine ⟨c + 1, ⟨?_, ?_, ?_, ?_, ?_, ?_⟩⟩
      · rw [e, show l.length + 1 + q = l.length + (1 + q) by omega, List.take_length_add_append, show 1 + q = q + 1 by omega, List.take_succ_cons, List.count_append, count_none hl0, List.count_cons_self, X.cnt]; omega
      · have := X.lt; simp only [List.length_cons] at this ⊢; omega
      · rw [SS_succ]; have := X.from'; omega
      · intro h
        have := X.upto (by simp only [List.length_cons] at h ⊢; omega)
        rw [SS_succ]; omega
      · intro _
        rw [SS_succ]
        refine ⟨by omega, ?_⟩
        by_cases hc : 0 < c
        · obtain ⟨h1, h2⟩ := X.nl hc
          rw [show l.length + 1 + SS (r :: rest) c - 1 = l.length + 1 + (SS (r :: rest) c - 1) by omega, shift]; exact h2
        · have : c = 0 := by omega
          subst this
          rw [SS_zero, show l.length + 1 + 0 - 1 = l.length by omega, e, List.getElem?_append_right (Nat.le_refl _)]; simp
      · intro k hk hkp
        rw [SS_succ] at hk
        obtain ⟨j, rfl⟩ : ∃ j, k = l.length + 1 + j := ⟨k - (l.length + 1), by omega⟩
        rw [shift]
        exact X.clear j (by omega) (by omega)

theorem filter_count {p : Int} : ∀ {st : List Int} {c : Nat}, st.Pairwise (· < ·) → (hc : c < st.length) → st[c] ≤ p → (∀ h : c + 1 < st.length, p < st[c + 1]) → (st.filter (fun x => decide (x ≤ p))).length = c + 1
  | [], c, _, hc, _, _ => by simp at hc
  | a :: st, c, hs, hc, h1, h2 => by
    rw [List.pairwise_cons] at hs
    cases c with
    | zero =>
      simp at h1
      rw [List.filter_cons_of_pos (by simpa using h1)]
      have : st.filter (fun x => decide (x ≤ p)) = [] := by
        rw [List.filter_eq_nil_iff]
        intro b hb
        obtain ⟨j, hj, rfl⟩ := List.getElem_of_mem hb
        have h3 := h2 (by simp; omega)
        simp at h3
        have : st[0]'(by omega) ≤ st[j] := by
          by_cases hj0 : j = 0
          · subst hj0; exact Int.le_refl _
          · exact Int.le_of_lt (List.pairwise_iff_getElem.mp hs.2 0 j (by omega) hj (by omega))
        simp; omega
      rw [this]; rfl
    | succ c =>
      have hc' : c < st.length := by simpa using hc
      have h1' : st[c] ≤ p := by simpa using h1
      have ha : a ≤ p := by have := hs.1 _ (List.getElem_mem hc'); omega
      rw [List.filter_cons_of_pos (by simpa using ha), List.length_cons, filter_count hs.2 hc' h1' (fun h => by have := h2 (by simpa using h); simpa using this)]
end Mine

end TxtP2

section TxtP3
open PySem PySem.W PyProof.Rows PySem.Calls PySem.Builtin PySem.Builtin.Str
namespace Mine

theorem cps_append (a b : Str) : (a ++ b).cps.toList = a.cps.toList ++ b.cps.toList := by
  show (a.cps ++ b.cps).toList = _
  simp
theorem join_empty : ∀ (xs : List Str), (Str.join "" xs).cps.toList = (xs.map fun x => x.cps.toList).flatten
  | [] => rfl
  | [x] => by simp [Str.join]
  | x :: y :: rest => by
    have e : Str.join "" (x :: y :: rest) = x ++ "" ++ Str.join "" (y :: rest) := rfl
    have e0 : (Str.ofString "").cps.toList = [] := by decide +kernel
    rw [e, cps_append, cps_append, join_empty (y :: rest), e0]; simp
theorem join_nl : ∀ (xs : List Str), (Str.join "\n" xs).cps.toList = TT (xs.map fun x => x.cps.toList)
  | [] => rfl
  | [x] => rfl
  | x :: y :: rest => by
    have e : Str.join "\n" (x :: y :: rest) = x ++ "\n" ++ Str.join "\n" (y :: rest) := rfl
    have e0 : (Str.ofString "\n").cps.toList = [10] := by decide +kernel
    rw [e, cps_append, cps_append, join_nl (y :: rest), e0]; simp [TT]
theorem text_cps (sz : List Int) : (textOf sz).cps.toList = TT (sz.map fun a => (lineOf a.toNat).cps.toList) := by
  unfold textOf Txt.join
  rw [StrLaws.glued_eq_join, join_nl, List.map_map]; rfl
theorem line_cps (n : Nat) : (lineOf n).cps.toList = (List.range n).map fun (k : Nat) => (Txt.charAt patL ((k : Int) % 10)).getD 0 := by
  unfold lineOf Txt.join
  rw [StrLaws.glued_eq_join, join_empty, List.map_map]
  have : ((fun x : Str => x.cps.toList) ∘ fun (k : Nat) => Txt.item patL ((k : Int) % 10)) = fun (k : Nat) => [(Txt.charAt patL ((k : Int) % 10)).getD 0] := by
    funext k; rfl
  rw [this]
  induction List.range n with
  | nil => rfl
  | cons a l ih => simp [ih]
theorem sign_ne (k : Nat) : (Txt.charAt patL ((k : Int) % 10)).getD 0 ≠ 10 := by
  have h : (k : Int) % 10 = 0 ∨ (k : Int) % 10 = 1 ∨ (k : Int) % 10 = 2 ∨ (k : Int) % 10 = 3 ∨ (k : Int) % 10 = 4 ∨ (k : Int) % 10 = 5 ∨ (k : Int) % 10 = 6 ∨ (k : Int) % 10 = 7 ∨ (k : Int) % 10 = 8 ∨ (k : Int) % 10 = 9 := by omega
  rcases h with h | h | h | h | h | h | h | h | h | h <;> rw [h] <;> decide +kernel
theorem line_clear (n : Nat) : 10 ∉ (lineOf n).cps.toList := by
  rw [line_cps]
  intro h
  obtain ⟨k, _, e⟩ := List.mem_map.mp h
  exact sign_ne k e
theorem line_len (n : Nat) : (lineOf n).cps.toList.length = n := by rw [line_cps]; simp
theorem str_len (x : Str) : x.length = x.cps.toList.length := by simp [Str.length]

/-- the lines of a script -/
def linesOf (sz : List Int) : List (List Nat) := sz.map fun a => (lineOf a.toNat).cps.toList
theorem lines_SS {sz : List Int} (h : ∀ a ∈ sz, 0 ≤ a ∧ a ≤ 1000) : ∀ i, i ≤ sz.length → ((SS (linesOf sz) i : Nat) : Int) = (sz.take i).sum + (i : Int) := by
  intro i
  induction i with
  | zero => intro _; simp [SS]
  | succ i ih =>
    intro hi
    have hi' : i < sz.length := by omega
    have e1 := ih (by omega)
    rw [take_sum_succ sz i hi']
    have e2 : (linesOf sz).take (i + 1) = (linesOf sz).take i ++ [(lineOf sz[i].toNat).cps.toList] := by
      rw [List.take_add_one]; unfold linesOf; rw [List.getElem?_map, List.getElem?_eq_getElem hi']; rfl
    unfold SS at e1 ⊢
    rw [e2, List.map_append, List.sum_append]
    simp only [List.map_cons, List.map_nil, List.sum_cons, List.sum_nil, line_len]
    have := h _ (List.getElem_mem hi')
    omega
theorem TT_len : ∀ (lines : List (List Nat)), lines ≠ [] → (TT lines).length + 1 = SS lines lines.length
  | [], h => absurd rfl h
  | [l], _ => by simp [TT, SS]
  | l :: r :: rest, _ => by
    have e : TT (l :: r :: rest) = l ++ 10 :: TT (r :: rest) := rfl
    have ih := TT_len (r :: rest) (by simp)
    rw [e, List.length_append, List.length_cons, List.length_cons, SS_succ]
    rw [← ih]; omega

theorem starts_sorted {sz : List Int} (h : ∀ a ∈ sz, 0 ≤ a ∧ a ≤ 1000) : (startsOf sz).Pairwise (· < ·) := by
  unfold startsOf
  rw [List.pairwise_map]
  refine List.pairwise_lt_range.imp ?_
  intro a b hab
  have := take_sum_mono h (Nat.le_of_lt hab)
  omega

theorem agree_of (sz : List Int) (h0 : 0 < sz.length) (hl : sz.length ≤ 40) (h : ∀ a ∈ sz, 0 ≤ a ∧ a ≤ 1000) : Agree (textOf sz) (startsOf sz) := by
  have hne : linesOf sz ≠ [] := by
    intro e
    have := congrArg List.length e
    simp [linesOf] at this
    rw [this] at h0; simp at h0
  have hcl : ∀ l ∈ linesOf sz, 10 ∉ l := by
    intro l hl
    obtain ⟨a, _, rfl⟩ := List.mem_map.mp hl
    exact line_clear _
  have hcps : (textOf sz).cps.toList = TT (linesOf sz) := text_cps sz
  have hll : (linesOf sz).length = sz.length := by simp [linesOf]
  have htl : (textOf sz).length + 1 = SS (linesOf sz) sz.length := by
    have := TT_len _ hne
    rw [hll] at this
    rw [str_len, hcps]; exact this
  have hs := lines_SS h sz.length (Nat.le_refl _)
  have hb := take_sum_bound h sz.length
  refine ⟨by omega, ?_, ?_, ?_, ?_⟩
  · rw [starts_get h0]; simp
  · intro a ha
    obtain ⟨i, hi, rfl⟩ := starts_mem ha
    have := take_sum_bound h i
    omega
  · rw [starts_len]; omega
  · intro p r r' hco hto
    rcases hco with ⟨c1, rfl⟩ | ⟨c1, col, hcol, rfl⟩
    · rcases hto with ⟨_, rfl⟩ | ⟨t1, _⟩
      · rfl
      · omega
    · rcases hto with ⟨t1, _⟩ | ⟨t1, sv, hsv, rfl⟩
      · omega
      · obtain ⟨c, X⟩ := line_at (linesOf sz) hcl hne p (by rw [← hcps, ← str_len]; omega)
        have hc : c < sz.length := by rw [← hll]; exact X.lt
        have hcs : c < (startsOf sz).length := by rw [starts_len]; exact hc
        have sg : ∀ i (hi : i < (startsOf sz).length), (startsOf sz)[i] = ((SS (linesOf sz) i : Nat) : Int) := by
          intro i hi
          have hi' : i < sz.length := by rw [starts_len] at hi; exact hi
          have e := starts_get hi'
          rw [List.getElem?_eq_getElem hi] at e
          injection e with e
          rw [e, lines_SS h i (Nat.le_of_lt hi')]
        have hf := filter_count (p := (p : Int)) (starts_sorted h) hcs (by rw [sg]; have := X.from'; omega) (fun h' => by rw [sg]; have := X.upto (by rw [hll, ← starts_len]; exact h'); omega)
        rw [hf] at hsv ⊢
        have hsv' : sv = ((SS (linesOf sz) c : Nat) : Int) := by
          rw [show c + 1 - 1 = c by omega, List.getElem?_eq_getElem hcs] at hsv
          injection hsv with hsv
          rw [← hsv, sg]
        have hcnt : ((textOf sz).cps.toList.take p).count 10 = c := by rw [hcps]; exact X.cnt
        have ecol : col = (p : Int) - sv + 1 := by
          rcases hcol with ⟨k1, rfl⟩ | ⟨i, k1, k2, k3, k4, rfl⟩
          · rw [hcnt] at k1
            rw [hsv', k1, SS_zero]; omega
          · rw [hcnt] at k1
            obtain ⟨n1, n2⟩ := X.nl (by omega)
            rw [hcps] at k3 k4
            have hfrom := X.from'
            have : i = SS (linesOf sz) c - 1 := by
              rcases Nat.lt_trichotomy i (SS (linesOf sz) c - 1) with hlt | heq | hgt
              · exact absurd n2 (k4 _ hlt (by omega))
              · exact heq
              · exact absurd k3 (X.clear i (by omega) k2)
            rw [hsv']; omega
        rw [hcnt, ecol]
        have : ((c : Int) + 1) = ((c + 1 : Nat) : Int) := by omega
        rw [this]
end Mine

end TxtP3

section TxtL36
open PySem PySem.W PyProof.Rows PySem.Calls
open PyProof.Rows.TI (gone gone_get gone_none gone_some)
namespace Mine
section
variable {prog : Program} {w : World} {A : Around} {E : Value → Shared → Prop} {s : Shared} {g h : Heap} {tk : Nat} {L fa : Addr} {cd : Value} {mg mb m : Str → Option Value} {Q : Flow → Shared → Prop}
variable {sc : Addr} {ns : List Int}

set_option maxHeartbeats 8000000 in
theorem law0 (G : Gr w mg mb g) (c : Calm 5 A) (hfr : A.frames = some [envOfC "law" (lawScope w) L fa cd]) (F : Fr g L h m) (T : Tab h) (hsc : m "script" = some (.ref sc)) (hns : LI h sc ns) (hc1 : h.IsCell (L + 1) none) (hc2 : h.IsCell (L + 2) none)
    (h29 : 29 < L) (hg29 : g.get? 29 = none) (hnl : ns.length ≤ 1000) (hline : ∀ n, (lineOf n).length ≤ n)
    (hx : ∀ sz : List Int, 0 < sz.length → sz.length ≤ 40 → (∀ a ∈ sz, 0 ≤ a ∧ a ≤ 1000) → Agree (textOf sz) (startsOf sz))
    (hQ : ∀ h' tk', Ext g h' → Tab h' → Q (.ret (.bool true)) (St s h' tk')) :
    wpAny (model prog w) A (execs ((lawBody w).drop 0) (envOfC "law" (lawScope w) L fa cd)) Q E (St s h tk) := by
  refine lawMk (P := fun b sc => wpAny (model prog w) A (execs (b.drop 0) (envOfC "law" sc L fa cd)) Q E (St s h tk)) rfl ?_
  have sl : sizeLine = 16777216 := rfl
  obtain ⟨vs, hvs, iv⟩ := id hns
  have hvl := iv.length
  refine wpAny_execs_cons (wpAny_Assign_Name ?_)
  refine compList c.hh rfl (by decide) rfl (by decide) rfl ?_
  refine wpAny_BinOp (sliceL (nmL F.ns hsc (wpAny_evalPart_some (cInt fun _ _ => wpAny_evalPart_some (cInt fun _ _ => ⟨sc, vs.toArray, some 1, some 7, h, _, rfl, rfl, hvs, by simp; omega, .int _ _, .int _ _, fun a₁ h₁ E₁ hl₁ => ?_⟩)))))
  obtain ⟨mid, mids, hmid, imid, hml⟩ : ∃ (mid : List Value) (mids : List Int), slicePick vs.toArray (some 1) (some 7) none = mid.toArray ∧ IntsAre mid mids ∧ mids.length ≤ 7 := by
    refine ⟨_, _, slicePick_plain vs.toArray (some 1) (some 7), (iv.drop _).take _, ?_⟩
    rw [List.length_take]
    have h7 : clipAt vs.toArray.size 7 ≤ 7 := by unfold clipAt; rw [if_neg (by decide)]; omega
    exact Nat.le_trans (Nat.min_le_left _ _) (Nat.le_trans (Nat.sub_le _ _) h7)
  rw [hmid] at hl₁
  refine dList (wpAny_items_cons (cInt fun t₁ _ => wpAny_items_cons (cInt fun t₂ _ => wpAny_items_cons (cInt fun t₃ _ => wpAny_items_cons (cInt fun t₄ _ => wpAny_items_nil ⟨small, _, _, rfl, fun a₂ h₂ E₂ hl₂ => ?_⟩)))))
  refine addLI (ns := mids) ⟨_, list_ext hl₁ E₂, imid⟩ ⟨_, hl₂, .cons 70 t₁ (.cons 0 t₂ (.cons 3 t₃ (.cons 140 t₄ .nil)))⟩ (fun a₃ h₃ E₃ hl₃ => ?_) (by simp only [List.length_cons, List.length_nil]; omega)
  obtain ⟨us, hus, iu⟩ := hl₃
  have hul := iu.length
  simp only [List.length_append, List.length_cons, List.length_nil] at hul
  refine ⟨a₃, h₃, _, us, fun _ => true, fun v y => ∃ t, y = .int (intIn v % 150) t, rfl, rfl, hus, by omega, ⟨?_, ?_⟩, ?_⟩
  · intro C h₃ tk₃ m₃ v Q' E' hv hn hm hE hC hQ
    exact wpAny_pure (hQ _)
  · intro C h₃ tk₃ m₃ v Q' E' hv hpv hn hm hE hC hQ
    obtain ⟨n, tn, rfl⟩ := ints_mem iu v hv
    exact wpAny_BinOp (nmL hn hm (cInt fun _ _ => oMod (by decide) fun t _ => hQ _ _ _ ⟨t, rfl⟩ Ext.rfl'))
  intro D h₄ tk₄ ys E₄ hD hD1 hP
  rw [filter_all] at hP
  have iy := paired_map (f := fun a => a % 150) iu hP
  have E14 := Ext.trans' E₁ (Ext.trans' E₂ (Ext.trans' E₃ E₄))
  have x1 := cell_ext hc1 E14
  refine wpAny_storeName_cell (s := St s h₄ _) rfl rfl rfl x1 (fun h₅ hc₅ S₅ => ?_)
  have hcg : g.objs.size ≤ L + 1 := Nat.le_trans F.above (Nat.le_add_right _ _)
  have hne : L + 2 ≠ L + 1 := Nat.ne_of_gt (Nat.lt_succ_self _)
  have hc2' : h₅.IsCell (L + 2) none := let ⟨o, q, r⟩ := cell_ext hc2 E14; ⟨o, S₅.extBut _ _ hne q, r⟩
  have hD₅ : LI h₅ D ((mids ++ [70, 0, 3, 140]).map fun a => a % 150) := LI.cell ⟨ys, hD.isList, iy⟩ x1 S₅
  have hb : ∀ a ∈ (mids ++ [70, 0, 3, 140]).map (fun a => a % 150), 0 ≤ a ∧ a ≤ 1000 := by
    intro a ha
    obtain ⟨b, _, rfl⟩ := List.mem_map.mp ha
    omega
  have hl0 : 0 < ((mids ++ [70, 0, 3, 140]).map fun a => a % 150).length := by simp
  have hl1 : ((mids ++ [70, 0, 3, 140]).map fun a => a % 150).length ≤ 40 := by simp; omega
  exact law1 G c hfr (fr_cell (frx F E14) x1 hcg (Nat.ne_of_lt (Nat.lt_succ_self _)) S₅) ((T.ext E14).cell x1 S₅) hsc ((hns.ext E14).cell x1 S₅) hc₅ hD₅ hc2' h29 hg29 (hx _ hl0 hl1 hb) hnl hl0 hl1 hb hline hQ
end
end Mine

end TxtL36

section TxtJN
open PySem PySem.W PyProof.Rows PySem.Calls
namespace Mine
theorem line_le (n : Nat) : (lineOf n).length ≤ n := by rw [str_len, line_len]; exact Nat.le_refl _

theorem law_join {prog : Program} {w : World} {E : Value → Shared → Prop} {s : Shared} {g h : Heap} {tk : Nat} {L fa : Addr} {cd : Value} {mg mb m : Str → Option Value} {Q : Flow → Shared → Prop} {p : Program} {loose : List Str} {mean : ExcName → Option Value}
    {sc : Addr} {vs : List Value} {ns : List Int} {o1 o2 : Obj}
    (X : (KK w).In g) (T : Top p loose mean mg mb g) (hcd : CodeHd g 33 29) (F : Fr g L h m) (N : News g L h [(L + 1 + 1, o2), (L + 1, o1), (29, tabObj #[])]) (d1 : o1.data = .cell none) (d2 : o2.data = .cell none)
    (h29 : 29 < L) (hg29 : g.get? 29 = none) (hsc : m "script" = some (.ref sc)) (hl : g.IsList sc vs.toArray) (hi : IntsAre vs ns) (hn : ns.length ≤ 1000)
    (hQ : ∀ h' tk', Ext g h' → Tab h' → Q (.ret (.bool true)) (St s h' tk')) :
    wpAny (model prog w) (callerA.deeper (envOfC "law" (lawScope w) L fa cd)) (execs (lawBody w) (envOfC "law" (lawScope w) L fa cd)) Q E (St s h tk) := by
  have G : Gr w mg mb g := ⟨X, T.g, T.b, T.nolimit, T.nodigits, T.builtins, T.bmain, hcd⟩
  have c : Calm 5 (callerA.deeper (envOfC "law" (lawScope w) L fa cd)) := ⟨rfl, by show callerA.depth + 1 ≤ _; decide, by show callerA.units + 3 ≤ _; decide⟩
  have n1 := N _ (List.mem_cons_of_mem _ (List.mem_cons_self))
  have n2 := N _ (List.mem_cons_self)
  have n3 := N _ (List.mem_cons_of_mem _ (List.mem_cons_of_mem _ (List.mem_cons_self)))
  have Tb : Tab h := ⟨#[], n3.1, trivial, .inl rfl⟩
  exact law0 G c (Around.frames_deeper rfl) F Tb hsc ⟨vs, list_ext hl F.keep, hi⟩ ⟨o1, n1.1, d1⟩ ⟨o2, n2.1, d2⟩ h29 hg29 hn line_le agree_of hQ
end Mine

end TxtJN

section TxtFN
open PySem PySem.W PyProof.Rows PySem.Calls
set_option maxHeartbeats 8000000 in
theorem PySem.Challenge.cw_oh0003_01_holds : PySem.Challenge.rw_oh0003_01.Holds :=
  hd (by
  w_strict (k_go0; (all_goals try k_fold); rename Frag.In _ _ => X'; rename Top _ _ _ _ _ (ghostOf _ _) => T'; rename Fr _ _ _ _ => F'; rename News _ _ _ _ => N'; rename IntsAre _ _ => hI'; rename (¬ _ < _) => hlt'; rename (_ = #[]) => hg'; rename (29 < _) => l0'; refine Mine.law_join (s := _) X' T' codeHd F' N' (by assumption) (by assumption) l0' (N' _ (List.mem_cons_of_mem _ (List.mem_cons_of_mem _ (List.mem_cons_self)))).2.2 rfl lifted hI' (by omega) (fun h' tk' hE hT => ?_); refine ⟨⟨.inl ⟨_, _, _, rfl, fun _ => rfl, .bool true, by wrow_post, unshared_nil⟩, hE, rfl, hg'⟩, ?_⟩; obtain ⟨ps', e29', _⟩ := hT; exact ⟨⟨ps', e29'⟩, trivial⟩))
end TxtFN
