import PyProof.Rows.All
import Wide.All
import OpenK.AllK
import Wide.FinOn
import PySem.Challenge.RW_nb0097_01
open PySem PySem.W PyProof.Rows
set_option Elab.async false
set_option maxRecDepth 100000

/-! part B1 -/
namespace Mine

/-! the text's defs, by their places -/
def pg : Program := PySem.Challenge.pw_nb0097_01
def stAt (i : Nat) : Stmt := pg.main.body.getD i (.Pass ⟨0, 0, 0, 0⟩)
def nameAt (i : Nat) : Str := match stAt i with | .FunctionDef n .. => n | _ => Str.empty
def parAt (i : Nat) : Arguments := match stAt i with | .FunctionDef _ a .. => a | _ => default
def bodyAt (i : Nat) : List Stmt := match stAt i with | .FunctionDef _ _ b .. => b | _ => []
def scopeAt (i : Nat) : Scope := match stAt i with | .FunctionDef _ _ _ _ _ _ sc .. => sc | _ => default

abbrev fdAt (i : Nat) (pm cd doc : Value) : FuncData := Calls.docDef (nameAt i) (parAt i) (bodyAt i) (scopeAt i) pm cd doc

/-- the def number i stands at f -/
structure Fn (h : Heap) (i : Nat) (f : Addr) (o : Obj) (pm cd doc : Value) : Prop where
  get : h.get? f = some o
  data : o.data = .func (fdAt i pm cd doc)
  code : h.CodeRec cd (nameAt i)
/-- the def number i stands at its name -/
def DefAt (mg : Str → Option Value) (h : Heap) (i : Nat) : Prop := ∃ f o pm cd doc, mg (nameAt i) = some (.ref f) ∧ Fn h i f o pm cd doc


/-- the frame: its map, and what the anchor holds is kept -/
structure Fm (g : Heap) (L : Addr) (h : Heap) (m : Str → Option Value) : Prop where
  ns : h.Ns L m
  keep : ∀ b o, g.get? b = some o → h.get? b = some o
  gL : g.get? L = none

def Keeps (g h : Heap) : Prop := ∀ b o, g.get? b = some o → h.get? b = some o
theorem Keeps.refl (h : Heap) : Keeps h h := fun _ _ e => e
theorem Keeps.trans {a b c : Heap} (x : Keeps a b) (y : Keeps b c) : Keeps a c := fun p o e => y p o (x p o e)

theorem Fn.keeps {h h' : Heap} {i : Nat} {f : Addr} {o : Obj} {pm cd doc : Value} (x : Fn h i f o pm cd doc) (hk : Keeps h h') : Fn h' i f o pm cd doc := ⟨hk _ _ x.get, x.data, x.code.keeps hk⟩
/-- what every call reads of the top -/
structure Base (mg mb : Str → Option Value) (h : Heap) : Prop where
  g : h.Ns mainGlobals mg
  b : h.Ns builtinsNs mb
  lim : h.NoLimit
  fn : ∀ i ∈ [5, 6, 7, 8, 9, 10, 12, 13, 14, 15], DefAt mg h i
  len : mg "len" = none ∧ mb "len" = some (.builtin "len")
  reversed : mg "reversed" = none ∧ mb "reversed" = some (.type "reversed")
  range : mg "range" = none ∧ mb "range" = some (.type "range")
  sorted : mg "sorted" = none ∧ mb "sorted" = some (.builtin "sorted")
theorem Base.keeps {mg mb : Str → Option Value} {h h' : Heap} (x : Base mg mb h) (hk : Keeps h h') : Base mg mb h' :=
  ⟨x.g.keeps hk, x.b.keeps hk, x.lim.keeps hk, fun i hi => let ⟨f, o, pm, cd, doc, e, r⟩ := x.fn i hi; ⟨f, o, pm, cd, doc, e, r.keeps hk⟩, x.len, x.reversed, x.range, x.sorted⟩

variable {g h h' : Heap} {L a : Addr} {m m' : Str → Option Value} {os os' : List (Addr × Obj)}

theorem Fm.set (F : Fm g L h m) (hn : h'.Ns L m') (hs : Heap.SameBut L h h') : Fm g L h' m' :=
  ⟨hn, fun b o e => (hs.2 b (by rintro rfl; rw [F.gL] at e; cases e)).trans (F.keep b o e), F.gL⟩
theorem Fm.ext (F : Fm g L h m) (hx : Heap.ExtBut a h h') (haL : a ≠ L) (ha : g.get? a = none) : Fm g L h' m :=
  ⟨F.ns.extBut hx (Ne.symm haL), fun b o e => hx b o (by rintro rfl; rw [ha] at e; cases e) (F.keep b o e), F.gL⟩
theorem Fm.kept (F : Fm g L h m) (hk : Keeps h h') : Fm g L h' m := ⟨F.ns.keeps hk, fun b o e => hk b o (F.keep b o e), F.gL⟩
end Mine

/-! part B2 -/
namespace Mine

abbrev Key := Int × Str
def ltK (a b : Key) : Bool := if a.1 = b.1 then decide (a.2.cps.toList < b.2.cps.toList) else decide (a.1 < b.1)

/-- v is a tuple of the key's two parts -/
def TupIs (h : Heap) (v : Value) (k : Key) : Prop := ∃ a t u, v = .ref a ∧ IsTup h a #[.int k.1 t, .str k.2 u]
theorem TupIs.keeps {h h' : Heap} {v : Value} {k : Key} (x : TupIs h v k) (hk : Keeps h h') : TupIs h' v k :=
  let ⟨a, t, u, e, o, ho, r⟩ := x; ⟨a, t, u, e, o, hk _ _ ho, r⟩
theorem TupIs.extBut {h h' : Heap} {v : Value} {k : Key} {l : Addr} {its : Array Value} {n : Nat} (x : TupIs h v k) (hx : Heap.ExtBut l h h') (hl : h.get? l = some (listOf its n)) : TupIs h' v k :=
  let ⟨a, t, u, e, o, ho, hc, r⟩ := x; ⟨a, t, u, e, o, hx _ _ (by rintro rfl; rw [hl] at ho; cases ho; exact absurd hc (by simp)) ho, hc, r⟩

section
variable {prog : Program} {w : World} {A : Around} {E : Value → Shared → Prop} {s : Shared}

theorem tup_lt {x y : Value} {k l : Key} {Q : Value → Shared → Prop} (hu : A.units < cLine) (hx : TupIs s.heap x k) (hy : TupIs s.heap y l) (h : Q (.bool (ltK k l)) s) :
    wpAny (model prog w) A (compareOp .Lt x y) Q E s := by
  obtain ⟨a, t, u, rfl, oa, hoa, hca, na, hda⟩ := hx
  obtain ⟨b, t', u', rfl, ob, hob, hcb, nb, hdb⟩ := hy
  have hTa : s.TypeIs (.ref a) "tuple" := ⟨oa, hoa, hca⟩
  have hTb : s.TypeIs (.ref b) "tuple" := ⟨ob, hob, hcb⟩
  show wpAny _ _ (richCompare .Lt (.ref a) (.ref b)) Q E s
  refine wpAny_richCompare_same_room (op := .Lt) (T := "tuple") hTa hTb PySem.F.slot_tuple_lt (wpAny_call_entry PySem.F.slot_tuple_lt hTa PySem.F.entry_tuple_lt ?_ (PySem.F.args_tuple_lt_2 _ _)) hu
  show wpAny _ _ (isInstance (.ref b) (.type "tuple") >>= _) _ _ s
  refine wpAny_bind (wpAny_isInstance hTb isSubtype_tuple_tuple ?_)
  simp only [Bool.not_true, Bool.false_eq_true, if_false]
  refine wpAny_bind (wpAny_tupleItemsOf hoa hda ?_)
  refine wpAny_bind (wpAny_tupleItemsOf hob hdb ?_)
  refine wpAny_bind ?_
  simp only [List.zip_cons_cons, List.zip_nil_left, List.forIn_cons, List.forIn_nil]
  refine wpAny_bind (wpAny_bind (wpAny_eqBool_int ?_))
  by_cases h1 : k.1 = l.1
  · have e1 : (k.1 == l.1) = true := by simpa using h1
    rw [e1]
    simp only [Bool.not_true, Bool.false_eq_true, if_false]
    refine wpAny_pure ?_
    refine wpAny_bind (wpAny_bind (eqBool_str ?_))
    by_cases h2 : k.2 = l.2
    · have e2 : (k.2 == l.2) = true := by simpa using h2
      rw [e2]
      simp only [Bool.not_true, Bool.false_eq_true, if_false]
      refine wpAny_pure (wpAny_pure (wpAny_pure ⟨_, rfl, by simp [Builtin.Tuple.tupleCompareSizes], ?_⟩))
      have : ltK k l = false := by unfold ltK; rw [if_pos h1, h2]; simp
      rw [this] at h
      exact h
    · have e2 : (k.2 == l.2) = false := by simpa using h2
      rw [e2]
      simp only [Bool.not_false, if_true]
      refine wpAny_bind (wpAny_rule (wpAny_bind ?_))
      refine lt_str ?_
      refine wpAny_bind (wpAny_pure (wpAny_pure (wpAny_pure (wpAny_pure ⟨_, rfl, by simp, ?_⟩))))
      have : ltK k l = decide (k.2.cps.toList < l.2.cps.toList) := by unfold ltK; rw [if_pos h1]
      rw [this] at h
      exact h
  · have e1 : (k.1 == l.1) = false := by simpa using h1
    rw [e1]
    simp only [Bool.not_false, if_true]
    refine wpAny_bind (wpAny_rule (wpAny_bind ?_))
    refine wpAny_lt_int ?_
    refine wpAny_bind (wpAny_pure (wpAny_pure (wpAny_pure (wpAny_pure ⟨_, rfl, by simp, ?_⟩))))
    have : ltK k l = decide (k.1 < l.1) := by unfold ltK; rw [if_neg h1]
    rw [this] at h
    exact h
end
end Mine

/-! part B3 -/
namespace Mine

abbrev NoE : Value → Shared → Prop := fun _ _ => False
/-- the state with another heap and another count -/
def Sx (s : Shared) (h : Heap) (tk : Nat) : Shared := { s with heap := h, toks := tk }
theorem Sx.self (s : Shared) : s = Sx s s.heap s.toks := rfl
/-- a map with one name set -/
def up (m : Str → Option Value) (x : Str) (v : Value) : Str → Option Value := fun y => if y = x then some v else m y
theorem up_same {m : Str → Option Value} {x : Str} {v : Value} : up m x v x = some v := if_pos rfl
theorem up_ne {m : Str → Option Value} {x y : Str} {v : Value} {r : Option Value} (h : y ≠ x) (e : m y = r) : up m x v y = r := (if_neg h).trans e

section
variable {prog : Program} {w : World} {A : Around} {E : Value → Shared → Prop} {s : Shared} {h : Heap} {tk : Nat} {n : Str} {sc : Scope} {L f : Addr} {cd : Value} {g : Heap} {m : Str → Option Value} {os : List (Addr × Obj)}

theorem ldF {x : Str} {pos : Pos} {v : Value} {Q : Value → Shared → Prop} (F : Fm g L h m) (hv : m x = some v) (k : Q v (Sx s h tk))
    (hk : sc.kind = .function := by rfl) (hl : (envOf n sc L f cd).kindOf x = some .local := by rfl) (hd : (x == ("__debug__" : Str)) = false := by decide) :
    wpAny (model prog w) A (eval (.Name x pos) (envOf n sc L f cd)) Q E (Sx s h tk) := wpAny_Name (wpAny_loadName_local (s := Sx s h tk) hk hl F.ns hv k) hd

theorem stF {x : Str} {v : Value} {Q : Unit → Shared → Prop} (F : Fm g L h m) (N : News g L h os)
    (k : ∀ h' tk', Fm g L h' (up m x v) → News g L h' os → Q () (Sx s h' tk'))
    (hk : sc.kind = .function := by rfl) (hl : (envOf n sc L f cd).kindOf x = some .local := by rfl) :
    wpAny (model prog w) A (storeName (envOf n sc L f cd) x v) Q E (Sx s h tk) :=
  wpAny_storeName_local (s := Sx s h tk) hl F.ns (fun h' hn hs => k h' _ (F.set hn hs) (N.set hs))
    (by show (sc.kind == .class || (sc.kind == .module && L != mainGlobals)) = false; rw [hk]; rfl)

theorem asg {x : Str} {pos' pos : Pos} {value : Expr} {s₀ : Shared} {Q : Flow → Shared → Prop}
    (k : wpAny (model prog w) A (eval value (envOf n sc L f cd)) (fun v s₁ => ∃ s h tk g m os, s₁ = Sx s h tk ∧ Fm g L h m ∧ News g L h os ∧
      ∀ h' tk', Fm g L h' (up m x v) → News g L h' os → Q .next (Sx s h' tk')) E s₀)
    (hk : sc.kind = .function := by rfl) (hl : (envOf n sc L f cd).kindOf x = some .local := by rfl)
    (hs : swapsWith value (some (.Name x pos')) pos.line (envOf n sc L f cd) = pure false := by rfl) :
    wpAny (model prog w) A (exec (.Assign [.Name x pos'] value pos) (envOf n sc L f cd)) Q E s₀ :=
  wpAny_Assign_Name (wpAny_mono k (fun _ _ ⟨_, _, _, _, _, _, e, F, N, k⟩ => e ▸ stF F N k hk hl) fun _ _ e => e) hs

/-- a global name -/
theorem glF {x : Str} {pos : Pos} {v : Value} {mg : Str → Option Value} {Q : Value → Shared → Prop} (hg : s.heap.Ns mainGlobals mg) (hb : mg x = some v) (k : Q v s)
    (hk : sc.kind = .function := by rfl) (hx : (envOf n sc L f cd).kindOf x = some .globalImplicit := by rfl) (hd : (x == ("__debug__" : Str)) = false := by decide) :
    wpAny (model prog w) A (eval (.Name x pos) (envOf n sc L f cd)) Q E s :=
  Calls.Name_function_global hk hx (Calls.loadGlobal_global (env := envOf n sc L f cd) hg hb k) hd
theorem blF {x : Str} {pos : Pos} {v : Value} {mg mb : Str → Option Value} {Q : Value → Shared → Prop} (hg : s.heap.Ns mainGlobals mg) (hmiss : mg x = none) (hb : s.heap.Ns builtinsNs mb) (hv : mb x = some v) (k : Q v s)
    (hk : sc.kind = .function := by rfl) (hx : (envOf n sc L f cd).kindOf x = some .globalImplicit := by rfl) (hd : (x == ("__debug__" : Str)) = false := by decide) :
    wpAny (model prog w) A (eval (.Name x pos) (envOf n sc L f cd)) Q E s :=
  Calls.Name_function_global hk hx (Calls.loadGlobal_builtin (env := envOf n sc L f cd) hg hmiss hb hv k) hd

/-! ints and texts -/
section
variable {a b : Int} {t u : Tok} {Q : Value → Shared → Prop}
theorem intR {i : Int} {kk : Nat} {pos : Pos} {env : Env} (k : ∀ t tk', Q (.int i t) (Sx s h tk')) : wpAny (model prog w) A (eval (.Constant (.int i) kk pos) env) Q E (Sx s h tk) := wpAny_Constant_int (k _ _)
theorem strR {x : Str} {kk : Nat} {pos : Pos} {env : Env} (k : ∀ t tk', Q (.str x t) (Sx s h tk')) : wpAny (model prog w) A (eval (.Constant (.str x) kk pos) env) Q E (Sx s h tk) := Calls.Constant_str (k _ _)
theorem addR (k : ∀ t tk', Q (.int (a + b) t) (Sx s h tk')) : wpAny (model prog w) A (binaryOp .Add (.int a t) (.int b u)) Q E (Sx s h tk) := add_int (k _ _)
theorem subR (k : ∀ t tk', Q (.int (a - b) t) (Sx s h tk')) : wpAny (model prog w) A (binaryOp .Sub (.int a t) (.int b u)) Q E (Sx s h tk) := sub_int (k _ _)
theorem mulR (hm : IntMulOk a b) (k : ∀ t tk', Q (.int (a * b) t) (Sx s h tk')) : wpAny (model prog w) A (binaryOp .Mult (.int a t) (.int b u)) Q E (Sx s h tk) := PyProof.Rows.mul_int (k _ _) hm
theorem shrR (h0 : 0 ≤ a) (k : ∀ t tk', Q (.int (a / 2) t) (Sx s h tk')) : wpAny (model prog w) A (binaryOp .RShift (.int a t) (.int 1 u)) Q E (Sx s h tk) := wpAny_rshift1_int h0 (k _ _)
theorem fdivR (hb : b ≠ 0) (hs : b.natAbs < 1073741824) (k : ∀ t tk', Q (.int (a.fdiv b) t) (Sx s h tk')) : wpAny (model prog w) A (binaryOp .FloorDiv (.int a t) (.int b u)) Q E (Sx s h tk) := floordiv_int hb (k _ _) (Or.inl (PyProof.noPylong_small hs))
theorem modR (hb : b ≠ 0) (k : ∀ t tk', Q (.int (a.fmod b) t) (Sx s h tk')) : wpAny (model prog w) A (binaryOp .Mod (.int a t) (.int b u)) Q E (Sx s h tk) := mod_int' hb (k _ _)
theorem lenR {l : Addr} {vs : List Value} {c : Nat} (hl : h.get? l = some (listOf vs.toArray c)) (hfit : (vs.length : Int) < 2 ^ 63) (k : ∀ t tk', Q (.int vs.length t) (Sx s h tk')) :
    wpAny (model prog w) A (call (.builtin "len") [.ref l]) Q E (Sx s h tk) :=
  len_list (s := Sx s h tk) (PySem.IsL.isList (n := c) hl) (by rw [List.size_toArray]; exact hfit) (by rw [List.size_toArray]; exact k _ _)
end

theorem while_ {test : Expr} {body orelse : List Stmt} {pos : Pos} {env : Env} {Q : Flow → Shared → Prop} (I : Nat → Shared → Prop)
    (turn : ∀ k s, I k s → wpAny (model prog w) A (isTrue test env (eval test env)) (fun b s₂ =>
        if b then wpAny (model prog w) A (execs body env) (fun f s₃ => match f with
            | .next | .cont => ∃ j, j < k ∧ I j s₃
            | .brk => Q .next s₃
            | .ret v => Q (.ret v) s₃) NoE s₂
        else wpAny (model prog w) A (execs orelse env) Q NoE s₂) NoE s)
    (k : Nat) (h : I k s) : wpAny (model prog w) A (exec (.While test body orelse pos) env) Q NoE s := by
  refine wpAny_While (codeAny_whileLoop I (fun k s hI => wpAny_mono (turn k s hI) (fun b s₂ hb => ?_) fun _ _ x => x.elim) k h)
  cases b with
  | true =>
    simp only [if_true] at hb ⊢
    exact wpAny_mono hb (fun f s₃ h₃ => by cases f <;> exact h₃) fun _ _ x => x.elim
  | false =>
    simp only [Bool.false_eq_true, if_false] at hb ⊢
    exact wpAny_mono hb (fun f s₃ h₃ => h₃) fun _ _ x => x.elim

/-- an item of a list -/
theorem itemF {value slice : Expr} {l : Addr} {vs : List Value} {c : Nat} {k : Int} {u : Tok} {v : Value} {Q : Value → Shared → Prop} (hl : h.get? l = some (listOf vs.toArray c))
    (h0 : 0 ≤ k) (hhi : k < 2 ^ 63) (hx : vs[k.toNat]? = some v) (kk : Q v (Sx s h tk))
    (hs : subscripted slice false (.ref l) (.int k u) = operate [.ref l, .int k u] (getItem (.ref l) (.int k u)) := by with_unfolding_all rfl) :
    wpAny (model prog w) A (subscriptTail value slice (.ref l) (.int k u)) Q E (Sx s h tk) :=
  have hL : (Sx s h tk).heap.IsList l vs.toArray := PySem.IsL.isList (n := c) hl
  tail_any hL.typeIs slot_list_getitem.lookup (wpAny_getItem_list hL h0 hhi (by simpa using hx) kk) hs

theorem setF {l : Addr} {vs : List Value} {c : Nat} {k : Int} {t : Tok} {v : Value} {os' : List (Addr × Obj)} {Q : Unit → Shared → Prop} (F : Fm g L h m) (N : News g L h os)
    (U : Upd l (listOf vs.toArray c) (listOf (vs.set k.toNat v).toArray c) os os') (h0 : 0 ≤ k) (hk : k < vs.length) (hfit : k < 2 ^ 63)
    (kk : ∀ h', Fm g L h' m → News g L h' os' → Q () (Sx s h' tk)) : wpAny (model prog w) A (setItem (.ref l) (.int k t) v) Q E (Sx s h tk) := by
  obtain ⟨pre, post, rfl, rfl, a, b⟩ := U.split
  have z := N (l, listOf vs.toArray c) (List.mem_append.mpr (.inr (.head _)))
  refine ki_setAt (s := Sx s h tk) z.1 h0 hfit (by rw [List.size_toArray]; exact hk) (kk _ (F.ext (Heap.SameBut.update ..).extBut z.2.1 z.2.2) (ki_turn _ N a b ?_ ?_))
  · show vs.toArray.setIfInBounds k.toNat v = (vs.set k.toNat v).toArray
    simp
  · simp
theorem popF {l : Addr} {vs : List Value} {y : Value} {c : Nat} {os' : List (Addr × Obj)} {Q : Value → Shared → Prop} (F : Fm g L h m) (N : News g L h os)
    (U : Upd l (listOf (vs ++ [y]).toArray c) (listOf vs.toArray (c + 1)) os os') (hz : vs.length < sizeLine)
    (kk : ∀ h', Fm g L h' m → News g L h' os' → Q y (Sx s h' tk)) : wpAny (model prog w) A (call (.builtin "list.pop") [.ref l]) Q E (Sx s h tk) := by
  obtain ⟨pre, post, rfl, rfl, a, b⟩ := U.split
  have z := N (l, listOf (vs ++ [y]).toArray c) (List.mem_append.mpr (.inr (.head _)))
  have hz' : (vs ++ [y]).toArray.size ≤ sizeLine := by rw [List.size_toArray, List.length_append]; exact hz
  have hk : (vs ++ [y]).toArray.size - 1 = vs.length := by rw [List.size_toArray, List.length_append]; rfl
  have hy : (vs ++ [y]).toArray[(vs ++ [y]).toArray.size - 1]? = some y := by rw [hk]; simp
  refine call_meets (s := Sx s h tk) PySem.F.slot_list_pop ⟨_, z.1, rfl⟩ PySem.F.entry_list_pop (PySem.F.args_list_pop_1 _) (PySem.MeetsSeq.list_pop_last l _ c y hy hz') ⟨z.1, kk _ (F.ext (Heap.SameBut.update ..).extBut z.2.1 z.2.2) (kl_turn _ N a b ?_ ?_)⟩
  · show (vs ++ [y]).toArray.eraseIdxIfInBounds ((vs ++ [y]).toArray.size - 1) = vs.toArray
    rw [hk, kl_erase, List.append_nil]
  · rw [List.size_toArray, List.size_toArray, List.length_append]
    simp
theorem appendF {l : Addr} {vs : List Value} {c : Nat} {x : Value} {os' : List (Addr × Obj)} {Q : Value → Shared → Prop} (F : Fm g L h m) (N : News g L h os)
    (U : Upd l (listOf vs.toArray c) (listOf (vs ++ [x]).toArray (c + 1)) os os') (hsz : vs.length ≤ sizeLine)
    (kk : ∀ h', Fm g L h' m → News g L h' os' → Q .none (Sx s h' tk)) : wpAny (model prog w) A (call (.builtin "list.append") [.ref l, x]) Q E (Sx s h tk) := by
  obtain ⟨pre, post, rfl, rfl, a, b⟩ := U.split
  have z := N (l, listOf vs.toArray c) (List.mem_append.mpr (.inr (.head _)))
  refine append_at (s := Sx s h tk) (hsz := by rw [List.size_toArray]; exact hsz) z.1 fun h' hs ho' => kk h' (F.ext hs.extBut z.2.1 z.2.2) (news_set N a b hs ?_)
  rw [ho']
  simp
/-- a new object, which the frame does not own yet -/
theorem Fm.push (F : Fm g L h m) (o : Obj) : Fm g L (h.push o) m := F.kept fun _ _ e => Heap.get?_push_of_some o e
theorem newsPush (F : Fm g L h m) (N : News g L h os) (o : Obj) (hf : o.isFreed = false) : News g L (h.push o) ((h.objs.size, o) :: os) := by
  intro p hp
  rcases List.mem_cons.mp hp with rfl | hp
  · refine ⟨Heap.get?_push_size _ hf, Nat.ne_of_gt F.ns.lt, ?_⟩
    cases hq : g.get? h.objs.size with
    | none => rfl
    | some o' => exact absurd (Heap.lt_size (F.keep _ _ hq)) (Nat.lt_irrefl _)
  · exact ⟨Heap.get?_push_of_some _ (N p hp).1, (N p hp).2⟩
theorem newListF {vs : List Value} {Q : Value → Shared → Prop} (F : Fm g L h m) (N : News g L h os) (hsz : vs.length ≤ sizeLine)
    (k : ∀ l h', Fm g L h' m → News g L h' ((l, listOf vs.toArray 0) :: os) → (∀ p ∈ os, p.1 ≠ l) → l ≠ L → Keeps h h' → Q (.ref l) (Sx s h' tk)) : wpAny (model prog w) A (newList vs) Q E (Sx s h tk) :=
  wpAny_newObj_type (s := Sx s h tk) (k _ _ (F.push _) (newsPush F N _ rfl) (fun p hp => Nat.ne_of_lt (Heap.lt_size (N p hp).1)) (Nat.ne_of_gt F.ns.lt) fun _ _ e => Heap.get?_push_of_some _ e) (by show vs.toArray.size ≤ sizeLine; rw [List.size_toArray]; exact hsz)
abbrev tupOf (vs : List Value) : Obj := { cls := .type "tuple", data := .seq vs.toArray 0 }
theorem newTupleF {vs : List Value} {Q : Value → Shared → Prop} (F : Fm g L h m) (N : News g L h os) (hsz : vs.length ≤ sizeLine)
    (k : ∀ l h', Fm g L h' m → News g L h' ((l, tupOf vs) :: os) → (∀ p ∈ os, p.1 ≠ l) → l ≠ L → Keeps h h' → Q (.ref l) (Sx s h' tk)) : wpAny (model prog w) A (newTuple vs) Q E (Sx s h tk) :=
  wpAny_newObj_type (s := Sx s h tk) (k _ _ (F.push _) (newsPush F N _ rfl) (fun p hp => Nat.ne_of_lt (Heap.lt_size (N p hp).1)) (Nat.ne_of_gt F.ns.lt) fun _ _ e => Heap.get?_push_of_some _ e) (by show vs.toArray.size ≤ sizeLine; rw [List.size_toArray]; exact hsz)
end
end Mine

/-! part H1 -/
namespace Mine

abbrev El := Value × Key
abbrev vals (es : List El) : List Value := es.map (·.1)

theorem vals_get {es : List El} {k : Nat} {x : El} (h : es[k]? = some x) : (vals es)[((k : Nat) : Int).toNat]? = some x.1 := by
  rw [Int.toNat_natCast, vals, List.getElem?_map, h]; rfl
theorem vals_set {es : List El} {k : Nat} {x : El} : (vals es).set ((k : Nat) : Int).toNat x.1 = vals (es.set k x) := by
  rw [Int.toNat_natCast, vals, vals, List.map_set]

section
variable {prog : Program} {w : World} {A : Around} {s : Shared} {R : Result → Shared → Prop}

/-- entering the def number i -/
theorem enter {i : Nat} {f : Addr} {o : Obj} {pm cd doc : Value} {args : List Value} (binds : List (Str × Value)) {h : Heap} {tk : Nat} (hroom : A.depth < recursionLimit) (hlim : h.NoLimit)
    (hf : Fn h i f o pm cd doc)
    (hbind : bindArgs (fdAt i pm cd doc) ⟨args, []⟩ = pure binds)
    (hloc : (binds.all fun x => decide ((scopeAt i).names.lookup x.1 = some .local)) = true)
    (hco : (scopeAt i).isCoroutine = false) (hgen : (scopeAt i).isGenerator = false) (hk : (scopeAt i).kind = .function)
    (hcell : ∀ x ∈ (scopeAt i).names, x.2 ≠ .cell)
    (k : ∀ h₁ tk₁, h₁.Ns h.objs.size (fun x => binds.reverse.lookup x) → Keeps h h₁ →
      wpAny (model prog w) (A.deeper (envOf (nameAt i) (scopeAt i) h.objs.size f cd)) (execs (bodyAt i) (envOf (nameAt i) (scopeAt i) h.objs.size f cd))
        (fun fl s' => R (.ok (.ret (match fl with | .ret v => v | _ => .none))) s') NoE (Sx s h₁ tk₁)) :
    codeAny (model prog w) A (.call (.ref f) ⟨args, []⟩) R (Sx s h tk) :=
  call_plain_ret (s := Sx s h tk) hroom hf.get hf.data hlim hf.code hbind (locs hloc) (fun h₁ F => k h₁ _ F.ns F.keep) hco hgen hk hcell

theorem hide_none (h : Heap) (l : Addr) : (h.hide l).get? l = none := Heap.hide_self h l
theorem hide_keeps (h : Heap) (l : Addr) : Keeps (h.hide l) h := fun _ _ e => Heap.of_hide e
theorem hide_ext {h h' : Heap} {l : Addr} (k : Keeps (h.hide l) h') : Heap.ExtBut l h h' := fun b o hb e => k b o ((Heap.hide_ne h hb).trans e)
theorem hide_size_none (h : Heap) (l : Addr) : (h.hide l).get? h.objs.size = none := by
  cases e : (h.hide l).get? h.objs.size with
  | none => rfl
  | some o => exact absurd (Heap.hide_size h l ▸ Heap.lt_size e) (Nat.lt_irrefl _)

theorem siftdown_ {h : Heap} {tk : Nat} (hroom : A.depth < recursionLimit) (hu : A.units + 10 < cLine) (hlim : h.NoLimit) {f : Addr} {o : Obj} {pm cd doc : Value}
    (hf : Fn h 9 f o pm cd doc)
    {l : Addr} {es : List El} {c : Nat} {start pos : Nat} {ts tp : Tok} {x : El} (P : List El → Nat → Prop)
    (hl : h.get? l = some (listOf (vals es).toArray c)) (hT : ∀ e ∈ es, TupIs h e.1 e.2) (hx : es[pos]? = some x) (hlen : es.length < 2 ^ 62) (hP : P es pos)
    (hstep : ∀ es' pos' y, P es' pos' → start < pos' → pos' < es'.length → es'[(pos' - 1) / 2]? = some y → ltK x.2 y.2 = true → P (es'.set pos' y) ((pos' - 1) / 2))
    (k : ∀ h' tk' es' pos' c', P es' pos' → (pos' ≤ start ∨ ∃ y, es'[(pos' - 1) / 2]? = some y ∧ ltK x.2 y.2 = false) → es'.length = es.length → pos' < es.length →
      Heap.ExtBut l h h' → h'.get? l = some (listOf (vals (es'.set pos' x)).toArray c') → R (.ok (.ret .none)) (Sx s h' tk')) :
    codeAny (model prog w) A (.call (.ref f) ⟨[.ref l, .int start ts, .int pos tp], []⟩) R (Sx s h tk) := by
  refine enter [("heap", .ref l), ("startpos", .int start ts), ("pos", .int pos tp)] hroom hlim hf rfl rfl rfl rfl rfl (by decide +kernel) fun h₁ tk₁ hns hk => ?_
  have F : Fm (h.hide l) h.objs.size h₁ _ := ⟨hns, (hide_keeps _ _).trans hk, hide_size_none _ _⟩
  have N : News (h.hide l) h.objs.size h₁ [(l, listOf (vals es).toArray c)] := fun p hp => by
    cases List.mem_singleton.mp hp
    exact ⟨hk _ _ hl, Nat.ne_of_lt (Heap.lt_size hl), hide_none _ _⟩
  have hTg : ∀ e ∈ es, TupIs (h.hide l) e.1 e.2 := fun e he => by
    obtain ⟨a, t, u, e1, o', ho', hc', r⟩ := hT e he
    exact ⟨a, t, u, e1, o', (Heap.hide_ne _ (by rintro rfl; rw [hl] at ho'; cases ho'; exact absurd hc' (by simp))).trans ho', hc', r⟩
  have hext : ∀ h', Keeps (h.hide l) h' → Heap.ExtBut l h h' := fun _ => hide_ext
  generalize h.hide l = g at F N hTg hext
  generalize h.objs.size = L at F N
  have hA : (A.deeper (envOf (nameAt 9) (scopeAt 9) L f cd)).units < cLine := by show A.units + 3 < cLine; omega
  generalize A.deeper (envOf (nameAt 9) (scopeAt 9) L f cd) = A' at hA ⊢
  have hpl := (List.getElem?_eq_some_iff.mp hx).1
  refine wpAny_execs_cons (asg (Subscript_ (ldF F rfl (ldF F rfl (itemF (N _ (.head _)).1 (Int.natCast_nonneg _) (by omega) (v := x.1) (vals_get hx) ⟨_, _, _, _, _, _, rfl, F, N, fun h' tk' F' N' => ?_⟩)))))
  refine wpAny_execs_cons (while_ (fun j s' => ∃ h tk m es' pos' c' t, s' = Sx s h tk ∧ Fm g L h m ∧ News g L h [(l, listOf (vals es').toArray c')] ∧
    m "heap" = some (.ref l) ∧ m "startpos" = some (.int start ts) ∧ m "newitem" = some x.1 ∧ m "pos" = some (.int (pos' : Nat) t) ∧ P es' pos' ∧ es'.length = es.length ∧ pos' < es.length ∧
    (∀ e ∈ es', TupIs g e.1 e.2) ∧ pos' = j) ?_ pos ⟨_, _, _, es, pos, c, tp, rfl, F', N', rfl, rfl, rfl, rfl, hP, rfl, hpl, hTg, rfl⟩)
  have hTx := hTg x (List.mem_of_getElem? hx)
  clear F N F' N' h' hns hk h₁ hP hTg
  rintro _ s' ⟨h', tk, m, es', pos', c', t, rfl, F, N, m1, m2, m3, m4, hP, hle, hpl', hTg, rfl⟩
  have fin : (pos' ≤ start ∨ ∃ y, es'[(pos' - 1) / 2]? = some y ∧ ltK x.2 y.2 = false) → ∀ h₁ tk₁ m₁, Fm g L h₁ m₁ → News g L h₁ [(l, listOf (vals es').toArray c')] → m₁ "heap" = some (.ref l) → m₁ "newitem" = some x.1 → m₁ "pos" = some (.int (pos' : Nat) t) →
      wpAny (model prog w) A' (execs [(bodyAt 9).getD 2 default] (envOf (nameAt 9) (scopeAt 9) L f cd)) (fun fl s' => R (.ok (.ret (match fl with | .ret v => v | _ => .none))) s') NoE (Sx s h₁ tk₁) := by
    intro hend h₁ tk₁ m₁ F N m1 m3 m4
    refine wpAny_execs_cons (wpAny_Assign_Subscript (ldF F m3 (ldF F m1 (ldF F m4 (setF F N (.head fun _ h => nomatch h) (Int.natCast_nonneg _) (by simp [vals]; omega) (by omega) fun h₂ F₂ N₂ => ?_)))))
    refine wpAny_execs_nil (k h₂ _ es' pos' c' hP hend hle hpl' (hext _ F₂.keep) ?_)
    have := (N₂ _ (.head _)).1
    rwa [vals_set] at this
  refine wpAny_isTrue_Compare1 (ldF F m4 (ldF F m2 (gt_int (wpAny_truthy_bool ?_))))
  by_cases hgt : start < pos'
  · rw [decide_eq_true (by omega)]
    simp only [if_true]
    have hpp : (pos' - 1) / 2 < es'.length := by omega
    obtain ⟨y, hy⟩ : ∃ y, es'[(pos' - 1) / 2]? = some y := ⟨_, List.getElem?_eq_getElem hpp⟩
    refine wpAny_execs_cons (asg (wpAny_BinOp (wpAny_BinOp (ldF F m4 (intR fun _ _ => subR fun _ _ => intR fun _ _ => shrR (by omega) fun t1 tk1 => ⟨_, _, _, _, _, _, rfl, F, N, fun h1 tk1 F1 N1 => ?_⟩)))))
    have e2 : (((pos' : Int) - 1) / 2) = (((pos' - 1) / 2 : Nat) : Int) := by omega
    rw [e2] at F1
    refine wpAny_execs_cons (asg (Subscript_ (ldF F1 (up_ne (by decide) m1) (ldF F1 up_same (itemF (N1 _ (.head _)).1 (Int.natCast_nonneg _) (by omega) (v := y.1) (vals_get hy) ⟨_, _, _, _, _, _, rfl, F1, N1, fun h2 tk2 F2 N2 => ?_⟩)))))
    refine wpAny_execs_cons (wpAny_If (wpAny_isTrue_Compare1 (ldF F2 (up_ne (by decide) (up_ne (by decide) m3)) (ldF F2 up_same (tup_lt hA (k := x.2) (l := y.2) ?_ ?_ (wpAny_truthy_bool ?_))))))
    · exact (hTx).keeps F2.keep
    · exact (hTg y (List.mem_of_getElem? hy)).keeps F2.keep
    · cases hlt : ltK x.2 y.2 with
      | false =>
        simp only [Bool.false_eq_true, if_false]
        refine wpAny_execs_nil (wpAny_execs_cons (wpAny_Break ?_))
        exact fin (.inr ⟨y, hy, hlt⟩) _ _ _ F2 N2 (up_ne (by decide) (up_ne (by decide) m1)) (up_ne (by decide) (up_ne (by decide) m3)) (up_ne (by decide) (up_ne (by decide) m4))
      | true =>
        simp only [if_true]
        refine wpAny_execs_cons (wpAny_Assign_Subscript (ldF F2 up_same (ldF F2 (up_ne (by decide) (up_ne (by decide) m1)) (ldF F2 (up_ne (by decide) (up_ne (by decide) m4)) (setF F2 N2 (.head fun _ h => nomatch h) (Int.natCast_nonneg _) (by simp [vals]; omega) (by omega) fun h3 F3 N3 => ?_)))))
        rw [vals_set] at N3
        refine wpAny_execs_cons (asg (ldF F3 (up_ne (by decide) up_same) ⟨_, _, _, _, _, _, rfl, F3, N3, fun h4 tk4 F4 N4 => ?_⟩))
        refine wpAny_execs_cons (wpAny_Continue ⟨_, ?_, _, _, _, es'.set pos' y, (pos' - 1) / 2, _, _, rfl, F4, N4, up_ne (by decide) (up_ne (by decide) (up_ne (by decide) m1)), up_ne (by decide) (up_ne (by decide) (up_ne (by decide) m2)), up_ne (by decide) (up_ne (by decide) (up_ne (by decide) m3)), up_same, hstep _ _ _ hP hgt (by omega) hy hlt, ?_, ?_, ?_, rfl⟩)
        · omega
        · rw [List.length_set]; exact hle
        · omega
        · intro e he
          rcases List.mem_or_eq_of_mem_set he with he | rfl
          · exact hTg e he
          · exact hTg _ (List.mem_of_getElem? hy)
  · rw [decide_eq_false (by omega)]
    simp only [Bool.false_eq_true, if_false]
    exact wpAny_execs_nil (fin (.inl (by omega)) _ _ _ F N m1 m3 m4)
end
end Mine

/-! part H2 -/
namespace Mine
local macro_rules | `(tactic| walk_at "lk") => `(tactic| first | exact up_same | assumption | (refine up_ne (by decide) ?_; walk_at "lk") | rfl)

section
variable {prog : Program} {w : World} {A : Around} {E : Value → Shared → Prop} {s : Shared}

/-- a call of a def by its name -/
theorem callF {id : Str} {p pos : Pos} {e : Expr} {args : List Expr} {env : Env} {f : Addr} {o : Obj} {fd : FuncData} {Q : Value → Shared → Prop}
    (k : wpAny (model prog w) A (eval (.Name id p) env) (fun v s₁ => v = .ref f ∧ wpAny (model prog w) A (spliced (backTo pos (starEach (e :: args) env))) (fun vs s₂ => (s₂.heap.get? f = some o ∧ o.data = .func fd) ∧
      codeAny (model prog w) A (.call (.ref f) ⟨vs, []⟩) (fun r s' => match r with | .ok (.ret v) => Q v s' | .ok _ => False | .error x => E x s') s₂) E s₁) E s)
    (ht : ∃ rest, backTo pos (starEach (e :: args) env) = (false, eval e env) :: rest := by exact ⟨_, rfl⟩) : wpAny (model prog w) A (eval (.Call (.Name id p) (e :: args) [] pos) env) Q E s := by
  obtain ⟨rest, ht⟩ := ht
  refine wpAny_Call_Name_kw (wpAny_mono k (fun v s₁ hv => ?_) fun _ _ x => x)
  obtain ⟨rfl, hv⟩ := hv
  rw [ht] at hv ⊢
  exact Calls.callWith_function (o := o) (fd := fd) (Calls.evalArgs_plain (wpAny_mono hv (fun vs s₂ h₂ => ⟨h₂.1, wpAny_call h₂.2⟩) fun _ _ x => x))
theorem callF1 {id : Str} {p pos : Pos} {e1 : Expr} {env : Env} {f : Addr} {o : Obj} {fd : FuncData} {Q : Value → Shared → Prop}
    (k : wpAny (model prog w) A (eval (.Name id p) env) (fun v s' => v = .ref f ∧ wpAny (model prog w) A (eval e1 env) (fun v1 s' => (s'.heap.get? f = some o ∧ o.data = .func fd) ∧ codeAny (model prog w) A (.call (.ref f) ⟨[v1], []⟩) (fun r s' => match r with | .ok (.ret v) => Q v s' | .ok _ => False | .error x => E x s') s') E s') E s)
    (ht : backTo pos (starEach [e1] env) = [(false, eval e1 env)] := by rfl) : wpAny (model prog w) A (eval (.Call (.Name id p) [e1] [] pos) env) Q E s := by
  refine callF (f := f) (o := o) (fd := fd) (wpAny_mono k (fun v s₁ hv => ?_) fun _ _ x => x) ⟨_, ht⟩
  obtain ⟨rfl, hv⟩ := hv
  refine ⟨rfl, ?_⟩
  rw [ht]
  exact Calls.spliced_cons (wpAny_mono hv (fun _ _ h => Calls.spliced_nil h) fun _ _ x => x)
theorem callF2 {id : Str} {p pos : Pos} {e1 e2 : Expr} {env : Env} {f : Addr} {o : Obj} {fd : FuncData} {Q : Value → Shared → Prop}
    (k : wpAny (model prog w) A (eval (.Name id p) env) (fun v s' => v = .ref f ∧ wpAny (model prog w) A (eval e1 env) (fun v1 s' => wpAny (model prog w) A (eval e2 env) (fun v2 s' => (s'.heap.get? f = some o ∧ o.data = .func fd) ∧ codeAny (model prog w) A (.call (.ref f) ⟨[v1, v2], []⟩) (fun r s' => match r with | .ok (.ret v) => Q v s' | .ok _ => False | .error x => E x s') s') E s') E s') E s)
    (ht : backTo pos (starEach [e1, e2] env) = [(false, eval e1 env), (false, eval e2 env)] := by rfl) : wpAny (model prog w) A (eval (.Call (.Name id p) [e1, e2] [] pos) env) Q E s := by
  refine callF (f := f) (o := o) (fd := fd) (wpAny_mono k (fun v s₁ hv => ?_) fun _ _ x => x) ⟨_, ht⟩
  obtain ⟨rfl, hv⟩ := hv
  refine ⟨rfl, ?_⟩
  rw [ht]
  exact Calls.spliced_cons (wpAny_mono hv (fun _ _ h => Calls.spliced_cons (wpAny_mono h (fun _ _ h => Calls.spliced_nil h) fun _ _ x => x)) fun _ _ x => x)
theorem callF3 {id : Str} {p pos : Pos} {e1 e2 e3 : Expr} {env : Env} {f : Addr} {o : Obj} {fd : FuncData} {Q : Value → Shared → Prop}
    (k : wpAny (model prog w) A (eval (.Name id p) env) (fun v s' => v = .ref f ∧ wpAny (model prog w) A (eval e1 env) (fun v1 s' => wpAny (model prog w) A (eval e2 env) (fun v2 s' => wpAny (model prog w) A (eval e3 env) (fun v3 s' => (s'.heap.get? f = some o ∧ o.data = .func fd) ∧ codeAny (model prog w) A (.call (.ref f) ⟨[v1, v2, v3], []⟩) (fun r s' => match r with | .ok (.ret v) => Q v s' | .ok _ => False | .error x => E x s') s') E s') E s') E s') E s)
    (ht : backTo pos (starEach [e1, e2, e3] env) = [(false, eval e1 env), (false, eval e2 env), (false, eval e3 env)] := by rfl) : wpAny (model prog w) A (eval (.Call (.Name id p) [e1, e2, e3] [] pos) env) Q E s := by
  refine callF (f := f) (o := o) (fd := fd) (wpAny_mono k (fun v s₁ hv => ?_) fun _ _ x => x) ⟨_, ht⟩
  obtain ⟨rfl, hv⟩ := hv
  refine ⟨rfl, ?_⟩
  rw [ht]
  exact Calls.spliced_cons (wpAny_mono hv (fun _ _ h => Calls.spliced_cons (wpAny_mono h (fun _ _ h => Calls.spliced_cons (wpAny_mono h (fun _ _ h => Calls.spliced_nil h) fun _ _ x => x)) fun _ _ x => x)) fun _ _ x => x)
/-- a call of a built-in function by its name, one argument -/
theorem callB1 {id : Str} {p pos : Pos} {e : Expr} {env : Env} {bid : String} {Q : Value → Shared → Prop}
    (k : wpAny (model prog w) A (eval (.Name id p) env) (fun v s₁ => v = .builtin bid ∧ wpAny (model prog w) A (eval e env) (fun x s₂ => wpAny (model prog w) A (call (.builtin bid) [x]) Q E s₂) E s₁) E s)
    (ht : backTo pos (starEach [e] env) = [(false, eval e env)] := by rfl) : wpAny (model prog w) A (eval (.Call (.Name id p) [e] [] pos) env) Q E s := by
  refine wpAny_Call_Name_kw (wpAny_mono k (fun v s₁ hv => ?_) fun _ _ x => x)
  obtain ⟨rfl, hv⟩ := hv
  rw [ht]
  exact Calls.callWith_builtin rfl (Calls.evalArgs_plain (Calls.spliced_cons (wpAny_mono hv (fun _ _ h => Calls.spliced_nil h) fun _ _ x => x)))

/-- the anchor of a def that changes one list -/
theorem openL {mg mb m : Str → Option Value} {h₀ h h₁ : Heap} {l : Addr} {es : List El} {c : Nat} (B : Base mg mb h₀) (K : Keeps h₀ h) (hl0 : h₀.get? l = none) (hl : h.get? l = some (listOf (vals es).toArray c))
    (hns : h₁.Ns h.objs.size m) (hk : Keeps h h₁) :
    ∃ g, Fm g h.objs.size h₁ m ∧ News g h.objs.size h₁ [(l, listOf (vals es).toArray c)] ∧ (∀ v k, TupIs h v k → TupIs g v k) ∧ Base mg mb g ∧ (∀ h', Keeps g h' → Heap.ExtBut l h h') ∧ Keeps h₀ g ∧ g.get? l = none := by
  have kg : Keeps h₀ (h.hide l) := fun b o e => (Heap.hide_ne h (by rintro rfl; rw [hl0] at e; cases e)).trans (K b o e)
  refine ⟨h.hide l, ⟨hns, (hide_keeps _ _).trans hk, hide_size_none _ _⟩, fun p hp => ?_, fun v k hv => ?_, B.keeps kg, fun _ => hide_ext, kg, hide_none _ _⟩
  · cases List.mem_singleton.mp hp
    exact ⟨hk _ _ hl, Nat.ne_of_lt (Heap.lt_size hl), hide_none _ _⟩
  · obtain ⟨a, t, u, e1, o', ho', hc', r⟩ := hv
    exact ⟨a, t, u, e1, o', (Heap.hide_ne _ (by rintro rfl; rw [hl] at ho'; cases ho'; exact absurd hc' (by simp))).trans ho', hc', r⟩

/-- c is the smaller child of p -/
def Child (es : List El) (p c : Nat) : Prop := ∃ a, es[2 * p + 1]? = some a ∧ ((c = 2 * p + 1 ∧ ∀ b, es[2 * p + 2]? = some b → ltK a.2 b.2 = true) ∨ (c = 2 * p + 2 ∧ ∃ b, es[2 * p + 2]? = some b ∧ ltK a.2 b.2 = false))

variable {R : Result → Shared → Prop}
theorem siftup_ {mg mb : Str → Option Value} {h₀ h : Heap} {tk : Nat} (hroom : A.depth + 1 < recursionLimit) (hu : A.units + 20 < cLine) (B : Base mg mb h₀) (K : Keeps h₀ h) {f : Addr} {o : Obj} {pm cd doc : Value} (hf : Fn h 10 f o pm cd doc)
    {l : Addr} {es : List El} {c : Nat} {pos : Nat} {tp : Tok} {x : El} (P P2 : List El → Nat → Prop) (hl0 : h₀.get? l = none)
    (hl : h.get? l = some (listOf (vals es).toArray c)) (hT : ∀ e ∈ es, TupIs h e.1 e.2) (hx : es[pos]? = some x) (hlen : es.length < 2 ^ 60) (hP : P es pos)
    (hup : ∀ es' pos' ch y, P es' pos' → pos' < es'.length → Child es' pos' ch → es'[ch]? = some y → P (es'.set pos' y) ch)
    (hmid : ∀ es' pos', P es' pos' → pos' < es'.length → es'.length ≤ 2 * pos' + 1 → P2 (es'.set pos' x) pos')
    (hdown : ∀ es' pos' y, P2 es' pos' → pos < pos' → pos' < es'.length → es'[(pos' - 1) / 2]? = some y → ltK x.2 y.2 = true → P2 (es'.set pos' y) ((pos' - 1) / 2))
    (k : ∀ h' tk' es' pos' c', P2 es' pos' → (pos' ≤ pos ∨ ∃ y, es'[(pos' - 1) / 2]? = some y ∧ ltK x.2 y.2 = false) → es'.length = es.length → pos' < es.length →
      Heap.ExtBut l h h' → h'.get? l = some (listOf (vals (es'.set pos' x)).toArray c') → R (.ok (.ret .none)) (Sx s h' tk')) :
    codeAny (model prog w) A (.call (.ref f) ⟨[.ref l, .int pos tp], []⟩) R (Sx s h tk) := by
  refine enter [("heap", .ref l), ("pos", .int pos tp)] (by omega) (B.keeps K).lim hf rfl rfl rfl rfl rfl (by decide +kernel) fun h₁ tk₁ hns hk => ?_
  obtain ⟨g, F, N, hTup, Bg, hext, kg, gl⟩ := openL B K hl0 hl hns hk
  have hTg : ∀ e ∈ es, TupIs g e.1 e.2 := fun e he => hTup _ _ (hT e he)
  generalize h.objs.size = L at F N
  have hA : (A.deeper (envOf (nameAt 10) (scopeAt 10) L f cd)).units + 11 < cLine := by show A.units + 3 + 11 < cLine; omega
  have hA2 : (A.deeper (envOf (nameAt 10) (scopeAt 10) L f cd)).depth < recursionLimit := by show A.depth + 1 < recursionLimit; omega
  generalize A.deeper (envOf (nameAt 10) (scopeAt 10) L f cd) = A' at hA hA2 ⊢
  have hpl := (List.getElem?_eq_some_iff.mp hx).1
  have hTx := hTg x (List.mem_of_getElem? hx)
  refine wpAny_execs_cons (asg (callB1 (blF (Bg.keeps F.keep).g Bg.len.1 (Bg.keeps F.keep).b Bg.len.2 ⟨rfl, ldF F (by walk_at "lk") (lenR (N _ (.head _)).1 (by simp [vals]; omega) fun te _ => ⟨_, _, _, _, _, _, rfl, F, N, fun h1 tk1 F1 N1 => ?_⟩)⟩)))
  refine wpAny_execs_cons (asg (ldF F1 (by walk_at "lk") ⟨_, _, _, _, _, _, rfl, F1, N1, fun h2 tk2 F2 N2 => ?_⟩))
  refine wpAny_execs_cons (asg (Subscript_ (ldF F2 (by walk_at "lk") (ldF F2 (by walk_at "lk") (itemF (N2 _ (.head _)).1 (Int.natCast_nonneg _) (by omega) (v := x.1) (vals_get hx) ⟨_, _, _, _, _, _, rfl, F2, N2, fun h3 tk3 F3 N3 => ?_⟩)))))
  refine wpAny_execs_cons (asg (wpAny_BinOp (wpAny_BinOp (intR fun _ _ => ldF F3 (by walk_at "lk") (mulR (by mul_fits) fun _ _ => intR fun _ _ => addR fun t1 tk1 => ⟨_, _, _, _, _, _, rfl, F3, N3, fun h4 tk4 F4 N4 => ?_⟩)))))
  have e1 : (2 : Int) * (pos : Int) + 1 = ((2 * pos + 1 : Nat) : Int) := by omega
  rw [e1] at F4
  have hvl : (vals es).length = es.length := by simp [vals]
  rw [hvl] at F4
  refine wpAny_execs_cons (while_ (fun j s' => ∃ h tk m es' pos' c' t1 t2, s' = Sx s h tk ∧ Fm g L h m ∧ News g L h [(l, listOf (vals es').toArray c')] ∧
    m "heap" = some (.ref l) ∧ m "startpos" = some (.int pos tp) ∧ m "newitem" = some x.1 ∧ m "endpos" = some (.int es.length te) ∧ m "pos" = some (.int (pos' : Nat) t1) ∧ m "childpos" = some (.int (2 * pos' + 1 : Nat) t2) ∧ P es' pos' ∧ es'.length = es.length ∧ pos' < es.length ∧
    (∀ e ∈ es', TupIs g e.1 e.2) ∧ es.length - pos' = j) ?_ (es.length - pos) ⟨_, _, _, es, pos, c, tp, t1, rfl, F4, N4, by walk_at "lk", by walk_at "lk", by walk_at "lk", by walk_at "lk", by walk_at "lk", by walk_at "lk", hP, rfl, hpl, hTg, rfl⟩)
  clear F N F1 N1 F2 N2 F3 N3 F4 N4 h1 h2 h3 h4 hns hk h₁ hP hTg
  rintro _ s' ⟨h', tk, m, es', pos', c', t1, t2, rfl, F, N, m1, m2, m3, m4, m5, m6, hP, hle, hpl', hTg, rfl⟩
  refine wpAny_isTrue_Compare1 (ldF F m6 (ldF F m4 (lt_int (wpAny_truthy_bool ?_))))
  by_cases hgt : 2 * pos' + 1 < es.length
  · rw [decide_eq_true (by omega)]
    simp only [if_true]
    obtain ⟨a, ha⟩ : ∃ a, es'[2 * pos' + 1]? = some a := ⟨_, List.getElem?_eq_getElem (by omega)⟩
    refine wpAny_execs_cons (asg (wpAny_BinOp (ldF F m6 (intR fun _ _ => addR fun t3 _ => ⟨_, _, _, _, _, _, rfl, F, N, fun h1 tk1 F1 N1 => ?_⟩))))
    have e2 : (((2 * pos' + 1 : Nat) : Int) + 1) = ((2 * pos' + 2 : Nat) : Int) := by omega
    rw [e2] at F1
    refine wpAny_execs_cons (wpAny_mono (Q := fun fl s₂ => fl = .next ∧ ∃ h tk m ch t, s₂ = Sx s h tk ∧ Fm g L h m ∧ News g L h [(l, listOf (vals es').toArray c')] ∧
      m "heap" = some (.ref l) ∧ m "startpos" = some (.int pos tp) ∧ m "newitem" = some x.1 ∧ m "endpos" = some (.int es.length te) ∧ m "pos" = some (.int (pos' : Nat) t1) ∧ m "childpos" = some (.int (ch : Nat) t) ∧ Child es' pos' ch) ?_ ?_ (fun _ _ x => x))
    · refine wpAny_If (isTrue_and (wpAny_isTrue_Compare1 (ldF F1 up_same (ldF F1 (by walk_at "lk") (lt_int (wpAny_truthy_bool ?_))))))
      by_cases hr : 2 * pos' + 2 < es.length
      · rw [decide_eq_true (by omega)]
        simp only [if_true]
        obtain ⟨b, hb⟩ : ∃ b, es'[2 * pos' + 2]? = some b := ⟨_, List.getElem?_eq_getElem (by omega)⟩
        refine isTrue_and (isTrue_not (wpAny_isTrue_Compare1 (Subscript_ (ldF F1 (by walk_at "lk") (ldF F1 (by walk_at "lk") (itemF (N1 _ (.head _)).1 (Int.natCast_nonneg _) (by omega) (v := a.1) (vals_get ha)
          (Subscript_ (ldF F1 (by walk_at "lk") (ldF F1 up_same (itemF (N1 _ (.head _)).1 (Int.natCast_nonneg _) (by omega) (v := b.1) (vals_get hb)
          (tup_lt (k := a.2) (l := b.2) (by omega) ((hTg a (List.mem_of_getElem? ha)).keeps F1.keep) ((hTg b (List.mem_of_getElem? hb)).keeps F1.keep) (wpAny_truthy_bool ?_))))))))))))
        cases hlt : ltK a.2 b.2 with
        | true =>
          simp only [Bool.not_true, Bool.false_eq_true, if_false]
          exact wpAny_execs_nil ⟨rfl, _, _, _, 2 * pos' + 1, _, rfl, F1, N1, by walk_at "lk", by walk_at "lk", by walk_at "lk", by walk_at "lk", by walk_at "lk", by walk_at "lk", a, ha, .inl ⟨rfl, fun b' hb' => by rw [hb] at hb'; cases hb'; exact hlt⟩⟩
        | false =>
          simp only [Bool.not_false, if_true]
          refine isTrue_and_nil ?_
          simp only [if_true]
          refine wpAny_execs_cons (asg (ldF F1 up_same ⟨_, _, _, _, _, _, rfl, F1, N1, fun h2 tk2 F2 N2 => ?_⟩))
          exact wpAny_execs_nil ⟨rfl, _, _, _, 2 * pos' + 2, _, rfl, F2, N2, by walk_at "lk", by walk_at "lk", by walk_at "lk", by walk_at "lk", by walk_at "lk", by walk_at "lk", a, ha, .inr ⟨rfl, b, hb, hlt⟩⟩
      · rw [decide_eq_false (by omega)]
        simp only [Bool.false_eq_true, if_false]
        exact wpAny_execs_nil ⟨rfl, _, _, _, 2 * pos' + 1, _, rfl, F1, N1, by walk_at "lk", by walk_at "lk", by walk_at "lk", by walk_at "lk", by walk_at "lk", by walk_at "lk", a, ha, .inl ⟨rfl, fun b' hb' => absurd (List.getElem?_eq_some_iff.mp hb').1 (by omega)⟩⟩
    · clear F1 N1 F N m1 m2 m3 m4 m5 m6
      rintro _ _ ⟨rfl, h2, tk2, m, ch, t, rfl, F, N, m1, m2, m3, m4, m5, m6, hc⟩
      have hch : ch < es'.length ∧ pos' < ch := by
        obtain ⟨a', ha', r⟩ := hc
        have := (List.getElem?_eq_some_iff.mp ha').1
        rcases r with ⟨rfl, _⟩ | ⟨rfl, b, hb, _⟩
        · omega
        · have := (List.getElem?_eq_some_iff.mp hb).1
          omega
      obtain ⟨y, hy⟩ : ∃ y, es'[ch]? = some y := ⟨_, List.getElem?_eq_getElem hch.1⟩
      refine wpAny_execs_cons (wpAny_Assign_Subscript (Subscript_ (ldF F m1 (ldF F m6 (itemF (N _ (.head _)).1 (Int.natCast_nonneg _) (by omega) (v := y.1) (vals_get hy)
        (ldF F m1 (ldF F m5 (setF F N (.head fun _ h => nomatch h) (Int.natCast_nonneg _) (by simp [vals]; omega) (by omega) fun h3 F3 N3 => ?_))))))))
      rw [vals_set] at N3
      refine wpAny_execs_cons (asg (ldF F3 m6 ⟨_, _, _, _, _, _, rfl, F3, N3, fun h4 tk4 F4 N4 => ?_⟩))
      refine wpAny_execs_cons (asg (wpAny_BinOp (wpAny_BinOp (intR fun _ _ => ldF F4 up_same (mulR (by mul_fits) fun _ _ => intR fun _ _ => addR fun t5 _ => ⟨_, _, _, _, _, _, rfl, F4, N4, fun h5 tk5 F5 N5 => ?_⟩)))))
      have e3 : (2 : Int) * (ch : Int) + 1 = ((2 * ch + 1 : Nat) : Int) := by omega
      rw [e3] at F5
      refine wpAny_execs_nil ⟨es.length - ch, by omega, _, _, _, es'.set pos' y, ch, _, _, _, rfl, F5, N5, by walk_at "lk", by walk_at "lk", by walk_at "lk", by walk_at "lk", by walk_at "lk", by walk_at "lk", hup _ _ _ _ hP (by omega) hc hy, ?_, by omega, ?_, rfl⟩
      · rw [List.length_set]; exact hle
      · intro e he
        rcases List.mem_or_eq_of_mem_set he with he | rfl
        · exact hTg e he
        · exact hTg _ (List.mem_of_getElem? hy)
  · rw [decide_eq_false (by omega)]
    simp only [Bool.false_eq_true, if_false]
    refine wpAny_execs_nil ?_
    refine wpAny_execs_cons (wpAny_Assign_Subscript (ldF F m3 (ldF F m1 (ldF F m5 (setF F N (.head fun _ h => nomatch h) (Int.natCast_nonneg _) (by simp [vals]; omega) (by omega) fun h3 F3 N3 => ?_)))))
    rw [vals_set] at N3
    obtain ⟨f9, o9, pm9, cd9, doc9, e9, hf9⟩ := Bg.fn 9 (by decide)
    refine wpAny_execs_cons (wpAny_Expr (callF3 (f := f9) (o := o9) (fd := fdAt 9 pm9 cd9 doc9) (glF (Bg.keeps F3.keep).g e9 ⟨rfl, ldF F3 m1 (ldF F3 m2 (ldF F3 m5 ?_))⟩)))
    refine ⟨⟨F3.keep _ _ hf9.get, hf9.data⟩, ?_⟩
    have hset : ∀ e ∈ es'.set pos' x, TupIs g e.1 e.2 := fun e he => by
      rcases List.mem_or_eq_of_mem_set he with he | rfl
      · exact hTg e he
      · exact hTx
    refine siftdown_ (x := x) hA2 (by omega) (Bg.keeps F3.keep).lim (hf9.keeps F3.keep) P2 (N3 _ (.head _)).1 (fun e he => (hset e he).keeps F3.keep) (by simp [hle, hpl']) (by simp; omega) (hmid _ _ hP (by omega) (by omega)) hdown ?_
    intro h4 tk4 es4 pos4 c4 hP4 hend4 hle4 hpl4 hx4 hl4
    refine wpAny_execs_nil (k h4 tk4 es4 pos4 c4 hP4 hend4 ?_ ?_ ?_ hl4)
    · rw [hle4, List.length_set, hle]
    · rw [List.length_set, hle] at hpl4; exact hpl4
    · intro b o hb e
      exact hx4 b o hb (hext _ F3.keep b o hb e)
end
end Mine

/-! part P1 -/
namespace Mine

/-! the order of the keys -/
theorem ltK_irrefl (a : Key) : ltK a a = false := by
  unfold ltK; rw [if_pos rfl]; simp
theorem ltK_trans {a b c : Key} (h1 : ltK a b = true) (h2 : ltK b c = true) : ltK a c = true := by
  unfold ltK at *
  by_cases e1 : a.1 = b.1 <;> by_cases e2 : b.1 = c.1
  · rw [if_pos e1] at h1; rw [if_pos e2] at h2; rw [if_pos (e1.trans e2)]
    simp only [decide_eq_true_eq] at *; exact List.lt_trans h1 h2
  · rw [if_neg e2] at h2; rw [if_neg (by omega)]; simp only [decide_eq_true_eq] at *; omega
  · rw [if_neg e1] at h1; rw [if_neg (by omega)]; simp only [decide_eq_true_eq] at *; omega
  · rw [if_neg e1] at h1; rw [if_neg e2] at h2; simp only [decide_eq_true_eq] at *; rw [if_neg (by omega)]; simp only [decide_eq_true_eq]; omega
theorem Str_ext {a b : Str} (h : a.cps.toList = b.cps.toList) : a = b := Str.ext' (Array.toList_inj.mp h)
theorem ltK_total {a b : Key} (h1 : ltK a b = false) (h2 : ltK b a = false) : a = b := by
  unfold ltK at *
  by_cases e : a.1 = b.1
  · rw [if_pos e] at h1; rw [if_pos e.symm] at h2
    simp only [decide_eq_false_iff_not] at *
    exact Prod.ext e (Str_ext (List.le_antisymm (List.not_lt.mp h2) (List.not_lt.mp h1)))
  · rw [if_neg e] at h1; rw [if_neg (Ne.symm e)] at h2
    simp only [decide_eq_false_iff_not] at *; omega
def leK (a b : Key) : Prop := ltK b a = false
theorem leK_refl (a : Key) : leK a a := ltK_irrefl a
theorem leK_of_lt {a b : Key} (h : ltK a b = true) : leK a b := by
  unfold leK
  cases e : ltK b a with
  | false => rfl
  | true => have := ltK_trans h e; rw [ltK_irrefl] at this; cases this
theorem leK_cases {a b : Key} (h : leK a b) : ltK a b = true ∨ a = b := by
  cases e : ltK a b with
  | true => exact .inl rfl
  | false => exact .inr (ltK_total e h)
theorem leK_trans {a b c : Key} (h1 : leK a b) (h2 : leK b c) : leK a c := by
  rcases leK_cases h1 with h1 | rfl
  · rcases leK_cases h2 with h2 | rfl
    · exact leK_of_lt (ltK_trans h1 h2)
    · exact leK_of_lt h1
  · exact h2
theorem leK_antisymm {a b : Key} (h1 : leK a b) (h2 : leK b a) : a = b := ltK_total h2 h1
theorem ltK_of_lt_le {a b c : Key} (h1 : ltK a b = true) (h2 : leK b c) : ltK a c = true := by
  rcases leK_cases h2 with h2 | rfl
  · exact ltK_trans h1 h2
  · exact h1
theorem ltK_of_le_lt {a b c : Key} (h1 : leK a b) (h2 : ltK b c = true) : ltK a c = true := by
  rcases leK_cases h1 with h1 | rfl
  · exact ltK_trans h1 h2
  · exact h2

def le (a b : El) : Prop := leK a.2 b.2

/-! heaps -/
theorem swap_perm {l : List El} {i j : Nat} {a b : El} (hi : l[i]? = some a) (hj : l[j]? = some b) : ((l.set i b).set j a).Perm l := by
  have h := swapIB_perm l.toArray i j
  rw [Array.perm_iff_toList_perm] at h
  have e : (l.toArray.swapIfInBounds i j).toList = (l.set i b).set j a := by
    obtain ⟨hi', rfl⟩ := List.getElem?_eq_some_iff.mp hi
    obtain ⟨hj', rfl⟩ := List.getElem?_eq_some_iff.mp hj
    rw [Array.swapIfInBounds_def]
    simp [hi', hj', Array.swap]
  rw [e] at h
  simpa using h

inductive Desc (s : Nat) : Nat → Prop
  | refl : Desc s s
  | step {p : Nat} : 0 < p → Desc s ((p - 1) / 2) → Desc s p
theorem Desc.le {s p : Nat} (h : Desc s p) : s ≤ p := by
  induction h with
  | refl => exact Nat.le_refl _
  | step hp _ ih => omega
theorem Desc.up {s p : Nat} (h : Desc s p) (hn : p ≠ s) : Desc s ((p - 1) / 2) := by
  cases h with
  | refl => exact absurd rfl hn
  | step _ h => exact h
theorem Desc.zero : ∀ p, Desc 0 p := by
  intro p
  induction p using Nat.strongRecOn with
  | ind p ih =>
    by_cases h : p = 0
    · subst h; exact .refl
    · exact .step (by omega) (ih _ (by omega))

/-- every parent from s on is no greater than its children -/
def HeapFrom (s : Nat) (es : List El) : Prop := ∀ i a b, 0 < i → s ≤ (i - 1) / 2 → es[i]? = some b → es[(i - 1) / 2]? = some a → le a b
/-- the edges that do not touch p -/
def Off (s p : Nat) (es : List El) : Prop := ∀ i a b, 0 < i → s ≤ (i - 1) / 2 → i ≠ p → (i - 1) / 2 ≠ p → es[i]? = some b → es[(i - 1) / 2]? = some a → le a b
/-- over the hole -/
def Over (s p : Nat) (es : List El) : Prop := p ≠ s → ∀ i a b, 0 < i → (i - 1) / 2 = p → es[i]? = some b → es[(p - 1) / 2]? = some a → le a b
structure UpInv (M : List El) (x : El) (s : Nat) (es : List El) (p : Nat) : Prop where
  desc : Desc s p
  perm : (es.set p x).Perm M
  off : Off s p es
  over : Over s p es
structure DownInv (M : List El) (x : El) (s : Nat) (es : List El) (p : Nat) : Prop extends UpInv M x s es p where
  below : ∀ i b, 0 < i → (i - 1) / 2 = p → es[i]? = some b → le x b

theorem get_set_ne {l : List El} {i j : Nat} {a : El} (h : i ≠ j) : (l.set i a)[j]? = l[j]? := by rw [List.getElem?_set_ne h]
theorem get_set_eq {l : List El} {i : Nat} {a : El} (h : i < l.length) : (l.set i a)[i]? = some a := by simp [h]

theorem UpInv.start {es : List El} {s : Nat} {x : El} (hx : es[s]? = some x) (h : HeapFrom (s + 1) es) : UpInv es x s es s := by
  refine ⟨.refl, ?_, fun i a b h0 h1 h2 h3 e1 e2 => h i a b h0 (by omega) e1 e2, fun h => absurd rfl h⟩
  have : es.set s x = es := by
    obtain ⟨hs, rfl⟩ := List.getElem?_eq_some_iff.mp hx
    simp
  rw [this]
theorem UpInv.step {M es : List El} {x y : El} {s p ch : Nat} (U : UpInv M x s es p) (hp : p < es.length) (hc : Child es p ch) (hy : es[ch]? = some y) : UpInv M x s (es.set p y) ch := by
  obtain ⟨a, ha, hc⟩ := hc
  have hch : 0 < ch ∧ (ch - 1) / 2 = p ∧ p < ch := by rcases hc with ⟨rfl, _⟩ | ⟨rfl, _⟩ <;> omega
  have hcl := (List.getElem?_eq_some_iff.mp hy).1
  -- y is no greater than the other child
  have hmin : ∀ i b, 0 < i → (i - 1) / 2 = p → i ≠ ch → es[i]? = some b → le y b := by
    intro i b h0 h1 h2 e
    rcases hc with ⟨rfl, hb⟩ | ⟨rfl, b', hb', hlt⟩
    · have : i = 2 * p + 2 := by omega
      subst this
      rw [ha] at hy; cases hy
      exact leK_of_lt (hb b e)
    · have : i = 2 * p + 1 := by omega
      subst this
      rw [ha] at e; cases e
      rw [hb'] at hy; cases hy
      exact hlt
  refine ⟨.step hch.1 (hch.2.1 ▸ U.desc), ?_, ?_, ?_⟩
  · refine List.Perm.trans ?_ U.perm
    have h1 : (es.set p x)[p]? = some x := get_set_eq hp
    have h2 : (es.set p x)[ch]? = some y := by rw [get_set_ne (by omega)]; exact hy
    have := swap_perm h1 h2
    rwa [List.set_set] at this
  · intro i u v h0 h1 h2 h3 e1 e2
    by_cases hi : i = p
    · subst hi
      rw [get_set_eq hp] at e1; cases e1
      rw [get_set_ne (by omega)] at e2
      refine U.over ?_ ch u _ hch.1 hch.2.1 hy e2
      intro e; subst e; omega
    · rw [get_set_ne (fun e => hi e.symm)] at e1
      by_cases hq : (i - 1) / 2 = p
      · rw [hq, get_set_eq hp] at e2; cases e2
        exact hmin i v h0 hq h2 e1
      · rw [get_set_ne (fun e => hq e.symm)] at e2
        exact U.off i u v h0 h1 hi hq e1 e2
  · intro _ i u v h0 h1 e1 e2
    rw [hch.2.1, get_set_eq hp] at e2; cases e2
    rw [get_set_ne (by omega)] at e1
    exact U.off i _ _ h0 (by have := U.desc.le; omega) (by omega) (by omega) e1 (by rw [h1]; exact hy)
theorem UpInv.mid {M es : List El} {x : El} {s p : Nat} (U : UpInv M x s es p) (hp : p < es.length) (hn : es.length ≤ 2 * p + 1) : DownInv M x s (es.set p x) p := by
  have no : ∀ i b, 0 < i → (i - 1) / 2 = p → (es.set p x)[i]? = some b → False := fun i b h0 h1 e => by
    have := (List.getElem?_eq_some_iff.mp e).1
    rw [List.length_set] at this
    omega
  refine ⟨⟨U.desc, by rw [List.set_set]; exact U.perm, ?_, fun _ i a b h0 h1 e1 _ => (no i b h0 h1 e1).elim⟩, fun i b h0 h1 e => (no i b h0 h1 e).elim⟩
  intro i a b h0 h1 h2 h3 e1 e2
  rw [get_set_ne (fun e => h2 e.symm)] at e1
  rw [get_set_ne (fun e => h3 e.symm)] at e2
  exact U.off i a b h0 h1 h2 h3 e1 e2
theorem DownInv.step {M es : List El} {x y : El} {s p : Nat} (U : DownInv M x s es p) (hs : s < p) (hp : p < es.length) (hy : es[(p - 1) / 2]? = some y) (hlt : ltK x.2 y.2 = true) :
    DownInv M x s (es.set p y) ((p - 1) / 2) := by
  have hd := U.desc.up (by omega)
  have hsq := hd.le
  have hxy : le x y := leK_of_lt hlt
  refine ⟨⟨hd, ?_, ?_, ?_⟩, ?_⟩
  · refine List.Perm.trans ?_ U.perm
    have h1 : (es.set p x)[p]? = some x := get_set_eq hp
    have h2 : (es.set p x)[(p - 1) / 2]? = some y := by rw [get_set_ne (by omega)]; exact hy
    have := swap_perm h1 h2
    rwa [List.set_set] at this
  · intro i a b h0 h1 h2 h3 e1 e2
    by_cases hi : i = p
    · subst hi; exact absurd rfl h3
    · rw [get_set_ne (fun e => hi e.symm)] at e1
      by_cases hq : (i - 1) / 2 = p
      · rw [hq, get_set_eq hp] at e2; cases e2
        exact U.over (by omega) i _ b h0 hq e1 hy
      · rw [get_set_ne (fun e => hq e.symm)] at e2
        exact U.off i a b h0 h1 hi hq e1 e2
  · intro hq i a b h0 h1 e1 e2
    have hq0 : 0 < (p - 1) / 2 := by omega
    have hsr := (hd.up hq).le
    rw [get_set_ne (by omega)] at e2
    have hay : le a y := U.off ((p - 1) / 2) a y hq0 hsr (by omega) (by omega) hy e2
    by_cases hi : i = p
    · subst hi
      rw [get_set_eq hp] at e1; cases e1
      exact hay
    · rw [get_set_ne (fun e => hi e.symm)] at e1
      exact leK_trans hay (U.off i y b h0 (by omega) hi (by omega) e1 (by rw [h1]; exact hy))
  · intro i b h0 h1 e1
    by_cases hi : i = p
    · subst hi
      rw [get_set_eq hp] at e1; cases e1
      exact hxy
    · rw [get_set_ne (fun e => hi e.symm)] at e1
      exact leK_trans hxy (U.off i y b h0 (by omega) hi (by omega) e1 (by rw [h1]; exact hy))
theorem DownInv.fin {M es : List El} {x : El} {s p : Nat} (U : DownInv M x s es p) (hp : p < es.length) (he : p ≤ s ∨ ∃ y, es[(p - 1) / 2]? = some y ∧ ltK x.2 y.2 = false) :
    (es.set p x).Perm M ∧ HeapFrom s (es.set p x) := by
  refine ⟨U.perm, fun i a b h0 h1 e1 e2 => ?_⟩
  have := U.desc.le
  by_cases hi : i = p
  · subst hi
    rw [get_set_eq hp] at e1; cases e1
    rw [get_set_ne (by omega)] at e2
    rcases he with he | ⟨y, hy, hlt⟩
    · omega
    · rw [hy] at e2; cases e2
      exact hlt
  · rw [get_set_ne (fun e => hi e.symm)] at e1
    by_cases hq : (i - 1) / 2 = p
    · rw [hq, get_set_eq hp] at e2; cases e2
      exact U.below i b h0 hq e1
    · rw [get_set_ne (fun e => hq e.symm)] at e2
      exact U.off i a b h0 h1 hi hq e1 e2
theorem DownInv.push {es : List El} {x : El} (h : HeapFrom 0 es) : DownInv (es ++ [x]) x 0 (es ++ [x]) es.length := by
  have no : ∀ i b, 0 < i → (i - 1) / 2 = es.length → (es ++ [x])[i]? = some b → False := fun i b h0 h1 e => by
    have := (List.getElem?_eq_some_iff.mp e).1
    simp at this
    omega
  refine ⟨⟨Desc.zero _, by simp, ?_, fun _ i a b h0 h1 e1 _ => (no i b h0 h1 e1).elim⟩, fun i b h0 h1 e => (no i b h0 h1 e).elim⟩
  intro i a b h0 h1 h2 h3 e1 e2
  have hi := (List.getElem?_eq_some_iff.mp e1).1
  simp at hi
  rw [List.getElem?_append_left (by omega)] at e1
  rw [List.getElem?_append_left (by omega)] at e2
  exact h i a b h0 h1 e1 e2
theorem HeapFrom.root {es : List El} (h : HeapFrom 0 es) {r : El} (hr : es[0]? = some r) : ∀ e ∈ es, le r e := by
  intro e he
  obtain ⟨i, hi⟩ := List.mem_iff_getElem?.mp he
  clear he
  induction i using Nat.strongRecOn generalizing e with
  | ind i ih =>
    by_cases h0 : i = 0
    · subst h0; rw [hr] at hi; cases hi; exact leK_refl _
    · have hl := (List.getElem?_eq_some_iff.mp hi).1
      obtain ⟨a, ha⟩ : ∃ a, es[(i - 1) / 2]? = some a := ⟨_, List.getElem?_eq_getElem (by omega)⟩
      exact leK_trans (ih _ (by omega) a ha) (h i a e (by omega) (Nat.zero_le _) hi ha)
end Mine

/-! part H3 -/
namespace Mine
local macro_rules | `(tactic| walk_at "lk") => `(tactic| first | exact up_same | assumption | (refine up_ne (by decide) ?_; walk_at "lk") | rfl)

section
variable {prog : Program} {w : World} {A : Around} {E : Value → Shared → Prop} {s : Shared} {R : Result → Shared → Prop}

/-- xs.append(e) -/
theorem appendC {x : Str} {xp apos pos : Pos} {elt : Expr} {n : Str} {sc : Scope} {L f : Addr} {cd : Value} {h : Heap} {tk : Nat} {g : Heap} {m : Str → Option Value} {l : Addr} {vs : List Value} {c : Nat} {Q : Value → Shared → Prop}
    (F : Fm g L h m) (hm : m x = some (.ref l)) (hl : h.get? l = some (listOf vs.toArray c))
    (k : wpAny (model prog w) A (eval elt (envOf n sc L f cd)) (fun y s₂ => wpAny (model prog w) A (call (.builtin "list.append") [.ref l, y]) Q E s₂) E (Sx s h tk))
    (hline : (apos.endLine == pos.line) = true := by rfl) (hk : sc.kind = .function := by rfl) (hv : (envOf n sc L f cd).kindOf x = some .local := by rfl) (hd : (x == ("__debug__" : Str)) = false := by decide)
    (htrees : backTo pos (starEach [elt] (envOf n sc L f cd)) = [(false, eval elt (envOf n sc L f cd))] := by rfl)
    (hbase : attributeBase (.Name x xp) "append" (envOf n sc L f cd) (eval (.Name x xp) (envOf n sc L f cd)) = eval (.Name x xp) (envOf n sc L f cd) := by rfl) :
    wpAny (model prog w) A (eval (.Call (.Attribute (.Name x xp) "append" apos) [elt] [] pos) (envOf n sc L f cd)) Q E (Sx s h tk) :=
  wpAny_Call_append hbase (by rw [htrees]; rfl) hline htrees (ldF F hm ⟨l, vs.toArray, rfl, ⟨_, c, hl, rfl, rfl, rfl⟩, k⟩ hk hv hd)
/-- xs.pop() -/
theorem popC {x : Str} {xp apos pos : Pos} {n : Str} {sc : Scope} {L f : Addr} {cd : Value} {h : Heap} {tk : Nat} {g : Heap} {m : Str → Option Value} {l : Addr} {vs : List Value} {c : Nat} {Q : Value → Shared → Prop}
    (F : Fm g L h m) (hm : m x = some (.ref l)) (hl : h.get? l = some (listOf vs.toArray c))
    (k : wpAny (model prog w) A (call (.builtin "list.pop") [.ref l]) Q E (Sx s h tk))
    (hline : (apos.endLine == pos.line) = true := by rfl) (hk : sc.kind = .function := by rfl) (hv : (envOf n sc L f cd).kindOf x = some .local := by rfl) (hd : (x == ("__debug__" : Str)) = false := by decide)
    (hbase : attributeBase (.Name x xp) "pop" (envOf n sc L f cd) (eval (.Name x xp) (envOf n sc L f cd)) = eval (.Name x xp) (envOf n sc L f cd) := by rfl) :
    wpAny (model prog w) A (eval (.Call (.Attribute (.Name x xp) "pop" apos) [] [] pos) (envOf n sc L f cd)) Q E (Sx s h tk) :=
  wpAny_Call_method0_late hbase hline (ldF F hm ⟨"list", "list.pop", PySem.F.plainAttrs_list, PySem.F.slot_list_pop, PySem.F.type_list_pop, ⟨_, hl, rfl⟩, (fun a e => by cases e; exact ⟨_, hl, rfl⟩),
    Calls.callWith_builtin rfl (PySem.evalArgs_none k)⟩ hk hv hd)

theorem truthyR {h : Heap} {tk : Nat} {l : Addr} {vs : List Value} {c : Nat} {Q : Bool → Shared → Prop} (hl : h.get? l = some (listOf vs.toArray c)) (hfit : (vs.length : Int) < 2 ^ 63) (k : ∀ tk', Q (!vs.isEmpty) (Sx s h tk')) :
    wpAny (model prog w) A (truthy (.ref l)) Q E (Sx s h tk) :=
  wpAny_truthy_list (s := Sx s h tk) (PySem.IsL.isList (n := c) hl) (by rw [List.size_toArray]; exact hfit) (by rw [List.isEmpty_toArray]; exact k _)

/-- _siftup restores the heap -/
theorem siftup_heap {mg mb : Str → Option Value} {h₀ h : Heap} {tk : Nat} (hroom : A.depth + 1 < recursionLimit) (hu : A.units + 20 < cLine) (B : Base mg mb h₀) (K : Keeps h₀ h) {f : Addr} {o : Obj} {pm cd doc : Value} (hf : Fn h 10 f o pm cd doc)
    {l : Addr} {es : List El} {c : Nat} {pos : Nat} {tp : Tok} (hl0 : h₀.get? l = none)
    (hl : h.get? l = some (listOf (vals es).toArray c)) (hT : ∀ e ∈ es, TupIs h e.1 e.2) (hp : pos < es.length) (hlen : es.length < 2 ^ 60) (hH : HeapFrom (pos + 1) es)
    (k : ∀ h' tk' es' c', es'.Perm es → HeapFrom pos es' → Heap.ExtBut l h h' → h'.get? l = some (listOf (vals es').toArray c') → R (.ok (.ret .none)) (Sx s h' tk')) :
    codeAny (model prog w) A (.call (.ref f) ⟨[.ref l, .int pos tp], []⟩) R (Sx s h tk) := by
  obtain ⟨x, hx⟩ : ∃ x, es[pos]? = some x := ⟨_, List.getElem?_eq_getElem hp⟩
  refine siftup_ (x := x) hroom hu B K hf (UpInv es x pos) (DownInv es x pos) hl0 hl hT hx hlen (UpInv.start hx hH) (fun _ _ _ _ U hp hc hy => U.step hp hc hy) (fun _ _ U hp hn => U.mid hp hn)
    (fun _ _ _ U hs hp hy hlt => U.step hs hp hy hlt) fun h' tk' es' pos' c' U he hle hpl hx' hl' => ?_
  have := U.fin (by omega) he
  exact k h' tk' _ c' this.1 this.2 hx' hl'

theorem heappush_ {mg mb : Str → Option Value} {h₀ h : Heap} {tk : Nat} (hroom : A.depth + 1 < recursionLimit) (hu : A.units + 20 < cLine) (B : Base mg mb h₀) (K : Keeps h₀ h) {f : Addr} {o : Obj} {pm cd doc : Value} (hf : Fn h 5 f o pm cd doc)
    {l : Addr} {es : List El} {c : Nat} {x : El} (hl0 : h₀.get? l = none)
    (hl : h.get? l = some (listOf (vals es).toArray c)) (hT : ∀ e ∈ es, TupIs h e.1 e.2) (hTx : TupIs h x.1 x.2) (hlen : es.length < 1000) (hH : HeapFrom 0 es)
    (k : ∀ h' tk' es' c', es'.Perm (es ++ [x]) → HeapFrom 0 es' → Heap.ExtBut l h h' → h'.get? l = some (listOf (vals es').toArray c') → R (.ok (.ret .none)) (Sx s h' tk')) :
    codeAny (model prog w) A (.call (.ref f) ⟨[.ref l, x.1], []⟩) R (Sx s h tk) := by
  refine enter [("heap", .ref l), ("item", x.1)] (by omega) (B.keeps K).lim hf rfl rfl rfl rfl rfl (by decide +kernel) fun h₁ tk₁ hns hk => ?_
  obtain ⟨g, F, N, hTup, Bg, hext, kg, gl⟩ := openL B K hl0 hl hns hk
  generalize h.objs.size = L at F N
  have hA : (A.deeper (envOf (nameAt 5) (scopeAt 5) L f cd)).units + 11 < cLine := by show A.units + 3 + 11 < cLine; omega
  have hA2 : (A.deeper (envOf (nameAt 5) (scopeAt 5) L f cd)).depth < recursionLimit := by show A.depth + 1 < recursionLimit; omega
  generalize A.deeper (envOf (nameAt 5) (scopeAt 5) L f cd) = A' at hA hA2 ⊢
  refine wpAny_execs_cons (wpAny_Expr (appendC F (by walk_at "lk") (N _ (.head _)).1 (ldF F (by walk_at "lk") (appendF F N (.head fun _ h => nomatch h) (by simp [vals, sizeLine]; omega) fun h1 F1 N1 => ?_))))
  have ev : vals es ++ [x.1] = vals (es ++ [x]) := by simp [vals]
  rw [ev] at N1
  have hle : (vals (es ++ [x])).length = es.length + 1 := by simp [vals]
  obtain ⟨f9, o9, pm9, cd9, doc9, e9, hf9⟩ := Bg.fn 9 (by decide)
  have B1 := Bg.keeps F1.keep
  refine wpAny_execs_cons (wpAny_Expr (callF3 (f := f9) (o := o9) (fd := fdAt 9 pm9 cd9 doc9) (glF B1.g e9 ⟨rfl, ldF F1 (by walk_at "lk") (intR fun t1 tk1 => wpAny_BinOp (callB1
    (blF B1.g Bg.len.1 B1.b Bg.len.2 ⟨rfl, ldF F1 (by walk_at "lk") (lenR (N1 _ (.head _)).1 (by rw [hle]; omega) fun t2 tk2 => intR fun t3 tk3 => subR fun t4 tk4 => ?_)⟩)))⟩)))
  refine ⟨⟨F1.keep _ _ hf9.get, hf9.data⟩, ?_⟩
  have e1 : (((vals (es ++ [x])).length : Nat) : Int) - 1 = ((es.length : Nat) : Int) := by rw [hle]; omega
  rw [e1]
  have hTs : ∀ e ∈ es ++ [x], TupIs h1 e.1 e.2 := fun e he => by
    rcases List.mem_append.mp he with he | he
    · exact (hTup _ _ (hT e he)).keeps F1.keep
    · cases List.mem_singleton.mp he; exact (hTup _ _ hTx).keeps F1.keep
  refine siftdown_ (start := 0) (x := x) hA2 (by omega) B1.lim (hf9.keeps F1.keep) (DownInv (es ++ [x]) x 0) (N1 _ (.head _)).1 hTs (by simp) (by simp; omega) (DownInv.push hH) (fun _ _ _ U hs hp hy hlt => U.step hs hp hy hlt) ?_
  intro h4 tk4 es4 pos4 c4 U he hle4 hpl4 hx4 hl4
  have fin := U.fin (by omega) he
  refine wpAny_execs_nil (k h4 tk4 _ c4 fin.1 fin.2 (fun b o hb e => hx4 b o hb (hext _ F1.keep b o hb e)) hl4)

theorem heap_set_root {es : List El} {y : El} (hH : HeapFrom 0 es) : HeapFrom 1 (es.set 0 y) := by
  intro i a b h0 h1 e1 e2
  rw [get_set_ne (by omega)] at e1
  rw [get_set_ne (by omega)] at e2
  exact hH i a b h0 (Nat.zero_le _) e1 e2
theorem heap_init {es : List El} {y : El} (hH : HeapFrom 0 (es ++ [y])) : HeapFrom 0 es := by
  intro i a b h0 h1 e1 e2
  have hi := (List.getElem?_eq_some_iff.mp e1).1
  exact hH i a b h0 h1 (by rw [List.getElem?_append_left hi]; exact e1) (by rw [List.getElem?_append_left (by omega)]; exact e2)
theorem perm_set_root {es : List El} {r y : El} (hr : es[0]? = some r) : (r :: es.set 0 y).Perm (y :: es) := by
  cases es with
  | nil => cases hr
  | cons a es => cases hr; exact List.Perm.swap _ _ _

theorem heapreplace_ {mg mb : Str → Option Value} {h₀ h : Heap} {tk : Nat} (hroom : A.depth + 2 < recursionLimit) (hu : A.units + 30 < cLine) (B : Base mg mb h₀) (K : Keeps h₀ h) {f : Addr} {o : Obj} {pm cd doc : Value} (hf : Fn h 7 f o pm cd doc)
    {l : Addr} {es : List El} {c : Nat} {x r : El} (hl0 : h₀.get? l = none)
    (hl : h.get? l = some (listOf (vals es).toArray c)) (hT : ∀ e ∈ es, TupIs h e.1 e.2) (hTx : TupIs h x.1 x.2) (hlen : es.length < 1000) (hH : HeapFrom 0 es) (hr : es[0]? = some r)
    (k : ∀ h' tk' es' c', (r :: es').Perm (x :: es) → HeapFrom 0 es' → Heap.ExtBut l h h' → h'.get? l = some (listOf (vals es').toArray c') → R (.ok (.ret r.1)) (Sx s h' tk')) :
    codeAny (model prog w) A (.call (.ref f) ⟨[.ref l, x.1], []⟩) R (Sx s h tk) := by
  refine enter [("heap", .ref l), ("item", x.1)] (by omega) (B.keeps K).lim hf rfl rfl rfl rfl rfl (by decide +kernel) fun h₁ tk₁ hns hk => ?_
  obtain ⟨g, F, N, hTup, Bg, hext, kg, gl⟩ := openL B K hl0 hl hns hk
  generalize h.objs.size = L at F N
  have hA : (A.deeper (envOf (nameAt 7) (scopeAt 7) L f cd)).units + 20 < cLine := by show A.units + 3 + 20 < cLine; omega
  have hA2 : (A.deeper (envOf (nameAt 7) (scopeAt 7) L f cd)).depth + 1 < recursionLimit := by show A.depth + 1 + 1 < recursionLimit; omega
  generalize A.deeper (envOf (nameAt 7) (scopeAt 7) L f cd) = A' at hA hA2 ⊢
  have h0l := (List.getElem?_eq_some_iff.mp hr).1
  refine wpAny_execs_cons (asg (Subscript_ (ldF F (by walk_at "lk") (intR fun _ _ => itemF (k := ((0 : Nat) : Int)) (N _ (.head _)).1 (by omega) (by omega) (v := r.1) (vals_get hr) ⟨_, _, _, _, _, _, rfl, F, N, fun h1 tk1 F1 N1 => ?_⟩))))
  refine wpAny_execs_cons (wpAny_Assign_Subscript (ldF F1 (by walk_at "lk") (ldF F1 (by walk_at "lk") (intR fun _ _ => setF (k := ((0 : Nat) : Int)) F1 N1 (.head fun _ h => nomatch h) (by omega) (by simp [vals]; omega) (by omega) fun h2 F2 N2 => ?_))))
  rw [vals_set] at N2
  obtain ⟨f9, o9, pm9, cd9, doc9, e9, hf9⟩ := Bg.fn 10 (by decide)
  have B2 := Bg.keeps F2.keep
  refine wpAny_execs_cons (wpAny_Expr (callF2 (f := f9) (o := o9) (fd := fdAt 10 pm9 cd9 doc9) (glF B2.g e9 ⟨rfl, ldF F2 (by walk_at "lk") (intR fun t1 tk1 => ?_)⟩)))
  refine ⟨⟨F2.keep _ _ hf9.get, hf9.data⟩, ?_⟩
  have hTs : ∀ e ∈ es.set 0 x, TupIs h2 e.1 e.2 := fun e he => by
    rcases List.mem_or_eq_of_mem_set he with he | rfl
    · exact (hTup _ _ (hT e he)).keeps F2.keep
    · exact (hTup _ _ hTx).keeps F2.keep
  refine siftup_heap (pos := 0) hA2 (by omega) Bg F2.keep (hf9.keeps F2.keep) gl (N2 _ (.head _)).1 hTs (by simp; omega) (by simp; omega) (heap_set_root hH) fun h3 tk3 es3 c3 p3 H3 x3 l3 => ?_
  have hLl : L ≠ l := fun e => (N2 _ (.head _)).2.1 e.symm
  have F3 : Fm g L h3 _ := F2.ext x3 (Ne.symm hLl) gl
  refine wpAny_execs_cons (wpAny_Return_some (ldF F3 (by walk_at "lk") ?_))
  exact k h3 _ es3 c3 ((p3.cons r).trans (perm_set_root hr)) H3 (fun b o hb e => x3 b o hb (hext _ F2.keep b o hb e)) l3

theorem heappop_ {mg mb : Str → Option Value} {h₀ h : Heap} {tk : Nat} (hroom : A.depth + 2 < recursionLimit) (hu : A.units + 30 < cLine) (B : Base mg mb h₀) (K : Keeps h₀ h) {f : Addr} {o : Obj} {pm cd doc : Value} (hf : Fn h 6 f o pm cd doc)
    {l : Addr} {es : List El} {c : Nat} {r : El} (hl0 : h₀.get? l = none)
    (hl : h.get? l = some (listOf (vals es).toArray c)) (hT : ∀ e ∈ es, TupIs h e.1 e.2) (hlen : es.length < 1000) (hH : HeapFrom 0 es) (hr : es[0]? = some r)
    (k : ∀ h' tk' es' c', (r :: es').Perm es → HeapFrom 0 es' → Heap.ExtBut l h h' → h'.get? l = some (listOf (vals es').toArray c') → R (.ok (.ret r.1)) (Sx s h' tk')) :
    codeAny (model prog w) A (.call (.ref f) ⟨[.ref l], []⟩) R (Sx s h tk) := by
  obtain ⟨es, y, rfl⟩ : ∃ es₀ y, es = es₀ ++ [y] := by
    have : es ≠ [] := by rintro rfl; cases hr
    exact ⟨es.dropLast, es.getLast this, (List.dropLast_concat_getLast this).symm⟩
  refine enter [("heap", .ref l)] (by omega) (B.keeps K).lim hf rfl rfl rfl rfl rfl (by decide +kernel) fun h₁ tk₁ hns hk => ?_
  obtain ⟨g, F, N, hTup, Bg, hext, kg, gl⟩ := openL B K hl0 hl hns hk
  generalize h.objs.size = L at F N
  have hA : (A.deeper (envOf (nameAt 6) (scopeAt 6) L f cd)).units + 20 < cLine := by show A.units + 3 + 20 < cLine; omega
  have hA2 : (A.deeper (envOf (nameAt 6) (scopeAt 6) L f cd)).depth + 1 < recursionLimit := by show A.depth + 1 + 1 < recursionLimit; omega
  generalize A.deeper (envOf (nameAt 6) (scopeAt 6) L f cd) = A' at hA hA2 ⊢
  have ev : vals (es ++ [y]) = vals es ++ [y.1] := by simp [vals]
  simp only [List.length_append, List.length_singleton] at hlen
  rw [ev] at N
  refine wpAny_execs_cons (asg (popC F (by walk_at "lk") (N _ (.head _)).1 (popF F N (.head fun _ h => nomatch h) (by simp [vals, sizeLine]; omega) fun h1 F1 N1 => ⟨_, _, _, _, _, _, rfl, F1, N1, fun h2 tk2 F2 N2 => ?_⟩)))
  have hLl : L ≠ l := fun e => (N2 _ (.head _)).2.1 e.symm
  refine wpAny_execs_cons (wpAny_If (isTrue_plain (ldF F2 (by walk_at "lk") (truthyR (N2 _ (.head _)).1 (by simp [vals]; omega) fun tk3 => ?_))))
  by_cases hemp : es = []
  · subst hemp
    simp only [List.nil_append, List.getElem?_cons_zero, Option.some.injEq] at hr
    subst hr
    show if (false : Bool) = true then _ else _
    rw [if_neg (by simp)]
    refine wpAny_execs_nil (wpAny_execs_cons (wpAny_Return_some (ldF F2 (by walk_at "lk") ?_)))
    exact k h2 _ [] _ (.refl _) (fun i a b _ _ e _ => by cases e) (hext _ F2.keep) (N2 _ (.head _)).1
  · have hb : (!(vals es).isEmpty) = true := by
      cases es with
      | nil => exact absurd rfl hemp
      | cons _ _ => rfl
    rw [hb, if_pos rfl]
    have hpos : 0 < es.length := List.length_pos_iff.mpr hemp
    have hr' : es[0]? = some r := by rw [List.getElem?_append_left hpos] at hr; exact hr
    refine wpAny_execs_cons (asg (Subscript_ (ldF F2 (by walk_at "lk") (intR fun _ _ => itemF (k := ((0 : Nat) : Int)) (N2 _ (.head _)).1 (by omega) (by omega) (v := r.1) (vals_get hr') ⟨_, _, _, _, _, _, rfl, F2, N2, fun h3 tk3 F3 N3 => ?_⟩))))
    refine wpAny_execs_cons (wpAny_Assign_Subscript (ldF F3 (v := y.1) (by walk_at "lk") (ldF F3 (by walk_at "lk") (intR fun _ _ => setF (k := ((0 : Nat) : Int)) F3 N3 (.head fun _ h => nomatch h) (by omega) (by simp [vals]; omega) (by omega) fun h4 F4 N4 => ?_))))
    rw [vals_set] at N4
    obtain ⟨f9, o9, pm9, cd9, doc9, e9, hf9⟩ := Bg.fn 10 (by decide)
    have B4 := Bg.keeps F4.keep
    refine wpAny_execs_cons (wpAny_Expr (callF2 (f := f9) (o := o9) (fd := fdAt 10 pm9 cd9 doc9) (glF B4.g e9 ⟨rfl, ldF F4 (by walk_at "lk") (intR fun t1 tk1 => ?_)⟩)))
    refine ⟨⟨F4.keep _ _ hf9.get, hf9.data⟩, ?_⟩
    have hTs : ∀ e ∈ es.set 0 y, TupIs h4 e.1 e.2 := fun e he => by
      rcases List.mem_or_eq_of_mem_set he with he | rfl
      · exact (hTup _ _ (hT e (List.mem_append_left _ he))).keeps F4.keep
      · exact (hTup _ _ (hT _ (List.mem_append_right _ (.head _)))).keeps F4.keep
    refine siftup_heap (pos := 0) hA2 (by omega) Bg F4.keep (hf9.keeps F4.keep) gl (N4 _ (.head _)).1 hTs (by simp; omega) (by simp; omega) (heap_set_root (heap_init hH)) fun h5 tk5 es5 c5 p5 H5 x5 l5 => ?_
    have F5 : Fm g L h5 _ := F4.ext x5 (Ne.symm hLl) gl
    refine wpAny_execs_cons (wpAny_Return_some (ldF F5 (by walk_at "lk") ?_))
    exact k h5 _ es5 c5 ((p5.cons r).trans ((perm_set_root hr').trans (List.perm_append_singleton y es).symm)) H5 (fun b o hb e => x5 b o hb (hext _ F4.keep b o hb e)) l5
end
end Mine

/-! part H4 -/
namespace Mine
local macro_rules | `(tactic| walk_at "lk") => `(tactic| first | exact up_same | assumption | (refine up_ne (by decide) ?_; walk_at "lk") | rfl)

section
variable {prog : Program} {w : World} {A : Around} {E : Value → Shared → Prop} {s : Shared} {R : Result → Shared → Prop}

theorem sub_ri_reversed : isSubtype (.type "range_iterator") (.type "reversed") = pure false := by rw [isSubtype_type]; kernel_rfl
abbrev rangeIt (x left step : Int) : Obj := { cls := .type "range_iterator", data := .fields #[rawInt x, rawInt left, rawInt step] }
abbrev rangeObj (a b c : Int) (t u v : Tok) : Obj := { cls := .type "range", data := .fields #[.int a t, .int b u, .int c v] }

theorem call_range_reversed {r : Addr} {n : Int} {t u v : Tok} {Q : Value → Shared → Prop} (hr : IsRange s.heap r 0 n 1 t u v) (h0 : 0 ≤ n) (hn : n < 1000000)
    (h : Q (.ref s.heap.objs.size) { s with heap := s.heap.push (rangeIt (n - 1) n (-1)) }) : wpAny (model prog w) A (call (.builtin "range.__reversed__") [.ref r]) Q E s := by
  have hT : s.TypeIs (.ref r) "range" := ⟨_, hr, rfl⟩
  refine wpAny_call_entry PySem.F.slot_range_reversed hT PySem.F.entry_range_reversed ?_ (PySem.F.args_range_reversed_1 _)
  unfold Builtin.«range.__reversed__»
  refine wpAny_bind (wpAny_of_eq (a := Value.ref r) rfl ?_)
  refine wpAny_bind ?_
  unfold Builtin.Range.rangeFields
  refine wpAny_bind (wpAny_field hr rfl (x := .int 0 t) rfl ?_)
  refine wpAny_bind (wpAny_of_eq (a := some 0) rfl ?_)
  refine wpAny_bind (wpAny_field hr rfl (x := .int n u) rfl ?_)
  refine wpAny_bind (wpAny_of_eq (a := some n) rfl ?_)
  refine wpAny_bind (wpAny_field hr rfl (x := .int 1 v) rfl ?_)
  refine wpAny_bind (wpAny_of_eq (a := some 1) rfl ?_)
  refine wpAny_pure ?_
  have hsz : Builtin.Range.rangeSize 0 n 1 = n := by
    rw [rangeSize_one]
    split <;> omega
  dsimp only
  rw [hsz]
  have hsm : (Builtin.Range.rangeFitsLong 0 && Builtin.Range.rangeFitsLong n && Builtin.Range.rangeFitsLong 1 && Builtin.Range.rangeFitsLong (-1) && Builtin.Range.rangeFitsLong (0 - 1) && Builtin.Range.rangeFitsLong n) = true := by
    simp [Builtin.Range.rangeFitsLong]
    omega
  rw [hsm]
  simp only [Bool.not_true, Bool.false_eq_true, if_false, if_true]
  have e : 0 + (n - 1) * 1 = n - 1 := by omega
  rw [e]
  exact wpAny_bind (wpAny_newObj_type (wpAny_pure ⟨_, rfl, h⟩))

theorem code_reversed_range {r : Addr} {n : Int} {t u v : Tok} {Q₁ : Value → Shared → Prop} (hr : IsRange s.heap r 0 n 1 t u v) (h0 : 0 ≤ n) (hn : n < 1000000)
    (h : Q₁ (.ref s.heap.objs.size) { s with heap := s.heap.push (rangeIt (n - 1) n (-1)) }) :
    codeAny (model prog w) A (.call (.builtin "reversed.__new__") ⟨[.type "reversed", .ref r], []⟩) (wants Q₁ E) s := by
  have hT : s.TypeIs (.ref r) "range" := ⟨_, hr, rfl⟩
  refine codeAny_of_tree ?_
  show wpAny _ A.in1 (do checkBuiltinCall "reversed.__new__" ⟨[.type "reversed", .ref r], []⟩; again (.builtin "reversed.__new__" ⟨[.type "reversed", .ref r], []⟩)) _ _ s
  refine wpAny_bind (wpAny_of_eq (PySem.F.newCall_reversed_1 _) (wpAny_pure ⟨plainId_quiet PySem.F.plain_reversed_new _, codeAny_builtin PySem.F.entry_reversed_new ?_⟩))
  rw [Around.under_plainId PySem.F.plain_reversed_new _]
  unfold Builtin.«reversed.__new__»
  refine wpAny_bind (wpAny_of_eq (newClass_reversed _) ?_)
  refine wpAny_bind (wpAny_of_eq (a := ()) (by first | rfl | kernel_rfl) ?_)
  refine wpAny_bind (wpAny_of_eq (a := ()) (by first | rfl | kernel_rfl) ?_)
  dsimp only
  refine wpAny_bind (wpAny_specialOf hT PySem.F.slot_range_reversed.lookup ?_)
  dsimp only
  refine wpAny_bind (wpAny_of_eq (PySem.F.slot_range_reversed.bind _) ?_)
  dsimp only
  show wpAny _ _ (if (Value.builtin "range.__reversed__" == Value.none) = true then _ else _) _ _ _
  rw [if_neg (show ¬ ((Value.builtin "range.__reversed__" == Value.none) = true) from Bool.false_ne_true)]
  refine wpAny_bind (wpAny_rule ?_)
  refine wpAny_bind (m := runValue (.call (.builtin "range.__reversed__") ⟨[.ref r], []⟩)) (show wpAny _ _ (call (.builtin "range.__reversed__") [.ref r]) _ _ _ from call_range_reversed hr h0 hn ?_)
  first
  | exact wpAny_pure h
  | exact wpAny_bind (wpAny_pure (wpAny_pure h))

theorem call_reversed_range {r : Addr} {n : Int} {t u v : Tok} {Q : Value → Shared → Prop} (hr : IsRange s.heap r 0 n 1 t u v) (h0 : 0 ≤ n) (hn : n < 1000000)
    (h : Q (.ref s.heap.objs.size) { s with heap := s.heap.push (rangeIt (n - 1) n (-1)) }) : wpAny (model prog w) A (call (.type "reversed") [.ref r]) Q E s := by
  refine callType_other (U := "range_iterator") (Q₁ := fun obj s₁ => obj = .ref s.heap.objs.size ∧ s₁ = { s with heap := s.heap.push (rangeIt (n - 1) n (-1)) }) (by decide +kernel) PySem.F.create_reversed ⟨_, _, PySem.F.mro_reversed⟩ PySem.F.made_reversed sub_ri_reversed (PySem.F.typeCall_reversed_1 _) (code_reversed_range hr h0 hn ⟨rfl, rfl⟩) ?_
  rintro obj s₁ ⟨rfl, rfl⟩
  exact ⟨⟨_, Heap.get?_push_size _ rfl, rfl⟩, h⟩

/-- a call of a built-in type by its name, one argument -/
theorem callT1 {id : Str} {p pos : Pos} {e : Expr} {env : Env} {T : String} {Q : Value → Shared → Prop}
    (k : wpAny (model prog w) A (eval (.Name id p) env) (fun v s₁ => v = .type T ∧ wpAny (model prog w) A (eval e env) (fun x s₂ => wpAny (model prog w) A (call (.type T) [x]) Q E s₂) E s₁) E s)
    (ht : backTo pos (starEach [e] env) = [(false, eval e env)] := by rfl) : wpAny (model prog w) A (eval (.Call (.Name id p) [e] [] pos) env) Q E s := by
  refine wpAny_Call_Name_kw (wpAny_mono k (fun v s₁ hv => ?_) fun _ _ x => x)
  obtain ⟨rfl, hv⟩ := hv
  rw [ht]
  exact PySem.callWith_type rfl (Calls.evalArgs_plain (Calls.spliced_cons (wpAny_mono hv (fun _ _ h => Calls.spliced_nil h) fun _ _ x => x)))

theorem for_ {target : Expr} {it : Value} {body : List Stmt} {env : Env} {Q : Flow → Shared → Prop} (I : Nat → Shared → Prop)
    (turn : ∀ k s, I k s → wpAny (model prog w) A (pyNext it) (fun r s₁ => match r with
      | none => Q .next s₁
      | some v => wpAny (model prog w) A (assign target env v) (fun _ s₂ => wpAny (model prog w) A (execs body env) (fun f s₃ => match f with
          | .next | .cont => ∃ j, j < k ∧ I j s₃
          | .brk => Q .next s₃
          | .ret v => Q (.ret v) s₃) NoE s₂) NoE s₁) NoE s)
    (k : Nat) (h : I k s) (ht : ∀ v, letOwnedTupleGo target it v = pure () := by intro _; rfl) :
    codeAny (model prog w) A (.forLoop target it body [] env) (fun r s' => match r with | .ok f => Q f s' | .error e => cameBackBy (model prog w) A env NoE e s') s := by
  refine codeAny_forLoop I (fun k s hI => wpAny_mono (turn k s hI) (fun r s₁ hr => ?_) fun _ _ x => x.elim) k h ht
  cases r with
  | none => exact wpAny_execs_nil hr
  | some v =>
    refine wpAny_mono hr (fun _ s₂ h₂ => wpAny_mono h₂ (fun f s₃ h₃ => ?_) fun _ _ x => x.elim) fun _ _ x => x.elim
    cases f <;> exact h₃

section
variable {g h : Heap} {L : Addr} {m : Str → Option Value} {os : List (Addr × Obj)} {tk : Nat} {Q : Value → Shared → Prop}
theorem rangeR {n : Int} {t : Tok} (F : Fm g L h m) (N : News g L h os)
    (k : ∀ r h' tk' t0 t1, Fm g L h' m → News g L h' ((r, rangeObj 0 n 1 t0 t t1) :: os) → (∀ p ∈ os, p.1 ≠ r) → Q (.ref r) (Sx s h' tk')) : wpAny (model prog w) A (call (.type "range") [.int n t]) Q E (Sx s h tk) :=
  call_range_1 (s := Sx s h tk) (k _ _ _ _ _ (F.push _) (newsPush F N _ rfl) fun p hp => Nat.ne_of_lt (Heap.lt_size (N p hp).1))
theorem reversedR {r : Addr} {n : Int} {t u v : Tok} (F : Fm g L h m) (N : News g L h os) (hr : h.get? r = some (rangeObj 0 n 1 t u v)) (h0 : 0 ≤ n) (hn : n < 1000000)
    (k : ∀ it h', Fm g L h' m → News g L h' ((it, rangeIt (n - 1) n (-1)) :: os) → (∀ p ∈ os, p.1 ≠ it) → Q (.ref it) (Sx s h' tk)) : wpAny (model prog w) A (call (.type "reversed") [.ref r]) Q E (Sx s h tk) :=
  call_reversed_range (s := Sx s h tk) hr h0 hn (k _ _ (F.push _) (newsPush F N _ rfl) fun p hp => Nat.ne_of_lt (Heap.lt_size (N p hp).1))
end

/-- what a call that changes one list leaves of the ledger -/
theorem newsExt {g h h' : Heap} {L l : Addr} {m : Str → Option Value} {o o' : Obj} {os os' : List (Addr × Obj)} (F : Fm g L h m) (N : News g L h os) (U : Upd l o o' os os') (hx : Heap.ExtBut l h h') (hl : h'.get? l = some o') : Fm g L h' m ∧ News g L h' os' := by
  obtain ⟨pre, post, rfl, rfl, a, b⟩ := U.split
  have z := N (l, o) (List.mem_append.mpr (.inr (.head _)))
  refine ⟨F.ext hx z.2.1 z.2.2, fun p hp => ?_⟩
  rcases List.mem_append.mp hp with hp | hp
  · have y := N p (List.mem_append.mpr (.inl hp))
    exact ⟨hx _ _ (a p hp) y.1, y.2⟩
  · rcases List.mem_cons.mp hp with rfl | hp
    · exact ⟨hl, z.2⟩
    · have y := N p (List.mem_append.mpr (.inr (.tail _ hp)))
      exact ⟨hx _ _ (b p hp) y.1, y.2⟩

theorem heapify_ {mg mb : Str → Option Value} {h₀ h : Heap} {tk : Nat} (hh : A.handled = none) (hroom : A.depth + 2 < recursionLimit) (hu : A.units + 30 < cLine) (B : Base mg mb h₀) (K : Keeps h₀ h) {f : Addr} {o : Obj} {pm cd doc : Value} (hf : Fn h 8 f o pm cd doc)
    {l : Addr} {es : List El} {c : Nat} (hl0 : h₀.get? l = none)
    (hl : h.get? l = some (listOf (vals es).toArray c)) (hT : ∀ e ∈ es, TupIs h e.1 e.2) (hlen : es.length < 1000)
    (k : ∀ h' tk' es' c', es'.Perm es → HeapFrom 0 es' → Heap.ExtBut l h h' → h'.get? l = some (listOf (vals es').toArray c') → R (.ok (.ret .none)) (Sx s h' tk')) :
    codeAny (model prog w) A (.call (.ref f) ⟨[.ref l], []⟩) R (Sx s h tk) := by
  refine enter [("x", .ref l)] (by omega) (B.keeps K).lim hf rfl rfl rfl rfl rfl (by decide +kernel) fun h₁ tk₁ hns hk => ?_
  obtain ⟨g, F, N, hTup, Bg, hext, kg, gl⟩ := openL B K hl0 hl hns hk
  have hTg : ∀ e ∈ es, TupIs g e.1 e.2 := fun e he => hTup _ _ (hT e he)
  generalize h.objs.size = L at F N
  have hA : (A.deeper (envOf (nameAt 8) (scopeAt 8) L f cd)).units + 20 < cLine := by show A.units + 3 + 20 < cLine; omega
  have hA2 : (A.deeper (envOf (nameAt 8) (scopeAt 8) L f cd)).depth + 1 < recursionLimit := by show A.depth + 1 + 1 < recursionLimit; omega
  have hA3 : (A.deeper (envOf (nameAt 8) (scopeAt 8) L f cd)).handled = none := hh
  generalize A.deeper (envOf (nameAt 8) (scopeAt 8) L f cd) = A' at hA hA2 hA3 ⊢
  have hvl : (vals es).length = es.length := by simp [vals]
  refine wpAny_execs_cons (asg (callB1 (blF (Bg.keeps F.keep).g Bg.len.1 (Bg.keeps F.keep).b Bg.len.2 ⟨rfl, ldF F (by walk_at "lk") (lenR (N _ (.head _)).1 (by rw [hvl]; omega) fun te _ => ⟨_, _, _, _, _, _, rfl, F, N, fun h1 tk1 F1 N1 => ?_⟩)⟩)))
  rw [hvl] at F1
  have B1 := Bg.keeps F1.keep
  refine wpAny_execs_cons (wpAny_For (callT1 (blF B1.g Bg.reversed.1 B1.b Bg.reversed.2 ⟨rfl, callT1 (blF B1.g Bg.range.1 B1.b Bg.range.2 ⟨rfl, wpAny_BinOp (ldF F1 (by walk_at "lk") (intR fun t1 tk1 => fdivR (by decide) (by decide) fun t2 tk2 => ?_))⟩)⟩)))
  have e2 : ((es.length : Nat) : Int).fdiv 2 = ((es.length / 2 : Nat) : Int) := by rw [Int.fdiv_eq_ediv_of_nonneg _ (by decide)]; omega
  rw [e2]
  refine rangeR F1 N1 fun r h2 tk3 t3 t4 F2 N2 d2 => ?_
  refine reversedR F2 N2 (N2 _ (.head _)).1 (by omega) (by omega) fun it h3 F3 N3 d3 => ?_
  refine wpAny_pyIter_rangeiter (s := Sx s h3 _) (N3 _ (.head _)).1 ?_
  have N3' : News g L h3 [(l, listOf (vals es).toArray c), (it, rangeIt ((es.length / 2 : Nat) - 1) (es.length / 2 : Nat) (-1))] := fun p hp => by
    rcases List.mem_cons.mp hp with rfl | hp
    · exact N3 _ (.tail _ (.tail _ (.head _)))
    · cases List.mem_singleton.mp hp; exact N3 _ (.head _)
  have hil : it ≠ l := fun e => d3 _ (.tail _ (.head _)) e.symm
  clear N3 N2 N1 N F2 F1 F d2 d3
  refine for_ (fun j s' => ∃ h tk m es' c', s' = Sx s h tk ∧ Fm g L h m ∧ News g L h [(l, listOf (vals es').toArray c'), (it, rangeIt ((j : Int) - 1) j (-1))] ∧ m "x" = some (.ref l) ∧ es'.Perm es ∧ HeapFrom j es' ∧ j ≤ es.length / 2) ?_
    (es.length / 2) ⟨_, _, _, es, c, rfl, F3, N3', by walk_at "lk", .refl _, ?_, Nat.le_refl _⟩
  · rintro j s' ⟨h', tk', m, es', c', rfl, F, N, m1, hp, hH, hj⟩
    have hlen' := hp.length_eq
    have hTg' : ∀ e ∈ es', TupIs g e.1 e.2 := fun e he => hTg e (hp.mem_iff.mp he)
    cases j with
    | zero =>
      refine wpAny_pyNext_range_end (s := Sx s h' tk') hA3 (N _ (.tail _ (.head _))).1 (by simp) fun h'' hx => ?_
      have z := N _ (.tail _ (.head _))
      have F' : Fm g L h'' m := F.ext hx z.2.1 z.2.2
      refine wpAny_execs_nil (k h'' tk' es' c' hp hH (hext _ F'.keep) (hx _ _ (Ne.symm hil) (N _ (.head _)).1))
    | succ j =>
      refine wpAny_pyNext_range_item (s := Sx s h' tk') (N _ (.tail _ (.head _))).1 (by omega) fun h'' hit hs => ?_
      have z := N _ (.tail _ (.head _))
      have F' : Fm g L h'' m := F.ext hs.extBut z.2.1 z.2.2
      have e3 : (((j + 1 : Nat) : Int) - 1) = (j : Int) := by omega
      rw [e3] at hit
      have N' : News g L h'' [(l, listOf (vals es').toArray c'), (it, rangeIt ((j : Int) - 1) j (-1))] := fun p hp => by
        rcases List.mem_cons.mp hp with rfl | hp
        · exact ⟨(hs.2 _ (Ne.symm hil)).trans (N _ (.head _)).1, (N _ (.head _)).2⟩
        · cases List.mem_singleton.mp hp
          refine ⟨?_, z.2⟩
          rw [show h''.get? it = _ from hit]
          simp only [Option.some.injEq]
          rfl
      dsimp only
      rw [e3]
      refine wpAny_assign_Name (stF (s := s) (h := h'') F' N' fun h4 tk4 F4 N4 => ?_)
      obtain ⟨f9, o9, pm9, cd9, doc9, e9, hf9⟩ := Bg.fn 10 (by decide)
      have B4 := Bg.keeps F4.keep
      refine wpAny_execs_cons (wpAny_Expr (callF2 (f := f9) (o := o9) (fd := fdAt 10 pm9 cd9 doc9) (glF B4.g e9 ⟨rfl, ldF F4 (by walk_at "lk") (ldF F4 (by walk_at "lk") ?_)⟩)))
      refine ⟨⟨F4.keep _ _ hf9.get, hf9.data⟩, ?_⟩
      refine siftup_heap (pos := j) hA2 (by omega) Bg F4.keep (hf9.keeps F4.keep) gl (N4 _ (.head _)).1 (fun e he => (hTg' e he).keeps F4.keep) (by omega) (by omega) hH fun h5 tk5 es5 c5 p5 H5 x5 l5 => ?_
      obtain ⟨F5, N5⟩ := newsExt F4 N4 (.head fun p hp => by cases List.mem_singleton.mp hp; exact hil) x5 l5
      exact wpAny_execs_nil ⟨j, Nat.lt_succ_self _, h5, tk5, _, es5, c5, rfl, F5, N5, by walk_at "lk", p5.trans hp, H5, by omega⟩
  · intro i a b h0 h1 e1 e2
    have := (List.getElem?_eq_some_iff.mp e1).1
    omega
end
end Mine

/-! part S1 -/
namespace Mine

theorem plainAttrs_pat : PlainAttrs "re.Pattern" :=
  ⟨⟨"object.__getattribute__", by rw [typeLookup_type, builtinLookup_eq_fast]; kernel_rfl, by decide +kernel⟩, by rw [typeLookup_type, builtinLookup_eq_fast]; kernel_rfl⟩
theorem slot_pat_search : Slot "re.Pattern" "search" "re.Pattern.search" :=
  .of (owner := "re.Pattern") (n := "search") (by rw [typeLookup_type, builtinLookup_eq_fast]; kernel_rfl) (by decide +kernel) (by decide +kernel) (by decide +kernel)
    (by first | exact .inl (by decide +kernel) | exact .inr (by decide +kernel)) (by rw [isSubtype_type]; kernel_rfl)
theorem type_pat_search : typeOf (.builtin "re.Pattern.search") = pure (.type "method_descriptor") := by show builtinType _ = _; rw [builtinType_eq_fast]; kernel_rfl
theorem entry_pat_search : entryFor table "re.Pattern.search" = some Builtin.«re.Pattern.search» := entryFor_of_tree (by kernel_rfl)
theorem args_pat_search (a b : Value) : argsOk "re.Pattern.search" ⟨[a, b], []⟩ := by unfold argsOk; kernel_rfl
theorem noBool_match : typeLookup (.type "re.Match") "__bool__" = pure none := by rw [typeLookup_type, builtinLookup_eq_fast]; kernel_rfl
theorem noLen_match : typeLookup (.type "re.Match") "__len__" = pure none := by rw [typeLookup_type, builtinLookup_eq_fast]; kernel_rfl

/-- the words of the pattern -/
def pcode : List Nat := [14, 14, 4, 1, 1, 9, 0, 4227896069, 939524097, 0, 0, 0, 0, 0, 0, 13, 11, 9, 0, 4227896069, 939524097, 0, 0, 0, 0, 0, 0, 1]
/-- one of the sixteen signs -/
def isSp (c : Nat) : Bool := [32, 40, 41, 60, 62, 64, 44, 59, 58, 92, 34, 47, 91, 93, 63, 61].contains c

theorem bits_sp : ∀ c < 256, (pcode.toArray.getD (6 + c / 32) 0).testBit (c % 32) = isSp c := by decide +kernel
theorem sp_lt {c : Nat} (h : isSp c = true) : c < 256 := by
  unfold isSp at h
  simp at h
  omega
theorem set5 (c : Nat) (seen : Sre.Seen) : ∃ sn, Sre.inSet pcode.toArray c 28 5 true seen = .ok (isSp c, sn) := by
  by_cases h : c < 256
  · have b := bits_sp c h
    cases e : isSp c with
    | true =>
      rw [e] at b
      refine ⟨seen.add (pcode.toArray.getD (5 + 0) 0), ?_⟩
      show (if (decide (c < 256) && (pcode.toArray.getD (5 + (1 + c / 32)) 0).testBit (c % 32)) = true then Except.ok (true, seen.add (pcode.toArray.getD (5 + 0) 0)) else _) = _
      rw [show 5 + (1 + c / 32) = 6 + c / 32 by omega, b, decide_eq_true h]
      rfl
    | false =>
      rw [e] at b
      refine ⟨(seen.add (pcode.toArray.getD (5 + 0) 0)).add (pcode.toArray.getD (14 + 0) 0), ?_⟩
      show (if (decide (c < 256) && (pcode.toArray.getD (5 + (1 + c / 32)) 0).testBit (c % 32)) = true then Except.ok (true, _) else _) = _
      rw [show 5 + (1 + c / 32) = 6 + c / 32 by omega, b]
      simp only [Bool.and_false, Bool.false_eq_true, if_false]
      rfl
  · have e : isSp c = false := by
      cases e : isSp c with
      | false => rfl
      | true => exact absurd (sp_lt e) h
    rw [e]
    refine ⟨(seen.add (pcode.toArray.getD (5 + 0) 0)).add (pcode.toArray.getD (14 + 0) 0), ?_⟩
    show (if (decide (c < 256) && (pcode.toArray.getD (5 + (1 + c / 32)) 0).testBit (c % 32)) = true then Except.ok (true, _) else _) = _
    rw [decide_eq_false h]
    simp only [Bool.false_and, Bool.false_eq_true, if_false]
    rfl
theorem bits_sp2 : ∀ c < 256, (pcode.toArray.getD (18 + c / 32) 0).testBit (c % 32) = isSp c := by decide +kernel
theorem set17 {c : Nat} (h : isSp c = true) (seen : Sre.Seen) : ∃ sn, Sre.inSet pcode.toArray c 28 17 true seen = .ok (true, sn) := by
  have b := bits_sp2 c (sp_lt h)
  rw [h] at b
  refine ⟨seen.add (pcode.toArray.getD (17 + 0) 0), ?_⟩
  show (if (decide (c < 256) && (pcode.toArray.getD (17 + (1 + c / 32)) 0).testBit (c % 32)) = true then Except.ok (true, seen.add (pcode.toArray.getD (17 + 0) 0)) else _) = _
  rw [show 17 + (1 + c / 32) = 18 + c / 32 by omega, b, decide_eq_true (sp_lt h)]
  rfl

/-- the scan for a first sign -/
theorem admitted_none {m : Sre.M} (hc : m.code = pcode.toArray) : ∀ (fuel s : Nat) (seen : Sre.Seen), (∀ j, s ≤ j → j < m.lim → isSp (m.text.getD j 0) = false) → ∃ sn, m.admitted fuel s seen = .ok (none, sn)
  | 0, _, seen, _ => ⟨seen, rfl⟩
  | fuel + 1, s, seen, h => by
    unfold Sre.M.admitted
    by_cases hs : s ≥ m.lim
    · rw [if_pos hs]; exact ⟨seen, rfl⟩
    · rw [if_neg hs, hc]
      obtain ⟨sn, e⟩ := set5 (m.text.getD s 0) seen
      rw [show pcode.toArray.size = 28 from rfl, e, h s (Nat.le_refl _) (by omega)]
      obtain ⟨sn2, e2⟩ := admitted_none hc fuel (s + 1) sn fun j h1 h2 => h j (by omega) h2
      exact ⟨sn2, e2⟩
theorem admitted_some {m : Sre.M} (hc : m.code = pcode.toArray) : ∀ (fuel s : Nat) (seen : Sre.Seen) (i : Nat), s ≤ i → i < m.lim → isSp (m.text.getD i 0) = true → i < s + fuel → ∃ j sn, m.admitted fuel s seen = .ok (some j, sn) ∧ j < m.lim ∧ isSp (m.text.getD j 0) = true
  | 0, s, seen, i, h1, _, _, h4 => absurd h4 (by omega)
  | fuel + 1, s, seen, i, h1, h2, h3, h4 => by
    unfold Sre.M.admitted
    rw [if_neg (by omega), hc]
    obtain ⟨sn, e⟩ := set5 (m.text.getD s 0) seen
    rw [show pcode.toArray.size = 28 from rfl, e]
    cases hs : isSp (m.text.getD s 0) with
    | true => exact ⟨s, sn, rfl, by omega, hs⟩
    | false =>
      have : s ≠ i := by rintro rfl; rw [hs] at h3; cases h3
      obtain ⟨j, sn2, e2, r⟩ := admitted_some hc fuel (s + 1) sn i (by omega) h2 h3 (by omega)
      exact ⟨j, sn2, e2, r⟩

def m0 (text : Array Nat) : Sre.M := { code := pcode.toArray, text, lim := text.size, start := 0, pc := 15, pos := 0, handed := 0, marks := #[], seen := ({} : Sre.Seen).add 14 }
def m1 (text : Array Nat) : Sre.M := { m0 text with lastStart := text.size }
theorem forSearch_eq (text : Array Nat) : Sre.forSearch pcode.toArray text 0 0 text.size false = if (decide (0 > text.size) || decide (text.size - 0 < 1)) = true then (m0 text).say false else (m1 text).attemptFrom 0 true := rfl
theorem from_eq (text : Array Nat) : (m1 text).attemptFrom 0 true = match (m1 text).admitted (text.size + 1 - 0) 0 (m1 text).seen with
    | .ok (some s, seen) => { m1 text with mustAdvance := false, seen }.attemptAt s true
    | .ok (none, seen) => { m1 text with seen }.say false
    | .error why => (m1 text).stick why := rfl
theorem search_no (text : Array Nat) (h : ∀ j, j < text.size → isSp (text.getD j 0) = false) : ((Sre.forSearch pcode.toArray text 0 0 text.size false).runFor 4).outcome = some .failed := by
  rw [forSearch_eq]
  split
  · rfl
  · obtain ⟨sn, e⟩ := admitted_none (m := m1 text) rfl (text.size + 1 - 0) 0 (m1 text).seen fun j _ h2 => h j h2
    rw [from_eq, e]
    rfl
def m2 (text : Array Nat) (j : Nat) (sn : Sre.Seen) : Sre.M := { m1 text with mustAdvance := false, seen := sn }.attemptAt j true
def m3 (text : Array Nat) (j : Nat) (sn sn2 : Sre.Seen) : Sre.M := { m2 text j sn with seen := sn2, pc := 27, pos := j + 1 }
theorem step_eq (text : Array Nat) (j : Nat) (sn : Sre.Seen) : (m2 text j sn).step = if j ≥ text.size then ({ m2 text j sn with seen := sn.add 13 }).say false else
    match Sre.inSet pcode.toArray (text.getD j 0) 28 17 true (sn.add 13) with
    | .error why => ({ m2 text j sn with seen := sn.add 13 }).stick why
    | .ok (false, seen) => ({ m2 text j sn with seen }).say false
    | .ok (true, seen) => m3 text j sn seen := rfl
theorem search_yes (text : Array Nat) {i : Nat} (hi : i < text.size) (h : isSp (text.getD i 0) = true) : ((Sre.forSearch pcode.toArray text 0 0 text.size false).runFor 4).outcome = some .matched := by
  rw [forSearch_eq, if_neg (by rw [decide_eq_false (by omega : ¬ 0 > text.size), decide_eq_false (by omega : ¬ text.size - 0 < 1)]; simp)]
  obtain ⟨j, sn, e, hj, hs⟩ := admitted_some (m := m1 text) rfl (text.size + 1 - 0) 0 (m1 text).seen i (Nat.zero_le _) hi h (by omega)
  rw [from_eq, e]
  show (Sre.M.runFor 4 (m2 text j sn)).outcome = _
  have r : Sre.M.runFor 4 (m2 text j sn) = Sre.M.runFor 3 (m2 text j sn).step := rfl
  obtain ⟨sn2, e2⟩ := set17 hs (sn.add 13)
  have e2' : Sre.inSet pcode.toArray (text.getD j 0) 28 17 true (sn.add 13) = .ok (true, sn2) := e2
  rw [r, step_eq, if_neg (by show ¬ j ≥ text.size; exact Nat.not_le.mpr hj), e2']
  rfl
end Mine

/-! part S2 -/
namespace Mine

section
variable {prog : Program} {w : World} {A : Around} {E : Value → Shared → Prop} {s : Shared}

theorem named_eq (v : Value) : Builtin.Re.reNamed "re.Pattern.search" "search" ["string", "pos", "endpos"] 1 [v] [] = pure [some v, none, none] := by rfl

theorem reDrive_one {m : Sre.M} {t : Nat} {Q : Sre.M → Shared → Prop} (ho : (m.runFor 4).outcome.isSome = true) (h : Q (m.runFor 4) s) : wpAny (model prog w) A (Builtin.Re.reDrive (t + 1) m) Q E s := by
  unfold Builtin.Re.reDrive
  show wpAny _ _ (if (m.runFor 4).outcome.isSome = true then _ else _) Q E s
  rw [if_pos ho]
  exact wpAny_pure h
theorem runToEnd {m : Sre.M} {Q : Option Sre.M → Shared → Prop} (ho : (m.runFor 4).outcome.isSome = true)
    (h0 : (m.runFor 4).outcome = some .failed → Q none s) (h1 : (m.runFor 4).outcome = some .matched → Q (some (m.runFor 4)) s) (hs : ∀ why, (m.runFor 4).outcome ≠ some (.stuck why)) : wpAny (model prog w) A (Builtin.Re.reRunToEnd m) Q E s := by
  unfold Builtin.Re.reRunToEnd
  have e : (2 : Nat) ^ 64 = (2 ^ 64 - 1) + 1 := by decide
  rw [e]
  generalize 2 ^ 64 - 1 = t
  refine wpAny_bind (reDrive_one ho ?_)
  generalize m.runFor 4 = m' at *
  refine wpAny_bind (wpAny_forIn_list _ (fun _ _ s' => s' = s) _ ?_ ?_ _ _ rfl)
  · rintro i rest u s' rfl
    cases m'.seen.has i with
    | true => exact wpAny_bind (wpAny_rule (wpAny_pure rfl))
    | false => exact wpAny_pure rfl
  · rintro u s' rfl
    cases o : m'.outcome with
    | none => rw [o] at ho; cases ho
    | some r =>
      cases r with
      | matched => exact wpAny_pure (h1 o)
      | failed => exact wpAny_pure (h0 o)
      | stuck why => exact absurd o (hs why)

/-- one of the signs of x is special -/
def hasSp (x : Str) : Bool := x.cps.toList.any isSp
theorem hasSp_yes {x : Str} (h : hasSp x = true) : ∃ i, i < x.cps.size ∧ isSp (x.cps.getD i 0) = true := by
  obtain ⟨c, hc, hs⟩ := List.any_eq_true.mp h
  obtain ⟨i, hi, rfl⟩ := List.mem_iff_getElem.mp hc
  refine ⟨i, by simpa using hi, ?_⟩
  have : x.cps.getD i 0 = x.cps.toList[i] := by simp [Array.getD, show i < x.cps.size by simpa using hi]
  rw [this]; exact hs
theorem hasSp_no {x : Str} (h : hasSp x = false) : ∀ j, j < x.cps.size → isSp (x.cps.getD j 0) = false := by
  intro j hj
  have := List.any_eq_false.mp h (x.cps.toList[j]'(by simpa using hj)) (by simp)
  have e : x.cps.getD j 0 = x.cps.toList[j]'(by simpa using hj) := by simp [Array.getD, hj]
  rw [e]; simpa using this

abbrev patRec : Flt.PatRec := ⟨"tspecials", pcode, 0, 0⟩

theorem searchR {h g : Heap} {tk : Nat} {L P : Addr} {m : Str → Option Value} {os : List (Addr × Obj)} {x : Str} {t : Tok} {Q : Value → Shared → Prop} (F : Fm g L h m) (N : News g L h os) (hp : Flt.IsPattern h P patRec) (hx : x.cps.size < 2 ^ 40)
    (k0 : hasSp x = false → Q .none (Sx s h tk))
    (k1 : hasSp x = true → ∀ M h' fs, Fm g L h' m → News g L h' os → Keeps h h' → h'.get? M = some { cls := .type "re.Match", data := .fields fs } → Q (.ref M) (Sx s h' tk)) :
    wpAny (model prog w) A (call (.builtin "re.Pattern.search") [.ref P, .str x t]) Q E (Sx s h tk) := by
  obtain ⟨fs, T, ws, n, h1, h2, h3, h4, h5, h6⟩ := hp
  have hT : (Sx s h tk).TypeIs (.ref P) "re.Pattern" := ⟨_, h1, rfl⟩
  refine wpAny_call_entry slot_pat_search hT entry_pat_search ?_ (args_pat_search _ _)
  unfold Builtin.«re.Pattern.search»
  refine wpAny_bind ?_
  unfold Builtin.Re.reTarget
  refine wpAny_bind (wpAny_of_eq (named_eq _) ?_)
  dsimp only
  refine wpAny_bind (wpAny_pure (wpAny_bind (wpAny_pure ?_)))
  refine wpAny_bind (wpAny_fieldsOf (s := Sx s h tk) h1 rfl ?_)
  refine wpAny_bind (wpAny_of_eq (a := (x.cps, 0)) rfl ?_)
  dsimp only
  rw [h4, if_neg (by decide), if_neg (by decide)]
  refine wpAny_bind (wpAny_of_eq (a := ()) rfl ?_)
  refine wpAny_bind ?_
  unfold Builtin.Re.reRawItems
  rw [h2]
  refine wpAny_bind (wpAny_seqItems (s := Sx s h tk) h5 rfl (wpAny_pure ?_))
  have hcode : ((ws.map Builtin.Re.reRawOf).map (·.toNat)) = pcode.toArray := Array.toList_inj.mp h6
  refine wpAny_pure ?_
  dsimp only [Option.getD]
  rw [hcode, h3]
  have e0 : min (Int.toNat 0) x.cps.size = 0 := by simp
  have e1 : min ((2 : Int) ^ 63 - 1).toNat x.cps.size = x.cps.size := by
    have : ((2 : Int) ^ 63 - 1).toNat = 9223372036854775807 := by decide
    rw [this]; omega
  rw [e0, e1]
  unfold Builtin.Re.reAnswer
  refine wpAny_bind (runToEnd ?_ ?_ ?_ ?_)
  · cases hs : hasSp x with
    | true => obtain ⟨i, hi, h⟩ := hasSp_yes hs; rw [search_yes _ hi h]; rfl
    | false => rw [search_no _ (hasSp_no hs)]; rfl
  · intro o
    refine wpAny_pure ⟨_, rfl, k0 ?_⟩
    cases hs : hasSp x with
    | true => obtain ⟨i, hi, h⟩ := hasSp_yes hs; rw [search_yes _ hi h] at o; cases o
    | false => rfl
  · intro o
    have hs : hasSp x = true := by
      cases hs : hasSp x with
      | true => rfl
      | false => rw [search_no _ (hasSp_no hs)] at o; cases o
    refine wpAny_bind ?_
    unfold Builtin.Re.reNewMatch
    dsimp only [patRec, List.range, List.range.loop, List.any]
    simp only [Bool.false_eq_true, if_false]
    generalize Sre.M.runFor 4 _ = mm
    refine wpAny_bind (newTupleF (s := s) F N (by simp [sizeLine]) fun a h' F' N' d dL kp => ?_)
    refine wpAny_newObj_type (s := Sx s h' tk) (wpAny_pure ⟨_, rfl, k1 hs _ _ _ (F'.push _) ?_ (kp.trans fun _ _ e => Heap.get?_push_of_some _ e) (Heap.get?_push_size _ rfl)⟩)
    exact fun p hp => ⟨Heap.get?_push_of_some _ (N' p (.tail _ hp)).1, (N' p (.tail _ hp)).2⟩
  · intro why o
    cases hs : hasSp x with
    | true => obtain ⟨i, hi, h⟩ := hasSp_yes hs; rw [search_yes _ hi h] at o; cases o
    | false => rw [search_no _ (hasSp_no hs)] at o; cases o
theorem truthy_match {h : Heap} {tk : Nat} {M : Addr} {fs : Array Value} {Q : Bool → Shared → Prop} (hm : h.get? M = some { cls := .type "re.Match", data := .fields fs }) (k : Q true (Sx s h tk)) : wpAny (model prog w) A (truthy (.ref M)) Q E (Sx s h tk) := by
  have hT : (Sx s h tk).TypeIs (.ref M) "re.Match" := ⟨_, hm, rfl⟩
  unfold truthy
  first
    | refine wpAny_bind (wpAny_callSpecial?_none (name := Str.ofString "__bool__") hT noBool_match ?_)
    | refine wpAny_bind (wpAny_pure (wpAny_bind (wpAny_callSpecial?_none (name := Str.ofString "__bool__") hT noBool_match ?_)))
  first
    | refine wpAny_bind (wpAny_specialOf (name := Str.ofString "__len__") hT noLen_match ?_)
    | refine wpAny_bind (wpAny_pure (wpAny_bind (wpAny_specialOf (name := Str.ofString "__len__") hT noLen_match ?_)))
  exact wpAny_pure k
end
end Mine

/-! part S3 -/
namespace Mine

/-! the texts -/
def sub1 (c : Nat) (z l : List Nat) : List Nat := l.flatMap fun a => if a = c then z else [a]
theorem sub1_append (c : Nat) (z a b : List Nat) : sub1 c z (a ++ b) = sub1 c z a ++ sub1 c z b := List.flatMap_append ..
theorem sub1_free (c : Nat) (z : List Nat) : ∀ l : List Nat, c ∉ l → sub1 c z l = l
  | [], _ => rfl
  | k :: r, h => by
    have h1 : ¬ k = c := fun e => h (e ▸ List.mem_cons_self ..)
    show (if k = c then z else [k]) ++ sub1 c z r = _
    rw [if_neg h1, sub1_free c z r fun m => h (List.mem_cons_of_mem _ m)]
    rfl
theorem sub1_join (c : Nat) (z : PySem.Str) : ∀ parts : List PySem.Str, (∀ p ∈ parts, c ∉ p.cps.toList) → sub1 c z.cps.toList (Str.join ⟨#[c]⟩ parts).cps.toList = (Str.join z parts).cps.toList
  | [], _ => rfl
  | [p], h => sub1_free c _ _ (h p (List.mem_singleton.mpr rfl))
  | p :: q :: r, h => by
    have ih := sub1_join c z (q :: r) fun a ha => h a (List.mem_cons_of_mem _ ha)
    show sub1 c z.cps.toList (p ++ ⟨#[c]⟩ ++ Str.join ⟨#[c]⟩ (q :: r)).cps.toList = (p ++ z ++ Str.join z (q :: r)).cps.toList
    simp only [Str.cps_append, Array.toList_append]
    rw [sub1_append, sub1_append, ih, sub1_free c _ _ (h p (List.mem_cons_self ..))]
    simp [sub1]
theorem replace_sub (x : PySem.Str) (c : Nat) (z : PySem.Str) : (Txt.replace x ⟨#[c]⟩ z).cps.toList = sub1 c z.cps.toList x.cps.toList := by
  rw [StrLaws.replace_one, ← sub1_join c z _ (StrLaws.split_free x c), StrLaws.join_split]
/-- a sign written inside quotation marks -/
def esc1 (a : Nat) : List Nat := if a = 92 then [92, 92] else if a = 34 then [92, 34] else [a]
def escS (x : PySem.Str) : PySem.Str := ⟨(x.cps.toList.flatMap esc1).toArray⟩
theorem esc_eq (x : PySem.Str) : Txt.replace (Txt.replace x ⟨#[92]⟩ ⟨#[92, 92]⟩) ⟨#[34]⟩ ⟨#[92, 34]⟩ = escS x := by
  refine Str.ext' (Array.toList_inj.mp ?_)
  rw [replace_sub, replace_sub]
  show sub1 34 [92, 34] (sub1 92 [92, 92] x.cps.toList) = x.cps.toList.flatMap esc1
  induction x.cps.toList with
  | nil => rfl
  | cons a r ih =>
    show sub1 34 [92, 34] ((if a = 92 then [92, 92] else [a]) ++ sub1 92 [92, 92] r) = esc1 a ++ r.flatMap esc1
    rw [sub1_append, ih]
    congr 1
    unfold esc1
    by_cases h1 : a = 92
    · rw [if_pos h1, if_pos h1]; simp [sub1]
    · rw [if_neg h1, if_neg h1]
      by_cases h2 : a = 34
      · rw [if_pos h2]; simp [sub1, h2]
      · rw [if_neg h2]; simp [sub1, h2]
/-- what a parameter is written as -/
def fmt (p : PySem.Str) (marks : Bool) (v : PySem.Str) : PySem.Str :=
  if v = Str.empty then p else if (marks || hasSp v) = true then ((p ++ Str.ofString "=\"") ++ escS v) ++ Str.ofString "\"" else (p ++ Str.ofString "=") ++ v
theorem len_replace (x : PySem.Str) (c : Nat) (z : PySem.Str) : (Txt.replace x ⟨#[c]⟩ z).length ≤ x.length * (z.length + 1) := by
  have e : (Txt.replace x ⟨#[c]⟩ z).length = (sub1 c z.cps.toList x.cps.toList).length := by rw [← replace_sub]; simp [PySem.Str.length]
  have e2 : x.length = x.cps.toList.length := by simp [PySem.Str.length]
  have e3 : z.length = z.cps.toList.length := by simp [PySem.Str.length]
  rw [e, e2, e3]
  induction x.cps.toList with
  | nil => simp [sub1]
  | cons a r ih =>
    show ((if a = c then z.cps.toList else [a]) ++ sub1 c z.cps.toList r).length ≤ _
    rw [List.length_append, List.length_cons, Nat.add_mul]
    have : (if a = c then z.cps.toList else [a]).length ≤ z.cps.toList.length + 1 := by split <;> simp
    omega
theorem len_esc (x : PySem.Str) : (escS x).length ≤ 2 * x.length := by
  show (x.cps.toList.flatMap esc1).toArray.size ≤ 2 * x.cps.size
  rw [List.size_toArray, ← Array.length_toList]
  induction x.cps.toList with
  | nil => simp
  | cons a r ih =>
    rw [List.flatMap_cons, List.length_append, List.length_cons]
    have : (esc1 a).length ≤ 2 := by unfold esc1; split <;> (try split) <;> simp
    omega
end Mine

/-! part S4 -/
namespace Mine
local macro_rules | `(tactic| walk_at "lk") => `(tactic| first | exact up_same | assumption | (refine up_ne (by decide) ?_; walk_at "lk") | rfl)

abbrev fdFmt (T : Addr) (kV doc pm : Value) (an : Option Addr) (cd ct : Value) : FuncData := fnOf (nameAt 3) (nameAt 3) (parAt 3) (bodyAt 3) (scopeAt 3) (.ref T) kV doc pm an cd ct
/-- the def _formatparam stands at f -/
def FmtAt (h : Heap) (f : Addr) : Prop := ∃ o T kV doc pm an cd ct oT n t, h.get? f = some o ∧ o.data = .func (fdFmt T kV doc pm an cd ct) ∧ h.CodeRec cd (nameAt 3) ∧ h.get? T = some oT ∧ oT.data = .seq #[.none, .int 1 t] n
theorem FmtAt.keeps {h h' : Heap} {f : Addr} (x : FmtAt h f) (hk : Keeps h h') : FmtAt h' f :=
  let ⟨o, T, kV, doc, pm, an, cd, ct, oT, n, t, h1, h2, h3, h4, h5⟩ := x; ⟨o, T, kV, doc, pm, an, cd, ct, oT, n, t, hk _ _ h1, h2, h3.keeps hk, hk _ _ h4, h5⟩
structure Base2 (mg : Str → Option Value) (h : Heap) : Prop where
  fmt : ∃ f, mg (nameAt 3) = some (.ref f) ∧ FmtAt h f
  pat : ∃ P, mg "tspecials" = some (.ref P) ∧ Flt.IsPattern h P patRec
theorem Base2.keeps {mg : Str → Option Value} {h h' : Heap} (x : Base2 mg h) (hk : Keeps h h') : Base2 mg h' :=
  ⟨let ⟨f, e, r⟩ := x.fmt; ⟨f, e, r.keeps hk⟩, let ⟨P, e, r⟩ := x.pat; ⟨P, e, r.keeps hk⟩⟩

def fmtQuoted : List Stmt := match bodyAt 3 with | [.If _ [.If _ b _ _] _ _] => b | _ => []

section
variable {prog : Program} {w : World} {A : Around} {E : Value → Shared → Prop} {s : Shared} {R : Result → Shared → Prop}

theorem toksF {α : Type} {t : Sem α} {Q : α → Shared → Prop} {n : Nat} (hn : n ≤ s.toks) (h : wpAny (model prog w) A t (fun a s' => n ≤ s'.toks → Q a s') NoE s) : wpAny (model prog w) A t Q NoE s :=
  wpAny_mono (wpAny_toks_of hn h) (fun _ _ x => x.2 x.1) fun _ _ x => x.2
theorem strX {x : Str} {kk : Nat} {pos : Pos} {env : Env} {h : Heap} {tk : Nat} {Q : Value → Shared → Prop} (k : Q (.str x tk) (Sx s h (tk + 1))) : wpAny (model prog w) A (eval (.Constant (.str x) kk pos) env) Q E (Sx s h tk) := Calls.Constant_str k
theorem lenS {x : Str} {t : Tok} {h : Heap} {tk : Nat} {Q : Value → Shared → Prop} (hx : x.length < 2 ^ 40) (k : ∀ t' tk', Q (.int x.length t') (Sx s h tk')) : wpAny (model prog w) A (call (.builtin "len") [.str x t]) Q E (Sx s h tk) :=
  len_str (by omega) (k _ _)

theorem fieldS {value : Expr} {pos : Pos} {env : Env} {Q : Value → Shared → Prop} {s₀ : Shared}
    (k : wpAny (model prog w) A (eval value env) (fun v s₁ => ∃ x t s h tk, v = .str x t ∧ s₁ = Sx s h tk ∧ x.length ≤ sizeLine ∧ ∀ t' tk', Q (.str x t') (Sx s h tk')) E s₀) : wpAny (model prog w) A (eval (.FormattedValue value 115 none pos) env) Q E s₀ := by
  refine wpAny_FormattedValue_s (wpAny_mono k (fun v s₁ h₁ => ?_) fun _ _ x => x)
  obtain ⟨x, t, s, h, tk, rfl, rfl, hx, k⟩ := h₁
  exact habitSame_str (fun t1 tk1 => PyProof.Rows.formatField_str (s := Sx s h tk1) (fun t2 tk2 => k t2 tk2) hx) hx
theorem tuple2 {e1 e2 : Expr} {kk : Nat} {pos : Pos} {env : Env} {Q : Value → Shared → Prop}
    (k : wpAny (model prog w) A (eval e1 env) (fun v1 s' => wpAny (model prog w) A (eval e2 env) (fun v2 s' => wpAny (model prog w) A (newTuple [v1, v2]) Q E s') E s') E s)
    (ht : backTo pos (starEach [e1, e2] env) = [(false, eval e1 env), (false, eval e2 env)] := by rfl) : wpAny (model prog w) A (eval (.Tuple [e1, e2] kk pos) env) Q E s := by
  refine Tuple_ ?_
  rw [ht]
  exact Calls.spliced_cons (wpAny_mono k (fun _ _ h => Calls.spliced_cons (wpAny_mono h (fun _ _ h => Calls.spliced_nil h) fun _ _ x => x)) fun _ _ x => x)

theorem formatparam_ {mg mb : Str → Option Value} {h₀ h : Heap} {tk : Nat} (hroom : A.depth < recursionLimit) (B : Base mg mb h₀) (B2 : Base2 mg h₀) (K : Keeps h₀ h) {f : Addr} (hf : FmtAt h f)
    {p v : Str} {q : Int} {tp tv tq : Tok} (hp : p.length ≤ 1000) (hv : v.length ≤ 200000)
    (k : ∀ h' tk' t', Keeps h h' → R (.ok (.ret (.str (fmt p (q != 0) v) t'))) (Sx s h' tk')) :
    codeAny (model prog w) A (.call (.ref f) ⟨[.str p tp, .str v tv, .int q tq], []⟩) R (Sx s h tk) := by
  obtain ⟨o, T, kV, doc, pm, an, cd, ct, oT, n, t, h1, h2, h3, h4, h5⟩ := hf
  refine codeAny_call_def (s := Sx s h tk) (fd := fdFmt T kV doc pm an cd ct) (body := bodyAt 3) (binds := [("param", .str p tp), ("value", .str v tv), ("quote", .int q tq)]) hroom h1 h2 (B.keeps K).lim h3 rfl
    (BindsTo.of_defaults rfl h4 h5 rfl rfl) (show ∀ x ∈ (scopeAt 3).names, x.2 ≠ .cell by decide +kernel) (locs rfl) (fun h₁ hns hk => ?_) rfl rfl rfl
  refine wpAny_mono (E := NoE) ?_ (fun _ _ x => x) (fun _ _ x => x.elim)
  have F : Fm h h.objs.size h₁ _ := ⟨hns, hk, by
    cases e : h.get? h.objs.size with
    | none => rfl
    | some o => exact absurd (Heap.lt_size e) (Nat.lt_irrefl _)⟩
  have N : News h h.objs.size h₁ [] := News.nil
  have tk1 : 0 < (Sx s h tk).toks + 3 := by omega
  show wpAny _ _ (execs (bodyAt 3) (envOf (nameAt 3) (scopeAt 3) h.objs.size f cd)) _ _ (Sx s h₁ ((Sx s h tk).toks + 3))
  generalize (Sx s h tk).toks + 3 = tk₁ at tk1
  generalize h.objs.size = L at F N
  generalize A.deeper (callEnv (fdFmt T kV doc pm an cd ct) (Sx s h tk).heap.objs.size f) = A'
  have Bg := (B.keeps K).keeps F.keep
  obtain ⟨P, eP, hP⟩ := ((B2.keeps K).keeps F.keep).pat
  have hle : v.length = v.cps.size := rfl
  refine wpAny_execs_cons (wpAny_If (toksF (n := 1) tk1 (isTrue_and (wpAny_isTrue_Compare1 (ldF F (by walk_at "lk") (Constant_none (isnot_str_none (wpAny_truthy_bool ?_))))))))
  simp only [if_true]
  refine isTrue_and (wpAny_isTrue_Compare1 (callB1 (blF Bg.g Bg.len.1 Bg.b Bg.len.2 ⟨rfl, ldF F (by walk_at "lk") (lenS (by omega) fun t1 tk2 => intR fun t2 tk3 => gt_int (wpAny_truthy_bool ?_))⟩)))
  by_cases hemp : v = Str.empty
  · have hz : v.length = 0 := by rw [hemp]; rfl
    rw [decide_eq_false (by omega)]
    simp only [Bool.false_eq_true, if_false]
    intro _
    refine wpAny_execs_cons (wpAny_Return_some (ldF F (by walk_at "lk") ?_))
    have := k h₁ tk3 tp hk
    unfold fmt at this
    rw [if_pos hemp] at this
    exact this
  · have hz : 0 < v.length := by
      refine Nat.pos_of_ne_zero fun e => hemp ?_
      exact Str.ext' (Array.eq_empty_of_size_eq_zero e)
    rw [decide_eq_true (by omega)]
    simp only [if_true]
    refine isTrue_and_nil ?_
    simp only [if_true]
    intro tk3p
    have quoted : ∀ Qf : Flow → Shared → Prop, (∀ v s', R (.ok (.ret v)) s' → Qf (.ret v) s') → (q != 0 || hasSp v) = true → ∀ h₂ tk₂ m₂, Fm h L h₂ m₂ → m₂ "param" = some (.str p tp) → m₂ "value" = some (.str v tv) → 1 ≤ tk₂ →
        wpAny (model prog w) A' (execs fmtQuoted (envOf (nameAt 3) (scopeAt 3) L f cd)) Qf NoE (Sx s h₂ tk₂) := by
      intro Qf hQf hq h₂ tk₂ m₂ F2 m1 m2 htk
      have l1 := len_replace v 92 ⟨#[92, 92]⟩
      have l1' : (Txt.replace v ⟨#[92]⟩ ⟨#[92, 92]⟩).length ≤ v.length * 3 := l1
      refine wpAny_execs_cons (asg (wpAny_Call_method2_late rfl rfl rfl (toksF (n := 1) htk (wpAny_Call_method2_late rfl rfl rfl (ldF F2 (by walk_at "lk") ⟨"str", "str.replace", PySem.F.plainAttrs_str, PySem.F.slot_str_replace, PySem.F.type_str_replace, typeIs_str _ _ _, (fun a e => by cases e),
        Calls.callWith_builtin rfl (Calls.evalArgs_plain (Calls.spliced_cons (strX (Calls.spliced_cons (strX (Calls.spliced_nil ?_))))))⟩)))))
      refine SC.replace (s := Sx s h₂ (tk₂ + 1 + 1)) (Nat.pos_iff_ne_zero.mp htk) (Nat.succ_ne_zero _) (Nat.ne_of_lt (Nat.lt_succ_self _)) (by decide +kernel) (by show v.length + (v.length + 1) * 2 ≤ 16777216; omega) fun t5 k5 => ?_
      intro hk5
      refine ⟨"str", "str.replace", PySem.F.plainAttrs_str, PySem.F.slot_str_replace, PySem.F.type_str_replace, typeIs_str _ _ _, (fun a e => by cases e),
        Calls.callWith_builtin rfl (Calls.evalArgs_plain (Calls.spliced_cons (strX (s := s) (h := h₂) (Calls.spliced_cons (strX (Calls.spliced_nil ?_))))))⟩
      have hk5' : 1 ≤ k5 := hk5
      refine SC.replace (s := Sx s h₂ (k5 + 1 + 1)) (Nat.pos_iff_ne_zero.mp hk5') (Nat.succ_ne_zero _) (Nat.ne_of_lt (Nat.lt_succ_self _)) (by decide +kernel) (by show (Txt.replace v ⟨#[92]⟩ ⟨#[92, 92]⟩).length + ((Txt.replace v ⟨#[92]⟩ ⟨#[92, 92]⟩).length + 1) * 2 ≤ 16777216; omega) fun t6 k6 => ?_
      refine ⟨s, h₂, k6, _, _, [], rfl, F2, News.nil, fun h7 tk7 F7 _ => ?_⟩
      have esc : Txt.replace (Txt.replace v (Str.ofString "\\") (Str.ofString "\\\\")) (Str.ofString "\"") (Str.ofString "\\\"") = escS v := esc_eq v
      rw [esc] at F7
      have l2 := len_esc v
      have lq : (Str.ofString "=\"").length = 2 := rfl
      have lq1 : (Str.ofString "\"").length = 1 := rfl
      refine wpAny_execs_cons (wpAny_Return_some (JoinedStr_many (joinParts_cons (fieldS (ldF F7 (by walk_at "lk") ⟨p, _, _, _, _, rfl, rfl, by simp only [sizeLine]; omega, fun t8 tk8 => ?_⟩)))))
      dsimp only
      rw [Str.empty_append]
      refine ⟨by simp only [sizeLine]; omega, joinParts_cons (strR fun t9 tk9 => ⟨by simp only [Str.length_append, sizeLine, lq]; omega, joinParts_consE (joinParts_cons (fieldS (ldF F7 up_same ⟨escS v, _, _, _, _, rfl, rfl, by simp only [sizeLine]; omega, fun t10 tk10 => ?_⟩)))⟩)⟩
      refine ⟨by simp only [Str.length_append, sizeLine, lq]; omega, joinParts_consE (joinParts_cons (strR fun t11 tk11 => ⟨by simp only [Str.length_append, sizeLine, lq, lq1]; omega, joinParts_nilE (joinParts_nil ?_ (by simp only [Str.length_append, sizeLine, lq, lq1]; omega))⟩))⟩
      have := k h7 (tk11 + 1) tk11 F7.keep
      unfold fmt at this
      rw [if_neg hemp, if_pos hq] at this
      exact hQf _ _ this
    refine wpAny_execs_cons (wpAny_If (toksF (n := 1) tk3p (isTrue_or (isTrue_plain (ldF F (by walk_at "lk") (PyProof.Rows.truthy_int ?_))))))
    by_cases hq : q = 0
    · have e : (q != 0) = false := by simpa using hq
      rw [e]
      simp only [Bool.false_eq_true, if_false]
      refine isTrue_or (isTrue_plain (wpAny_Call_method1_late rfl rfl rfl (glF Bg.g eP ⟨"re.Pattern", "re.Pattern.search", plainAttrs_pat, slot_pat_search, type_pat_search, ?_, ?_, Calls.callWith_builtin rfl (Calls.evalArgs_plain (Calls.spliced_cons (ldF F (by walk_at "lk") (Calls.spliced_nil (searchR F N hP (by omega) ?_ ?_)))))⟩)))
      · obtain ⟨_, _, _, _, g1, _⟩ := hP; exact ⟨_, g1, rfl⟩
      · intro a ea
        cases ea
        obtain ⟨_, _, _, _, g1, _⟩ := hP
        exact ⟨_, g1, rfl⟩
      · intro hsp
        refine truthy_none ?_
        simp only [Bool.false_eq_true, if_false]
        refine isTrue_or_nil ?_
        simp only [Bool.false_eq_true, if_false]
        intro _
        have lq : (Str.ofString "=").length = 1 := rfl
        refine wpAny_execs_cons (wpAny_Return_some (JoinedStr_many (joinParts_cons (fieldS (ldF F (by walk_at "lk") ⟨p, _, _, _, _, rfl, rfl, by simp only [sizeLine]; omega, fun t8 tk8 => ?_⟩)))))
        dsimp only
        rw [Str.empty_append]
        refine ⟨by simp only [sizeLine]; omega, joinParts_cons (strR fun t9 tk9 => ⟨by simp only [Str.length_append, sizeLine, lq]; omega, joinParts_consE (joinParts_cons (fieldS (ldF F (by walk_at "lk") ⟨v, _, _, _, _, rfl, rfl, by simp only [sizeLine]; omega, fun t10 tk10 => ?_⟩)))⟩)⟩
        refine ⟨by simp only [Str.length_append, sizeLine, lq]; omega, joinParts_nilE (joinParts_nil ?_ (by simp only [Str.length_append, sizeLine, lq]; omega))⟩
        have := k h₁ (tk10 + 1) tk10 hk
        unfold fmt at this
        rw [if_neg hemp, if_neg (by rw [e, hsp]; simp)] at this
        exact this
      · intro hsp M h' fs F' N' kp hm
        refine truthy_match hm ?_
        simp only [if_true]
        intro htk
        exact quoted _ (fun _ _ x => x) (by rw [hsp]; simp) h' _ _ F' (by walk_at "lk") (by walk_at "lk") htk
    · have e : (q != 0) = true := by simpa using hq
      rw [e]
      simp only [if_true]
      intro htk
      exact quoted _ (fun _ _ x => x) (by rw [e]; rfl) h₁ tk3 _ F (by walk_at "lk") (by walk_at "lk") htk
end
end Mine

/-! part S5 -/
namespace Mine
local macro_rules | `(tactic| walk_at "lk") => `(tactic| first | exact up_same | assumption | (refine up_ne (by decide) ?_; walk_at "lk") | rfl)

def codeOf : Value → Nat
  | .str x _ => x.cps.getD 0 0
  | _ => 0
theorem signs_paired {pz : Nat → Bool} {d : Nat → Str} : ∀ (vs : List Value) (l : List Nat) (ys : List Value), vs.length = l.length → (∀ (j : Nat) v, vs[j]? = some v → ∃ c u, l[j]? = some c ∧ v = .str ⟨#[c]⟩ u) →
    Paired (fun v r => ∃ c u u', v = Value.str ⟨#[c]⟩ u ∧ r = Value.str (d c) u') (vs.filter fun v => pz (codeOf v)) ys → StrsAre ys ((l.filter pz).map d)
  | [], [], ys, _, _, hp => by cases hp; exact .nil
  | [], _ :: _, _, hl, _, _ => by cases hl
  | _ :: _, [], _, hl, _, _ => by cases hl
  | v :: vs, c :: l, ys, hl, hs, hp => by
    obtain ⟨c', u, e1, rfl⟩ := hs 0 v rfl
    simp only [List.getElem?_cons_zero, Option.some.injEq] at e1
    subst e1
    have hs' : ∀ (j : Nat) v, vs[j]? = some v → ∃ c u, l[j]? = some c ∧ v = .str ⟨#[c]⟩ u := fun j v hv => by simpa using hs (j + 1) v (by simpa using hv)
    have hl' : vs.length = l.length := by simpa using hl
    have ec : codeOf (.str ⟨#[c]⟩ u) = c := rfl
    rw [List.filter_cons, ec] at hp
    rw [List.filter_cons]
    cases hz : pz c with
    | false =>
      rw [hz] at hp
      simp only [Bool.false_eq_true, if_false] at hp ⊢
      exact signs_paired vs l ys hl' hs' hp
    | true =>
      rw [hz] at hp
      simp only [if_true] at hp ⊢
      cases hp with
      | cons hF hr =>
        obtain ⟨c2, u1, u', e2, rfl⟩ := hF
        injection e2 with e2 _
        injection e2 with e2
        have : c = c2 := by simpa using e2
        subst this
        exact .cons _ _ (signs_paired vs l _ hl' hs' hr)

section
variable {prog : Program} {w : World} {A : Around} {E : Value → Shared → Prop} {s : Shared} {R : Result → Shared → Prop}

theorem compS {elt iter : Expr} {x : Str} {px : Pos} {ifs : List Expr} {scope : Scope} {pos : Pos} {env : Env} {Q : Value → Shared → Prop} {s₀ : Shared} (pz : Nat → Bool) (d : Nat → Str) (hh : A.handled = none)
    (hfree : ∀ y ∈ scope.names, y.2 ≠ .free) (hcell : ∀ y ∈ scope.names, y.2 ≠ .cell) (hkind : scope.kind = .function) (hnames : ∀ y ∈ scope.names, y.2 = .local → scope.names.lookup y.1 = some .local) (hx : scope.names.lookup x = some .local)
    (k : wpAny (model prog w) A (eval iter env) (fun xv s₁ => ∃ y t s h tk, xv = .str y t ∧ s₁ = Sx s h tk ∧ y.length ≤ sizeLine ∧
      (∀ C c u s₃ m₃ E', s₃.heap.Ns C m₃ → m₃ x = some (.str ⟨#[c]⟩ u) → wpAny (model prog w) A (forIn ifs true fun c r => if r = true then do let ok ← isTrue c (compEnv scope C env) (eval c (compEnv scope C env)); pure (ForInStep.yield ok) else pure (ForInStep.yield r))
        (fun ok s₄ => ok = pz c ∧ PySem.Keeps s₃ s₄) E' s₃) ∧
      (∀ C c u s₃ m₃ E', pz c = true → s₃.heap.Ns C m₃ → m₃ x = some (.str ⟨#[c]⟩ u) → wpAny (model prog w) A (eval elt (compEnv scope C env)) (fun r s₄ => (∃ u', r = .str (d c) u') ∧ PySem.Keeps s₃ s₄) E' s₃) ∧
      (∀ D h' tk' ys n, Keeps h h' → h.get? D = none → h'.get? D = some (listOf ys.toArray n) → StrsAre ys ((y.cps.toList.filter pz).map d) → Q (.ref D) (Sx s h' tk'))) E s₀)
    (hs : ∀ x, foldedSetIterable iter env x = pure x := by intro _; rfl) :
    wpAny (model prog w) A (eval (.ListComp elt [⟨.Name x px, iter, ifs, 0⟩] scope pos) env) Q E s₀ := by
  refine wpAny_ListComp_walk (fun v => pz (codeOf v)) (fun v r => ∃ c u u', v = Value.str ⟨#[c]⟩ u ∧ r = Value.str (d c) u') hfree hcell hkind hnames hx (wpAny_mono k (fun xv s₁ h₁ => ?_) fun _ _ e => e) hs
  obtain ⟨y, t, s, h, tk, rfl, rfl, hsz, htest, helt, kk⟩ := h₁
  refine wpAny_pyIter_str fun o St W hst => ?_
  have up : ∀ h' : Heap, (∀ b o', b ∉ [h.objs.size] → (h.push o).get? b = some o' → h'.get? b = some o') → Keeps h h' :=
    fun h' hk b o' e => hk b o' (fun hb => absurd (Heap.lt_size e) (by rw [List.mem_singleton.mp hb]; exact Nat.lt_irrefl _)) (Heap.get?_push_of_some _ e)
  refine ⟨h.objs.size, [h.objs.size], [h.objs.size], y.cps.size, SignAt y, St, rfl, W A hh, hsz, hst, ?_, ⟨?_, ?_⟩, ?_⟩
  · intro b hb
    show b < (h.push o).objs.size
    rw [Heap.size_push, List.mem_singleton.mp hb]
    exact Nat.lt_succ_self _
  · rintro C i v s₃ m₃ E' ⟨c, u, _, rfl⟩ hn hm _ _
    exact htest C c u s₃ m₃ E' hn hm
  · rintro C i v s₃ m₃ E' ⟨c, u, _, rfl⟩ hp hn hm _ _
    exact wpAny_mono (helt C c u s₃ m₃ E' hp hn hm) (fun r s₄ h₄ => ⟨by obtain ⟨u', e⟩ := h₄.1; exact ⟨c, u, u', rfl, e⟩, h₄.2⟩) fun _ _ e => e
  · intro D h' tk' ys vs hnew hlD hpl hlen hP hF hk
    obtain ⟨n, hpl⟩ := hpl
    refine kk D h' tk' ys.toList n (up h' hk) ?_ (by rw [Array.toArray_toList]; exact hpl) (signs_paired vs y.cps.toList ys.toList (by simpa using hlen) (fun j v hv => ?_) hF)
    · cases e : h.get? D with
      | none => rfl
      | some o' => have : (h.push o).get? D = some o' := Heap.get?_push_of_some _ e; exact absurd (hnew.symm.trans this) (by simp)
    · obtain ⟨c, u, e, rfl⟩ := hP j v hv
      exact ⟨c, u, by simpa using e, rfl⟩

def spText : Str := Str.ofString " ()<>@,;:\\\"/[]?="
theorem sp_mem (c : Nat) : decide (c ∈ spText.cps.toList) = isSp c := by
  have e : spText.cps.toList = [32, 40, 41, 60, 62, 64, 44, 59, 58, 92, 34, 47, 91, 93, 63, 61] := by decide +kernel
  rw [e]
  unfold isSp
  rw [List.contains_eq_mem]

theorem join_nosep : ∀ parts : List Str, (Str.join (Str.ofString "") parts).cps.toList = parts.flatMap (·.cps.toList)
  | [] => rfl
  | [p] => by simp [Str.join]
  | p :: q :: r => by
    have ih := join_nosep (q :: r)
    show (p ++ Str.ofString "" ++ Str.join (Str.ofString "") (q :: r)).cps.toList = _
    simp only [Str.cps_append, Array.toList_append, ih]
    rw [List.flatMap_cons, show (Str.ofString "").cps.toList = [] by decide +kernel, List.append_nil]
    simp
theorem trees_comp (e : Expr) (gs : List Comprehension) (sc : Scope) (p pos : Pos) (env : Env) : backTo pos (starEach [.ListComp e gs sc p] env) = [(false, eval (.ListComp e gs sc p) env)] := rfl
theorem base_const (x n : Str) (k : Nat) (p : Pos) (env : Env) : attributeBase (.Constant (.str x) k p) n env (eval (.Constant (.str x) k p) env) = eval (.Constant (.str x) k p) env := rfl
theorem lay_signs : ∀ l : List Nat, (∀ c ∈ l, isSp c = true) → PyData.canLayAll0 ((l.map fun c => (⟨#[c]⟩ : Str)).map .str) = true
  | [], _ => rfl
  | c :: l, h => by
    have ih := lay_signs l fun a ha => h a (.tail _ ha)
    have := sp_lt (h c (.head _))
    have h1 : PyData.strOk ⟨#[c]⟩ = true := by simp [PyData.strOk]; omega
    rw [List.map_cons, List.map_cons, PyData.canLayAll0, PyData.canLay0, h1, ih]
    rfl
theorem depth_strs : ∀ l : List Str, PyData.depthAll (l.map .str) = 0
  | [] => by simp [PyData.depthAll]
  | x :: l => by simp [PyData.depthAll, PyData.depth, depth_strs l]
theorem shaped_signs (l : List Nat) (h : ∀ c ∈ l, isSp c = true) : SeqAt.shaped (.list ((l.map fun c => (⟨#[c]⟩ : Str)).map .str)) = true := by
  unfold SeqAt.shaped
  rw [PyData.canLay0, lay_signs l h, Bool.true_and, PyData.depth, depth_strs]
  rfl
theorem list0 {pos : Pos} {env : Env} {Q : Value → Shared → Prop} (k : wpAny (model prog w) A (newList []) Q E s) : wpAny (model prog w) A (eval (.List [] pos) env) Q E s :=
  List_ (Calls.spliced_nil k)

theorem written_ {mg mb : Str → Option Value} {h₀ h : Heap} {tk : Nat} (hh : A.handled = none) (hroom : A.depth < recursionLimit) (hu : A.units + 100 < cLine) (B : Base mg mb h₀) (K : Keeps h₀ h) {f : Addr} {o : Obj} {pm cd doc : Value} (hf : Fn h 14 f o pm cd doc)
    {p v : Str} {q : Int} {tp tv tq : Tok} (hp : p.length ≤ 1000) (hv : v.length ≤ 200000)
    (k : ∀ h' tk' t', Keeps h h' → R (.ok (.ret (.str (fmt p (q != 0) v) t'))) (Sx s h' tk')) :
    codeAny (model prog w) A (.call (.ref f) ⟨[.str p tp, .int q tq, .str v tv], []⟩) R (Sx s h tk) := by
  refine enter [("name", .str p tp), ("marks", .int q tq), ("value", .str v tv)] hroom (B.keeps K).lim hf rfl rfl rfl rfl rfl (by decide +kernel) fun h₁ tk₁ hns hk => ?_
  have F : Fm h h.objs.size h₁ _ := ⟨hns, hk, by
    cases e : h.get? h.objs.size with
    | none => rfl
    | some o => exact absurd (Heap.lt_size e) (Nat.lt_irrefl _)⟩
  generalize h.objs.size = L at F
  have hA : (A.deeper (envOf (nameAt 14) (scopeAt 14) L f cd)).units + 64 < cLine := by show A.units + 3 + 64 < cLine; omega
  have hA3 : (A.deeper (envOf (nameAt 14) (scopeAt 14) L f cd)).handled = none := hh
  generalize A.deeper (envOf (nameAt 14) (scopeAt 14) L f cd) = A' at hA hA3 ⊢
  refine wpAny_execs_cons (wpAny_If (wpAny_isTrue_Compare1 (ldF F (by walk_at "lk") (strR fun t1 tk1 => PyProof.Rows.eq_str (wpAny_truthy_bool ?_)))))
  by_cases hemp : v = Str.empty
  · have e : (v == Str.ofString "") = true := by rw [hemp]; decide
    rw [e]
    simp only [if_true]
    refine wpAny_execs_cons (wpAny_Return_some (ldF F (by walk_at "lk") ?_))
    have := k h₁ tk1 tp hk
    unfold fmt at this
    rw [if_pos hemp] at this
    exact this
  · have e : (v == Str.ofString "") = false := by
      have : ¬ v = Str.ofString "" := fun e => hemp (e.trans (by decide))
      simpa using this
    rw [e]
    simp only [Bool.false_eq_true, if_false]
    refine wpAny_execs_nil ?_
    refine wpAny_execs_cons (wpAny_If (isTrue_and (wpAny_isTrue_Compare1 (ldF F (by walk_at "lk") (intR fun t2 tk2 => eq_int (wpAny_truthy_bool ?_))))))
    have quoted : (q != 0 || hasSp v) = true → ∀ h₂ tk₂ m₂, Fm h L h₂ m₂ → m₂ "name" = some (.str p tp) → m₂ "value" = some (.str v tv) →
        wpAny (model prog w) A' (execs [(bodyAt 14).getD 2 default] (envOf (nameAt 14) (scopeAt 14) L f cd)) (fun fl s' => R (.ok (.ret (match fl with | .ret v => v | _ => .none))) s') NoE (Sx s h₂ tk₂) := by
      intro hq h₂ tk₂ m₂ F2 m1 m2
      have lq : (Str.ofString "=\"").length = 2 := rfl
      have lq1 : (Str.ofString "\"").length = 1 := rfl
      refine wpAny_execs_cons (wpAny_Return_some ?_)
      refine (wpAny_BinOp (wpAny_BinOp (wpAny_BinOp (ldF F2 m1 (strR fun t5 tk5 => PyProof.Rows.add_str (fun t6 tk6 => ?_) (by simp only [sizeLine, lq]; omega))))))
      show wpAny _ _ (eval (Expr.Call (Expr.Attribute (Expr.Constant (.str _) _ _) _ _) [Expr.ListComp _ _ _ _] [] _) _) _ _ (Sx s h₂ tk6)
      refine wpAny_Call_method1_late ?ha ?hb ?hc ?hd
      case ha => exact base_const _ _ _ _ _
      case hb => rfl
      case hc => exact trees_comp _ _ _ _ _ _
      refine strR (s := s) (h := h₂) fun t7 tk7 => ?_
      refine ⟨"str", "str.join", PySem.F.plainAttrs_str, PySem.F.slot_str_join, PySem.F.type_str_join, typeIs_str _ _ _, (fun a e => by cases e), ?_⟩
      refine Calls.callWith_builtin rfl (Calls.evalArgs_plain (Calls.spliced_cons ?_))
      refine (compS (fun _ => true) (fun c => ⟨(esc1 c).toArray⟩) hA3 (by decide +kernel) (by decide +kernel) rfl (by decide +kernel) rfl (ldF F2 m2 ⟨v, _, _, _, _, rfl, rfl, by simp only [sizeLine]; omega, ?_, ?_, ?_⟩))
      · intro C c u s₃ m₃ E' hn hm
        exact wpAny_tests_nil ⟨rfl, _, _, rfl, fun _ _ e => e⟩
      · intro C c u s₃ m₃ E' _ hn hm
        refine IfExp_ (wpAny_isTrue_Compare1 (wpAny_Name (wpAny_loadName_local rfl rfl hn hm (Calls.Constant_str (PyProof.Rows.in_str (wpAny_truthy_bool ?_))))))
        rw [StrLaws.found_one]
        have eb : (Str.ofString "\\\"").cps.toList = [92, 34] := by decide +kernel
        rw [eb]
        by_cases hc : c = 92 ∨ c = 34
        · rw [decide_eq_true (by rcases hc with rfl | rfl <;> simp)]
          simp only [if_true]
          refine wpAny_BinOp (Calls.Constant_str (wpAny_Name (wpAny_loadName_local rfl rfl hn hm (PyProof.Rows.add_str (fun t8 tk8 => ⟨⟨t8, ?_⟩, _, _, rfl, fun _ _ e => e⟩) (by show 1 + 1 ≤ sizeLine; decide)))))
          have : (Str.ofString "\\") ++ (⟨#[c]⟩ : Str) = ⟨(esc1 c).toArray⟩ := by
            rcases hc with rfl | rfl <;> decide +kernel
          rw [this]
        · rw [decide_eq_false (by simp; omega)]
          simp only [Bool.false_eq_true, if_false]
          refine wpAny_Name (wpAny_loadName_local rfl rfl hn hm ⟨⟨u, ?_⟩, _, _, rfl, fun _ _ e => e⟩)
          have : esc1 c = [c] := by unfold esc1; rw [if_neg (by omega), if_neg (by omega)]
          rw [this]
      · intro D h' tk' ys n kp hD hl hys
        have F' : Fm h L h' m₂ := F2.kept kp
        rw [List.filter_eq_self.mpr (fun _ _ => rfl)] at hys
        have hsum : ∀ l : List Nat, ((l.map fun c => (⟨(esc1 c).toArray⟩ : Str)).map (·.length)).sum ≤ 2 * l.length := by
          intro l
          induction l with
          | nil => simp
          | cons a r ih =>
            have : (esc1 a).length ≤ 2 := by unfold esc1; split <;> (try split) <;> simp
            have e : (⟨(esc1 a).toArray⟩ : Str).length = (esc1 a).length := by simp [PySem.Str.length]
            simp only [List.map_cons, List.sum_cons, List.length_cons, e] at ih ⊢
            omega
        have hvl : v.cps.toList.length = v.length := by simp [PySem.Str.length]
        have hs2 := hsum v.cps.toList
        refine Calls.spliced_nil (join_list (s := Sx s h' tk') (PySem.IsL.isList hl) hys ?_ fun t8 tk8 => ?_)
        · show _ + _ * 0 ≤ 16777216
          omega
        · have ej : Txt.join (Str.ofString "") (v.cps.toList.map fun c => (⟨(esc1 c).toArray⟩ : Str)) = escS v := by
            refine Str.ext' (Array.toList_inj.mp ?_)
            rw [show Txt.join (Str.ofString "") (v.cps.toList.map fun c => (⟨(esc1 c).toArray⟩ : Str)) = _ from StrLaws.glued_eq_join _ _, join_nosep]
            simp only [escS, List.flatMap_map]
          rw [ej]
          have l2 := len_esc v
          refine PyProof.Rows.add_str (fun t9 tk9 => ?_) (by simp only [Str.length_append, sizeLine, lq]; omega)
          refine strR (s := s) (h := h') fun t10 tk10 => PyProof.Rows.add_str (fun t11 tk11 => ?_) (by simp only [Str.length_append, sizeLine, lq, lq1]; omega)
          have := k h' tk11 t11 F'.keep
          unfold fmt at this
          rw [if_neg hemp, if_pos hq] at this
          exact this
    by_cases hq : q = 0
    · have e : (q == 0) = true := by simpa using hq
      rw [e]
      simp only [if_true]
      refine isTrue_and (wpAny_isTrue_Compare1 (compS isSp (fun c => ⟨#[c]⟩) hA3 (by decide +kernel) (by decide +kernel) rfl (by decide +kernel) rfl (ldF F (by walk_at "lk") ⟨v, _, _, _, _, rfl, rfl, by simp only [sizeLine]; omega, ?_, ?_, ?_⟩)))
      · intro C c u s₃ m₃ E' hn hm
        refine wpAny_tests_one (wpAny_isTrue_Compare1 (wpAny_Name (wpAny_loadName_local rfl rfl hn hm (Calls.Constant_str (PyProof.Rows.in_str (wpAny_truthy_bool ⟨?_, ?_⟩))))))
        · rw [StrLaws.found_one]; exact sp_mem c
        · exact ⟨_, _, rfl, fun _ _ e => e⟩
      · intro C c u s₃ m₃ E' _ hn hm
        exact wpAny_Name (wpAny_loadName_local rfl rfl hn hm ⟨⟨_, rfl⟩, _, _, rfl, fun _ _ e => e⟩)
      · intro D h' tk' ys n kp hD hl hys
        have F' : Fm h L h' _ := F.kept kp
        refine list0 (newListF F' News.nil (Nat.zero_le _) fun D2 h2 F2 N2 _ _ kp2 => ?_)
        have hm : ∀ c ∈ v.cps.toList.filter isSp, isSp c = true := fun c hc => (List.mem_filter.mp hc).2
        refine eq_dataH (s := Sx s h2 tk') (reads_list_at (kp2 _ _ hl) rfl rfl (show ReadsAll h2 ys.toArray.toList _ [] from hys.reads h2)) (reads_list_at (N2 _ (.head _)).1 rfl rfl .nil) (shaped_signs _ hm) rfl hA (wpAny_truthy_bool ?_)
        have F2' : Fm h L h2 _ := F2
        cases hsp : hasSp v with
        | true =>
          have e3 : PyData.eqv (.list (((v.cps.toList.filter isSp).map fun c => (⟨#[c]⟩ : Str)).map .str)) (.list []) = false := by
            cases hl : v.cps.toList.filter isSp with
            | nil =>
              exfalso
              obtain ⟨c, hc, hs⟩ := List.any_eq_true.mp hsp
              have : c ∈ v.cps.toList.filter isSp := List.mem_filter.mpr ⟨hc, hs⟩
              rw [hl] at this; cases this
            | cons c l => rfl
          rw [e3]
          simp only [Bool.false_eq_true, if_false]
          exact wpAny_execs_nil (quoted (by rw [hsp]; simp) h2 _ _ F2' (by walk_at "lk") (by walk_at "lk"))
        | false =>
          have e3 : PyData.eqv (.list (((v.cps.toList.filter isSp).map fun c => (⟨#[c]⟩ : Str)).map .str)) (.list []) = true := by
            have : v.cps.toList.filter isSp = [] := List.filter_eq_nil_iff.mpr fun c hc => by simpa using List.any_eq_false.mp hsp c hc
            rw [this]; rfl
          rw [e3]
          simp only [if_true]
          refine isTrue_and_nil ?_
          simp only [if_true]
          have lq : (Str.ofString "=").length = 1 := rfl
          refine wpAny_execs_cons (wpAny_Return_some (wpAny_BinOp (wpAny_BinOp (ldF F2' (by walk_at "lk") (strR fun t5 tk5 => PyProof.Rows.add_str (fun t6 tk6 => ?_) (by simp only [sizeLine, lq]; omega))))))
          refine ldF (s := s) (h := h2) F2' (by walk_at "lk") (PyProof.Rows.add_str (fun t7 tk7 => ?_) (by simp only [Str.length_append, sizeLine, lq]; omega))
          have := k h2 tk7 t7 F2'.keep
          unfold fmt at this
          rw [if_neg hemp, if_neg (by rw [hsp, hq]; simp)] at this
          exact this
    · have e : (q == 0) = false := by simpa using hq
      rw [e]
      simp only [Bool.false_eq_true, if_false]
      exact wpAny_execs_nil (quoted (by simp [hq]) h₁ _ _ F (by walk_at "lk") (by walk_at "lk"))
end
end Mine

/-! part G1 -/
namespace Mine

section
variable {prog : Program} {w : World} {A : Around} {E : Value → Shared → Prop} {s : Shared}

/-- a new anchor: all that stands now, but the frame's map and what it owns -/
theorem rebase {g h : Heap} {L : Addr} {m : Str → Option Value} {os : List (Addr × Obj)} (F : Fm g L h m) (N : News g L h os) :
    ∃ g', Fm g' L h m ∧ News g' L h os ∧ Keeps g g' ∧ ∀ b o, h.get? b = some o → b ≠ L → (∀ p ∈ os, p.1 ≠ b) → g'.get? b = some o := by
  have key : ∀ b o, h.get? b = some o → b ≠ L → (∀ p ∈ os, p.1 ≠ b) → (hideAll h (L :: os.map (·.1))).get? b = some o := fun b o e hL ho =>
    hideAll_get _ e fun hm => by
      rcases List.mem_cons.mp hm with rfl | hm
      · exact hL rfl
      · obtain ⟨p, hp, rfl⟩ := List.mem_map.mp hm; exact ho p hp rfl
  refine ⟨hideAll h (L :: os.map (·.1)), ⟨F.ns, fun b o e => of_hideAll _ e, hideAll_none _ (.head _)⟩, fun p hp => ⟨(N p hp).1, (N p hp).2.1, hideAll_none _ (.tail _ (List.mem_map_of_mem hp))⟩, fun b o e => ?_, key⟩
  refine key b o (F.keep b o e) (by rintro rfl; rw [F.gL] at e; cases e) fun p hp => ?_
  rintro rfl
  rw [(N p hp).2.2] at e; cases e

abbrev IsIt (o : Obj) (l : Addr) (i : Nat) : Prop := o.cls = .type "list_iterator" ∧ o.data = .fields #[.ref l, rawInt (i : Int)]

theorem forL {target iter : Expr} {body : List Stmt} {pos : Pos} {env : Env} {L : Addr} {Q : Flow → Shared → Prop} {s₀ : Shared} (hh : A.handled = none)
    (k : wpAny (model prog w) A (eval iter env) (fun v s₁ => ∃ (s : Shared) (h : Heap) (tk : Nat) (l : Addr) (vs : List Value) (g₀ g : Heap) (m : Str → Option Value) (os : List (Addr × Obj)) (J : Nat → Heap → (Str → Option Value) → List (Addr × Obj) → Prop),
      v = .ref l ∧ s₁ = Sx s h tk ∧ g₀.IsList l vs.toArray ∧ Keeps g₀ g ∧ Fm g L h m ∧ News g L h os ∧ J 0 g m os ∧
      (∀ i v it oi g h tk m os, vs[i]? = some v → J i g m os → Keeps g₀ g → Fm g L h m → News g L h ((it, oi) :: os) → (∀ p ∈ os, p.1 ≠ it) → IsIt oi l (i + 1) →
        wpAny (model prog w) A (assign target env v) (fun _ s₂ => wpAny (model prog w) A (execs body env) (fun f s₃ => match f with
          | .next | .cont => ∃ g' h' tk' m' os', s₃ = Sx s h' tk' ∧ J (i + 1) g' m' os' ∧ Keeps g₀ g' ∧ Fm g' L h' m' ∧ News g' L h' ((it, oi) :: os') ∧ ∀ p ∈ os', p.1 ≠ it
          | .brk => Q .next s₃
          | .ret v => Q (.ret v) s₃) NoE s₂) NoE (Sx s h tk)) ∧
      (∀ g h tk m os, J vs.length g m os → Keeps g₀ g → Fm g L h m → News g L h os → Q .next (Sx s h tk))) NoE s₀)
    (hs : ∀ x, foldedSetIterable iter env x = pure x := by intro _; rfl) (ht : ∀ it v, letOwnedTupleGo target it v = pure () := by intro _ _; rfl) :
    wpAny (model prog w) A (exec (.For target iter body [] pos) env) Q NoE s₀ := by
  refine wpAny_For (wpAny_mono k (fun v s₁ h₁ => ?_) fun _ _ x => x) hs
  obtain ⟨s, h, tk, l, vs, g₀, g, m, os, J, rfl, rfl, hl, hg, F, N, hJ, step, done⟩ := h₁
  have hlh : ∀ {g h m}, Keeps g₀ g → Fm g L h m → h.IsList l vs.toArray := fun hg F => let ⟨o, ho, r⟩ := hl; ⟨o, F.keep _ _ (hg _ _ ho), r⟩
  refine wpAny_pyIter_list (s := Sx s h tk) (hlh hg F) ?_
  refine for_ (fun j s' => ∃ i g h' tk m os oi, s' = Sx s h' tk ∧ J i g m os ∧ Keeps g₀ g ∧ Fm g L h' m ∧ News g L h' ((h.objs.size, oi) :: os) ∧ (∀ p ∈ os, p.1 ≠ h.objs.size) ∧ IsIt oi l i ∧ i ≤ vs.length ∧ j = vs.length + 1 - i) ?_ (vs.length + 1) ?_ (ht _)
  · rintro j s' ⟨i, g, h', tk', m, os, oi, rfl, hJ, hg, F, N, hd, hi, hil, rfl⟩
    have z := N _ (.head _)
    have hit : (Sx s h' tk').heap.IsListIter h.objs.size l i := ⟨oi, z.1, hi.1, hi.2⟩
    have Nt : News g L h' os := fun p hp => N p (.tail _ hp)
    cases hv : vs[i]? with
    | none =>
      have e : i = vs.length := Nat.le_antisymm hil (by simpa using hv)
      refine wpAny_pyNext_list_end hh hit (hlh hg F) (by simpa using hv) fun h'' hx => ?_
      subst e
      exact done g h'' tk' m os hJ hg (F.ext hx z.2.1 z.2.2) fun p hp => ⟨hx _ _ (hd p hp) (Nt p hp).1, (Nt p hp).2⟩
    | some v =>
      have hlt := (List.getElem?_eq_some_iff.mp hv).1
      refine wpAny_pyNext_list_item hit (hlh hg F) (by simpa using hv) fun h'' hit' hs' => ?_
      obtain ⟨oi', hoi, hc', hd'⟩ := hit'
      have F' := F.ext hs'.extBut z.2.1 z.2.2
      have N' : News g L h'' ((h.objs.size, oi') :: os) := fun p hp => by
        rcases List.mem_cons.mp hp with rfl | hp
        · exact ⟨hoi, z.2⟩
        · exact ⟨(hs'.2 _ (hd p hp)).trans (Nt p hp).1, (Nt p hp).2⟩
      refine wpAny_mono (step i v _ oi' g h'' tk' m os hv hJ hg F' N' hd ⟨hc', hd'⟩) (fun _ s₂ h₂ => wpAny_mono h₂ (fun f s₃ h₃ => ?_) fun _ _ x => x) fun _ _ x => x
      have fin : (∃ g' h' tk' m' os', s₃ = Sx s h' tk' ∧ J (i + 1) g' m' os' ∧ Keeps g₀ g' ∧ Fm g' L h' m' ∧ News g' L h' ((h.objs.size, oi') :: os') ∧ ∀ p ∈ os', p.1 ≠ h.objs.size) →
          ∃ j, j < vs.length + 1 - i ∧ ∃ i g h' tk m os oi, s₃ = Sx s h' tk ∧ J i g m os ∧ Keeps g₀ g ∧ Fm g L h' m ∧ News g L h' ((h.objs.size, oi) :: os) ∧ (∀ p ∈ os, p.1 ≠ h.objs.size) ∧ IsIt oi l i ∧ i ≤ vs.length ∧ j = vs.length + 1 - i := by
        rintro ⟨g', h3, tk3, m', os', rfl, hJ', hg', F3, N3, hd3⟩
        exact ⟨vs.length + 1 - (i + 1), by omega, i + 1, g', h3, tk3, m', os', oi', rfl, hJ', hg', F3, N3, hd3, ⟨hc', hd'⟩, hlt, rfl⟩
      cases f with
      | next => exact fin h₃
      | cont => exact fin h₃
      | brk => exact h₃
      | ret v => exact h₃
  · refine ⟨0, g, _, tk, m, os, _, rfl, hJ, hg, F.push _, newsPush F N _ rfl, fun p hp => Nat.ne_of_lt (Heap.lt_size (N p hp).1), ⟨rfl, rfl⟩, Nat.zero_le _, rfl⟩

/-- a slice of a list -/
theorem sliceF {value : Expr} {lower upper : Option Expr} {p pos : Pos} {env : Env} {Q : Value → Shared → Prop} {s₀ : Shared}
    (k : wpAny (model prog w) A (eval value env) (fun o s₁ => wpAny (model prog w) A (evalPart lower env) (fun vl s₂ => wpAny (model prog w) A (evalPart upper env) (fun vu s₃ =>
      ∃ (s : Shared) (h : Heap) (tk : Nat) (l : Addr) (vs : List Value) (lo hi : Option Int), s₃ = Sx s h tk ∧ o = .ref l ∧ h.IsList l vs.toArray ∧ vs.length ≤ sizeLine ∧ IsPart vl lo ∧ IsPart vu hi ∧
        ∀ D h', Keeps h h' → h.get? D = none → h'.get? D = some (listOf (slicePick vs.toArray lo hi none) 0) → Q (.ref D) (Sx s h' tk)) E s₂) E s₁) E s₀)
    (hs : ∀ l i, subscripted (.Slice lower upper none p) false (.ref l) (.ref i) = operate [.ref i, .ref l] (getItem (.ref l) (.ref i)) := by intro _ _; with_unfolding_all rfl) :
    wpAny (model prog w) A (eval (.Subscript value (.Slice lower upper none p) pos) env) Q E s₀ := by
  refine Subscript_ (wpAny_mono k (fun o s₁ h₁ => wpAny_Slice (wpAny_mono h₁ (fun vl s₂ h₂ => wpAny_mono h₂ (fun vu s₃ h₃ => ?_) fun _ _ x => x) fun _ _ x => x)) fun _ _ x => x)
  obtain ⟨s, h, tk, l, vs, lo, hi, rfl, rfl, hl, hsz, pl, pu, kk⟩ := h₃
  rw [evalPart_none]
  refine wpAny_pure ?_
  refine tail_any (s := Sx s (h.push { cls := .type "slice", data := .fields #[vl, vu, .none] }) tk) (Heap.IsList.typeIs (s := Sx s (h.push { cls := .type "slice", data := .fields #[vl, vu, .none] }) tk) (hl.push _)) list_getitem_lookup ?_ (hs _ _)
  refine wpAny_getItem_list_slice (s := Sx s (h.push { cls := .type "slice", data := .fields #[vl, vu, .none] }) tk) (hl.push _) (Heap.IsSliceOf.new ..) pl pu .none (by simp) ?_ (by rw [List.size_toArray]; exact hsz)
  refine kk _ _ (fun b o e => Heap.get?_push_of_some _ (Heap.get?_push_of_some _ e)) ?_ (Heap.get?_push_size _ rfl)
  cases e : h.get? (h.push { cls := .type "slice", data := .fields #[vl, vu, .none] }).objs.size with
  | none => exact e
  | some o =>
    have := Heap.lt_size e
    rw [Heap.size_push] at this
    exact absurd this (by show ¬ (h.objs.size + 1 < h.objs.size); omega)
end
end Mine

/-! part G2 -/
namespace Mine
local macro_rules | `(tactic| walk_at "lk") => `(tactic| first | exact up_same | assumption | (refine up_ne (by decide) ?_; walk_at "lk") | rfl)

def NamesAt (h : Heap) (NL : Addr) (nms : List (Str × Int)) : Prop :=
  ∃ vs : List Value, h.IsList NL vs.toArray ∧ vs.length = nms.length ∧ ∀ (i : Nat) (v : Value), vs[i]? = some v → ∃ (nm : Str × Int) (a : Addr) (t u : Tok), nms[i]? = some nm ∧ v = .ref a ∧ IsTup h a #[.str nm.1 t, .int nm.2 u]
def SeedsAt (h : Heap) (SL : Addr) (seeds : List Str) : Prop := ∃ ys : List Value, h.IsList SL ys.toArray ∧ StrsAre ys seeds
theorem NamesAt.keeps {h h' : Heap} {NL : Addr} {nms : List (Str × Int)} (x : NamesAt h NL nms) (hk : Keeps h h') : NamesAt h' NL nms :=
  let ⟨vs, ⟨o, ho, r⟩, hl, hv⟩ := x; ⟨vs, ⟨o, hk _ _ ho, r⟩, hl, fun i v e => let ⟨nm, a, t, u, e1, e2, e3⟩ := hv i v e; ⟨nm, a, t, u, e1, e2, e3.keeps hk⟩⟩
theorem SeedsAt.keeps {h h' : Heap} {NL : Addr} {nms : List Str} (x : SeedsAt h NL nms) (hk : Keeps h h') : SeedsAt h' NL nms :=
  let ⟨vs, ⟨o, ho, r⟩, hl⟩ := x; ⟨vs, ⟨o, hk _ _ ho, r⟩, hl⟩
structure NmsOk (nms : List (Str × Int)) : Prop where
  two : nms.length = 2
  each : ∀ n ∈ nms, 1 ≤ n.1.length ∧ n.1.length ≤ 3 ∧ PyData.strOk n.1 = true
structure SeedsOk (seeds : List Str) (i : Nat) : Prop where
  ne : seeds ≠ []
  len : seeds.length ≤ i + 1
  each : ∀ x ∈ seeds, x.length ≤ i ∧ PyData.strOk x = true

theorem StrsAre.app : ∀ {vs ws : List Value} {ns ms : List Str}, StrsAre vs ns → StrsAre ws ms → StrsAre (vs ++ ws) (ns ++ ms)
  | _, _, _, _, .nil, h => h
  | _, _, _, _, .cons n t r, h => .cons n t (StrsAre.app r h)

theorem fmod_range (a : Int) (b : Int) (hb : 0 < b) : 0 ≤ a.fmod b ∧ a.fmod b < b := ⟨Int.fmod_nonneg_of_pos a hb, Int.fmod_lt_of_pos a hb⟩

theorem mulOk_small (x : Str) (hx : x.length = 1) (n : Int) (h1 : n = 1 ∨ n = 2 ∨ n = 3) : MulOk x n := by
  refine ⟨by rcases h1 with rfl | rfl | rfl <;> decide, fun _ _ => ?_, fun _ _ => ?_⟩
  · rw [hx]; rcases h1 with rfl | rfl | rfl <;> decide
  · rw [hx]; rcases h1 with rfl | rfl | rfl <;> decide
theorem strOk_append {x y : Str} (hx : PyData.strOk x = true) (hy : PyData.strOk y = true) : PyData.strOk (x ++ y) = true := by
  unfold PyData.strOk at *
  rw [Str.cps_append, Array.all_append, hx, hy]; rfl

section
variable {prog : Program} {w : World} {A : Around} {E : Value → Shared → Prop} {s : Shared} {R : Result → Shared → Prop}

theorem partS {e : Expr} {env : Env} {Q : Value → Shared → Prop} (k : wpAny (model prog w) A (eval e env) Q E s) : wpAny (model prog w) A (evalPart (some e) env) Q E s := k
theorem partN {env : Env} {Q : Value → Shared → Prop} (k : Q .none s) : wpAny (model prog w) A (evalPart none env) Q E s := wpAny_pure k
theorem list1 {e1 : Expr} {pos : Pos} {env : Env} {Q : Value → Shared → Prop}
    (k : wpAny (model prog w) A (eval e1 env) (fun v1 s' => wpAny (model prog w) A (newList [v1]) Q E s') E s)
    (ht : backTo pos (starEach [e1] env) = [(false, eval e1 env)] := by rfl) : wpAny (model prog w) A (eval (.List [e1] pos) env) Q E s := by
  refine List_ ?_
  rw [ht]
  exact Calls.spliced_cons (wpAny_mono k (fun _ _ h => Calls.spliced_nil h) fun _ _ x => x)
theorem list2 {e1 e2 : Expr} {pos : Pos} {env : Env} {Q : Value → Shared → Prop}
    (k : wpAny (model prog w) A (eval e1 env) (fun v1 s' => wpAny (model prog w) A (eval e2 env) (fun v2 s' => wpAny (model prog w) A (newList [v1, v2]) Q E s') E s') E s)
    (ht : backTo pos (starEach [e1, e2] env) = [(false, eval e1 env), (false, eval e2 env)] := by rfl) : wpAny (model prog w) A (eval (.List [e1, e2] pos) env) Q E s := by
  refine List_ ?_
  rw [ht]
  exact Calls.spliced_cons (wpAny_mono k (fun _ _ h => Calls.spliced_cons (wpAny_mono h (fun _ _ h => Calls.spliced_nil h) fun _ _ x => x)) fun _ _ x => x)
theorem list3 {e1 e2 e3 : Expr} {pos : Pos} {env : Env} {Q : Value → Shared → Prop}
    (k : wpAny (model prog w) A (eval e1 env) (fun v1 s' => wpAny (model prog w) A (eval e2 env) (fun v2 s' => wpAny (model prog w) A (eval e3 env) (fun v3 s' => wpAny (model prog w) A (newList [v1, v2, v3]) Q E s') E s') E s') E s)
    (ht : backTo pos (starEach [e1, e2, e3] env) = [(false, eval e1 env), (false, eval e2 env), (false, eval e3 env)] := by rfl) : wpAny (model prog w) A (eval (.List [e1, e2, e3] pos) env) Q E s := by
  refine List_ ?_
  rw [ht]
  exact Calls.spliced_cons (wpAny_mono k (fun _ _ h => Calls.spliced_cons (wpAny_mono h (fun _ _ h => Calls.spliced_cons (wpAny_mono h (fun _ _ h => Calls.spliced_nil h) fun _ _ x => x)) fun _ _ x => x)) fun _ _ x => x)
theorem addListR {h : Heap} {tk : Nat} {l b : Addr} {xs ys : List Value} {c d : Nat} {Q : Value → Shared → Prop} (hl : h.get? l = some (listOf xs.toArray c)) (hb : h.get? b = some (listOf ys.toArray d)) (hsz : xs.length + ys.length ≤ sizeLine)
    (k : ∀ D h', Keeps h h' → h.get? D = none → h'.get? D = some (listOf (xs ++ ys).toArray 0) → Q (.ref D) (Sx s h' tk)) : wpAny (model prog w) A (binaryOp .Add (.ref l) (.ref b)) Q E (Sx s h tk) := by
  refine PySem.P.add_list (s := Sx s h tk) hl hb ?_ (by rw [List.size_toArray, List.size_toArray]; exact hsz)
  refine k _ _ (fun _ _ e => Heap.get?_push_of_some _ e) ?_ ?_
  · cases e : h.get? h.objs.size with
    | none => exact e
    | some o => exact absurd (Heap.lt_size e) (Nat.lt_irrefl _)
  · have : (xs.toArray ++ ys.toArray) = (xs ++ ys).toArray := by simp
    rw [← this]
    exact Heap.get?_push_size _ rfl
theorem mulS {h : Heap} {tk : Nat} {x : Str} {n : Int} {t u : Tok} {Q : Value → Shared → Prop} (hx : x.length = 1) (h1 : n = 1 ∨ n = 2 ∨ n = 3) (k : ∀ t' tk', Q (.str (Txt.mul x n) t') (Sx s h tk')) :
    wpAny (model prog w) A (binaryOp .Mult (.str x t) (.int n u)) Q E (Sx s h tk) := SB.mul (mulOk_small x hx n h1) fun t' k' => k t' k'
theorem newsSub {g h : Heap} {L : Addr} {os os' : List (Addr × Obj)} (N : News g L h os) (hs : ∀ p ∈ os', p ∈ os) : News g L h os' := fun p hp => N p (hs p hp)
theorem newsKept {g h h' : Heap} {L : Addr} {os : List (Addr × Obj)} (N : News g L h os) (hk : Keeps h h') : News g L h' os := fun p hp => ⟨hk _ _ (N p hp).1, (N p hp).2⟩

theorem newsNew {g h h' : Heap} {L D : Addr} {m : Str → Option Value} {os : List (Addr × Obj)} {o : Obj} (F : Fm g L h m) (N : News g L h os) (hk : Keeps h h') (hD : h.get? D = none) (ho : h'.get? D = some o) :
    Fm g L h' m ∧ News g L h' ((D, o) :: os) ∧ ∀ p ∈ os, p.1 ≠ D := by
  refine ⟨F.kept hk, fun p hp => ?_, fun p hp => ?_⟩
  · rcases List.mem_cons.mp hp with rfl | hp
    · refine ⟨ho, ?_, ?_⟩
      · rintro rfl
        obtain ⟨o', _, _, h1, _⟩ := F.ns
        rw [hD] at h1; cases h1
      · cases e : g.get? D with
        | none => rfl
        | some o' => rw [F.keep _ _ e] at hD; cases hD
    · exact ⟨hk _ _ (N p hp).1, (N p hp).2⟩
  · rintro rfl
    rw [(N p hp).1] at hD; cases hD

def signs : Str := Str.ofString "pq\"\\; =/()<>@,:[]?"
theorem sign_ok (a : Int) (h0 : 0 ≤ a) (h1 : a < 18) : PyData.strOk (Txt.item signs a) = true := by
  have key : ∀ i : Fin 18, PyData.strOk (Txt.item signs (i.1 : Int)) = true := by decide +kernel
  obtain ⟨n, rfl⟩ := Int.eq_ofNat_of_zero_le h0
  exact key ⟨n, by omega⟩
theorem itemS {value slice : Expr} {x : Str} {t u : Tok} {i : Int} {h : Heap} {tk : Nat} {Q : Value → Shared → Prop} (h1 : 0 ≤ i) (h2 : i < x.length) (hx : x.length < 1000)
    (k : ∀ t' tk', (Txt.item x i).length = 1 → Q (.str (Txt.item x i) t') (Sx s h tk'))
    (hs : subscripted slice false (.str x t) (.int i u) = operate [.str x t, .int i u] (getItem (.str x t) (.int i u)) := by with_unfolding_all rfl)
    (ht : ∀ r, letTemporaryGo value (.str x t) r = pure () := by intro _; with_unfolding_all rfl) :
    wpAny (model prog w) A (subscriptTail value slice (.str x t) (.int i u)) Q E (Sx s h tk) :=
  item_str (by unfold fitsSsize; simp; omega) (by omega) h2 (fun hl => k _ _ (by omega)) hs ht

theorem drawn_loop {g h : Heap} {tk : Nat} {L f : Addr} {cd : Value} (hh : A.handled = none) {m : Str → Option Value} {D NL SL : Addr} {row : List Value} {c : Nat} {t₀ : Tok} {nms : List (Str × Int)}
    (F : Fm g L h m) (N : News g L h [(SL, listOf [Value.str Str.empty t₀].toArray c)]) (hm1 : m "row" = some (.ref D)) (hm2 : m "names" = some (.ref NL)) (hm3 : m "seeds" = some (.ref SL))
    (hrow : g.get? D = some (listOf row.toArray 0)) (hall : ∀ v ∈ row, ∃ n t, v = Value.int n t) (hlen : row.length ≤ 9) (hNames : NamesAt g NL nms) (hNok : NmsOk nms)
    (k : ∀ h' tk' T NL SL nms seeds, Keeps g h' → IsTup h' T #[.ref NL, .ref SL] → NamesAt h' NL nms → SeedsAt h' SL seeds → NmsOk nms → SeedsOk seeds 7 → R (.ok (.ret (.ref T))) (Sx s h' tk')) :
    wpAny (model prog w) A (execs ((bodyAt 12).drop 4) (envOf (nameAt 12) (scopeAt 12) L f cd)) (fun fl s' => R (.ok (.ret (match fl with | .ret v => v | _ => .none))) s') NoE (Sx s h tk) := by
  refine wpAny_execs_cons (forL (L := L) hh (sliceF (ldF F (by walk_at "lk") (partS (intR fun t30 tk30 => partN ?_)))))
  refine ⟨s, h, tk30, D, _, some 2, none, rfl, rfl, PySem.IsL.isList (F.keep _ _ hrow), by simp only [sizeLine]; omega, .int 2 t30, .none, fun D31 h31 k31 n31 hD31 => ?_⟩
  rw [show slicePick row.toArray (some 2) none none = (row.drop 2).toArray from slicePick_from' row.toArray 2] at hD31
  obtain ⟨F31, N31, d31⟩ := newsNew F N k31 n31 hD31
  obtain ⟨g1, F1, N1, kg, hg⟩ := rebase F31 (newsSub N31 (os' := [(SL, _)]) (fun p hp => .tail _ hp))
  have hD1 : g1.get? D31 = some (listOf (row.drop 2).toArray 0) := hg _ _ hD31 (N31 _ (.head _)).2.1 fun p hp => d31 p hp
  have hall2 : ∀ v ∈ row.drop 2, ∃ n t, v = Value.int n t := fun v hv => hall v (List.mem_of_mem_drop hv)
  have hlen2 : (row.drop 2).length ≤ 7 := by rw [List.length_drop]; omega
  generalize row.drop 2 = ws at hD1 hall2 hlen2
  refine ⟨s, h31, tk30, D31, ws, g1, g1, m, _, fun i g m os => g = g1 ∧ m "names" = some (.ref NL) ∧ m "seeds" = some (.ref SL) ∧ ∃ ys ss y t c, os = [(SL, listOf (ys ++ [Value.str y t]).toArray c)] ∧ StrsAre ys ss ∧ SeedsOk (ss ++ [y]) i,
    rfl, rfl, PySem.IsL.isList hD1, Keeps.refl _, F1, N1, ⟨rfl, hm2, hm3, [], [], Str.empty, t₀, c, rfl, .nil, ⟨by simp, by simp, ?_⟩⟩, ?_, ?_⟩
  · intro x hx
    cases List.mem_singleton.mp hx
    decide +kernel
  · rintro i v it oi g h tk m os hv ⟨rfl, m2, m3, ys, ss, y, t, c, rfl, hys, hS⟩ _ F N hd _
    obtain ⟨a, ta, rfl⟩ := hall2 v (List.mem_of_getElem? hv)
    have hi := (List.getElem?_eq_some_iff.mp hv).1
    have hne : it ≠ SL := Ne.symm (hd _ (.head _))
    have hl1 := hS.len
    have hl2 := hys.length
    have hSy := hS.each y (by simp)
    rw [List.length_append, List.length_singleton] at hl1
    refine wpAny_assign_Name (stF (s := s) (h := h) F N fun h1 tk1 F1 N1 => ?_)
    refine wpAny_execs_cons (wpAny_If (wpAny_isTrue_Compare1 (wpAny_BinOp (ldF F1 (by walk_at "lk") (intR fun t2 tk2 => modR (by decide) fun t3 tk3 => intR fun t4 tk4 => eq_int (wpAny_truthy_bool ?_))))))
    by_cases hz : a.fmod 19 = 0
    · rw [show (a.fmod 19 == 0) = true by simpa using hz]
      simp only [if_true]
      refine wpAny_execs_cons (wpAny_Expr (appendC F1 (by walk_at "lk") (N1 _ (.tail _ (.head _))).1 (strR fun t5 tk5 => appendF F1 N1 (.tail hne (.head fun _ h => nomatch h)) (by simp [sizeLine]; omega) fun h6 F6 N6 => ?_)))
      refine wpAny_execs_nil (wpAny_execs_nil ⟨_, h6, tk5, _, _, rfl, ⟨rfl, by walk_at "lk", by walk_at "lk", ys ++ [Value.str y t], ss ++ [y], Str.empty, t5, _, rfl, StrsAre.app hys (.cons _ _ .nil), ?_⟩, Keeps.refl _, F6, N6, fun p hp => by cases List.mem_singleton.mp hp; exact Ne.symm hne⟩)
      refine ⟨by simp, by have := hS.len; simp only [List.length_append, List.length_singleton] at this ⊢; omega, fun x hx => ?_⟩
      rcases List.mem_append.mp hx with hx | hx
      · have := hS.each x hx; exact ⟨by omega, this.2⟩
      · cases List.mem_singleton.mp hx; exact ⟨Nat.zero_le _, by decide +kernel⟩
    · rw [show (a.fmod 19 == 0) = false by simpa using hz]
      simp only [Bool.false_eq_true, if_false]
      have hr := fmod_range a 19 (by decide)
      refine wpAny_execs_cons (wpAny_Expr (appendC F1 (by walk_at "lk") (N1 _ (.tail _ (.head _))).1 (wpAny_BinOp (popC F1 (by walk_at "lk") (N1 _ (.tail _ (.head _))).1 (popF F1 N1 (.tail hne (.head fun _ h => nomatch h)) (by simp only [sizeLine]; omega) fun h6 F6 N6 =>
        Subscript_ (strR fun t5 tk5 => wpAny_BinOp (wpAny_BinOp (ldF F6 (by walk_at "lk") (intR fun t7 tk7 => modR (by decide) fun t8 tk8 => intR fun t9 tk9 => subR fun t10 tk10 => ?_)))))))))
      refine itemS (by omega) (by show a.fmod 19 - 1 < 18; omega) (by decide) fun t11 tk11 h1l => PyProof.Rows.add_str (fun t12 tk12 => ?_) (by rw [h1l]; simp only [sizeLine]; omega)
      refine appendF F6 N6 (.tail hne (.head fun _ h => nomatch h)) (by simp only [sizeLine]; omega) fun h13 F13 N13 => ?_
      refine wpAny_execs_nil (wpAny_execs_nil ⟨_, h13, tk12, _, _, rfl, ⟨rfl, by walk_at "lk", by walk_at "lk", ys, ss, _, t12, _, rfl, hys, ?_⟩, Keeps.refl _, F13, N13, fun p hp => by cases List.mem_singleton.mp hp; exact Ne.symm hne⟩)
      refine ⟨by simp, by simp only [List.length_append, List.length_singleton]; omega, fun x hx => ?_⟩
      rcases List.mem_append.mp hx with hx | hx
      · have := hS.each x (List.mem_append.mpr (.inl hx)); exact ⟨by omega, this.2⟩
      · cases List.mem_singleton.mp hx
        refine ⟨?_, strOk_append hSy.2 (sign_ok _ (by omega) (by omega))⟩
        rw [Str.length_append]
        have := hSy.1
        have e : (Txt.item signs (a.fmod 19 - 1)).length = 1 := h1l
        show y.length + (Txt.item signs (a.fmod 19 - 1)).length ≤ i + 1
        omega
  · rintro g h tk m os ⟨rfl, m2, m3, ys, ss, y, t, c, rfl, hys, hS⟩ kg2 F N
    refine wpAny_execs_cons (wpAny_Return_some (tuple2 (ldF F (by walk_at "lk") (ldF F (by walk_at "lk") (newTupleF F N (by simp [sizeLine]) fun T h2 F2 N2 _ _ k2 => ?_)))))
    refine k h2 tk T NL SL nms (ss ++ [y]) (fun b o e => F2.keep _ _ (kg _ _ e)) ⟨_, (N2 _ (.head _)).1, rfl, _, rfl⟩ (hNames.keeps fun b o e => F2.keep _ _ (kg _ _ e)) ⟨_, PySem.IsL.isList (N2 _ (.tail _ (.head _))).1, StrsAre.app hys (.cons _ _ .nil)⟩ hNok ⟨hS.ne, ?_, fun x hx => ?_⟩
    · have := hS.len; omega
    · have := hS.each x hx; exact ⟨by omega, this.2⟩

set_option maxHeartbeats 2000000 in
theorem drawn_ {mg mb : Str → Option Value} {h₀ h : Heap} {tk : Nat} (hh : A.handled = none) (hroom : A.depth < recursionLimit) (B : Base mg mb h₀) (K : Keeps h₀ h) {f : Addr} {o : Obj} {pm cd doc : Value} (hf : Fn h 12 f o pm cd doc)
    {l : Addr} {vs : List Value} {ns : List Int} (hl : h.IsList l vs.toArray) (hI : IntsAre vs ns) (hn : ns.length ≤ 63)
    (k : ∀ h' tk' T NL SL nms seeds, Keeps h h' → IsTup h' T #[.ref NL, .ref SL] → NamesAt h' NL nms → SeedsAt h' SL seeds → NmsOk nms → SeedsOk seeds 7 → R (.ok (.ret (.ref T))) (Sx s h' tk')) :
    codeAny (model prog w) A (.call (.ref f) ⟨[.ref l], []⟩) R (Sx s h tk) := by
  refine enter [("script", .ref l)] hroom (B.keeps K).lim hf rfl rfl rfl rfl rfl (by decide +kernel) fun h₁ tk₁ hns hk => ?_
  have F : Fm h h.objs.size h₁ _ := ⟨hns, hk, by
    cases e : h.get? h.objs.size with
    | none => rfl
    | some o => exact absurd (Heap.lt_size e) (Nat.lt_irrefl _)⟩
  generalize h.objs.size = L at F
  have hA3 : (A.deeper (envOf (nameAt 12) (scopeAt 12) L f cd)).handled = none := hh
  generalize A.deeper (envOf (nameAt 12) (scopeAt 12) L f cd) = A' at hA3 ⊢
  have N : News h L h₁ [] := News.nil
  have hvl : vs.length ≤ 63 := by rw [hI.length]; exact hn
  have hl1 : h₁.IsList l vs.toArray := let ⟨o, ho, r⟩ := hl; ⟨o, hk _ _ ho, r⟩
  have Bh : Base mg mb h := B.keeps K
  refine wpAny_execs_cons (asg (sliceF (ldF F (by walk_at "lk") (partN (partS (intR fun t1 tk1 => ⟨s, h₁, tk1, l, vs, none, some 9, rfl, rfl, hl1, by simp only [sizeLine]; omega, .none, .int 9 t1, fun D1 h2 k2 n2 hD1 => ?_⟩))))))
  rw [show slicePick vs.toArray none (some 9) none = (vs.take 9).toArray from slicePick_upto' vs.toArray 9] at hD1
  obtain ⟨F2, N2, _⟩ := newsNew F N k2 n2 hD1
  refine ⟨s, h2, tk1, _, _, _, rfl, F2, N2, fun h3 tk3 F3 N3 => ?_⟩
  have hlt : (vs.take 9).length ≤ 9 := by rw [List.length_take]; omega
  have hallT : ∀ v ∈ vs.take 9, ∃ n t, v = Value.int n t := fun v hv => hI.all v (List.mem_of_mem_take hv)
  generalize vs.take 9 = ws at N3 hlt hallT
  refine wpAny_execs_cons (asg (wpAny_BinOp (ldF F3 (by walk_at "lk") (sliceF (list3 (intR fun t4 tk4 => intR fun t5 tk5 => intR fun t6 tk6 => newListF F3 N3 (by simp [sizeLine]) fun l7 h7 F7 N7 d7 _ k7 => ?_))))))
  refine partS (callB1 (blF (Bh.keeps F7.keep).g Bh.len.1 (Bh.keeps F7.keep).b Bh.len.2 ⟨rfl, ldF F7 (by walk_at "lk") (lenR (N7 _ (.tail _ (.head _))).1 (by omega) fun t8 tk8 => partN ?_)⟩))
  refine ⟨s, h7, tk8, l7, _, some (ws.length : Int), none, rfl, rfl, PySem.IsL.isList (N7 _ (.head _)).1, by simp [sizeLine], .int _ t8, .none, fun D9 h9 k9 n9 hD9 => ?_⟩
  rw [slicePick_from'] at hD9
  refine addListR (k9 _ _ (N7 _ (.tail _ (.head _))).1) hD9 (by simp [sizeLine]; omega) fun D10 h10 k10 n10 hD10 => ?_
  obtain ⟨F10, N10, _⟩ := newsNew (F7.kept k9) (newsKept N7 k9) k10 n10 hD10
  refine ⟨s, h10, tk8, _, _, [(D10, _)], rfl, F10, newsSub N10 (fun p hp => by cases List.mem_singleton.mp hp; exact .head _), fun h11 tk11 F11 N11 => ?_⟩
  have hrow : ∀ v ∈ ws ++ List.drop ws.length [Value.int 51 t4, .int 8 t5, .int 22 t6], ∃ n t, v = Value.int n t := fun v hv => by
    rcases List.mem_append.mp hv with hv | hv
    · exact hallT v hv
    · have := List.mem_of_mem_drop hv
      simp only [List.mem_cons, List.not_mem_nil, or_false] at this
      rcases this with rfl | rfl | rfl <;> exact ⟨_, _, rfl⟩
  have hlen3 : 3 ≤ (ws ++ List.drop ws.length [Value.int 51 t4, .int 8 t5, .int 22 t6]).length ∧ (ws ++ List.drop ws.length [Value.int 51 t4, .int 8 t5, .int 22 t6]).length ≤ 9 := by
    rw [List.length_append, List.length_drop]
    simp only [List.length_cons, List.length_nil]
    omega
  generalize ws ++ List.drop ws.length [Value.int 51 t4, .int 8 t5, .int 22 t6] = row at N11 hrow hlen3
  obtain ⟨v0, r0, rfl⟩ : ∃ v r, row = v :: r := by cases row with | nil => simp at hlen3 | cons a b => exact ⟨_, _, rfl⟩
  obtain ⟨v1, r1, rfl⟩ : ∃ v r, r0 = v :: r := by cases r0 with | nil => simp at hlen3 | cons a b => exact ⟨_, _, rfl⟩
  obtain ⟨a0, ta0, rfl⟩ := hrow v0 (.head _)
  obtain ⟨a1, ta1, rfl⟩ := hrow v1 (.tail _ (.head _))
  have m3 : ∀ a : Int, 1 + a.fmod 3 = 1 ∨ 1 + a.fmod 3 = 2 ∨ 1 + a.fmod 3 = 3 := fun a => by have := fmod_range a 3 (by decide); omega
  have z11 := (N11 _ (.head _)).1
  refine wpAny_execs_cons (asg (list2 (tuple2 (wpAny_BinOp (strR fun t12 tk12 => wpAny_BinOp (intR fun t13 tk13 => wpAny_BinOp (Subscript_ (ldF F11 (by walk_at "lk") (intR fun t14 tk14 =>
    itemF z11 (by decide) (by decide) (v := .int a0 ta0) rfl (intR fun t15 tk15 => modR (by decide) fun t16 tk16 => addR fun t17 tk17 => mulS rfl (m3 a0) fun t18 tk18 => ?_))))))))))
  refine wpAny_BinOp (wpAny_BinOp (Subscript_ (ldF F11 (by walk_at "lk") (intR fun t14 tk14 => itemF z11 (by decide) (by decide) (v := .int a0 ta0) rfl (intR fun t15 tk15 => fdivR (by decide) (by decide) fun t16 tk16 =>
    intR fun t17 tk17 => modR (by decide) fun t19 tk19 => newTupleF F11 N11 (by simp [sizeLine]) fun T1 h20 F20 N20 d20 _ k20 => ?_)))))
  have z20 := k20 _ _ z11
  refine (tuple2 (wpAny_BinOp (strR fun t12 tk12 => wpAny_BinOp (intR fun t13 tk13 => wpAny_BinOp (Subscript_ (ldF F20 (by walk_at "lk") (intR fun t14 tk14 =>
    itemF z20 (by decide) (by decide) (v := .int a1 ta1) rfl (intR fun t15 tk15 => modR (by decide) fun t16 tk16 => addR fun t17 tk17 => mulS rfl (m3 a1) fun t21 tk21 => ?_))))))))
  refine wpAny_BinOp (wpAny_BinOp (Subscript_ (ldF F20 (by walk_at "lk") (intR fun t14 tk14 => itemF z20 (by decide) (by decide) (v := .int a1 ta1) rfl (intR fun t15 tk15 => fdivR (by decide) (by decide) fun t16 tk16 =>
    intR fun t17 tk17 => modR (by decide) fun t22 tk22 => newTupleF F20 N20 (by simp [sizeLine]) fun T2 h23 F23 N23 d23 _ k23 => ?_)))))
  refine newListF F23 N23 (by simp [sizeLine]) fun NL h24 F24 N24 d24 _ k24 => ?_
  refine ⟨s, h24, tk22, _, _, _, rfl, F24, N24, fun h25 tk25 F25 N25 => ?_⟩
  refine wpAny_execs_cons (asg (list1 (strR fun t26 tk26 => newListF F25 N25 (by simp [sizeLine]) fun SL h27 F27 N27 d27 _ k27 => ⟨s, h27, tk26, _, _, _, rfl, F27, N27, fun h28 tk28 F28 N28 => ?_⟩)))
  obtain ⟨g, F29, N29, kg, hg⟩ := rebase F28 (newsSub N28 (os' := [(SL, _)]) (fun p hp => by cases List.mem_singleton.mp hp; exact .head _))
  have inG : ∀ p ∈ (NL, listOf [Value.ref T1, Value.ref T2].toArray 0) :: (T2, tupOf [Value.str (Txt.mul (Str.ofString "q") (1 + a1.fmod 3)) t21, Value.int ((a1.fdiv 3).fmod 2) t22]) :: (T1, tupOf [Value.str (Txt.mul (Str.ofString "p") (1 + a0.fmod 3)) t18, Value.int ((a0.fdiv 3).fmod 2) t19]) :: [(D10, listOf (Value.int a0 ta0 :: Value.int a1 ta1 :: r1).toArray 0)], g.get? p.1 = some p.2 := fun p hp => by
    have z := N28 p (.tail _ hp)
    exact hg _ _ z.1 z.2.1 fun q hq => by cases List.mem_singleton.mp hq; exact Ne.symm (d27 p hp)
  have hNames : NamesAt g NL [(Txt.mul (Str.ofString "p") (1 + a0.fmod 3), (a0.fdiv 3).fmod 2), (Txt.mul (Str.ofString "q") (1 + a1.fmod 3), (a1.fdiv 3).fmod 2)] := by
    refine ⟨_, PySem.IsL.isList (inG _ (.head _)), rfl, fun i v hv => ?_⟩
    match i, hv with
    | 0, hv => cases hv; exact ⟨_, T1, t18, t19, rfl, rfl, _, inG _ (.tail _ (.tail _ (.head _))), rfl, _, rfl⟩
    | 1, hv => cases hv; exact ⟨_, T2, t21, t22, rfl, rfl, _, inG _ (.tail _ (.head _)), rfl, _, rfl⟩
    | i + 2, hv => cases hv
  have hNok : NmsOk [(Txt.mul (Str.ofString "p") (1 + a0.fmod 3), (a0.fdiv 3).fmod 2), (Txt.mul (Str.ofString "q") (1 + a1.fmod 3), (a1.fdiv 3).fmod 2)] := by
    refine ⟨rfl, fun n hn => ?_⟩
    simp only [List.mem_cons, List.not_mem_nil, or_false] at hn
    rcases hn with rfl | rfl
    · rcases m3 a0 with e | e | e <;> (simp only [e]; decide +kernel)
    · rcases m3 a1 with e | e | e <;> (simp only [e]; decide +kernel)
  generalize [(Txt.mul (Str.ofString "p") (1 + a0.fmod 3), (a0.fdiv 3).fmod 2), (Txt.mul (Str.ofString "q") (1 + a1.fmod 3), (a1.fdiv 3).fmod 2)] = nms at hNames hNok
  have hrowG : g.get? D10 = some (listOf (Value.int a0 ta0 :: Value.int a1 ta1 :: r1).toArray 0) := inG _ (.tail _ (.tail _ (.tail _ (.head _))))
  exact drawn_loop hA3 F29 N29 (by walk_at "lk") (by walk_at "lk") (by walk_at "lk") hrowG hrow hlen3.2 hNames hNok fun h' tk' T NL SL nms seeds k' => k h' tk' T NL SL nms seeds (kg.trans k')
end
end Mine

/-! part P2 -/
namespace Mine

def key (x : Str) : Key := ((x.length : Int), x)
def kid (nm : Str × Int) (x : Str) : Str := fmt nm.1 (nm.2 != 0) x
def kids (nms : List (Str × Int)) (x : Str) : List Str := nms.map fun nm => kid nm x

theorem esc_ge (x : Str) : x.length ≤ (escS x).length := by
  show x.cps.size ≤ (x.cps.toList.flatMap esc1).toArray.size
  have e : (x.cps.toList.flatMap esc1).toArray.size = (x.cps.toList.flatMap esc1).length := by simp
  rw [e, show x.cps.size = x.cps.toList.length from rfl]
  clear e
  induction x.cps.toList with
  | nil => simp
  | cons a r ih =>
    rw [List.flatMap_cons, List.length_append, List.length_cons]
    have : 1 ≤ (esc1 a).length := by unfold esc1; split <;> (try split) <;> simp
    omega
theorem esc_strOk {x : Str} (h : PyData.strOk x = true) : PyData.strOk (escS x) = true := by
  unfold PyData.strOk at *
  rw [← Array.all_toList, List.all_eq_true] at *
  intro c hc
  simp only [escS, List.mem_flatMap] at hc
  obtain ⟨a, ha, hc⟩ := hc
  have := h a ha
  unfold esc1 at hc
  split at hc
  · simp only [List.mem_cons, List.not_mem_nil, or_false, or_self] at hc; subst hc; decide
  · split at hc
    · simp only [List.mem_cons, List.not_mem_nil, or_false] at hc; rcases hc with rfl | rfl <;> decide
    · simp only [List.mem_cons, List.not_mem_nil, or_false] at hc; subst hc; exact this

theorem fmt_len {p : Str} {b : Bool} {v : Str} (hp : 1 ≤ p.length) (hp3 : p.length ≤ 3) : v.length < (fmt p b v).length ∧ (fmt p b v).length ≤ 2 * v.length + 6 := by
  have l1 := esc_ge v
  have l2 := len_esc v
  have a1 : (Str.ofString "=\"").length = 2 := rfl
  have a2 : (Str.ofString "\"").length = 1 := rfl
  have a3 : (Str.ofString "=").length = 1 := rfl
  unfold fmt
  split
  · rename_i h
    have : v.length = 0 := by rw [h]; rfl
    omega
  · split <;> simp only [Str.length_append, a1, a2, a3] <;> omega
theorem fmt_strOk {p : Str} {b : Bool} {v : Str} (hp : PyData.strOk p = true) (hv : PyData.strOk v = true) : PyData.strOk (fmt p b v) = true := by
  unfold fmt
  split
  · exact hp
  · split
    · exact strOk_append (strOk_append (strOk_append hp (by decide +kernel)) (esc_strOk hv)) (by decide +kernel)
    · exact strOk_append (strOk_append hp (by decide +kernel)) hv

theorem key_lt_of_len {x y : Str} (h : x.length < y.length) : ltK (key x) (key y) = true := by
  unfold ltK key
  rw [if_neg (by simp only; omega)]
  exact decide_eq_true (by simp only; omega)
theorem len_of_le {x y : Str} (h : leK (key x) (key y)) : x.length ≤ y.length := by
  refine Nat.le_of_not_lt fun e => ?_
  rw [leK, key_lt_of_len e] at h
  cases h
theorem key_inj {x y : Str} (h : key x = key y) : x = y := congrArg (·.2) h

inductive Reach (nms : List (Str × Int)) (seeds : List Str) : Str → Prop
  | seed {x} : x ∈ seeds → Reach nms seeds x
  | kid {x nm} : Reach nms seeds x → nm ∈ nms → Reach nms seeds (kid nm x)

structure TInv (nms : List (Str × Int)) (seeds T H : List Str) : Prop where
  sorted : T.Pairwise fun a b => ltK (key a) (key b) = true
  below : ∀ t ∈ T, ∀ x ∈ H, leK (key t) (key x)
  inSeeds : ∀ x ∈ seeds, x ∈ T ∨ x ∈ H
  inKids : ∀ t ∈ T, ∀ nm ∈ nms, kid nm t ∈ T ∨ kid nm t ∈ H
  reachT : ∀ x ∈ T, Reach nms seeds x
  reachH : ∀ x ∈ H, Reach nms seeds x
  okT : ∀ x ∈ T, x.length + 6 ≤ 13 * 2 ^ T.length ∧ PyData.strOk x = true
  okH : ∀ x ∈ H, x.length + 6 ≤ 13 * 2 ^ T.length ∧ PyData.strOk x = true
  size : H.length ≤ 8 + T.length

theorem TInv.start {nms : List (Str × Int)} {seeds H : List Str} (hS : SeedsOk seeds 7) (hp : H.Perm seeds) : TInv nms seeds [] H where
  sorted := .nil
  below := fun _ h => nomatch h
  inSeeds := fun x hx => .inr (hp.mem_iff.mpr hx)
  inKids := fun _ h => nomatch h
  reachT := fun _ h => nomatch h
  reachH := fun x hx => .seed (hp.mem_iff.mp hx)
  okT := fun _ h => nomatch h
  okH := fun x hx => by
    have := hS.each x (hp.mem_iff.mp hx)
    exact ⟨by simp; omega, this.2⟩
  size := by have := hS.len; have := hp.length_eq; simp; omega

theorem TInv.dup {nms : List (Str × Int)} {seeds T H H' : List Str} {r : Str} (V : TInv nms seeds T H) (hr : r ∈ T) (hp : (r :: H').Perm H) : TInv nms seeds T H' where
  sorted := V.sorted
  below := fun t ht x hx => V.below t ht x (hp.mem_iff.mp (.tail _ hx))
  inSeeds := fun x hx => by
    rcases V.inSeeds x hx with h | h
    · exact .inl h
    · rcases List.mem_cons.mp (hp.mem_iff.mpr h) with rfl | h
      · exact .inl hr
      · exact .inr h
  inKids := fun t ht nm hn => by
    rcases V.inKids t ht nm hn with h | h
    · exact .inl h
    · rcases List.mem_cons.mp (hp.mem_iff.mpr h) with h | h
      · exact .inl (h ▸ hr)
      · exact .inr h
  reachT := V.reachT
  reachH := fun x hx => V.reachH x (hp.mem_iff.mp (.tail _ hx))
  okT := V.okT
  okH := fun x hx => V.okH x (hp.mem_iff.mp (.tail _ hx))
  size := by have := V.size; have := hp.length_eq; simp only [List.length_cons] at this; omega

theorem kid_len {nms : List (Str × Int)} (hN : NmsOk nms) {nm : Str × Int} (h : nm ∈ nms) (x : Str) : x.length < (kid nm x).length ∧ (kid nm x).length ≤ 2 * x.length + 6 :=
  have := hN.each nm h
  fmt_len this.1 this.2.1
theorem kid_lt {nms : List (Str × Int)} (hN : NmsOk nms) {nm : Str × Int} (h : nm ∈ nms) (x : Str) : ltK (key x) (key (kid nm x)) = true := key_lt_of_len (kid_len hN h x).1

theorem TInv.new {nms : List (Str × Int)} {seeds T H H' : List Str} {r : Str} (hN : NmsOk nms) (V : TInv nms seeds T H) (hr : r ∉ T) (hmin : ∀ x ∈ H, leK (key r) (key x)) (hrH : r ∈ H) (hp : (r :: H').Perm (kids nms r ++ H)) : TInv nms seeds (T ++ [r]) H' := by
  have hlt : ∀ t ∈ T, ltK (key t) (key r) = true := fun t ht => by
    rcases leK_cases (V.below t ht r hrH) with h | h
    · exact h
    · exact absurd (key_inj h ▸ ht) hr
  have hp2 : ∀ x ∈ H', (∃ nm ∈ nms, x = kid nm r) ∨ x ∈ H := fun x hx => by
    rcases List.mem_append.mp (hp.mem_iff.mp (.tail _ hx)) with h | h
    · obtain ⟨nm, h1, h2⟩ := List.mem_map.mp h; exact .inl ⟨nm, h1, h2.symm⟩
    · exact .inr h
  have hrl := V.okH r hrH
  have pw : (2 : Nat) ^ (T ++ [r]).length = 2 * 2 ^ T.length := by rw [List.length_append, List.length_singleton, Nat.pow_succ, Nat.mul_comm]
  have inn : ∀ x, x ∈ H → x ∈ T ++ [r] ∨ x ∈ H' := fun x hx => by
    rcases List.mem_cons.mp (hp.mem_iff.mpr (List.mem_append.mpr (.inr hx))) with h | h
    · exact .inl (by simp [h])
    · exact .inr h
  constructor
  · exact List.pairwise_append.mpr ⟨V.sorted, List.pairwise_singleton _ _, fun a ha b hb => by cases List.mem_singleton.mp hb; exact hlt a ha⟩
  · intro t ht x hx
    have hrx : leK (key r) (key x) := by
      rcases hp2 x hx with ⟨nm, h1, rfl⟩ | h
      · exact leK_of_lt (kid_lt hN h1 r)
      · exact hmin x h
    rcases List.mem_append.mp ht with ht | ht
    · exact leK_trans (leK_of_lt (hlt t ht)) hrx
    · cases List.mem_singleton.mp ht; exact hrx
  · intro x hx
    rcases V.inSeeds x hx with h | h
    · exact .inl (List.mem_append.mpr (.inl h))
    · exact inn x h
  · intro t ht nm hn
    rcases List.mem_append.mp ht with ht | ht
    · rcases V.inKids t ht nm hn with h | h
      · exact .inl (List.mem_append.mpr (.inl h))
      · exact inn _ h
    · cases List.mem_singleton.mp ht
      rcases List.mem_cons.mp (hp.mem_iff.mpr (List.mem_append.mpr (.inl (List.mem_map_of_mem hn)))) with h | h
      · exact .inl (by simp [h])
      · exact .inr h
  · intro x hx
    rcases List.mem_append.mp hx with h | h
    · exact V.reachT x h
    · cases List.mem_singleton.mp h; exact V.reachH _ hrH
  · intro x hx
    rcases hp2 x hx with ⟨nm, h1, rfl⟩ | h
    · exact .kid (V.reachH r hrH) h1
    · exact V.reachH x h
  · intro x hx
    rw [pw]
    rcases List.mem_append.mp hx with h | h
    · have := V.okT x h; exact ⟨by omega, this.2⟩
    · cases List.mem_singleton.mp h; exact ⟨by omega, hrl.2⟩
  · intro x hx
    rw [pw]
    rcases hp2 x hx with ⟨nm, h1, rfl⟩ | h
    · have := (kid_len hN h1 r).2
      exact ⟨by omega, fmt_strOk (hN.each nm h1).2.2 hrl.2⟩
    · have := V.okH x h; exact ⟨by omega, this.2⟩
  · have h1 := hp.length_eq
    have h2 := V.size
    have h3 := hN.two
    simp only [List.length_cons, List.length_append, kids, List.length_map, List.length_nil] at h1 ⊢
    omega

/-- the heap is never empty -/
theorem TInv.ne {nms : List (Str × Int)} {seeds T H : List Str} (hN : NmsOk nms) (hS : seeds ≠ []) (V : TInv nms seeds T H) : H ≠ [] := by
  rintro rfl
  cases hT : T.getLast? with
  | none =>
    have e : T = [] := by simpa using hT
    cases hs : seeds with
    | nil => exact hS hs
    | cons x r =>
      rcases V.inSeeds x (by rw [hs]; exact .head _) with h | h
      · rw [e] at h; cases h
      · cases h
  | some t =>
    obtain ⟨T', rfl⟩ : ∃ T', T = T' ++ [t] := by
      have hne : T ≠ [] := by rintro rfl; cases hT
      refine ⟨T.dropLast, ?_⟩
      rw [List.getLast?_eq_some_getLast hne] at hT
      cases hT
      exact (List.dropLast_concat_getLast hne).symm
    cases hn : nms with
    | nil => have := hN.two; rw [hn] at this; cases this
    | cons nm r =>
      have hm : nm ∈ nms := by rw [hn]; exact .head _
      rcases V.inKids t (by simp) nm hm with h | h
      · have hlt := kid_lt hN hm t
        have hpw := List.pairwise_append.mp V.sorted
        rcases List.mem_append.mp h with h | h
        · have := hpw.2.2 _ h t (by simp)
          have := ltK_trans hlt this
          rw [ltK_irrefl] at this; cases this
        · have e := List.mem_singleton.mp h
          rw [e, ltK_irrefl] at hlt; cases hlt
      · cases h

/-- what is reached and not told lies above all that is told -/
theorem TInv.above {nms : List (Str × Int)} {seeds T H : List Str} (hN : NmsOk nms) (V : TInv nms seeds T H) {x : Str} (hx : Reach nms seeds x) : x ∈ T ∨ ∀ t ∈ T, leK (key t) (key x) := by
  have key : x ∈ T ∨ ∃ z ∈ H, leK (key z) (key x) := by
    induction hx with
    | seed h =>
      rcases V.inSeeds _ h with h | h
      · exact .inl h
      · exact .inr ⟨_, h, leK_refl _⟩
    | kid _ hn ih =>
      rcases ih with h | ⟨z, hz, hle⟩
      · rcases V.inKids _ h _ hn with h | h
        · exact .inl h
        · exact .inr ⟨_, h, leK_refl _⟩
      · exact .inr ⟨z, hz, leK_trans hle (leK_of_lt (kid_lt hN hn _))⟩
  rcases key with h | ⟨z, hz, hle⟩
  · exact .inl h
  · exact .inr fun t ht => leK_trans (V.below t ht z hz) hle
end Mine

/-! part G3 -/
namespace Mine
local macro_rules | `(tactic| walk_at "lk") => `(tactic| first | exact up_same | assumption | (refine up_ne (by decide) ?_; walk_at "lk") | rfl)

section
variable {prog : Program} {w : World} {A : Around} {E : Value → Shared → Prop} {s : Shared} {R : Result → Shared → Prop}

theorem rest_ind {h₀ : Heap} {L : Addr} {m : Str → Option Value} {env : Env} {elt : Expr} {x : Str} {scope : Scope} {cl : List (Str × Addr)} {S : List (Addr × Obj) → Prop} {P : Nat → Value → Prop} {Fin : List Value → List (Addr × Obj) → Prop}
    (n : Nat) (Inv : Nat → List Value → List (Addr × Obj) → Prop)
    (step : ∀ i ys news, i < n → Inv i ys news → ∀ v I oI C oC D m₂ h tk (E' : Value → Shared → Prop), P i v → LCg.NsObj oC m₂ → m₂ x = some v → Fr h₀ L h m → News h₀ L h ((I, oI) :: (C, oC) :: (D, LCg.lst ys) :: news) → LCg.Off3 I C D news → ((@Ne Nat I C) ∧ (@Ne Nat I D) ∧ (@Ne Nat C D)) →
      wpAny (model prog w) A (eval elt (compEnvC scope cl C env)) (LCg.CompEnd h₀ L m { s with heap := h, toks := tk } I oI C oC D (LCg.lst ys) S (fun y news' => Inv (i + 1) (ys ++ [y]) news')) E' { s with heap := h, toks := tk })
    (fin : ∀ ys news, Inv n ys news → Fin ys news) : ∀ k i ys news, i + k = n → Inv i ys news → LCg.CompRest prog w A h₀ L m env elt x scope cl s S P Fin k i ys news
  | 0, i, ys, news, e, hI => by cases e; exact fin ys news hI
  | k + 1, i, ys, news, e, hI => fun v I oI C oC D m₂ h tk E' hP hC hm F N off hne =>
    wpAny_mono (step i ys news (by omega) hI v I oI C oC D m₂ h tk E' hP hC hm F N off hne) (fun y s₂ hy => by
      obtain ⟨h', tk', news', e1, F', N', off', hS, hr⟩ := hy
      exact ⟨h', tk', news', e1, F', N', off', hS, rest_ind n Inv step fin k (i + 1) _ _ (by omega) hr⟩) fun _ _ e => e

theorem StrsAre.nth : ∀ {vs : List Value} {ns : List Str}, StrsAre vs ns → ∀ (i : Nat) (v : Value), vs[i]? = some v → ∃ x t, v = .str x t ∧ ns[i]? = some x
  | _, _, .nil, i, v, h => by simp at h
  | _, _, .cons y t r, 0, v, h => by simp at h; subst h; exact ⟨y, t, rfl, rfl⟩
  | _, _, .cons y t r, i + 1, v, h => by simpa using StrsAre.nth r i v (by simpa using h)

/-- each element's tuple is one of the new objects -/
def Held (es : List El) (news : List (Addr × Obj)) : Prop := ∀ e ∈ es, ∃ a t u, e.1 = .ref a ∧ (a, tupOf [.int e.2.1 t, .str e.2.2 u]) ∈ news

theorem told_comp {mg mb : Str → Option Value} {h h₁ : Heap} {tk : Nat} {L f : Addr} {cd : Value} (hh : A.handled = none) (B : Base mg mb h) {m : Str → Option Value} (F : Fr h L h₁ m) {SL : Addr} {seeds : List Str} (hm : m "seeds" = some (.ref SL)) (hS : SeedsAt h SL seeds) (hlen : seeds.length ≤ 1000) (hxl : ∀ x ∈ seeds, x.length ≤ 1000)
    {Q : Flow → Shared → Prop}
    (k : ∀ D h' tk' es c, Fm h L h' (up m "heap" (.ref D)) → h.get? D = none → D ≠ L → h'.get? D = some (listOf (vals es).toArray c) → (∀ e ∈ es, TupIs h' e.1 e.2) → es.map (·.2) = seeds.map key → Q .next (Sx s h' tk')) :
    wpAny (model prog w) A (exec ((bodyAt 13).getD 0 default) (envOf (nameAt 13) (scopeAt 13) L f cd)) Q NoE (Sx s h₁ tk) := by
  obtain ⟨ys, hl, hys⟩ := hS
  have F₀ : Fm h L h₁ m := ⟨F.ns, F.keep, by
    cases e : h.get? L with
    | none => rfl
    | some o => exact absurd (Heap.lt_size e) (Nat.not_lt.mpr F.above)⟩
  refine LCg.Assign_ListComp_U (s := Sx s h₁ tk) F rfl rfl rfl (by decide +kernel) rfl (by decide +kernel) rfl rfl rfl (ldF F₀ hm (.inl ⟨SL, ys.toArray, [], rfl, hh, F, News.nil, .inl hl, ?_, ?_⟩))
  · rw [List.size_toArray, hys.length]; simp only [sizeLine]; omega
  rintro s₂ ⟨g, rfl⟩
  refine rest_ind ys.toArray.size (fun i vs news => ∃ es, vs = vals es ∧ es.map (·.2) = (seeds.take i).map key ∧ Held es news) ?_ ?_ _ 0 [] [] (Nat.zero_add _) ⟨[], rfl, rfl, fun _ h => nomatch h⟩
  · rintro i _ news hi ⟨es, rfl, hes, hH⟩ v I oI C oC D m₂ h2 tk2 E' hP hC hm2 F2 N2 off hne
    obtain ⟨x, tx, rfl, hx⟩ := StrsAre.nth hys i v (by simpa using hP)
    have hxm := hxl x (List.mem_of_getElem? hx)
    have hCn := hC.ns (N2 (C, oC) (.tail _ (.head _))).1
    have B2 := B.keeps F2.keep
    show wpAny _ _ _ _ _ (Sx s h2 tk2)
    refine tuple2 (callB1 (Calls.Name_function_global rfl rfl (Calls.loadGlobal_builtin (s := Sx s h2 tk2) B2.g B2.len.1 B2.b B2.len.2 ⟨rfl, wpAny_Name (wpAny_loadName_local rfl rfl hCn hm2 (lenS (by omega) fun t3 tk3 => ?_))⟩)))
    refine wpAny_Name (wpAny_loadName_local (s := Sx s h2 tk3) rfl rfl hCn hm2 (wpAny_newObj_type ?_ (by show 2 ≤ sizeLine; decide)))
    refine LCg.CompEnd.intro (F2.push _) (N2.push F2 _) ((h2.objs.size, tupOf [.int x.length t3, .str x tx]) :: news) ?_ ⟨⟨?_, ?_, ?_⟩, off⟩ (.inl hl) ⟨es ++ [(.ref h2.objs.size, key x)], (by rw [show vals (es ++ [(Value.ref h2.objs.size, key x)]) = vals es ++ [Value.ref h2.objs.size] by simp [vals]]; rfl), ?_, ?_⟩
    · intro p hp
      rcases List.mem_cons.mp hp with rfl | hp
      · exact .tail _ (.head _)
      rcases List.mem_cons.mp hp with rfl | hp
      · exact .tail _ (.tail _ (.head _))
      rcases List.mem_cons.mp hp with rfl | hp
      · exact .tail _ (.tail _ (.tail _ (.head _)))
      rcases List.mem_cons.mp hp with rfl | hp
      · exact .head _
      · exact .tail _ (.tail _ (.tail _ (.tail _ hp)))
    · exact Nat.ne_of_gt (Heap.lt_size (N2 _ (.head _)).1)
    · exact Nat.ne_of_gt (Heap.lt_size (N2 _ (.tail _ (.head _))).1)
    · exact Nat.ne_of_gt (Heap.lt_size (N2 _ (.tail _ (.tail _ (.head _)))).1)
    · rw [List.map_append, hes, List.take_add_one, hx, List.map_append]; rfl
    · intro e he
      rcases List.mem_append.mp he with he | he
      · obtain ⟨a, t, u, e1, e2⟩ := hH e he; exact ⟨a, t, u, e1, .tail _ e2⟩
      · cases List.mem_singleton.mp he; exact ⟨_, t3, tx, rfl, .head _⟩
  · rintro _ news ⟨es, rfl, hes, hH⟩ D h' tk' F' N' _
    rw [List.size_toArray, hys.length, List.take_length] at hes
    have z := N' _ (.head _)
    refine k D h' tk' es _ ⟨F'.ns, F'.keep, F₀.gL⟩ z.2.2 z.2.1 z.1 (fun e he => ?_) hes
    obtain ⟨a, t, u, e1, e2⟩ := hH e he
    exact ⟨a, t, u, e1, _, (N' _ (.tail _ e2)).1, rfl, _, rfl⟩
end
end Mine

/-! part G4 -/
namespace Mine
local macro_rules | `(tactic| walk_at "lk") => `(tactic| first | exact up_same | assumption | (refine up_ne (by decide) ?_; walk_at "lk") | rfl)

def dat (k : Key) : PyData := .tuple [.int k.1, .str k.2]
theorem eqv_dat (a b : Key) : PyData.eqv (dat a) (dat b) = decide (a = b) := by
  obtain ⟨a1, a2⟩ := a
  obtain ⟨b1, b2⟩ := b
  simp only [dat, PyData.eqv, PyData.eqvAll, Bool.and_true, Prod.mk.injEq, Bool.decide_and]
  congr 1
theorem eqvAll_dat : ∀ a b : List Key, PyData.eqvAll (a.map dat) (b.map dat) = decide (a = b)
  | [], [] => rfl
  | [], _ :: _ => rfl
  | _ :: _, [] => rfl
  | x :: a, y :: b => by
    rw [List.map_cons, List.map_cons, PyData.eqvAll, eqv_dat, eqvAll_dat a b]
    simp
theorem lay_dat {k : Key} (h : PyData.strOk k.2 = true) : (dat k).canLay0 = true := by
  simp [dat, PyData.canLay0, PyData.canLayAll0, h]
theorem lay_dats : ∀ {l : List Key}, (∀ k ∈ l, PyData.strOk k.2 = true) → PyData.canLayAll0 (l.map dat) = true
  | [], _ => rfl
  | k :: l, h => by
    rw [List.map_cons, PyData.canLayAll0, lay_dat (h k (.head _)), lay_dats fun a ha => h a (.tail _ ha)]; rfl
theorem depth_dat (k : Key) : (dat k).depth = 1 := by simp [dat, PyData.depth, PyData.depthAll]
theorem depth_dats : ∀ l : List Key, PyData.depthAll (l.map dat) ≤ 1
  | [] => by simp [PyData.depthAll]
  | k :: l => by
    have := depth_dats l
    rw [List.map_cons, PyData.depthAll, depth_dat]
    omega
theorem shaped_dat {k : Key} (h : PyData.strOk k.2 = true) : SeqAt.shaped (dat k) = true := by
  unfold SeqAt.shaped
  rw [lay_dat h, depth_dat]; rfl
theorem shaped_dats {l : List Key} (h : ∀ k ∈ l, PyData.strOk k.2 = true) : SeqAt.shaped (.list (l.map dat)) = true := by
  unfold SeqAt.shaped
  have := depth_dats l
  rw [PyData.canLay0, lay_dats h, PyData.depth, Bool.true_and]
  exact decide_eq_true (by omega)
theorem TupIs.reads {h : Heap} {v : Value} {k : Key} (x : TupIs h v k) : Reads h v (dat k) [] := by
  obtain ⟨a, t, u, rfl, o, ho, hc, n, hd⟩ := x
  exact .tuple ho hc hd (.cons (.int _ _) (.cons (.str _ _) .nil))
theorem reads_els {h : Heap} : ∀ {es : List El}, (∀ e ∈ es, TupIs h e.1 e.2) → ReadsAll h (vals es) ((es.map (·.2)).map dat) []
  | [], _ => .nil
  | e :: es, x => .cons (x e (.head _)).reads (reads_els fun a ha => x a (.tail _ ha))
theorem any_dat (l : List Key) (k : Key) : (l.map dat).any (fun y => PyData.eqv y (dat k)) = decide (k ∈ l) := by
  rw [List.any_map]
  induction l with
  | nil => rfl
  | cons a l ih =>
    rw [List.any_cons, ih]
    simp only [Function.comp, eqv_dat, List.mem_cons, Bool.decide_or]
    congr 1
    exact decide_eq_decide.mpr ⟨Eq.symm, Eq.symm⟩

/-- the elements stand for these texts -/
structure Els (g : Heap) (es : List El) (H : List Str) : Prop where
  tup : ∀ e ∈ es, TupIs g e.1 e.2
  keys : es.map (·.2) = H.map key
theorem Els.keeps {g g' : Heap} {es : List El} {H : List Str} (x : Els g es H) (k : Keeps g g') : Els g' es H := ⟨fun e he => (x.tup e he).keeps k, x.keys⟩
theorem Els.len {g : Heap} {es : List El} {H : List Str} (x : Els g es H) : es.length = H.length := by have := congrArg List.length x.keys; simpa using this
theorem Els.strOk {g : Heap} {es : List El} {H : List Str} (x : Els g es H) (h : ∀ a ∈ H, PyData.strOk a = true) : ∀ k ∈ es.map (·.2), PyData.strOk k.2 = true := by
  rw [x.keys]
  intro k hk
  obtain ⟨a, ha, rfl⟩ := List.mem_map.mp hk
  exact h a ha
theorem Els.mem {g : Heap} {es : List El} {H : List Str} (x : Els g es H) (a : Str) : key a ∈ es.map (·.2) ↔ a ∈ H := by
  rw [x.keys, List.mem_map]
  exact ⟨fun ⟨b, hb, e⟩ => key_inj e ▸ hb, fun h => ⟨a, h, rfl⟩⟩
theorem Els.nth {g : Heap} {es : List El} {H : List Str} (x : Els g es H) {i : Nat} {e : El} (he : es[i]? = some e) : ∃ a, H[i]? = some a ∧ e.2 = key a := by
  have : (es.map (·.2))[i]? = some e.2 := by rw [List.getElem?_map, he]; rfl
  rw [x.keys, List.getElem?_map] at this
  cases h : H[i]? with
  | none => rw [h] at this; cases this
  | some a => rw [h] at this; injection this with this; exact ⟨a, rfl, this.symm⟩

/-- a permutation of elements names a permutation of texts -/
theorem els_perm {es : List El} {H : List Str} (hk : es.map (·.2) = H.map key) {es' : List El} (hp : es'.Perm es) : ∃ H' : List Str, H'.Perm H ∧ es'.map (·.2) = H'.map key := by
  refine ⟨es'.map (·.2.2), ?_, ?_⟩
  · have h1 : (es'.map (·.2.2)).Perm (es.map (·.2.2)) := hp.map _
    have h2 : es.map (·.2.2) = H := by
      have : (es.map (·.2)).map (·.2) = (H.map key).map (·.2) := by rw [hk]
      rw [List.map_map, List.map_map] at this
      rw [show es.map (·.2.2) = es.map ((·.2) ∘ (·.2)) from rfl, this]
      exact List.map_id' _
    rw [h2] at h1
    exact h1
  · rw [List.map_map]
    refine List.map_congr_left fun e he => ?_
    have : e.2 ∈ es.map (·.2) := List.mem_map_of_mem (hp.mem_iff.mp he)
    rw [hk] at this
    obtain ⟨a, _, ha⟩ := List.mem_map.mp this
    show e.2 = key e.2.2
    rw [← ha]
    rfl

section
variable {prog : Program} {w : World} {A : Around} {E : Value → Shared → Prop} {s : Shared} {R : Result → Shared → Prop}

theorem for2_ {target : Expr} {it : Value} {body : List Stmt} {env : Env} {Q : Flow → Shared → Prop} (I : Nat → Shared → Prop)
    (turn : ∀ k s, I k s → wpAny (model prog w) A (pyNext it) (fun r s₁ => match r with
      | none => Q .next s₁
      | some v => wpAny (model prog w) A (letOwnedTupleGo target it v) (fun _ s₁' => wpAny (model prog w) A (assign target env v) (fun _ s₂ => wpAny (model prog w) A (execs body env) (fun f s₃ => match f with
          | .next | .cont => ∃ j, j < k ∧ I j s₃
          | .brk => Q .next s₃
          | .ret v => Q (.ret v) s₃) NoE s₂) NoE s₁') NoE s₁) NoE s)
    (k : Nat) (h : I k s) :
    codeAny (model prog w) A (.forLoop target it body [] env) (fun r s' => match r with | .ok f => Q f s' | .error e => cameBackBy (model prog w) A env NoE e s') s := by
  refine codeAny_forLoop_any I (fun k s hI => wpAny_mono (turn k s hI) (fun r s₁ hr => ?_) fun _ _ x => x.elim) k h
  cases r with
  | none => exact wpAny_execs_nil hr
  | some v =>
    refine wpAny_mono hr (fun _ s₁' h₁ => wpAny_mono h₁ (fun _ s₂ h₂ => wpAny_mono h₂ (fun f s₃ h₃ => ?_) fun _ _ x => x.elim) fun _ _ x => x.elim) fun _ _ x => x.elim
    cases f <;> exact h₃

/-- a loop over a list of pairs -/
theorem forT {elts : List Expr} {x1 : Nat} {tpos : Pos} {iter : Expr} {body : List Stmt} {pos : Pos} {env : Env} {L : Addr} {Q : Flow → Shared → Prop} {s₀ : Shared} (hh : A.handled = none)
    (k : wpAny (model prog w) A (eval iter env) (fun v s₁ => ∃ (s : Shared) (h : Heap) (tk : Nat) (l : Addr) (vs : List Value) (g₀ g : Heap) (m : Str → Option Value) (os : List (Addr × Obj)) (J : Nat → Heap → (Str → Option Value) → List (Addr × Obj) → Prop),
      v = .ref l ∧ s₁ = Sx s h tk ∧ (∀ v ∈ vs, ∃ a, v = .ref a) ∧ g₀.IsList l vs.toArray ∧ Keeps g₀ g ∧ Fm g L h m ∧ News g L h os ∧ J 0 g m os ∧
      (∀ i v it oi g h tk m os, vs[i]? = some v → J i g m os → Keeps g₀ g → Fm g L h m → News g L h ((it, oi) :: os) → (∀ p ∈ os, p.1 ≠ it) → IsIt oi l (i + 1) →
        wpAny (model prog w) A (assign (.Tuple elts x1 tpos) env v) (fun _ s₂ => wpAny (model prog w) A (execs body env) (fun f s₃ => match f with
          | .next | .cont => ∃ g' h' tk' m' os', s₃ = Sx s h' tk' ∧ J (i + 1) g' m' os' ∧ Keeps g₀ g' ∧ Fm g' L h' m' ∧ News g' L h' ((it, oi) :: os') ∧ ∀ p ∈ os', p.1 ≠ it
          | .brk => Q .next s₃
          | .ret v => Q (.ret v) s₃) NoE s₂) NoE (Sx s h tk)) ∧
      (∀ g h tk m os, J vs.length g m os → Keeps g₀ g → Fm g L h m → News g L h os → Q .next (Sx s h tk))) NoE s₀)
    (hs : ∀ x, foldedSetIterable iter env x = pure x := by intro _; rfl) :
    wpAny (model prog w) A (exec (.For (.Tuple elts x1 tpos) iter body [] pos) env) Q NoE s₀ := by
  refine wpAny_For (wpAny_mono k (fun v s₁ h₁ => ?_) fun _ _ x => x) hs
  obtain ⟨s, h, tk, l, vs, g₀, g, m, os, J, rfl, rfl, hrefs, hl, hg, F, N, hJ, step, done⟩ := h₁
  have hlh : ∀ {g h m}, Keeps g₀ g → Fm g L h m → h.IsList l vs.toArray := fun hg F => let ⟨o, ho, r⟩ := hl; ⟨o, F.keep _ _ (hg _ _ ho), r⟩
  refine wpAny_pyIter_list (s := Sx s h tk) (hlh hg F) ?_
  refine for2_ (fun j s' => ∃ i g h' tk m os oi, s' = Sx s h' tk ∧ J i g m os ∧ Keeps g₀ g ∧ Fm g L h' m ∧ News g L h' ((h.objs.size, oi) :: os) ∧ (∀ p ∈ os, p.1 ≠ h.objs.size) ∧ IsIt oi l i ∧ i ≤ vs.length ∧ j = vs.length + 1 - i) ?_ (vs.length + 1) ?_
  · rintro j s' ⟨i, g, h', tk', m, os, oi, rfl, hJ, hg, F, N, hd, hi, hil, rfl⟩
    have z := N _ (.head _)
    have hit : (Sx s h' tk').heap.IsListIter h.objs.size l i := ⟨oi, z.1, hi.1, hi.2⟩
    have Nt : News g L h' os := fun p hp => N p (.tail _ hp)
    cases hv : vs[i]? with
    | none =>
      have e : i = vs.length := Nat.le_antisymm hil (by simpa using hv)
      refine wpAny_pyNext_list_end hh hit (hlh hg F) (by simpa using hv) fun h'' hx => ?_
      subst e
      exact done g h'' tk' m os hJ hg (F.ext hx z.2.1 z.2.2) fun p hp => ⟨hx _ _ (hd p hp) (Nt p hp).1, (Nt p hp).2⟩
    | some v =>
      have hlt := (List.getElem?_eq_some_iff.mp hv).1
      refine wpAny_pyNext_list_item hit (hlh hg F) (by simpa using hv) fun h'' hit' hs' => ?_
      obtain ⟨oi', hoi, hc', hd'⟩ := hit'
      have F' := F.ext hs'.extBut z.2.1 z.2.2
      have N' : News g L h'' ((h.objs.size, oi') :: os) := fun p hp => by
        rcases List.mem_cons.mp hp with rfl | hp
        · exact ⟨hoi, z.2⟩
        · exact ⟨(hs'.2 _ (hd p hp)).trans (Nt p hp).1, (Nt p hp).2⟩
      obtain ⟨ar, rfl⟩ := hrefs v (List.mem_of_getElem? hv)
      refine wpAny_letOwnedTupleGo_listiter (s := Sx s h'' tk') ⟨oi', hoi, hc', hd'⟩ ?_
      refine wpAny_mono (step i _ _ oi' g h'' tk' m os hv hJ hg F' N' hd ⟨hc', hd'⟩) (fun _ s₂ h₂ => wpAny_mono h₂ (fun f s₃ h₃ => ?_) fun _ _ x => x) fun _ _ x => x
      have fin : (∃ g' h' tk' m' os', s₃ = Sx s h' tk' ∧ J (i + 1) g' m' os' ∧ Keeps g₀ g' ∧ Fm g' L h' m' ∧ News g' L h' ((h.objs.size, oi') :: os') ∧ ∀ p ∈ os', p.1 ≠ h.objs.size) →
          ∃ j, j < vs.length + 1 - i ∧ ∃ i g h' tk m os oi, s₃ = Sx s h' tk ∧ J i g m os ∧ Keeps g₀ g ∧ Fm g L h' m ∧ News g L h' ((h.objs.size, oi) :: os) ∧ (∀ p ∈ os, p.1 ≠ h.objs.size) ∧ IsIt oi l i ∧ i ≤ vs.length ∧ j = vs.length + 1 - i := by
        rintro ⟨g', h3, tk3, m', os', rfl, hJ', hg', F3, N3, hd3⟩
        exact ⟨vs.length + 1 - (i + 1), by omega, i + 1, g', h3, tk3, m', os', oi', rfl, hJ', hg', F3, N3, hd3, ⟨hc', hd'⟩, hlt, rfl⟩
      cases f with
      | next => exact fin h₃
      | cont => exact fin h₃
      | brk => exact h₃
      | ret v => exact h₃
  · refine ⟨0, g, _, tk, m, os, _, rfl, hJ, hg, F.push _, newsPush F N _ rfl, fun p hp => Nat.ne_of_lt (Heap.lt_size (N p hp).1), ⟨rfl, rfl⟩, Nat.zero_le _, rfl⟩

/-- two names are set from a pair -/
theorem unpack2 {x y : Str} {px py pos : Pos} {kk : Nat} {n : Str} {sc : Scope} {L f : Addr} {cd : Value} {g h : Heap} {tk : Nat} {m : Str → Option Value} {os : List (Addr × Obj)} {T : Addr} {v1 v2 : Value} {Q : Unit → Shared → Prop} (hh : A.handled = none)
    (F : Fm g L h m) (N : News g L h os) (hT : IsTup h T #[v1, v2])
    (k : ∀ h' tk', Fm g L h' (up (up m x v1) y v2) → News g L h' os → Q () (Sx s h' tk'))
    (hk : sc.kind = .function := by rfl) (hl : (envOf n sc L f cd).kindOf x = some .local := by rfl) (hl2 : (envOf n sc L f cd).kindOf y = some .local := by rfl) :
    wpAny (model prog w) A (assign (.Tuple [.Name x px, .Name y py] kk pos) (envOf n sc L f cd) (.ref T)) Q E (Sx s h tk) := by
  refine wpAny_assign_Tuple (s := Sx s h tk) hh hT rfl rfl fun h₃ hx₃ => ?_
  have up₃ : Keeps h h₃ := fun b o x => hx₃ b o (Nat.ne_of_lt (Heap.lt_size x)) x
  show wpAny _ A (do holding [v2] (assign (.Name x px) (envOf n sc L f cd) v1); do holding [] (assign (.Name y py) (envOf n sc L f cd) v2); pure ()) _ _ (Sx s h₃ tk)
  refine wpAny_bind (wpAny_holding (wpAny_assign_Name (stF (F.kept up₃) (newsKept N up₃) (fun h4 tk4 F4 N4 => ?_) hk hl)))
  exact wpAny_bind (wpAny_holding (wpAny_assign_Name (stF F4 N4 (fun h5 tk5 F5 N5 => wpAny_pure (k h5 tk5 F5 N5)) hk hl2)))
end
end Mine

/-! part G5 -/
namespace Mine
local macro_rules | `(tactic| walk_at "lk") => `(tactic| first | exact up_same | assumption | (refine up_ne (by decide) ?_; walk_at "lk") | rfl)

def toldBody : List Stmt := match (bodyAt 13).getD 3 default with | .While _ b _ _ => b | _ => []
def toldElse : List Stmt := match toldBody.getD 1 default with | .If _ _ e _ => e | _ => []

section
variable {prog : Program} {w : World} {A : Around} {E : Value → Shared → Prop} {s : Shared} {R : Result → Shared → Prop}

set_option maxHeartbeats 1000000 in
theorem told_kids {mg mb : Str → Option Value} {h₀ g h : Heap} {tk : Nat} {L f : Addr} {cd : Value} (hh : A.handled = none) (hroom : A.depth < recursionLimit) (B : Base mg mb h₀) (B2 : Base2 mg h₀) (K : Keeps h₀ g) {m : Str → Option Value} {os : List (Addr × Obj)} {ML NL : Addr} {c : Nat} {x : Str} {tx : Tok} {nms : List (Str × Int)}
    (F : Fm g L h m) (N : News g L h ((ML, listOf (vals []).toArray c) :: os)) (hd : ∀ p ∈ os, p.1 ≠ ML) (m1 : m "names" = some (.ref NL)) (m2 : m "text" = some (.str x tx)) (m3 : m "made" = some (.ref ML)) (hN : NamesAt h₀ NL nms) (hNok : NmsOk nms) (hx : x.length ≤ 20000)
    {Q : Flow → Shared → Prop}
    (k : ∀ g' h' tk' m' ks c', Keeps g g' → Fm g' L h' m' → News g' L h' ((ML, listOf (vals ks).toArray c') :: os) → Els g' ks (kids nms x) → (∀ z : Str, z ≠ "name" → z ≠ "marks" → z ≠ "kid" → m' z = m z) → Q .next (Sx s h' tk')) :
    wpAny (model prog w) A (exec (toldElse.getD 2 default) (envOf (nameAt 13) (scopeAt 13) L f cd)) Q NoE (Sx s h tk) := by
  obtain ⟨vs, hlN, hlen, hvs⟩ := hN
  have hrefs : ∀ v ∈ vs, ∃ a, v = Value.ref a := fun v hv => by
    obtain ⟨i, hi⟩ := List.getElem?_of_mem hv
    obtain ⟨nm, a, t, u, _, e, _⟩ := hvs i v hi
    exact ⟨a, e⟩
  have hlg : g.IsList NL vs.toArray := let ⟨o, ho, r⟩ := hlN; ⟨o, K _ _ ho, r⟩
  refine forT (L := L) hh (ldF F m1 ⟨s, h, tk, NL, vs, g, g, m, _, fun i g m' os' => ∃ ks c', os' = (ML, listOf (vals ks).toArray c') :: os ∧ Els g ks ((nms.take i).map fun nm => kid nm x) ∧ (∀ z : Str, z ≠ "name" → z ≠ "marks" → z ≠ "kid" → m' z = m z),
    rfl, rfl, hrefs, hlg, Keeps.refl _, F, N, ⟨[], c, rfl, ⟨(fun _ h => nomatch h), rfl⟩, fun _ _ _ _ => rfl⟩, ?_, ?_⟩)
  · rintro i v it oi g1 h1 tk1 m' os' hv ⟨ks, c', rfl, hK, hm'⟩ kg F1 N1 hit _
    obtain ⟨nm, a, t, u, hnm, rfl, hTup⟩ := hvs i v hv
    have hnmm := List.mem_of_getElem? hnm
    have hnl := hNok.each nm hnmm
    have K1 : Keeps h₀ g1 := K.trans kg
    have hne : it ≠ ML := Ne.symm (hit _ (.head _))
    have Bg := B.keeps K1
    refine unpack2 hh F1 N1 (hTup.keeps (K1.trans F1.keep)) fun h2 tk2 F2 N2 => ?_
    have e1 : m' "text" = some (.str x tx) := (hm' _ (by decide) (by decide) (by decide)).trans m2
    have e2 : m' "made" = some (.ref ML) := (hm' _ (by decide) (by decide) (by decide)).trans m3
    obtain ⟨ff, ef, hff⟩ := B2.fmt
    have hff2 := hff.keeps (K1.trans F2.keep)
    obtain ⟨oF, T, kV, doc, pm, an, cdF, ct, oT, n, tT, f1, f2, f3, f4, f5⟩ := id hff2
    refine wpAny_execs_cons (asg (callF3 (f := ff) (o := oF) (fd := fdFmt T kV doc pm an cdF ct) (glF (Bg.keeps F2.keep).g ef ⟨rfl, ldF F2 (by walk_at "lk") (ldF F2 (by walk_at "lk") (ldF F2 (by walk_at "lk") ⟨⟨f1, f2⟩, ?_⟩))⟩)))
    refine formatparam_ hroom B B2 (K1.trans F2.keep) hff2 (by omega) (by omega) fun h3 tk3 t3 k3 => ?_
    refine ⟨s, h3, tk3, _, _, _, rfl, F2.kept k3, newsKept N2 k3, fun h4 tk4 F4 N4 => ?_⟩
    have hkl := kid_len hNok hnmm x
    have hkl2 : (fmt nm.1 (nm.2 != 0) x).length ≤ 2 * x.length + 6 := hkl.2
    have B4 := Bg.keeps F4.keep
    refine wpAny_execs_cons (wpAny_Expr (appendC F4 (by walk_at "lk") (N4 _ (.tail _ (.head _))).1 (tuple2 (callB1 (blF B4.g Bg.len.1 B4.b Bg.len.2 ⟨rfl, ldF F4 (by walk_at "lk") (lenS (by omega) fun t5 tk5 => ldF F4 (by walk_at "lk") (newTupleF F4 N4 (by simp [sizeLine]) fun T6 h6 F6 N6 d6 _ k6 => ?_))⟩)))))
    refine appendF F6 N6 (.tail (Ne.symm (d6 _ (.tail _ (.head _)))) (.tail hne (.head hd))) (by have := hK.len; simp [vals, sizeLine, this]; have := hNok.two; omega) fun h7 F7 N7 => ?_
    have N7' : News g1 L h7 ((it, oi) :: (ML, listOf (vals (ks ++ [(Value.ref T6, key (kid nm x))])).toArray (c' + 1)) :: os) := newsSub N7 fun p hp => by
      rcases List.mem_cons.mp hp with rfl | hp
      · exact .tail _ (.head _)
      rcases List.mem_cons.mp hp with rfl | hp
      · rw [show vals (ks ++ [(Value.ref T6, key (kid nm x))]) = vals ks ++ [Value.ref T6] by simp [vals]]
        exact .tail _ (.tail _ (.head _))
      · exact .tail _ (.tail _ (.tail _ hp))
    obtain ⟨g8, F8, N8, k8, i8⟩ := rebase F7 N7'
    · have hT6 : TupIs g8 (.ref T6) (key (kid nm x)) := by
        refine ⟨T6, t5, t3, rfl, _, i8 T6 _ (N7 _ (.head _)).1 (N7 _ (.head _)).2.1 fun p hp => ?_, rfl, _, rfl⟩
        rcases List.mem_cons.mp hp with rfl | hp
        · exact d6 _ (.head _)
        rcases List.mem_cons.mp hp with rfl | hp
        · exact d6 (ML, listOf (vals ks).toArray c') (.tail _ (.head _))
        · exact d6 p (.tail _ (.tail _ hp))
      refine wpAny_execs_nil ⟨g8, h7, tk5, _, _, rfl, ⟨_, _, rfl, ⟨fun e he => ?_, ?_⟩, fun z z1 z2 z3 => ?_⟩, kg.trans k8, F8, N8, fun p hp => ?_⟩
      · rcases List.mem_append.mp he with he | he
        · exact (hK.tup e he).keeps k8
        · cases List.mem_singleton.mp he; exact hT6
      · rw [List.map_append, hK.keys, List.take_add_one, hnm]
        simp
      · rw [up_ne z3 rfl, up_ne z2 rfl, up_ne z1 rfl]
        exact hm' z z1 z2 z3
      · rcases List.mem_cons.mp hp with rfl | hp
        · exact Ne.symm hne
        · exact hit p (.tail _ hp)
  · rintro g1 h1 tk1 m' os' ⟨ks, c', rfl, hK, hm'⟩ kg F1 N1
    rw [hlen, List.take_length] at hK
    exact k g1 h1 tk1 m' ks c' kg F1 N1 hK hm'
end
end Mine

/-! part G6 -/
namespace Mine
local macro_rules | `(tactic| walk_at "lk") => `(tactic| first | exact up_same | assumption | (refine up_ne (by decide) ?_; walk_at "lk") | rfl)

theorem Els.isKey {g : Heap} {es : List El} {H : List Str} (x : Els g es H) : ∀ e ∈ es, e.2 = key e.2.2 := fun e he => by
  have : e.2 ∈ es.map (·.2) := List.mem_map_of_mem he
  rw [x.keys] at this
  obtain ⟨a, _, ha⟩ := List.mem_map.mp this
  rw [← ha]; rfl
theorem Els.strs {g : Heap} {es : List El} {H : List Str} (x : Els g es H) : es.map (·.2.2) = H := by
  have : (es.map (·.2)).map (·.2) = (H.map key).map (·.2) := by rw [x.keys]
  rw [List.map_map, List.map_map] at this
  rw [show es.map (·.2.2) = es.map ((·.2) ∘ (·.2)) from rfl, this]
  exact List.map_id' _
theorem Els.of {g : Heap} {es : List El} (h1 : ∀ e ∈ es, TupIs g e.1 e.2) (h2 : ∀ e ∈ es, e.2 = key e.2.2) : Els g es (es.map (·.2.2)) :=
  ⟨h1, by rw [List.map_map]; exact List.map_congr_left fun e he => h2 e he⟩

section
variable {prog : Program} {w : World} {A : Around} {E : Value → Shared → Prop} {s : Shared} {R : Result → Shared → Prop}

/-- if gone != (size, text): return None -/
theorem told_gone {g h : Heap} {tk : Nat} {L f : Addr} {cd : Value} (hu : A.units + 64 < cLine) {m : Str → Option Value} {os : List (Addr × Obj)} {x : Str} {tx tn : Tok} {v : Value}
    (F : Fm g L h m) (N : News g L h os) (m1 : m "gone" = some v) (m2 : m "size" = some (.int x.length tn)) (m3 : m "text" = some (.str x tx)) (hv : TupIs g v (key x)) (hx : PyData.strOk x = true) {Q : Flow → Shared → Prop}
    (k : ∀ h', Fm g L h' m → News g L h' os → Q .next (Sx s h' tk)) :
    wpAny (model prog w) A (exec (toldBody.getD 2 default) (envOf (nameAt 13) (scopeAt 13) L f cd)) Q NoE (Sx s h tk) := by
  refine wpAny_If (wpAny_isTrue_Compare1 (ldF F m1 (tuple2 (ldF F m2 (ldF F m3 (newTupleF F N (by simp [sizeLine]) fun T6 h6 F6 N6 d6 _ k6 => ?_))))))
  have hT : TupIs h6 (.ref T6) (key x) := ⟨T6, tn, tx, rfl, _, (N6 _ (.head _)).1, rfl, _, rfl⟩
  refine ne_dataH (s := Sx s h6 tk) (hv.keeps F6.keep).reads hT.reads (shaped_dat hx) (shaped_dat hx) hu (wpAny_truthy_bool ?_)
  rw [eqv_dat, decide_eq_true rfl]
  simp only [Bool.not_true, Bool.false_eq_true, if_false]
  exact wpAny_execs_nil (k h6 F6 (newsSub N6 fun p hp => .tail _ hp))

set_option maxHeartbeats 1000000 in
theorem told_new {mg mb : Str → Option Value} {h₀ g h : Heap} {tk : Nat} {L f : Addr} {cd : Value} (hh : A.handled = none) (hroom : A.depth + 3 < recursionLimit) (hu : A.units + 50 < cLine) (B : Base mg mb h₀) (B2 : Base2 mg h₀) (K : Keeps h₀ g) {m : Str → Option Value} {TL D NL : Addr} {c1 c2 : Nat} {ts es : List El} {T H seeds : List Str} {x : Str} {tx tn : Tok} {nms : List (Str × Int)} {r : El}
    (F : Fm g L h m) (N : News g L h [(TL, listOf (vals ts).toArray c2), (D, listOf (vals es).toArray c1)]) (hne : TL ≠ D)
    (m1 : m "names" = some (.ref NL)) (m2 : m "told" = some (.ref TL)) (m3 : m "heap" = some (.ref D)) (m4 : m "size" = some (.int x.length tn)) (m5 : m "text" = some (.str x tx)) (hN : NamesAt h₀ NL nms) (hNok : NmsOk nms)
    (hE : Els g es H) (hT : Els g ts T) (hH : HeapFrom 0 es) (hr : es[0]? = some r) (hrk : r.2 = key x) (V : TInv nms seeds T H) (hx : x ∉ T) (hTl : T.length < 10)
    {Q : Flow → Shared → Prop}
    (k : ∀ g' h' tk' m' es' ts' H' c1' c2' v, Keeps g g' → Fm g' L h' m' → News g' L h' [(TL, listOf (vals ts').toArray c2'), (D, listOf (vals es').toArray c1')] → m' "names" = some (.ref NL) → m' "told" = some (.ref TL) → m' "heap" = some (.ref D) → m' "size" = some (.int x.length tn) → m' "text" = some (.str x tx) →
      m' "gone" = some v → TupIs g' v (key x) → Els g' es' H' → Els g' ts' (T ++ [x]) → HeapFrom 0 es' → TInv nms seeds (T ++ [x]) H' → H'.length = H.length + 1 → Q .next (Sx s h' tk')) :
    wpAny (model prog w) A (execs toldElse (envOf (nameAt 13) (scopeAt 13) L f cd)) Q NoE (Sx s h tk) := by
  have hpow : (2 : Nat) ^ T.length ≤ 2 ^ 10 := Nat.pow_le_pow_right (by decide) (by omega)
  have hxH : x ∈ H := by
    obtain ⟨a, ha, e⟩ := hE.nth hr
    rw [hrk] at e
    exact key_inj e ▸ List.mem_of_getElem? ha
  have hxl : x.length ≤ 20000 := by have := (V.okH x hxH).1; omega
  have hTlen := hT.len
  refine wpAny_execs_cons (wpAny_Expr (appendC F (by walk_at "lk") (N _ (.head _)).1 (tuple2 (ldF F (by walk_at "lk") (ldF F (by walk_at "lk") (newTupleF F N (by simp [sizeLine]) fun T6 h6 F6 N6 d6 _ k6 => ?_))))))
  refine appendF F6 N6 (.tail (Ne.symm (d6 _ (.head _))) (.head fun p hp => by cases List.mem_singleton.mp hp; exact Ne.symm hne)) (by simp [vals, sizeLine]; omega) fun h7 F7 N7 => ?_
  have N7' : News g L h7 [(TL, listOf (vals (ts ++ [(Value.ref T6, key x)])).toArray (c2 + 1)), (D, listOf (vals es).toArray c1)] := newsSub N7 fun p hp => by
    rcases List.mem_cons.mp hp with rfl | hp
    · rw [show vals (ts ++ [(Value.ref T6, key x)]) = vals ts ++ [Value.ref T6] by simp [vals]]
      exact .tail _ (.head _)
    · exact .tail _ (.tail _ hp)
  obtain ⟨g8, F8, N8, k8, i8⟩ := rebase F7 N7'
  have hT8 : Els g8 (ts ++ [(Value.ref T6, key x)]) (T ++ [x]) := by
    refine ⟨fun e he => ?_, by rw [List.map_append, hT.keys]; simp⟩
    rcases List.mem_append.mp he with he | he
    · exact (hT.tup e he).keeps k8
    · cases List.mem_singleton.mp he
      refine ⟨T6, tn, tx, rfl, _, i8 T6 _ (N7 _ (.head _)).1 (N7 _ (.head _)).2.1 fun p hp => ?_, rfl, _, rfl⟩
      rcases List.mem_cons.mp hp with rfl | hp
      · exact d6 (TL, listOf (vals ts).toArray c2) (.head _)
      · exact d6 p (.tail _ hp)
  clear N7 N7' N6 F7 F6
  refine wpAny_execs_cons (asg (list0 (newListF F8 N8 (by simp [sizeLine]) fun ML h9 F9 N9 d9 _ k9 => ⟨s, h9, tk, _, _, _, rfl, F9, N9, fun h10 tk10 F10 N10 => ?_⟩)))
  refine wpAny_execs_cons (told_kids hh (by omega) B B2 (K.trans k8) F10 N10 d9 (by walk_at "lk") (by walk_at "lk") (by walk_at "lk") hN hNok hxl fun g11 h11 tk11 m11 ks c11 k11 F11 N11 hK hm11 => ?_)
  have q1 : m11 "heap" = some (.ref D) := (hm11 _ (by decide) (by decide) (by decide)).trans (by walk_at "lk")
  have q2 : m11 "made" = some (.ref ML) := (hm11 _ (by decide) (by decide) (by decide)).trans (by walk_at "lk")
  have q3 : m11 "told" = some (.ref TL) := (hm11 _ (by decide) (by decide) (by decide)).trans (by walk_at "lk")
  have q4 : m11 "names" = some (.ref NL) := (hm11 _ (by decide) (by decide) (by decide)).trans (by walk_at "lk")
  have q5 : m11 "size" = some (.int x.length tn) := (hm11 _ (by decide) (by decide) (by decide)).trans (by walk_at "lk")
  have q6 : m11 "text" = some (.str x tx) := (hm11 _ (by decide) (by decide) (by decide)).trans (by walk_at "lk")
  clear hm11
  have hTLne : TL ≠ ML := d9 _ (.head _)
  have hDne : D ≠ ML := d9 _ (.tail _ (.head _))
  have kg : Keeps g g11 := k8.trans k11
  have Bg := B.keeps (K.trans kg)
  have hE11 := hE.keeps kg
  have hT11 := hT8.keeps k11
  obtain ⟨e1, e2, rfl⟩ : ∃ e1 e2, ks = [e1, e2] := by
    have : ks.length = 2 := by rw [hK.len, kids, List.length_map, hNok.two]
    match ks, this with
    | [a, b], _ => exact ⟨a, b, rfl⟩
  have hkk : kids nms x = [e1.2.2, e2.2.2] := hK.strs.symm
  have hd2 : ∀ p ∈ [(TL, listOf (vals (ts ++ [(Value.ref T6, key x)])).toArray (c2 + 1)), (D, listOf (vals es).toArray c1)], p.1 ≠ ML := fun p hp => by
    rcases List.mem_cons.mp hp with rfl | hp
    · exact hTLne
    · cases List.mem_singleton.mp hp; exact hDne
  obtain ⟨f5, o5, pm5, cd5, doc5, n5, hf5⟩ := Bg.fn 5 (by decide)
  obtain ⟨f7, o7, pm7, cd7, doc7, n7, hf7⟩ := Bg.fn 7 (by decide)
  have B11 := Bg.keeps F11.keep
  have hl2 : es.length < 100 := by have := V.size; have := hE.len; omega
  refine wpAny_execs_cons (wpAny_Expr (callF2 (f := f5) (o := o5) (fd := fdAt 5 pm5 cd5 doc5) (glF B11.g n5 ⟨rfl, ldF F11 q1 (popC F11 q2 (N11 _ (.head _)).1 (popF (vs := [e1.1]) (y := e2.1) F11 N11 (.head hd2) (by simp [sizeLine]) fun h12 F12 N12 => ⟨⟨F12.keep _ _ hf5.get, hf5.data⟩, ?_⟩))⟩)))
  have zD := N12 _ (.tail _ (.tail _ (.head _)))
  refine heappush_ (es := es) (x := e2) (by omega) (by omega) Bg F12.keep (hf5.keeps F12.keep) zD.2.2 zD.1 (fun e he => (hE11.tup e he).keeps F12.keep) ((hK.tup e2 (by simp)).keeps F12.keep) (by omega) hH fun h13 tk13 es1 c13 p1 H1 x13 l13 => ?_
  obtain ⟨F13, N13⟩ := newsExt F12 N12 (.tail (Ne.symm hDne) (.tail hne (.head fun _ h => nomatch h))) x13 l13
  have hlen1 : es1.length = es.length + 1 := by rw [p1.length_eq]; simp
  obtain ⟨r1, hr1⟩ : ∃ r1, es1[0]? = some r1 := ⟨_, List.getElem?_eq_getElem (by omega)⟩
  have hmem1 : ∀ e ∈ es1, e ∈ es ∨ e = e2 := fun e he => by
    rcases List.mem_append.mp (p1.mem_iff.mp he) with h | h
    · exact .inl h
    · exact .inr (List.mem_singleton.mp h)
  have hx2 : ltK (key x) e2.2 = true := by
    have hm : e2.2.2 ∈ kids nms x := by rw [hkk]; simp
    obtain ⟨nm, h1, h2⟩ := List.mem_map.mp hm
    rw [hK.isKey e2 (by simp), ← h2]
    exact kid_lt hNok h1 x
  have hrr : r1.2 = key x := by
    have a1 : leK r1.2 (key x) := hrk ▸ H1.root hr1 r (p1.mem_iff.mpr (List.mem_append.mpr (.inl (List.mem_of_getElem? hr))))
    have a2 : leK (key x) r1.2 := by
      rcases hmem1 r1 (List.mem_of_getElem? hr1) with h | h
      · exact hrk ▸ hH.root hr r1 h
      · rw [h]; exact leK_of_lt hx2
    exact leK_antisymm a1 a2
  have B13 := Bg.keeps F13.keep
  have hT1 : ∀ e ∈ es1, TupIs g11 e.1 e.2 := fun e he => by
    rcases hmem1 e he with h | h
    · exact hE11.tup e h
    · rw [h]; exact hK.tup e2 (by simp)
  have hK1 : ∀ e ∈ es1, e.2 = key e.2.2 := fun e he => by
    rcases hmem1 e he with h | h
    · exact hE.isKey e h
    · rw [h]; exact hK.isKey e2 (by simp)
  refine wpAny_execs_cons (asg (callF2 (f := f7) (o := o7) (fd := fdAt 7 pm7 cd7 doc7) (glF B13.g n7 ⟨rfl, ldF F13 q1 (popC F13 q2 (N13 _ (.head _)).1 (popF (vs := []) (y := e1.1) F13 N13 (.head ?hd3) (by simp [sizeLine]) fun h14 F14 N14 => ⟨⟨F14.keep _ _ hf7.get, hf7.data⟩, ?_⟩))⟩)))
  case hd3 =>
    intro p hp
    rcases List.mem_cons.mp hp with rfl | hp
    · exact hTLne
    · cases List.mem_singleton.mp hp; exact hDne
  have zD := N14 _ (.tail _ (.tail _ (.head _)))
  refine heapreplace_ (es := es1) (x := e1) (r := r1) (by omega) (by omega) Bg F14.keep (hf7.keeps F14.keep) zD.2.2 zD.1 (fun e he => (hT1 e he).keeps F14.keep) ((hK.tup e1 (by simp)).keeps F14.keep) (by omega) H1 hr1 fun h15 tk15 es3 c15 p3 H3 x15 l15 => ?_
  obtain ⟨F15, N15⟩ := newsExt F14 N14 (.tail (Ne.symm hDne) (.tail hne (.head fun _ h => nomatch h))) x15 l15
  refine ⟨s, h15, tk15, _, _, _, rfl, F15, newsSub N15 (fun p hp => .tail _ hp), fun h16 tk16 F16 N16 => ?_⟩
  have hmem3 : ∀ e ∈ es3, e = e1 ∨ e ∈ es1 := fun e he => List.mem_cons.mp (p3.mem_iff.mp (.tail _ he))
  have hE3 : Els g11 es3 (es3.map (·.2.2)) := Els.of (fun e he => by
      rcases hmem3 e he with h | h
      · rw [h]; exact hK.tup e1 (by simp)
      · exact hT1 e h) fun e he => by
      rcases hmem3 e he with h | h
      · rw [h]; exact hK.isKey e1 (by simp)
      · exact hK1 e h
  have hperm : (x :: es3.map (·.2.2)).Perm (kids nms x ++ H) := by
    have a1 := p3.map (·.2.2)
    have a2 := p1.map (·.2.2)
    rw [List.map_cons, List.map_cons, hrr] at a1
    rw [List.map_append, hE.strs] at a2
    rw [hkk]
    refine a1.trans (List.Perm.cons _ (a2.trans ?_))
    exact List.perm_append_comm
  have hl3 := hperm.length_eq
  have hmin : ∀ y ∈ H, leK (key x) (key y) := fun y hy => by
    have := (hE.mem y).mpr hy
    obtain ⟨e, he, e'⟩ := List.mem_map.mp this
    rw [← e', ← hrk]
    exact hH.root hr e he
  refine wpAny_execs_nil (k g11 h16 tk16 _ es3 _ _ _ _ _ kg F16 N16 (by walk_at "lk") (by walk_at "lk") (by walk_at "lk") (by walk_at "lk") (by walk_at "lk") up_same (hrr ▸ hT1 r1 (List.mem_of_getElem? hr1)) hE3 hT11 H3 (V.new hNok hx hmin hxH hperm) ?_)
  rw [hkk] at hl3
  simp only [List.length_cons, List.length_append, List.length_nil] at hl3
  omega
end
end Mine

/-! part G7 -/
namespace Mine
local macro_rules | `(tactic| walk_at "lk") => `(tactic| first | exact up_same | assumption | (refine up_ne (by decide) ?_; walk_at "lk") | rfl)

section
variable {prog : Program} {w : World} {A : Around} {E : Value → Shared → Prop} {s : Shared} {R : Result → Shared → Prop}

structure ToldSt (h₀ : Heap) (L TL D NL : Addr) (nms : List (Str × Int)) (seeds : List Str) (g h : Heap) (m : Str → Option Value) (T H : List Str) (ts es : List El) (c1 c2 : Nat) : Prop where
  K : Keeps h₀ g
  F : Fm g L h m
  N : News g L h [(TL, listOf (vals ts).toArray c2), (D, listOf (vals es).toArray c1)]
  m1 : m "names" = some (.ref NL)
  m2 : m "told" = some (.ref TL)
  m3 : m "heap" = some (.ref D)
  hE : Els g es H
  hT : Els g ts T
  hH : HeapFrom 0 es
  V : TInv nms seeds T H
  hTl : T.length ≤ 10

set_option maxHeartbeats 1000000 in
theorem told_turn {mg mb : Str → Option Value} {h₀ g h : Heap} {tk : Nat} {L f : Addr} {cd : Value} (hh : A.handled = none) (hroom : A.depth + 3 < recursionLimit) (hu : A.units + 100 < cLine) (B : Base mg mb h₀) (B2 : Base2 mg h₀) {m : Str → Option Value} {TL D NL : Addr} {c1 c2 : Nat} {ts es : List El} {T H seeds : List Str} {nms : List (Str × Int)} (hne : TL ≠ D)
    (hN : NamesAt h₀ NL nms) (hNok : NmsOk nms) (hS : seeds ≠ []) (X : ToldSt h₀ L TL D NL nms seeds g h m T H ts es c1 c2) (hTl : T.length < 10) {Q : Flow → Shared → Prop}
    (k : ∀ g' h' tk' m' es' ts' T' H' c1' c2', ToldSt h₀ L TL D NL nms seeds g' h' m' T' H' ts' es' c1' c2' → (10 - T'.length) * 2 + H'.length < (10 - T.length) * 2 + H.length → Q .next (Sx s h' tk')) :
    wpAny (model prog w) A (execs toldBody (envOf (nameAt 13) (scopeAt 13) L f cd)) Q NoE (Sx s h tk) := by
  obtain ⟨K, F, N, m1, m2, m3, hE, hT, hH, V, _⟩ := X
  have hHne := V.ne hNok hS
  have hel := hE.len
  have htl := hT.len
  obtain ⟨r, hr⟩ : ∃ r, es[0]? = some r := by
    cases es with
    | nil => exfalso; apply hHne; cases H with | nil => rfl | cons a b => simp at hel
    | cons a b => exact ⟨a, rfl⟩
  obtain ⟨x, hx0, hrk⟩ := hE.nth hr
  have hxH := List.mem_of_getElem? hx0
  have hok := V.okH x hxH
  have hTr := hE.tup r (List.mem_of_getElem? hr)
  obtain ⟨a, tn, tx, era, hTa⟩ := id hTr
  rw [hrk] at hTa
  have Bg := B.keeps K
  refine wpAny_execs_cons (Assign_Tuple (Subscript_ (ldF F m3 (intR fun t1 tk1 => itemF (N _ (.tail _ (.head _))).1 (by decide) (by decide) (v := r.1) (vals_get (k := 0) hr) ?_))))
  rw [era]
  refine unpack2 hh F N (hTa.keeps F.keep) fun h2 tk2 F2 N2 => ?_
  refine wpAny_execs_cons (wpAny_If (wpAny_isTrue_Compare1 (tuple2 (ldF F2 (by walk_at "lk") (ldF F2 (by walk_at "lk") (newTupleF F2 N2 (by simp [sizeLine]) fun T6 h6 F6 N6 d6 _ k6 => ldF F6 (by walk_at "lk") ?_))))))
  have hT6 : TupIs h6 (.ref T6) (key x) := ⟨T6, tn, tx, rfl, _, (N6 _ (.head _)).1, rfl, _, rfl⟩
  have hokT : ∀ y ∈ T, PyData.strOk y = true := fun y hy => (V.okT y hy).2
  refine SeqAt.in_list_reads (s := Sx s h6 tk2) (reads_list_at (N6 _ (.tail _ (.head _))).1 rfl rfl (reads_els fun e he => (hT.tup e he).keeps F6.keep)) hT6.reads (lay_dats (hT.strOk hokT)) (lay_dat (k := key x) hok.2) ?_ (wpAny_truthy_bool ?_)
  · rw [depth_dat]
    have := Nat.min_le_right (PyData.depthAll ((ts.map (·.2)).map dat)) 1
    omega
  rw [any_dat]
  have N7 := newsSub N6 (os' := [(TL, listOf (vals ts).toArray c2), (D, listOf (vals es).toArray c1)]) fun p hp => .tail _ hp
  clear N6 N2 F2 hT6
  by_cases hxT : x ∈ T
  · rw [decide_eq_true ((hT.mem x).mpr hxT)]
    simp only [if_true]
    obtain ⟨f6, o6, pm6, cd6, doc6, n6, hf6⟩ := Bg.fn 6 (by decide)
    have B6 := Bg.keeps F6.keep
    have zD := N7 _ (.tail _ (.head _))
    have hsz := V.size
    refine wpAny_execs_cons (asg (callF1 (f := f6) (o := o6) (fd := fdAt 6 pm6 cd6 doc6) (glF B6.g n6 ⟨rfl, ldF F6 (by walk_at "lk") ⟨⟨F6.keep _ _ hf6.get, hf6.data⟩, ?_⟩⟩)))
    refine heappop_ (es := es) (r := r) (by omega) (by omega) Bg F6.keep (hf6.keeps F6.keep) zD.2.2 zD.1 (fun e he => (hE.tup e he).keeps F6.keep) (by omega) hH hr fun h8 tk8 es8 c8 p8 H8 x8 l8 => ?_
    obtain ⟨F8, N8⟩ := newsExt F6 N7 (.tail hne (.head fun _ h => nomatch h)) x8 l8
    refine ⟨s, h8, tk8, _, _, _, rfl, F8, N8, fun h9 tk9 F9 N9 => wpAny_execs_nil ?_⟩
    refine wpAny_execs_cons (told_gone (by omega) F9 N9 up_same (by walk_at "lk") (by walk_at "lk") (hrk ▸ hTr) hok.2 fun h10 F10 N10 => wpAny_execs_nil ?_)
    have hE8 : Els g es8 (es8.map (·.2.2)) := Els.of (fun e he => hE.tup e (p8.mem_iff.mp (.tail _ he))) fun e he => hE.isKey e (p8.mem_iff.mp (.tail _ he))
    have hperm : (x :: es8.map (·.2.2)).Perm H := by
      have a1 := p8.map (·.2.2)
      rw [List.map_cons, hrk, hE.strs] at a1
      exact a1
    have hl := hperm.length_eq
    simp only [List.length_cons] at hl
    exact k g h10 tk9 _ es8 ts T _ _ _ ⟨K, F10, N10, by walk_at "lk", by walk_at "lk", by walk_at "lk", hE8, hT, H8, V.dup hxT hperm, by omega⟩ (by omega)
  · rw [decide_eq_false (fun h => hxT ((hT.mem x).mp h))]
    simp only [Bool.false_eq_true, if_false]
    refine told_new hh hroom (by omega) B B2 K F6 N7 hne (by walk_at "lk") (by walk_at "lk") (by walk_at "lk") (by walk_at "lk") (by walk_at "lk") hN hNok hE hT hH hr hrk V hxT hTl fun g' h' tk' m' es' ts' H' c1' c2' v k' F' N' q1 q2 q3 q4 q5 q6 hv hE' hT' hH' V' hl' => ?_
    refine wpAny_execs_cons (told_gone (by omega) F' N' q6 q4 q5 hv hok.2 fun h10 F10 N10 => wpAny_execs_nil ?_)
    exact k g' h10 tk' m' es' ts' _ H' _ _ ⟨K.trans k', F10, N10, q1, q2, q3, hE', hT', hH', V', by simp; omega⟩ (by simp; omega)

set_option maxHeartbeats 1000000 in
theorem told_ {mg mb : Str → Option Value} {h₀ h : Heap} {tk : Nat} (hh : A.handled = none) (hroom : A.depth + 4 < recursionLimit) (hu : A.units + 200 < cLine) (B : Base mg mb h₀) (B2 : Base2 mg h₀) (K : Keeps h₀ h) {f : Addr} {o : Obj} {pm cd doc : Value} (hf : Fn h 13 f o pm cd doc)
    {NL SL : Addr} {nms : List (Str × Int)} {seeds : List Str} (hN : NamesAt h NL nms) (hS : SeedsAt h SL seeds) (hNok : NmsOk nms) (hSok : SeedsOk seeds 7)
    (k : ∀ h' tk' TL ts c T H, Keeps h h' → h'.get? TL = some (listOf (vals ts).toArray c) → Els h' ts T → TInv nms seeds T H → T.length = 10 → R (.ok (.ret (.ref TL))) (Sx s h' tk')) :
    codeAny (model prog w) A (.call (.ref f) ⟨[.ref NL, .ref SL], []⟩) R (Sx s h tk) := by
  refine enter [("names", .ref NL), ("seeds", .ref SL)] (by omega) (B.keeps K).lim hf rfl rfl rfl rfl rfl (by decide +kernel) fun h₁ tk₁ hns hk => ?_
  have Fr₁ : Fr h h.objs.size h₁ _ := ⟨hns, hk, Nat.le_refl _⟩
  generalize h.objs.size = L at Fr₁
  have hA3 : (A.deeper (envOf (nameAt 13) (scopeAt 13) L f cd)).handled = none := hh
  have hA : (A.deeper (envOf (nameAt 13) (scopeAt 13) L f cd)).units + 150 < cLine := by show A.units + 3 + 150 < cLine; omega
  have hA2 : (A.deeper (envOf (nameAt 13) (scopeAt 13) L f cd)).depth + 3 < recursionLimit := by show A.depth + 1 + 3 < recursionLimit; omega
  generalize A.deeper (envOf (nameAt 13) (scopeAt 13) L f cd) = A' at hA hA2 hA3 ⊢
  have Bh := B.keeps K
  have B2h := B2.keeps K
  have hsl := hSok.len
  refine wpAny_execs_cons (told_comp hA3 Bh Fr₁ (by walk_at "lk") hS (by omega) (fun x hx => by have := (hSok.each x hx).1; omega) fun D h2 tk2 es c F2 hD0 hDL hD hTup hkeys => ?_)
  have N2 : News h L h2 [(D, listOf (vals es).toArray c)] := fun p hp => by cases List.mem_singleton.mp hp; exact ⟨hD, hDL, hD0⟩
  obtain ⟨g, F3, N3, kg, ig⟩ := rebase F2 N2
  have hEg : Els g es seeds := ⟨fun e he => by
    obtain ⟨a, t, u, e1, o', ho', hc', n', hd'⟩ := hTup e he
    refine ⟨a, t, u, e1, o', ig a o' ho' ?_ ?_, hc', n', hd'⟩
    · rintro rfl
      obtain ⟨o2, es2, ep, g1, g2, _⟩ := F2.ns
      rw [ho'] at g1; cases g1
      rw [hd'] at g2; cases g2
    · intro p hp
      cases List.mem_singleton.mp hp
      rintro rfl
      rw [ho'] at hD; cases hD
      exact absurd hc' (by simp), hkeys⟩
  have Bg := Bh.keeps kg
  have hel := hEg.len
  obtain ⟨f8, o8, pm8, cd8, doc8, n8, hf8⟩ := Bg.fn 8 (by decide)
  refine wpAny_execs_cons (wpAny_Expr (callF1 (f := f8) (o := o8) (fd := fdAt 8 pm8 cd8 doc8) (glF (Bg.keeps F3.keep).g n8 ⟨rfl, ldF F3 (by walk_at "lk") ⟨⟨F3.keep _ _ hf8.get, hf8.data⟩, ?_⟩⟩)))
  have zD := N3 _ (.head _)
  refine heapify_ (es := es) hA3 (by omega) (by omega) Bg F3.keep (hf8.keeps F3.keep) zD.2.2 zD.1 (fun e he => (hEg.tup e he).keeps F3.keep) (by omega) fun h4 tk4 es4 c4 p4 H4 x4 l4 => ?_
  obtain ⟨F4, N4⟩ := newsExt F3 N3 (.head fun _ h => nomatch h) x4 l4
  have hE4 : Els g es4 (es4.map (·.2.2)) := Els.of (fun e he => hEg.tup e (p4.mem_iff.mp he)) fun e he => hEg.isKey e (p4.mem_iff.mp he)
  have hp4 : (es4.map (·.2.2)).Perm seeds := by have := p4.map (·.2.2); rw [hEg.strs] at this; exact this
  refine wpAny_execs_cons (asg (list0 (newListF F4 N4 (by simp [sizeLine]) fun TL h5 F5 N5 d5 _ k5 => ⟨s, h5, tk4, _, _, _, rfl, F5, N5, fun h6 tk6 F6 N6 => ?_⟩)))
  have hne : TL ≠ D := Ne.symm (d5 _ (.head _))
  refine wpAny_execs_cons (while_ (fun j s' => ∃ g' h' tk' m' T H ts es c1 c2, s' = Sx s h' tk' ∧ ToldSt h L TL D NL nms seeds g' h' m' T H ts es c1 c2 ∧ j = (10 - T.length) * 2 + H.length) ?_ _ ⟨g, h6, tk6, _, [], _, [], es4, _, _, rfl, ⟨kg, F6, N6, by walk_at "lk", by walk_at "lk", by walk_at "lk", hE4, ⟨(fun _ h => nomatch h), rfl⟩, H4, TInv.start hSok hp4, by simp⟩, rfl⟩)
  rintro j s' ⟨g', h', tk', m', T, H, ts, es', c1, c2, rfl, X, rfl⟩
  have B' := (Bh.keeps X.K).keeps X.F.keep
  have htl := X.hT.len
  have hvl : (vals ts).length = T.length := by simp [vals, htl]
  have hTl := X.hTl
  refine wpAny_isTrue_Compare1 (callB1 (blF B'.g Bh.len.1 B'.b Bh.len.2 ⟨rfl, ldF X.F X.m2 (lenR (X.N _ (.head _)).1 (by rw [hvl]; omega) fun t7 tk7 => intR fun t8 tk8 => lt_int (wpAny_truthy_bool ?_))⟩))
  rw [hvl]
  by_cases hlt : T.length < 10
  · rw [decide_eq_true (by omega)]
    simp only [if_true]
    exact told_turn hA3 hA2 (by omega) Bh B2h hne hN hNok hSok.ne X hlt fun g2 h2 tk2 m2 es2 ts2 T2 H2 c12 c22 X2 hlt2 => ⟨_, hlt2, g2, h2, tk2, m2, T2, H2, ts2, es2, c12, c22, rfl, X2, rfl⟩
  · rw [decide_eq_false (by omega)]
    simp only [Bool.false_eq_true, if_false]
    refine wpAny_execs_nil (wpAny_execs_cons (wpAny_Return_some (ldF X.F X.m2 ?_)))
    exact k h' _ TL ts c2 T H (X.K.trans X.F.keep) (X.N _ (.head _)).1 (X.hT.keeps X.F.keep) X.V (by omega)
end
end Mine

/-! part P3 -/
namespace Mine

/-! the kit's sort, asked with keys that are all different -/
section
variable {n : Nat} {K : Nat → Key} {s : Shared} {cmp : Nat → Nat → (Bool → Shared → Prop) → Shared → Prop}

def Good (n : Nat) (p : Array Nat) : Prop := p.Perm (List.range n).toArray
theorem Good.size {p : Array Nat} (g : Good n p) : p.size = n := by have := g.size_eq; simpa using this
theorem Good.lt {p : Array Nat} (g : Good n p) {i : Nat} (hi : i < n) : p.getD i 0 < n := by
  have hs := g.size
  have e : p.getD i 0 = p[i]'(by omega) := by simp [Array.getD, hs, hi]
  have : p[i]'(by omega) ∈ (List.range n).toArray := g.mem_iff.mp (Array.getElem_mem _)
  rw [e]
  simpa using this
theorem Good.inj {p : Array Nat} (g : Good n p) {i j : Nat} (hi : i < n) (hj : j < n) (e : p.getD i 0 = p.getD j 0) : i = j := by
  have hs := g.size
  have hn : p.toList.Nodup := (g.toList.nodup_iff).mpr (by simpa using List.nodup_range)
  have e1 : p.getD i 0 = p.toList[i]'(by simp; omega) := by simp [Array.getD, hs, hi]
  have e2 : p.getD j 0 = p.toList[j]'(by simp; omega) := by simp [Array.getD, hs, hj]
  rw [e1, e2] at e
  exact (List.getElem_inj hn).mp e

def V (K : Nat → Key) (p : Array Nat) (i : Nat) : Key := K (p.getD i 0)
def Inj (n : Nat) (K : Nat → Key) : Prop := ∀ i j, i < n → j < n → K i = K j → i = j
theorem Good.tot {p : Array Nat} (hK : Inj n K) (g : Good n p) {i j : Nat} (hi : i < n) (hj : j < n) (hne : i ≠ j) (h : ltK (V K p i) (V K p j) = false) : ltK (V K p j) (V K p i) = true := by
  cases e : ltK (V K p j) (V K p i) with
  | true => rfl
  | false => exact absurd (g.inj hi hj (hK _ _ (g.lt hi) (g.lt hj) (ltK_total h e))) hne

def Asc (K : Nat → Key) (p : Array Nat) (m : Nat) : Prop := ∀ i j, i < j → j < m → ltK (V K p i) (V K p j) = true
def Dsc (K : Nat → Key) (p : Array Nat) (m : Nat) : Prop := ∀ i j, i < j → j < m → ltK (V K p j) (V K p i) = true
theorem Asc.succ {p : Array Nat} {m : Nat} (h : Asc K p m) (h1 : 1 ≤ m) (hl : ltK (V K p (m - 1)) (V K p m) = true) : Asc K p (m + 1) := fun i j hij hj => by
  rcases Nat.lt_or_ge j m with h2 | h2
  · exact h i j hij h2
  · have : j = m := by omega
    subst this
    rcases Nat.lt_or_ge i (j - 1) with h3 | h3
    · exact ltK_trans (h i (j - 1) h3 (by omega)) hl
    · have : i = j - 1 := by omega
      subst this; exact hl
theorem Dsc.succ {p : Array Nat} {m : Nat} (h : Dsc K p m) (h1 : 1 ≤ m) (hl : ltK (V K p m) (V K p (m - 1)) = true) : Dsc K p (m + 1) := fun i j hij hj => by
  rcases Nat.lt_or_ge j m with h2 | h2
  · exact h i j hij h2
  · have : j = m := by omega
    subst this
    rcases Nat.lt_or_ge i (j - 1) with h3 | h3
    · exact ltK_trans hl (h i (j - 1) h3 (by omega))
    · have : i = j - 1 := by omega
      subst this; exact hl
theorem Asc.one {p : Array Nat} : Asc K p 1 := fun i j h1 h2 => by omega
theorem Dsc.one {p : Array Nat} : Dsc K p 1 := fun i j h1 h2 => by omega

/-- what is asked is answered from the keys, and nothing changes -/
def Answers (n : Nat) (K : Nat → Key) (s : Shared) (cmp : Nat → Nat → (Bool → Shared → Prop) → Shared → Prop) : Prop := ∀ i j C, i < n → j < n → C (ltK (K i) (K j)) s → cmp i j C s

theorem asc_wp (hA : Answers n K s cmp) (hK : Inj n K) {p : Array Nat} (g : Good n p) {G : Nat → Shared → Prop} : ∀ f m, 1 ≤ m → m + f ≤ n → Asc K p m →
    (∀ m', m ≤ m' → m' ≤ m + f → Asc K p m' → (m' = m + f ∨ ltK (V K p m') (V K p (m' - 1)) = true) → G m' s) → (kas_asc p f m).kasWp cmp G s
  | 0, m, _, _, hs, k => k m (Nat.le_refl _) (Nat.le_refl _) hs (.inl rfl)
  | f + 1, m, h1, hf, hs, k => by
    show cmp (p.getD m 0) (p.getD (m - 1) 0) (fun c s' => (if c = true then KasT.ret m else kas_asc p f (m + 1)).kasWp cmp G s') s
    refine hA _ _ _ (g.lt (by omega)) (g.lt (by omega)) ?_
    cases hc : ltK (K (p.getD m 0)) (K (p.getD (m - 1) 0)) with
    | true =>
      rw [if_pos rfl]
      exact k m (Nat.le_refl _) (by omega) hs (.inr hc)
    | false =>
      rw [if_neg (by decide)]
      exact asc_wp hA hK g f (m + 1) (by omega) (by omega) (hs.succ h1 (g.tot hK (by omega) (by omega) (by omega) hc)) fun m' a b c d => k m' (by omega) (by omega) c (by rcases d with d | d; exact .inl (by omega); exact .inr d)

theorem desc_wp (hA : Answers n K s cmp) (hK : Inj n K) {p : Array Nat} (g : Good n p) {G : Array Nat × Nat × Nat → Shared → Prop} : ∀ f m, 2 ≤ m → m + f ≤ n → Dsc K p m →
    (∀ m', m ≤ m' → m' ≤ m + f → Dsc K p m' → G (p, m', 0) s) → (kas_desc f p m 0).kasWp cmp G s
  | 0, m, _, _, hs, k => k m (Nat.le_refl _) (Nat.le_refl _) hs
  | f + 1, m, h1, hf, hs, k => by
    show cmp (p.getD m 0) (p.getD (m - 1) 0) (fun c s' => (if c = true then (if 0 > 0 then kas_desc f (kas_rev p (m - (0 + 1)) m) (m + 1) 0 else kas_desc f p (m + 1) 0)
      else KasT.ask (p.getD (m - 1) 0) (p.getD m 0) fun d => if d = true then .ret (p, m, 0) else kas_desc f p (m + 1) (0 + 1)).kasWp cmp G s') s
    refine hA _ _ _ (g.lt (by omega)) (g.lt (by omega)) ?_
    cases hc : ltK (K (p.getD m 0)) (K (p.getD (m - 1) 0)) with
    | true =>
      rw [if_pos rfl, if_neg (by omega)]
      exact desc_wp hA hK g f (m + 1) (by omega) (by omega) (hs.succ (by omega) hc) fun m' a b c => k m' (by omega) (by omega) c
    | false =>
      rw [if_neg (by decide)]
      show cmp (p.getD (m - 1) 0) (p.getD m 0) (fun d s' => (if d = true then KasT.ret (p, m, 0) else kas_desc f p (m + 1) (0 + 1)).kasWp cmp G s') s
      refine hA _ _ _ (g.lt (by omega)) (g.lt (by omega)) ?_
      have hd : ltK (K (p.getD (m - 1) 0)) (K (p.getD m 0)) = true := g.tot hK (i := m) (j := m - 1) (by omega) (by omega) (by omega) hc
      rw [hd, if_pos rfl]
      exact k m (Nat.le_refl _) (by omega) hs

theorem getD_of {p q : Array Nat} {i j : Nat} (h : p[i]? = q[j]?) : p.getD i 0 = q.getD j 0 := by
  rw [Array.getD_eq_getD_getElem?, Array.getD_eq_getD_getElem?, h]
theorem Good.rev {p : Array Nat} (g : Good n p) (i j : Nat) : Good n (kas_rev p i j) := (mirror_perm _ _ _ _).trans g
theorem Dsc.rev {p : Array Nat} {m : Nat} (g : Good n p) (hm : m ≤ n) (h : Dsc K p m) : Asc K (kas_rev p 0 m) m := fun i j hij hj => by
  have e : ∀ k, k < m → V K (kas_rev p 0 m) k = V K p (m - 1 - k) := fun k hk => by
    unfold V
    congr 1
    refine getD_of ?_
    unfold kas_rev
    rw [getElem?_mirror_all (by rw [g.size]; exact hm), if_pos (by omega)]
    congr 1
    omega
  rw [e i (by omega), e j hj]
  exact h _ _ (by omega) (by omega)

theorem tail3_wp (hA : Answers n K s cmp) (hK : Inj n K) {p : Array Nat} (g : Good n p) {G : Nat × Array Nat → Shared → Prop} {m : Nat} (h1 : 1 ≤ m) (hm : m ≤ n) (hd : Dsc K p m)
    (k : ∀ m' p', 1 ≤ m' → m' ≤ n → Good n p' → Asc K p' m' → G (m', p') s) : (kas_tail3 m n p).kasWp cmp G s := by
  unfold kas_tail3
  rw [KasT.kasWp_bind]
  exact asc_wp hA hK (g.rev 0 m) (n - m) m h1 (by omega) (hd.rev g hm) fun m' a b c _ => k m' _ (by omega) (by omega) (g.rev 0 m) c

theorem count_wp (hA : Answers n K s cmp) (hK : Inj n K) {p : Array Nat} (g : Good n p) (hn : 1 ≤ n) {G : Nat × Array Nat → Shared → Prop}
    (k : ∀ m' p', 1 ≤ m' → m' ≤ n → Good n p' → Asc K p' m' → G (m', p') s) : (kas_count n p).kasWp cmp G s := by
  unfold kas_count
  rw [KasT.kasWp_bind]
  refine asc_wp hA hK g (n - 1) 1 (Nat.le_refl _) (by omega) Asc.one fun m a b c d => ?_
  by_cases e1 : (m == n) = true
  · rw [if_pos e1]
    exact k m p a (by omega) g c
  · rw [if_neg e1]
    have hne : m ≠ n := fun q => e1 (by rw [q]; exact beq_self_eq_true _)
    have hlt : ltK (V K p m) (V K p (m - 1)) = true := by rcases d with d | d; omega; exact d
    by_cases e2 : m > 1
    · rw [if_pos e2]
      show cmp (p.getD 0 0) (p.getD (m - 1) 0) (fun c s' => (if c = true then KasT.ret (m, p) else kas_descPart m n (kas_rev p 0 m)).kasWp cmp G s') s
      refine hA _ _ _ (g.lt (by omega)) (g.lt (by omega)) ?_
      rw [show ltK (K (p.getD 0 0)) (K (p.getD (m - 1) 0)) = true from c 0 (m - 1) (by omega) (by omega), if_pos rfl]
      exact k m p a (by omega) g c
    · rw [if_neg e2]
      have hm1 : m = 1 := by omega
      subst hm1
      unfold kas_descPart
      rw [KasT.kasWp_bind]
      refine desc_wp hA hK g (n - (1 + 1)) (1 + 1) (by omega) (by omega) (Dsc.one.succ (Nat.le_refl _) hlt) fun m' a' b' c' => ?_
      show (if 0 > 0 then kas_tail3 m' n (kas_rev p (m' - (0 + 1)) m') else kas_tail3 m' n p).kasWp cmp G s
      rw [if_neg (by omega)]
      exact tail3_wp hA hK g (by omega) (by omega) c' k

theorem place_wp (hA : Answers n K s cmp) (hK : Inj n K) {p : Array Nat} (g : Good n p) {kk : Nat} (hkk : kk < n) {G : Nat → Shared → Prop} : ∀ f l r, r - l ≤ f → l ≤ r → r ≤ kk →
    (∀ i, i < l → ltK (V K p i) (V K p kk) = true) → (∀ i, r ≤ i → i < kk → ltK (V K p kk) (V K p i) = true) →
    Asc K p kk →
    (∀ l', l' ≤ kk → (∀ i, i < l' → ltK (V K p i) (V K p kk) = true) → (∀ i, l' ≤ i → i < kk → ltK (V K p kk) (V K p i) = true) → G l' s) → (kas_place p kk f l r).kasWp cmp G s
  | 0, l, r, hf, hlr, hr, h1, h2, hs, k => k l (by omega) h1 fun i hi hk => h2 i (by omega) hk
  | f + 1, l, r, hf, hlr, hr, h1, h2, hs, k => by
    unfold kas_place
    by_cases hge : l ≥ r
    · rw [if_pos hge]
      exact k l (by omega) h1 fun i hi hk => h2 i (by omega) hk
    · rw [if_neg hge]
      show cmp (p.getD kk 0) (p.getD ((l + r) / 2) 0) (fun c s' => (if c = true then kas_place p kk f l ((l + r) / 2) else kas_place p kk f ((l + r) / 2 + 1) r).kasWp cmp G s') s
      refine hA _ _ _ (g.lt (by omega)) (g.lt (by omega)) ?_
      cases hc : ltK (K (p.getD kk 0)) (K (p.getD ((l + r) / 2) 0)) with
      | true =>
        rw [if_pos rfl]
        refine place_wp hA hK g hkk f l ((l + r) / 2) (by omega) (by omega) (by omega) h1 (fun i hi hk => ?_) hs k
        rcases Nat.lt_or_ge ((l + r) / 2) i with h | h
        · exact ltK_trans hc (hs _ _ h hk)
        · have : i = (l + r) / 2 := by omega
          subst this; exact hc
      | false =>
        rw [if_neg (by decide)]
        have hc' : ltK (V K p ((l + r) / 2)) (V K p kk) = true := g.tot hK (by omega) (by omega) (by omega) hc
        refine place_wp hA hK g hkk f ((l + r) / 2 + 1) r (by omega) (by omega) hr (fun i hi => ?_) h2 hs k
        rcases Nat.lt_or_ge i ((l + r) / 2) with h | h
        · exact ltK_trans (hs _ _ h (by omega)) hc'
        · have : i = (l + r) / 2 := by omega
          subst this; exact hc'

theorem Good.bub {p : Array Nat} (g : Good n p) (i d : Nat) : Good n (bubble p i d) := (bubble_perm _ _ _).trans g
theorem Asc.bub {p : Array Nat} {kk l : Nat} (g : Good n p) (hkk : kk < n) (hl : l ≤ kk) (h : Asc K p kk) (h1 : ∀ i, i < l → ltK (V K p i) (V K p kk) = true) (h2 : ∀ i, l ≤ i → i < kk → ltK (V K p kk) (V K p i) = true) :
    Asc K (bubble p kk (kk - l)) (kk + 1) := by
  have e : ∀ k, k ≤ kk → V K (bubble p kk (kk - l)) k = if k = l then V K p kk else if l < k then V K p (k - 1) else V K p k := fun k hk => by
    have hb := getElem?_bubble (xs := p) (by rw [g.size]; exact hkk) (kk - l) (by omega) k
    rw [show kk - (kk - l) = l by omega] at hb
    by_cases c1 : k = l
    · rw [if_pos c1] at hb ⊢
      unfold V; rw [getD_of hb]
    · rw [if_neg c1] at hb ⊢
      by_cases c2 : l < k
      · rw [if_pos ⟨c2, hk⟩] at hb
        rw [if_pos c2]
        unfold V; rw [getD_of hb]
      · rw [if_neg (fun q => c2 q.1)] at hb
        rw [if_neg c2]
        unfold V; rw [getD_of hb]
  intro i j hij hj
  rw [e i (by omega), e j (by omega)]
  by_cases i1 : i = l
  · rw [if_pos i1, if_neg (by omega), if_pos (by omega)]
    exact h2 _ (by omega) (by omega)
  · rw [if_neg i1]
    by_cases j1 : j = l
    · rw [if_pos j1, if_neg (by omega)]
      exact h1 _ (by omega)
    · rw [if_neg j1]
      by_cases i2 : l < i
      · rw [if_pos i2, if_pos (by omega)]
        exact h _ _ (by omega) (by omega)
      · rw [if_neg i2]
        by_cases j2 : l < j
        · rw [if_pos j2]
          exact h _ _ (by omega) (by omega)
        · rw [if_neg j2]
          exact h _ _ (by omega) (by omega)

theorem bin_wp (hA : Answers n K s cmp) (hK : Inj n K) {G : Array Nat → Shared → Prop} : ∀ f p kk, Good n p → 1 ≤ kk → kk + f = n → Asc K p kk →
    (∀ p', Good n p' → Asc K p' n → G p' s) → (kas_bin f p kk).kasWp cmp G s
  | 0, p, kk, g, _, e, hs, k => by
    have : kk = n := by omega
    subst this
    exact k p g hs
  | f + 1, p, kk, g, h1, e, hs, k => by
    unfold kas_bin
    rw [KasT.kasWp_bind]
    refine place_wp hA hK g (by omega) kk 0 kk (by omega) (Nat.zero_le _) (Nat.le_refl _) (fun i hi => by omega) (fun i a b => by omega) hs fun l hl a b => ?_
    exact bin_wp hA hK f _ (kk + 1) (g.bub kk (kk - l)) (by omega) (by omega) (hs.bub g (by omega) hl a b) k

theorem sort_wp (hA : Answers n K s cmp) (hK : Inj n K) (hn : 1 ≤ n) {G : Array Nat → Shared → Prop} (k : ∀ p, Good n p → Asc K p n → G p s) : (kas_sort n).kasWp cmp G s := by
  unfold kas_sort
  rw [KasT.kasWp_bind]
  refine count_wp hA hK (Array.Perm.refl _) hn fun m p a b g c => ?_
  by_cases hlt : m < n
  · show (if m < n then kas_bin (n - max m 1) p (max m 1) else .ret p).kasWp cmp G s
    rw [if_pos hlt, Nat.max_eq_left a]
    exact bin_wp hA hK (n - m) p m g a (by omega) c k
  · show (if m < n then kas_bin (n - max m 1) p (max m 1) else .ret p).kasWp cmp G s
    rw [if_neg hlt]
    have : m = n := by omega
    subst this
    exact k p g c
end
end Mine

/-! part G8 -/
namespace Mine
local macro_rules | `(tactic| walk_at "lk") => `(tactic| first | exact up_same | assumption | (refine up_ne (by decide) ?_; walk_at "lk") | rfl)

def noEl : El := (Value.none, (0, Str.empty))
def keyAt (es : List El) (i : Nat) : Key := (es.getD i noEl).2
theorem vals_getD (es : List El) (i : Nat) : (vals es).getD i Value.none = (es.getD i noEl).1 := by
  rw [List.getD_eq_getElem?_getD, List.getD_eq_getElem?_getD, List.getElem?_map]
  cases es[i]? <;> rfl
theorem getD_mem {es : List El} {i : Nat} (h : i < es.length) : es.getD i noEl ∈ es := by
  rw [List.getD_eq_getElem?_getD, List.getElem?_eq_getElem h]
  exact List.getElem_mem h
theorem keyAt_inj {es : List El} (h : (es.map (·.2)).Nodup) : Inj es.length (keyAt es) := fun i j hi hj e => by
  have hi' : i < (es.map (·.2)).length := by simpa using hi
  have hj' : j < (es.map (·.2)).length := by simpa using hj
  refine (List.getElem_inj (h₀ := hi') (h₁ := hj') h).mp ?_
  unfold keyAt at e
  rw [List.getD_eq_getElem?_getD, List.getD_eq_getElem?_getD, List.getElem?_eq_getElem hi, List.getElem?_eq_getElem hj] at e
  simpa using e

/-- all that stands but the frame's map -/
def allBut (L : Addr) (h : Heap) : List (Addr × Obj) := (List.range h.objs.size).filterMap fun a => if a = L then none else (h.get? a).map fun o => (a, o)
theorem mem_allBut {L : Addr} {h : Heap} {a : Addr} {o : Obj} : (a, o) ∈ allBut L h ↔ h.get? a = some o ∧ a ≠ L := by
  unfold allBut
  rw [List.mem_filterMap]
  constructor
  · rintro ⟨b, _, hb⟩
    by_cases e : b = L
    · rw [if_pos e] at hb; cases hb
    · rw [if_neg e] at hb
      cases hg : h.get? b with
      | none => rw [hg] at hb; cases hb
      | some o' => rw [hg] at hb; cases hb; exact ⟨hg, e⟩
  · rintro ⟨ha, hL⟩
    refine ⟨a, List.mem_range.mpr (Heap.lt_size ha), ?_⟩
    rw [if_neg hL, ha]; rfl
theorem empty_get (a : Addr) : (({} : Heap).get? a) = none := by
  cases e : ({} : Heap).get? a with
  | none => rfl
  | some o => exact absurd (Heap.lt_size e) (Nat.not_lt_zero _)

section
variable {prog : Program} {w : World} {A : Around} {E : Value → Shared → Prop} {s : Shared} {R : Result → Shared → Prop}

theorem sort_ask {es : List El} (hT : ∀ e ∈ es, TupIs s.heap e.1 e.2) : Answers es.length (keyAt es) s (kas_ask prog w A (tuples' true) (vals es)) := by
  intro i j C hi hj hC
  unfold kas_ask
  rw [vals_getD, vals_getD]
  have h1 := hT _ (getD_mem hi)
  have h2 := hT _ (getD_mem hj)
  unfold keyAt at hC
  generalize es.getD i noEl = x at h1 hC
  generalize es.getD j noEl = y at h2 hC
  obtain ⟨x, k⟩ := x
  obtain ⟨y, l⟩ := y
  obtain ⟨a, t, u, e1, oa, hoa, hca, na, hda⟩ := h1
  obtain ⟨b, t', u', e2, ob, hob, hcb, nb, hdb⟩ := h2
  dsimp only at e1 e2 hC hda hdb ⊢
  subst e1 e2
  refine kat_lt hoa hda hob hdb (kat_cons (wpAny_eqBool_int ?_))
  by_cases h1 : k.1 = l.1
  · have e1 : (k.1 == l.1) = true := by simpa using h1
    rw [e1]
    refine kat_yes (kat_cons (eqBool_str ?_))
    by_cases h2 : k.2 = l.2
    · have e2 : (k.2 == l.2) = true := by simpa using h2
      rw [e2]
      refine kat_yes (kat_nil ?_)
      have : ltK k l = false := by unfold ltK; rw [if_pos h1, h2]; simp
      rw [this] at hC
      exact hC
    · have e2 : (k.2 == l.2) = false := by simpa using h2
      rw [e2]
      refine kat_no (kat_one _ _ (lt_str ?_))
      have : ltK k l = decide (k.2.cps.toList < l.2.cps.toList) := by unfold ltK; rw [if_pos h1]
      rw [this] at hC
      exact hC
  · have e1 : (k.1 == l.1) = false := by simpa using h1
    rw [e1]
    refine kat_no (oneLt_int ?_)
    have : ltK k l = decide (k.1 < l.1) := by unfold ltK; rw [if_neg h1]
    rw [this] at hC
    exact hC

theorem sort_tups {h : Heap} : ∀ {es : List El}, (∀ e ∈ es, TupIs h e.1 e.2) → ∃ fs, KatTups h (vals es) fs ∧ fs.length = es.length ∧ ∀ f ∈ fs, ∃ n t, f = Value.int n t
  | [], _ => ⟨[], KatTups.nil, rfl, fun _ h => nomatch h⟩
  | (v, kk) :: es, hT => by
    obtain ⟨fs, h1, h2, h3⟩ := sort_tups (es := es) fun e he => hT e (.tail _ he)
    obtain ⟨a, t, u, e1, oa, hoa, hca, na, hda⟩ := hT _ (.head _)
    dsimp only at e1 hda
    subst e1
    refine ⟨.int kk.1 t :: fs, KatTups.cons hoa hca hda rfl h1, by simp [h2], fun f hf => ?_⟩
    rcases List.mem_cons.mp hf with rfl | hf
    · exact ⟨_, _, rfl⟩
    · exact h3 f hf

theorem sortedF {g h : Heap} {tk : Nat} {L l : Addr} {m : Str → Option Value} {os : List (Addr × Obj)} {es : List El} {c : Nat} {Q : Value → Shared → Prop} (F : Fm g L h m) (N : News g L h os) (hl : h.get? l = some (listOf (vals es).toArray c)) (hT : ∀ e ∈ es, TupIs g e.1 e.2)
    (h2 : 2 ≤ es.length) (h64 : es.length < 64) (hnd : (es.map (·.2)).Nodup)
    (k : ∀ D h' es' c', Fm g L h' m → News g L h' ((D, listOf (vals es').toArray c') :: os) → es'.Perm es → es'.Pairwise (fun a b => ltK a.2 b.2 = true) → Q (.ref D) (Sx s h' tk)) :
    wpAny (model prog w) A (call (.builtin "sorted") [.ref l]) Q E (Sx s h tk) := by
  have F0 : Fr {} L (Sx s h tk).heap m := ⟨F.ns, (fun b o e => by rw [empty_get] at e; cases e), Nat.zero_le _⟩
  have N0 : News {} L (Sx s h tk).heap (allBut L h) := fun p hp => by
    obtain ⟨a, o⟩ := p
    obtain ⟨e1, e2⟩ := mem_allBut.mp hp
    exact ⟨e1, e2, empty_get _⟩
  have hvl : (vals es).length = es.length := by simp [vals]
  have up : ∀ h' : Heap, News {} L h' (allBut L h) → ∀ b o, h.get? b = some o → b ≠ L → h'.get? b = some o := fun h' N' b o e hb => (N' (b, o) (mem_allBut.mpr ⟨e, hb⟩)).1
  have upg : ∀ h' : Heap, News {} L h' (allBut L h) → ∀ b o, g.get? b = some o → h'.get? b = some o := fun h' N' b o e => up h' N' b o (F.keep _ _ e) (by rintro rfl; rw [F.gL] at e; cases e)
  refine kat_sorted F0 N0 (PySem.IsL.isList (n := c) hl) (by rw [hvl]; exact h2) (by rw [hvl]; exact h64) fun D e1 h' F' N' hD => ?_
  have N1 : News {} L h' (allBut L h) := fun p hp => N' p (.tail _ hp)
  have hT' : ∀ e ∈ es, TupIs h' e.1 e.2 := fun e he => (hT e he).keeps (upg h' N1)
  obtain ⟨fs, t1, t2, t3⟩ := sort_tups hT'
  refine kat_kind (s := Sx s h' tk) (T := .type "int") t1 (by omega) (fun v hv => ?_) rfl ?_
  · obtain ⟨n, t, rfl⟩ := t3 v hv
    exact Looks.of_pure rfl
  rw [hvl]
  refine sort_wp (K := keyAt es) (sort_ask (s := Sx s h' tk) hT') (keyAt_inj hnd) (by omega) fun p gp ap => ?_
  refine KasFin.intro (s := Sx s h' tk) F' N' (.head fun q hq => Nat.ne_of_lt (hD q hq)) fun h'' c'' F'' N'' => ?_
  have N2 : News {} L h'' (allBut L h) := fun p hp => N'' p (.tail _ hp)
  have zD := N'' _ (.head _)
  have ev : (p.toList.map fun i => (vals es).getD i Value.none) = vals (p.toList.map fun i => es.getD i noEl) := by
    unfold vals
    rw [List.map_map]
    exact List.map_congr_left fun i _ => vals_getD es i
  rw [ev] at zD
  have F2 : Fm g L h'' m := ⟨F''.ns, upg h'' N2, F.gL⟩
  have hDnone : h.get? D = none := by
    cases e : h.get? D with
    | none => rfl
    | some o => exact absurd (hD (D, o) (mem_allBut.mpr ⟨e, (N' _ (.head _)).2.1⟩)) (Nat.lt_irrefl _)
  refine k D h'' (p.toList.map fun i => es.getD i noEl) c'' F2 (fun q hq => ?_) ?_ ?_
  · rcases List.mem_cons.mp hq with rfl | hq
    · refine ⟨zD.1, zD.2.1, ?_⟩
      cases e : g.get? D with
      | none => rfl
      | some o => rw [F.keep _ _ e] at hDnone; cases hDnone
    · exact ⟨up h'' N2 _ _ (N q hq).1 (N q hq).2.1, (N q hq).2⟩
  · have hp : (p.toList.map fun i => es.getD i noEl).Perm ((List.range es.length).map fun i => es.getD i noEl) := (by simpa using gp.toList : p.toList.Perm (List.range es.length)).map _
    have e : (List.range es.length).map (fun i => es.getD i noEl) = es := by
      refine List.ext_getElem (by simp) fun i h1 h2 => ?_
      simp [List.getD_eq_getElem?_getD, h2]
    rw [e] at hp
    exact hp
  · rw [List.pairwise_map, List.pairwise_iff_getElem]
    intro i j hi hj hij
    have hs : p.size = es.length := gp.size
    have hi' : i < p.size := by simpa using hi
    have hj' : j < p.size := by simpa using hj
    have := ap i j hij (by omega)
    unfold V keyAt at this
    simpa [Array.getD, hi', hj'] using this
end
end Mine

/-! part P4 -/
namespace Mine

theorem Reach.ok {nms : List (Str × Int)} {seeds : List Str} {i : Nat} (hN : NmsOk nms) (hS : SeedsOk seeds i) {x : Str} (h : Reach nms seeds x) : PyData.strOk x = true := by
  induction h with
  | seed h => exact (hS.each _ h).2
  | kid _ hn ih => exact fmt_strOk (hN.each _ hn).2.2 ih

theorem nodup_len {α : Type} [DecidableEq α] : ∀ {l u : List α}, l.Nodup → (∀ x ∈ l, x ∈ u) → l.length ≤ u.length
  | [], _, _, _ => Nat.zero_le _
  | a :: l, u, hn, hs => by
    have hn' := List.nodup_cons.mp hn
    have ha := hs a (.head _)
    have ih := nodup_len (u := u.erase a) hn'.2 fun x hx => (List.mem_erase_of_ne (by rintro rfl; exact hn'.1 hx)).mpr (hs x (.tail _ hx))
    rw [List.length_erase_of_mem ha] at ih
    have : 0 < u.length := List.length_pos_of_mem ha
    rw [List.length_cons]
    omega

/-- what is found is reached, small, and found once -/
structure FOk (nms : List (Str × Int)) (seeds : List Str) (bound : Nat) (F : List Str) : Prop where
  nodup : F.Nodup
  each : ∀ x ∈ F, Reach nms seeds x ∧ x.length ≤ bound
theorem FOk.add {nms : List (Str × Int)} {seeds : List Str} {bound : Nat} {F : List Str} (h : FOk nms seeds bound F) {x : Str} (hr : Reach nms seeds x) (hl : x.length ≤ bound) (hx : x ∉ F) : FOk nms seeds bound (F ++ [x]) where
  nodup := by
    rw [List.nodup_append]
    exact ⟨h.nodup, by simp, fun a ha b hb => by cases List.mem_singleton.mp hb; rintro rfl; exact hx ha⟩
  each := fun y hy => by
    rcases List.mem_append.mp hy with hy | hy
    · exact h.each y hy
    · cases List.mem_singleton.mp hy; exact ⟨hr, hl⟩

/-- the tenth text -/
structure Bound (T : List Str) (bound : Nat) : Prop where
  ten : T.length = 10
  last : ∃ T' t, T = T' ++ [t] ∧ t.length = bound

theorem Bound.le {nms : List (Str × Int)} {seeds T H : List Str} {bound : Nat} (V : TInv nms seeds T H) (b : Bound T bound) {t : Str} (ht : t ∈ T) : t.length ≤ bound := by
  obtain ⟨T', l, rfl, rfl⟩ := b.last
  rcases List.mem_append.mp ht with h | h
  · exact len_of_le (leK_of_lt ((List.pairwise_append.mp V.sorted).2.2 t h l (by simp)))
  · cases List.mem_singleton.mp h; exact Nat.le_refl _
theorem Bound.inT {nms : List (Str × Int)} {seeds T H : List Str} {bound : Nat} (hN : NmsOk nms) (V : TInv nms seeds T H) (b : Bound T bound) {x : Str} (hx : Reach nms seeds x) (hl : x.length < bound) : x ∈ T := by
  rcases V.above hN hx with h | h
  · exact h
  · obtain ⟨T', l, rfl, rfl⟩ := b.last
    have := len_of_le (h l (by simp))
    omega

theorem FOk.size {nms : List (Str × Int)} {seeds T H : List Str} {bound : Nat} (hN : NmsOk nms) (hS : SeedsOk seeds 7) (V : TInv nms seeds T H) (b : Bound T bound) {F : List Str} (h : FOk nms seeds bound F) : F.length ≤ 28 := by
  have : F.length ≤ (seeds ++ T.flatMap fun t => kids nms t).length := nodup_len h.nodup fun x hx => by
    obtain ⟨hr, hl⟩ := h.each x hx
    cases hr with
    | seed hs => exact List.mem_append.mpr (.inl hs)
    | @kid y nm hy hn =>
      have hlt := (kid_len hN hn y).1
      exact List.mem_append.mpr (.inr (List.mem_flatMap.mpr ⟨y, b.inT hN V hy (by omega), List.mem_map_of_mem hn⟩))
  have e : (T.flatMap fun t => kids nms t).length = 20 := by
    have : ∀ l : List Str, (l.flatMap fun t => kids nms t).length = 2 * l.length := fun l => by
      induction l with
      | nil => rfl
      | cons a l ih => rw [List.flatMap_cons, List.length_append, ih, kids, List.length_map, hN.two, List.length_cons]; omega
    rw [this, b.ten]
  rw [List.length_append, e] at this
  have := hS.len
  omega

/-- closed: nothing small is left out -/
theorem closed_all {nms : List (Str × Int)} {seeds F : List Str} {bound : Nat} (hN : NmsOk nms) (h1 : ∀ x ∈ seeds, x.length ≤ bound → x ∈ F) (h2 : ∀ f ∈ F, ∀ nm ∈ nms, (kid nm f).length ≤ bound → kid nm f ∈ F) {x : Str} (hx : Reach nms seeds x) : x.length ≤ bound → x ∈ F := by
  induction hx with
  | seed h => exact h1 _ h
  | @kid y nm _ hn ih =>
    intro hl
    have := (kid_len hN hn y).1
    exact h2 _ (ih (by omega)) _ hn hl

theorem take_sorted : ∀ {T S : List Str}, T.Pairwise (fun a b => ltK (key a) (key b) = true) → S.Pairwise (fun a b => ltK (key a) (key b) = true) → (∀ t ∈ T, t ∈ S) → (∀ x ∈ S, x ∉ T → ∀ t ∈ T, ltK (key t) (key x) = true) → S.take T.length = T
  | [], S, _, _, _, _ => rfl
  | t :: T, [], _, _, h, _ => absurd (h t (.head _)) (fun q => nomatch q)
  | t :: T, x :: S, hT, hS, hin, hout => by
    have hT' := List.pairwise_cons.mp hT
    have hS' := List.pairwise_cons.mp hS
    have nolt : ∀ {a b : Str}, ltK (key a) (key b) = true → ltK (key b) (key a) = true → False := fun h1 h2 => by
      have := ltK_trans h1 h2
      rw [ltK_irrefl] at this; cases this
    have e : x = t := by
      rcases List.mem_cons.mp (hin t (.head _)) with h | h
      · exact h.symm
      · have hxt := hS'.1 t h
        by_cases hx : x ∈ t :: T
        · rcases List.mem_cons.mp hx with h' | h'
          · exact h'
          · exact (nolt hxt (hT'.1 x h')).elim
        · exact (nolt hxt (hout x (.head _) hx t (.head _))).elim
    subst e
    rw [List.length_cons, List.take_succ_cons]
    congr 1
    refine take_sorted hT'.2 hS'.2 (fun a ha => ?_) fun y hy hyT a ha => ?_
    · rcases List.mem_cons.mp (hin a (.tail _ ha)) with h | h
      · subst h
        have := hT'.1 a ha
        rw [ltK_irrefl] at this; cases this
      · exact h
    · refine hout y (.tail _ hy) (fun q => ?_) a (.tail _ ha)
      rcases List.mem_cons.mp q with q | q
      · subst q
        have := hS'.1 y hy
        rw [ltK_irrefl] at this; cases this
      · exact hyT q

theorem first_ten_is {nms : List (Str × Int)} {seeds T H F S : List Str} {bound : Nat} (hN : NmsOk nms) (V : TInv nms seeds T H) (b : Bound T bound) (hF : FOk nms seeds bound F)
    (h1 : ∀ x ∈ seeds, x.length ≤ bound → x ∈ F) (h2 : ∀ f ∈ F, ∀ nm ∈ nms, (kid nm f).length ≤ bound → kid nm f ∈ F) (hp : S.Perm F) (hS : S.Pairwise (fun a b => ltK (key a) (key b) = true)) : S.take 10 = T := by
  rw [← b.ten]
  refine take_sorted V.sorted hS (fun t ht => hp.mem_iff.mpr (closed_all hN h1 h2 (V.reachT t ht) (b.le V ht))) fun x hx hxT t ht => ?_
  rcases V.above hN (hF.each x (hp.mem_iff.mp hx)).1 with h | h
  · exact absurd h hxT
  · rcases leK_cases (h t ht) with h' | h'
    · exact h'
    · exact absurd (key_inj h' ▸ ht) hxT
end Mine

/-! part G9 -/
namespace Mine
local macro_rules | `(tactic| walk_at "lk") => `(tactic| first | exact up_same | assumption | (refine up_ne (by decide) ?_; walk_at "lk") | rfl)

def tenIf1 : Stmt := match (bodyAt 15).getD 1 default with | .For _ _ b _ _ => b.getD 0 default | _ => default
def tenWhile : List Stmt := match (bodyAt 15).getD 3 default with | .While _ b _ _ => b | _ => []
def tenIf2 : Stmt := match tenWhile.getD 0 default with | .For _ _ b _ _ => b.getD 1 default | _ => default

section
variable {prog : Program} {w : World} {A : Around} {E : Value → Shared → Prop} {s : Shared} {R : Result → Shared → Prop}

set_option maxHeartbeats 1000000 in
theorem try_add {mg mb : Str → Option Value} {g h : Heap} {tk : Nat} {L f : Addr} {cd : Value} {st : Stmt} {v : Str} (hst : (st = tenIf1 ∧ v = "seed") ∨ (st = tenIf2 ∧ v = "text")) (hu : A.units + 64 < cLine) (B : Base mg mb g) {m : Str → Option Value} {it FL : Addr} {oi : Obj} {c bound : Nat} {fs : List El} {Fo : List Str} {x : Str} {tx tb : Tok}
    (F : Fm g L h m) (N : News g L h [(it, oi), (FL, listOf (vals fs).toArray c)]) (hne : it ≠ FL) (m1 : m v = some (.str x tx)) (m2 : m "bound" = some (.int bound tb)) (m3 : m "found" = some (.ref FL))
    (hE : Els g fs Fo) (hFo : ∀ y ∈ Fo, PyData.strOk y = true) (hl : Fo.length ≤ 1000) (hx : x.length ≤ 100000) (hxo : PyData.strOk x = true) {Q : Flow → Shared → Prop}
    (k : ∀ g' h' tk' fs' Fo' c', Keeps g g' → Fm g' L h' m → News g' L h' [(it, oi), (FL, listOf (vals fs').toArray c')] → Els g' fs' Fo' → ((Fo' = Fo ∧ (bound < x.length ∨ x ∈ Fo)) ∨ (Fo' = Fo ++ [x] ∧ x.length ≤ bound ∧ x ∉ Fo)) → Q .next (Sx s h' tk')) :
    wpAny (model prog w) A (exec st (envOf (nameAt 15) (scopeAt 15) L f cd)) Q NoE (Sx s h tk) := by
  have Bh := B.keeps F.keep
  have hel := hE.len
  rcases hst with ⟨rfl, rfl⟩ | ⟨rfl, rfl⟩ <;>
  · refine wpAny_If (isTrue_and (wpAny_isTrue_Compare1 (callB1 (blF Bh.g B.len.1 Bh.b B.len.2 ⟨rfl, ldF F m1 (lenS (by omega) fun t1 tk1 => ldF F m2 (le_int (wpAny_truthy_bool ?_)))⟩))))
    by_cases hb : x.length ≤ bound
    · rw [decide_eq_true (by omega)]
      simp only [if_true]
      refine isTrue_and (wpAny_isTrue_Compare1 (tuple2 (callB1 (blF Bh.g B.len.1 Bh.b B.len.2 ⟨rfl, ldF F m1 (lenS (by omega) fun t2 tk2 => ldF F m1 (newTupleF F N (by simp [sizeLine]) fun T6 h6 F6 N6 d6 _ k6 => ldF F6 m3 ?_))⟩))))
      have hT6 : TupIs h6 (.ref T6) (key x) := ⟨T6, t2, tx, rfl, _, (N6 _ (.head _)).1, rfl, _, rfl⟩
      refine SeqAt.notIn_list_reads (s := Sx s h6 tk2) (reads_list_at (N6 _ (.tail _ (.tail _ (.head _)))).1 rfl rfl (reads_els fun e he => (hE.tup e he).keeps F6.keep)) hT6.reads (lay_dats (hE.strOk hFo)) (lay_dat (k := key x) hxo) ?_ (wpAny_truthy_bool ?_)
      · rw [depth_dat]
        have := Nat.min_le_right (PyData.depthAll ((fs.map (·.2)).map dat)) 1
        omega
      rw [any_dat]
      have N7 := newsSub N6 (os' := [(it, oi), (FL, listOf (vals fs).toArray c)]) fun p hp => .tail _ hp
      by_cases hin : x ∈ Fo
      · rw [decide_eq_true ((hE.mem x).mpr hin)]
        simp only [Bool.not_true, Bool.false_eq_true, if_false]
        exact wpAny_execs_nil (k g h6 tk2 fs Fo c (Keeps.refl _) F6 N7 hE (.inl ⟨rfl, .inr hin⟩))
      · rw [decide_eq_false (fun q => hin ((hE.mem x).mp q))]
        simp only [Bool.not_false, if_true]
        refine isTrue_and_nil ?_
        simp only [if_true]
        have B6 := B.keeps F6.keep
        refine wpAny_execs_cons (wpAny_Expr (appendC F6 m3 (N7 _ (.tail _ (.head _))).1 (tuple2 (callB1 (blF B6.g B.len.1 B6.b B.len.2 ⟨rfl, ldF F6 m1 (lenS (by omega) fun t3 tk3 => ldF F6 m1 (newTupleF F6 N7 (by simp [sizeLine]) fun T8 h8 F8 N8 d8 _ k8 => ?_))⟩)))))
        refine appendF F8 N8 (.tail (Ne.symm (d8 _ (.tail _ (.head _)))) (.tail hne (.head fun _ h => nomatch h))) (by simp [vals, sizeLine]; omega) fun h9 F9 N9 => ?_
        have N9' : News g L h9 [(it, oi), (FL, listOf (vals (fs ++ [(Value.ref T8, key x)])).toArray (c + 1))] := newsSub N9 fun p hp => by
          rcases List.mem_cons.mp hp with rfl | hp
          · exact .tail _ (.head _)
          · cases List.mem_singleton.mp hp
            rw [show vals (fs ++ [(Value.ref T8, key x)]) = vals fs ++ [Value.ref T8] by simp [vals]]
            exact .tail _ (.tail _ (.head _))
        obtain ⟨g10, F10, N10, k10, i10⟩ := rebase F9 N9'
        have hE10 : Els g10 (fs ++ [(Value.ref T8, key x)]) (Fo ++ [x]) := by
          refine ⟨fun e he => ?_, by rw [List.map_append, hE.keys]; simp⟩
          rcases List.mem_append.mp he with he | he
          · exact (hE.tup e he).keeps k10
          · cases List.mem_singleton.mp he
            refine ⟨T8, t3, tx, rfl, _, i10 T8 _ (N9 _ (.head _)).1 (N9 _ (.head _)).2.1 fun p hp => ?_, rfl, _, rfl⟩
            rcases List.mem_cons.mp hp with rfl | hp
            · exact d8 _ (.head _)
            · cases List.mem_singleton.mp hp
              exact d8 (FL, listOf (vals fs).toArray c) (.tail _ (.head _))
        exact wpAny_execs_nil (k g10 h9 tk3 _ _ _ k10 F10 N10 hE10 (.inr ⟨rfl, hb, hin⟩))
    · rw [decide_eq_false (by omega)]
      simp only [Bool.false_eq_true, if_false]
      exact wpAny_execs_nil (k g h tk1 fs Fo c (Keeps.refl _) F N hE (.inl ⟨rfl, .inl (by omega)⟩))
end
end Mine

/-! part G10 -/
namespace Mine
local macro_rules | `(tactic| walk_at "lk") => `(tactic| first | exact up_same | assumption | (refine up_ne (by decide) ?_; walk_at "lk") | rfl)

theorem Bound.small {nms : List (Str × Int)} {seeds T H : List Str} {bound : Nat} (V : TInv nms seeds T H) (b : Bound T bound) : bound ≤ 20000 := by
  obtain ⟨T', t, e, rfl⟩ := b.last
  have := (V.okT t (by rw [e]; simp)).1
  rw [b.ten] at this
  omega

section
variable {prog : Program} {w : World} {A : Around} {E : Value → Shared → Prop} {s : Shared} {R : Result → Shared → Prop}

set_option maxHeartbeats 1000000 in
theorem ten_inner {mg mb : Str → Option Value} {h₀ g h : Heap} {tk : Nat} {L f : Addr} {cd : Value} (hh : A.handled = none) (hroom : A.depth + 1 < recursionLimit) (hu : A.units + 150 < cLine) (B : Base mg mb h₀) (K : Keeps h₀ g) {m : Str → Option Value} {FL NL : Addr} {c a bound : Nat} {fs : List El} {T H Fo seeds : List Str} {x : Str} {ta tb : Tok} {nms : List (Str × Int)}
    (F : Fm g L h m) (N : News g L h [(FL, listOf (vals fs).toArray c)]) (m1 : m "names" = some (.ref NL)) (m2 : m "found" = some (.ref FL)) (m3 : m "bound" = some (.int bound tb)) (m4 : m "at" = some (.int a ta)) (hN : NamesAt h₀ NL nms) (hNok : NmsOk nms) (hSok : SeedsOk seeds 7) (V : TInv nms seeds T H) (b : Bound T bound)
    (hE : Els g fs Fo) (hF : FOk nms seeds bound Fo) (hx : Fo[a]? = some x) {Q : Flow → Shared → Prop}
    (k : ∀ g' h' tk' m' fs' Fo' c', Keeps g g' → Fm g' L h' m' → News g' L h' [(FL, listOf (vals fs').toArray c')] → Els g' fs' Fo' → FOk nms seeds bound Fo' → (∃ e, Fo' = Fo ++ e) → (∀ nm ∈ nms, (kid nm x).length ≤ bound → kid nm x ∈ Fo') → (∀ z : Str, z ≠ "name" → z ≠ "marks" → z ≠ "text" → m' z = m z) → Q .next (Sx s h' tk')) :
    wpAny (model prog w) A (exec (tenWhile.getD 0 default) (envOf (nameAt 15) (scopeAt 15) L f cd)) Q NoE (Sx s h tk) := by
  obtain ⟨vs, hlN, hlen, hvs⟩ := hN
  have hrefs : ∀ v ∈ vs, ∃ a, v = Value.ref a := fun v hv => by
    obtain ⟨i, hi⟩ := List.getElem?_of_mem hv
    obtain ⟨nm, a, t, u, _, e, _⟩ := hvs i v hi
    exact ⟨a, e⟩
  have hlg : g.IsList NL vs.toArray := let ⟨o, ho, r⟩ := hlN; ⟨o, K _ _ ho, r⟩
  have hsm := b.small V
  have hxr := hF.each x (List.mem_of_getElem? hx)
  have hal : a < Fo.length := (List.getElem?_eq_some_iff.mp hx).1
  refine forT (L := L) hh (ldF F m1 ⟨s, h, tk, NL, vs, g, g, m, _, fun i g m' os' => ∃ fs' Fo' c', os' = [(FL, listOf (vals fs').toArray c')] ∧ Els g fs' Fo' ∧ FOk nms seeds bound Fo' ∧ (∃ e, Fo' = Fo ++ e) ∧ (∀ nm ∈ nms.take i, (kid nm x).length ≤ bound → kid nm x ∈ Fo') ∧ (∀ z : Str, z ≠ "name" → z ≠ "marks" → z ≠ "text" → m' z = m z),
    rfl, rfl, hrefs, hlg, Keeps.refl _, F, N, ⟨fs, Fo, c, rfl, hE, hF, ⟨[], by simp⟩, (fun _ h => nomatch h), fun _ _ _ _ => rfl⟩, ?_, ?_⟩)
  · rintro i v it oi g1 h1 tk1 m' os' hv ⟨fs', Fo', c', rfl, hE', hF', ⟨e, rfl⟩, hkids, hm'⟩ kg F1 N1 hit _
    obtain ⟨nm, ar, t, u, hnm, rfl, hTup⟩ := hvs i v hv
    have hnmm := List.mem_of_getElem? hnm
    have hnl := hNok.each nm hnmm
    have K1 : Keeps h₀ g1 := K.trans kg
    have hne : it ≠ FL := Ne.symm (hit _ (.head _))
    have Bg := B.keeps K1
    have hsz := hF'.size hNok hSok V b
    have hel := hE'.len
    refine unpack2 hh F1 N1 (hTup.keeps (K1.trans F1.keep)) fun h2 tk2 F2 N2 => ?_
    have q1 : m' "found" = some (.ref FL) := (hm' _ (by decide) (by decide) (by decide)).trans m2
    have q2 : m' "bound" = some (.int bound tb) := (hm' _ (by decide) (by decide) (by decide)).trans m3
    have q3 : m' "at" = some (.int a ta) := (hm' _ (by decide) (by decide) (by decide)).trans m4
    have hal' : a < fs'.length := by rw [hel, List.length_append]; omega
    obtain ⟨ex, hex⟩ : ∃ ex, fs'[a]? = some ex := ⟨_, List.getElem?_eq_getElem hal'⟩
    obtain ⟨y, hy, hky⟩ := hE'.nth hex
    rw [List.getElem?_append_left hal, hx] at hy
    cases hy
    obtain ⟨ax, tn, tx, eax, hTx⟩ := hE'.tup ex (List.mem_of_getElem? hex)
    rw [hky] at hTx
    obtain ⟨f14, o14, pm14, cd14, doc14, n14, hf14⟩ := Bg.fn 14 (by decide)
    refine wpAny_execs_cons (asg (callF3 (f := f14) (o := o14) (fd := fdAt 14 pm14 cd14 doc14) (glF (Bg.keeps F2.keep).g n14 ⟨rfl, ldF F2 (by walk_at "lk") (ldF F2 (by walk_at "lk") (Subscript_ (Subscript_ (ldF F2 (by walk_at "lk") (ldF F2 (by walk_at "lk") (itemF (N2 _ (.tail _ (.head _))).1 (Int.natCast_nonneg _) (by omega) (v := ex.1) (vals_get hex) (intR fun t3 tk3 => ?_)))))))⟩)))
    rw [eax]
    refine item_tupleT (s := Sx s h2 tk3) (l := [Value.int (key x).1 tn, Value.str (key x).2 tx]) (j := 1) (hTx.keeps F2.keep) (by decide) (by decide) rfl rfl ⟨⟨F2.keep _ _ hf14.get, hf14.data⟩, ?_⟩
    have hxl : (key x).2.length ≤ 200000 := by show x.length ≤ 200000; omega
    refine written_ hh (by omega) (by omega) B (K1.trans F2.keep) (hf14.keeps F2.keep) (by omega) hxl fun h4 tk4 t4 k4 => ?_
    refine ⟨s, h4, tk4, _, _, _, rfl, F2.kept k4, newsKept N2 k4, fun h5 tk5 F5 N5 => ?_⟩
    have hkl := kid_len hNok hnmm x
    have hreach : Reach nms seeds (kid nm x) := .kid hxr.1 hnmm
    refine wpAny_execs_cons (try_add (x := kid nm x) (.inr ⟨rfl, rfl⟩) (by omega) Bg F5 N5 hne up_same (by walk_at "lk") (by walk_at "lk") hE' (fun y hy => (hF'.each y hy).1.ok hNok hSok) (by omega) (by omega) (hreach.ok hNok hSok) fun g6 h6 tk6 fs6 Fo6 c6 k6 F6 N6 hE6 hFo6 => ?_)
    have hF6 : FOk nms seeds bound Fo6 := by
      rcases hFo6 with ⟨rfl, _⟩ | ⟨rfl, hb, hn⟩
      · exact hF'
      · exact hF'.add hreach hb hn
    have hpre : ∃ e, Fo6 = Fo ++ e := by
      rcases hFo6 with ⟨rfl, _⟩ | ⟨rfl, hb, hn⟩
      · exact ⟨_, rfl⟩
      · exact ⟨_, List.append_assoc ..⟩
    have hsub : ∀ y ∈ Fo ++ e, y ∈ Fo6 := by
      rcases hFo6 with ⟨rfl, _⟩ | ⟨rfl, hb, hn⟩
      · exact fun y hy => hy
      · exact fun y hy => List.mem_append.mpr (.inl hy)
    have hnew : (kid nm x).length ≤ bound → kid nm x ∈ Fo6 := by
      rcases hFo6 with ⟨rfl, h | h⟩ | ⟨rfl, hb, hn⟩
      · intro q; omega
      · exact fun _ => h
      · exact fun _ => by simp
    refine wpAny_execs_nil ⟨g6, h6, tk6, _, _, rfl, ⟨fs6, Fo6, c6, rfl, hE6, hF6, hpre, fun nm' hnm' hl' => ?_, fun z z1 z2 z3 => ?_⟩, kg.trans k6, F6, N6, fun p hp => ?_⟩
    · rw [List.take_add_one, hnm] at hnm'
      rcases List.mem_append.mp hnm' with h | h
      · exact hsub _ (hkids nm' h hl')
      · cases List.mem_singleton.mp h
        exact hnew hl'
    · rw [up_ne z3 rfl, up_ne z2 rfl, up_ne z1 rfl]
      exact hm' z z1 z2 z3
    · cases List.mem_singleton.mp hp; exact Ne.symm hne
  · rintro g1 h1 tk1 m' os' ⟨fs', Fo', c', rfl, hE', hF', hpre, hkids, hm'⟩ kg F1 N1
    rw [hlen, List.take_length] at hkids
    exact k g1 h1 tk1 m' fs' Fo' c' kg F1 N1 hE' hF' hpre hkids hm'
end
end Mine

/-! part G11 -/
namespace Mine
local macro_rules | `(tactic| walk_at "lk") => `(tactic| first | exact up_same | assumption | (refine up_ne (by decide) ?_; walk_at "lk") | rfl)

theorem sorted_nodup {T : List Str} (h : T.Pairwise fun a b => ltK (key a) (key b) = true) : T.Nodup := by
  refine List.Pairwise.imp (fun {a b} hab => ?_) h
  rintro rfl
  rw [ltK_irrefl] at hab; cases hab

section
variable {prog : Program} {w : World} {A : Around} {E : Value → Shared → Prop} {s : Shared} {R : Result → Shared → Prop}

set_option maxHeartbeats 2000000 in
theorem first_ten_ {mg mb : Str → Option Value} {h₀ h : Heap} {tk : Nat} (hh : A.handled = none) (hroom : A.depth + 4 < recursionLimit) (hu : A.units + 200 < cLine) (B : Base mg mb h₀) (K : Keeps h₀ h) {f : Addr} {o : Obj} {pm cd doc : Value} (hf : Fn h 15 f o pm cd doc)
    {NL SL : Addr} {nms : List (Str × Int)} {seeds T H : List Str} {bound : Nat} {tb : Tok} (hN : NamesAt h NL nms) (hS : SeedsAt h SL seeds) (hNok : NmsOk nms) (hSok : SeedsOk seeds 7) (V : TInv nms seeds T H) (b : Bound T bound)
    (k : ∀ h' tk' D rs c, Keeps h h' → h'.get? D = some (listOf (vals rs).toArray c) → Els h' rs T → R (.ok (.ret (.ref D))) (Sx s h' tk')) :
    codeAny (model prog w) A (.call (.ref f) ⟨[.ref NL, .ref SL, .int bound tb], []⟩) R (Sx s h tk) := by
  refine enter [("names", .ref NL), ("seeds", .ref SL), ("bound", .int bound tb)] (by omega) (B.keeps K).lim hf rfl rfl rfl rfl rfl (by decide +kernel) fun h₁ tk₁ hns hk => ?_
  have F : Fm h h.objs.size h₁ _ := ⟨hns, hk, by
    cases e : h.get? h.objs.size with
    | none => rfl
    | some o => exact absurd (Heap.lt_size e) (Nat.lt_irrefl _)⟩
  generalize h.objs.size = L at F
  have hA3 : (A.deeper (envOf (nameAt 15) (scopeAt 15) L f cd)).handled = none := hh
  have hA : (A.deeper (envOf (nameAt 15) (scopeAt 15) L f cd)).units + 150 < cLine := by show A.units + 3 + 150 < cLine; omega
  have hA2 : (A.deeper (envOf (nameAt 15) (scopeAt 15) L f cd)).depth + 1 < recursionLimit := by show A.depth + 1 + 1 < recursionLimit; omega
  generalize A.deeper (envOf (nameAt 15) (scopeAt 15) L f cd) = A' at hA hA2 hA3 ⊢
  have Bh := B.keeps K
  have hsm := b.small V
  have hsl := hSok.len
  obtain ⟨ys, hlS, hys⟩ := hS
  refine wpAny_execs_cons (asg (list0 (newListF F News.nil (by simp [sizeLine]) fun FL h2 F2 N2 _ _ k2 => ⟨s, h2, _, _, _, _, rfl, F2, N2, fun h3 tk3 F3 N3 => ?_⟩)))
  refine wpAny_execs_cons (forL (L := L) hA3 (ldF F3 (by walk_at "lk") ⟨s, h3, tk3, SL, ys, h, h, _, _, fun i g m os => m "names" = some (.ref NL) ∧ m "bound" = some (.int bound tb) ∧ m "found" = some (.ref FL) ∧ ∃ fs Fo c, os = [(FL, listOf (vals fs).toArray c)] ∧ Els g fs Fo ∧ FOk nms seeds bound Fo ∧ ∀ x ∈ seeds.take i, x.length ≤ bound → x ∈ Fo,
    rfl, rfl, hlS, Keeps.refl _, F3, N3, ⟨by walk_at "lk", by walk_at "lk", by walk_at "lk", [], [], 0, rfl, ⟨(fun _ h => nomatch h), rfl⟩, ⟨.nil, (fun _ h => nomatch h)⟩, (fun _ h => nomatch h)⟩, ?_, ?_⟩))
  · rintro i v it oi g h4 tk4 m os hv ⟨m1, m2, m3, fs, Fo, c, rfl, hE, hFO, hin⟩ kg F4 N4 hit _
    obtain ⟨x, tx, rfl, hx⟩ := StrsAre.nth hys i v hv
    have hxs := List.mem_of_getElem? hx
    have hxo := hSok.each x hxs
    have hne : it ≠ FL := Ne.symm (hit _ (.head _))
    have hsz := hFO.size hNok hSok V b
    refine wpAny_assign_Name (stF F4 N4 fun h5 tk5 F5 N5 => ?_)
    refine wpAny_execs_cons (try_add (x := x) (.inl ⟨rfl, rfl⟩) (by omega) (Bh.keeps kg) F5 N5 hne up_same (by walk_at "lk") (by walk_at "lk") hE (fun y hy => (hFO.each y hy).1.ok hNok hSok) (by omega) (by omega) hxo.2 fun g6 h6 tk6 fs6 Fo6 c6 k6 F6 N6 hE6 hFo6 => ?_)
    have hF6 : FOk nms seeds bound Fo6 := by
      rcases hFo6 with ⟨rfl, _⟩ | ⟨rfl, hb, hn⟩
      · exact hFO
      · exact hFO.add (.seed hxs) hb hn
    have hsub : ∀ y ∈ Fo, y ∈ Fo6 := by
      rcases hFo6 with ⟨rfl, _⟩ | ⟨rfl, hb, hn⟩
      · exact fun y hy => hy
      · exact fun y hy => List.mem_append.mpr (.inl hy)
    have hnew : x.length ≤ bound → x ∈ Fo6 := by
      rcases hFo6 with ⟨rfl, h | h⟩ | ⟨rfl, hb, hn⟩
      · intro q; omega
      · exact fun _ => h
      · exact fun _ => by simp
    refine wpAny_execs_nil ⟨g6, h6, tk6, _, _, rfl, ⟨by walk_at "lk", by walk_at "lk", by walk_at "lk", fs6, Fo6, c6, rfl, hE6, hF6, fun y hy hl => ?_⟩, kg.trans k6, F6, N6, fun p hp => by cases List.mem_singleton.mp hp; exact Ne.symm hne⟩
    rw [List.take_add_one, hx] at hy
    rcases List.mem_append.mp hy with h | h
    · exact hsub _ (hin y h hl)
    · cases List.mem_singleton.mp h
      exact hnew hl
  rintro g h4 tk4 m os ⟨m1, m2, m3, fs, Fo, c, rfl, hE, hFO, hin⟩ kg F4 N4
  rw [hys.length, List.take_length] at hin
  refine wpAny_execs_cons (asg (intR fun t5 tk5 => ⟨s, h4, tk5, _, _, _, rfl, F4, N4, fun h6 tk6 F6 N6 => ?_⟩))
  refine wpAny_execs_cons (while_ (fun j s' => ∃ g' h' tk' m' fs Fo c a ta, s' = Sx s h' tk' ∧ Keeps h g' ∧ Fm g' L h' m' ∧ News g' L h' [(FL, listOf (vals fs).toArray c)] ∧ m' "names" = some (.ref NL) ∧ m' "bound" = some (.int bound tb) ∧ m' "found" = some (.ref FL) ∧ m' "at" = some (.int ((a : Nat) : Int) ta) ∧
      Els g' fs Fo ∧ FOk nms seeds bound Fo ∧ (∀ x ∈ seeds, x.length ≤ bound → x ∈ Fo) ∧ a ≤ Fo.length ∧ (∀ i f, i < a → Fo[i]? = some f → ∀ nm ∈ nms, (kid nm f).length ≤ bound → kid nm f ∈ Fo) ∧ j = 29 - a) ?_ 29
    ⟨g, h6, tk6, _, fs, Fo, c, 0, t5, rfl, kg, F6, N6, by walk_at "lk", by walk_at "lk", by walk_at "lk", up_same, hE, hFO, hin, Nat.zero_le _, (fun i f h => absurd h (Nat.not_lt_zero _)), rfl⟩)
  rintro j s' ⟨g', h', tk', m', fs, Fo, c, a, ta, rfl, kg', F', N', q1, q2, q3, q4, hE, hFO, hin, hal, hcl, rfl⟩
  have B' := (Bh.keeps kg').keeps F'.keep
  have hel := hE.len
  have hvl : (vals fs).length = Fo.length := by simp [vals, hel]
  have hsz := hFO.size hNok hSok V b
  refine wpAny_isTrue_Compare1 (ldF F' q4 (callB1 (blF B'.g Bh.len.1 B'.b Bh.len.2 ⟨rfl, ldF F' q3 (lenR (N' _ (.head _)).1 (by rw [hvl]; omega) fun t7 tk7 => lt_int (wpAny_truthy_bool ?_))⟩)))
  rw [hvl]
  by_cases hlt : a < Fo.length
  · rw [decide_eq_true (by omega)]
    simp only [if_true]
    refine wpAny_execs_cons (ten_inner hA3 hA2 hA Bh kg' F' N' q1 q3 q2 q4 hN hNok hSok V b hE hFO (List.getElem?_eq_getElem hlt) fun g8 h8 tk8 m8 fs8 Fo8 c8 k8 F8 N8 hE8 hF8 hpre hkids hm8 => ?_)
    have p1 : m8 "at" = some (.int ((a : Nat) : Int) ta) := (hm8 _ (by decide) (by decide) (by decide)).trans q4
    have p2 : m8 "names" = some (.ref NL) := (hm8 _ (by decide) (by decide) (by decide)).trans q1
    have p3 : m8 "bound" = some (.int bound tb) := (hm8 _ (by decide) (by decide) (by decide)).trans q2
    have p4 : m8 "found" = some (.ref FL) := (hm8 _ (by decide) (by decide) (by decide)).trans q3
    refine wpAny_execs_cons (wpAny_AugAssign_Name (wpAny_loadName_local (s := Sx s h8 tk8) rfl rfl F8.ns p1 (intR fun t9 tk9 => wpAny_iadd_int (stF F8 N8 fun h10 tk10 F10 N10 => wpAny_execs_nil ?_))))
    obtain ⟨e, rfl⟩ := hpre
    have e1 : ((a : Nat) : Int) + 1 = ((a + 1 : Nat) : Int) := by omega
    rw [e1] at F10
    refine ⟨29 - (a + 1), by omega, g8, h10, tk10, _, fs8, _, c8, a + 1, _, rfl, kg'.trans k8, F10, N10, by walk_at "lk", by walk_at "lk", by walk_at "lk", up_same, hE8, hF8, fun x hx hl => List.mem_append.mpr (.inl (hin x hx hl)), by rw [List.length_append]; omega, fun i f hi hf nm hnm hl => ?_, rfl⟩
    rw [List.getElem?_append_left (by omega)] at hf
    rcases Nat.lt_or_ge i a with h | h
    · exact List.mem_append.mpr (.inl (hcl i f h hf nm hnm hl))
    · have : i = a := by omega
      subst this
      rw [List.getElem?_eq_getElem hlt] at hf
      cases hf
      exact hkids nm hnm hl
  · rw [decide_eq_false (by omega)]
    simp only [Bool.false_eq_true, if_false]
    have hae : a = Fo.length := by omega
    have hclosed : ∀ f ∈ Fo, ∀ nm ∈ nms, (kid nm f).length ≤ bound → kid nm f ∈ Fo := fun f hf => by
      obtain ⟨i, hi⟩ := List.getElem?_of_mem hf
      exact hcl i f (by rw [hae]; exact (List.getElem?_eq_some_iff.mp hi).1) hi
    have hT10 : 10 ≤ Fo.length := by
      rw [← b.ten]
      exact nodup_len (sorted_nodup V.sorted) fun t ht => closed_all hNok hin hclosed (V.reachT t ht) (b.le V ht)
    have hnd : (fs.map (·.2)).Nodup := by
      rw [hE.keys]
      exact List.Pairwise.map _ (fun a b hab e => hab (key_inj e)) hFO.nodup
    refine wpAny_execs_nil (wpAny_execs_cons (wpAny_Return_some (sliceF (callB1 (blF (s := Sx s h' _) B'.g Bh.sorted.1 B'.b Bh.sorted.2 ⟨rfl, ldF F' q3 (sortedF F' N' (N' _ (.head _)).1 hE.tup (by omega) (by omega) hnd fun D h8 es8 c8 F8 N8 p8 hs8 => ?_)⟩)))))
    refine partN (partS (intR fun t9 tk9 => ⟨s, h8, tk9, D, vals es8, none, some 10, rfl, rfl, PySem.IsL.isList (N8 _ (.head _)).1, ?_, .none, .int 10 t9, fun D9 h9 k9 n9 hD9 => ?_⟩))
    · have := p8.length_eq
      simp [vals, sizeLine]; omega
    rw [show slicePick (vals es8).toArray none (some 10) none = ((vals es8).take 10).toArray from slicePick_upto' (vals es8).toArray 10] at hD9
    have ev : (vals es8).take 10 = vals (es8.take 10) := by simp [vals, List.map_take]
    rw [ev] at hD9
    have hE8 : Els g' es8 (es8.map (·.2.2)) := Els.of (fun e he => hE.tup e (p8.mem_iff.mp he)) fun e he => hE.isKey e (p8.mem_iff.mp he)
    have hp8 : (es8.map (·.2.2)).Perm Fo := by have := p8.map (·.2.2); rw [hE.strs] at this; exact this
    have hsorted : (es8.map (·.2.2)).Pairwise (fun a b => ltK (key a) (key b) = true) := by
      rw [List.pairwise_map]
      refine List.Pairwise.imp_of_mem (fun {x y} hx hy hxy => ?_) hs8
      rw [← hE8.isKey x hx, ← hE8.isKey y hy]
      exact hxy
    have hten := first_ten_is hNok V b hFO hin hclosed hp8 hsorted
    refine k h9 tk9 D9 (es8.take 10) 0 (fun b o e => k9 _ _ (F8.keep _ _ (kg' _ _ e))) hD9 ⟨fun e he => (hE8.tup e (List.mem_of_mem_take he)).keeps fun b o e => k9 _ _ (F8.keep _ _ e), ?_⟩
    rw [List.map_take, hE8.keys, ← List.map_take, hten]
end
end Mine

/-! part G12 -/
namespace Mine
local macro_rules | `(tactic| walk_at "lk") => `(tactic| first | exact up_same | assumption | (refine up_ne (by decide) ?_; walk_at "lk") | rfl)

theorem seq_ne {h : Heap} {L a : Addr} {m : Str → Option Value} {o : Obj} {xs : Array Value} {n : Nat} (hn : h.Ns L m) (ho : h.get? a = some o) (hd : o.data = .seq xs n) : a ≠ L := by
  rintro rfl
  obtain ⟨o2, es2, ep, g1, g2, _⟩ := hn
  rw [ho] at g1; cases g1
  rw [hd] at g2; cases g2
theorem TupIs.toG {g h : Heap} {L : Addr} {m : Str → Option Value} {v : Value} {kk : Key} (x : TupIs h v kk) (hg : ∀ b o, h.get? b = some o → b ≠ L → g.get? b = some o) (hn : h.Ns L m) : TupIs g v kk := by
  obtain ⟨a, t, u, e, o, ho, hc, n, hd⟩ := x
  exact ⟨a, t, u, e, o, hg _ _ ho (seq_ne hn ho hd), hc, n, hd⟩
theorem NamesAt.toG {g h : Heap} {L NL : Addr} {m : Str → Option Value} {nms : List (Str × Int)} (x : NamesAt h NL nms) (hg : ∀ b o, h.get? b = some o → b ≠ L → g.get? b = some o) (hn : h.Ns L m) : NamesAt g NL nms := by
  obtain ⟨vs, ⟨o, ho, hc, n, hd⟩, hl, hv⟩ := x
  refine ⟨vs, ⟨o, hg _ _ ho (seq_ne hn ho hd), hc, n, hd⟩, hl, fun i v e => ?_⟩
  obtain ⟨nm, a, t, u, e1, e2, o2, ho2, hc2, n2, hd2⟩ := hv i v e
  exact ⟨nm, a, t, u, e1, e2, o2, hg _ _ ho2 (seq_ne hn ho2 hd2), hc2, n2, hd2⟩
theorem SeedsAt.toG {g h : Heap} {L SL : Addr} {m : Str → Option Value} {seeds : List Str} (x : SeedsAt h SL seeds) (hg : ∀ b o, h.get? b = some o → b ≠ L → g.get? b = some o) (hn : h.Ns L m) : SeedsAt g SL seeds := by
  obtain ⟨vs, ⟨o, ho, hc, n, hd⟩, hs⟩ := x
  exact ⟨vs, ⟨o, hg _ _ ho (seq_ne hn ho hd), hc, n, hd⟩, hs⟩

section
variable {prog : Program} {w : World} {A : Around} {E : Value → Shared → Prop} {s : Shared} {R : Result → Shared → Prop}

/-- the item before the end of a list -/
theorem lastF {value slice : Expr} {l : Addr} {vs : List Value} {c : Nat} {u : Tok} {v : Value} {h : Heap} {tk : Nat} {Q : Value → Shared → Prop} (hl : h.get? l = some (listOf vs.toArray c)) (hlen : vs.length < 1000)
    (hx : vs[vs.length - 1]? = some v) (kk : Q v (Sx s h tk))
    (hs : subscripted slice false (.ref l) (.int (-1) u) = operate [.ref l, .int (-1) u] (getItem (.ref l) (.int (-1) u)) := by with_unfolding_all rfl) :
    wpAny (model prog w) A (subscriptTail value slice (.ref l) (.int (-1) u)) Q E (Sx s h tk) := by
  have hL : (Sx s h tk).heap.IsList l vs.toArray := PySem.IsL.isList (n := c) hl
  have hpos : 0 < vs.length := by have := (List.getElem?_eq_some_iff.mp hx).1; omega
  refine tail_any hL.typeIs slot_list_getitem.lookup (wpAny_getItem_list_neg hL (by decide) (by rw [List.size_toArray]; omega) (by decide) ?_ kk) hs
  rw [List.size_toArray]
  have e : (-1 + (vs.length : Int)).toNat = vs.length - 1 := by omega
  rw [e]
  simpa using hx

set_option maxHeartbeats 1000000 in
theorem law_body {mg mb : Str → Option Value} {h h₁ : Heap} {tk : Nat} {L f l : Addr} {cd : Value} (hh : A.handled = none) (hroom : A.depth + 10 < recursionLimit) (hu : A.units + 500 < cLine) (B : Base mg mb h) (B2 : Base2 mg h) {m : Str → Option Value} (F : Fm h L h₁ m) (m1 : m "script" = some (.ref l))
    {vs : List Value} {ns : List Int} (hl : h.IsList l vs.toArray) (hI : IntsAre vs ns) (hn : ns.length ≤ 63) {Q : Flow → Shared → Prop}
    (k : ∀ h' tk' m', Fm h L h' m' → Q (.ret (.bool true)) (Sx s h' tk')) :
    wpAny (model prog w) A (execs (bodyAt 16) (envOf (nameAt 16) (scopeAt 16) L f cd)) Q NoE (Sx s h₁ tk) := by
  obtain ⟨f12, o12, pm12, cd12, doc12, n12, hf12⟩ := B.fn 12 (by decide)
  obtain ⟨f13, o13, pm13, cd13, doc13, n13, hf13⟩ := B.fn 13 (by decide)
  obtain ⟨f15, o15, pm15, cd15, doc15, n15, hf15⟩ := B.fn 15 (by decide)
  have N : News h L h₁ [] := News.nil
  refine wpAny_execs_cons (Assign_Tuple (callF1 (f := f12) (o := o12) (fd := fdAt 12 pm12 cd12 doc12) (glF (B.keeps F.keep).g n12 ⟨rfl, ldF F m1 ⟨⟨F.keep _ _ hf12.get, hf12.data⟩, ?_⟩⟩)))
  have hl1 : h₁.IsList l vs.toArray := let ⟨o, ho, r⟩ := hl; ⟨o, F.keep _ _ ho, r⟩
  refine drawn_ hh (by omega) B F.keep (hf12.keeps F.keep) hl1 hI hn fun h2 tk2 T NL SL nms seeds k2 hT hNames hSeeds hNok hSok => ?_
  obtain ⟨g, Fg, Ng, kg, ig⟩ := rebase (F.kept k2) (newsKept N k2)
  have ig' : ∀ b o, h2.get? b = some o → b ≠ L → g.get? b = some o := fun b o e hb => ig b o e hb fun p hp => nomatch hp
  have hNg : NamesAt g NL nms := hNames.toG ig' Fg.ns
  have hSg : SeedsAt g SL seeds := hSeeds.toG ig' Fg.ns
  refine unpack2 hh Fg Ng hT fun h3 tk3 F3 N3 => ?_
  have B3 := (B.keeps kg).keeps F3.keep
  have hf13' := (hf13.keeps kg).keeps F3.keep
  refine wpAny_execs_cons (asg (callF2 (f := f13) (o := o13) (fd := fdAt 13 pm13 cd13 doc13) (glF B3.g n13 ⟨rfl, ldF F3 (by walk_at "lk") (ldF F3 (by walk_at "lk") ⟨⟨hf13'.get, hf13'.data⟩, ?_⟩)⟩)))
  refine told_ hh (by omega) (by omega) B B2 (kg.trans F3.keep) hf13' (hNg.keeps F3.keep) (hSg.keeps F3.keep) hNok hSok fun h4 tk4 TL ts c T H k4 hTL hTs V hT10 => ?_
  obtain ⟨g4, F4, N4, kg4, ig4⟩ := rebase (F3.kept k4) (newsKept N3 k4)
  have ig4' : ∀ b o, h4.get? b = some o → b ≠ L → g4.get? b = some o := fun b o e hb => ig4 b o e hb fun p hp => nomatch hp
  have hTLg : g4.get? TL = some (listOf (vals ts).toArray c) := ig4' _ _ hTL (seq_ne F4.ns hTL rfl)
  have hTsg : Els g4 ts T := ⟨fun e he => (hTs.tup e he).toG ig4' F4.ns, hTs.keys⟩
  refine ⟨s, h4, tk4, g4, _, [], rfl, F4, N4, fun h5 tk5 F5 N5 => ?_⟩
  have kk : Keeps h h5 := (kg.trans kg4).trans F5.keep
  have hf15' := hf15.keeps kk
  have hNl := hTsg.len
  obtain ⟨e9, he9⟩ : ∃ e, ts[9]? = some e := ⟨_, List.getElem?_eq_getElem (by omega)⟩
  obtain ⟨t, ht, hkt⟩ := hTsg.nth he9
  have hb : Bound T t.length := ⟨hT10, T.dropLast, t, by
    have hne : T ≠ [] := by rintro rfl; cases hT10
    have : T.getLast hne = t := by
      rw [List.getLast_eq_getElem]
      rw [List.getElem?_eq_getElem (by omega)] at ht
      injection ht with ht
      rw [← ht]
      congr 1
      omega
    rw [← this]
    exact (List.dropLast_concat_getLast hne).symm, rfl⟩
  obtain ⟨a9, tn, tx, ea9, hT9⟩ := hTsg.tup e9 (List.mem_of_getElem? he9)
  rw [hkt] at hT9
  have hTL5 := F5.keep _ _ hTLg
  have hvl : (vals ts).length = 10 := by simp [vals]; omega
  refine wpAny_execs_cons (wpAny_Return_some (BoolOp_and (wpAny_Compare1 (ldF F5 (by walk_at "lk") (Constant_none (isnot_ref_none (wpAny_truthy_bool ?_)))))))
  simp only [if_true]
  refine BoolOp_one (wpAny_Compare1 (ldF F5 (by walk_at "lk") (callF3 (f := f15) (o := o15) (fd := fdAt 15 pm15 cd15 doc15) (glF (B.keeps kk).g n15 ⟨rfl, ldF F5 (by walk_at "lk") (ldF F5 (by walk_at "lk") (Subscript_ (Subscript_ (ldF F5 (by walk_at "lk") (UnaryOp_ (intR fun t6 tk6 => neg_int ?_))))))⟩))))
  refine lastF (s := s) hTL5 (by rw [hvl]; decide) (v := e9.1) (by rw [hvl]; exact vals_get (k := 9) he9) (intR fun t7 tk7 => ?_)
  rw [ea9]
  refine item_tupleT (s := Sx s h5 tk7) (l := [Value.int (key t).1 tn, Value.str (key t).2 tx]) (j := 0) (hT9.keeps F5.keep) (by decide) (by decide) rfl rfl ⟨⟨hf15'.get, hf15'.data⟩, ?_⟩
  refine first_ten_ (bound := t.length) hh (by omega) (by omega) B kk hf15' ((hNg.keeps kg4).keeps F5.keep) ((hSg.keeps kg4).keeps F5.keep) hNok hSok V hb fun h8 tk8 D rs c8 k8 hD hRs => ?_
  have hok : ∀ x ∈ T, PyData.strOk x = true := fun x hx => (V.okT x hx).2
  refine eq_dataH (s := Sx s h8 tk8) (reads_list_at (k8 _ _ hTL5) rfl rfl (reads_els fun e he => ((hTsg.tup e he).keeps F5.keep).keeps k8)) (reads_list_at hD rfl rfl (reads_els hRs.tup)) (shaped_dats (hTsg.strOk hok)) (shaped_dats (hRs.strOk hok)) (by omega) ?_
  rw [PyData.eqv, eqvAll_dat, decide_eq_true (hTsg.keys.trans hRs.keys.symm)]
  exact k h8 tk8 _ ⟨(F5.kept k8).ns, fun b o e => k8 _ _ (kk _ _ e), F.gL⟩
end
end Mine

/-! part T2 -/
set_option maxHeartbeats 8000000
namespace Mine

theorem defAt_of {p : Program} {loose : List Str} {mean : ExcName → Option Value} {mg mb : Str → Option Value} {h : Heap} (T : Top p loose mean mg mb h) (i j : Nat) {d : DefRec} (hj : (recsOf p)[j]? = some d) (h1 : d.name = nameAt i) (h2 : d.params = parAt i) (h3 : d.body = bodyAt i) (h4 : d.scope = scopeAt i) : DefAt mg h i := by
  obtain ⟨a, o, pm, cd, doc, e1, e2, e3, e4⟩ := T.fn d (List.mem_of_getElem? hj)
  rw [h1] at e1 e4
  rw [h1, h2, h3, h4] at e3
  exact ⟨a, o, pm, cd, doc, e1, e2, e3, e4⟩
theorem bl_of {p : Program} {loose : List Str} {mean : ExcName → Option Value} {mg mb : Str → Option Value} {h : Heap} (T : Top p loose mean mg mb h) {x : Str} {v : Value} (h1 : mg x = none) (hx : x ≠ "__name__") (hv : bootBuiltins x = some v) : mg x = none ∧ mb x = some v := ⟨h1, (T.builtins x hx).trans hv⟩

theorem fmtAt_of {K : Frag} {h : Heap} {f T : Addr} {o oT : Obj} {kV doc pm cd ct : Value} {an : Option Addr} {n : Nat} {t : Tok} (KX : K.In h) (h1 : K.lookup f = some o) (h2 : o.data = .func (fdFmt T kV doc pm an cd ct)) (h3 : codeIn K cd "_formatparam" = true) (h4 : K.lookup T = some oT) (h5 : oT.data = .seq #[.none, .int 1 t] n) : FmtAt h f :=
  ⟨o, T, kV, doc, pm, an, cd, ct, oT, n, t, KX _ _ h1, h2, codeRec_of KX h3, KX _ _ h4, h5⟩
theorem base2_of {p : Program} {loose : List Str} {mean : ExcName → Option Value} {mg mb : Str → Option Value} {h : Heap} (_ : Top p loose mean mg mb h) (h1 : ∃ f, mg "_formatparam" = some (.ref f) ∧ FmtAt h f) (h2 : ∃ P, mg "tspecials" = some (.ref P) ∧ Flt.IsPattern h P patRec) : Base2 mg h := ⟨h1, h2⟩

open_top hd for PySem.Challenge.rw_nb0097_01
end Mine
open Mine
theorem PySem.Challenge.cw_nb0097_01_holds : PySem.Challenge.rw_nb0097_01.Holds :=
  hd (by
  k_go0
  rename Top _ _ _ _ _ _ => T
  rename Frag.In _ _ => KX
  rename Flt.MathXP _ _ _ => X
  rename Fr _ _ _ _ => F
  rename Heap.IsList _ _ _ => hL
  rename IntsAre _ _ => hI
  rename ¬ (_ : Int) < _ => hc
  have B := (Base.mk T.g T.b T.nolimit (by
    intro i hi
    simp only [List.mem_cons, List.not_mem_nil, or_false] at hi
    rcases hi with rfl | rfl | rfl | rfl | rfl | rfl | rfl | rfl | rfl | rfl
    · exact defAt_of T 5 0 rfl rfl rfl rfl rfl
    · exact defAt_of T 6 1 rfl rfl rfl rfl rfl
    · exact defAt_of T 7 2 rfl rfl rfl rfl rfl
    · exact defAt_of T 8 3 rfl rfl rfl rfl rfl
    · exact defAt_of T 9 4 rfl rfl rfl rfl rfl
    · exact defAt_of T 10 5 rfl rfl rfl rfl rfl
    · exact defAt_of T 12 6 rfl rfl rfl rfl rfl
    · exact defAt_of T 13 7 rfl rfl rfl rfl rfl
    · exact defAt_of T 14 8 rfl rfl rfl rfl rfl
    · exact defAt_of T 15 9 rfl rfl rfl rfl rfl)
    (bl_of T (mg_none_of KX T.g (by k_is)) (by decide) rfl) (bl_of T (mg_none_of KX T.g (by k_is)) (by decide) rfl) (bl_of T (mg_none_of KX T.g (by k_is)) (by decide) rfl) (bl_of T (mg_none_of KX T.g (by k_is)) (by decide) rfl))
  have B2 := base2_of T ⟨_, mg_of (n := "_formatparam") KX T.g (by k_is), fmtAt_of KX (by k_is) (by rfl) (by k_is) (by k_is) (by rfl)⟩ (X.pats patRec (List.mem_of_getElem? (i := 0) rfl))
  refine wpAny_mono (E := NoE) (law_body rfl (by show callerA.depth + 1 + 10 < recursionLimit; decide) (by show callerA.units + 3 + 500 < cLine; decide) B B2 (m := _) ⟨F.ns, F.keep, Heap.get?_none_of_le F.above⟩ rfl hL hI (by omega) fun h' tk' m' F' => ?_) (fun _ _ x => x) fun _ _ x => x.elim
  have Fe : Fr _ _ h' m' := ⟨F'.ns, F'.keep, F.above⟩
  refine goodW_bool (by assumption) (by assumption) (raisesW_false ?_) ?_
  · wrow_none_raised
  · wrow_post)
