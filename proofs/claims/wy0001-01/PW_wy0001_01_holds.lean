import PyProof.Rows.All
import Wide.All
import OpenK.AllK
import Wide.FinOn
import PyProof.IsiH_list
import KE.KPairComp
import Lean
import PySem.Challenge.RW_wy0001_01
set_option Elab.async false
set_option maxRecDepth 100000
namespace Mine
open PySem PySem.W PySem.Calls PyProof.Rows

abbrev prg : Program := PySem.Challenge.pw_wy0001_01

/-- the class's body and its defs, read off the given text -/
def clsBody : List Stmt := match PySem.Challenge.pw_wy0001_01.main.body with
  | [_, _, .ClassDef _ _ _ b _ _ _ _ _ _ _, _, _] => b
  | _ => []
def defParts : Stmt → Option (Str × Arguments × List Stmt × Scope)
  | .FunctionDef n a b _ _ _ sc _ _ _ => some (n, a, b, sc)
  | _ => none
def meth (i : Nat) : Str × Arguments × List Stmt × Scope := ((clsBody[i]?).bind defParts).getD default
def lawParts : Str × Arguments × List Stmt × Scope := match PySem.Challenge.pw_wy0001_01.main.body with
  | [_, _, _, _, d] => (defParts d).getD default
  | _ => default

theorem meth0 : (meth 0).1 = "__init__" := by rfl
theorem meth1 : (meth 1).1 = "push" := by rfl
theorem meth2 : (meth 2).1 = "pop_from" := by rfl
theorem meth3 : (meth 3).1 = "pop" := by rfl
theorem meth4 : (meth 4).1 = "__len__" := by rfl
theorem meth5 : (meth 5).1 = "__str__" := by rfl
theorem meth6 : (meth 6).1 = "reset" := by rfl
theorem meth7 : (meth 7).1 = "is_onlyws" := by rfl
theorem meth8 : (meth 8).1 = "part_count" := by rfl
theorem law0 : lawParts.1 = "law" := by rfl

/-- everything off S stands -/
def Keep (S : List Addr) (h h' : Heap) : Prop := ∀ b o, b ∉ S → h.get? b = some o → h'.get? b = some o
theorem Keep.refl {S h} : Keep S h h := fun _ _ _ e => e
theorem Keep.trans {S h h' h''} (a : Keep S h h') (b : Keep S h' h'') : Keep S h h'' := fun x o n e => b x o n (a x o n e)
theorem Keep.mono {S T h h'} (a : Keep S h h') (k : ∀ x, x ∈ S → x ∈ T) : Keep T h h' := fun x o n e => a x o (fun m => n (k x m)) e
theorem Keep.push {S h} (o : Obj) : Keep S h (h.push o) := fun _ _ _ e => Heap.get?_push_of_some o e
theorem Keep.stays {S h h'} (k : ∀ b o, h.get? b = some o → h'.get? b = some o) : Keep S h h' := fun b o _ e => k b o e
theorem Keep.nil {h h'} (k : Keep [] h h') : ∀ b o, h.get? b = some o → h'.get? b = some o := fun b o e => k b o (by simp) e
theorem Keep.ext {S a h h'} (k : Heap.ExtBut a h h') (m : a ∈ S) : Keep S h h' := fun b o n e => k b o (fun z => n (z ▸ m)) e
theorem Keep.same {S a h h'} (k : Heap.SameBut a h h') (m : a ∈ S) : Keep S h h' := Keep.ext k.extBut m

structure Step (S : List Addr) (s s' : Shared) : Prop where
  keep : Keep S s.heap s'.heap
  os : s'.os = s.os
  bare : AllBare s.gens → AllBare s'.gens
theorem Step.refl {S s} : Step S s s := ⟨.refl, rfl, id⟩
theorem Step.trans {S s s' s''} (a : Step S s s') (b : Step S s' s'') : Step S s s'' := ⟨a.keep.trans b.keep, b.os.trans a.os, fun x => b.bare (a.bare x)⟩
theorem Step.mono {S T s s'} (a : Step S s s') (k : ∀ x, x ∈ S → x ∈ T) : Step T s s' := ⟨a.keep.mono k, a.os, a.bare⟩
theorem Step.heap {S s h tk} (k : Keep S s.heap h) : Step S s { s with heap := h, toks := tk } := ⟨k, rfl, id⟩
theorem Step.toks {S s tk} : Step S s { s with toks := tk } := ⟨.refl, rfl, id⟩

theorem Step.up {S s s'} (a : Step [] s s') : Step S s s' := a.mono (by simp)

theorem Step.drop {L S s s'} (a : Step (L :: S) s s') (h : s.heap.objs.size ≤ L) : Step S s s' :=
  ⟨fun b o n e => a.keep b o (fun m => by
    rcases List.mem_cons.mp m with rfl | m
    · exact absurd (Heap.lt_size e) (Nat.not_lt.mpr h)
    · exact n m) e, a.os, a.bare⟩

abbrev Pair := Str × Str
/-- v is a tuple of the two texts -/
def IsPair (h : Heap) (v : Value) (p : Pair) : Prop := ∃ a t u, v = .ref a ∧ h.IsTuple a #[.str p.1 t, .str p.2 u]
inductive ArePairs (h : Heap) : List Value → List Pair → Prop
  | nil : ArePairs h [] []
  | cons {v vs p ps} : IsPair h v p → ArePairs h vs ps → ArePairs h (v :: vs) (p :: ps)

theorem isTuple_keep {S h h' a its} (x : Heap.IsTuple h a its) (k : Keep S h h') (n : a ∉ S) : Heap.IsTuple h' a its := let ⟨o, e, r⟩ := x; ⟨o, k _ _ n e, r⟩
/-- no tuple stands at these places -/
def OffTuples (S : List Addr) (h : Heap) : Prop := ∀ a ∈ S, ∀ o, h.get? a = some o → o.cls ≠ .type "tuple"
theorem IsPair.keep {S h h' v p} (x : IsPair h v p) (k : Keep S h h') (n : OffTuples S h) : IsPair h' v p := by
  obtain ⟨a, t, u, rfl, o, ho, hc, r⟩ := x
  exact ⟨a, t, u, rfl, o, k a o (fun m => n a m o ho hc) ho, hc, r⟩
theorem ArePairs.keep {S h h' vs ps} (x : ArePairs h vs ps) (k : Keep S h h') (n : OffTuples S h) : ArePairs h' vs ps := by
  induction x with
  | nil => exact .nil
  | cons a _ ih => exact .cons (a.keep k n) ih
theorem ArePairs.length {h vs ps} (x : ArePairs h vs ps) : vs.length = ps.length := by
  induction x with
  | nil => rfl
  | cons _ _ ih => simp [ih]
theorem ArePairs.append {h vs ps ws qs} (x : ArePairs h vs ps) (y : ArePairs h ws qs) : ArePairs h (vs ++ ws) (ps ++ qs) := by
  induction x with
  | nil => exact y
  | cons a _ ih => exact .cons a ih
theorem ArePairs.take {h vs ps} (x : ArePairs h vs ps) (n : Nat) : ArePairs h (vs.take n) (ps.take n) := by
  induction x generalizing n with
  | nil => simp; exact .nil
  | cons a _ ih => cases n with
    | zero => exact .nil
    | succ n => exact .cons a (ih n)
theorem ArePairs.drop {h vs ps} (x : ArePairs h vs ps) (n : Nat) : ArePairs h (vs.drop n) (ps.drop n) := by
  induction x generalizing n with
  | nil => simp; exact .nil
  | cons a r ih => cases n with
    | zero => exact .cons a r
    | succ n => exact ih n
theorem ArePairs.get {h vs ps} (x : ArePairs h vs ps) {i : Nat} {p} (e : ps[i]? = some p) : ∃ v, vs[i]? = some v ∧ IsPair h v p := by
  induction x generalizing i with
  | nil => simp at e
  | cons a _ ih => cases i with
    | zero => simp at e; subst e; exact ⟨_, rfl, a⟩
    | succ i => simp at e; simpa using ih e
end Mine
namespace Mine
open PySem PySem.W PySem.Calls PyProof.Rows

/-- a def of the class as the top has made it -/
def fdOf (i : Nat) (qual : Str) (clo : List (Str × Addr)) (dV : Value) (cd : Addr) (ct : Value) : FuncData :=
  { name := (meth i).1, qualname := qual, params := (meth i).2.1, body := .stmts (meth i).2.2.1, scope := (meth i).2.2.2, globals := mainGlobals, closure := clo, defaults := dV, kwdefaults := .none,
    doc := .none, pyModule := .str "cpy313.email.header" 187, annotations := none, code := .ref cd, closureTuple := ct, builtins := builtinsNs }
def fnO (fd : FuncData) : Obj := ⟨.type "function", none, .func fd, #[]⟩
abbrev fdInit := fdOf 0 "_Accumulator.__init__" [("__class__", 18)] (.ref 23) 30 (.ref 24)
abbrev fdPush := fdOf 1 "_Accumulator.push" [] .none 37 .none
abbrev fdPopF := fdOf 2 "_Accumulator.pop_from" [] (.ref 39) 45 .none
abbrev fdPop := fdOf 3 "_Accumulator.pop" [("__class__", 18)] .none 53 (.ref 47)
abbrev fdLen := fdOf 4 "_Accumulator.__len__" [] .none 60 .none
abbrev fdStr := fdOf 5 "_Accumulator.__str__" [] .none 67 .none
abbrev fdReset := fdOf 6 "_Accumulator.reset" [] (.ref 69) 75 .none
abbrev fdOws := fdOf 7 "_Accumulator.is_onlyws" [] .none 82 .none
abbrev fdPc := fdOf 8 "_Accumulator.part_count" [("__class__", 18)] .none 90 (.ref 84)

def codeFile (K : Frag) (c : Addr) : Bool := match K.lookup c with
  | some (Obj.mk _ _ (Data.fields vs) _) => (match vs[2]? with
      | some (Value.str f _) => f == "/claim/cut.py"
      | _ => false)
  | _ => false

def modIn (K : Frag) (a : Addr) : Bool := match K.lookup a with
  | some o => o.cls == .type "module" && o.dict == some 0 && (match o.data with
      | .plain => true
      | _ => false)
  | none => false
def codeTab (K : Frag) (c P : Addr) : Bool := match K.lookup c with
  | some (Obj.mk cl _ (Data.fields vs) _) => cl == .type "code" && vs[11]? == some (.ref P) && (match vs.getD 18 .none with
      | .str _ _ => true
      | _ => false) && (match vs.getD 7 .none with
      | .int _ _ => true
      | _ => false) && (match vs.getD 9 .none with
      | .bool _ => true
      | _ => false) && (match vs.getD 10 .none with
      | .int _ _ => true
      | _ => false)
  | _ => false

/-- the facts of the top's written part that the class's methods ask -/
structure KF (K : Frag) : Prop where
  cls : K.lookup 94 = some ⟨.type "type", none, .cls { name := "_Accumulator", bases := [.type "list"], mro := [.ref 94, .type "list", .type "object"], ns := 93, qualname := "_Accumulator" },
    #[some (.ref 15), none, some (.str "_Accumulator" 191), some (.str "_Accumulator" 199), some (.builtin "list.__new__"), some (.bool true)]⟩
  lim : K.lookup 2 = some ⟨.none, none, .dict #[] 0, #[]⟩
  f_ga : findIn K (.ref 94) "__getattribute__" = some (some (.builtin "list.__getattribute__"))
  f_gattr : findIn K (.ref 94) "__getattr__" = some none
  f_sattr : findIn K (.ref 94) "__setattr__" = some (some (.builtin "object.__setattr__"))
  f_append : findIn K (.ref 94) "append" = some (some (.builtin "list.append"))
  f_iter : findIn K (.ref 94) "__iter__" = some (some (.builtin "list.__iter__"))
  f_getitem : findIn K (.ref 94) "__getitem__" = some (some (.builtin "list.__getitem__"))
  f_setitem : findIn K (.ref 94) "__setitem__" = some (some (.builtin "list.__setitem__"))
  f_bool : findIn K (.ref 94) "__bool__" = some none
  f_isz : findIn K (.ref 94) "_initial_size" = some none
  f_init : findIn K (.ref 94) "__init__" = some (some (.ref 31))
  f_push : findIn K (.ref 94) "push" = some (some (.ref 38))
  f_popf : findIn K (.ref 94) "pop_from" = some (some (.ref 46))
  f_pop : findIn K (.ref 94) "pop" = some (some (.ref 54))
  f_len : findIn K (.ref 94) "__len__" = some (some (.ref 61))
  f_str : findIn K (.ref 94) "__str__" = some (some (.ref 68))
  f_reset : findIn K (.ref 94) "reset" = some (some (.ref 76))
  f_ows : findIn K (.ref 94) "is_onlyws" = some (some (.ref 83))
  f_pc : findIn K (.ref 94) "part_count" = some (some (.ref 91))
  oInit : K.lookup 31 = some (fnO fdInit)
  cInit : codeIn K fdInit.code fdInit.qualname = true
  oPush : K.lookup 38 = some (fnO fdPush)
  cPush : codeIn K fdPush.code fdPush.qualname = true
  oPopF : K.lookup 46 = some (fnO fdPopF)
  cPopF : codeIn K fdPopF.code fdPopF.qualname = true
  oPop : K.lookup 54 = some (fnO fdPop)
  cPop : codeIn K fdPop.code fdPop.qualname = true
  oLen : K.lookup 61 = some (fnO fdLen)
  cLen : codeIn K fdLen.code fdLen.qualname = true
  oStr : K.lookup 68 = some (fnO fdStr)
  cStr : codeIn K fdStr.code fdStr.qualname = true
  oReset : K.lookup 76 = some (fnO fdReset)
  cReset : codeIn K fdReset.code fdReset.qualname = true
  oOws : K.lookup 83 = some (fnO fdOws)
  cOws : codeIn K fdOws.code fdOws.qualname = true
  oPc : K.lookup 91 = some (fnO fdPc)
  cPc : codeIn K fdPc.code fdPc.qualname = true
  noseq : noSeq K 94 = true
  d23 : K.lookup 23 = some ⟨.type "tuple", none, .seq #[.int 0 203] 0, #[]⟩
  d39 : K.lookup 39 = some ⟨.type "tuple", none, .seq #[.int 0 222] 0, #[]⟩
  d69 : K.lookup 69 = some ⟨.type "tuple", none, .seq #[.none] 0, #[]⟩
  cell18 : K.lookup 18 = some ⟨.type "cell", none, .cell (some (.ref 94)), #[]⟩
  file30 : codeFile K 30 = true
  file53 : codeFile K 53 = true
  file90 : codeFile K 90 = true
  g_super : nsIn K 3 "super" = some none
  g_sum : nsIn K 3 "sum" = some none
  g_len : nsIn K 3 "len" = some none
  g_str : nsIn K 3 "str" = some none
  g_list : nsIn K 3 "list" = some none
  g_max : nsIn K 3 "max" = some none
  b_super : nsIn K 0 "super" = some (some (.type "super"))
  b_sum : nsIn K 0 "sum" = some (some (.builtin "sum"))
  b_len : nsIn K 0 "len" = some (some (.builtin "len"))
  b_str : nsIn K 0 "str" = some (some (.type "str"))
  b_list : nsIn K 0 "list" = some (some (.type "list"))
  b_max : nsIn K 0 "max" = some (some (.builtin "max"))
  g_empty : nsIn K 3 "EMPTYSTRING" = some (some (.str "" 189))
  g_acc : nsIn K 3 "_Accumulator" = some (some (.ref 94))
  g_bi : nsIn K 3 "__builtins__" = some (some (.ref 4))
  mod4 : modIn K 4 = true
  tab60 : codeTab K 60 56 = true
  tab67 : codeTab K 67 63 = true
  off56 : K.lookup 56 = none
  off63 : K.lookup 63 = none
  t_init : typeIn K (.ref 31) = some (.type "function")
  t_push : typeIn K (.ref 38) = some (.type "function")
  t_popf : typeIn K (.ref 46) = some (.type "function")
  t_pop : typeIn K (.ref 54) = some (.type "function")
  t_len : typeIn K (.ref 61) = some (.type "function")
  t_str : typeIn K (.ref 68) = some (.type "function")
  t_reset : typeIn K (.ref 76) = some (.type "function")
  t_ows : typeIn K (.ref 83) = some (.type "function")
  t_pc : typeIn K (.ref 91) = some (.type "function")

/-- the accumulator: its items and its one field -/
structure Acc (h : Heap) (x dx : Addr) (vs : List Value) (sz : Int) : Prop where
  x : ∃ n, h.get? x = some { cls := .ref 94, dict := some dx, data := .seq vs.toArray n }
  d : ∃ hs t tk n, h.get? dx = some { cls := .type "dict", data := .dict #[⟨hs, .str "_initial_size" t, .int sz tk⟩] n }

theorem Acc.keep {S h h' x dx vs sz} (a : Acc h x dx vs sz) (k : Keep S h h') (n1 : x ∉ S) (n2 : dx ∉ S) : Acc h' x dx vs sz :=
  ⟨let ⟨n, e⟩ := a.x; ⟨n, k _ _ n1 e⟩, let ⟨hs, t, tk, n, e⟩ := a.d; ⟨hs, t, tk, n, k _ _ n2 e⟩⟩
theorem Acc.stays {h h' x dx vs sz} (a : Acc h x dx vs sz) (k : Keep [] h h') : Acc h' x dx vs sz := a.keep k (by simp) (by simp)
theorem Acc.ne {h x dx vs sz} (a : Acc h x dx vs sz) : x ≠ dx := by
  intro e; subst e
  obtain ⟨n, e1⟩ := a.x
  obtain ⟨_, _, _, _, e2⟩ := a.d
  rw [e1] at e2; cases e2
theorem Acc.lt {h x dx vs sz} (a : Acc h x dx vs sz) : x < h.objs.size ∧ dx < h.objs.size :=
  let ⟨_, e⟩ := a.x; let ⟨_, _, _, _, e'⟩ := a.d; ⟨Heap.lt_size e, Heap.lt_size e'⟩
theorem nsKeep {S h h' L m} (n : Heap.Ns h L m) (k : Keep S h h') (hL : L ∉ S) : Heap.Ns h' L m :=
  let ⟨o, es, ep, ho, r⟩ := n; ⟨o, es, ep, k _ _ hL ho, r⟩
theorem Acc.ns {h x dx vs sz} (a : Acc h x dx vs sz) : ∃ tk, h.Ns dx (fun y => if y = "_initial_size" then some (.int sz tk) else none) := by
  obtain ⟨hs, t, tk, n, e⟩ := a.d
  refine ⟨tk, _, _, _, e, rfl, ?_, ?_⟩
  · intro en hen
    simp at hen
    exact ⟨"_initial_size", t, by rw [hen]⟩
  · intro name
    show nsFind _ _ = _
    unfold nsFind findBy
    by_cases q : name = "_initial_size"
    · subst q; simp [Value.isStr]
    · have q' : ((Str.ofString "_initial_size") == name) = false := beq_eq_false_iff_ne.mpr (fun z => q z.symm)
      simp [Value.isStr, q, q']

section
variable {K : Frag} {M : Model} {A : Around} {E : Value → Shared → Prop} {s : Shared} {x dx : Addr} {vs : List Value} {sz : Int}

theorem Acc.type {h : Heap} (a : Acc h x dx vs sz) : Looks M h (typeOf (.ref x)) (.ref 94) := by
  obtain ⟨n, e⟩ := a.x
  exact (Looks.ld e).andThen .now
theorem KF.mro (kf : KF K) {h : Heap} (X : K.In h) (base : Value) : Looks M h (isSubtype (.ref 94) base) (([.ref 94, .type "list", .type "object"] : List Value).contains base) := by
  have e := kf.cls
  refine looks_mroIn X ?_
  unfold mroIn clsIn
  rw [e]
  rfl
theorem Acc.isList {h : Heap} (a : Acc h x dx vs sz) (kf : KF K) (X : K.In h) : Looks M h (isInstance (.ref x) (.type "list")) true := a.type.andThen (kf.mro X _)
theorem KF.find {h : Heap} (_ : KF K) (X : K.In h) {name : Str} {r} (e : findIn K (.ref 94) name = some r) : Looks M h (typeLookup (.ref 94) name) r := looks_findIn X e
theorem Acc.special {h : Heap} (a : Acc h x dx vs sz) (X : K.In h) {name : Str} {r} (e : findIn K (.ref 94) name = some r) : Looks M h (specialOf (.ref x) name) r := a.type.andThen (looks_findIn X e)

theorem canon_list_ga : (Manifest.canonical "list.__getattribute__" != "object.__getattribute__") = false := by decide +kernel

/-- a method of the class by its name -/
theorem gm_any {name : Str} {f t : Value} {pl : Sem Bool} {Q : Value × List Value → Shared → Prop} (kf : KF K) (X : K.In s.heap) (a : Acc s.heap x dx vs sz)
    (hf : findIn K (.ref 94) name = some (some f)) (ht : Looks M s.heap (typeOf f) t) (hk : (t != .type "function" && t != .type "method_descriptor" && t != .type "wrapper_descriptor") = false)
    (hn : name ≠ "_initial_size") (h : Q (f, [.ref x]) s) : wpAny M A (getMethod (.ref x) name pl) Q E s := by
  obtain ⟨tk, ns⟩ := a.ns
  obtain ⟨n, hx⟩ := a.x
  unfold getMethod
  refine wpAny_bind ((a.special X kf.f_ga).here ?_)
  dsimp only
  rw [canon_list_ga, if_neg (by decide)]
  refine wpAny_bind ((a.special X kf.f_gattr).here ?_)
  refine wpAny_bind ((a.special X hf).here ?_)
  dsimp only
  refine wpAny_bind (ht.here ?_)
  rw [hk, if_neg (by decide)]
  refine wpAny_bind (wpAny_loadPart hx ?_)
  dsimp only
  refine wpAny_bind (wpAny_nsGet ns ?_)
  rw [if_neg hn]
  exact wpAny_bind (wpAny_rule (wpAny_pure h))

theorem gm_fn {name : Str} {f : Addr} {pl : Sem Bool} {Q : Value × List Value → Shared → Prop} (kf : KF K) (X : K.In s.heap) (a : Acc s.heap x dx vs sz)
    (hf : findIn K (.ref 94) name = some (some (.ref f))) (ht : typeIn K (.ref f) = some (.type "function"))
    (hn : name ≠ "_initial_size") (h : Q (.ref f, [.ref x]) s) : wpAny M A (getMethod (.ref x) name pl) Q E s :=
  gm_any kf X a hf (looks_typeIn X ht) (by decide +kernel) hn h

theorem gm_bi {name : Str} {i : String} {pl : Sem Bool} {Q : Value × List Value → Shared → Prop} (kf : KF K) (X : K.In s.heap) (a : Acc s.heap x dx vs sz)
    (hf : findIn K (.ref 94) name = some (some (.builtin i))) (ht : typeOf (.builtin i) = pure (.type "method_descriptor"))
    (hn : name ≠ "_initial_size") (h : Q (.builtin i, [.ref x]) s) : wpAny M A (getMethod (.ref x) name pl) Q E s :=
  gm_any kf X a hf (Looks.of_pure ht) (by decide +kernel) hn h
end

section
variable {prog : Program} {w : World} {A : Around} {E : Value → Shared → Prop} {s : Shared}

/-- a method or slot of list called upon anything that is a list -/
theorem code_own {id n : String} {b : Builtin} {self : Value} {rest : List Value} {R : Result → Shared → Prop} (hk : builtinKind id = some .slot ∨ builtinKind id = some .method) (hs : splitId id = some ("list", n)) (hp : plainId id = true)
    (he : entryFor table id = some b) (ha : argsOk id ⟨self :: rest, []⟩) (hi : Looks (model prog w) s.heap (isInstance self (.type "list")) true)
    (hc : wpAny (model prog w) A.in1 (b ⟨self :: rest, []⟩) (fun fin s' => match fin with | .done f => R (.ok f) s' | .again c' => c'.quiet = true ∧ codeAny (model prog w) A c' R s') (fun e s' => R (.error e) s') s) :
    codeAny (model prog w) A (.call (.builtin id) ⟨self :: rest, []⟩) R s := by
  refine codeAny_call_builtin hp he ?_
  rcases hk with h | h <;>
  · simp only [checkBuiltinCall, h, hs]
    refine wpAny_bind (hi.here ?_)
    simp only [Bool.not_true, Bool.false_eq_true, if_false]
    cases hsig : Manifest.signature? id with
    | none => exact wpAny_pure hc
    | some sig =>
      simp only [argsOk, hsig] at ha
      have h2 : Bind.checkArgs id sig ⟨self :: rest, []⟩ = pure () := ha
      show wpAny _ _ (Bind.checkArgs id sig ⟨self :: rest, []⟩) _ _ _
      rw [h2]; exact wpAny_pure hc

theorem call_own {id n : String} {b : Builtin} {self : Value} {rest : List Value} {Q : Value → Shared → Prop} (hk : builtinKind id = some .slot ∨ builtinKind id = some .method) (hs : splitId id = some ("list", n)) (hp : plainId id = true)
    (he : entryFor table id = some b) (ha : argsOk id ⟨self :: rest, []⟩) (hi : Looks (model prog w) s.heap (isInstance self (.type "list")) true)
    (hc : wpAny (model prog w) A.in1 (b ⟨self :: rest, []⟩) (fun fin s' => ∃ v, fin = .done (.ret v) ∧ Q v s') E s) : wpAny (model prog w) A (call (.builtin id) (self :: rest)) Q E s := by
  refine wpAny_call (code_own hk hs hp he ha hi (wpAny_mono hc (fun fin s' h' => ?_) fun _ _ h' => h'))
  obtain ⟨v, rfl, hv⟩ := h'
  exact hv
end
end Mine
namespace Mine
open PySem PySem.W PySem.Calls PyProof.Rows

theorem NoLimit.of (K : Frag) (kf : KF K) {h : Heap} (X : K.In h) : h.NoLimit :=
  ⟨fun _ => none, ⟨_, #[], 0, X _ _ kf.lim, rfl, fun _ he => by simp at he, fun _ => rfl⟩, rfl⟩

section
variable {K : Frag} {w : World} {A : Around} {E : Value → Shared → Prop} {s : Shared} {env : Env}

/-- a def of the class is called: its body in a new frame -/
theorem code_meth {f : Addr} {fd : FuncData} {body : List Stmt} {args : List Value} {binds : List (Str × Value)} {R : Result → Shared → Prop} (kf : KF K) (X : K.In s.heap) (ho : K.lookup f = some (fnO fd)) (hcd : codeIn K fd.code fd.qualname = true)
    (hbody : fd.body = .stmts body) (hroom : A.depth < recursionLimit) (hbind : BindsTo s fd ⟨args, []⟩ binds) (hcell : ∀ x ∈ fd.scope.names, x.2 ≠ .cell) (hloc : ∀ x ∈ binds, fd.scope.names.lookup x.1 = some .local)
    (h : ∀ s₀ L, L = s.heap.objs.size → Step [] s s₀ → s₀.heap.Ns L (fun x => binds.reverse.lookup x) → ∀ E', 
      wpAny (model prg w) (A.deeper (callEnv fd L f)) (execs body (callEnv fd L f)) (fun fl s' => R (.ok (.ret (match fl with | .ret v => v | _ => .none))) s') E' s₀)
    (hco : fd.scope.isCoroutine = false := by rfl) (hgen : fd.scope.isGenerator = false := by rfl) (hk : fd.scope.kind = .function := by rfl) :
    codeAny (model prg w) A (.call (.ref f) ⟨args, []⟩) R s :=
  codeAny_call_def hroom (X _ _ ho) rfl (NoLimit.of K kf X) (codeRec_of X hcd) hbody hbind hcell hloc (fun _ hn hk₀ => h _ _ rfl (.heap (.stays hk₀)) hn _) hco hgen hk

theorem eTuple {prog : Program} {elts : List Expr} {k : Nat} {pos : Pos} {Q : Value → Shared → Prop}
    (h : wpAny (model prog w) A (spliced (backTo pos (starEach elts env)))
      (fun vs s₁ => vs.length ≤ 1000 ∧ ∀ s₂ T, Step [] s₁ s₂ → s₂.heap.IsTuple T vs.toArray → Q (.ref T) s₂) E s) : wpAny (model prog w) A (eval (.Tuple elts k pos) env) Q E s :=
  wpAny_Tuple (wpAny_mono h (fun _ s₁ z => ⟨by rw [sizeLine_eq]; omega, z.2 _ _ ⟨.push _, rfl, id⟩ ⟨_, Heap.get?_push_size _ rfl, rfl, 0, rfl⟩⟩) fun _ _ e => e)
theorem eList {prog : Program} {elts : List Expr} {pos : Pos} {Q : Value → Shared → Prop}
    (h : wpAny (model prog w) A (spliced (backTo pos (starEach elts env)))
      (fun vs s₁ => vs.length ≤ 1000 ∧ ∀ s₂ T, Step [] s₁ s₂ → s₂.heap.get? T = some { cls := .type "list", data := .seq vs.toArray } → Q (.ref T) s₂) E s) : wpAny (model prog w) A (eval (.List elts pos) env) Q E s :=
  wpAny_List (wpAny_mono h (fun _ s₁ z => ⟨by rw [sizeLine_eq]; omega, z.2 _ _ ⟨.push _, rfl, id⟩ (Heap.get?_push_size _ rfl)⟩) fun _ _ e => e)
theorem eInt {prog : Program} {i k pos} {Q : Value → Shared → Prop} (h : ∀ t s₁, Step [] s s₁ → Q (.int i t) s₁) : wpAny (model prog w) A (eval (.Constant (.int i) k pos) env) Q E s :=
  wpAny_Constant_int (h _ _ .toks)
theorem eStr {prog : Program} {x : Str} {k pos} {Q : Value → Shared → Prop} (h : ∀ t s₁, Step [] s s₁ → Q (.str x t) s₁) : wpAny (model prog w) A (eval (.Constant (.str x) k pos) env) Q E s :=
  wpAny_Constant_str (h _ _ .toks)

theorem wp_MCall {prog : Program} {o : Expr} {name : Str} {apos pos : Pos} {args : List Expr} {Q : Value → Shared → Prop}
    (hbase : attributeBase o name env (eval o env) = eval o env)
    (hfew : methodCallForm (args.length + 0) (backTo pos (starEach args env)) (backToKw pos (keywordEach [] env)) = true)
    (hline : (apos.endLine == pos.line) = true)
    (h : wpAny (model prog w) A (eval o env) (fun ov s₁ => ∀ pl, wpAny (model prog w) A (getMethod ov name pl) (fun fr s₂ => wpAny (model prog w) A (callWith pos fr.1 fr.2 (backTo pos (starEach args env)) []) Q E s₂) E s₁) E s) :
    wpAny (model prog w) A (eval (.Call (.Attribute o name apos) args [] pos) env) Q E s := by
  rw [arm_eval_Call, hbase]
  refine wpAny_bind (wpAny_mono h (fun ov s₁ h₁ => ?_) fun _ _ e => e)
  refine wpAny_bind (wpAny_standAt ?_)
  have hpos : methodCallPos true o env apos pos = pure pos := by unfold methodCallPos; simp [hline]
  unfold methodCall
  have hform : methodCallForm (args.length + ([] : List Keyword).length) (backTo pos (starEach args env)) (backToKw pos (keywordEach [] env)) = true := hfew
  rw [hform]
  refine wpAny_bind (wpAny_holding (wpAny_mono (h₁ _) (fun fr s₂ h₂ => ?_) fun _ _ e => e))
  exact wpAny_bind (wpAny_of_eq hpos h₂)

theorem cw_fn0 {prog : Program} {pos : Pos} {f : Addr} {o : Obj} {fd : FuncData} {first : List Value} {Q : Value → Shared → Prop} (ho : s.heap.get? f = some o) (hd : o.data = .func fd)
    (h : wpAny (model prog w) A (call (.ref f) first) Q E s) : wpAny (model prog w) A (callWith pos (.ref f) first [] []) Q E s :=
  callWith_function (PySem.evalArgs_none ⟨⟨ho, hd⟩, by simpa using h⟩)
theorem cw_fn {prog : Program} {pos : Pos} {f : Addr} {o : Obj} {fd : FuncData} {first : List Value} {t : Sem Value} {ts : List (Bool × Sem Value)} {Q : Value → Shared → Prop} (hd : o.data = .func fd)
    (h : wpAny (model prog w) A (spliced ((false, t) :: ts)) (fun vs s₁ => s₁.heap.get? f = some o ∧ wpAny (model prog w) A (call (.ref f) (first ++ vs)) Q E s₁) E s) : wpAny (model prog w) A (callWith pos (.ref f) first ((false, t) :: ts) []) Q E s :=
  callWith_function (evalArgs_plain (wpAny_mono h (fun _ _ z => ⟨⟨z.1, hd⟩, z.2⟩) fun _ _ e => e))
theorem cw_bi0 {prog : Program} {pos : Pos} {id : String} {first : List Value} {Q : Value → Shared → Prop}
    (h : wpAny (model prog w) A (call (.builtin id) first) Q E s) : wpAny (model prog w) A (callWith pos (.builtin id) first [] []) Q E s :=
  callWith_builtin rfl (PySem.evalArgs_none (by simpa using h))
theorem cw_bi {prog : Program} {pos : Pos} {id : String} {first : List Value} {t : Sem Value} {ts : List (Bool × Sem Value)} {Q : Value → Shared → Prop} (hp : ((false, t) :: ts).any (·.1) = false)
    (h : wpAny (model prog w) A (spliced ((false, t) :: ts)) (fun vs s₁ => wpAny (model prog w) A (call (.builtin id) (first ++ vs)) Q E s₁) E s) : wpAny (model prog w) A (callWith pos (.builtin id) first ((false, t) :: ts) []) Q E s :=
  callWith_builtin hp (evalArgs_plain h)

theorem cw_fnE {prog : Program} {pos p' : Pos} {f : Addr} {o : Obj} {fd : FuncData} {first : List Value} {e : Expr} {rest : List Expr} {Q : Value → Shared → Prop} (hd : o.data = .func fd)
    (h : wpAny (model prog w) A (spliced (backTo p' (starEach (e :: rest) env))) (fun vs s₁ => s₁.heap.get? f = some o ∧ wpAny (model prog w) A (call (.ref f) (first ++ vs)) Q E s₁) E s)
    (he : starEach (e :: rest) env = (false, eval e env) :: starEach rest env := by rfl) : wpAny (model prog w) A (callWith pos (.ref f) first (backTo p' (starEach (e :: rest) env)) []) Q E s := by
  have q : backTo p' (starEach (e :: rest) env) = (false, eval e env) :: backTo p' (starEach rest env) := by rw [he]; rfl
  rw [q] at h ⊢
  exact cw_fn hd h
theorem cw_biE {prog : Program} {pos p' : Pos} {id : String} {first : List Value} {e : Expr} {rest : List Expr} {Q : Value → Shared → Prop} (hp : (backTo p' (starEach (e :: rest) env)).any (·.1) = false)
    (h : wpAny (model prog w) A (spliced (backTo p' (starEach (e :: rest) env))) (fun vs s₁ => wpAny (model prog w) A (call (.builtin id) (first ++ vs)) Q E s₁) E s)
    (he : starEach (e :: rest) env = (false, eval e env) :: starEach rest env := by rfl) : wpAny (model prog w) A (callWith pos (.builtin id) first (backTo p' (starEach (e :: rest) env)) []) Q E s := by
  have q : backTo p' (starEach (e :: rest) env) = (false, eval e env) :: backTo p' (starEach rest env) := by rw [he]; rfl
  rw [q] at h hp ⊢
  exact cw_bi hp h

/-- a name of the frame -/
theorem ldL {prog : Program} {x : Str} {pos : Pos} {m : Str → Option Value} {v : Value} {Q : Value → Shared → Prop} (hn : s.heap.Ns env.locals m) (hv : m x = some v) (h : Q v s)
    (hk : env.scope.kind = .function := by rfl) (hl : env.kindOf x = some .local := by rfl) (hd : (x == ("__debug__" : Str)) = false := by decide) :
    wpAny (model prog w) A (eval (.Name x pos) env) Q E s := wpAny_Name (wpAny_loadName_local hk hl hn hv h) hd

theorem ldB {x : Str} {pos : Pos} {v : Value} {Q : Value → Shared → Prop} (X : K.In s.heap) (hg : nsIn K env.globals x = some none) (hb : nsIn K env.builtins x = some (some v)) (h : Q v s)
    (hk : env.scope.kind = .function := by rfl) (hl : env.kindOf x = some .globalImplicit := by rfl) (hd : (x == ("__debug__" : Str)) = false := by decide) : wpAny (model prg w) A (eval (.Name x pos) env) Q E s := by
  refine Name_function_global hk hl ?_ hd
  unfold loadGlobal
  refine wpAny_bind ((looks_nsIn X hg).here ?_)
  exact wpAny_bind ((looks_nsIn X hb).here (wpAny_pure h))
theorem ldG {x : Str} {pos : Pos} {v : Value} {Q : Value → Shared → Prop} (X : K.In s.heap) (hg : nsIn K env.globals x = some (some v)) (h : Q v s)
    (hk : env.scope.kind = .function := by rfl) (hl : env.kindOf x = some .globalImplicit := by rfl) (hd : (x == ("__debug__" : Str)) = false := by decide) : wpAny (model prg w) A (eval (.Name x pos) env) Q E s := by
  refine Name_function_global hk hl ?_ hd
  unfold loadGlobal
  exact wpAny_bind ((looks_nsIn X hg).here (wpAny_pure h))

theorem stL {prog : Program} {x : Str} {L : Addr} {m : Str → Option Value} {v : Value} {Q : Unit → Shared → Prop} (hn : s.heap.Ns L m)
    (h : ∀ s', Step [L] s s' → s'.heap.Ns L (fun y => if y = x then some v else m y) → Q () s') (hL : env.locals = L := by rfl)
    (hl : env.kindOf x = some .local := by rfl) (hp : (env.scope.kind == .class || (env.scope.kind == .module && env.locals != env.globals)) = false := by rfl) : wpAny (model prog w) A (storeName env x v) Q E s := by
  subst hL
  exact wpAny_storeName_local hl hn (fun _ hn' hs => h _ ⟨.same hs (by simp), rfl, id⟩ hn') hp
theorem ns_ne {h : Heap} {L r : Addr} {m : Str → Option Value} {o : Obj} (n : h.Ns L m) (e : h.get? r = some o) (hd : ∀ es k, o.data ≠ .dict es k) : r ∉ [L] := by
  simp only [List.mem_singleton]
  rintro rfl
  obtain ⟨o', es, ep, ho, hd', _⟩ := n
  rw [e] at ho; cases ho
  exact hd _ _ hd'

theorem updateSeq_ {M : Model} {a : Addr} {c : Value} {d : Option Addr} {xs : Array Value} {n : Nat} {sl : Array (Option Value)} {f : Array Value → Array Value} {Q : Unit → Shared → Prop}
    (ho : s.heap.get? a = some ⟨c, d, .seq xs n, sl⟩) (hsz : (f xs).size ≤ sizeLine + 1)
    (h : ∀ h' n', Keep [a] s.heap h' → h'.get? a = some ⟨c, d, .seq (f xs) n', sl⟩ → Q () { s with heap := h' }) : wpAny M A (updateSeq a f) Q E s := by
  unfold updateSeq
  refine wpAny_bind (wpAny_load ho ?_)
  dsimp only
  refine wpAny_bind (wpAny_update ho ?_)
  have hget := Heap.get?_update_self (h := s.heap) (Obj.mapSeq f) ho (o := ⟨c, d, .seq xs n, sl⟩) rfl
  refine wpAny_lookBehind hget ?_ (h _ _ (Keep.same (Heap.SameBut.update ..) (by simp)) hget)
  show (if (f xs).size > sizeLine + 1 then some "sequence:memory" else none) = none
  rw [if_neg (by omega)]
end
end Mine
namespace Mine
open PySem PySem.W PySem.Calls PyProof.Rows

section
variable {K : Frag} {w : World} {A : Around} {E : Value → Shared → Prop} {s : Shared} {x dx : Addr} {vs : List Value} {sz : Int}

theorem append_own {v : Value} {Q : Value → Shared → Prop} (kf : KF K) (X : K.In s.heap) (a : Acc s.heap x dx vs sz) (hsz : vs.length ≤ 1000)
    (h : ∀ s', Step [x] s s' → Acc s'.heap x dx (vs ++ [v]) sz → Q .none s') :
    wpAny (model prg w) A (call (.builtin "list.append") [.ref x, v]) Q E s := by
  obtain ⟨n, hx⟩ := a.x
  refine call_own (n := "append") (.inr (by decide +kernel)) (by decide +kernel) (by decide +kernel) PySem.F.entry_list_append (PySem.F.args_list_append_2 _ _) (a.isList kf X) ?_
  unfold Builtin.«list.append»
  refine wpAny_bind (m := selfAndOne "list.append" _) (wpAny_pure ?_)
  refine wpAny_bind (m := PySem.Builtin.List.listUpdate (.ref x) _) (updateSeq_ hx (by simp [sizeLine_eq]; omega) fun h' n' k e => wpAny_pure ⟨_, rfl, ?_⟩)
  refine h _ (Step.heap k) ⟨⟨n', by simpa using e⟩, ?_⟩
  obtain ⟨hs, t, tk, m, e'⟩ := a.d
  exact ⟨hs, t, tk, m, k _ _ (by simpa using a.ne.symm) e'⟩

theorem bind_push (s : Shared) (a b c : Value) : BindsTo s fdPush ⟨[a, b, c], []⟩ [("self", a), ("fws", b), ("string", c)] := BindsTo.of_eq rfl

theorem push_code {p q : Str} {t u : Tok} {R : Result → Shared → Prop} (kf : KF K) (X : K.In s.heap) (a : Acc s.heap x dx vs sz) (hsz : vs.length ≤ 1000) (hd : A.depth + 10 < recursionLimit)
    (h : ∀ s' v, Step [x] s s' → IsPair s'.heap v (p, q) → Acc s'.heap x dx (vs ++ [v]) sz → R (.ok (.ret .none)) s') :
    codeAny (model prg w) A (.call (.ref 38) ⟨[.ref x, .str p t, .str q u], []⟩) R s := by
  refine code_meth kf X kf.oPush kf.cPush rfl ?_ (bind_push _ _ _ _) (by decide) (locs rfl) (fun s₀ L hL st ns E' => ?_)
  · omega
  have X₀ := X.keeps st.keep.nil
  have a₀ := a.stays st.keep
  refine wpAny_execs_cons (wpAny_Expr ?_)
  refine wp_MCall rfl rfl rfl (ldL ns rfl (fun pl => ?_))
  refine gm_bi kf X₀ a₀ kf.f_append PySem.F.type_list_append (by decide) ?_
  refine cw_biE rfl (wpAny_items_cons (eTuple (wpAny_items_cons (ldL ns rfl (wpAny_items_cons (ldL ns rfl (wpAny_items_nil ⟨by simp, fun s₁ T st₁ hT => wpAny_items_nil ?_⟩)))))))
  refine append_own kf (X₀.keeps st₁.keep.nil) (a₀.stays st₁.keep) hsz fun s₂ st₂ a₂ => wpAny_execs_nil ?_
  refine h _ _ ((st.trans st₁).up.trans st₂) ⟨T, t, u, rfl, ?_⟩ a₂
  obtain ⟨n, e⟩ := a₀.x
  have := Heap.lt_size e
  exact isTuple_keep hT st₂.keep (by simp; intro q; obtain ⟨o, ho, hc, _⟩ := hT; obtain ⟨n, e⟩ := (a₀.stays st₁.keep).x; rw [q, e] at ho; cases ho; cases hc)
end
end Mine
namespace Mine
open PySem PySem.W PySem.Calls PyProof.Rows

theorem pick_from (items : Array Value) (a : Nat) : slicePick items (some (a : Int)) none none = (items.toList.drop a).toArray := by
  by_cases h : a ≤ items.size
  · exact slicePick_from items a h
  · have e : slicePick items (some (a : Int)) none none = slicePick items (some (items.size : Int)) none none := by
      unfold slicePick sliceBounds
      simp only [Option.getD_none, show (1 : Int) > 0 by decide, if_true, show ¬ ((a : Int) < 0) by omega, show ¬ ((items.size : Int) < 0) by omega, if_false]
      have : max 0 (min (a : Int) (items.size : Int)) = max 0 (min (items.size : Int) (items.size : Int)) := by omega
      rw [this]
    rw [e, slicePick_from items items.size (Nat.le_refl _), List.drop_eq_nil_of_le (by simp), List.drop_eq_nil_of_le (by simp; omega)]
theorem pick_upto (items : Array Value) (b : Nat) : slicePick items none (some (b : Int)) none = (items.toList.take b).toArray := by
  by_cases h : b ≤ items.size
  · exact slicePick_upto items b h
  · have e : slicePick items none (some (b : Int)) none = slicePick items none (some (items.size : Int)) none := by
      unfold slicePick sliceBounds
      simp only [Option.getD_none, show (1 : Int) > 0 by decide, if_true, show ¬ ((b : Int) < 0) by omega, show ¬ ((items.size : Int) < 0) by omega, if_false]
      have : max 0 (min (b : Int) (items.size : Int)) = max 0 (min (items.size : Int) (items.size : Int)) := by omega
      rw [this]
    rw [e, slicePick_upto items items.size (Nat.le_refl _), List.take_of_length_le (by simp), List.take_of_length_le (by simp; omega)]

section
variable {K : Frag} {w : World} {A : Around} {E : Value → Shared → Prop} {s : Shared} {x dx : Addr} {vs : List Value} {sz : Int}

theorem seqKey_own {M : Model} {k : Value} {name : Str} {Q : Value → Shared → Prop} (kf : KF K) (X : K.In s.heap) (a : Acc s.heap x dx vs sz) (h : Q k s) : wpAny M A (sequenceKey (.ref x) k name) Q E s := by
  unfold sequenceKey
  refine wpAny_bind (a.type.here ?_)
  refine wpAny_bind ((anyM_none X kf.noseq).here ?_)
  rw [if_pos (show (!false) = true from rfl)]
  exact wpAny_pure h

theorem callSpecial_own {M : Model} {name : Str} {i : String} {args : List Value} {Q : Option Value → Shared → Prop} (X : K.In s.heap) (a : Acc s.heap x dx vs sz)
    (hf : findIn K (.ref 94) name = some (some (.builtin i))) (hb : ∀ self, bindSpecial (.builtin i) self = pure (.builtin i, [self]))
    (h : wpAny M A (call (.builtin i) (.ref x :: args)) (fun v => Q (some v)) E s) : wpAny M A (callSpecial? (.ref x) name args) Q E s := by
  unfold callSpecial?
  refine wpAny_bind ((a.special X hf).here ?_)
  refine wpAny_holding ?_
  rw [hb]
  exact wpAny_bind (wpAny_pure (wpAny_bind (wpAny_mono h (fun _ _ z => wpAny_pure z) fun _ _ z => z)))

theorem listSub_none {M : Model} {sl : Addr} {Q : Option Int → Shared → Prop} (hTs : s.TypeIs (.ref sl) "slice") (h : Q none s) : wpAny M A (Builtin.List.listSubscript? (.ref sl)) Q E s := by
  unfold Builtin.List.listSubscript?
  refine wpAny_bind (wpAny_specialOf hTs slice_no_index ?_)
  simp only [Option.isNone_none, if_true]
  exact wpAny_pure h
theorem listItems_ {M : Model} {a : Addr} {o : Obj} {its : Array Value} {n : Nat} {Q : Array Value → Shared → Prop} (ho : s.heap.get? a = some o) (hd : o.data = .seq its n) (h : Q its s) : wpAny M A (Builtin.List.listItems (.ref a)) Q E s := by
  unfold Builtin.List.listItems
  exact wpAny_bind (wpAny_seqItems ho hd (wpAny_pure h))
theorem sliceParts_ {M : Model} {sl : Addr} {vl vu : Value} {lo hi : Option Int} {Q : Value × Value × Value → Shared → Prop} (hs : s.heap.IsSliceOf sl vl vu .none) (pl : IsPart vl lo) (pu : IsPart vu hi)
    (h : Q (rawPart lo, rawPart hi, .none) s) : wpAny M A (Builtin.List.listSliceParts (.ref sl)) Q E s := by
  obtain ⟨os, hos, hcs, hds⟩ := id hs
  rw [listSliceParts_eq]
  refine wpAny_bind (wpAny_field hos hds (x := .none) rfl (wpAny_bind (wpAny_listPart .none ?_)))
  rw [if_neg (show ¬ ((rawPart none == rawInt 0) = true) from Bool.false_ne_true)]
  refine wpAny_bind (wpAny_field hos hds (x := vl) rfl (wpAny_bind (wpAny_listPart pl ?_)))
  exact wpAny_bind (wpAny_field hos hds (x := vu) rfl (wpAny_bind (wpAny_listPart pu (wpAny_pure h))))

theorem getSlice_own {sl : Addr} {vl vu : Value} {lo hi : Option Int} {Q : Value → Shared → Prop} (kf : KF K) (X : K.In s.heap) (a : Acc s.heap x dx vs sz) (hsz : vs.length ≤ 1000)
    (hs : s.heap.IsSliceOf sl vl vu .none) (pl : IsPart vl lo) (pu : IsPart vu hi)
    (h : ∀ s' r, Step [] s s' → s'.heap.get? r = some { cls := .type "list", data := .seq (slicePick vs.toArray lo hi none) } → Q (.ref r) s') : wpAny (model prg w) A (getItem (.ref x) (.ref sl)) Q E s := by
  obtain ⟨n, hx⟩ := a.x
  obtain ⟨os, hos, hcs, hds⟩ := id hs
  have hTs : s.TypeIs (.ref sl) "slice" := ⟨os, hos, hcs⟩
  unfold getItem
  refine wpAny_holding ?_
  refine wpAny_bind (seqKey_own kf X a ?_)
  refine wpAny_bind (callSpecial_own X a kf.f_getitem PySem.F.slot_list_getitem.bind
    (call_own (n := "__getitem__") (.inr (by decide +kernel)) (by decide +kernel) (by decide +kernel) PySem.F.entry_list_getitem (PySem.F.args_list_getitem_2 _ _) (a.isList kf X) ?_))
  show wpAny _ _ (Builtin.List.listSubscript? (.ref sl) >>= _) _ _ s
  refine wpAny_bind (listSub_none hTs ?_)
  refine wpAny_bind (wpAny_typeOf hTs ?_)
  rw [if_neg (by decide)]
  refine wpAny_bind (sliceParts_ hs pl pu ?_)
  refine wpAny_bind (listItems_ hx rfl ?_)
  refine wpAny_bind (wpAny_of_eq (sliceIndices_raw lo hi none vs.toArray.size (by simp)) ?_)
  refine wpAny_bind (wpAny_newObj_type (wpAny_pure ⟨_, rfl, wpAny_pure (h _ _ ⟨.push _, rfl, id⟩ (Heap.get?_push_size _ rfl))⟩) ?_)
  refine Nat.le_trans (slicePick_size_le vs.toArray lo hi none) ?_
  simp [sizeLine_eq]; omega

theorem setSlice_own {sl v : Addr} {vl vu : Value} {lo hi : Option Int} {new : List Value} {i j : Nat} {Q : Unit → Shared → Prop} (kf : KF K) (X : K.In s.heap) (a : Acc s.heap x dx vs sz) (hsz : vs.length ≤ 1000)
    (hs : s.heap.IsSliceOf sl vl vu .none) (pl : IsPart vl lo) (pu : IsPart vu hi) (hv : s.heap.IsList v new.toArray) (hn : new.length ≤ 1000)
    (hb : sliceBounds lo hi none vs.length = ((i : Int), (j : Int), 1)) (hij : i ≤ j)
    (h : ∀ s', Step [x] s s' → Acc s'.heap x dx (vs.take i ++ new ++ vs.drop j) sz → Q () s') : wpAny (model prg w) A (setItem (.ref x) (.ref sl) (.ref v)) Q E s := by
  obtain ⟨n, hx⟩ := a.x
  obtain ⟨os, hos, hcs, hds⟩ := id hs
  obtain ⟨ov, hov, hcv, nv, hdv⟩ := id hv
  have hTs : s.TypeIs (.ref sl) "slice" := ⟨os, hos, hcs⟩
  have hxv : v ≠ x := by rintro rfl; rw [hx] at hov; cases hov; cases hcv
  unfold setItem
  refine wpAny_holding ?_
  refine wpAny_bind (seqKey_own kf X a ?_)
  refine wpAny_bind (callSpecial_own X a kf.f_setitem PySem.F.slot_list_setitem.bind
    (call_own (n := "__setitem__") (.inl (by decide +kernel)) (by decide +kernel) (by decide +kernel) PySem.F.entry_list_setitem (PySem.F.args_list_setitem_3 _ _ _) (a.isList kf X) ?_))
  unfold Builtin.«list.__setitem__»
  refine wpAny_bind (m := Builtin.List.listBlankSlotArgs _ _ _) (wpAny_pure ?_)
  refine wpAny_bind (listSub_none hTs ?_)
  refine wpAny_bind (wpAny_typeOf hTs ?_)
  rw [if_neg (by decide)]
  refine wpAny_bind (sliceParts_ hs pl pu ?_)
  have hne : Builtin.List.listSameRef (.ref x) (.ref v) = false := by simp [Builtin.List.listSameRef]; exact fun q => hxv q.symm
  rw [hne]
  refine wpAny_bind ?_
  show wpAny _ _ (Builtin.List.listAllItems (.ref v) _) _ _ _
  unfold Builtin.List.listAllItems
  refine wpAny_bind (wpAny_typeOf (T := "list") ⟨ov, hov, hcv⟩ ?_)
  rw [if_pos (by decide)]
  refine listItems_ hov hdv ?_
  refine wpAny_bind (listItems_ (s := s) hx rfl ?_)
  refine wpAny_bind (wpAny_of_eq (sliceIndices_raw lo hi none vs.toArray.size (by simp)) ?_)
  rw [show vs.toArray.size = vs.length from by simp, hb]
  have hmax : max (i : Int) (j : Int) = (j : Int) := by omega
  have hnot : Builtin.List.listTooLong (vs.length + new.toArray.size) = false := by simp [Builtin.List.listTooLong, sizeLine_eq]; omega
  dsimp only
  rw [if_pos (show ((1 : Int) == 1) = true from rfl)]
  refine wpAny_bind (wpAny_rule ?_)
  rw [hnot, if_neg Bool.false_ne_true]
  refine wpAny_bind (m := Builtin.List.listUpdate (.ref x) _) ?_
  have hf : ∀ xs : Array Value, (xs.extract 0 (i : Int).toNat ++ new.toArray ++ xs.extract (max (i : Int) (j : Int)).toNat) = (xs.toList.take i ++ new ++ xs.toList.drop j).toArray := fun xs => by
    rw [hmax]
    apply Array.ext'
    simp
    rw [List.take_of_length_le (by simp)]
  refine updateSeq_ hx (by rw [hf]; simp [sizeLine_eq]; omega) fun h' n' k e => wpAny_bind (wpAny_letGo (wpAny_pure ⟨_, rfl, ?_⟩))
  refine wpAny_pure (h _ ⟨k, rfl, id⟩ ⟨⟨n', ?_⟩, ?_⟩)
  · rw [hf] at e; exact e
  · obtain ⟨hs, t, tk, m, e'⟩ := a.d
    exact ⟨hs, t, tk, m, k _ _ (by simpa using a.ne.symm) e'⟩

theorem subSlice {prog : Program} {env : Env} {value : Expr} {lower upper : Option Expr} {p pos : Pos} {Q : Value → Shared → Prop}
    (h : wpAny (model prog w) A (eval value env) (fun o s₁ => wpAny (model prog w) A (eval (.Slice lower upper none p) env) (fun i s₂ => Looks (model prog w) s₂.heap (getitemInPython o) false ∧ wpAny (model prog w) A (getItem o i) Q E s₂) E s₁) E s)
    (ht : ∀ o r, letTemporaryGo value o r = pure () := by intro _ _; rfl) :
    wpAny (model prog w) A (eval (.Subscript value (.Slice lower upper none p) pos) env) Q E s := by
  rw [arm_eval_Subscript]
  refine wpAny_bind (wpAny_mono h (fun o s₁ h₁ => wpAny_bind (wpAny_holding (wpAny_mono h₁ (fun i s₂ h₂ => wpAny_bind (wpAny_standAt ?_)) fun _ _ x => x))) fun _ _ x => x)
  refine wpAny_bind (h₂.1.here ?_)
  refine wpAny_bind (m := subscripted _ _ _ _) ?_
  show wpAny _ _ (operate [i, o] (getItem o i)) _ _ _
  exact wpAny_operateT (wpAny_mono h₂.2 (fun r s₃ h₃ => wpAny_bind (wpAny_of_eq (ht o r) (wpAny_pure h₃))) fun _ _ x => x)

theorem inPython_own {M : Model} {h : Heap} (kf : KF K) (X : K.In h) (a : Acc h x dx vs sz) : Looks M h (getitemInPython (.ref x)) false := by
  unfold getitemInPython
  exact (a.special X kf.f_getitem).andThen .now
theorem inPython_list {M : Model} {h : Heap} {l : Addr} {its : Array Value} (hl : h.IsList l its) : Looks M h (getitemInPython (.ref l)) false := by
  unfold getitemInPython
  obtain ⟨o, ho, hc, _⟩ := hl
  refine Looks.andThen (a := some (.builtin "list.__getitem__")) (Looks.andThen (a := .type "list") ?_ (Looks.of_pure PySem.F.slot_list_getitem.lookup)) .now
  exact hc ▸ (Looks.ld ho).andThen .now

theorem eSlice {prog : Program} {env : Env} {lower upper : Option Expr} {p : Pos} {Q : Value → Shared → Prop}
    (h : wpAny (model prog w) A (evalPart lower env) (fun l s₁ => wpAny (model prog w) A (evalPart upper env) (fun u s₂ => ∀ s₃ sl, Step [] s₂ s₃ → s₃.heap.IsSliceOf sl l u .none → Q (.ref sl) s₃) E s₁) E s) :
    wpAny (model prog w) A (eval (.Slice lower upper none p) env) Q E s := by
  refine wpAny_Slice (wpAny_mono h (fun l s₁ h₁ => wpAny_mono h₁ (fun u s₂ h₂ => ?_) fun _ _ e => e) fun _ _ e => e)
  rw [evalPart_none]
  exact wpAny_pure (h₂ _ _ ⟨.push _, rfl, id⟩ (.new ..))

theorem bind_popf (kf : KF K) (s : Shared) (X : K.In s.heap) (a b : Value) : BindsTo s fdPopF ⟨[a, b], []⟩ [("self", a), ("i", b)] :=
  binds_K X rfl kf.d39 rfl rfl rfl

theorem bounds_from (a n : Nat) : sliceBounds (some (a : Int)) none none n = (((min a n : Nat) : Int), (n : Int), 1) := by
  simp only [sliceBounds, Option.getD_none, show (1 : Int) > 0 by decide, if_true, show ¬ ((a : Int) < 0) by omega, if_false]
  congr 1; omega
theorem bounds_all (n : Nat) : sliceBounds none none none n = (((0 : Nat) : Int), (n : Int), 1) := by simp [sliceBounds]

theorem popf_code {k : Nat} {t : Tok} {R : Result → Shared → Prop} (kf : KF K) (X : K.In s.heap) (a : Acc s.heap x dx vs sz) (hsz : vs.length ≤ 1000) (hd : A.depth + 10 < recursionLimit)
    (h : ∀ s' r, Step [x] s s' → s'.heap.get? r = some { cls := .type "list", data := .seq (vs.drop k).toArray } → Acc s'.heap x dx (vs.take k) sz → R (.ok (.ret (.ref r))) s') :
    codeAny (model prg w) A (.call (.ref 46) ⟨[.ref x, .int k t], []⟩) R s := by
  refine code_meth kf X kf.oPopF kf.cPopF rfl ?_ (bind_popf kf s X _ _) (by decide) (locs rfl) (fun s₀ L hL st ns E' => ?_)
  · omega
  have X₀ := X.keeps st.keep.nil
  have a₀ := a.stays st.keep
  have hx := a₀.lt
  refine wpAny_execs_cons (wpAny_Assign_Name (subSlice (ldL ns rfl (eSlice (ldL ns rfl (wpAny_pure fun s₁ sl st₁ hsl => ⟨inPython_own kf (X₀.keeps st₁.keep.nil) (a₀.stays st₁.keep), ?_⟩))))))
  refine getSlice_own kf (X₀.keeps st₁.keep.nil) (a₀.stays st₁.keep) hsz hsl (.int _ _) .none fun s₂ r st₂ hr => ?_
  rw [pick_from] at hr
  have st₀₂ : Step [] s₀ s₂ := st₁.trans st₂
  refine stL (nsKeep ns st₀₂.keep (by simp)) fun s₃ st₃ ns₃ => ?_
  have st₃' : Step [] s s₃ := ((st.trans st₀₂).up.trans st₃).drop (Nat.le_of_eq hL.symm)
  have X₃ := X.keeps st₃'.keep.nil
  have a₃ := a.stays st₃'.keep
  have hr₃ := st₃.keep _ _ (ns_ne (nsKeep ns st₀₂.keep (by simp)) hr (fun _ _ z => by cases z)) hr
  refine wpAny_execs_cons (wpAny_Assign_Subscript (eList (wpAny_items_nil ⟨by simp, fun s₄ v st₄ hv => ldL (nsKeep ns₃ st₄.keep (by simp)) rfl (eSlice (ldL (nsKeep ns₃ st₄.keep (by simp)) rfl (wpAny_pure fun s₅ sl' st₅ hsl' => ?_)))⟩)))
  have st₃₅ : Step [] s₃ s₅ := st₄.trans st₅
  refine setSlice_own (lo := some (k : Int)) (hi := none) (new := []) kf (X₃.keeps st₃₅.keep.nil) (a₃.stays st₃₅.keep) hsz hsl' (.int _ _) .none ⟨_, st₅.keep.nil _ _ hv, rfl, 0, rfl⟩ (by simp) (bounds_from k vs.length) (Nat.min_le_right _ _) fun s₆ st₆ a₆ => ?_
  have ns₅ := nsKeep ns₃ st₃₅.keep (by simp)
  have hxL : L ∉ [x] := by
    have := a.lt.1
    simp only [List.mem_singleton]
    exact fun z => Nat.ne_of_lt this (z.symm.trans hL)
  refine wpAny_execs_cons (wpAny_Return_some (ldL (nsKeep ns₅ st₆.keep hxL) rfl ?_))
  refine h s₆ r (st₃'.trans st₃₅ |>.up.trans st₆) (st₆.keep _ _ ?_ (st₃₅.keep.nil _ _ ?_)) ?_
  · simp only [List.mem_singleton]
    rintro rfl
    obtain ⟨n, e⟩ := a₃.x
    rw [e] at hr₃; cases hr₃
  · simpa using hr₃
  · have e : vs.take (min k vs.length) ++ [] ++ vs.drop vs.length = vs.take k := by
      simp [List.take_eq_take_iff]
    rw [← e]
    exact a₆
end
end Mine
namespace Mine
open PySem PySem.W PySem.Calls PyProof.Rows

theorem slot_wd_get : Slot "wrapper_descriptor" "__get__" "wrapper_descriptor.__get__" := .of (owner := "wrapper_descriptor") (n := "__get__") (by rw [typeLookup_type, builtinLookup_eq_fast]; kernel_rfl) (by decide +kernel) (by decide +kernel) (by decide +kernel)
  (by first | exact .inl (by decide +kernel) | exact .inr (by decide +kernel)) (by rw [isSubtype_type]; kernel_rfl)
theorem entry_wd_get : entryFor table "wrapper_descriptor.__get__" = some Builtin.«wrapper_descriptor.__get__» := entryFor_of_tree (by kernel_rfl)
theorem args_wd_get (a b c : Value) : argsOk "wrapper_descriptor.__get__" ⟨[a, b, c], []⟩ := by unfold argsOk; kernel_rfl
theorem slot_md_get : Slot "method_descriptor" "__get__" "method_descriptor.__get__" := .of (owner := "method_descriptor") (n := "__get__") (by rw [typeLookup_type, builtinLookup_eq_fast]; kernel_rfl) (by decide +kernel) (by decide +kernel) (by decide +kernel)
  (by first | exact .inl (by decide +kernel) | exact .inr (by decide +kernel)) (by rw [isSubtype_type]; kernel_rfl)
theorem entry_md_get : entryFor table "method_descriptor.__get__" = some Builtin.«method_descriptor.__get__» := entryFor_of_tree (by kernel_rfl)
theorem args_md_get (a b c : Value) : argsOk "method_descriptor.__get__" ⟨[a, b, c], []⟩ := by unfold argsOk; kernel_rfl
theorem type_list_len : typeOf (.builtin "list.__len__") = pure (.type "wrapper_descriptor") := by show builtinType _ = _; rw [builtinType_eq_fast]; kernel_rfl
theorem type_list_init : typeOf (.builtin "list.__init__") = pure (.type "wrapper_descriptor") := by show builtinType _ = _; rw [builtinType_eq_fast]; kernel_rfl
theorem own_len : (".".intercalate ("list.__len__".cutAt '.').dropLast) = "list" := by decide +kernel
theorem own_init : (".".intercalate ("list.__init__".cutAt '.').dropLast) = "list" := by decide +kernel
theorem own_pop : (".".intercalate ("list.pop".cutAt '.').dropLast) = "list" := by decide +kernel

section
variable {K : Frag} {w : World} {A : Around} {E : Value → Shared → Prop} {s : Shared} {x dx : Addr} {vs : List Value} {sz : Int}

theorem wd_get {i : String} {R : Result → Shared → Prop} (hi : Looks (model prg w) s.heap (isInstance (.ref x) (.type "list")) true) (ho : (".".intercalate (i.cutAt '.').dropLast) = "list")
    (ht : typeOf (.builtin i) = pure (.type "wrapper_descriptor"))
    (h : ∀ s' b, Step [] s s' → s'.heap.get? b = some { cls := .type "method-wrapper", data := .fields #[.builtin i, .ref x] } → R (.ok (.ret (.ref b))) s') :
    codeAny (model prg w) A (.call (.builtin "wrapper_descriptor.__get__") ⟨[.builtin i, .ref x, .ref 94], []⟩) R s := by
  refine codeAny_call_builtin slot_wd_get.plain entry_wd_get (slot_wd_get.check _ _ _ _ _ _ _ _ ht (args_wd_get _ _ _) ?_)
  unfold Builtin.«wrapper_descriptor.__get__»
  refine wpAny_bind (wpAny_of_eq (a := (.builtin i, some (.ref x), some (.ref 94))) rfl ?_)
  wp_delta
  refine wpAny_bind ?_
  wp_delta
  refine wpAny_bind ?_
  wp_delta
  wp_step
  wp_step
  rw [ho]
  refine hi.here ?_
  rw [if_neg (by decide)]
  refine wpAny_pure ?_
  refine wpAny_bind (m := newFields _ _) (wpAny_newObj_type (wpAny_pure (h _ _ ⟨.push _, rfl, id⟩ (Heap.get?_push_size _ rfl))) (by size_fits))

theorem md_get {i : String} {R : Result → Shared → Prop} (hi : Looks (model prg w) s.heap (isInstance (.ref x) (.type "list")) true) (ho : (".".intercalate (i.cutAt '.').dropLast) = "list")
    (ht : typeOf (.builtin i) = pure (.type "method_descriptor")) (hc : Manifest.toldItsClass.contains i = false)
    (h : ∀ s' b, Step [] s s' → s'.heap.get? b = some { cls := .type "builtin_function_or_method", data := .fields #[.builtin i, .ref x] } → R (.ok (.ret (.ref b))) s') :
    codeAny (model prg w) A (.call (.builtin "method_descriptor.__get__") ⟨[.builtin i, .ref x, .ref 94], []⟩) R s := by
  refine codeAny_call_builtin slot_md_get.plain entry_md_get (slot_md_get.check _ _ _ _ _ _ _ _ ht (args_md_get _ _ _) ?_)
  unfold Builtin.«method_descriptor.__get__»
  refine wpAny_bind (wpAny_of_eq (a := (.builtin i, some (.ref x), some (.ref 94))) rfl ?_)
  dsimp only
  rw [hc, if_neg (by decide)]
  wp_delta
  refine wpAny_bind ?_
  wp_delta
  refine wpAny_bind ?_
  wp_delta
  wp_step
  wp_step
  rw [ho]
  refine hi.here ?_
  rw [if_neg (by decide)]
  refine wpAny_pure ?_
  refine wpAny_bind (m := newFields _ _) (wpAny_newObj_type (wpAny_pure (h _ _ ⟨.push _, rfl, id⟩ (Heap.get?_push_size _ rfl))) (by size_fits))

theorem KF.nothingAbove (kf : KF K) {h : Heap} (X : K.In h) : Looks (model prg w) h (opaqueClassAbove (.ref 94)) none := looks_opaque X (by
  unfold nsIn
  rw [show K.lookup cStatics = _ from kf.lim]
  rfl)

/-- the method of super() that list has -/
theorem super_ga {so : Addr} {i T gid : String} {name : Str} {tk : Tok} {Q : Value → Shared → Prop} (kf : KF K) (X : K.In s.heap) (hx : x ≠ 94)
    (hso : s.heap.get? so = some { cls := .type "super", dict := none, data := .fields #[.ref 94, .ref x, .ref 94], slots := #[] })
    (hf : alongIn K name [.type "list", .type "object"] = some (some (.builtin i))) (ht : typeOf (.builtin i) = pure (.type T)) (hg : typeLookup (.type T) "__get__" = pure (some (.builtin gid))) (hn : (name == ("__class__" : Str)) = false)
    (h : codeAny (model prg w) A (.call (.builtin gid) ⟨[.builtin i, .ref x, .ref 94], []⟩) (fun r s' => match r with | .ok (.ret v) => Q v s' | .ok _ => False | .error e => E e s') s) :
    wpAny (model prg w) A (Builtin.«super.__getattribute__» ⟨[.ref so, .str name tk], []⟩) (fun fin s' => ∃ v, fin = .done (.ret v) ∧ Q v s') E s := by
  obtain ⟨hh, g, d, t, os⟩ := s
  dsimp only at X hso
  have hno := kf.nothingAbove (w := w) X
  have hC : Looks (model prg w) hh (mroOf (.ref 94)) [.ref 94, .type "list", .type "object"] := by
    have : clsIn K 94 = some { name := "_Accumulator", bases := [.type "list"], mro := [.ref 94, .type "list", .type "object"], ns := 93, qualname := "_Accumulator" } := by
      unfold clsIn; rw [kf.cls]
    exact (looks_clsIn X this).andThen .now
  have hl : (([.ref 94, .type "list", .type "object"] : List Value).dropWhile (· != .ref 94)).drop 1 = [.type "list", .type "object"] := by decide
  have hne : (Value.ref x == Value.ref 94) = false := by simp [hx]
  have hdt : ({ cls := .type "super", dict := none, data := .fields #[.ref 94, .ref x, .ref 94], slots := #[] } : Obj).data = .fields #[.ref 94, .ref x, .ref 94] := rfl
  have f0 : (#[.ref 94, .ref x, .ref 94] : Array Value)[0]? = some (.ref 94) := rfl
  have f1 : (#[.ref 94, .ref x, .ref 94] : Array Value)[1]? = some (.ref x) := rfl
  have f2 : (#[.ref 94, .ref x, .ref 94] : Array Value)[2]? = some (.ref 94) := rfl
  unfold Builtin.«super.__getattribute__»
  repeat (first
    | (with_reducible refine wpAny_field hso hdt f0 ?_) | (with_reducible refine wpAny_field hso hdt f1 ?_) | (with_reducible refine wpAny_field hso hdt f2 ?_)
    | (with_reducible refine ks_wpAny_notOpaque hno ?_)
    | (with_reducible refine Looks.at hC ?_; rw [hl])
    | (refine ks_forIn_along X (fun _ _ => rfl) rfl ?_ hf)
    | (with_reducible refine wpAny_of_eq ht ?_)
    | (with_reducible refine wpAny_of_eq hg ?_)
    | (simp only [hn, hne, Bool.or_false, Bool.false_eq_true, if_false])
    | wp_step
    | dsimp only)
  refine codeAny_mono h fun r s' hr => ?_
  rcases r with e | (_ | _ | _ | v)
  · exact hr
  · exact hr.elim
  · exact hr.elim
  · exact hr.elim
  · exact wpAny_bind (wpAny_pure (wpAny_pure (wpAny_pure ⟨_, rfl, hr⟩)))

theorem super_method {so : Addr} {i T gid : String} {name : Str} {pl : Sem Bool} {Q : Value × List Value → Shared → Prop} (kf : KF K) (X : K.In s.heap) (hx : x ≠ 94)
    (hso : s.heap.get? so = some { cls := .type "super", dict := none, data := .fields #[.ref 94, .ref x, .ref 94], slots := #[] })
    (hf : alongIn K name [.type "list", .type "object"] = some (some (.builtin i))) (ht : typeOf (.builtin i) = pure (.type T)) (hg : typeLookup (.type T) "__get__" = pure (some (.builtin gid))) (hn : (name == ("__class__" : Str)) = false)
    (h : ∀ A' : Around, codeAny (model prg w) A' (.call (.builtin gid) ⟨[.builtin i, .ref x, .ref 94], []⟩) (fun r s' => match r with | .ok (.ret (.ref b)) => Q (.ref b, []) s' | _ => False) { s with toks := s.toks + 1 }) :
    wpAny (model prg w) A (getMethod (.ref so) name pl) Q E s := by
  obtain ⟨hh, g, d, t, os⟩ := s
  have hlk := PySem.F.ks_slot_super_ga.lookup
  have hcan := PySem.F.ks_canon_super_ga
  have hT : ∀ t', (⟨hh, g, d, t', os⟩ : Shared).TypeIs (.ref so) "super" := fun _ => ⟨_, hso, rfl⟩
  unfold getMethod
  refine wpAny_bind (wpAny_specialOf (hT _) hlk ?_)
  show wpAny _ _ (if (Manifest.canonical "super.__getattribute__" != "object.__getattribute__") = true then _ else _) _ _ _
  rw [if_pos hcan]
  unfold getAttr getAttrBy
  refine wpAny_bind (wpAny_bind (wpAny_mkText (wpAny_holding (wpAny_bind (wpAny_typeOf (hT _) (wpAny_bind (wpAny_of_eq hlk ?_)))))))
  show wpAny _ _ (getAttrByItsOwn (.ref so) (.str name t) (.type "super") (.builtin "super.__getattribute__") true false) _ _ _
  unfold getAttrByItsOwn hookBefore callGetattribute boundAndCalled
  refine wpAny_bind (wpAny_of_eq (show (if onTheHeap (.type "super") then typeLookup (.type "super") "__getattr__" else pure none) = pure none from rfl) ?_)
  refine wpAny_bind (wpAny_attempt (wpAny_holding ?_))
  show wpAny _ _ (bindSpecial (.builtin "super.__getattribute__") (.ref so) >>= _) _ _ _
  refine wpAny_bind (wpAny_of_eq (PySem.F.ks_slot_super_ga.bind _) ?_)
  refine wpAny_mono (Q := fun v s' => ∃ b, v = .ref b ∧ Q (.ref b, []) s') (E := fun _ _ => False)
    (wpAny_call_entry PySem.F.ks_slot_super_ga (hT _) PySem.F.ks_entry_super_ga (super_ga (s := ⟨hh, g, d, t + 1, os⟩) kf X hx hso hf ht hg hn (codeAny_mono (h _) fun r s' hr => ?_)) (PySem.F.ks_gaArgs_super _ _)) (fun v s' hv => ?_) fun _ _ z => z.elim
  · rcases r with e | (_ | _ | _ | v)
    · exact hr
    · exact hr
    · exact hr
    · exact hr
    · cases v <;> first | exact hr.elim | exact ⟨_, rfl, hr⟩
  · obtain ⟨b, rfl, hv⟩ := hv
    exact wpAny_pure (wpAny_pure hv)

theorem cw_bound {pos : Pos} {b : Addr} {T i : String} {Q : Value → Shared → Prop} (hb : s.heap.get? b = some { cls := .type T, data := .fields #[.builtin i, .ref x] }) (hT : T = "method-wrapper" ∨ T = "builtin_function_or_method")
    (hck : wpAny (model prg w) A.in1 (checkBoundCall i ⟨[.ref x], []⟩) (fun _ s' => s' = s) (fun _ _ => False) s)
    (h : codeAny (model prg w) A (.builtin i ⟨[.ref x], []⟩) (fun r s' => match r with | .ok (.ret v) => Q v s' | .ok _ => False | .error e => E e s') s) (hq : (Code.builtin i ⟨[.ref x], []⟩).quiet = true) :
    wpAny (model prg w) A (callWith pos (.ref b) [] [] []) Q E s := by
  unfold callWith
  refine wpAny_bind (wpAny_holding (PySem.evalArgs_none (wpAny_bind (wpAny_standAt ?_))))
  refine wpAny_bind (m := keeperOf (.ref b)) ?_
  unfold keeperOf
  refine wpAny_bind (wpAny_load hb ?_)
  have e1 : (Value.type T != Value.type "method") = true := by rcases hT with rfl | rfl <;> decide
  have e2 : (Value.type T == Value.type "builtin_function_or_method" || Value.type T == Value.type "method-wrapper") = true := by rcases hT with rfl | rfl <;> decide
  dsimp only
  rw [e1, if_pos rfl, e2, if_pos rfl]
  refine wpAny_pure ?_
  refine wpAny_bind (wpAny_mono (Q := Q) (E := E) ?_ (fun r s₂ hr => wpAny_bind (wpAny_holding (wpAny_point (wpAny_pure hr)))) fun _ _ z => z)
  refine wpAny_call (codeAny_of_tree ?_)
  show wpAny _ A.in1 (callAny (.ref b) _) _ _ _
  unfold callAny
  refine wpAny_bind (wpAny_load hb ?_)
  dsimp only
  have e3 : (Value.type T == Value.type "method" || Value.type T == Value.type "builtin_function_or_method" || Value.type T == Value.type "method-wrapper") = true := by rcases hT with rfl | rfl <;> decide
  rw [e3, if_pos rfl]
  show wpAny _ _ (if (Value.type T != Value.type "method") = true then _ else _) _ _ _
  rw [e1, if_pos rfl]
  refine wpAny_bind (wpAny_mono hck (fun _ s' hs => ?_) fun _ _ z => z.elim)
  subst hs
  exact wpAny_pure ⟨hq, h⟩

theorem alongIn_of {name : Str} {i : String} (h : fastBuiltinOwn "list" name = some (.builtin i)) : alongIn K name [.type "list", .type "object"] = some (some (.builtin i)) := by
  simp only [alongIn, ownIn, h]

/-- super() within a def of the class -/
theorem super_base {body : List Stmt} {fd : FuncData} {f cc : Addr} {L : Addr} {p0 p1 : Pos} {attr : Str} {whole : Sem Value} {ar : Arg} {m : Str → Option Value} {Q : Value → Shared → Prop} (kf : KF K) (X : K.In s.heap) (a : Acc s.heap x dx vs sz)
    (ho : K.lookup f = some (fnO fd)) (hgl : fd.globals = 3) (hbu : fd.builtins = 0) (hclo : fd.closure = [(Str.ofString "__class__", 18)]) (hfc : fd.code = .ref cc) (hcc : codeFile K cc = true)
    (hp : (fd.params.posonlyargs ++ fd.params.args).head? = some ar) (hks : fd.scope.names.lookup ("super" : Str) = some .globalImplicit) (hkc : fd.scope.names.lookup ("__class__" : Str) = some .free) (hka : fd.scope.names.lookup ar.arg = some .local)
    (hk : fd.scope.kind = .function) (hat : (attr == ("__class__" : Str)) = false)
    (ns : s.heap.Ns L m) (hm : m ar.arg = some (.ref x))
    (h : ∀ s' so, Step [] s s' → s'.heap.get? so = some { cls := .type "super", dict := none, data := .fields #[.ref 94, .ref x, .ref 94], slots := #[] } → Q (.ref so) s') :
    _root_.PySem.wpAt (model prg w) A (.func body (callEnv fd L f)) (attributeBase (.Call (.Name "super" p0) [] [] p1) attr (callEnv fd L f) whole) Q E s := by
  obtain ⟨n, hx⟩ := a.x
  obtain ⟨oc, vsC, tf, e1, e2, e3⟩ : ∃ oc vsC tf, K.lookup cc = some oc ∧ oc.data = .fields vsC ∧ vsC[2]? = some (.str "/claim/cut.py" tf) := by
    unfold codeFile at hcc
    split at hcc
    · rename_i vs' _ e
      split at hcc
      · rename_i f' t' e'
        exact ⟨_, _, t', e, rfl, by rw [e', beq_iff_eq.mp hcc]⟩
      · cases hcc
    · cases hcc
  have h94 := X _ _ kf.cls
  refine ks_wpAt_super_base (env := callEnv fd L f) (f := f) (cc := cc) hks hkc hat rfl (X _ _ ho) rfl hp hfc (X _ _ e1) e2 e3 (by decide +kernel) (by decide +kernel) ?_
  refine ks_loadName_global hk hks ?_
  unfold loadGlobal
  refine wpAny_bind ((looks_nsIn X (show nsIn K (callEnv fd L f).globals "super" = some none from (by show nsIn K fd.globals _ = _; rw [hgl]; exact kf.g_super))).here ?_)
  refine wpAny_bind ((looks_nsIn X (show nsIn K (callEnv fd L f).builtins "super" = some (some (.type "super")) from (by show nsIn K fd.builtins _ = _; rw [hbu]; exact kf.b_super))).here (wpAny_pure ⟨rfl, ?_⟩))
  refine wpAny_loadName_free hk hkc (c := 18) (by show List.lookup _ fd.closure = _; rw [hclo]; rfl) ⟨_, X _ _ kf.cell18, rfl⟩ ?_
  refine wpAny_loadName_local hk hka ns hm ?_
  obtain ⟨hh, g, d, t, os⟩ := s
  refine ks_wpAny_isType_cls h94 rfl ⟨rfl, ?_⟩
  refine ks_wpAny_call_super h94 rfl hx rfl (fun c e => by cases e) (kf.mro X _) (fun h' e k => ?_)
  exact h _ _ ⟨.stays k, rfl, id⟩ e
end
end Mine
namespace Mine
open PySem PySem.W PySem.Calls PyProof.Rows

section
variable {K : Frag} {w : World} {A : Around} {E : Value → Shared → Prop} {s : Shared} {x dx : Addr} {vs : List Value} {sz : Int}

theorem code_methAt {f : Addr} {fd : FuncData} {body : List Stmt} {args : List Value} {binds : List (Str × Value)} {R : Result → Shared → Prop} (kf : KF K) (X : K.In s.heap) (ho : K.lookup f = some (fnO fd)) (hcd : codeIn K fd.code fd.qualname = true)
    (hbody : fd.body = .stmts body) (hroom : A.depth < recursionLimit) (hbind : BindsTo s fd ⟨args, []⟩ binds) (hcell : ∀ x ∈ fd.scope.names, x.2 ≠ .cell) (hloc : ∀ x ∈ binds, fd.scope.names.lookup x.1 = some .local)
    (h : ∀ s₀ L, L = s.heap.objs.size → Step [] s s₀ → s₀.heap.Ns L (fun x => binds.reverse.lookup x) → ∀ E', 
      _root_.PySem.wpAt (model prg w) (A.deeper (callEnv fd L f)) (.func body (callEnv fd L f)) (execs body (callEnv fd L f)) (fun fl s' => R (.ok (.ret (match fl with | .ret v => v | _ => .none))) s') E' s₀)
    (hco : fd.scope.isCoroutine = false := by rfl) (hgen : fd.scope.isGenerator = false := by rfl) (hk : fd.scope.kind = .function := by rfl) :
    codeAny (model prg w) A (.call (.ref f) ⟨args, []⟩) R s :=
  ks_codeAny_call_defAt hroom (X _ _ ho) rfl (NoLimit.of K kf X) (codeRec_of X hcd) hbody hbind hcell hloc (fun _ hn hk₀ => h _ _ rfl (.heap (.stays hk₀)) hn _) hco hgen hk

theorem Acc.ne94 (a : Acc s.heap x dx vs sz) (kf : KF K) (X : K.In s.heap) : x ≠ 94 := by
  rintro rfl
  obtain ⟨n, e⟩ := a.x
  have := X _ _ kf.cls
  rw [e] at this; cases this

theorem bound_slot {M : Model} {i : String} {Q : Unit → Shared → Prop} (hk : builtinKind i = some .slot) (ha : argsOk i ⟨[.ref x], []⟩) (h : Q () s) : wpAny M A (checkBoundCall i ⟨[.ref x], []⟩) Q E s := by
  unfold checkBoundCall
  cases hsig : Manifest.signature? i with
  | none => exact wpAny_pure h
  | some sig =>
    simp only [argsOk, hsig] at ha
    have h2 : Bind.checkArgs i sig ⟨[.ref x], []⟩ = pure () := ha
    simp only [hk]
    show wpAny M A (Bind.checkArgs i sig ⟨[.ref x], []⟩) Q E s
    rw [h2]; exact wpAny_pure h

theorem bind_1 (fd : FuncData) (hd : fd.defaults = .none) (hp : fd.params = (meth 8).2.1) (s : Shared) (a : Value) : BindsTo s fd ⟨[a], []⟩ [("self", a)] := by
  refine BindsTo.of_eq ?_
  obtain ⟨n, q, p, b, sc, g, c, dv, kd, dc, pm, an, cd, ct, bu⟩ := fd
  dsimp only at hd hp
  subst hd hp
  rfl

theorem pc_code {R : Result → Shared → Prop} (kf : KF K) (X : K.In s.heap) (a : Acc s.heap x dx vs sz) (hd : A.depth + 10 < recursionLimit)
    (h : ∀ s' t, Step [] s s' → R (.ok (.ret (.int vs.length t))) s') :
    codeAny (model prg w) A (.call (.ref 91) ⟨[.ref x], []⟩) R s := by
  refine code_methAt kf X kf.oPc kf.cPc rfl ?_ (bind_1 _ rfl rfl s _) (by decide) (locs rfl) (fun s₀ L hL st ns E' => ?_)
  · omega
  have X₀ := X.keeps st.keep.nil
  have a₀ := a.stays st.keep
  refine ks_wpAt_execs_cons (ks_wpAt_Return_some (ks_wpAt_MethodCall (super_base kf X₀ a₀ kf.oPc rfl rfl rfl rfl kf.file90 rfl rfl rfl rfl rfl rfl ns rfl fun s₁ so st₁ hso => ?_)))
  have X₁ := X₀.keeps st₁.keep.nil
  have a₁ := a₀.stays st₁.keep
  refine super_method kf X₁ (a₁.ne94 kf X₁) hso (alongIn_of (by decide +kernel)) type_list_len slot_wd_get.lookup rfl fun A' => ?_
  refine wd_get (s := { s₁ with toks := s₁.toks + 1 }) (a₁.isList kf X₁) own_len type_list_len fun s₂ b st₂ hb => ?_
  have st₂' : Step [] s₁ s₂ := (Step.toks).trans st₂
  have a₂ := a₁.stays st₂'.keep
  obtain ⟨n, hx₂⟩ := a₂.x
  refine cw_bound hb (.inl rfl) (bound_slot (by decide +kernel) (PySem.F.args_list_len_1 _) rfl) ?_ (plainId_quiet (by decide +kernel) _)
  refine codeAny_builtin PySem.F.entry_list_len ?_
  unfold Builtin.«list.__len__»
  refine wpAny_bind (m := slotArgs _ _ _) (wpAny_pure ?_)
  show wpAny _ _ (seqSize x >>= _) _ _ _
  unfold seqSize
  refine wpAny_bind (wpAny_bind (wpAny_load hx₂ (wpAny_pure (wpAny_bind (wpAny_mkInt (wpAny_pure ?_))))))
  have := h { s₂ with toks := s₂.toks + 1 } s₂.toks ((st.trans st₁).trans (st₂'.trans .toks))
  simpa using this
end
end Mine
namespace Mine
open PySem PySem.W PySem.Calls PyProof.Rows

section
variable {K : Frag} {w : World} {A : Around} {E : Value → Shared → Prop} {s : Shared} {x dx : Addr} {vs : List Value} {sz : Int}

theorem KF.clsIn (kf : KF K) : clsIn K 94 = some { name := "_Accumulator", bases := [.type "list"], mro := [.ref 94, .type "list", .type "object"], ns := 93, qualname := "_Accumulator" } := by
  unfold PySem.W.clsIn; rw [kf.cls]

theorem Acc.notType {M : Model} {h : Heap} (a : Acc h x dx vs sz) : Looks M h (isType (.ref x)) false := by
  obtain ⟨n, e⟩ := a.x
  unfold isType
  exact (Looks.ld e).andThen .now

theorem bound_pop {M : Model} {Q : Unit → Shared → Prop} (kf : KF K) (X : K.In s.heap) (a : Acc s.heap x dx vs sz) (h : Q () s) : wpAny M A (checkBoundCall "list.pop" ⟨[.ref x], []⟩) Q E s := by
  have hmod : Looks M s.heap (isInstance (.ref x) (.type "module")) false := a.type.andThen (kf.mro X _)
  have hcd : Looks M s.heap (classData 94) _ := looks_clsIn X kf.clsIn
  have hk : builtinKind "list.pop" = some .method := by decide +kernel
  have hck : (match Manifest.signature? "list.pop" with | some sig => Bind.checkArgs "list.pop" { sig with full := s!"{("_Accumulator" : Str).toString}.{Bind.lastOf "list.pop"}" } ⟨[.ref x], []⟩ | none => pure ()) = pure () := by kernel_rfl
  have htt : Looks M s.heap (typeOf (.ref 94)) (.type "type") := (Looks.ld (X _ _ kf.cls)).andThen .now
  have hv : Manifest.varargsMethods.contains "list.pop" = false := by decide +kernel
  unfold checkBoundCall
  cases hsig : Manifest.signature? "list.pop" with
  | none => exact wpAny_pure h
  | some sig =>
    rw [hsig] at hck
    simp only [hk]
    rw [if_neg (by decide)]
    refine wpAny_bind (hmod.here ?_)
    rw [hv, if_neg (by decide)]
    refine wpAny_bind (a.notType.here ?_)
    rw [if_neg (by decide)]
    refine wpAny_bind (a.type.here ?_)
    refine wpAny_bind (hcd.here ?_)
    refine wpAny_bind (htt.here ?_)
    rw [if_pos (by decide)]
    exact wpAny_of_eq hck h

theorem bind_pop (s : Shared) (a : Value) : BindsTo s fdPop ⟨[a], []⟩ [("self", a)] := BindsTo.of_eq rfl

theorem pop_code {R : Result → Shared → Prop} (kf : KF K) (X : K.In s.heap) (a : Acc s.heap x dx vs sz) (hsz : vs.length ≤ 1000) (hd : A.depth + 20 < recursionLimit)
    (h0 : vs = [] → ∀ s' v, Step [] s s' → IsPair s'.heap v ("", "") → R (.ok (.ret v)) s')
    (h1 : ∀ us u, vs = us ++ [u] → ∀ s', Step [x] s s' → Acc s'.heap x dx us sz → R (.ok (.ret u)) s') :
    codeAny (model prg w) A (.call (.ref 54) ⟨[.ref x], []⟩) R s := by
  refine code_methAt kf X kf.oPop kf.cPop rfl ?_ (bind_pop s _) (by decide) (locs rfl) (fun s₀ L hL st ns E' => ?_)
  · omega
  have X₀ := X.keeps st.keep.nil
  have a₀ := a.stays st.keep
  refine ks_wpAt_execs_cons (ks_wpAt_If (wpAt_of_wpAny (wpAny_isTrue_Compare1 (wp_MCall rfl rfl rfl (ldL ns rfl fun pl => ?_)))))
  refine gm_fn kf X₀ a₀ kf.f_pc kf.t_pc (by decide) (cw_fn0 (X₀ _ _ kf.oPc) rfl (wpAny_call (pc_code kf X₀ a₀ ?_ fun s₁ t st₁ => ?_)))
  · show A.depth + 1 + 10 < _
    omega
  refine eInt fun t₂ s₂ st₂ => ?_
  refine cmp_ofEq (wpAny_eq_int (wpAny_truthy_bool ?_))
  have st₂' : Step [] s₀ s₂ := st₁.trans st₂
  have X₂ := X₀.keeps st₂'.keep.nil
  have a₂ := a₀.stays st₂'.keep
  have ns₂ := nsKeep ns st₂'.keep (by simp)
  by_cases hv : vs = []
  · subst hv
    refine ks_wpAt_execs_cons (ks_wpAt_Return_some (wpAt_of_wpAny (eTuple (wpAny_items_cons (eStr fun t₃ s₃ st₃ => wpAny_items_cons (eStr fun t₄ s₄ st₄ => wpAny_items_nil ⟨by simp, fun s₅ T st₅ hT => ?_⟩))))))
    exact h0 rfl _ _ (st.trans (st₂'.trans (st₃.trans (st₄.trans st₅)))) ⟨T, _, _, rfl, hT⟩
  · have hb : (((vs.length : Nat) : Int) == 0) = false := by
      simp only [beq_eq_false_iff_ne, ne_eq]
      intro z
      exact hv (List.length_eq_zero_iff.mp (by omega))
    rw [hb]
    refine wpAt_of_wpAny (wpAny_execs_nil ?_)
    refine ks_wpAt_execs_cons (ks_wpAt_Return_some (ks_wpAt_MethodCall (super_base kf X₂ a₂ kf.oPop rfl rfl rfl rfl kf.file53 rfl rfl rfl rfl rfl rfl ns₂ rfl fun s₃ so st₃ hso => ?_)))
    have X₃ := X₂.keeps st₃.keep.nil
    have a₃ := a₂.stays st₃.keep
    refine super_method kf X₃ (a₃.ne94 kf X₃) hso (alongIn_of (by decide +kernel)) (i := "list.pop") (by show builtinType _ = _; rw [builtinType_eq_fast]; kernel_rfl) slot_md_get.lookup rfl fun A' => ?_
    refine md_get (s := { s₃ with toks := s₃.toks + 1 }) (a₃.isList kf X₃) own_pop (by show builtinType _ = _; rw [builtinType_eq_fast]; kernel_rfl) (by decide +kernel) fun s₄ b st₄ hb' => ?_
    have st₄' : Step [] s₃ s₄ := (Step.toks).trans st₄
    have X₄ := X₃.keeps st₄'.keep.nil
    have a₄ := a₃.stays st₄'.keep
    obtain ⟨n, hx₄⟩ := a₄.x
    obtain ⟨us, u, rfl⟩ : ∃ us u, vs = us ++ [u] := ⟨vs.dropLast, vs.getLast hv, (List.dropLast_concat_getLast hv).symm⟩
    refine cw_bound hb' (.inr rfl) (bound_pop kf X₄ a₄ rfl) ?_ (plainId_quiet (by decide +kernel) _)
    refine codeAny_builtin (b := Builtin.«list.pop») (entryFor_of_tree (by kernel_rfl)) ?_
    unfold Builtin.«list.pop»
    refine wpAny_bind (wpAny_of_eq (a := (.ref x, [])) rfl ?_)
    refine wpAny_bind (wpAny_pure ?_)
    dsimp only
    rw [if_neg (by decide)]
    refine wpAny_bind (listItems_ hx₄ rfl ?_)
    rw [if_neg (by simp)]
    have e : ((seqIndex? (-1) (us ++ [u]).toArray.size).bind fun k => (us ++ [u]).toArray[k]?.map (k, ·)) = some (us.length, u) := by
      have q : seqIndex? (-1) (us ++ [u]).toArray.size = some us.length := by
        unfold seqIndex?
        simp
        omega
      rw [q]
      simp
    have er : (us ++ [u]).toArray.eraseIdxIfInBounds us.length = us.toArray := by
      apply Array.ext'
      simp [List.eraseIdx_append_of_length_le]
    rw [e]
    refine wpAny_bind (m := Builtin.List.listUpdate (.ref x) _) (updateSeq_ hx₄ ?_ fun h' n' k e' => wpAny_pure ?_)
    · rw [er]; simp [sizeLine_eq] at hsz ⊢; omega
    · refine h1 us u rfl _ ((st.trans (st₂'.trans (st₃.trans st₄'))).up.trans ⟨k, rfl, id⟩) ⟨⟨n', ?_⟩, ?_⟩
      · rw [er] at e'
        exact e'
      · obtain ⟨hs, t, tk, m, ed⟩ := a₄.d
        exact ⟨hs, t, tk, m, k _ _ (by simpa using a₄.ne.symm) ed⟩
end
end Mine
namespace Mine
open PySem PySem.W PySem.Calls PyProof.Rows Builtin Builtin.ObjectAttr

theorem passes_list (self : Value) : refuseLoop self "__setattr__" [.type "list", .type "object"] = pure () := by kernel_rfl

section
variable {K : Frag} {w : World} {A : Around} {E : Value → Shared → Prop} {s : Shared} {x dx : Addr} {vs : List Value} {sz : Int}

/-- the accumulator's dict before or after its one field -/
def DictOk (h : Heap) (dx : Addr) : Prop :=
  (∃ hs t tk n sz, h.get? dx = some { cls := .type "dict", data := .dict #[⟨hs, .str "_initial_size" t, .int sz tk⟩] n }) ∨ (∃ n, h.get? dx = some { cls := .type "dict", data := .dict #[] n })
theorem Acc.dictOk {h : Heap} (a : Acc h x dx vs sz) : DictOk h dx := let ⟨hs, t, tk, n, e⟩ := a.d; .inl ⟨hs, t, tk, n, sz, e⟩

theorem put_one (hs : Int) (t : Tok) (sz : Int) (tk : Tok) (hs' : Int) (t' : Tok) (v : Value) (n : Nat) :
    Obj.putName "_initial_size" hs' (.str "_initial_size" t') v { cls := .type "dict", data := .dict #[⟨hs, .str "_initial_size" t, .int sz tk⟩] n } = { cls := .type "dict", data := .dict #[⟨hs, .str "_initial_size" t, v⟩] n } := by
  kernel_rfl
theorem put_none (hs' : Int) (t' : Tok) (v : Value) (n : Nat) :
    Obj.putName "_initial_size" hs' (.str "_initial_size" t') v { cls := .type "dict", data := .dict #[] n } = { cls := .type "dict", data := .dict #[⟨hs', .str "_initial_size" t', v⟩] (n + 1) } := by
  kernel_rfl

theorem set_code {v : Int} {tv tn : Tok} {n : Nat} {R : Result → Shared → Prop} (kf : KF K) (X : K.In s.heap)
    (hx : s.heap.get? x = some { cls := .ref 94, dict := some dx, data := .seq vs.toArray n }) (hd : DictOk s.heap dx)
    (h : ∀ s', Step [dx] s s' → Acc s'.heap x dx vs v → R (.ok (.ret .none)) s') : codeAny (model prg w) A (.call (.builtin "object.__setattr__") ⟨[.ref x, .str "_initial_size" tn, .int v tv], []⟩) R s := by
  have SF := PySem.F.store_object
  have hne : x ≠ dx := by
    rintro rfl
    rcases hd with ⟨_, _, _, _, _, e⟩ | ⟨_, e⟩ <;> (rw [hx] at e; cases e)
  have ty : Looks (model prg w) s.heap (typeOf (.ref x)) (.ref 94) := (Looks.ld hx).andThen .now
  have hm : Looks (model prg w) s.heap (mroOf (.ref 94)) [.ref 94, .type "list", .type "object"] := (looks_clsIn X kf.clsIn).andThen .now
  have sub : Looks (model prg w) s.heap (isInstance (.ref x) (.type "object")) true := ty.andThen (kf.mro X _)
  refine codeAny_call_builtin SF.slot.plain SF.entry (@check_slot (model prg w) _ _ _ "object.__setattr__" "object" "__setattr__" (.ref x) [.str "_initial_size" tn, .int v tv] [] _ SF.kind SF.split sub (SF.args (.ref x) (.str "_initial_size" tn) (.int v tv)) ?_)
  show wpAny _ _ (Builtin.«object.__setattr__» ⟨[.ref x, .str (Str.ofString "_initial_size") tn, .int v tv], []⟩) _ _ _
  rw [osa_eq, refuse_eq]
  refine wpAny_bind (wpAny_bind (ty.here (wpAny_bind (hm.here ?_))))
  rw [refuseLoop_ref, passes_list]
  refine wpAny_pure (wpAny_bind (ty.here (wpAny_bind ((looks_findIn X kf.f_isz).here (wpAny_bind ?_)))))
  refine (show Looks (model prg w) s.heap (storeTaker? none) none from .now).here ?_
  refine wpAny_bind (wpAny_pure (wpAny_bind (wpAny_bind (wpAny_loadPart hx (wpAny_bind ((looks_clsIn X kf.clsIn).here ?_))))))
  refine wpAny_pure (a := some dx) (wpAny_bind (wpAny_pure (wpAny_bind ?_)))
  unfold nsSet
  refine wpAny_bind (wpAny_bind (wpAny_askSetting (wpAny_pure (wpAny_bind (wpAny_mkText (wpAny_bind ?_))))))
  have fin : ∀ (h' : Heap) tt, Keep [dx] s.heap h' → (∃ a b c n, h'.get? dx = some { cls := .type "dict", data := .dict #[⟨a, .str "_initial_size" b, .int v c⟩] n }) → R (.ok (.ret .none)) { s with heap := h', toks := tt } := by
    intro h' tt k hd'
    exact h _ (Step.heap k) ⟨⟨n, k _ _ (by simpa using hne) hx⟩, hd'⟩
  rcases id hd with ⟨hs, t, tk, k, z, e⟩ | ⟨k, e⟩
  · refine wpAny_loadPart e ?_
    dsimp only
    rw [if_neg (by rw [aRefKeyMayBeTheName_at]; simp [Value.isStr])]
    refine wpAny_updatePart e ?_
    have hget := Heap.get?_update_self (h := s.heap) (Obj.putName "_initial_size" (PyData.keyHash w.params "_initial_size") (.str "_initial_size" s.toks) (.int v tv)) e (by rw [put_one]; rfl)
    rw [put_one] at hget
    refine wpAny_bind (wpAny_lookBehind hget ?_ (wpAny_pure ?_))
    · exact pastItsLine_dict (by rw [sizeLine_eq]; simp)
    · exact fin _ _ (Keep.same (Heap.SameBut.update ..) (by simp)) ⟨_, _, _, _, hget⟩
  · refine wpAny_loadPart e ?_
    dsimp only
    rw [if_neg (by rw [aRefKeyMayBeTheName_at]; simp)]
    refine wpAny_updatePart e ?_
    have hget := Heap.get?_update_self (h := s.heap) (Obj.putName "_initial_size" (PyData.keyHash w.params "_initial_size") (.str "_initial_size" s.toks) (.int v tv)) e (by rw [put_none]; rfl)
    rw [put_none] at hget
    refine wpAny_bind (wpAny_lookBehind hget ?_ (wpAny_pure ?_))
    · exact pastItsLine_dict (by rw [sizeLine_eq]; simp)
    · exact fin _ _ (Keep.same (Heap.SameBut.update ..) (by simp)) ⟨_, _, _, _, hget⟩

theorem set_size {v : Int} {tv : Tok} {n : Nat} {Q : Unit → Shared → Prop} (kf : KF K) (X : K.In s.heap)
    (hx : s.heap.get? x = some { cls := .ref 94, dict := some dx, data := .seq vs.toArray n }) (hd : DictOk s.heap dx)
    (h : ∀ s', Step [dx] s s' → Acc s'.heap x dx vs v → Q () s') : wpAny (model prg w) A (setAttr (.ref x) "_initial_size" (.int v tv)) Q E s := by
  have ty : Looks (model prg w) s.heap (typeOf (.ref x)) (.ref 94) := (Looks.ld hx).andThen .now
  refine wpAny_bind (wpAny_mkText (wpAny_bind (wpAny_bind (wpAny_bind (ty _ _ _ _ (fun _ _ e => e) (looks_findIn X kf.f_sattr _ _ _ _ (fun _ _ e => e) (wpAny_holding ?_)))))))
  rw [PySem.F.store_object.slot.bind]
  refine wpAny_bind (wpAny_pure (wpAny_bind (wpAny_call (set_code (s := { s with toks := s.toks + 1 }) kf X hx hd fun s' st a => ?_))))
  exact wpAny_pure (wpAny_pure (h s' (Step.trans .toks st) a))

theorem bind_reset (kf : KF K) (s : Shared) (X : K.In s.heap) (a : Value) : BindsTo s fdReset ⟨[a], []⟩ [("self", a), ("startval", .none)] :=
  binds_K X rfl kf.d69 rfl rfl rfl
theorem bind_reset2 (kf : KF K) (s : Shared) (X : K.In s.heap) (a b : Value) : BindsTo s fdReset ⟨[a, b], []⟩ [("self", a), ("startval", b)] :=
  binds_K X rfl kf.d69 rfl rfl rfl
end
end Mine
namespace Mine
open PySem PySem.W PySem.Calls PyProof.Rows

section
variable {K : Frag} {w : World} {A : Around} {E : Value → Shared → Prop} {s : Shared} {x dx : Addr} {vs : List Value} {sz : Int}

theorem Acc.ne_list {h : Heap} (a : Acc h x dx vs sz) {r : Addr} {its : Array Value} (hr : h.IsList r its) : r ∉ [x] ∧ r ∉ [x, dx] := by
  obtain ⟨o, ho, hc, n, hd⟩ := hr
  have h1 : r ≠ x := by rintro rfl; obtain ⟨n, e⟩ := a.x; rw [e] at ho; cases ho; cases hc
  have h2 : r ≠ dx := by rintro rfl; obtain ⟨_, _, _, n, e⟩ := a.d; rw [e] at ho; cases ho; cases hd
  simp [h1, h2]
/-- the top's written part lies off S -/
def Off (K : Frag) (S : List Addr) : Prop := ∀ a ∈ S, K.lookup a = none
theorem Off.mono {S T : List Addr} (o : Off K T) (k : ∀ a ∈ S, a ∈ T) : Off K S := fun a m => o a (k a m)
theorem Off.cons {S : List Addr} {a : Addr} {h : Heap} (X : K.In h) (ha : h.objs.size ≤ a) (o : Off K S) : Off K (a :: S) := by
  intro b hb
  rcases List.mem_cons.mp hb with rfl | m
  · cases q : K.lookup b with
    | none => rfl
    | some ob => exact absurd (Heap.lt_size (X _ _ q)) (Nat.not_lt.mpr ha)
  · exact o b m
theorem Off.keep {S : List Addr} {h h' : Heap} (o : Off K S) (X : K.In h) (k : Keep S h h') : K.In h' := fun a ob e => k a ob (fun m => by have := o a m; rw [e] at this; cases this) (X a ob e)
theorem isList_keep {S h h' a its} (x : Heap.IsList h a its) (k : Keep S h h') (n : a ∉ S) : Heap.IsList h' a its := let ⟨o, e, r⟩ := x; ⟨o, k _ _ n e, r⟩

theorem reset_tail {L r : Addr} {m : Str → Option Value} {new : List Value} {env : Env} {Q : Flow → Shared → Prop} (kf : KF K) (X : K.In s.heap) (a : Acc s.heap x dx vs sz) (hsz : vs.length ≤ 1000)
    (he : env = callEnv fdReset L 76) (ns : s.heap.Ns L m) (h1 : m "self" = some (.ref x)) (h2 : m "startval" = some (.ref r)) (hr : s.heap.IsList r new.toArray) (hn : new.length ≤ 1000) (hL : L ∉ [x, dx]) (off : Off K [x, dx])
    (h : ∀ s', Step [x, dx] s s' → Acc s'.heap x dx new 0 → Q .next s') :
    wpAny (model prg w) A (execs ((meth 6).2.2.1.drop 1) env) Q E s := by
  subst he
  refine wpAny_execs_cons (wpAny_Assign_Subscript (ldL ns h2 (ldL ns h1 (eSlice (wpAny_pure (wpAny_pure fun s₁ sl st₁ hsl => ?_))))))
  have a₁ := a.stays st₁.keep
  have X₁ := X.keeps st₁.keep.nil
  refine setSlice_own (lo := none) (hi := none) (new := new) kf X₁ a₁ hsz hsl .none .none (isList_keep hr st₁.keep (by simp)) hn (bounds_all vs.length) (Nat.zero_le _) fun s₂ st₂ a₂ => ?_
  rw [show vs.take 0 ++ new ++ vs.drop vs.length = new by simp] at a₂
  have hL1 : L ∉ [x] := fun z => hL (by simp at z ⊢; exact .inl z)
  have X₂ : K.In s₂.heap := (off.mono (by simp)).keep X₁ st₂.keep
  refine wpAny_execs_cons (plainObj_wpAny_Assign_Attribute (eInt fun t s₃ st₃ => ldL (nsKeep (nsKeep (nsKeep ns st₁.keep (by simp)) st₂.keep hL1) st₃.keep (by simp)) h1 ?_))
  have a₃ := a₂.stays st₃.keep
  obtain ⟨n, hx⟩ := a₃.x
  refine set_size kf (X₂.keeps st₃.keep.nil) hx a₃.dictOk fun s₄ st₄ a₄ => wpAny_execs_nil ?_
  exact h s₄ ((st₁.up.trans (st₂.mono (by simp +contextual))).trans (st₃.up.trans (st₄.mono (by simp +contextual)))) a₄

theorem reset_none {R : Result → Shared → Prop} (kf : KF K) (X : K.In s.heap) (a : Acc s.heap x dx vs sz) (hsz : vs.length ≤ 1000) (off : Off K [x, dx]) (hd : A.depth + 10 < recursionLimit)
    (h : ∀ s', Step [x, dx] s s' → Acc s'.heap x dx [] 0 → R (.ok (.ret .none)) s') :
    codeAny (model prg w) A (.call (.ref 76) ⟨[.ref x], []⟩) R s := by
  refine code_meth kf X kf.oReset kf.cReset rfl ?_ (bind_reset kf s X _) (by decide) (locs rfl) (fun s₀ L hL st ns E' => ?_)
  · omega
  have X₀ := X.keeps st.keep.nil
  have a₀ := a.stays st.keep
  have hLx : L ∉ [x, dx] := by
    have := a.lt
    simp only [List.mem_cons, List.not_mem_nil, or_false, not_or]
    exact ⟨fun z => Nat.ne_of_lt this.1 (z.symm.trans hL), fun z => Nat.ne_of_lt this.2 (z.symm.trans hL)⟩
  refine wpAny_execs_cons (wpAny_If (wpAny_isTrue_Compare1 (ldL ns rfl (wpAny_Constant_none (is_none (wpAny_truthy_bool ?_))))))
  refine wpAny_execs_cons (wpAny_Assign_Name (eList (wpAny_items_nil ⟨by simp, fun s₁ r st₁ hr => ?_⟩)))
  refine stL (nsKeep ns st₁.keep (by simp)) fun s₂ st₂ ns₂ => wpAny_execs_nil ?_
  have st₂' : Step [] s s₂ := ((st.trans st₁).up.trans st₂).drop (Nat.le_of_eq hL.symm)
  have hr₂ := st₂.keep _ _ (ns_ne (nsKeep ns st₁.keep (by simp)) hr (fun _ _ z => by cases z)) hr
  refine wpAny_mono (Q := fun fl s' => fl = .next ∧ Step [x, dx] s₂ s' ∧ Acc s'.heap x dx [] 0) (E := E') (reset_tail (new := []) kf (X.keeps st₂'.keep.nil) (a.stays st₂'.keep) hsz rfl ns₂ rfl rfl ⟨_, hr₂, rfl, 0, rfl⟩ (by simp) hLx off fun s' st' a' => ⟨rfl, st', a'⟩) (fun fl s' z => ?_) fun _ _ z => z
  obtain ⟨rfl, st', a'⟩ := z
  exact h s' (st₂'.up.trans st') a'

theorem reset_list {r : Addr} {new : List Value} {R : Result → Shared → Prop} (kf : KF K) (X : K.In s.heap) (a : Acc s.heap x dx vs sz) (hsz : vs.length ≤ 1000) (off : Off K [x, dx]) (hd : A.depth + 10 < recursionLimit)
    (hr : s.heap.IsList r new.toArray) (hn : new.length ≤ 1000)
    (h : ∀ s', Step [x, dx] s s' → Acc s'.heap x dx new 0 → R (.ok (.ret .none)) s') :
    codeAny (model prg w) A (.call (.ref 76) ⟨[.ref x, .ref r], []⟩) R s := by
  refine code_meth kf X kf.oReset kf.cReset rfl ?_ (bind_reset2 kf s X _ _) (by decide) (locs rfl) (fun s₀ L hL st ns E' => ?_)
  · omega
  have X₀ := X.keeps st.keep.nil
  have a₀ := a.stays st.keep
  have hLx : L ∉ [x, dx] := by
    have := a.lt
    simp only [List.mem_cons, List.not_mem_nil, or_false, not_or]
    exact ⟨fun z => Nat.ne_of_lt this.1 (z.symm.trans hL), fun z => Nat.ne_of_lt this.2 (z.symm.trans hL)⟩
  refine wpAny_execs_cons (wpAny_If (wpAny_isTrue_Compare1 (ldL ns rfl (wpAny_Constant_none (is_none (wpAny_truthy_bool ?_))))))
  refine wpAny_execs_nil ?_
  refine wpAny_mono (Q := fun fl s' => fl = .next ∧ Step [x, dx] s₀ s' ∧ Acc s'.heap x dx new 0) (E := E') (reset_tail (new := new) kf X₀ a₀ hsz rfl ns rfl rfl (isList_keep hr st.keep (by simp)) hn hLx off fun s' st' a' => ⟨rfl, st', a'⟩) (fun fl s' z => ?_) fun _ _ z => z
  obtain ⟨rfl, st', a'⟩ := z
  exact h s' (st.up.trans st') a'
end
end Mine
namespace Mine
open PySem PySem.W PySem.Calls PyProof.Rows

theorem ln_split : splitId "list.__new__" = some ("list", "__new__") := by decide +kernel
theorem ln_kind : builtinKind "list.__new__" = some .builtinFn := by decide +kernel
theorem ln_args (a b : Value) : argsOk "list.__new__" ⟨[a, b], []⟩ := by unfold argsOk; kernel_rfl
theorem li_args (a : Value) : argsOk "list.__init__" ⟨[a], []⟩ := by unfold argsOk; kernel_rfl
theorem entry_li : entryFor table "list.__init__" = some Builtin.«list.__init__» := entryFor_of_tree (by kernel_rfl)

section
variable {K : Frag} {w : World} {A : Around} {E : Value → Shared → Prop} {s : Shared} {x dx : Addr} {vs : List Value} {sz : Int}

theorem KF.made (kf : KF K) {h : Heap} (X : K.In h) : Looks (model prg w) h (Bind.madeBy (.ref 94)) (some "list.__new__") := by
  intro A Q E s k q
  have hm : Looks (model prg w) h (mroOf (.ref 94)) [.ref 94, .type "list", .type "object"] := (looks_clsIn X kf.clsIn).andThen .now
  unfold Bind.madeBy
  refine wpAny_bind (hm A _ E s k ?_)
  rw [List.forIn_cons]
  refine wpAny_bind (wpAny_bind (wpAny_bind (wpAny_bind (wpAny_loadPart (k _ _ (X _ _ kf.cls)) (wpAny_pure ?_)))))
  exact wpAny_pure (wpAny_pure (wpAny_pure q))
theorem KF.base (kf : KF K) {h : Heap} (X : K.In h) : Looks (model prg w) h (Bind.staticBase (.ref 94)) (.ref 94) := by
  intro A Q E s k q
  have hm : Looks (model prg w) h (mroOf (.ref 94)) [.ref 94, .type "list", .type "object"] := (looks_clsIn X kf.clsIn).andThen .now
  unfold Bind.staticBase
  refine wpAny_bind (hm A _ E s k ?_)
  rw [List.forIn_cons]
  exact wpAny_bind (wpAny_bind (wpAny_bind (kf.made X A _ E s k (wpAny_pure (wpAny_pure (wpAny_pure q))))))

theorem new_acc {v : Value} {R : Result → Shared → Prop} (kf : KF K) (X : K.In s.heap)
    (h : ∀ s' x dx, Step [] s s' → s.heap.objs.size ≤ x → s.heap.objs.size ≤ dx → s'.heap.get? x = some { cls := .ref 94, dict := some dx, data := .seq #[] } → s'.heap.get? dx = some { cls := .type "dict", data := .dict #[] } → R (.ok (.ret (.ref x))) s') :
    codeAny (model prg w) A (.call (.builtin "list.__new__") ⟨[.ref 94, v], []⟩) R s := by
  obtain ⟨hh, g, d, t, os⟩ := s
  have isT : Looks (model prg w) hh (isType (.ref 94)) true := (Looks.ld (X _ _ kf.cls)).andThen .now
  have sub := kf.mro (M := model prg w) X (.type "list")
  refine codeAny_of_tree ?_
  show wpAny _ A.in1 (do checkBuiltinCall "list.__new__" ⟨[.ref 94, v], []⟩; again (.builtin "list.__new__" ⟨[.ref 94, v], []⟩)) _ _ _
  refine wpAny_bind ?_
  have ck : ∀ Q : Unit → Shared → Prop, Q () ⟨hh, g, d, t, os⟩ → wpAny (model prg w) A.in1 (checkBuiltinCall "list.__new__" ⟨[.ref 94, v], []⟩) Q (fun e s' => (fun r s' => R r s') (.error e) s') ⟨hh, g, d, t, os⟩ := by
    intro Q q
    simp only [checkBuiltinCall, ln_kind, ln_split]
    rw [if_pos (by decide)]
    refine wpAny_bind (isT.here ?_)
    rw [if_neg (by decide)]
    refine wpAny_bind (sub.here ?_)
    rw [if_neg (by decide)]
    refine wpAny_bind ((kf.base X).here ?_)
    refine wpAny_bind ((kf.made X).here ?_)
    dsimp only
    rw [if_neg (by rw [bne_self_eq_false]; exact Bool.false_ne_true)]
    have ha := ln_args (.ref 94) v
    cases hsig : Manifest.signature? "list.__new__" with
    | none => exact wpAny_pure q
    | some sig =>
      simp only [argsOk, hsig] at ha
      have h2 : Bind.checkArgs "list.__new__" sig ⟨[.ref 94, v], []⟩ = pure () := ha
      show wpAny _ _ (Bind.checkArgs "list.__new__" sig ⟨[.ref 94, v], []⟩) _ _ _
      rw [h2]; exact wpAny_pure q
  refine ck _ (wpAny_pure ⟨plainId_quiet F.plain_list_new _, codeAny_builtin_stack F.entry_list_new rfl fun p st => ?_⟩)
  rw [Around.under_plainId F.plain_list_new _]
  have hown := owner_list_new
  simp only [hown]
  refine wpAny_bind (isT.here ?_)
  rw [if_neg (by decide)]
  refine wpAny_bind (sub.here ?_)
  rw [if_neg (by decide)]
  refine wpAny_bind (wpAny_pure ?_)
  rw [if_neg (by decide)]
  refine wpAny_bind (m := newDict _) (wpAny_newObj_type ?_ (by size_fits))
  refine wpAny_bind ?_
  unfold newObj
  dsimp only
  rw [if_neg (by simp)]
  unfold newObjAsIs
  have e94 := Heap.get?_push_of_some { cls := .ref 94, dict := some hh.objs.size, data := .seq #[] } (Heap.get?_push_of_some { cls := .type "dict", data := .dict #[] } (X _ _ kf.cls))
  refine wpAny_bind (wpAny_alloc (wpAny_bind (m := classHasDel 94) (wpAny_bind (wpAny_load e94 (wpAny_pure ?_)))))
  rw [if_neg (by decide)]
  refine wpAny_pure (wpAny_pure ?_)
  have k1 : Keep [] hh ((hh.push { cls := .type "dict", data := .dict #[] }).push { cls := .ref 94, dict := some hh.objs.size, data := .seq #[] }) := Keep.trans (.push _) (.push _)
  exact h ⟨_, g, d, t, os⟩ _ hh.objs.size ⟨k1, rfl, id⟩ (by rw [Heap.size_push]; exact Nat.le_succ _) (Nat.le_refl _) (Heap.get?_push_size _ rfl) (Heap.get?_push_of_some _ (Heap.get?_push_size _ rfl))
end
end Mine
namespace Mine
open PySem PySem.W PySem.Calls PyProof.Rows

theorem li_kind : builtinKind "list.__init__" = some .slot := by decide +kernel
theorem li_quiet (a : Args) : (Code.builtin "list.__init__" a).quiet = true := plainId_quiet (by decide +kernel) _

theorem li_bound {M : Model} {A : Around} {E : Value → Shared → Prop} {s : Shared} {x : Addr} {Q : Unit → Shared → Prop} (h : Q () s) : wpAny M A (checkBoundCall "list.__init__" ⟨[.ref x], []⟩) Q E s := by
  refine bound_slot (i := "list.__init__") ?_ ?_ ?_
  · exact li_kind
  · exact li_args (.ref x)
  · exact h

section
variable {K : Frag} {w : World} {A : Around} {E : Value → Shared → Prop} {s : Shared} {x dx : Addr} {vs : List Value} {sz : Int}

theorem bind_init (kf : KF K) (s : Shared) (X : K.In s.heap) (a b : Value) : BindsTo s fdInit ⟨[a, b], []⟩ [("self", a), ("initial_size", b)] :=
  binds_K X rfl kf.d23 rfl rfl rfl

theorem init_code {v : Int} {t : Tok} {R : Result → Shared → Prop} (kf : KF K) (X : K.In s.heap)
    (hx : s.heap.get? x = some { cls := .ref 94, dict := some dx, data := .seq #[] }) (hdx : s.heap.get? dx = some { cls := .type "dict", data := .dict #[] }) (off : Off K [x, dx]) (hd : A.depth + 10 < recursionLimit)
    (h : ∀ s', Step [x, dx] s s' → Acc s'.heap x dx [] v → R (.ok (.ret .none)) s') :
    codeAny (model prg w) A (.call (.ref 31) ⟨[.ref x, .int v t], []⟩) R s := by
  refine code_methAt kf X kf.oInit kf.cInit rfl ?_ (bind_init kf s X _ _) (by decide) (locs rfl) (fun s₀ L hL st ns E' => ?_)
  · omega
  have X₀ := X.keeps st.keep.nil
  have hx₀ := st.keep.nil _ _ hx
  have hdx₀ := st.keep.nil _ _ hdx
  refine ks_wpAt_execs_cons (wpAt_of_wpAny (plainObj_wpAny_Assign_Attribute (ldL ns rfl (ldL ns rfl ?_))))
  refine set_size (vs := []) kf X₀ hx₀ (.inr ⟨_, hdx₀⟩) fun s₁ st₁ a₁ => ?_
  have hLd : L ∉ [dx] := by
    simp only [List.mem_singleton]
    exact fun z => Nat.ne_of_lt (Heap.lt_size hdx) (z.symm.trans hL)
  have ns₁ := nsKeep ns st₁.keep hLd
  have X₁ : K.In s₁.heap := (off.mono (by simp)).keep X₀ st₁.keep
  refine ks_wpAt_execs_cons (ks_wpAt_Expr_any (ks_wpAt_MethodCall (super_base kf X₁ a₁ kf.oInit rfl rfl rfl rfl kf.file30 rfl rfl rfl rfl rfl rfl ns₁ rfl fun s₂ so st₂ hso => ?_)))
  have X₂ := X₁.keeps st₂.keep.nil
  have a₂ := a₁.stays st₂.keep
  refine super_method kf X₂ (a₂.ne94 kf X₂) hso (alongIn_of (by decide +kernel)) type_list_init slot_wd_get.lookup rfl fun A' => ?_
  refine wd_get (s := { s₂ with toks := s₂.toks + 1 }) (a₂.isList kf X₂) own_init type_list_init fun s₃ b st₃ hb => ?_
  have st₃' : Step [] s₂ s₃ := (Step.toks).trans st₃
  have a₃ := a₂.stays st₃'.keep
  obtain ⟨n, hx₃⟩ := a₃.x
  refine cw_bound hb (.inl rfl) (li_bound rfl) ?_ (li_quiet _)
  refine codeAny_builtin entry_li ?_
  unfold Builtin.«list.__init__»
  dsimp only
  rw [if_neg (by decide), if_neg (by decide)]
  refine wpAny_bind (listItems_ hx₃ rfl ?_)
  refine wpAny_bind (m := Builtin.List.listUpdate (.ref x) _) (updateSeq_ hx₃ (by simp) fun h' n' k e => wpAny_bind (wpAny_letGo (wpAny_pure (wpAt_of_wpAny (wpAny_execs_nil ?_)))))
  refine h _ ((st.up.trans (st₁.mono (by simp +contextual))).trans ((st₂.trans st₃').up.trans (Step.mono (S := [x]) ⟨k, rfl, id⟩ (by simp +contextual)))) ⟨⟨n', by simpa using e⟩, ?_⟩
  obtain ⟨hs, t, tk, m, ed⟩ := a₃.d
  exact ⟨hs, t, tk, m, k _ _ (by simpa using a₃.ne.symm) ed⟩

theorem make_acc {v : Int} {t : Tok} {R : Result → Shared → Prop} (kf : KF K) (X : K.In s.heap) (hd : A.depth + 20 < recursionLimit)
    (h : ∀ s' x dx, Step [] s s' → s.heap.objs.size ≤ x → s.heap.objs.size ≤ dx → Acc s'.heap x dx [] v → R (.ok (.ret (.ref x))) s') :
    codeAny (model prg w) A (.call (.ref 94) ⟨[.int v t], []⟩) R s := by
  have h94 := X _ _ kf.cls
  have ty : Looks (model prg w) s.heap (typeOf (.ref 94)) (.type "type") := (Looks.ld h94).andThen .now
  have call : Looks (model prg w) s.heap (specialOf (.ref 94) "__call__") (some (.builtin "type.__call__")) := ty.andThen (Looks.of_pure tc_lookup)
  have typ : Looks (model prg w) s.heap (isInstance (.ref 94) (.type "type")) true := ty.andThen (Looks.of_pure (by rw [isSubtype_type]; kernel_rfl))
  have hm : Looks (model prg w) s.heap (mroOf (.ref 94)) [.ref 94, .type "list", .type "object"] := (looks_clsIn X kf.clsIn).andThen .now
  refine codeAny_of_tree ?_
  show wpAny _ _ (callAny (.ref 94) _) _ _ _
  unfold callAny
  refine wpAny_bind (wpAny_load h94 ?_)
  show wpAny _ _ (callAny.viaDunder (.ref 94) _) _ _ _
  unfold callAny.viaDunder
  refine wpAny_bind (call.here ?_)
  dsimp only
  rw [tc_bind]
  refine wpAny_bind (wpAny_pure (wpAny_bind (wpAny_pure ?_)))
  refine wpAny_pure (a := Fin.again (.call (.builtin "type.__call__") ⟨[.ref 94, .int v t], []⟩)) (And.intro rfl ?_)
  refine codeAny_call_builtin_at (Code.quiet_builtin _ (by decide +kernel)) entry_typeCall (check_slot tc_kind tc_split typ (tc_args _ _ _) ?_)
  unfold Builtin.«type.__call__»
  dsimp only
  rw [if_neg (by decide)]
  refine wpAny_bind (hm.here ?_)
  rw [if_neg (by decide)]
  refine wpAny_bind (m := Bind.madeBy _) ((kf.made X).here ?_)
  refine wpAny_bind (wpAny_pure ?_)
  refine wpAny_bind (wpAny_holding (wpAny_call (new_acc kf X fun s₁ x dx st₁ hsx hsd hx hdx => ?_)))
  have X₁ := X.keeps st₁.keep.nil
  have tyx : Looks (model prg w) s₁.heap (typeOf (.ref x)) (.ref 94) := (Looks.ld hx).andThen .now
  refine wpAny_bind ((show Looks (model prg w) s₁.heap (isInstance (.ref x) (.ref 94)) _ from tyx.andThen (kf.mro X₁ _)).here ?_)
  rw [if_neg (by decide)]
  refine wpAny_bind (wpAny_holding ?_)
  unfold callSpecial?
  refine wpAny_bind ((tyx.andThen (looks_findIn X₁ kf.f_init)).here (wpAny_holding ?_))
  refine wpAny_bind ((bind_fn X₁ _ kf.t_init).here ?_)
  have off : Off K [x, dx] := Off.cons X hsx (Off.cons X hsd (by intro _ h; simp at h))
  refine wpAny_bind (wpAny_call (init_code kf X₁ hx hdx off ?_ fun s₂ st₂ a₂ => wpAny_pure ?_))
  · show A.depth + 1 + 10 < _
    omega
  dsimp only
  rw [if_neg (by decide)]
  refine wpAny_pure (h s₂ x dx ?_ hsx hsd a₂)
  exact ((st₁.up.trans st₂).drop (S := [dx]) hsx).drop hsd
end
end Mine
namespace Mine
open PySem PySem.W PySem.Calls PyProof.Rows Builtin Builtin.ObjectAttr

theorem lga_kind : builtinKind "list.__getattribute__" = some .slot := by decide +kernel
theorem lga_split : splitId "list.__getattribute__" = some ("list", "__getattribute__") := by decide +kernel
theorem lga_plain : plainId "list.__getattribute__" = true := by decide +kernel

section
variable {K : Frag} {w : World} {A : Around} {E : Value → Shared → Prop} {s : Shared} {x dx : Addr} {vs : List Value} {sz : Int}

theorem eAttr {prog : Program} {env : Env} {n attr : Str} {np pos : Pos} {Q : Value → Shared → Prop} (hb : attributeBase (.Name n np) attr env (eval (.Name n np) env) = eval (.Name n np) env)
    (h : wpAny (model prog w) A (eval (.Name n np) env) (fun o s₁ => wpAny (model prog w) A (getAttr o attr true) Q E s₁) E s) : wpAny (model prog w) A (eval (.Attribute (.Name n np) attr pos) env) Q E s := by
  rw [arm_eval_Attribute, hb]
  refine wpAny_bind (wpAny_mono h (fun o s₁ h₁ => wpAny_bind (wpAny_standAt (wpAny_bind (wpAny_holding (wpAny_mono h₁ (fun r s₂ h₂ => ?_) fun _ _ y => y))))) fun _ _ y => y)
  have e2 : letTemporaryGo (.Name n np) o r = pure () := rfl
  rw [e2]
  exact wpAny_bind (wpAny_pure (wpAny_pure h₂))

theorem get_isz {Q : Value → Shared → Prop} (kf : KF K) (X : K.In s.heap) (a : Acc s.heap x dx vs sz) (h : ∀ tk, Q (.int sz tk) { s with toks := s.toks + 1 }) :
    wpAny (model prg w) A (getAttr (.ref x) "_initial_size" true) Q E s := by
  obtain ⟨n, hx⟩ := a.x
  obtain ⟨hs, t, tk, m, hdx⟩ := a.d
  have I : PySem.W.InstAt s.heap x { cls := .ref 94, dict := some dx, data := .seq vs.toArray n } 94 (some { cls := .type "dict", data := .dict #[⟨hs, .str "_initial_size" t, .int sz tk⟩] m }) := ⟨hx, rfl, rfl, hdx⟩
  have hl : lookIn "_initial_size" { cls := .type "dict", data := .dict #[⟨hs, .str "_initial_size" t, .int sz tk⟩] m } = some (some (.int sz tk)) := by
    unfold lookIn; simp [Value.isStr]
  have hf : findObj K 94 (some { cls := .type "dict", data := .dict #[⟨hs, .str "_initial_size" t, .int sz tk⟩] m }) "_initial_size" = some (.value (.int sz tk)) := by
    unfold findObj
    rw [kf.clsIn, Option.bind_some, kf.f_isz, Option.bind_some]
    dsimp only [Option.bind_some]
    have ho : PySem.W.ownOf { name := "_Accumulator", bases := [.type "list"], mro := [.ref 94, .type "list", .type "object"], ns := 93, qualname := "_Accumulator" } (some { cls := .type "dict", data := .dict #[⟨hs, .str "_initial_size" t, .int sz tk⟩] m }) "_initial_size" = some (some (.int sz tk)) := hl
    rw [ho]
    rfl
  have ty := a.type (M := model prg w)
  have hfind := looks_find (M := model prg w) X I hf
  unfold getAttr getAttrBy
  refine wpAny_bind (wpAny_mkText (wpAny_holding (wpAny_bind (ty _ _ _ _ (fun _ _ e => e) (wpAny_bind (looks_findIn X kf.f_ga _ _ _ _ (fun _ _ e => e) ?_))))))
  show wpAny _ _ (getAttrByItsOwn (.ref x) (.str "_initial_size" s.toks) (.ref 94) (.builtin "list.__getattribute__") true true) _ _ _
  unfold getAttrByItsOwn hookBefore
  refine wpAny_bind (looks_findIn X kf.f_gattr _ _ _ _ (fun _ _ e => e) ?_)
  refine wpAny_bind (wpAny_attempt (wpAny_holding ?_))
  show wpAny _ _ (boundAndCalled _ _ _) _ _ _
  unfold boundAndCalled
  rw [PySem.F.slot_list_getattribute.bind]
  refine wpAny_bind (wpAny_pure ?_)
  refine wpAny_call (code_own (s := { s with toks := s.toks + 1 }) (.inl lga_kind) lga_split lga_plain F.entry_list_ga ?_ (a.isList kf X) ?_)
  · exact F.args_list_getattribute_2 _ _
  unfold Builtin.«object.__getattribute__»
  refine wpAny_bind (m := slotArgs _ _ _) (wpAny_pure ?_)
  refine wpAny_bind (m := attrName _) (wpAny_pure ?_)
  refine wpAny_bind (ty _ _ _ _ (fun _ _ e => e) (wpAny_bind (hfind _ _ _ _ (fun _ _ e => e) ?_)))
  refine wpAny_pure ?_
  exact wpAny_pure (h tk)
end
end Mine
namespace Mine
open PySem PySem.W PySem.Calls PyProof.Rows

/-- the items of anything laid out as a list -/
def IsSeq (h : Heap) (a : Addr) (items : Array Value) : Prop := ∃ o, h.get? a = some o ∧ ∃ n, o.data = .seq items n
theorem IsSeq.at {h h' : Heap} {a : Addr} {items : Array Value} (x : IsSeq h a items) (k : ∀ o, h.get? a = some o → h'.get? a = some o) : IsSeq h' a items := let ⟨o, e, r⟩ := x; ⟨o, k _ e, r⟩
theorem IsSeq.keep {S h h' a items} (x : IsSeq h a items) (k : Keep S h h') (n : a ∉ S) : IsSeq h' a items := x.at fun _ e => k _ _ n e
theorem Acc.isSeq {h : Heap} {x dx vs sz} (a : Acc h x dx vs sz) : IsSeq h x vs.toArray := let ⟨n, e⟩ := a.x; ⟨_, e, n, rfl⟩

section
variable {K : Frag} {w : World} {A : Around} {E : Value → Shared → Prop} {s : Shared} {x dx : Addr} {vs : List Value} {sz : Int}

/-- a special method that is bound, then called with nothing more -/
theorem special_bound {M : Model} {self f : Value} {name : Str} {refuse : Sem Value} {Q : Option Value → Shared → Prop} (hs : Looks M s.heap (specialOf self name) (some f)) (hb : Looks M s.heap (bindSpecial f self) (f, [self])) (hne : (f == Value.none) = false)
    (h : wpAny M A (call f [self]) (fun v => Q (some v)) E s) : wpAny M A (callSpecialIfBoundUnlessNone? self name refuse) Q E s := by
  unfold callSpecialIfBoundUnlessNone? bindSpecialIfBound?
  refine wpAny_holding (wpAny_bind (wpAny_bind (hs.here ?_)))
  dsimp only
  refine wpAny_bind (wpAny_askSetting (wpAny_ite ?_))
  have fin : wpAny M A (if (f == Value.none) = true then (refuse >>= fun v => pure (some v)) else (call f [self] >>= fun v => pure (some v))) Q E s := by
    rw [hne, if_neg Bool.false_ne_true]
    exact wpAny_bind (wpAny_mono h (fun v s' h' => wpAny_pure h') fun _ _ h' => h')
  split
  · exact wpAny_bind (hb.here (wpAny_pure fin))
  · exact wpAny_tryCatch (wpAny_bind (hb.here (wpAny_pure fin)))

theorem iter_own {Q : Value → Shared → Prop} (kf : KF K) (X : K.In s.heap) (a : Acc s.heap x dx vs sz)
    (h : Q (.ref s.heap.objs.size) { s with heap := s.heap.push { cls := .type "list_iterator", data := .fields #[.ref x, .int 0 0] } }) : wpAny (model prg w) A (pyIter (.ref x)) Q E s := by
  have sp := a.special (M := model prg w) X kf.f_iter
  unfold pyIter
  refine wpAny_bind (sp.here ?_)
  dsimp only
  refine wpAny_bind (special_bound sp (Looks.of_pure (slot_list_iter.bind _)) (by decide) ?_)
  refine call_own (n := "__iter__") (.inl (by decide +kernel)) (by decide +kernel) (by decide +kernel) entry_list_iter (args_list_iter _) (a.isList kf X) ?_
  show wpAny _ _ (do ret (← newFields "list_iterator" [.ref x, rawInt 0])) _ _ s
  refine wpAny_bind (wpAny_newObj_type (wpAny_pure ⟨_, rfl, ?_⟩))
  exact wpAny_bind (wpAny_specialOf ⟨_, Heap.get?_push_size _ rfl, rfl⟩ slot_listiter_next.lookup (wpAny_pure h))

theorem next_item {it l : Addr} {i : Nat} {items : Array Value} {y : Value} {Q : Option Value → Shared → Prop} (hit : s.heap.IsListIter it l i) (hl : IsSeq s.heap l items) (hy : items[i]? = some y)
    (hQ : ∀ h', h'.IsListIter it l (i + 1) → Heap.SameBut it s.heap h' → Q (some y) { s with heap := h' }) : wpAny (model prg w) A (pyNext (.ref it)) Q E s := by
  obtain ⟨o, ho, hc, hd⟩ := id hit
  obtain ⟨ol, hol, nl, hdl⟩ := hl
  unfold pyNext
  refine wpAny_bind (wpAny_attempt (wpAny_callSpecial?_slot (name := Str.ofString "__next__") hit.typeIs slot_listiter_next (wpAny_call_entry slot_listiter_next hit.typeIs entry_listiter_next ?_ (args_listiter_next _))))
  show wpAny _ _ (field (.ref it) 0 >>= _) _ _ s
  refine wpAny_bind (wpAny_field ho hd (x := .ref l) rfl ?_)
  show wpAny _ _ (field (.ref it) 1 >>= _) _ _ s
  refine wpAny_bind (wpAny_field ho hd (x := .int i 0) rfl ?_)
  show wpAny _ _ (seqItems? (.ref l) >>= _) _ _ s
  refine wpAny_bind (wpAny_seqItems hol hdl ?_)
  simp only [Int.toNat_natCast, hy]
  refine wpAny_bind (wpAny_setField ho hd (by simp) (wpAny_pure ⟨y, rfl, wpAny_pure (hQ _ ?_ (Heap.SameBut.update ..))⟩))
  exact ⟨_, Heap.get?_update_self _ ho (Obj.isFreed_of_fields (Obj.data_mapFields hd _)), (Obj.cls_mapFields ..).trans hc, by rw [Obj.data_mapFields hd]; simp [rawInt]⟩

theorem next_end {it l : Addr} {i : Nat} {items : Array Value} {Q : Option Value → Shared → Prop} (hh : A.handled = none) (hit : s.heap.IsListIter it l i) (hl : IsSeq s.heap l items) (hy : items[i]? = none)
    (hQ : ∀ h', Heap.ExtBut it s.heap h' → Q none { s with heap := h' }) : wpAny (model prg w) A (pyNext (.ref it)) Q E s := by
  obtain ⟨o, ho, hc, hd⟩ := id hit
  obtain ⟨ol, hol, nl, hdl⟩ := hl
  unfold pyNext
  refine wpAny_bind (wpAny_attempt (wpAny_callSpecial?_slot (name := Str.ofString "__next__") hit.typeIs slot_listiter_next (wpAny_call_entry slot_listiter_next hit.typeIs entry_listiter_next ?_ (args_listiter_next _))))
  show wpAny _ _ (field (.ref it) 0 >>= _) _ _ s
  refine wpAny_bind (wpAny_field ho hd (x := .ref l) rfl ?_)
  show wpAny _ _ (field (.ref it) 1 >>= _) _ _ s
  refine wpAny_bind (wpAny_field ho hd (x := .int i 0) rfl ?_)
  show wpAny _ _ (seqItems? (.ref l) >>= _) _ _ s
  refine wpAny_bind (wpAny_seqItems hol hdl ?_)
  simp only [Int.toNat_natCast, hy]
  refine wpAny_bind (wpAny_rule (wpAny_bind (wpAny_setField ho hd (by simp) ?_)))
  show wpAny _ _ (newExc (.type "StopIteration") [] >>= _) _ _ _
  refine wpAny_bind ?_
  simp only [newExc, newTuple]
  refine wpAny_bind (wpAny_newObj_type ?_ (by size_fits))
  refine wpAny_bind (m := firstArgMember _ _) (wpAny_of_eq (a := Value.none) (by first | rfl | (simp only [firstArgMember]; rfl)) ?_)
  refine wpAny_newObj_type ?_ (by size_fits)
  simp only [raiseNew]
  refine wpAny_bind (wpAny_handled ?_)
  rw [show A.in1.handled = none from hh]
  refine wpAny_bind (wpAny_pure (wpAny_throw ?_))
  refine wpAny_bind (wpAny_isInstance (T := "StopIteration") (b := true) ⟨_, Heap.get?_push_size _ rfl, rfl⟩ isSubtype_stop ?_)
  exact wpAny_pure (hQ _ (((Heap.SameBut.update ..).extBut.push _).push _))

/-- walking the accumulator's pairs -/
theorem walk_own (hh : A.handled = none) (I ax : Addr) (hne : ax ≠ I) (items : Array Value) (Ts : Nat → Addr) (vals : Nat → Array Value)
    (hit : ∀ j, j < items.size → items[j]? = some (.ref (Ts j))) (hTI : ∀ j, j < items.size → Ts j ≠ I) :
    WalksU prg w A I (I :: ax :: (List.range items.size).map Ts) [I] items.size (fun j v => j < items.size ∧ v = vals j)
      (fun j h => h.IsListIter I ax j ∧ IsSeq h ax items ∧ ∀ k, k < items.size → h.IsTuple (Ts k) (vals k))
      (fun j T h => (j < items.size ∧ T = Ts j) ∧ h.IsListIter I ax (j + 1) ∧ IsSeq h ax items ∧ ∀ k, k < items.size → h.IsTuple (Ts k) (vals k)) where
  sub := fun b hb => by simp at hb; simp [hb]
  frame := fun _ _ _ st hk => ⟨st.1.at fun o e => hk I (by simp) o e, st.2.1.at fun o e => hk ax (by simp) o e,
    fun k hk' => (st.2.2 k hk').at fun o e => hk (Ts k) (List.mem_cons_of_mem _ (List.mem_cons_of_mem _ (List.mem_map.mpr ⟨k, List.mem_range.mpr hk', rfl⟩))) o e⟩
  item := fun i s Q E hi st hQ => by
    refine next_item st.1 st.2.1 (y := .ref (Ts i)) (hit i hi) fun h' hit' hs' => ?_
    have tup : ∀ k, k < items.size → h'.IsTuple (Ts k) (vals k) := fun k hk' => (st.2.2 k hk').extBut hs'.extBut (hTI k hk')
    exact hQ (Ts i) (vals i) h' s.toks ⟨hi, rfl⟩ (tup i hi) ⟨⟨hi, rfl⟩, hit', st.2.1.at fun o e => hs'.extBut ax o hne e, tup⟩ fun b o hb e => hs'.extBut b o (fun h => hb (by simp [h])) e
  go := fun _ _ _ _ _ s Q _ hm hQ => wpAny_letOwnedTupleGo_listiter hm.2.1 (hQ s.heap hm.2 fun _ _ _ e => e)
  apart := fun j T _ hm hmem => by
    rcases List.mem_cons.mp hmem with e | e
    · exact hTI j hm.1.1 (hm.1.2 ▸ e)
    · cases e
  done := fun s Q E st hQ => next_end hh st.1 st.2.1 (by simp) fun h' he' => hQ h' s.toks fun b o hb e => he' b o (fun h => hb (by simp [h])) e
  self := fun _ _ _ _ st hQ => wpAny_pyIter_listiter st.1 hQ
end
end Mine
namespace Mine
open PySem PySem.W PySem.Calls PyProof.Rows

/-- the code table of a def, in whatever state -/
def Tab (h : Heap) (P : Addr) : Prop := ∃ ps : Array Value, h.get? P = some { cls := .none, data := .fields ps } ∧ TriplesOk ps.toList
theorem Tab.keep {S h h' P} (x : Tab h P) (k : Keep S h h') (n : P ∉ S) : Tab h' P := let ⟨ps, e, r⟩ := x; ⟨ps, k _ _ n e, r⟩

section
variable {K : Frag} {w : World} {A : Around} {E : Value → Shared → Prop} {s : Shared} {x dx : Addr} {vs : List Value} {sz : Int}

theorem codeTab_of {c P : Addr} {h : Heap} {ps : Array Value} (X : K.In h) (e : codeTab K c P = true) (hP : K.lookup P = none) (t : h.get? P = some { cls := .none, data := .fields ps }) (ok : TriplesOk ps.toList) : h.IsCode c P ps ∧ h.TableAt c P ps := by
  unfold codeTab at e
  split at e
  · rename_i cl di vs sl q
    simp only [Bool.and_eq_true, beq_iff_eq] at e
    obtain ⟨⟨⟨⟨⟨e1, e2⟩, e3⟩, e4⟩, e5⟩, e6⟩ := e
    subst e1
    have ho := X _ _ q
    have hne : c ≠ P := by rintro rfl; rw [q] at hP; cases hP
    have g11 : vs.getD 11 .none = .ref P := by rw [Array.getD_eq_getD_getElem?, e2]; rfl
    obtain ⟨fl, tf, g18⟩ : ∃ a b, vs.getD 18 .none = .str a b := by
      split at e3
      · rename_i a b z; exact ⟨a, b, z⟩
      · cases e3
    obtain ⟨i7, t7, g7⟩ : ∃ a b, vs.getD 7 .none = .int a b := by
      split at e4
      · rename_i a b z; exact ⟨a, b, z⟩
      · cases e4
    obtain ⟨b9, g9⟩ : ∃ a, vs.getD 9 .none = .bool a := by
      split at e5
      · rename_i a z; exact ⟨a, z⟩
      · cases e5
    obtain ⟨i10, t10, g10⟩ : ∃ a b, vs.getD 10 .none = .int a b := by
      split at e6
      · rename_i a b z; exact ⟨a, b, z⟩
      · cases e6
    exact ⟨⟨_, vs, fl, tf, i7, t7, b9, i10, t10, _, ho, rfl, g11, g18, g7, g9, g10, t, rfl, ok, hne⟩, ⟨⟨_, vs, ho, rfl, rfl, e2⟩, t⟩⟩
  · cases e

theorem KF.bi {M : Model} (kf : KF K) {h : Heap} (X : K.In h) (r : Addr) : Looks M h (builtinsFor 3 r) 0 := by
  have e := kf.mod4
  unfold modIn at e
  split at e
  · rename_i o q
    simp only [Bool.and_eq_true, beq_iff_eq] at e
    obtain ⟨⟨e1, e2⟩, e3⟩ := e
    have ho := X _ _ q
    obtain ⟨oc, od, oda, osl⟩ := o
    dsimp only at e1 e2 e3
    subst e1 e2
    have e4 : oda = .plain := by split at e3 <;> first | rfl | cases e3
    subst e4
    unfold builtinsFor
    refine (looks_nsIn X kf.g_bi).andThen ?_
    dsimp only
    rw [if_neg (by decide)]
    exact (Looks.ld ho).andThen .now
  · cases e

/-- the generator expression's code: made, or found -/
theorem genCode {env : Env} {c P : Addr} {pos : Pos} {qual : Str} {scope : Scope} {Q : Value → Shared → Prop} (X : K.In s.heap) (hc : codeTab K c P = true) (hP : K.lookup P = none) (he : env.code = .ref c) (t : Tab s.heap P)
    (h : ∀ s' c', Step [P] s s' → Tab s'.heap P → s'.gens = s.gens → Q c' s') : wpAny (model prg w) A (genexprCode env pos qual scope) Q E s := by
  obtain ⟨ps, hp, ok⟩ := t
  obtain ⟨ic, ta⟩ := codeTab_of X hc hP hp ok
  cases q : codeAmong pos ps.toList with
  | none =>
    refine wpAny_genexprCodeX he ic ta q fun c' h' tk hx _ _ _ _ ht' _ => ?_
    refine h _ _ (.heap (.ext hx (by simp))) ⟨_, ht'.2, ?_⟩ rfl
    simpa using TriplesOk_snoc _ _ _ _ ok
  | some c' => exact wpAny_genexprCode_hit he ic q (h _ _ .refl ⟨ps, hp, ok⟩ rfl)

theorem passing_all (n : Nat) : passing (fun _ => true) n 0 = List.range n := by simp [passing]

/-- a generator over n values, of which each step touches only what is newer than N -/
def GenX (w : World) (A : Around) (N a : Addr) (n : Nat) (F : Nat → Value → Prop) (s : Shared) : Prop :=
  ∃ fp wr g St, WalksS prg w A.in4 a fp wr (GenOnlyQ g) n F St ∧ St 0 s ∧ (∀ i s', St i s' → s'.TypeIs (.ref a) "generator") ∧ a ∈ fp ∧ (∀ b ∈ fp, b < s.heap.objs.size) ∧ ∀ b ∈ wr, N ≤ b

theorem ArePairs.choose {h : Heap} {vs : List Value} {ps : List Pair} (a : ArePairs h vs ps) : ∃ (Ts : Nat → Addr) (vals : Nat → Array Value), ∀ j (p : Pair), ps[j]? = some p → vs[j]? = some (Value.ref (Ts j)) ∧ h.IsTuple (Ts j) (vals j) ∧ ∃ t u, vals j = #[.str p.1 t, .str p.2 u] := by
  have : ∀ j : Nat, ∃ q : Addr × Array Value, ∀ p : Pair, ps[j]? = some p → vs[j]? = some (Value.ref q.1) ∧ h.IsTuple q.1 q.2 ∧ ∃ t u, q.2 = #[.str p.1 t, .str p.2 u] := by
    intro j
    cases e : ps[j]? with
    | none => exact ⟨(0, #[]), by simp⟩
    | some p =>
      obtain ⟨v, hv, T, t, u, rfl, hT⟩ := a.get e
      refine ⟨(T, #[.str p.1 t, .str p.2 u]), fun p' e' => ?_⟩
      cases e'
      exact ⟨hv, hT, t, u, rfl⟩
  obtain ⟨f, hf⟩ := Classical.axiomOfChoice this
  exact ⟨fun j => (f j).1, fun j => (f j).2, hf⟩

theorem off_one {P b : Addr} {o : Obj} {h : Heap} (t : Tab h P) (e : h.get? b = some o) (hc : o.cls ≠ .none) : b ∉ [P] := by
  simp only [List.mem_singleton]
  rintro rfl
  obtain ⟨ps, hp, _⟩ := t
  rw [e] at hp; cases hp
  exact hc rfl

theorem gen_own {env : Env} {elt : Expr} {xa xb : Str} {pa pb pt pi pos : Pos} {kt : Nat} {scope : Scope} {c P : Addr} {m : Str → Option Value} {ps : List Pair} {Fv : Pair → Value → Prop} {Q : Value → Shared → Prop}
    (kf : KF K) (X : K.In s.heap) (a : Acc s.heap x dx vs sz) (ar : ArePairs s.heap vs ps) (ns : s.heap.Ns env.locals m) (hm : m "self" = some (.ref x))
    (hk : env.scope.kind = .function) (hl : env.kindOf "self" = some .local) (hg : env.globals = 3) (he : env.code = .ref c) (hc : codeTab K c P = true) (hP : K.lookup P = none) (tab : Tab s.heap P)
    (hh : A.handled = none) (hroom : A.depth < recursionLimit) (hco : scope.isCoroutine = false) (hclos : closureFor scope env = pure []) (hcell : ∀ y ∈ scope.names, y.2 ≠ .cell) (h0 : scope.names.lookup (".0" : Str) = some NameKind.local)
    (hxa : scope.names.lookup xa = some .local) (hxb : scope.names.lookup xb = some .local) (hab : xa ≠ xb) (hkind : scope.kind = .function)
    (helt : ∀ (A' : Around) E' (p : Pair) t u (s₂ : Shared) m₂ C code, A'.handled = none → K.In s₂.heap → s₂.heap.Ns C m₂ → m₂ xa = some (.str p.1 t) → m₂ xb = some (.str p.2 u) → p ∈ ps →
      wpAny (model prg w) A' (eval elt (genEnv scope [] C code 0 env)) (fun y s₃ => Fv p y ∧ Keeps s₂ s₃) E' s₂)
    (h : ∀ s' g, Step [P] s s' → Tab s'.heap P → GenX w A s.heap.objs.size g ps.length (fun j y => ∃ p, ps[j]? = some p ∧ Fv p y) s' → Q (.ref g) s')
    (hs : ∀ x, genFold (.Name "self" pi) env x = pure x) :
    wpAny (model prg w) A (eval (.GeneratorExp elt [⟨.Tuple [.Name xa pa, .Name xb pb] kt pt, .Name "self" pi, [], 0⟩] scope pos) env) Q E s := by
  obtain ⟨Ts, vals, hTs⟩ := ar.choose
  have hlen := ar.length
  have getp : ∀ j, j < vs.toArray.size → ∃ p, ps[j]? = some p := fun j hj => ⟨ps[j]'(by simpa [hlen] using hj), List.getElem?_eq_getElem _⟩
  have hx := a.lt
  have lim := NoLimit.of K kf X
  refine wpAny_GeneratorExp_walksQT hh hco hclos hcell h0 hxa hxb hab hkind hroom (ldL ns hm ?_ hk hl) hs
  refine iter_own kf X a ?_
  have st₂ : Step [] s { s with heap := s.heap.push { cls := .type "list_iterator", data := .fields #[.ref x, .int 0 0] } } := ⟨.push _, rfl, id⟩
  generalize hs2 : ({ s with heap := s.heap.push { cls := .type "list_iterator", data := .fields #[.ref x, .int 0 0] } } : Shared) = s₂ at *
  have hI : s₂.heap.IsListIter s.heap.objs.size x 0 := by rw [← hs2]; exact ⟨_, Heap.get?_push_size _ rfl, rfl, rfl⟩
  have X₂ := X.keeps st₂.keep.nil
  refine ⟨lim.keeps st₂.keep.nil, genCode X₂ hc hP he (tab.keep st₂.keep (by simp)) fun s₃ code st₃ tab₃ hg₃ => ?_⟩
  have X₃ : K.In s₃.heap := fun b o e => st₃.keep b o (by simp only [List.mem_singleton]; rintro rfl; rw [hP] at e; cases e) (X₂ b o e)
  rw [hg]
  refine (kf.bi X₃ _).here ?_
  have offx : x ∉ [P] := by obtain ⟨n, e⟩ := a.x; exact off_one tab e (by simp)
  have a₃ := (a.stays st₂.keep).keep st₃.keep offx (by obtain ⟨_, _, _, n, e⟩ := a.d; exact off_one tab e (by simp))
  have hI₃ : s₃.heap.IsListIter s.heap.objs.size x 0 := by
    obtain ⟨o, ho, hc, hd⟩ := hI
    exact ⟨o, st₃.keep _ _ (off_one (tab.keep st₂.keep (by simp)) ho (by rw [hc]; simp)) ho, hc, hd⟩
  have hT : ∀ j p, ps[j]? = some p → s₃.heap.IsTuple (Ts j) (vals j) := fun j p e => by
    obtain ⟨-, ⟨o, ho, hc, r⟩, -⟩ := hTs j p e
    exact ⟨o, st₃.keep _ _ (off_one tab ho (by rw [hc]; simp)) (st₂.keep.nil _ _ ho), hc, r⟩
  have hlt : ∀ j, j < vs.toArray.size → Ts j < s₃.heap.objs.size := fun j hj => by
    obtain ⟨p, e⟩ := getp j hj
    obtain ⟨o, ho, _⟩ := hT j p e
    exact Heap.lt_size ho
  have hI' := Heap.lt_size hI₃.choose_spec.1
  refine ⟨s.heap.objs.size, _, [s.heap.objs.size], vs.toArray.size, _, _, _, fun _ => true, fun j y => ∃ p, ps[j]? = some p ∧ Fv p y, rfl,
    fun A' hA => walk_own hA s.heap.objs.size x (Nat.ne_of_lt hx.1) vs.toArray Ts vals (fun j hj => ?_) (fun j hj => ?_), ?_, ⟨hI₃, a₃.isSeq, fun k hk' => ?_⟩, ?_, NoLimit.of K kf X₃, ?_, ?_, ?_⟩
  · obtain ⟨p, e⟩ := getp j hj
    simpa using (hTs j p e).1
  · obtain ⟨p, e⟩ := getp j hj
    obtain ⟨o, ho, _⟩ := (hTs j p e).2.1
    exact Nat.ne_of_lt (Heap.lt_size ho)
  · rintro i v ⟨hi, rfl⟩
    obtain ⟨p, e⟩ := getp i hi
    obtain ⟨t, u, q⟩ := (hTs i p e).2.2
    exact ⟨_, _, q⟩
  · obtain ⟨p, e⟩ := getp k hk'
    exact hT k p e
  · intro b hb
    rcases List.mem_cons.mp hb with rfl | hb
    · exact hI'
    · rcases List.mem_cons.mp hb with rfl | hb
      · exact a₃.lt.1
      · obtain ⟨k, hk, rfl⟩ := List.mem_map.mp hb
        exact hlt k (List.mem_range.mp hk)
  · have hc : cStatics < s.heap.objs.size := let ⟨_, hn, _⟩ := lim; hn.lt
    simp only [List.mem_singleton]
    exact Nat.ne_of_lt hc
  · intro href hhref
    have Xr : ∀ s₅ : Shared, (∀ b ∈ List.range s₃.heap.objs.size, b ∉ [s.heap.objs.size] → ∀ o, href.get? b = some o → s₅.heap.get? b = some o) → K.In s₅.heap := fun s₅ k b o e => by
      have h3 := X₃ b o e
      exact k b (List.mem_range.mpr (Heap.lt_size h3)) (by simp only [List.mem_singleton]; exact Nat.ne_of_lt (Heap.lt_size (X b o e))) o (hhref b o h3)
    refine ⟨fun A' E' i va vb s₅ m₂ hA hp hn hma hmb hkp => wpAny_pure ⟨rfl, s₅.heap, s₅.toks, rfl, fun _ _ e => e⟩, fun A' E' i va vb s₅ m₂ hA hp _ hn hma hmb hkp => ?_⟩
    obtain ⟨hi, hv⟩ := hp
    obtain ⟨p, e⟩ := getp i hi
    obtain ⟨t, u, q⟩ := (hTs i p e).2.2
    obtain ⟨rfl, rfl⟩ : va = .str p.1 t ∧ vb = .str p.2 u := by simpa using congrArg Array.toList (hv.trans q)
    exact wpAny_mono (helt A' E' p t u s₅ m₂ _ code hA (Xr s₅ hkp) hn hma hmb (List.mem_of_getElem? e)) (fun y s₆ z => ⟨⟨p, e, z.1⟩, z.2⟩) fun _ _ z => z
  · intro g h₅ tk gs hb hlt₅ hsz hk₅ W hat
    have eqn : vs.toArray.size = ps.length := by simpa using hlen
    rw [passing_all, List.length_range, eqn] at W
    have eF : (fun (j : Nat) (y : Value) => ∃ i, (List.range ps.length)[j]? = some i ∧ (fun (j : Nat) (y : Value) => ∃ p, ps[j]? = some p ∧ Fv p y) i y) = fun (j : Nat) (y : Value) => ∃ p, ps[j]? = some p ∧ Fv p y := by
      funext j y
      refine propext ⟨fun ⟨i, hi, p, hp, hf⟩ => ?_, fun ⟨p, hp, hf⟩ => ⟨j, ?_, p, hp, hf⟩⟩
      · obtain ⟨hj, rfl⟩ := List.getElem?_eq_some_iff.mp hi
        rw [List.getElem_range] at hp
        exact ⟨p, hp, hf⟩
      · obtain ⟨hj, _⟩ := List.getElem?_eq_some_iff.mp hp
        simp [hj]
    rw [eF] at W
    rw [eqn] at hat
    refine h _ g ((st₂.up.trans st₃).trans ⟨.stays hk₅, rfl, fun z => z.push hb⟩) (tab₃.keep (S := []) (.stays hk₅) (by simp)) ⟨_, _, _, _, W, hat, fun i s' st => st.1.typeIs, List.mem_cons_self, ?_, ?_⟩
    · intro b hb
      show b < h₅.objs.size
      rw [hsz]
      rcases List.mem_cons.mp hb with rfl | hb
      · exact Nat.lt_succ_self _
      · rcases List.mem_cons.mp hb with rfl | hb
        · exact Nat.lt_succ_of_lt hlt₅
        · exact Nat.lt_succ_of_lt (Nat.lt_trans (List.mem_range.mp hb) hlt₅)
    · intro b hb
      rcases List.mem_cons.mp hb with rfl | hb
      · exact Nat.le_of_lt hI'
      · rcases List.mem_cons.mp hb with rfl | hb
        · exact Nat.le_refl _
        · cases hb
end
end Mine
namespace Mine
open PySem PySem.W PySem.Calls PyProof.Rows

theorem args_sum2 (a b : Value) : argsOk "sum" ⟨[a, b], []⟩ := by unfold argsOk; kernel_rfl

/-- one turn ahead of a walk -/
theorem shift {w : World} {A : Around} {I : Addr} {fp wr : List Addr} {G : Array GenState → Array GenState → Prop} {n : Nat} {P : Nat → Value → Prop} {St : Nat → Shared → Prop} (W : WalksS prg w A I fp wr G n P St) :
    WalksS prg w A I fp wr G (n + 1) (fun i v => match i with | 0 => False | i + 1 => P i v) (fun i s => match i with | 0 => False | i + 1 => St i s) where
  sub := W.sub
  grefl := W.grefl
  gtrans := W.gtrans
  frame := fun i s h' tk st ht hk => by
    cases i with
    | zero => exact st
    | succ i => exact W.frame i s h' tk st ht hk
  item := fun i s Q E hi st hQ => by
    cases i with
    | zero => exact st.elim
    | succ i => exact W.item i s Q E (by omega) st fun v s' hP hS hm => hQ v s' hP hS hm
  done := fun s Q E st hQ => W.done s Q E st hQ
  self := fun i s Q E st hQ => by
    cases i with
    | zero => exact st.elim
    | succ i => exact W.self i s Q E st hQ

def shiftV (z : Int) (val : Nat → Int) : Nat → Int
  | 0 => z
  | i + 1 => val i
theorem preSum_shift (z : Int) (val : Nat → Int) : ∀ n, preSum (shiftV z val) (n + 1) = z + preSum val n
  | 0 => by simp [preSum, shiftV]
  | n + 1 => by
    rw [preSum, preSum_shift z val n]
    simp [preSum, shiftV, Int.add_assoc]

section
variable {K : Frag} {w : World} {A : Around} {E : Value → Shared → Prop} {s : Shared} {x dx : Addr} {vs : List Value} {sz : Int}

theorem moved_step {wr : List Addr} {g : Nat} {s' : Shared} (m : Moved wr (GenOnlyQ g) s s') : Step wr s s' := ⟨fun b o n e => m.heap b o n e, m.os, fun z => z.movedS m⟩
theorem Step.dropAll {wr S : List Addr} {s s' s0 : Shared} (a : Step [] s0 s) (b : Step (wr ++ S) s s') (hw : ∀ z ∈ wr, s0.heap.objs.size ≤ z) : Step S s0 s' :=
  ⟨fun z o n e => b.keep z o (fun m => by
    rcases List.mem_append.mp m with m | m
    · exact absurd (Heap.lt_size e) (Nat.not_lt.mpr (hw z m))
    · exact n m) (a.keep.nil z o e), b.os.trans a.os, fun q => b.bare (a.bare q)⟩

theorem sum_start {g : Addr} {n : Nat} {Fv : Nat → Value → Prop} {N : Nat} {z : Int} {t : Tok} {val : Nat → Int} {Q : Value → Shared → Prop} (X : GenX w A N g n Fv s) (hval : ∀ i v, Fv i v → ∃ t, v = .int (val i) t)
    (h : ∀ wr s' t', (∀ b ∈ wr, N ≤ b) → Step wr s s' → Q (.int (z + preSum val n) t') s') : wpAny (model prg w) A (call (.builtin "sum") [.ref g, .int z t]) Q E s := by
  obtain ⟨fp, wr, gg, St, W, hst, hT, ha, hfp, hwr⟩ := X
  have W := W.in4_1
  refine call_function_tree F.kind_sum F.plain_sum F.entry_sum (args_sum2 _ _) ?_
  unfold Builtin.«sum»
  simp only [List.length_cons, List.length_nil]
  rw [if_neg (by decide)]
  refine wpAny_bind (wpAny_of_eq (show Builtin.Builtins.bindParams "sum" ["start"] 0 ⟨[.int z t], []⟩ = pure [some (.int z t)] from rfl) ?_)
  refine wpAny_bind (W.self 0 s _ _ hst ?_)
  show wpAny _ _ (if (_ : Bool) = true then _ else _) _ _ _
  have hval' : ∀ i v, (match i with | 0 => False | i + 1 => Fv i v) → ∃ t, v = Value.int (shiftV z val i) t := fun i v hv => by
    cases i with
    | zero => exact hv.elim
    | succ i => exact hval i v hv
  have e1 : preSum (shiftV z val) 1 = z := by rw [preSum_shift]; simp [preSum]
  have hSf : s.heap.objs.size ∉ fp := fun hm => Nat.lt_irrefl _ (hfp _ hm)
  split
  · refine wpAny_bind (wpAny_rule (wpAny_bind (wpAny_mkInt (wpAny_bind (wpAny_pure ?_)))))
    simp only [List.forIn_cons, List.forIn_nil]
    refine wpAny_bind (wpAny_bind (wpAny_bind (wpAny_isInstance (T := "int") (b := false) (typeIs_int _ _ _) PySem.sub_int_str ?_)))
    simp only [Bool.false_eq_true, if_false]
    refine wpAny_pure (wpAny_bind (wpAny_bind (wpAny_isInstance (T := "int") (b := false) (typeIs_int _ _ _) sub_int_bytes ?_)))
    simp only [Bool.false_eq_true, if_false]
    refine wpAny_pure (wpAny_bind (wpAny_bind (wpAny_isInstance (T := "int") (b := false) (typeIs_int _ _ _) sub_int_bytearray ?_)))
    simp only [Bool.false_eq_true, if_false]
    refine wpAny_pure (wpAny_pure ?_)
    refine wpAny_bind (wpAny_newObj_type ?_)
    refine wpAny_pure ⟨plainId_quiet F.plain_sum_loop _, codeAny_sum_loopAnyS (shift W) (shiftV z val) hval' s.heap.objs.size hSf n 1 _ s.toks 0 0 (.inl rfl) (by omega) (by omega) ?_ ?_ fun s' t' hm => ?_⟩
    · exact W.frame 0 s _ _ hst (Nat.le_succ _) fun b _ o e => Heap.get?_push_of_some _ e
    · rw [e1]; exact Heap.get?_push_size _ rfl
    · rw [preSum_shift]
      refine h wr s' t' hwr (moved_step (hm.drop_new (s₂ := s) (Nat.le_succ _)))
  · refine wpAny_bind (wpAny_pure ?_)
    simp only [List.forIn_cons, List.forIn_nil]
    refine wpAny_bind (wpAny_bind (wpAny_bind (wpAny_isInstance (T := "int") (b := false) (typeIs_int _ _ _) PySem.sub_int_str ?_)))
    simp only [Bool.false_eq_true, if_false]
    refine wpAny_pure (wpAny_bind (wpAny_bind (wpAny_isInstance (T := "int") (b := false) (typeIs_int _ _ _) sub_int_bytes ?_)))
    simp only [Bool.false_eq_true, if_false]
    refine wpAny_pure (wpAny_bind (wpAny_bind (wpAny_isInstance (T := "int") (b := false) (typeIs_int _ _ _) sub_int_bytearray ?_)))
    simp only [Bool.false_eq_true, if_false]
    refine wpAny_pure (wpAny_pure ?_)
    refine wpAny_bind (wpAny_newObj_type ?_)
    refine wpAny_pure ⟨plainId_quiet F.plain_sum_loop _, codeAny_sum_loopAnyS (shift W) (shiftV z val) hval' s.heap.objs.size hSf n 1 _ t 0 2 (.inr rfl) (by omega) (by omega) ?_ ?_ fun s' t' hm => ?_⟩
    · exact W.frame 0 s _ _ hst (Nat.le_refl _) fun b _ o e => Heap.get?_push_of_some _ e
    · rw [e1]; exact Heap.get?_push_size _ rfl
    · rw [preSum_shift]
      refine h wr s' t' hwr (moved_step (hm.drop_new (s₂ := s) (Nat.le_refl _)))
end
end Mine
namespace Mine
open PySem PySem.W PySem.Calls PyProof.Rows

def Small (p : Pair) : Prop := p.1.length ≤ 100 ∧ p.2.length ≤ 100
/-- the text of a pair -/
def txt (p : Pair) : Str := p.1 ++ p.2
theorem txt_length (p : Pair) : (txt p).length = p.1.length + p.2.length := by unfold txt; simp [Str.length_append]
theorem join_two (a b : Str) : Txt.join "" [a, b] = a ++ b := by
  have e : Txt.join "" [a, b] = Str.join "" [a, b] := by simpa using join_plain_closes "" [a, b]
  rw [e, join_cons_cons, join_one]
  rw [Str.append_right_empty (x := a) (y := Str.ofString "") (by decide)]
theorem sum_small : ∀ {ps : List Pair}, (∀ p ∈ ps, Small p) → ((ps.map txt).map (·.length)).sum ≤ ps.length * 200
  | [], _ => by simp
  | p :: r, h => by
    have h1 := h p (by simp)
    have h2 := sum_small (ps := r) fun q hq => h q (by simp [hq])
    simp only [List.map_cons, List.sum_cons, List.length_cons, txt_length]
    have := h1.1
    have := h1.2
    omega

section
variable {K : Frag} {w : World} {A : Around} {E : Value → Shared → Prop} {s : Shared} {x dx : Addr} {vs : List Value} {sz : Int}

theorem join_genX {sep : Str} {t : Tok} {g : Addr} {n N : Nat} {Fv : Nat → Value → Prop} {tx : List Str} {Q : Value → Shared → Prop} (X : GenX w A N g n Fv s) (hn : tx.length = n) (htx : ∀ i v, Fv i v → ∃ y t, tx[i]? = some y ∧ v = .str y t) (hok : JoinOk sep tx = true) (hsz : n ≤ 1000)
    (h : ∀ wr s' t', (∀ b ∈ wr, N ≤ b) → Step wr s s' → Q (.str (Txt.join sep tx) t') s') : wpAny (model prg w) A (call (.builtin "str.join") [.str sep t, .ref g]) Q E s := by
  obtain ⟨fp, wr, gg, St, W, hst, hT, ha, hfp, hwr⟩ := X
  have W := W.in4_2
  refine SC.joinGen W hT hst hfp ha (fun j v hv => let ⟨y, u, _, e⟩ := htx j v hv; ⟨_, u, e⟩) (fun s' lt hm hacc => ?_) (by rw [sizeLine_eq]; omega)
  have hl : lt.map (·.1) = tx := by
    apply List.ext_getElem?
    intro j
    have hsz : lt.length = n := by simpa [strValues] using hacc.1
    by_cases hj : j < n
    · have hj' : j < lt.length := hsz ▸ hj
      obtain ⟨y, u, e, hv⟩ := htx j _ (hacc.2 j (.str lt[j].1 lt[j].2) (by simp [strValues, List.getElem?_eq_getElem hj']))
      injection hv with h1 _
      rw [List.getElem?_map, List.getElem?_eq_getElem hj', e, ← h1]; rfl
    · rw [List.getElem?_eq_none (by simpa [hsz] using Nat.le_of_not_lt hj), List.getElem?_eq_none (by rw [hn]; exact Nat.le_of_not_lt hj)]
  rw [hl]
  refine ⟨hok, fun t' k => h wr _ t' hwr ?_⟩
  have m := moved_step hm
  exact ⟨m.keep, m.os, m.bare⟩

theorem GenX.toks {g : Addr} {n N tk : Nat} {Fv : Nat → Value → Prop} (X : GenX w A N g n Fv s) (h : s.toks ≤ tk) : GenX w A N g n Fv { s with toks := tk } := by
  obtain ⟨fp, wr, gg, St, W, hst, hT, ha, hfp, hwr⟩ := X
  exact ⟨fp, wr, gg, St, W, W.frame 0 s s.heap tk hst h fun _ _ _ e => e, hT, ha, hfp, hwr⟩

theorem bind_len (s : Shared) (a : Value) : BindsTo s fdLen ⟨[a], []⟩ [("self", a)] := BindsTo.of_eq rfl
theorem bind_str (s : Shared) (a : Value) : BindsTo s fdStr ⟨[a], []⟩ [("self", a)] := BindsTo.of_eq rfl

def weight (ps : List Pair) : Int := preSum (fun i => (((ps[i]?).map fun p => ((p.1.length + p.2.length : Nat) : Int)).getD 0)) ps.length

theorem len_code {ps : List Pair} {R : Result → Shared → Prop} (kf : KF K) (X : K.In s.heap) (a : Acc s.heap x dx vs sz) (ar : ArePairs s.heap vs ps) (hsm : ∀ p ∈ ps, Small p) (tab : Tab s.heap 56) (hh : A.handled = none) (hd : A.depth + 10 < recursionLimit)
    (h : ∀ s' t, Step [56] s s' → Tab s'.heap 56 → R (.ok (.ret (.int (sz + weight ps) t))) s') :
    codeAny (model prg w) A (.call (.ref 61) ⟨[.ref x], []⟩) R s := by
  refine code_meth kf X kf.oLen kf.cLen rfl ?_ (bind_len s _) (by decide) (locs rfl) (fun s₀ L hL st ns E' => ?_)
  · omega
  have X₀ := X.keeps st.keep.nil
  have a₀ := a.stays st.keep
  refine wpAny_execs_cons (wpAny_Return_some (Call_Name rfl (ldB X₀ kf.g_sum kf.b_sum (cw_biE rfl (wpAny_items_cons ?_)))))
  refine gen_own (c := 60) (P := 56) (Fv := fun p y => ∃ t, y = .int ((p.1.length + p.2.length : Nat) : Int) t) kf X₀ a₀ (ar.keep st.keep (by intro a h; cases h)) ns rfl rfl rfl rfl rfl kf.tab60 kf.off56 (tab.keep st.keep (by simp)) hh ?_ rfl rfl (by decide) rfl rfl rfl (by decide) rfl ?_ ?_ (fun _ => rfl)
  · show A.depth + 1 < _
    omega
  · intro A' E'' p t u s₂ m₂ C code hA X₂ ns₂ ha hb hp
    obtain ⟨h1, h2⟩ := hsm p hp
    refine wpAny_BinOp (Call_Name rfl (ldB X₂ kf.g_len kf.b_len (cw_biE rfl (wpAny_items_cons (ldL ns₂ ha (wpAny_items_nil (P.len_str (by omega) ?_)))))))
    refine Call_Name rfl (ldB (s := { s₂ with toks := s₂.toks + 1 + 1 }) X₂ kf.g_len kf.b_len (cw_biE rfl (wpAny_items_cons (ldL (s := { s₂ with toks := s₂.toks + 1 + 1 }) ns₂ hb (wpAny_items_nil (P.len_str (by omega) ?_))))))
    refine wpAny_add_int ⟨?_, s₂.heap, _, rfl, fun _ _ e => e⟩
    rw [← Int.natCast_add]
    exact ⟨_, rfl⟩
  · intro s₁ g st₁ tab₁ G
    have X₁ : K.In s₁.heap := fun b o e => st₁.keep b o (by simp only [List.mem_singleton]; rintro rfl; rw [kf.off56] at e; cases e) (X₀ b o e)
    have a₁ : Acc s₁.heap x dx vs sz := a₀.keep st₁.keep (by obtain ⟨n, e⟩ := a₀.x; exact off_one (tab.keep st.keep (by simp)) e (by simp)) (by obtain ⟨_, _, _, n, e⟩ := a₀.d; exact off_one (tab.keep st.keep (by simp)) e (by simp))
    have ns₁ := nsKeep ns st₁.keep (by
      obtain ⟨ps, hp, _⟩ := tab
      simp only [List.mem_singleton]
      rintro rfl
      exact Nat.ne_of_lt (Heap.lt_size hp) hL)
    refine wpAny_items_cons (eAttr rfl (ldL ns₁ rfl (get_isz kf X₁ a₁ fun tk => wpAny_items_nil ?_)))
    refine sum_start (val := fun i => (((ps[i]?).map fun p => ((p.1.length + p.2.length : Nat) : Int)).getD 0)) (G.toks (Nat.le_succ _)) (fun i v hv => ?_) fun wr s₃ t₃ hwr st₃ => ?_
    · obtain ⟨p, e, t, rfl⟩ := hv
      exact ⟨t, by rw [e]; rfl⟩
    · have tab₀ := tab.keep st.keep (by simp)
      have hlt : s.heap.objs.size < s₀.heap.objs.size := hL ▸ ns.lt
      have hw : ∀ z ∈ wr, s.heap.objs.size ≤ z := fun z m => Nat.le_trans (Nat.le_of_lt hlt) (hwr z m)
      have h56 : 56 ∉ wr := fun m => by
        obtain ⟨ps, hp, _⟩ := tab₀
        exact Nat.lt_irrefl _ (Nat.lt_of_lt_of_le (Heap.lt_size hp) (hwr _ m))
      refine h s₃ t₃ (Step.dropAll st ((st₁.mono ?_).trans ((Step.toks (tk := s₁.toks + 1)).up.trans (st₃.mono ?_))) hw) (tab₁.keep st₃.keep h56)
      · intro b hb; exact List.mem_append.mpr (.inr hb)
      · intro b hb; exact List.mem_append.mpr (.inl hb)

theorem eTupleK {elts : List Expr} {env : Env} {k : Nat} {pos : Pos} {Q : Value → Shared → Prop}
    (h : wpAny (model prg w) A (spliced (backTo pos (starEach elts env)))
      (fun vs s₁ => vs.length ≤ 1000 ∧ Q (.ref s₁.heap.objs.size) { s₁ with heap := s₁.heap.push { cls := .type "tuple", data := .seq vs.toArray } }) E s) : wpAny (model prg w) A (eval (.Tuple elts k pos) env) Q E s :=
  wpAny_Tuple (wpAny_mono h (fun _ s₁ z => ⟨by rw [sizeLine_eq]; omega, z.2⟩) fun _ _ e => e)

theorem str_code {ps : List Pair} {R : Result → Shared → Prop} (kf : KF K) (X : K.In s.heap) (a : Acc s.heap x dx vs sz) (ar : ArePairs s.heap vs ps) (hsm : ∀ p ∈ ps, Small p) (hsz : ps.length ≤ 1000) (tab : Tab s.heap 63) (hh : A.handled = none) (hd : A.depth + 10 < recursionLimit)
    (h : ∀ s' t, Step [63] s s' → Tab s'.heap 63 → R (.ok (.ret (.str (Txt.join "" (ps.map txt)) t))) s') :
    codeAny (model prg w) A (.call (.ref 68) ⟨[.ref x], []⟩) R s := by
  refine code_meth kf X kf.oStr kf.cStr rfl ?_ (bind_str s _) (by decide) (locs rfl) (fun s₀ L hL st ns E' => ?_)
  · omega
  have X₀ := X.keeps st.keep.nil
  have a₀ := a.stays st.keep
  have tab₀ := tab.keep st.keep (by simp)
  refine wpAny_execs_cons (wpAny_Return_some (wp_MCall rfl rfl rfl (ldG X₀ kf.g_empty fun pl => GM.join (cw_biE rfl (wpAny_items_cons ?_)))))
  refine gen_own (c := 67) (P := 63) (Fv := fun p y => ∃ t, y = .str (txt p) t) kf X₀ a₀ (ar.keep st.keep (by intro a h; cases h)) ns rfl rfl rfl rfl rfl kf.tab67 kf.off63 tab₀ hh ?_ rfl rfl (by decide) rfl rfl rfl (by decide) rfl ?_ ?_ (fun _ => rfl)
  · show A.depth + 1 < _
    omega
  · intro A' E'' p t u s₂ m₂ C code hA X₂ ns₂ ha hb hp
    obtain ⟨h1, h2⟩ := hsm p hp
    refine wp_MCall rfl rfl rfl (ldG X₂ kf.g_empty fun pl => GM.join (cw_biE rfl (wpAny_items_cons (eTupleK (wpAny_items_cons (ldL ns₂ ha (wpAny_items_cons (ldL ns₂ hb (wpAny_items_nil ⟨by simp, wpAny_items_nil ?_⟩)))))))))
    refine join_tupleW (ys := [p.1, p.2]) ⟨_, Heap.get?_push_size _ rfl, rfl, 0, rfl⟩ (.cons _ _ (.cons _ _ .nil)) (by decide) (by simp; omega) fun t' k => ⟨⟨t', ?_⟩, _, k, rfl, fun _ _ e => Heap.get?_push_of_some _ e⟩
    rw [join_two]; rfl
  · intro s₁ g st₁ tab₁ G
    refine wpAny_items_nil (join_genX (tx := ps.map txt) G (by simp) (fun i v hv => ?_) ?_ hsz fun wr s₃ t₃ hwr st₃ => ?_)
    · obtain ⟨p, e, t, rfl⟩ := hv
      exact ⟨txt p, t, by rw [List.getElem?_map, e]; rfl, rfl⟩
    · refine joinOk_of_weight ?_ (by decide)
      have := sum_small hsm
      simp only [List.length_map]
      omega
    · have hlt : s.heap.objs.size < s₀.heap.objs.size := hL ▸ ns.lt
      have hw : ∀ z ∈ wr, s.heap.objs.size ≤ z := fun z m => Nat.le_trans (Nat.le_of_lt hlt) (hwr z m)
      have h63 : 63 ∉ wr := fun m => by
        obtain ⟨ps, hp, _⟩ := tab₀
        exact Nat.lt_irrefl _ (Nat.lt_of_lt_of_le (Heap.lt_size hp) (hwr _ m))
      refine h s₃ t₃ (Step.dropAll st ((st₁.mono ?_).trans (st₃.mono ?_)) hw) (tab₁.keep st₃.keep h63)
      · intro b hb; exact List.mem_append.mpr (.inr hb)
      · intro b hb; exact List.mem_append.mpr (.inl hb)
end
end Mine
namespace Mine
open PySem PySem.W PySem.Calls PyProof.Rows

theorem plain_str_new : plainId "str.__new__" = true := by decide +kernel

section
variable {K : Frag} {w : World} {A : Around} {E : Value → Shared → Prop} {s : Shared} {x dx : Addr} {vs : List Value} {sz : Int} {ps : List Pair}

theorem callSpecial_fn {M : Model} {name : Str} {f : Addr} {args : List Value} {Q : Option Value → Shared → Prop} (X : K.In s.heap) (a : Acc s.heap x dx vs sz)
    (hf : findIn K (.ref 94) name = some (some (.ref f))) (ht : typeIn K (.ref f) = some (.type "function"))
    (h : wpAny M A (call (.ref f) (.ref x :: args)) (fun v => Q (some v)) E s) : wpAny M A (callSpecial? (.ref x) name args) Q E s := by
  unfold callSpecial?
  refine wpAny_bind ((a.special X hf).here ?_)
  refine wpAny_holding ?_
  refine wpAny_bind ((bind_fn X _ ht).here ?_)
  exact wpAny_bind (wpAny_mono h (fun _ _ z => wpAny_pure z) fun _ _ z => z)

theorem weight_nonneg (ps : List Pair) : 0 ≤ weight ps := by
  have : ∀ (val : Nat → Int), (∀ i, 0 ≤ val i) → ∀ n, 0 ≤ preSum val n := fun val h n => by
    induction n with
    | zero => simp [preSum]
    | succ n ih => have := h n; simp only [preSum]; omega
  refine this _ (fun i => ?_) _
  cases ps[i]? with
  | none => simp
  | some p => simp only [Option.map_some, Option.getD_some]; omega
theorem weight_small (h : ∀ p ∈ ps, Small p) : weight ps ≤ ps.length * 200 := by
  have : ∀ (val : Nat → Int), (∀ i, val i ≤ 200) → ∀ n : Nat, preSum val n ≤ n * 200 := fun val h n => by
    induction n with
    | zero => simp [preSum]
    | succ n ih => have := h n; simp only [preSum]; omega
  refine this _ (fun i => ?_) _
  cases e : ps[i]? with
  | none => simp
  | some p =>
    have h1 := h p (List.mem_of_getElem? e)
    have h2 := h1.1
    have h3 := h1.2
    simp only [Option.map_some, Option.getD_some]; omega

/-- the body of the builtin len upon the accumulator -/
theorem len_body {Q : Value → Shared → Prop} (kf : KF K) (X : K.In s.heap) (a : Acc s.heap x dx vs sz) (ar : ArePairs s.heap vs ps) (hsm : ∀ p ∈ ps, Small p) (hsz : ps.length ≤ 1000) (h0 : 0 ≤ sz) (h9 : sz ≤ 1000) (tab : Tab s.heap 56) (hh : A.handled = none) (hd : A.depth + 20 < recursionLimit)
    (h : ∀ s' t, Step [56] s s' → Tab s'.heap 56 → Q (.int (sz + weight ps) t) s') : wpAny (model prg w) A (Builtin.«len» ⟨[.ref x], []⟩) (fun fin s' => ∃ r, fin = .done (.ret r) ∧ Q r s') E s := by
  have w1 := weight_nonneg ps
  have w2 := weight_small hsm
  unfold Builtin.«len»
  refine wpAny_bind (m := oneArg "len" _) (wpAny_pure ?_)
  refine wpAny_bind (callSpecial_fn X a kf.f_len kf.t_len (wpAny_call (len_code kf X a ar hsm tab hh ?_ fun s₁ t st₁ tab₁ => ?_)))
  · omega
  refine wpAny_bind (wpAny_holding (wpAny_pure ?_))
  refine wpAny_bind (wpAny_letGo ?_)
  rw [if_neg (by omega), if_neg (by omega)]
  exact wpAny_bind (wpAny_mkInt (wpAny_pure ⟨_, rfl, h _ _ (st₁.trans .toks) tab₁⟩))

theorem len_acc {Q : Value → Shared → Prop} (kf : KF K) (X : K.In s.heap) (a : Acc s.heap x dx vs sz) (ar : ArePairs s.heap vs ps) (hsm : ∀ p ∈ ps, Small p) (hsz : ps.length ≤ 1000) (h0 : 0 ≤ sz) (h9 : sz ≤ 1000) (tab : Tab s.heap 56) (hh : A.handled = none) (hd : A.depth + 20 < recursionLimit)
    (h : ∀ s' t, Step [56] s s' → Tab s'.heap 56 → Q (.int (sz + weight ps) t) s') : wpAny (model prg w) A (call (.builtin "len") [.ref x]) Q E s :=
  Calls.call_function_entry kind_len plain_len entry_len (args_len1 _) (len_body kf X a ar hsm hsz h0 h9 tab hh hd h)

theorem truthy_acc {Q : Bool → Shared → Prop} (kf : KF K) (X : K.In s.heap) (a : Acc s.heap x dx vs sz) (ar : ArePairs s.heap vs ps) (hsm : ∀ p ∈ ps, Small p) (hsz : ps.length ≤ 1000) (h0 : 0 ≤ sz) (h9 : sz ≤ 1000) (tab : Tab s.heap 56) (hh : A.handled = none) (hd : A.depth + 20 < recursionLimit)
    (h : ∀ s', Step [56] s s' → Tab s'.heap 56 → Q (sz + weight ps != 0) s') : wpAny (model prg w) A (truthy (.ref x)) Q E s := by
  have key : wpAny (model prg w) A (runValue (.builtin "len" ⟨[.ref x], []⟩)) (fun r s' => ∃ t, r = .int (sz + weight ps) t ∧ Q (sz + weight ps != 0) s') E s := by
    refine wpAny_runValue (codeAny_builtin entry_len ?_)
    rw [Around.under_plainId plain_len _]
    exact wpAny_mono (len_body (Q := fun r s' => ∃ t, r = .int (sz + weight ps) t ∧ Q (sz + weight ps != 0) s') kf X a ar hsm hsz h0 h9 tab hh hd fun s' t st tab' => ⟨t, rfl, h s' st tab'⟩)
      (fun fin s' h' => by obtain ⟨r, rfl, hq⟩ := h'; exact hq) fun _ _ e => e
  unfold truthy
  have sb : wpAny (model prg w) A (callSpecial? (.ref x) "__bool__") (fun r s' => r = none ∧ s' = s) E s := by
    unfold callSpecial?
    exact wpAny_bind ((a.special X kf.f_bool).here (wpAny_pure ⟨rfl, rfl⟩))
  refine wpAny_bind (wpAny_mono sb (fun r s' z => ?_) fun _ _ e => e)
  obtain ⟨rfl, rfl⟩ := z
  refine wpAny_bind ((a.special X kf.f_len).here ?_)
  exact wpAny_bind (wpAny_mono key (fun r s' h' => by obtain ⟨t, rfl, hq⟩ := h'; exact wpAny_pure hq) fun _ _ e => e)

theorem str_acc {Q : Value → Shared → Prop} (kf : KF K) (X : K.In s.heap) (a : Acc s.heap x dx vs sz) (ar : ArePairs s.heap vs ps) (hsm : ∀ p ∈ ps, Small p) (hsz : ps.length ≤ 1000) (tab : Tab s.heap 63) (hh : A.handled = none) (hd : A.depth + 20 < recursionLimit) (hu : A.units + 20 < cLine)
    (h : ∀ s' t, Step [63] s s' → Tab s'.heap 63 → Q (.str (Txt.join "" (ps.map txt)) t) s') : wpAny (model prg w) A (call (.type "str") [.ref x]) Q E s := by
  refine callType_codes (Q₁ := fun obj s₁ => s₁.TypeIs obj "str" ∧ Q obj s₁) F.called_str (F.typeCall_str_1 _) F.entry_object_init ?_ fun obj s₁ h₁ => ?_
  · refine codeAny_of_tree ?_
    show wpAny _ A.in1.in1 (do checkBuiltinCall "str.__new__" ⟨[.type "str", .ref x], []⟩; again (.builtin "str.__new__" ⟨[.type "str", .ref x], []⟩)) _ _ s
    refine wpAny_bind (wpAny_of_eq (F.newCall_str_1 _) (wpAny_pure ⟨plainId_quiet (by decide +kernel) _, codeAny_builtin F.entry_str_new ?_⟩))
    rw [str_new_tree (.ref x), Around.under_plainId plain_str_new _]
    refine wpAny_bind (wpAny_pure ?_)
    refine wpAny_bind (wpAny_of_eq isSubtype_str_str ?_)
    unfold Builtin.Str.strOf
    refine wpAny_bind ?_
    rw [show Builtin.Str.isExactStr (.ref x) = false from rfl, if_neg (by decide)]
    refine wpAny_bind (wpAny_cRoomFor ?_ ?_)
    · show A.units + 1 + 1 < cLine
      omega
    refine wpAny_bind (callSpecial_fn X a kf.f_str kf.t_str (wpAny_call (str_code kf X a ar hsm hsz tab hh ?_ fun s₁ t st₁ tab₁ => ?_)))
    · show A.depth + 10 < _
      omega
    refine wpAny_bind (m := asStr? _) (wpAny_pure ?_)
    exact wpAny_pure (wpAny_pure ⟨typeIs_str _ _ _, h s₁ t st₁ tab₁⟩)
  · exact ⟨h₁.1, F.args_object_init_2 obj _, object_init_meets F.called_str.init.lookup F.called_str.made (by decide) prg w A.in1 _ s₁ ⟨h₁.1, rfl, h₁.2⟩⟩
end
end Mine
namespace Mine
open PySem PySem.W PySem.Calls PyProof.Rows

section
variable {K : Frag} {w : World} {A : Around} {E : Value → Shared → Prop} {s : Shared} {x dx : Addr} {vs : List Value} {sz : Int} {ps : List Pair}

theorem not_of {M : Model} {v : Value} {Q : Value → Shared → Prop} (h : wpAny M A (truthy v) (fun c s' => Q (.bool (!c)) s') E s) : wpAny M A (unaryOp .Not v) Q E s := by
  show wpAny M A (holding [v] (do return .bool (!(← truthy v)))) Q E s
  exact wpAny_holding (wpAny_bind (wpAny_mono h (fun _ _ z => wpAny_pure z) fun _ _ z => z))

theorem off_two {P b : Addr} {o : Obj} {h : Heap} {Q : Addr} (t : Tab h P) (t' : Tab h Q) (e : h.get? b = some o) (hc : o.cls ≠ .none) : b ∉ [P, Q] := by
  intro m
  rcases List.mem_cons.mp m with rfl | m
  · exact off_one t e hc (by simp)
  · exact off_one t' e hc m
theorem Acc.tabs {h h' : Heap} {P : Addr} (a : Acc h x dx vs sz) (t : Tab h P) (k : Keep [P] h h') : Acc h' x dx vs sz :=
  a.keep k (by obtain ⟨n, e⟩ := a.x; exact off_one t e (by simp)) (by obtain ⟨_, _, _, n, e⟩ := a.d; exact off_one t e (by simp))
theorem offT {h : Heap} {P : Addr} (t : Tab h P) : OffTuples [P] h := fun b hb o e hc => off_one t e (by rw [hc]; simp) hb
theorem Tab.apart {h h' : Heap} {P Q : Addr} (t : Tab h P) (_ : Tab h Q) (hne : P ≠ Q) (k : Keep [Q] h h') : Tab h' P := t.keep k (by simpa using hne)
theorem Ns.tabs {h h' : Heap} {P L : Addr} {m : Str → Option Value} (n : h.Ns L m) (t : Tab h P) (k : Keep [P] h h') : h'.Ns L m := nsKeep n k (by
  obtain ⟨ps, hp, _⟩ := t
  obtain ⟨o, es, ep, ho, hd, _⟩ := n
  simp only [List.mem_singleton]
  rintro rfl
  rw [hp] at ho; cases ho; cases hd)
theorem KF.in56 (kf : KF K) {h h' : Heap} (X : K.In h) (k : Keep [56] h h') : K.In h' := fun b o e => k b o (by simp only [List.mem_singleton]; rintro rfl; rw [kf.off56] at e; cases e) (X b o e)
theorem KF.in63 (kf : KF K) {h h' : Heap} (X : K.In h) (k : Keep [63] h h') : K.In h' := fun b o e => k b o (by simp only [List.mem_singleton]; rintro rfl; rw [kf.off63] at e; cases e) (X b o e)

theorem bind_ows (s : Shared) (a : Value) : BindsTo s fdOws ⟨[a], []⟩ [("self", a)] := BindsTo.of_eq rfl

theorem ows_code {R : Result → Shared → Prop} (kf : KF K) (X : K.In s.heap) (a : Acc s.heap x dx vs sz) (ar : ArePairs s.heap vs ps) (hsm : ∀ p ∈ ps, Small p) (hsz : ps.length ≤ 1000) (h0 : 0 ≤ sz) (h9 : sz ≤ 1000)
    (tab : Tab s.heap 56) (tab' : Tab s.heap 63) (hh : A.handled = none) (hd : A.depth + 40 < recursionLimit) (hu : A.units + 40 < cLine)
    (h : ∀ s', Step [56, 63] s s' → Tab s'.heap 56 → Tab s'.heap 63 → R (.ok (.ret (.bool (sz == 0 && (sz + weight ps == 0 || Txt.isspace (Txt.join "" (ps.map txt))))))) s') :
    codeAny (model prg w) A (.call (.ref 83) ⟨[.ref x], []⟩) R s := by
  refine code_meth kf X kf.oOws kf.cOws rfl ?_ (bind_ows s _) (by decide) (locs rfl) (fun s₀ L hL st ns E' => ?_)
  · omega
  have X₀ := X.keeps st.keep.nil
  have a₀ := a.stays st.keep
  have ar₀ := ar.keep st.keep (by intro a h; cases h)
  have tab₀ := tab.keep st.keep (by simp)
  have tab'₀ := tab'.keep st.keep (by simp)
  refine wpAny_execs_cons (wpAny_Return_some (BoolOp_and (wpAny_Compare1 (eAttr rfl (ldL ns rfl (get_isz kf X₀ a₀ fun tk => ?_))))))
  refine eInt fun t₁ s₁ st₁ => cmp_ofEq (wpAny_eq_int (wpAny_truthy_bool ?_))
  have st₁' : Step [] s₀ s₁ := (Step.toks).trans st₁
  cases hz : (sz == 0 : Bool) with
  | false =>
    rw [if_neg Bool.false_ne_true]
    have := h s₁ (st.trans st₁').up (tab₀.keep st₁'.keep (by simp)) (tab'₀.keep st₁'.keep (by simp))
    rw [hz] at this
    exact this
  | true =>
    rw [if_pos rfl]
    have X₁ := X₀.keeps st₁'.keep.nil
    have a₁ := a₀.stays st₁'.keep
    have ar₁ := ar₀.keep st₁'.keep (by intro a h; cases h)
    have tab₁ := tab₀.keep st₁'.keep (by simp)
    have tab'₁ := tab'₀.keep st₁'.keep (by simp)
    have ns₁ := nsKeep ns st₁'.keep (by simp)
    refine BoolOp_one (BoolOp_or (wpAny_UnaryOp (ldL ns₁ rfl ?_)))
    refine not_of (truthy_acc kf X₁ a₁ ar₁ hsm hsz h0 h9 tab₁ hh ?_ fun s₂ st₂ tab₂ => wpAny_truthy_bool ?_)
    · show A.depth + 1 + 20 < _
      omega
    have tab'₂ := tab'₁.apart tab₁ (by decide) st₂.keep
    have st₂' : Step [56, 63] s s₂ := (st.trans st₁').up.trans (st₂.mono (by simp +contextual))
    cases hw : (sz + weight ps == 0 : Bool) with
    | true =>
      have e1 : (!(sz + weight ps != 0)) = true := by rw [beq_iff_eq] at hw; simp [hw]
      rw [e1, if_pos rfl]
      have := h s₂ st₂' tab₂ tab'₂
      rw [hz, hw] at this
      exact this
    | false =>
      have e1 : (!(sz + weight ps != 0)) = false := by simpa using hw
      rw [e1, if_neg Bool.false_ne_true]
      have X₂ := kf.in56 X₁ st₂.keep
      have a₂ := a₁.tabs tab₁ st₂.keep
      have ar₂ := ar₁.keep st₂.keep (offT tab₁)
      have ns₂ := Ns.tabs ns₁ tab₁ st₂.keep
      refine BoolOp_one (wp_MCall rfl rfl rfl (Call_Name rfl (ldB X₂ kf.g_str kf.b_str (callWith_type1 (wpAny_items_cons (ldL ns₂ rfl (wpAny_items_nil ?_)))))))
      refine str_acc kf X₂ a₂ ar₂ hsm hsz tab'₂ hh ?_ ?_ fun s₃ t st₃ tab'₃ pl => GM.isspace (cw_bi0 (SC.isspace ?_))
      · show A.depth + 1 + 20 < _
        omega
      · show A.units + 3 + 20 < _
        omega
      have := h s₃ (st₂'.trans (st₃.mono (by simp +contextual))) (tab₂.apart tab'₂ (by decide) st₃.keep) tab'₃
      rw [hz, hw] at this
      exact this
end
end Mine
namespace Mine
open PySem PySem.W PySem.Calls PyProof.Rows

section
variable {K : Frag} {w : World} {A : Around} {E : Value → Shared → Prop} {s : Shared}

/-- one turn of a list comprehension: the target is bound, the element computed -/
def CompStep (w : World) (A : Around) (target elt : Expr) (cenv : Env) (it : Value) (Fv : Nat → Value → Prop) (i : Nat) (v : Value) (s₃ : Shared) : Prop :=
  ∀ E' m₃, s₃.heap.Ns cenv.locals m₃ → wpAny (model prg w) A (letOwnedTupleGo target it v) (fun _ s₀ => wpAny (model prg w) A (assign target cenv v) (fun _ s₄ =>
    wpAny (model prg w) A (eval elt cenv) (fun y s₅ => Step [cenv.locals] s₃ s₅ ∧ (∃ m₅, s₅.heap.Ns cenv.locals m₅) ∧ Fv i y) E' s₄) E' s₀) E' s₃

theorem comp_seq {elt target iter : Expr} {scope : Scope} {pos : Pos} {env : Env} {Q : Value → Shared → Prop} (hh : A.handled = none)
    (hfree : ∀ y ∈ scope.names, y.2 ≠ .free) (hcell : ∀ y ∈ scope.names, y.2 ≠ .cell) (hkind : scope.kind = .function) (hnames : ∀ y ∈ scope.names, y.2 = .local → scope.names.lookup y.1 = some .local)
    (h : wpAny (model prg w) A (eval iter env) (fun xv s₁ => wpAny (model prg w) A (pyIter xv) (fun it s₂ => ∃ I ax items Fv, it = .ref I ∧ s₂.heap.IsListIter I ax 0 ∧ IsSeq s₂.heap ax items ∧ ax ≠ I ∧ items.size ≤ 1000 ∧
      (∀ C s₃ i v, items[i]? = some v → Keep [I] s₂.heap s₃.heap → s₂.heap.get? C = none → s₃.heap.IsListIter I ax (i + 1) → CompStep w A target elt (compEnv scope C env) (.ref I) Fv i v s₃) ∧
      (∀ s' D ys, Step [I] s₂ s' → s'.heap.IsList D ys → ys.size = items.size → (∀ j y, ys[j]? = some y → Fv j y) → s₂.heap.get? D = none → Q (.ref D) s')) E s₁) E s)
    (hs : ∀ x, foldedSetIterable iter env x = pure x := by intro _; rfl) :
    wpAny (model prg w) A (eval (.ListComp elt [⟨target, iter, [], 0⟩] scope pos) env) Q E s := by
  refine wpAny_ListComp hfree hkind hnames (wpAny_mono h (fun xv s₁ h₁ => wpAny_mono h₁ (fun it s₂ h₂ => ?_) fun _ _ e => e) fun _ _ e => e) hs
  obtain ⟨I, ax, items, Fv, rfl, hit, hax, hne, hsz, hstep, hQ⟩ := h₂
  refine wpAny_newObj_type (wpAny_newFunctionEnv hcell (by intro y hy; simp at hy) (fun h₁ hns₁ hsb₁ => ?_) hkind)
  dsimp only at hns₁ hsb₁ ⊢
  generalize hH2 : s₂.heap.push { cls := .type "list", dict := none, data := .seq ([] : List Value).toArray } = H2 at hns₁ hsb₁ ⊢
  have hC : H2.objs.size = s₂.heap.objs.size + 1 := by rw [← hH2, Heap.size_push]
  have hDC : s₂.heap.objs.size ≠ H2.objs.size := by rw [hC]; exact Nat.ne_of_lt (Nat.lt_succ_self _)
  have below : ∀ b, b < s₂.heap.objs.size → b ≠ H2.objs.size ∧ b ≠ s₂.heap.objs.size := fun b hb => ⟨by rw [hC]; exact Nat.ne_of_lt (Nat.lt_succ_of_lt hb), Nat.ne_of_lt hb⟩
  have old : ∀ b o, s₂.heap.get? b = some o → h₁.get? b = some o := fun b o e => hsb₁.extBut b o (below b (Heap.lt_size e)).1 (Heap.get?_push_of_some _ (hH2 ▸ Heap.get?_push_of_some _ e))
  have hacc : h₁.PlainList s₂.heap.objs.size #[] := ⟨_, hsb₁.extBut _ _ hDC (Heap.get?_push_of_some _ (hH2 ▸ Heap.get?_push_size _ rfl))⟩
  have fresh : ∀ a, s₂.heap.objs.size ≤ a → s₂.heap.get? a = none := fun a ha => by
    cases e : s₂.heap.get? a with
    | none => rfl
    | some o' => exact absurd (Heap.lt_size e) (Nat.not_lt.mpr ha)
  have hIlt : I < s₂.heap.objs.size := let ⟨_, e, _⟩ := hit; Heap.lt_size e
  have haxlt : ax < s₂.heap.objs.size := let ⟨_, e, _⟩ := hax; Heap.lt_size e
  have loop : ∀ s₃ : Shared, s₃ = { s₂ with heap := h₁, toks := s₂.toks + ([] : List (Str × Value)).length } →
      codeAny (model prg w) A (.compLoop (.ListComp elt [⟨target, iter, [], 0⟩] scope pos) 0 (.ref I) (.ref s₂.heap.objs.size) (compEnv scope H2.objs.size env))
        (fun r s' => ∃ m, s'.heap.Ns H2.objs.size m ∧ ∀ h', Heap.SameBut H2.objs.size s'.heap h' → match r with
          | .ok _ => Q (.ref s₂.heap.objs.size) { s' with heap := h' }
          | .error x => wpAny (model prg w) A (passOn "comprehension.variables-let-go" x (compEnv scope H2.objs.size env)) Q E { s' with heap := h' }) s₃ := by
    rintro s₃ rfl
    refine kcp_loop (fun n s' => ∃ i ys m, n = items.size - i ∧ i ≤ items.size ∧ ys.size = i ∧ (∀ j y, ys[j]? = some y → Fv j y) ∧ s'.heap.PlainList s₂.heap.objs.size ys ∧ s'.heap.Ns H2.objs.size m ∧
      s'.heap.IsListIter I ax i ∧ IsSeq s'.heap ax items ∧ Step [I, s₂.heap.objs.size, H2.objs.size] s₂ s') ?_ items.size ⟨0, #[], _, rfl, Nat.zero_le _, rfl, by simp, hacc, hns₁, hit.at fun o e => old _ o e, hax.at fun o e => old _ o e, ⟨.stays old, rfl, id⟩⟩
    rintro n s' ⟨i, ys, m, rfl, hi, hys, hF, hpl, hn, hit', hax', st⟩
    have hIC : I ≠ H2.objs.size := (below I hIlt).1
    have hID : I ≠ s₂.heap.objs.size := (below I hIlt).2
    by_cases hlt : i < items.size
    · have hv : items[i]? = some items[i] := by simp [hlt]
      refine next_item hit' hax' hv fun h' hit'' hsb => ?_
      have k1 : Keep [I] s'.heap h' := .same hsb (by simp)
      have stp := hstep H2.objs.size { s' with heap := h' } i items[i] hv (fun b o nb e => k1 b o nb (st.keep b o (by
        simp only [List.mem_cons, List.not_mem_nil, or_false, not_or]
        exact ⟨fun z => nb (by simp [z]), (below b (Heap.lt_size e)).2, (below b (Heap.lt_size e)).1⟩) e)) (fresh _ (by rw [hC]; exact Nat.le_succ _)) hit''
      refine wpAny_mono (stp _ _ (nsKeep hn k1 (by show H2.objs.size ∉ [I]; simpa using hIC.symm))) (fun _ s₀ h₀ => wpAny_mono h₀ (fun _ s₄ h₄ => wpAny_mono h₄ (fun y s₅ h₅ => ?_) fun _ _ e => e) fun _ _ e => e) fun _ _ e => e
      obtain ⟨st₅, ⟨m₅, hn₅⟩, hFy⟩ := h₅
      have hloc : (compEnv scope H2.objs.size env).locals = H2.objs.size := rfl
      rw [hloc] at st₅ hn₅
      have hpl₅ : s₅.heap.PlainList s₂.heap.objs.size ys := hpl.at fun o e => st₅.keep _ o (by simpa using hDC) (k1 _ o (by simpa using hID.symm) e)
      refine wpAny_list_append_plain (hsz := by rw [sizeLine_eq]; omega) hpl₅ fun h₆ hpl₆ hsb₆ => ?_
      have k6 : Keep [s₂.heap.objs.size] s₅.heap h₆ := .same hsb₆ (by simp)
      refine ⟨items.size - (i + 1), by omega, i + 1, ys.push y, m₅, rfl, hlt, by simp [hys], ?_, hpl₆, nsKeep hn₅ k6 (by simpa using hDC.symm), ?_, ?_, ?_⟩
      · intro j z hj
        rw [Array.getElem?_push] at hj
        split at hj
        · rename_i e
          cases hj
          rw [e, hys]
          exact hFy
        · exact hF j z hj
      · exact hit''.at fun o e => k6 _ o (by simpa using hID) (st₅.keep _ o (by simpa using hIC) e)
      · exact hax'.at fun o e => k6 _ o (by simpa using (below ax haxlt).2) (st₅.keep _ o (by simpa using (below ax haxlt).1) (k1 _ o (by simpa using hne) e))
      · have S1 : Step [I] s' { s' with heap := h' } := ⟨k1, rfl, id⟩
        have S6 : Step [s₂.heap.objs.size] s₅ { s₅ with heap := h₆ } := ⟨k6, rfl, id⟩
        exact ((st.trans (S1.mono (by simp))).trans (st₅.mono (by simp))).trans (S6.mono (by simp))
    · have e : i = items.size := by omega
      refine next_end hh hit' hax' (by simp [e]) fun h' hx => ?_
      have k1 : Keep [I] s'.heap h' := .ext hx (by simp)
      refine ⟨m, nsKeep hn k1 (by simpa using hIC.symm), fun h'' hsb => ?_⟩
      have k2 : Keep [H2.objs.size] h' h'' := .same hsb (by simp)
      refine hQ _ _ ys ?_ ?_ (hys.trans e) hF (fresh _ (Nat.le_refl _))
      · refine ⟨fun b o nb eb => k2 b o (by simpa using (below b (Heap.lt_size eb)).1) (k1 b o nb (st.keep b o ?_ eb)), st.os, st.bare⟩
        simp only [List.mem_cons, List.not_mem_nil, or_false, not_or]
        exact ⟨fun z => nb (by simp [z]), (below b (Heap.lt_size eb)).2, (below b (Heap.lt_size eb)).1⟩
      · exact (hpl.at fun o eo => k2 _ o (by simpa using hDC) (k1 _ o (by simpa using hID.symm) eo)).isList
  exact codeAny_compStart_list (loop _ rfl) (wpAny_pyIter_listiter (hit.at fun o e => old _ o e) (loop _ rfl))
end
end Mine
namespace Mine
open PySem PySem.W PySem.Calls PyProof.Rows PySem.SeqAt

section
variable {w : World} {A : Around} {E : Value → Shared → Prop} {s : Shared}

theorem eq_pair {v u : Value} {p : Pair} (hv : IsPair s.heap v p) (hu' : IsPair s.heap u p) (hu : A.units < cLine) : EqAt A s v u true := by
  obtain ⟨a, t1, t2, rfl, ha⟩ := hv
  obtain ⟨b, t3, t4, rfl, hb⟩ := hu'
  by_cases e : a = b
  · subst e; exact EqAt.same _
  · refine EqAt.of_refs e ?_
    have := RcAt.tuples (A := A) (e := fun _ => true) ha hb hu (fun j h1 h2 => by
      match j, h1, h2 with
      | 0, _, _ => simpa using EqAt.str_str (A := A.in1) (s := s) p.1 t1 p.1 t3
      | 1, _, _ => simpa using EqAt.str_str (A := A.in1) (s := s) p.2 t2 p.2 t4)
    exact this

theorem eq_each {vs us : List Value} {ps : List Pair} (hv : ArePairs s.heap vs ps) (hu' : ArePairs s.heap us ps) (hu : A.units < cLine) : ∀ j (h1 : j < vs.toArray.size) (h2 : j < us.toArray.size), EqAt A s vs.toArray[j] us.toArray[j] true := by
  intro j h1 h2
  have e1 := hv.length
  have h3 : j < ps.length := by simpa [e1] using h1
  obtain ⟨v, ev, pv⟩ := hv.get (List.getElem?_eq_getElem h3)
  obtain ⟨u, eu, pu⟩ := hu'.get (List.getElem?_eq_getElem h3)
  have q1 : vs.toArray[j] = v := by
    have : vs[j]? = some (vs.toArray[j]) := by simp at h1 ⊢
    rw [ev] at this; cases this; rfl
  have q2 : us.toArray[j] = u := by
    have : us[j]? = some (us.toArray[j]) := by simp at h2 ⊢
    rw [eu] at this; cases this; rfl
  rw [q1, q2]
  exact eq_pair pv pu hu

theorem ne_lists {l r : Addr} {vs us : List Value} {ps : List Pair} {Q : Value → Shared → Prop} (hl : s.heap.IsList l vs.toArray) (hr : s.heap.IsList r us.toArray) (hv : ArePairs s.heap vs ps) (hu' : ArePairs s.heap us ps) (hu : A.units + 1 < cLine)
    (h : Q (.bool false) s) : wpAny (model prg w) A (compareOp .NotEq (.ref l) (.ref r)) Q E s := by
  have e1 := hv.length
  have e2 := hu'.length
  have := RcNeAt.lists (A := A) (e := fun _ => true) hl hr (by simp [e1, e2]) (by omega) (eq_each (A := A.in1) hv hu' (by show A.units + 1 < _; exact hu)) prg w E Q
  refine this ?_
  have e3 : (!(List.range vs.toArray.size).all fun _ => true) = false := by simp
  rw [e3]; exact h

theorem ne_pair {v u : Value} {p : Pair} {Q : Value → Shared → Prop} (hv : IsPair s.heap v p) (hu' : IsPair s.heap u p) (hu : A.units < cLine) (h : Q (.bool false) s) : wpAny (model prg w) A (compareOp .NotEq v u) Q E s := by
  obtain ⟨a, t1, t2, rfl, ha⟩ := hv
  obtain ⟨b, t3, t4, rfl, hb⟩ := hu'
  have := RcNeAt.tuples (A := A) (e := fun _ => true) ha hb hu (fun j h1 h2 => by
    match j, h1, h2 with
    | 0, _, _ => simpa using EqAt.str_str (A := A.in1) (s := s) p.1 t1 p.1 t3
    | 1, _, _ => simpa using EqAt.str_str (A := A.in1) (s := s) p.2 t2 p.2 t4) prg w E Q
  exact this h

theorem ne_empty {l r : Addr} {vs : List Value} {Q : Value → Shared → Prop} (hl : s.heap.IsList l vs.toArray) (hr : s.heap.IsList r #[]) (hu : A.units < cLine) (h : Q (.bool (!vs.isEmpty)) s) :
    wpAny (model prg w) A (compareOp .NotEq (.ref l) (.ref r)) Q E s := by
  cases vs with
  | nil =>
    have := RcNeAt.lists (A := A) (e := fun _ => true) hl hr rfl hu (fun j h1 h2 => absurd h2 (by simp)) prg w E Q
    exact this h
  | cons v vs => exact RcNeAt.lists_lengths (A := A) hl hr (by simp) hu prg w E Q h
end
end Mine
namespace Mine
open PySem PySem.W PySem.Calls PyProof.Rows

theorem strsAre_of : ∀ {vs : List Value} {ts : List Str}, vs.length = ts.length → (∀ (j : Nat) (y : Value), vs[j]? = some y → ∃ x t, ts[j]? = some x ∧ y = Value.str x t) → StrsAre vs ts
  | [], [], _, _ => .nil
  | [], _ :: _, h, _ => by simp at h
  | _ :: _, [], h, _ => by simp at h
  | v :: vs, x :: ts, h, k => by
    obtain ⟨x', t, e, rfl⟩ := k 0 v rfl
    obtain rfl : x = x' := by simpa using e
    exact .cons _ _ (strsAre_of (by simpa using h) fun j y hj => k (j + 1) y (by simpa using hj))

section
variable {K : Frag} {w : World} {A : Around} {E : Value → Shared → Prop} {s : Shared} {x dx : Addr} {vs : List Value} {sz : Int} {ps : List Pair}

theorem offIter {h : Heap} {I : Addr} (hI : h.get? I = none) : OffTuples [I] h := fun b hb o e _ => by
  simp only [List.mem_singleton] at hb
  rw [hb, hI] at e; cases e

theorem comp_texts {pa pb tp pr pe p1 p2 pos : Pos} {kk : Nat} {scope : Scope} {env : Env} {R : Addr} {rvs : List Value} {m : Str → Option Value} {Q : Value → Shared → Prop} (hh : A.handled = none)
    (hfree : ∀ y ∈ scope.names, y.2 ≠ .free) (hcell : ∀ y ∈ scope.names, y.2 ≠ .cell) (hkind : scope.kind = .function) (hnames : ∀ y ∈ scope.names, y.2 = .local → scope.names.lookup y.1 = some .local)
    (h1 : scope.names.lookup ("one" : Str) = some .local) (h2 : scope.names.lookup ("other" : Str) = some .local)
    (ns : s.heap.Ns env.locals m) (hm : m "row" = some (.ref R)) (hk : env.scope.kind = .function) (hl : env.kindOf "row" = some .local)
    (hR : s.heap.IsList R rvs.toArray) (ar : ArePairs s.heap rvs ps) (hsm : ∀ p ∈ ps, Small p) (hsz : ps.length ≤ 1000)
    (h : ∀ s' D ys, Step [] s s' → s'.heap.IsList D ys → StrsAre ys.toList (ps.map txt) → s.heap.get? D = none → Q (.ref D) s') :
    wpAny (model prg w) A (eval (.ListComp (.BinOp (.Name "one" p1) .Add (.Name "other" p2) pe) [⟨.Tuple [.Name "one" pa, .Name "other" pb] kk tp, .Name "row" pr, [], 0⟩] scope pos) env) Q E s := by
  have hlen := ar.length
  refine comp_seq hh hfree hcell hkind hnames (ldL ns hm ?_ hk hl)
  refine wpAny_pyIter_list hR ?_
  have st₂ : Step [] s { s with heap := s.heap.push { cls := .type "list_iterator", data := .fields #[.ref R, .int 0 0] } } := ⟨.push _, rfl, id⟩
  have hRlt : R < s.heap.objs.size := let ⟨_, e, _⟩ := hR; Heap.lt_size e
  refine ⟨s.heap.objs.size, R, rvs.toArray, fun i y => ∃ p t, ps[i]? = some p ∧ y = .str (txt p) t, rfl, ⟨_, Heap.get?_push_size _ rfl, rfl, rfl⟩, ?_, Nat.ne_of_lt hRlt, by simp [hlen]; omega, ?_, ?_⟩
  · obtain ⟨o, e, _, n, d⟩ := hR.push { cls := .type "list_iterator", data := .fields #[.ref R, .int 0 0] }
    exact ⟨o, e, n, d⟩
  · intro C s₃ i v hv k hC hit E' m₃ hn
    have hi : i < ps.length := by
      have := (Array.getElem?_eq_some_iff.mp hv).1
      simpa [hlen] using this
    obtain ⟨v', ev, T, t, u, rfl, hT⟩ := ar.get (List.getElem?_eq_getElem hi)
    obtain rfl : v = .ref T := by
      have : rvs[i]? = some v := by simpa using hv
      rw [ev] at this; cases this; rfl
    have hsmp := hsm ps[i] (List.getElem_mem hi)
    have hT₃ : s₃.heap.IsTuple T #[.str ps[i].1 t, .str ps[i].2 u] := by
      obtain ⟨o, ho, r⟩ := hT
      exact ⟨o, k _ _ (by simpa using Nat.ne_of_lt (Heap.lt_size ho)) (Heap.get?_push_of_some _ ho), r⟩
    refine wpAny_letOwnedTupleGo_listiter hit (kcp_assign hh hT₃ h1 h2 (by simp [compEnv, hkind]) hn fun h' tk hn' k' => ?_)
    have hloc : (compEnv scope C env).locals = C := rfl
    have ha : (fun z => if z = Str.ofString "other" then some (Value.str ps[i].2 u) else if z = Str.ofString "one" then some (Value.str ps[i].1 t) else m₃ z) "one" = some (Value.str ps[i].1 t) := by
      show (if Str.ofString "one" = Str.ofString "other" then _ else if Str.ofString "one" = Str.ofString "one" then _ else _) = _
      rw [if_neg (by decide), if_pos rfl]
    refine wpAny_BinOp (ldL (v := .str ps[i].1 t) hn' ha (ldL (v := .str ps[i].2 u) hn' (if_pos rfl) ?_ hkind h2) hkind h1)
    have stq : ∀ tk', Step [C] s₃ { s₃ with heap := h', toks := tk' } := fun tk' => ⟨fun b o nb e => k' b o (fun z => nb (by rw [z]; exact List.mem_singleton.mpr rfl)) e, rfl, id⟩
    refine P.add_str ?_
    have fin : ∀ t' tk', Step [(compEnv scope C env).locals] s₃ { s₃ with heap := h', toks := tk' } ∧ (∃ m₅, h'.Ns (compEnv scope C env).locals m₅) ∧ ∃ p t, ps[i]? = some p ∧ Value.str (ps[i].1 ++ ps[i].2) t' = .str (txt p) t :=
      fun t' tk' => ⟨stq tk', ⟨_, hn'⟩, ps[i], t', List.getElem?_eq_getElem hi, rfl⟩
    split
    · rename_i e
      have := fin u tk
      rw [Str.append_left_empty e] at this
      exact this
    · split
      · rename_i e
        have := fin t tk
        rw [Str.append_right_empty e] at this
        exact this
      · refine ⟨?_, fin tk (tk + 1)⟩
        have h3 := hsmp.1
        have h4 := hsmp.2
        rw [Str.length_append, sizeLine_eq]
        omega
  · intro s' D ys st hD hys hF hD0
    have hys' : ys.size = ps.length := by rw [hys]; simp [hlen]
    refine h s' D ys ((st₂.up.trans st).drop (S := []) (Nat.le_refl _)) hD ?_ ?_
    · refine strsAre_of (by simp [hys']) fun j y hj => ?_
      obtain ⟨p, t, e, rfl⟩ := hF j y (by simpa using hj)
      exact ⟨txt p, t, by rw [List.getElem?_map, e]; rfl, rfl⟩
    · cases e : s.heap.get? D with
      | none => rfl
      | some o => rw [st₂.keep.nil _ _ e] at hD0; cases hD0

theorem comp_copy {pn pr pe pos : Pos} {scope : Scope} {env : Env} {m : Str → Option Value} {Q : Value → Shared → Prop} (kf : KF K) (X : K.In s.heap) (a : Acc s.heap x dx vs sz) (hh : A.handled = none) (hsz : vs.length ≤ 1000)
    (hfree : ∀ y ∈ scope.names, y.2 ≠ .free) (hcell : ∀ y ∈ scope.names, y.2 ≠ .cell) (hkind : scope.kind = .function) (hnames : ∀ y ∈ scope.names, y.2 = .local → scope.names.lookup y.1 = some .local)
    (h1 : scope.names.lookup ("one" : Str) = some .local)
    (ns : s.heap.Ns env.locals m) (hm : m "line" = some (.ref x)) (hk : env.scope.kind = .function) (hl : env.kindOf "line" = some .local)
    (h : ∀ s' D, Step [] s s' → s'.heap.IsList D vs.toArray → Q (.ref D) s') :
    wpAny (model prg w) A (eval (.ListComp (.Name "one" pe) [⟨.Name "one" pn, .Name "line" pr, [], 0⟩] scope pos) env) Q E s := by
  refine comp_seq hh hfree hcell hkind hnames (ldL ns hm ?_ hk hl)
  refine iter_own kf X a ?_
  have st₂ : Step [] s { s with heap := s.heap.push { cls := .type "list_iterator", data := .fields #[.ref x, .int 0 0] } } := ⟨.push _, rfl, id⟩
  refine ⟨s.heap.objs.size, x, vs.toArray, fun i y => vs[i]? = some y, rfl, ⟨_, Heap.get?_push_size _ rfl, rfl, rfl⟩, a.isSeq.keep st₂.keep (by simp), Nat.ne_of_lt a.lt.1, by simpa using hsz, ?_, ?_⟩
  · intro C s₃ i v hv k hC hit E' m₃ hn
    refine wpAny_pure ?_
    refine wpAny_assign_Name (stL hn (fun s₄ st₄ hn₄ => ?_) rfl h1 (by simp [compEnv, hkind]))
    refine ldL hn₄ (if_pos rfl) ?_ hkind h1
    exact ⟨st₄, ⟨_, hn₄⟩, by simpa using hv⟩
  · intro s' D ys st hD hys hF hD0
    have e : ys = vs.toArray := by
      apply Array.ext'
      apply List.ext_getElem?
      intro j
      cases q : ys[j]? with
      | none =>
        have : ys.size ≤ j := by simpa using q
        have h2 : vs.length ≤ j := by simpa [hys] using this
        simp [q, List.getElem?_eq_none h2]
      | some y => simp [q, hF j y q]
    rw [e] at hD
    exact h s' D ((st₂.up.trans st).drop (S := []) (Nat.le_refl _)) hD
end
end Mine
namespace Mine
open PySem PySem.W PySem.Calls PyProof.Rows Builtin.Str

theorem takeWhile_all {α : Type} {f : α → Bool} : ∀ {l : List α}, l.all f = true → l.takeWhile f = l
  | [], _ => rfl
  | a :: l, h => by
    simp only [List.all_cons, Bool.and_eq_true] at h
    rw [List.takeWhile_cons, if_pos h.1, takeWhile_all h.2]
theorem takeWhile_lt {α : Type} {f : α → Bool} : ∀ {l : List α}, l.all f = false → ∃ a r, l.drop (l.takeWhile f).length = a :: r ∧ f a = false
  | [], h => by simp at h
  | a :: l, h => by
    rw [List.takeWhile_cons]
    cases e : f a with
    | false => exact ⟨a, l, by simp, e⟩
    | true =>
      simp only [List.all_cons, e, Bool.true_and] at h
      obtain ⟨b, r, h1, h2⟩ := takeWhile_lt h
      exact ⟨b, r, by simpa using h1, h2⟩
theorem takeWhile_stop {α : Type} {f : α → Bool} {a : α} (h : f a = false) : ∀ (l : List α), ((l ++ [a]).takeWhile f).length ≤ l.length
  | [] => by simp [h]
  | b :: l => by
    have := takeWhile_stop h l
    rw [List.cons_append, List.takeWhile_cons]
    split
    · simpa using this
    · simp

theorem beq_empty (y : Str) : (y == "") = (y.length == 0) := by
  rw [Bool.eq_iff_iff, beq_iff_eq, beq_iff_eq]
  constructor
  · rintro rfl; rfl
  · intro h
    cases y with | mk c =>
    have : c = #[] := Array.eq_empty_of_size_eq_zero h
    rw [this]; rfl

theorem strip_empty (x : Str) : (Txt.strip x == "") = x.cps.toList.all Unicode.isSpace := by
  have e0 : Txt.strip x = strSub x (stripLo Unicode.isSpace true x) (stripHi Unicode.isSpace true x (stripLo Unicode.isSpace true x)) := PyProof.Rows.stripBy_eq _ _ _ _
  have hn : x.length = x.cps.toList.length := by simp [Str.length]
  rw [e0, beq_empty]
  have hle : stripHi Unicode.isSpace true x (stripLo Unicode.isSpace true x) ≤ x.length := by unfold stripHi; rw [if_pos rfl]; omega
  rw [size_strSub _ _ _ hle]
  have hlo : stripLo Unicode.isSpace true x = (x.cps.toList.takeWhile Unicode.isSpace).length := by unfold stripLo; rw [if_pos rfl]
  cases e : x.cps.toList.all Unicode.isSpace with
  | true =>
    rw [takeWhile_all e, ← hn] at hlo
    rw [hlo, beq_iff_eq]
    rw [hlo] at hle
    omega
  | false =>
    obtain ⟨a, r, h1, h2⟩ := takeWhile_lt e
    have hhi : stripHi Unicode.isSpace true x (stripLo Unicode.isSpace true x) = x.length - ((x.cps.toList.drop (stripLo Unicode.isSpace true x)).reverse.takeWhile Unicode.isSpace).length := by unfold stripHi; rw [if_pos rfl]
    have hlen := congrArg List.length h1
    rw [hlo, h1, List.reverse_cons] at hhi
    have := takeWhile_stop h2 r.reverse
    rw [List.length_reverse] at this
    rw [List.length_drop, List.length_cons] at hlen
    rw [hlo, hhi, beq_eq_false_iff_ne]
    omega

theorem join_length : ∀ ys : List Str, (Str.join "" ys).length = (ys.map (·.length)).sum
  | [] => rfl
  | [y] => by rw [join_one]; simp
  | y :: z :: r => by
    rw [join_cons_cons, Str.length_append, Str.length_append, join_length (z :: r)]
    have : (Str.ofString "").length = 0 := rfl
    simp [this]
theorem txt_join (ys : List Str) : Txt.join "" ys = Str.join "" ys := by simpa using join_plain_closes "" ys

theorem sum_cast : ∀ ps : List Pair, (ps.map fun p => ((p.1.length + p.2.length : Nat) : Int)).sum = ((((ps.map txt).map (·.length)).sum : Nat) : Int)
  | [] => rfl
  | p :: r => by
    have ih := sum_cast r
    rw [List.map_cons, List.sum_cons, ih, List.map_cons, List.map_cons, List.sum_cons, txt_length, Int.natCast_add _ (List.sum _)]

theorem weight_eq (ps : List Pair) : weight ps = ((Txt.join "" (ps.map txt)).length : Int) := by
  rw [txt_join, join_length]
  unfold weight
  have e1 : (fun i => (((ps[i]?).map fun p => ((p.1.length + p.2.length : Nat) : Int)).getD 0)) = fun i => (ps.map fun p => ((p.1.length + p.2.length : Nat) : Int)).getD i 0 := by
    funext i
    rw [List.getD_eq_getElem?_getD, List.getElem?_map]
  rw [e1, preSum_getD, List.take_of_length_le (by simp)]
  exact sum_cast ps

/-- the accumulator's answer and the law's -/
theorem ows_same (ps : List Pair) (sz : Int) : (sz == 0 && (sz + weight ps == 0 || Txt.isspace (Txt.join "" (ps.map txt)))) = (sz == 0 && (Txt.strip (Txt.join "" (ps.map txt)) == "")) := by
  cases hz : (sz == 0 : Bool) with
  | false => rfl
  | true =>
    rw [beq_iff_eq] at hz
    subst hz
    rw [Bool.true_and, Bool.true_and, strip_empty, weight_eq]
    generalize Txt.join "" (ps.map txt) = x
    unfold Txt.isspace
    have e1 : x.cps.all Unicode.isSpace = x.cps.toList.all Unicode.isSpace := by simp
    rw [e1]
    by_cases h : x.length = 0
    · have : x.cps = #[] := Array.eq_empty_of_size_eq_zero h
      simp [h, this]
    · have h2 : 0 < x.length := Nat.pos_of_ne_zero h
      have h3 : ((0 : Int) + (x.length : Int) == 0) = false := by rw [beq_eq_false_iff_ne]; omega
      rw [h3]
      simp [h2]
end Mine
namespace Mine
open PySem PySem.W PySem.Calls PyProof.Rows

abbrev fdLaw : FuncData := { name := lawParts.1, qualname := "law", params := lawParts.2.1, body := .stmts lawParts.2.2.1, scope := lawParts.2.2.2, globals := mainGlobals, closure := [], defaults := .none, kwdefaults := .none, doc := .none, pyModule := .str "law_wy0001_01" 287, annotations := none, code := .ref 102, closureTuple := .none, builtins := builtinsNs }
structure KL (K : Frag) : Prop extends KF K where
  oLaw : K.lookup 103 = some (fnO fdLaw)
  cLaw : codeIn K fdLaw.code fdLaw.qualname = true
  keep94 : keepIn K (.ref 94) = true
/-- the body of the law's loop -/
def forBody : List Stmt := match lawParts.2.2.1[5]? with
  | some (Stmt.For _ _ b _ _) => b
  | _ => []
abbrev lenv (L : Addr) : Env := callEnv fdLaw L 103

def isMenu (h : Heap) (a : Addr) (ts : List Str) : Prop := ∃ vs : List Value, h.IsList a vs.toArray ∧ StrsAre vs ts
abbrev blankMenu : List Str := ["", " ", "\t", "  "]
abbrev partMenu : List Str := ["", "a", "to;", "x y", "é"]

/-- the law's frame between two statements -/
structure Row (K : Frag) (s : Shared) (L : Addr) (m : Str → Option Value) (x dx B Pa : Addr) (sz : Int) (ps : List Pair) : Prop where
  X : K.In s.heap
  ns : s.heap.Ns L m
  line : m "line" = some (.ref x)
  row : ∃ R rvs, m "row" = some (.ref R) ∧ s.heap.IsList R rvs.toArray ∧ ArePairs s.heap rvs ps
  size : ∃ t, m "size" = some (.int sz t)
  acc : ∃ vs, Acc s.heap x dx vs sz ∧ ArePairs s.heap vs ps
  sm : ∀ p ∈ ps, Small p
  len : ps.length ≤ 500
  s0 : 0 ≤ sz
  s6 : sz ≤ 6
  t56 : Tab s.heap 56
  t63 : Tab s.heap 63
  off : Off K [x, dx]
  blanks : m "blanks" = some (.ref B)
  parts : m "parts" = some (.ref Pa)
  bl : isMenu s.heap B blankMenu
  pl : isMenu s.heap Pa partMenu
  dL : dx ≠ L

section
variable {K : Frag} {w : World} {A : Around} {E : Value → Shared → Prop} {s s' : Shared} {L : Addr} {m : Str → Option Value} {x dx B Pa : Addr} {sz : Int} {ps : List Pair}

theorem isList_off {h h' : Heap} {S : List Addr} {a : Addr} {its : Array Value} (l : h.IsList a its) (k : Keep S h h') (off : ∀ b o, h.get? b = some o → o.cls ≠ .none → b ∉ S) : h'.IsList a its := by
  obtain ⟨o, ho, hc, r⟩ := l
  exact ⟨o, k _ _ (off _ _ ho (by rw [hc]; simp)) ho, hc, r⟩
theorem isMenu_off {h h' : Heap} {S : List Addr} {a : Addr} {ts : List Str} (l : isMenu h a ts) (k : Keep S h h') (off : ∀ b o, h.get? b = some o → o.cls ≠ .none → b ∉ S) : isMenu h' a ts :=
  let ⟨vs, hl, hs⟩ := l; ⟨vs, isList_off hl k off, hs⟩

/-- a step that touches the two code tables alone -/
theorem Row.to (r : Row K s L m x dx B Pa sz ps) (kf : KF K) (st : Step [56, 63] s s') (t : Tab s'.heap 56) (t' : Tab s'.heap 63) : Row K s' L m x dx B Pa sz ps := by
  have off : ∀ b o, s.heap.get? b = some o → o.cls ≠ .none → b ∉ [56, 63] := fun b o e hc => off_two r.t56 r.t63 e hc
  have offT : OffTuples [56, 63] s.heap := fun b hb o e hc => off b o e (by rw [hc]; simp) hb
  obtain ⟨R, rvs, h1, h2, h3⟩ := r.row
  obtain ⟨vs, a, ar⟩ := r.acc
  refine ⟨?_, ?_, r.line, ⟨R, rvs, h1, isList_off h2 st.keep off, h3.keep st.keep offT⟩, r.size, ⟨vs, a.keep st.keep ?_ ?_, ar.keep st.keep offT⟩, r.sm, r.len, r.s0, r.s6, t, t', r.off, r.blanks, r.parts, isMenu_off r.bl st.keep off, isMenu_off r.pl st.keep off, r.dL⟩
  · intro b o e
    refine st.keep b o ?_ (r.X b o e)
    intro hm
    rcases List.mem_cons.mp hm with rfl | hm
    · rw [kf.off56] at e; cases e
    · rw [List.mem_singleton] at hm; subst hm; rw [kf.off63] at e; cases e
  · refine nsKeep r.ns st.keep fun hm => ?_
    obtain ⟨o, es, ep, ho, hd, _⟩ := r.ns
    rcases List.mem_cons.mp hm with rfl | hm
    · obtain ⟨ps, hp, _⟩ := r.t56; rw [hp] at ho; cases ho; cases hd
    · rw [List.mem_singleton] at hm; subst hm; obtain ⟨ps, hp, _⟩ := r.t63; rw [hp] at ho; cases ho; cases hd
  · obtain ⟨n, e⟩ := a.x; exact off _ _ e (by simp)
  · obtain ⟨_, _, _, n, e⟩ := a.d; exact off _ _ e (by simp)
theorem Row.to0 (r : Row K s L m x dx B Pa sz ps) (kf : KF K) (st : Step [] s s') : Row K s' L m x dx B Pa sz ps := r.to kf st.up (r.t56.keep st.keep (by simp)) (r.t63.keep st.keep (by simp))

/-- a name of the frame is set, none that the row asks -/
theorem Row.store (r : Row K s L m x dx B Pa sz ps) (st : Step [L] s s') {y : Str} {v : Value} (ns : s'.heap.Ns L (fun z => if z = y then some v else m z)) (hoff : Off K [L])
    (hy : y ≠ "line" ∧ y ≠ "row" ∧ y ≠ "size" ∧ y ≠ "blanks" ∧ y ≠ "parts") : Row K s' L (fun z => if z = y then some v else m z) x dx B Pa sz ps := by
  have hne : ∀ b o, s.heap.get? b = some o → (∀ es k, o.data ≠ .dict es k) → b ∉ [L] := fun b o e hd => ns_ne r.ns e hd
  have offL : ∀ b o, s.heap.get? b = some o → (∃ its n, o.data = .seq its n) → b ∉ [L] := fun b o e hd => hne b o e (fun es k z => by obtain ⟨_, _, q⟩ := hd; rw [q] at z; cases z)
  have offT : ∀ {vs ps}, ArePairs s.heap vs ps → ArePairs s'.heap vs ps := fun {vs ps} h => by
    induction h with
    | nil => exact .nil
    | cons a _ ih =>
      obtain ⟨T, t, u, rfl, o, ho, hc, n, hd⟩ := a
      exact .cons ⟨T, t, u, rfl, o, st.keep _ _ (offL _ _ ho ⟨_, n, hd⟩) ho, hc, n, hd⟩ ih
  have lst : ∀ {a its}, s.heap.IsList a its → s'.heap.IsList a its := fun {a its} h => by
    obtain ⟨o, ho, hc, n, hd⟩ := h
    exact ⟨o, st.keep _ _ (offL _ _ ho ⟨_, n, hd⟩) ho, hc, n, hd⟩
  have tb : ∀ {P}, Tab s.heap P → Tab s'.heap P := fun {P} h => by
    obtain ⟨q, hp, ok⟩ := h
    exact ⟨q, st.keep _ _ (hne _ _ hp (fun _ _ z => by cases z)) hp, ok⟩
  obtain ⟨y1, y2, y3, y4, y5⟩ := hy
  obtain ⟨R, rvs, h1, h2, h3⟩ := r.row
  obtain ⟨vs, a, ar⟩ := r.acc
  obtain ⟨bs, hb, hbs⟩ := r.bl
  obtain ⟨cs, hcl, hcs⟩ := r.pl
  refine ⟨hoff.keep r.X st.keep, ns, ?_, ⟨R, rvs, ?_, lst h2, offT h3⟩, ?_, ⟨vs, a.keep st.keep ?_ ?_, offT ar⟩, r.sm, r.len, r.s0, r.s6, tb r.t56, tb r.t63, r.off, ?_, ?_, ⟨bs, lst hb, hbs⟩, ⟨cs, lst hcl, hcs⟩, r.dL⟩
  · rw [if_neg (Ne.symm y1)]; exact r.line
  · rw [if_neg (Ne.symm y2)]; exact h1
  · obtain ⟨t, e⟩ := r.size; exact ⟨t, by rw [if_neg (Ne.symm y3)]; exact e⟩
  · obtain ⟨n, e⟩ := a.x; exact offL _ _ e ⟨_, n, rfl⟩
  · simpa using r.dL
  · rw [if_neg (Ne.symm y4)]; exact r.blanks
  · rw [if_neg (Ne.symm y5)]; exact r.parts
end
end Mine
namespace Mine
open PySem PySem.W PySem.Calls PyProof.Rows

section
variable {K : Frag} {w : World} {A : Around} {E : Value → Shared → Prop} {s s' : Shared} {L : Addr} {m : Str → Option Value} {x dx B Pa : Addr} {sz : Int} {ps : List Pair}

theorem two63 : (2 : Int) ^ 63 = 9223372036854775808 := by decide

/-- the text of the row, and the first test's first half -/
theorem tail_text (kl : KL K) (r : Row K s L m x dx B Pa sz ps) (hh : A.handled = none) (offL : Off K [L]) {Q : Flow → Shared → Prop}
    (h : ∀ s' t, Step [L] s s' → Row K s' L (fun z => if z = "text" then some (.str (Txt.join "" (ps.map txt)) t) else m z) x dx B Pa sz ps → wpAny (model prg w) A (execs (forBody.drop 4) (lenv L)) Q E s') :
    wpAny (model prg w) A (execs (forBody.drop 3) (lenv L)) Q E s := by
  obtain ⟨R, rvs, hR, hRl, hRa⟩ := r.row
  have hlen := r.len
  refine wpAny_execs_cons (wpAny_Assign_Name (wp_MCall rfl rfl rfl (eStr fun t s₁ st₁ pl => GM.join (cw_biE rfl (wpAny_items_cons ?_)))))
  have r₁ := r.to0 kl.toKF st₁
  have hRl₁ := isList_keep hRl st₁.keep (by simp)
  have hRa₁ := hRa.keep st₁.keep (by intro a h; cases h)
  refine comp_texts hh (by decide) (by decide) rfl (by decide) rfl rfl r₁.ns hR rfl rfl hRl₁ hRa₁ r.sm (by omega) fun s₂ D ys st₂ hD hys _ => wpAny_items_nil (join_listW hD hys (by decide) ?_ fun t' k => ?_)
  · have := sum_small r.sm
    simp only [List.length_map]
    omega
  have st₂' : Step [] s { s₂ with toks := k } := st₁.trans (st₂.trans .toks)
  have r₂ := r.to0 kl.toKF st₂'
  refine stL r₂.ns fun s₃ st₃ ns₃ => ?_
  exact h s₃ t' (st₂'.up.trans st₃) (r₂.store st₃ ns₃ offL (by decide))

theorem tail_test (kl : KL K) (r : Row K s L m x dx B Pa sz ps) {t : Tok} (hm : m "text" = some (.str (Txt.join "" (ps.map txt)) t)) (hh : A.handled = none) (hd : A.depth + 60 < recursionLimit) (hu : A.units + 60 < cLine) {Q : Flow → Shared → Prop}
    (h : ∀ s', Step [56, 63] s s' → Row K s' L m x dx B Pa sz ps → wpAny (model prg w) A (execs (forBody.drop 5) (lenv L)) Q E s') :
    wpAny (model prg w) A (execs (forBody.drop 4) (lenv L)) Q E s := by
  obtain ⟨R, rvs, hR, hRl, hRa⟩ := r.row
  obtain ⟨vs, ac, ar⟩ := r.acc
  have kf := kl.toKF
  have hlen := r.len
  have hlv := ar.length
  have hlr := hRa.length
  refine wpAny_execs_cons (wpAny_If (isTrue_or (wpAny_isTrue_Compare1 (wp_MCall rfl rfl rfl (ldL r.ns r.line fun pl => ?_)))))
  refine gm_fn kf r.X ac kf.f_pc kf.t_pc (by decide) (cw_fn0 (r.X _ _ kf.oPc) rfl (wpAny_call (pc_code kf r.X ac (by omega) fun s₁ t₁ st₁ => ?_)))
  have r₁ := r.to0 kf st₁
  refine Call_Name rfl (ldB r₁.X kf.g_len kf.b_len (cw_biE rfl (wpAny_items_cons (ldL r₁.ns hR (wpAny_items_nil (call_len_list (isList_keep hRl st₁.keep (by simp)) ?_ ?_))))))
  · rw [two63]; simp; omega
  refine ne_int (wpAny_truthy_bool ?_)
  have e1 : ((vs.length : Int) != (rvs.toArray.size : Int)) = false := by simp [hlv, hlr]
  rw [e1, if_neg Bool.false_ne_true]
  have st₂ : Step [] s { s₁ with toks := s₁.toks + 1 + 1 } := st₁.trans .toks
  have r₂ := r.to0 kf st₂
  have ac₂ := ac.stays st₂.keep
  refine isTrue_or (wpAny_isTrue_Compare1 (comp_copy kf r₂.X ac₂ hh (by omega) (by decide) (by decide) rfl (by decide) rfl r₂.ns r.line rfl rfl fun s₃ D st₃ hD => ?_))
  have st₃' := st₂.trans st₃
  have r₃ := r.to0 kf st₃'
  refine ldL r₃.ns hR (ne_lists hD (isList_keep hRl st₃'.keep (by simp)) (ar.keep st₃'.keep (by intro a h; cases h)) (hRa.keep st₃'.keep (by intro a h; cases h)) (by omega) (wpAny_truthy_bool ?_))
  rw [if_neg Bool.false_ne_true]
  refine isTrue_or (wpAny_isTrue_Compare1 (Call_Name rfl (ldB r₃.X kf.g_len kf.b_len (cw_biE rfl (wpAny_items_cons (ldL r₃.ns r.line (wpAny_items_nil ?_)))))))
  refine len_acc kf r₃.X (ac.stays st₃'.keep) (ar.keep st₃'.keep (by intro a h; cases h)) r.sm (by omega) r.s0 (by have := r.s6; omega) r₃.t56 hh (by omega) fun s₄ t₄ st₄ tab₄ => ?_
  have st₄' : Step [56, 63] s s₄ := st₃'.up.trans (st₄.mono (by simp +contextual))
  have r₄ := r.to kf st₄' tab₄ (r₃.t63.apart r₃.t56 (by decide) st₄.keep)
  obtain ⟨tz, hz⟩ := r.size
  refine wpAny_BinOp (ldL r₄.ns hz (Call_Name rfl (ldB r₄.X kf.g_len kf.b_len (cw_biE rfl (wpAny_items_cons (ldL r₄.ns hm (wpAny_items_nil (P.len_str ?_ ?_))))))))
  · have := weight_small r.sm
    rw [weight_eq] at this
    rw [two63]
    omega
  refine wpAny_add_int (ne_int (wpAny_truthy_bool ?_))
  have e2 : (sz + weight ps != sz + ((Txt.join "" (ps.map txt)).length : Int)) = false := by rw [weight_eq]; simp
  rw [e2, if_neg Bool.false_ne_true]
  have st₅ : Step [56, 63] s { s₄ with toks := s₄.toks + 1 + 1 + 1 } := st₄'.trans (Step.toks).up
  have r₅ := r₄.to0 (s' := { s₄ with toks := s₄.toks + 1 + 1 + 1 }) kf .toks
  obtain ⟨vs₅, ac₅, ar₅⟩ := r₅.acc
  refine isTrue_or (wpAny_isTrue_Compare1 (Call_Name rfl (ldB r₅.X kf.g_str kf.b_str (callWith_type1 (wpAny_items_cons (ldL r₅.ns r.line (wpAny_items_nil ?_)))))))
  refine str_acc kf r₅.X ac₅ ar₅ r.sm (by omega) r₅.t63 hh (by omega) (by omega) fun s₆ t₆ st₆ tab₆ => ?_
  have st₆' : Step [56, 63] s s₆ := st₅.trans (st₆.mono (by simp +contextual))
  have r₆ := r.to kf st₆' (r₅.t56.apart r₅.t63 (by decide) st₆.keep) tab₆
  refine ldL r₆.ns hm (PyProof.Rows.ne_str (wpAny_truthy_bool ?_))
  rw [bne_self_eq_false, if_neg Bool.false_ne_true]
  refine isTrue_or_nil ?_
  exact wpAny_execs_nil (h s₆ st₆' r₆)
end
end Mine
namespace Mine
open PySem PySem.W PySem.Calls PyProof.Rows

section
variable {K : Frag} {w : World} {A : Around} {E : Value → Shared → Prop} {s s' : Shared} {L : Addr} {m : Str → Option Value} {x dx B Pa : Addr} {sz : Int} {ps : List Pair}

theorem tail_ows (kl : KL K) (r : Row K s L m x dx B Pa sz ps) {t : Tok} (hm : m "text" = some (.str (Txt.join "" (ps.map txt)) t)) (hh : A.handled = none) (hd : A.depth + 60 < recursionLimit) (hu : A.units + 60 < cLine) {Q : Flow → Shared → Prop}
    (h : ∀ s', Step [56, 63] s s' → Row K s' L m x dx B Pa sz ps → Q .next s') :
    wpAny (model prg w) A (execs (forBody.drop 5) (lenv L)) Q E s := by
  obtain ⟨vs, ac, ar⟩ := r.acc
  have kf := kl.toKF
  have hlen := r.len
  have h6 := r.s6
  refine wpAny_execs_cons (wpAny_If (wpAny_isTrue_Compare1 (wp_MCall rfl rfl rfl (ldL r.ns r.line fun pl => ?_))))
  refine gm_fn kf r.X ac kf.f_ows kf.t_ows (by decide) (cw_fn0 (r.X _ _ kf.oOws) rfl (wpAny_call (ows_code kf r.X ac ar r.sm (by omega) r.s0 (by omega) r.t56 r.t63 hh (by omega) (by omega) fun s₁ st₁ t56 t63 => ?_)))
  rw [ows_same]
  have r₁ := r.to kf st₁ t56 t63
  obtain ⟨tz, hz⟩ := r.size
  refine BoolOp_and (wpAny_Compare1 (ldL r₁.ns hz (eInt fun t₂ s₂ st₂ => cmp_ofEq (wpAny_eq_int (wpAny_truthy_bool ?_)))))
  have st₂' : Step [56, 63] s s₂ := st₁.trans st₂.up
  have r₂ := r₁.to0 kf st₂
  cases hb : (sz == 0 : Bool) with
  | false =>
    rw [if_neg Bool.false_ne_true]
    refine isnot_bool (wpAny_truthy_bool ?_)
    exact wpAny_execs_nil (wpAny_execs_nil (h s₂ st₂' r₂))
  | true =>
    rw [if_pos rfl]
    refine BoolOp_one (wpAny_Compare1 (wp_MCall rfl rfl rfl (ldL r₂.ns hm fun pl => GM.strip (cw_bi0 (SC.strip (fun t₃ k => ?_) ?_)))))
    · have r₃ := r₂.to0 (s' := { s₂ with toks := k }) kf .toks
      refine eStr fun t₄ s₄ st₄ => PyProof.Rows.eq_str (isnot_bool (wpAny_truthy_bool ?_))
      have st₄' : Step [] s₂ s₄ := (Step.toks (tk := k)).trans st₄
      rw [Bool.true_and, bne_self_eq_false, if_neg Bool.false_ne_true]
      exact wpAny_execs_nil (wpAny_execs_nil (h s₄ (st₂'.trans st₄'.up) (r₂.to0 kf st₄')))
    · have := weight_small r.sm
      rw [weight_eq] at this
      rw [sizeLine_eq]
      omega

theorem tail_run (kl : KL K) (r : Row K s L m x dx B Pa sz ps) (hh : A.handled = none) (hd : A.depth + 60 < recursionLimit) (hu : A.units + 60 < cLine) (offL : Off K [L]) {Q : Flow → Shared → Prop}
    (h : ∀ s' m', Step [L, 56, 63] s s' → Row K s' L m' x dx B Pa sz ps → Q .next s') :
    wpAny (model prg w) A (execs (forBody.drop 3) (lenv L)) Q E s := by
  refine tail_text kl r hh offL fun s₁ t st₁ r₁ => ?_
  refine tail_test kl r₁ (if_pos rfl) hh hd hu fun s₂ st₂ r₂ => ?_
  refine tail_ows kl r₂ (if_pos rfl) hh hd hu fun s₃ st₃ r₃ => ?_
  exact h s₃ _ ((st₁.mono (by simp +contextual)).trans ((st₂.trans st₃).mono (by simp +contextual))) r₃
end
end Mine
namespace Mine
open PySem PySem.W PySem.Calls PyProof.Rows

section
variable {K : Frag} {w : World} {A : Around} {E : Value → Shared → Prop} {s s' : Shared} {L : Addr} {m : Str → Option Value} {x dx B Pa : Addr} {sz : Int} {ps : List Pair}

theorem div_small {a b : Int} {t u : Tok} {Q : Value → Shared → Prop} (hb : b ≠ 0) (hs : b.natAbs ≤ 1000) (h : Q (.int (a.fdiv b) s.toks) { s with toks := s.toks + 1 }) : wpAny (model prg w) A (binaryOp .FloorDiv (.int a t) (.int b u)) Q E s := by
  refine AutoIntOps.floordiv_1 (by simpa using hb) ?_ h
  unfold Builtin.divisionGoesByPylong
  simp only [Bool.and_eq_true, decide_eq_true_eq, not_and]
  intro hx
  exfalso
  have h1 : b.natAbs.log2 ≤ 1000 := Nat.le_trans (Nat.log2_le_self _) hs
  rw [if_neg (by simpa using hb)] at hx
  omega

theorem eIdx {c d n : Int} {tn : Tok} {p1 p2 p3 p4 p5 : Pos} {k1 k2 : Nat} {env : Env} {Q : Value → Shared → Prop} (hc : c ≠ 0) (hs : c.natAbs ≤ 1000) (hd : d ≠ 0) (ns : s.heap.Ns env.locals m) (hm : m "number" = some (.int n tn))
    (hk : env.scope.kind = .function) (hl : env.kindOf "number" = some .local) (h : ∀ s' t, Step [] s s' → Q (.int ((n.fdiv c).fmod d) t) s') :
    wpAny (model prg w) A (eval (.BinOp (.BinOp (.Name "number" p1) .FloorDiv (.Constant (.int c) k1 p2) p3) .Mod (.Constant (.int d) k2 p4) p5) env) Q E s := by
  refine wpAny_BinOp (wpAny_BinOp (ldL ns hm (eInt fun t₁ s₁ st₁ => div_small hc hs (eInt fun t₂ s₂ st₂ => mod_int hd ?_)) hk hl))
  exact h _ _ ((st₁.trans .toks).trans (st₂.trans .toks))

theorem menu_get {h : Heap} {a : Addr} {ts : List Str} {n : Int} (l : isMenu h a ts) (h0 : 0 ≤ n) (hn : n < ts.length) : ∃ its y t, h.IsList a its ∧ its[n.toNat]? = some (.str y t) ∧ y ∈ ts := by
  obtain ⟨vs, hl, hs⟩ := l
  obtain ⟨t, e⟩ := hs.get n.toNat (ts[n.toNat]'(by omega)) (List.getElem?_eq_getElem _)
  exact ⟨_, _, t, hl, by simpa using e, List.getElem_mem _⟩
theorem menu_small {a b : Str} (ha : a ∈ blankMenu) (hb : b ∈ partMenu) : Small (a, b) := by
  have h1 : ∀ a ∈ blankMenu, a.length ≤ 100 := by decide
  have h2 : ∀ a ∈ partMenu, a.length ≤ 100 := by decide
  exact ⟨h1 a ha, h2 b hb⟩

/-- the pair and the place of a turn -/
theorem head_run (kl : KL K) (r : Row K s L m x dx B Pa sz ps) {n : Int} {tn : Tok} (hm : m "number" = some (.int n tn)) (offL : Off K [L]) {Q : Flow → Shared → Prop}
    (h : ∀ s' m' T t u (p : Pair) (k : Nat) tk, Step [L] s s' → Row K s' L m' x dx B Pa sz ps → m' "number" = some (.int n tn) → m' "pair" = some (.ref T) → s'.heap.IsTuple T #[.str p.1 t, .str p.2 u] → Small p → k < 5 → m' "place" = some (.int k tk) →
      wpAny (model prg w) A (execs (forBody.drop 2) (lenv L)) Q E s') :
    wpAny (model prg w) A (execs forBody (lenv L)) Q E s := by
  have kf := kl.toKF
  refine wpAny_execs_cons (wpAny_Assign_Name (eTuple (wpAny_items_cons (wpAny_Subscript_BinOp_late (ldL r.ns r.blanks (eIdx (by decide) (by decide) (by decide) r.ns hm rfl rfl fun s₁ t₁ st₁ => ?_))))))
  have r₁ := r.to0 kf st₁
  obtain ⟨its, y, ty, hl, hy, hmem⟩ := menu_get (n := (n.fdiv 6).fmod 4) r₁.bl (Int.fmod_nonneg_of_pos _ (by decide)) (Int.fmod_lt_of_pos _ (by decide))
  have b4 : (n.fdiv 6).fmod 4 < 4 := Int.fmod_lt_of_pos _ (by decide)
  refine ⟨"list", _, slot_list_getitem.lookup, hl.typeIs, wpAny_getItem_list hl (Int.fmod_nonneg_of_pos _ (by decide)) (by rw [two63]; omega) hy ?_⟩
  refine wpAny_items_cons (wpAny_Subscript_BinOp_late (ldL r₁.ns r₁.parts (eIdx (by decide) (by decide) (by decide) r₁.ns hm rfl rfl fun s₂ t₂ st₂ => ?_)))
  have r₂ := r₁.to0 kf st₂
  obtain ⟨its', z, tz, hl', hz, hmem'⟩ := menu_get (n := (n.fdiv 24).fmod 5) r₂.pl (Int.fmod_nonneg_of_pos _ (by decide)) (Int.fmod_lt_of_pos _ (by decide))
  have b5 : (n.fdiv 24).fmod 5 < 5 := Int.fmod_lt_of_pos _ (by decide)
  refine ⟨"list", _, slot_list_getitem.lookup, hl'.typeIs, wpAny_getItem_list hl' (Int.fmod_nonneg_of_pos _ (by decide)) (by rw [two63]; omega) hz ?_⟩
  refine wpAny_items_nil ⟨by simp, fun s₃ T st₃ hT => ?_⟩
  have r₃ := r₂.to0 kf st₃
  refine stL r₃.ns fun s₄ st₄ ns₄ => ?_
  have r₄ := r₃.store st₄ ns₄ offL (by decide)
  refine wpAny_execs_cons (wpAny_Assign_Name (eIdx (by decide) (by decide) (by decide) r₄.ns (n := n) (tn := tn) ?_ rfl rfl fun s₅ t₅ st₅ => ?_))
  · rw [if_neg (by decide)]; exact hm
  have r₅ := r₄.to0 kf st₅
  refine stL r₅.ns fun s₆ st₆ ns₆ => ?_
  have r₆ := r₅.store st₆ ns₆ offL (by decide)
  have c0 : 0 ≤ (n.fdiv 120).fmod 5 := Int.fmod_nonneg_of_pos _ (by decide)
  have c5 : (n.fdiv 120).fmod 5 < 5 := Int.fmod_lt_of_pos _ (by decide)
  have hT₆ : s₆.heap.IsTuple T #[.str y ty, .str z tz] := by
    obtain ⟨o, ho, hc, q, hd⟩ := hT
    have n3 : T ∉ [L] := ns_ne r₃.ns ho (fun es k e => by rw [hd] at e; cases e)
    exact ⟨o, st₆.keep _ _ n3 (st₅.keep.nil _ _ (st₄.keep _ _ n3 ho)), hc, q, hd⟩
  refine h s₆ _ T ty tz (y, z) ((n.fdiv 120).fmod 5).toNat t₅ (((st₁.trans (st₂.trans st₃)).up.trans st₄).trans (st₅.up.trans st₆)) r₆ ?_ ?_ hT₆ (menu_small hmem hmem') (by omega) ?_
  · rw [if_neg (by decide), if_neg (by decide)]; exact hm
  · rw [if_neg (by decide), if_pos rfl]
  · rw [if_pos rfl, Int.toNat_of_nonneg c0]
end
end Mine
namespace Mine
open PySem PySem.W PySem.Calls PyProof.Rows

/-- the law's frame amid a turn: the row's pairs ps, the accumulator's pairs qs -/
structure Row2 (K : Frag) (s : Shared) (L : Addr) (m : Str → Option Value) (x dx B Pa : Addr) (sz tz : Int) (ps qs : List Pair) : Prop where
  X : K.In s.heap
  ns : s.heap.Ns L m
  line : m "line" = some (.ref x)
  row : ∃ R rvs, m "row" = some (.ref R) ∧ s.heap.IsList R rvs.toArray ∧ ArePairs s.heap rvs ps
  size : ∃ t, m "size" = some (.int sz t)
  acc : ∃ vs, Acc s.heap x dx vs tz ∧ ArePairs s.heap vs qs
  sm : ∀ p ∈ ps, Small p
  len : ps.length ≤ 500
  lenq : qs.length ≤ 500
  s0 : 0 ≤ sz
  s6 : sz ≤ 6
  t56 : Tab s.heap 56
  t63 : Tab s.heap 63
  off : Off K [x, dx]
  blanks : m "blanks" = some (.ref B)
  parts : m "parts" = some (.ref Pa)
  bl : isMenu s.heap B blankMenu
  pl : isMenu s.heap Pa partMenu
  dL : dx ≠ L

section
variable {K : Frag} {w : World} {A : Around} {E : Value → Shared → Prop} {s s' : Shared} {L : Addr} {m : Str → Option Value} {x dx B Pa : Addr} {sz tz : Int} {ps qs : List Pair}

theorem Row.two (r : Row K s L m x dx B Pa sz ps) : Row2 K s L m x dx B Pa sz sz ps ps :=
  ⟨r.X, r.ns, r.line, r.row, r.size, r.acc, r.sm, r.len, r.len, r.s0, r.s6, r.t56, r.t63, r.off, r.blanks, r.parts, r.bl, r.pl, r.dL⟩
theorem Row2.one (r : Row2 K s L m x dx B Pa sz sz ps ps) : Row K s L m x dx B Pa sz ps :=
  ⟨r.X, r.ns, r.line, r.row, r.size, r.acc, r.sm, r.len, r.s0, r.s6, r.t56, r.t63, r.off, r.blanks, r.parts, r.bl, r.pl, r.dL⟩

/-- nothing but the accumulator and dicts stands at these places -/
def Soft (S : List Addr) (h : Heap) : Prop := ∀ b ∈ S, ∀ o, h.get? b = some o → o.cls = .ref 94 ∨ ∃ es k, o.data = .dict es k
theorem soft_list {S : List Addr} {h h' : Heap} {a : Addr} {its : Array Value} (l : h.IsList a its) (k : Keep S h h') (so : Soft S h) : h'.IsList a its := by
  obtain ⟨o, ho, hc, n, hd⟩ := l
  refine ⟨o, k _ _ (fun hm => ?_) ho, hc, n, hd⟩
  rcases so a hm o ho with e | ⟨es, q, e⟩
  · rw [hc] at e; cases e
  · rw [hd] at e; cases e
theorem soft_tuple {S : List Addr} {h h' : Heap} {a : Addr} {its : Array Value} (l : h.IsTuple a its) (k : Keep S h h') (so : Soft S h) : h'.IsTuple a its := by
  obtain ⟨o, ho, hc, n, hd⟩ := l
  refine ⟨o, k _ _ (fun hm => ?_) ho, hc, n, hd⟩
  rcases so a hm o ho with e | ⟨es, q, e⟩
  · rw [hc] at e; cases e
  · rw [hd] at e; cases e
theorem soft_pairs {S : List Addr} {h h' : Heap} {vs : List Value} {qs : List Pair} (a : ArePairs h vs qs) (k : Keep S h h') (so : Soft S h) : ArePairs h' vs qs := by
  induction a with
  | nil => exact .nil
  | cons a _ ih => obtain ⟨T, t, u, rfl, hT⟩ := a; exact .cons ⟨T, t, u, rfl, soft_tuple hT k so⟩ ih
theorem soft_tab {S : List Addr} {h h' : Heap} {P : Addr} (t : Tab h P) (k : Keep S h h') (so : Soft S h) : Tab h' P := by
  obtain ⟨q, hp, ok⟩ := t
  refine ⟨q, k _ _ (fun hm => ?_) hp, ok⟩
  rcases so P hm _ hp with e | ⟨es, q, e⟩ <;> cases e
theorem soft_menu {S : List Addr} {h h' : Heap} {a : Addr} {ts : List Str} (l : isMenu h a ts) (k : Keep S h h') (so : Soft S h) : isMenu h' a ts := let ⟨vs, hl, hs⟩ := l; ⟨vs, soft_list hl k so, hs⟩

theorem Row2.softL (r : Row2 K s L m x dx B Pa sz tz ps qs) : Soft [L] s.heap := by
  intro b hb o e
  rw [List.mem_singleton] at hb; subst hb
  obtain ⟨o', es, ep, ho, hd, _⟩ := r.ns
  rw [e] at ho; cases ho
  exact .inr ⟨es, ep, hd⟩
theorem Row2.softA (r : Row2 K s L m x dx B Pa sz tz ps qs) : Soft [x, dx] s.heap := by
  obtain ⟨vs, a, _⟩ := r.acc
  intro b hb o e
  rcases List.mem_cons.mp hb with rfl | hb
  · obtain ⟨n, ex⟩ := a.x; rw [e] at ex; cases ex; exact .inl rfl
  · rw [List.mem_singleton] at hb; subst hb
    obtain ⟨_, _, _, n, ed⟩ := a.d; rw [e] at ed; cases ed; exact .inr ⟨_, _, rfl⟩
theorem Row2.xL (r : Row2 K s L m x dx B Pa sz tz ps qs) : x ≠ L := by
  obtain ⟨vs, a, _⟩ := r.acc
  rintro rfl
  obtain ⟨n, ex⟩ := a.x
  obtain ⟨o', es, ep, ho, hd, _⟩ := r.ns
  rw [ex] at ho; cases ho; cases hd

theorem Row2.to0 (r : Row2 K s L m x dx B Pa sz tz ps qs) (st : Step [] s s') : Row2 K s' L m x dx B Pa sz tz ps qs := by
  have so : Soft [] s.heap := fun b hb => by cases hb
  obtain ⟨R, rvs, h1, h2, h3⟩ := r.row
  obtain ⟨vs, a, ar⟩ := r.acc
  exact ⟨r.X.keeps st.keep.nil, nsKeep r.ns st.keep (by simp), r.line, ⟨R, rvs, h1, soft_list h2 st.keep so, soft_pairs h3 st.keep so⟩, r.size, ⟨vs, a.stays st.keep, soft_pairs ar st.keep so⟩, r.sm, r.len, r.lenq, r.s0, r.s6,
    soft_tab r.t56 st.keep so, soft_tab r.t63 st.keep so, r.off, r.blanks, r.parts, soft_menu r.bl st.keep so, soft_menu r.pl st.keep so, r.dL⟩

/-- the accumulator changes -/
theorem Row2.mut (r : Row2 K s L m x dx B Pa sz tz ps qs) (st : Step [x, dx] s s') {tz' : Int} {qs' : List Pair} (acc : ∃ vs, Acc s'.heap x dx vs tz' ∧ ArePairs s'.heap vs qs') (hl : qs'.length ≤ 500) : Row2 K s' L m x dx B Pa sz tz' ps qs' := by
  have so := r.softA
  obtain ⟨R, rvs, h1, h2, h3⟩ := r.row
  exact ⟨r.off.keep r.X st.keep, nsKeep r.ns st.keep (by simp [r.xL.symm, r.dL.symm]), r.line, ⟨R, rvs, h1, soft_list h2 st.keep so, soft_pairs h3 st.keep so⟩, r.size, acc, r.sm, r.len, hl, r.s0, r.s6,
    soft_tab r.t56 st.keep so, soft_tab r.t63 st.keep so, r.off, r.blanks, r.parts, soft_menu r.bl st.keep so, soft_menu r.pl st.keep so, r.dL⟩

/-- the name row is set -/
theorem Row2.setRow (r : Row2 K s L m x dx B Pa sz tz ps qs) (st : Step [L] s s') {R : Addr} {rvs : List Value} {ps' : List Pair} (ns : s'.heap.Ns L (fun z => if z = "row" then some (.ref R) else m z)) (offL : Off K [L])
    (hR : s.heap.IsList R rvs.toArray) (hp : ArePairs s.heap rvs ps') (hsm : ∀ p ∈ ps', Small p) (hl : ps'.length ≤ 500) : Row2 K s' L (fun z => if z = "row" then some (.ref R) else m z) x dx B Pa sz tz ps' qs := by
  have so := r.softL
  obtain ⟨vs, a, ar⟩ := r.acc
  refine ⟨offL.keep r.X st.keep, ns, ?_, ⟨R, rvs, if_pos rfl, soft_list hR st.keep so, soft_pairs hp st.keep so⟩, ?_, ⟨vs, a.keep st.keep (by simpa using r.xL) (by simpa using r.dL), soft_pairs ar st.keep so⟩, hsm, hl, r.lenq, r.s0, r.s6,
    soft_tab r.t56 st.keep so, soft_tab r.t63 st.keep so, r.off, ?_, ?_, soft_menu r.bl st.keep so, soft_menu r.pl st.keep so, r.dL⟩
  · rw [if_neg (by decide)]; exact r.line
  · obtain ⟨t, e⟩ := r.size; exact ⟨t, by rw [if_neg (by decide)]; exact e⟩
  · rw [if_neg (by decide)]; exact r.blanks
  · rw [if_neg (by decide)]; exact r.parts
theorem Row2.setSize (r : Row2 K s L m x dx B Pa sz tz ps qs) (st : Step [L] s s') {t : Tok} (ns : s'.heap.Ns L (fun z => if z = "size" then some (.int 0 t) else m z)) (offL : Off K [L]) :
    Row2 K s' L (fun z => if z = "size" then some (.int 0 t) else m z) x dx B Pa 0 tz ps qs := by
  have so := r.softL
  obtain ⟨R, rvs, h1, h2, h3⟩ := r.row
  obtain ⟨vs, a, ar⟩ := r.acc
  refine ⟨offL.keep r.X st.keep, ns, ?_, ⟨R, rvs, ?_, soft_list h2 st.keep so, soft_pairs h3 st.keep so⟩, ⟨t, if_pos rfl⟩, ⟨vs, a.keep st.keep (by simpa using r.xL) (by simpa using r.dL), soft_pairs ar st.keep so⟩, r.sm, r.len, r.lenq, by omega, by omega,
    soft_tab r.t56 st.keep so, soft_tab r.t63 st.keep so, r.off, ?_, ?_, soft_menu r.bl st.keep so, soft_menu r.pl st.keep so, r.dL⟩
  · rw [if_neg (by decide)]; exact r.line
  · rw [if_neg (by decide)]; exact h1
  · rw [if_neg (by decide)]; exact r.blanks
  · rw [if_neg (by decide)]; exact r.parts
end
end Mine
namespace Mine
open PySem PySem.W PySem.Calls PyProof.Rows

def ifParts : Option Stmt → List Stmt × List Stmt
  | some (Stmt.If _ b o _) => (b, o)
  | _ => ([], [])
def br0 : List Stmt × List Stmt := ifParts forBody[2]?
def br1 : List Stmt × List Stmt := ifParts br0.2[0]?
def br2 : List Stmt × List Stmt := ifParts br1.2[0]?
def br3 : List Stmt × List Stmt := ifParts br2.2[0]?
def br4 : List Stmt × List Stmt := ifParts br3.2[0]?

/-- what a branch leaves -/
def Done (K : Frag) (s : Shared) (L x dx B Pa : Addr) (n : Nat) (Q : Flow → Shared → Prop) : Prop :=
  ∀ s' m' sz' ps', Step [L, x, dx] s s' → Row K s' L m' x dx B Pa sz' ps' → ps'.length ≤ n → Q .next s'

section
variable {K : Frag} {w : World} {A : Around} {E : Value → Shared → Prop} {s s' : Shared} {L : Addr} {m : Str → Option Value} {x dx B Pa : Addr} {sz tz : Int} {ps qs : List Pair}

theorem add_rows {l b : Addr} {vs ws : List Value} {Q : Value → Shared → Prop} (hl : s.heap.IsList l vs.toArray) (hb : s.heap.IsList b ws.toArray) (hsz : vs.length + ws.length ≤ 2000)
    (h : ∀ s' r, Step [] s s' → s'.heap.IsList r (vs ++ ws).toArray → Q (.ref r) s') : wpAny (model prg w) A (binaryOp .Add (.ref l) (.ref b)) Q E s := by
  obtain ⟨⟨cls, dd, data, sl⟩, ho, hc, n, hd⟩ := id hl
  obtain ⟨⟨cls2, dd2, data2, sl2⟩, ho2, hc2, n2, hd2⟩ := id hb
  simp only at hc hd hc2 hd2
  subst hc hd hc2 hd2
  have e : vs.toArray ++ ws.toArray = (vs ++ ws).toArray := by simp
  refine concat_meets ⟨_, ho, rfl⟩ ⟨_, ho2, rfl⟩ noFill_list_add seq_list_add PySem.F.slot_list_add PySem.F.entry_list_add (PySem.F.args_list_add_2 _ _) (list_addW l b vs.toArray ws.toArray n n2 dd dd2 sl sl2 (by rw [sizeLine_eq]; simp; omega)) ⟨ho, ho2, ?_⟩
  rw [e]
  exact h _ _ ⟨.push _, rfl, id⟩ ⟨_, Heap.get?_push_size _ rfl, rfl, 0, rfl⟩

theorem pair_at {T : Addr} {p : Pair} {t u t' : Tok} {i : Int} {y : Value} {Q : Value → Shared → Prop} {E : Value → Shared → Prop} (hT : s.heap.IsTuple T #[.str p.1 t, .str p.2 u]) (hi : (i = 0 ∧ y = .str p.1 t) ∨ (i = 1 ∧ y = .str p.2 u)) (h : Q y s) :
    SubscriptOn (model prg w) A (.ref T) (.int i t') Q E s := by
  refine ⟨"tuple", _, PySem.F.slot_tuple_getitem.lookup, IsTup.typeIs hT, ?_⟩
  rcases hi with ⟨rfl, rfl⟩ | ⟨rfl, rfl⟩
  · exact PyProof.Rows.getItem_tuple hT (by decide) (by decide) (j := 0) rfl rfl h
  · exact PyProof.Rows.getItem_tuple hT (by decide) (by decide) (j := 1) rfl rfl h

theorem br_push (kl : KL K) (r : Row K s L m x dx B Pa sz ps) (hlen : ps.length ≤ 400) {T : Addr} {p : Pair} {t u : Tok} (hp : m "pair" = some (.ref T)) (hT : s.heap.IsTuple T #[.str p.1 t, .str p.2 u]) (sp : Small p) (hd : A.depth + 60 < recursionLimit) (offL : Off K [L])
    {Q : Flow → Shared → Prop} (h : Done K s L x dx B Pa (ps.length + 2) Q) : wpAny (model prg w) A (execs br0.1 (lenv L)) Q E s := by
  have kf := kl.toKF
  have r2 := r.two
  obtain ⟨vs, ac, ar⟩ := r.acc
  have hlv := ar.length
  refine wpAny_execs_cons (wpAny_Expr (wp_MCall rfl rfl rfl (ldL r.ns r.line fun pl => gm_fn kf r.X ac kf.f_push kf.t_push (by decide) ?_)))
  refine cw_fnE (o := fnO fdPush) (fd := fdPush) rfl (wpAny_items_cons (wpAny_Subscript_Constant_late (ldL r.ns hp (eInt fun t₁ s₁ st₁ => pair_at (soft_tuple hT st₁.keep (fun b hb => by cases hb)) (.inl ⟨rfl, rfl⟩) ?_))))
  have r₁ := r2.to0 st₁
  have hT₁ := soft_tuple hT st₁.keep (fun b hb => by cases hb)
  refine wpAny_items_cons (wpAny_Subscript_Constant_late (ldL r₁.ns hp (eInt fun t₂ s₂ st₂ => pair_at (soft_tuple hT₁ st₂.keep (fun b hb => by cases hb)) (.inr ⟨rfl, rfl⟩) (wpAny_items_nil ?_))))
  have r₂ := r₁.to0 st₂
  have hT₂ := soft_tuple hT₁ st₂.keep (fun b hb => by cases hb)
  have st₂' := st₁.trans st₂
  refine ⟨r₂.X _ _ kf.oPush, wpAny_call (push_code kf r₂.X (ac.stays st₂'.keep) (by omega) (by omega) fun s₃ v st₃ pr ac₃ => ?_)⟩
  have st₃' : Step [x, dx] s s₃ := st₂'.up.trans (st₃.mono (by simp +contextual))
  have pv : IsPair s₃.heap v p := pr
  have ar₃ : ArePairs s₃.heap (vs ++ [v]) (ps ++ [p]) := (soft_pairs ar st₃'.keep r2.softA).append (.cons pv .nil)
  have r₃ : Row2 K s₃ L m x dx B Pa sz sz ps (ps ++ [p]) := r2.mut st₃' ⟨_, ac₃, ar₃⟩ (by simp; omega)
  obtain ⟨R, rvs, hR, hRl, hRa⟩ := r₃.row
  have hlr := hRa.length
  have hT₃ := soft_tuple hT st₃'.keep r2.softA
  refine wpAny_execs_cons (wpAny_Assign_Name (wpAny_BinOp (ldL r₃.ns hR (eList (wpAny_items_cons (ldL r₃.ns hp (wpAny_items_nil ⟨by simp, fun s₄ T' st₄ hT' => ?_⟩)))))))
  have so4 : Soft [] s₃.heap := fun b hb => by cases hb
  refine add_rows (soft_list hRl st₄.keep so4) ⟨_, hT', rfl, 0, rfl⟩ (by simp; omega) fun s₅ R' st₅ hR' => ?_
  have st₅' := st₄.trans st₅
  have r₅ := r₃.to0 st₅'
  refine stL r₅.ns fun s₆ st₆ ns₆ => wpAny_execs_nil ?_
  have ar₅ : ArePairs s₅.heap (rvs ++ [.ref T]) (ps ++ [p]) := (soft_pairs hRa st₅'.keep so4).append (.cons ⟨T, t, u, rfl, soft_tuple hT₃ st₅'.keep so4⟩ .nil)
  have r₆ := r₅.setRow st₆ ns₆ offL hR' ar₅ (by
    intro q hq
    rcases List.mem_append.mp hq with hq | hq
    · exact r.sm q hq
    · rw [List.mem_singleton.mp hq]; exact sp) (by simp; omega)
  refine h s₆ _ _ _ ((st₃'.mono (by simp +contextual)).trans (st₅'.up.trans (st₆.mono (by simp)))) r₆.one (by simp)
end
end Mine
namespace Mine
open PySem PySem.W PySem.Calls PyProof.Rows

section
variable {K : Frag} {w : World} {A : Around} {E : Value → Shared → Prop} {s s' : Shared} {L : Addr} {m : Str → Option Value} {x dx B Pa : Addr} {sz tz : Int} {ps qs : List Pair}

theorem so0 {h : Heap} : Soft [] h := fun b hb => by cases hb

theorem row_upto {e : Expr} {p1 p2 p3 : Pos} {k : Nat} {Q : Value → Shared → Prop} (r : Row2 K s L m x dx B Pa sz tz ps qs)
    (he : ∀ Q' : Value → Shared → Prop, (∀ s' t, Step [] s s' → Q' (.int k t) s') → wpAny (model prg w) A (eval e (lenv L)) Q' E s)
    (h : ∀ s' R' rvs, Step [] s s' → s'.heap.IsList R' rvs.toArray → ArePairs s'.heap rvs (ps.take k) → Q (.ref R') s') :
    wpAny (model prg w) A (eval (.Subscript (.Name "row" p1) (.Slice none (some e) none p2) p3) (lenv L)) Q E s := by
  obtain ⟨R, rvs, hR, hRl, hRa⟩ := r.row
  have hlr := hRa.length
  have hl := r.len
  refine subSlice (ldL r.ns hR (eSlice (wpAny_pure (he _ fun s₁ t st₁ s₂ sl st₂ hsl => ?_))))
  have st₂' := st₁.trans st₂
  have hl₂ := soft_list hRl st₂'.keep so0
  refine ⟨inPython_list hl₂, wpAny_getItem_list_slice hl₂ hsl .none (.int _ _) .none (by simp) ?_ (by rw [sizeLine_eq]; simp; omega)⟩
  rw [pick_upto]
  have st₃ : Step [] s₂ { s₂ with heap := s₂.heap.push { cls := .type "list", data := .seq (rvs.toArray.toList.take k).toArray } } := ⟨.push _, rfl, id⟩
  refine h _ _ (rvs.take k) (st₂'.trans st₃) ⟨_, Heap.get?_push_size _ rfl, rfl, 0, by simp⟩ ?_
  exact (soft_pairs hRa (st₂'.trans st₃).keep so0).take k
theorem row_from {p1 p2 p3 : Pos} {e : Expr} {k : Nat} {Q : Value → Shared → Prop} (r : Row2 K s L m x dx B Pa sz tz ps qs)
    (he : ∀ Q' : Value → Shared → Prop, (∀ s' t, Step [] s s' → Q' (.int k t) s') → wpAny (model prg w) A (eval e (lenv L)) Q' E s)
    (h : ∀ s' R' rvs, Step [] s s' → s'.heap.IsList R' rvs.toArray → ArePairs s'.heap rvs (ps.drop k) → Q (.ref R') s') :
    wpAny (model prg w) A (eval (.Subscript (.Name "row" p1) (.Slice (some e) none none p2) p3) (lenv L)) Q E s := by
  obtain ⟨R, rvs, hR, hRl, hRa⟩ := r.row
  have hlr := hRa.length
  have hl := r.len
  refine subSlice (ldL r.ns hR (eSlice (he _ fun s₁ t st₁ => wpAny_pure fun s₂ sl st₂ hsl => ?_)))
  have st₂' := st₁.trans st₂
  have hl₂ := soft_list hRl st₂'.keep so0
  refine ⟨inPython_list hl₂, wpAny_getItem_list_slice hl₂ hsl (.int _ _) .none .none (by simp) ?_ (by rw [sizeLine_eq]; simp; omega)⟩
  rw [pick_from]
  have st₃ : Step [] s₂ { s₂ with heap := s₂.heap.push { cls := .type "list", data := .seq (rvs.toArray.toList.drop k).toArray } } := ⟨.push _, rfl, id⟩
  refine h _ _ (rvs.drop k) (st₂'.trans st₃) ⟨_, Heap.get?_push_size _ rfl, rfl, 0, by simp⟩ ?_
  exact (soft_pairs hRa (st₂'.trans st₃).keep so0).drop k

theorem len_row {p1 p2 p3 : Pos} {Q : Value → Shared → Prop} (kf : KF K) (r : Row2 K s L m x dx B Pa sz tz ps qs) (h : ∀ t s', Step [] s s' → Q (.int ps.length t) s') :
    wpAny (model prg w) A (eval (.Call (.Name "len" p1) [.Name "row" p2] [] p3) (lenv L)) Q E s := by
  obtain ⟨R, rvs, hR, hRl, hRa⟩ := r.row
  have hlr := hRa.length
  have hl := r.len
  refine Call_Name rfl (ldB r.X kf.g_len kf.b_len (cw_biE rfl (wpAny_items_cons (ldL r.ns hR (wpAny_items_nil (call_len_list hRl ?_ ?_))))))
  · rw [two63]; simp; omega
  have e : (rvs.toArray.size : Int) = (ps.length : Int) := by simp [hlr]
  rw [e]
  exact h _ _ .toks

theorem pop_slice (kl : KL K) (r : Row2 K s L m x dx B Pa sz sz ps (ps.take (ps.length - 1))) (hh : A.handled = none) (offL : Off K [L]) {Q : Flow → Shared → Prop}
    (h : Done K s L x dx B Pa (ps.length + 2) Q) : wpAny (model prg w) A (execs (br1.1.drop 1) (lenv L)) Q E s := by
  have kf := kl.toKF
  refine wpAny_execs_cons (wpAny_Assign_Name (row_upto (k := ps.length - 1) r (fun Q' hq => ?_) fun s₁ R' rvs st₁ hl ha => ?_))
  · refine Call_Name rfl (ldB r.X kf.g_max kf.b_max (cw_biE rfl (wpAny_items_cons (eInt fun t₁ s₁ st₁ => wpAny_items_cons (wpAny_BinOp (len_row kf (r.to0 st₁) fun t₂ s₂ st₂ => eInt fun t₃ s₃ st₃ => PyProof.Rows.sub_int (wpAny_items_nil ?_)))))))
    refine max_two_ints hh fun h' tk hk => ?_
    have st₄ : Step [] s { s₃ with heap := h', toks := tk } := (st₁.trans (st₂.trans st₃)).trans ⟨.stays hk, rfl, id⟩
    by_cases c : ps.length = 0
    · have e : ¬ ((ps.length : Int) - 1 > 0) := by omega
      rw [if_neg e]
      have := hq _ t₁ st₄
      rw [show ((ps.length - 1 : Nat) : Int) = 0 by omega] at this
      exact this
    · by_cases c1 : ps.length = 1
      · have e : ¬ ((ps.length : Int) - 1 > 0) := by omega
        rw [if_neg e]
        have := hq _ t₁ st₄
        rw [show ((ps.length - 1 : Nat) : Int) = 0 by omega] at this
        exact this
      · have e : ((ps.length : Int) - 1 > 0) := by omega
        rw [if_pos e]
        have := hq _ s₃.toks st₄
        rw [show ((ps.length - 1 : Nat) : Int) = (ps.length : Int) - 1 by omega] at this
        exact this
  · have r₁ := r.to0 st₁
    refine stL r₁.ns fun s₂ st₂ ns₂ => wpAny_execs_nil ?_
    have r₂ := r₁.setRow st₂ ns₂ offL hl ha (fun q hq => r.sm q (List.mem_of_mem_take hq)) (by have := r.len; simp; omega)
    exact h s₂ _ _ _ (st₁.up.trans (st₂.mono (by simp))) r₂.one (by simp; omega)
end
end Mine
namespace Mine
open PySem PySem.W PySem.Calls PyProof.Rows

section
variable {K : Frag} {w : World} {A : Around} {E : Value → Shared → Prop} {s s' : Shared} {L : Addr} {m : Str → Option Value} {x dx B Pa : Addr} {sz tz : Int} {ps qs : List Pair}

def lastPair (ps : List Pair) : Pair := (ps.getLast?).getD ("", "")

theorem last_some {ps : List Pair} (h : 0 < ps.length) : ps[ps.length - 1]? = some (lastPair ps) := by
  rw [← List.getLast?_eq_getElem?]
  unfold lastPair
  cases e : ps.getLast? with
  | none =>
    have := List.getLast?_eq_none_iff.mp e
    rw [this] at h
    exact absurd h (Nat.lt_irrefl _)
  | some p => rfl

theorem pop_right {p1 p2 p3 p4 p5 p6 p7 p8 q1 q2 q3 q4 q5 : Pos} {k1 k2 k3 k4 : Nat} {Q : Value → Shared → Prop} (kf : KF K) (r : Row2 K s L m x dx B Pa sz tz ps qs) (hu : A.units + 60 < cLine)
    (h : ∀ s' v, Step [] s s' → IsPair s'.heap v (lastPair ps) → Q v s') :
    wpAny (model prg w) A (eval (.IfExp (.Compare (.Name "row" p1) [.NotEq] [.List [] p2] p3) (.Subscript (.Name "row" p4) (.BinOp (.Call (.Name "len" p5) [.Name "row" p6] [] p7) .Sub (.Constant (.int 1) k1 p8) q1) q2)
      (.Tuple [.Constant (.str "") k2 q3, .Constant (.str "") k3 q4] k4 q5) q1) (lenv L)) Q E s := by
  obtain ⟨R, rvs, hR, hRl, hRa⟩ := r.row
  have hlr := hRa.length
  have hl := r.len
  refine wpAny_IfExp (wpAny_isTrue_Compare1 (ldL r.ns hR (eList (wpAny_items_nil ⟨by simp, fun s₁ D st₁ hD => ?_⟩))))
  have r₁ := r.to0 st₁
  have hRl₁ := soft_list hRl st₁.keep so0
  refine ne_empty hRl₁ ⟨_, hD, rfl, 0, rfl⟩ (by omega) (wpAny_truthy_bool ?_)
  cases hp : ps with
  | nil =>
    have e : rvs = [] := List.length_eq_zero_iff.mp (by rw [hlr, hp]; rfl)
    subst e
    refine eTuple (wpAny_items_cons (eStr fun t₂ s₂ st₂ => wpAny_items_cons (eStr fun t₃ s₃ st₃ => wpAny_items_nil ⟨by simp, fun s₄ T st₄ hT => ?_⟩)))
    refine h s₄ _ (st₁.trans (st₂.trans (st₃.trans st₄))) ?_
    rw [hp]
    exact ⟨T, _, _, rfl, hT⟩
  | cons p0 rest =>
    have hne : rvs.isEmpty = false := by
      rw [← Bool.not_eq_true, List.isEmpty_iff]
      intro hv
      rw [hv, hp] at hlr
      exact Nat.succ_ne_zero _ hlr.symm
    rw [hne]
    refine wpAny_Subscript_BinOp_late (ldL r₁.ns hR (wpAny_BinOp (len_row kf r₁ fun t₂ s₂ st₂ => eInt fun t₃ s₃ st₃ => PyProof.Rows.sub_int ?_)))
    have st₄ : Step [] s { s₃ with toks := s₃.toks + 1 } := st₁.trans (st₂.trans (st₃.trans .toks))
    have hRl₄ := soft_list hRl st₄.keep so0
    have ha₄ := soft_pairs hRa st₄.keep so0
    have hpos : 0 < ps.length := by rw [hp]; simp
    have hlast := last_some hpos
    obtain ⟨v, hv, pv⟩ := ha₄.get hlast
    refine ⟨"list", _, slot_list_getitem.lookup, hRl₄.typeIs, wpAny_getItem_list (x := v) hRl₄ (by omega) (by rw [two63]; omega) ?_ (h _ v st₄ pv)⟩
    rw [show ((ps.length : Int) - 1).toNat = ps.length - 1 by omega]
    simpa using hv

theorem br_pop (kl : KL K) (r : Row K s L m x dx B Pa sz ps) (hlen : ps.length ≤ 400) (hh : A.handled = none) (hd : A.depth + 60 < recursionLimit) (hu : A.units + 60 < cLine) (offL : Off K [L])
    {Q : Flow → Shared → Prop} (h : Done K s L x dx B Pa (ps.length + 2) Q) : wpAny (model prg w) A (execs br1.1 (lenv L)) Q E s := by
  have kf := kl.toKF
  have r2 := r.two
  obtain ⟨vs, ac, ar⟩ := r.acc
  have hlv := ar.length
  refine wpAny_execs_cons (wpAny_If (wpAny_isTrue_Compare1 (wp_MCall rfl rfl rfl (ldL r.ns r.line fun pl => gm_fn kf r.X ac kf.f_pop kf.t_pop (by decide) (cw_fn0 (r.X _ _ kf.oPop) rfl (wpAny_call (pop_code kf r.X ac (by omega) (by omega) ?_ ?_)))))))
  · intro hv s₁ v st₁ pv
    subst hv
    have hp : ps = [] := List.length_eq_zero_iff.mp (by rw [← hlv]; rfl)
    have r₁ := r2.to0 st₁
    have pl : lastPair ps = ((("" : Str), ("" : Str)) : Pair) := by rw [hp]; rfl
    refine pop_right kf r₁ hu fun s₂ u st₂ pu => ne_pair (p := lastPair ps) ?_ pu (by omega) (wpAny_truthy_bool ?_)
    · rw [pl]; exact pv.keep st₂.keep (fun b hb => by cases hb)
    · rw [if_neg Bool.false_ne_true]
      have st₂' := st₁.trans st₂
      have r₂ : Row2 K s₂ L m x dx B Pa sz sz ps (ps.take (ps.length - 1)) := by
        have := r2.to0 st₂'
        rw [hp] at this ⊢
        exact this
      refine wpAny_execs_nil (pop_slice kl r₂ hh offL fun s' m' sz' ps' st hr hl => h s' m' sz' ps' (st₂'.up.trans st) hr hl)
  · intro us u0 hv s₁ st₁ ac₁
    have st₁' : Step [x, dx] s s₁ := st₁.mono (by simp +contextual)
    have hlu : ps.length = us.length + 1 := by rw [← hlv, hv]; simp
    have hpos : ps.length - 1 = us.length := by omega
    have au : ArePairs s.heap us (ps.take (ps.length - 1)) := by
      have := ar.take (ps.length - 1)
      rw [hpos] at this ⊢
      rw [hv, List.take_left] at this
      exact this
    have pu0 : IsPair s.heap u0 (lastPair ps) := by
      have hlast := last_some (ps := ps) (by omega)
      obtain ⟨v, e, pv⟩ := ar.get hlast
      rw [hv, hpos] at e
      simp at e
      rw [e]; exact pv
    have so := r2.softA
    have r₁ : Row2 K s₁ L m x dx B Pa sz sz ps (ps.take (ps.length - 1)) := r2.mut st₁' ⟨us, ac₁, soft_pairs au st₁'.keep so⟩ (by simp; omega)
    have pu₁ : IsPair s₁.heap u0 (lastPair ps) := by obtain ⟨T, t, u, rfl, hT⟩ := pu0; exact ⟨T, t, u, rfl, soft_tuple hT st₁'.keep so⟩
    refine pop_right kf r₁ hu fun s₂ u st₂ pu => ne_pair (p := lastPair ps) (pu₁.keep st₂.keep (fun b hb => by cases hb)) pu (by omega) (wpAny_truthy_bool ?_)
    rw [if_neg Bool.false_ne_true]
    exact wpAny_execs_nil (pop_slice kl (r₁.to0 st₂) hh offL fun s' m' sz' ps' st hr hl => h s' m' sz' ps' ((st₁'.mono (by simp +contextual)).trans (st₂.up.trans st)) hr hl)
end
end Mine
namespace Mine
open PySem PySem.W PySem.Calls PyProof.Rows

section
variable {K : Frag} {w : World} {A : Around} {E : Value → Shared → Prop} {s s' : Shared} {L : Addr} {m : Str → Option Value} {x dx B Pa : Addr} {sz tz : Int} {ps qs : List Pair}

theorem br_popf (kl : KL K) (r : Row K s L m x dx B Pa sz ps) (hlen : ps.length ≤ 400) {k : Nat} {tk : Tok} (hk : m "place" = some (.int k tk)) (hd : A.depth + 60 < recursionLimit) (hu : A.units + 60 < cLine) (offL : Off K [L])
    {Q : Flow → Shared → Prop} (h : Done K s L x dx B Pa (ps.length + 2) Q) : wpAny (model prg w) A (execs br2.1 (lenv L)) Q E s := by
  have kf := kl.toKF
  have r2 := r.two
  obtain ⟨vs, ac, ar⟩ := r.acc
  have hlv := ar.length
  have so := r2.softA
  refine wpAny_execs_cons (wpAny_If (wpAny_isTrue_Compare1 (wp_MCall rfl rfl rfl (ldL r.ns r.line fun pl => gm_fn kf r.X ac kf.f_popf kf.t_popf (by decide) ?_))))
  refine cw_fnE (o := fnO fdPopF) (fd := fdPopF) rfl (wpAny_items_cons (ldL r.ns hk (wpAny_items_nil ⟨r.X _ _ kf.oPopF, wpAny_call (popf_code kf r.X ac (by omega) (by omega) fun s₁ c st₁ hc ac₁ => ?_)⟩)))
  have st₁' : Step [x, dx] s s₁ := st₁.mono (by simp +contextual)
  have r₁ : Row2 K s₁ L m x dx B Pa sz sz ps (ps.take k) := r2.mut st₁' ⟨vs.take k, ac₁, soft_pairs (ar.take k) st₁'.keep so⟩ (by have := r.len; simp; omega)
  refine row_from (k := k) r₁ (fun Q' hq => ldL r₁.ns hk (hq _ tk .refl)) fun s₂ R' rvs st₂ hl ha => ?_
  refine ne_lists (vs := vs.drop k) ⟨_, st₂.keep.nil _ _ hc, rfl, 0, rfl⟩ hl (soft_pairs (soft_pairs (ar.drop k) st₁'.keep so) st₂.keep so0) ha (by omega) (wpAny_truthy_bool ?_)
  rw [if_neg Bool.false_ne_true]
  refine wpAny_execs_nil ?_
  have r₂ := r₁.to0 st₂
  refine wpAny_execs_cons (wpAny_Assign_Name (row_upto (k := k) r₂ (fun Q' hq => ldL r₂.ns hk (hq _ tk .refl)) fun s₃ R₃ rvs₃ st₃ hl₃ ha₃ => ?_))
  have r₃ := r₂.to0 st₃
  refine stL r₃.ns fun s₄ st₄ ns₄ => wpAny_execs_nil ?_
  have r₄ := r₃.setRow st₄ ns₄ offL hl₃ ha₃ (fun q hq => r.sm q (List.mem_of_mem_take hq)) (by have := r.len; simp; omega)
  exact h s₄ _ _ _ ((st₁'.mono (by simp +contextual)).trans ((st₂.trans st₃).up.trans (st₄.mono (by simp)))) r₄.one (by simp; omega)

theorem br_clear (kl : KL K) (r : Row K s L m x dx B Pa sz ps) (hlen : ps.length ≤ 400) (hd : A.depth + 60 < recursionLimit) (offL : Off K [L])
    {Q : Flow → Shared → Prop} (h : Done K s L x dx B Pa (ps.length + 2) Q) : wpAny (model prg w) A (execs br4.1 (lenv L)) Q E s := by
  have kf := kl.toKF
  have r2 := r.two
  refine wpAny_execs_cons (wpAny_Assign_Name (eInt fun t₁ s₁ st₁ => ?_))
  have r₁ := r2.to0 st₁
  refine stL r₁.ns fun s₂ st₂ ns₂ => ?_
  have r₂ := r₁.setSize st₂ ns₂ offL
  refine wpAny_execs_cons (wpAny_Assign_Name (eList (wpAny_items_nil ⟨by simp, fun s₃ D st₃ hD => ?_⟩)))
  have r₃ := r₂.to0 st₃
  refine stL r₃.ns fun s₄ st₄ ns₄ => ?_
  have r₄ := r₃.setRow (rvs := []) (ps' := []) st₄ ns₄ offL ⟨_, hD, rfl, 0, rfl⟩ .nil (by intro q hq; cases hq) (by simp)
  obtain ⟨vs, ac, ar⟩ := r₄.acc
  have hlv := ar.length
  have hq := r₄.lenq
  refine wpAny_execs_cons (wpAny_Expr (wp_MCall rfl rfl rfl (ldL r₄.ns r₄.line fun pl => gm_fn kf r₄.X ac kf.f_reset kf.t_reset (by decide) (cw_fn0 (r₄.X _ _ kf.oReset) rfl (wpAny_call (reset_none kf r₄.X ac (by omega) r₄.off (by omega) fun s₅ st₅ ac₅ => ?_))))))
  have r₅ := r₄.mut (qs' := []) st₅ ⟨[], ac₅, .nil⟩ (by simp)
  refine wpAny_execs_nil (h s₅ _ _ _ ?_ r₅.one (by simp))
  exact (st₁.up.trans (st₂.mono (by simp))).trans ((st₃.up.trans (st₄.mono (by simp))).trans (st₅.mono (by simp +contextual)))
end
end Mine
namespace Mine
open PySem PySem.W PySem.Calls PyProof.Rows

section
variable {K : Frag} {w : World} {A : Around} {E : Value → Shared → Prop} {s s' : Shared} {L : Addr} {m : Str → Option Value} {x dx B Pa : Addr} {sz tz : Int} {ps qs : List Pair}

theorem subSliceT {env : Env} {value : Expr} {lower upper : Option Expr} {p pos : Pos} {Q : Value → Shared → Prop}
    (h : wpAny (model prg w) A (eval value env) (fun o s₁ => wpAny (model prg w) A (eval (.Slice lower upper none p) env) (fun i s₂ => Looks (model prg w) s₂.heap (getitemInPython o) false ∧ wpAny (model prg w) A (getItem o i) Q E s₂) E s₁) E s) :
    wpAny (model prg w) A (eval (.Subscript value (.Slice lower upper none p) pos) env) Q E s := by
  rw [arm_eval_Subscript]
  refine wpAny_bind (wpAny_mono h (fun o s₁ h₁ => wpAny_bind (wpAny_holding (wpAny_mono h₁ (fun i s₂ h₂ => wpAny_bind (wpAny_standAt ?_)) fun _ _ x => x))) fun _ _ x => x)
  refine wpAny_bind (h₂.1.here ?_)
  refine wpAny_bind (m := subscripted _ _ _ _) ?_
  show wpAny _ _ (operate [i, o] (getItem o i)) _ _ _
  exact wpAny_operateT (wpAny_mono h₂.2 (fun r s₃ h₃ => wpAny_bind (wpAny_letTemporaryGo (wpAny_pure h₃))) fun _ _ x => x)

theorem br_reset (kl : KL K) (r : Row K s L m x dx B Pa sz ps) (hlen : ps.length ≤ 400) {T : Addr} {p : Pair} {t u : Tok} (hp : m "pair" = some (.ref T)) (hT : s.heap.IsTuple T #[.str p.1 t, .str p.2 u]) (sp : Small p) {k : Nat} {tk : Tok} (hk : m "place" = some (.int k tk))
    (hd : A.depth + 60 < recursionLimit) (offL : Off K [L])
    {Q : Flow → Shared → Prop} (h : Done K s L x dx B Pa (ps.length + 2) Q) : wpAny (model prg w) A (execs br3.1 (lenv L)) Q E s := by
  have kf := kl.toKF
  have r2 := r.two
  refine wpAny_execs_cons (wpAny_Assign_Name (eInt fun t₁ s₁ st₁ => ?_))
  have r₁ := r2.to0 st₁
  refine stL r₁.ns fun s₂ st₂ ns₂ => ?_
  have r₂ := r₁.setSize st₂ ns₂ offL
  have hT₂ := soft_tuple (soft_tuple hT st₁.keep so0) st₂.keep r₁.softL
  refine wpAny_execs_cons (wpAny_Assign_Name (subSliceT (eList (wpAny_items_cons (ldL (v := .ref T) r₂.ns ?_ (wpAny_items_cons (eTuple (wpAny_items_cons (eStr fun t₃ s₃ st₃ => wpAny_items_cons (eStr fun t₄ s₄ st₄ => wpAny_items_nil ⟨by simp, fun s₅ T' st₅ hT' =>
    wpAny_items_nil ⟨by simp, fun s₆ D st₆ hD => ?_⟩⟩))))))))))
  · rw [if_neg (by decide)]; exact hp
  have st₅' : Step [] s₂ s₅ := st₃.trans (st₄.trans st₅)
  have st₆' : Step [] s₂ s₆ := st₅'.trans st₆
  have r₆ := r₂.to0 st₆'
  have hDl : s₆.heap.IsList D [Value.ref T, Value.ref T'].toArray := ⟨_, hD, rfl, 0, rfl⟩
  have aD : ArePairs s₆.heap [.ref T, .ref T'] [p, ((("" : Str), ("b" : Str)) : Pair)] := .cons ⟨T, t, u, rfl, soft_tuple hT₂ st₆'.keep so0⟩ (.cons ⟨T', _, _, rfl, soft_tuple hT' st₆.keep so0⟩ .nil)
  refine eSlice (wpAny_pure (ldL (v := .int k tk) r₆.ns ?_ fun s₇ sl st₇ hsl => ?_))
  · rw [if_neg (by decide)]; exact hk
  have hD₇ := soft_list hDl st₇.keep so0
  refine ⟨inPython_list hD₇, wpAny_getItem_list_slice hD₇ hsl .none (.int _ _) .none (by simp) ?_ (by rw [sizeLine_eq]; simp)⟩
  rw [pick_upto]
  have st₈ : Step [] s₇ { s₇ with heap := s₇.heap.push { cls := .type "list", data := .seq (([Value.ref T, Value.ref T'].toArray).toList.take k).toArray } } := ⟨.push _, rfl, id⟩
  have st₈' := st₇.trans st₈
  have r₈ := r₆.to0 st₈'
  have a₈ := (soft_pairs aD st₈'.keep so0).take k
  refine stL r₈.ns fun s₉ st₉ ns₉ => ?_
  have hsm : ∀ q ∈ ([p, ((("" : Str), ("b" : Str)) : Pair)].take k), Small q := fun q hq => by
    have := List.mem_of_mem_take hq
    rcases List.mem_cons.mp this with rfl | hq
    · exact sp
    · rw [List.mem_singleton.mp hq]; exact ⟨by decide, by decide⟩
  have hl2 : ([p, ((("" : Str), ("b" : Str)) : Pair)].take k).length ≤ 2 := by rw [List.length_take]; exact Nat.min_le_right _ _
  have r₉ := r₈.setRow (rvs := [Value.ref T, Value.ref T'].take k) st₉ ns₉ offL ⟨_, Heap.get?_push_size _ rfl, rfl, 0, by simp⟩ a₈ hsm (by omega)
  obtain ⟨vs, ac, ar⟩ := r₉.acc
  have hlv := ar.length
  have hq := r₉.lenq
  obtain ⟨R, rvs, hR, hRl, hRa⟩ := r₉.row
  have hlr := hRa.length
  refine wpAny_execs_cons (wpAny_Expr (wp_MCall rfl rfl rfl (ldL r₉.ns r₉.line fun pl => gm_fn kf r₉.X ac kf.f_reset kf.t_reset (by decide) ?_)))
  refine cw_fnE (o := fnO fdReset) (fd := fdReset) rfl (wpAny_items_cons (Call_Name rfl (ldB r₉.X kf.g_list kf.b_list (callWith_type1 (wpAny_items_cons (ldL r₉.ns hR (wpAny_items_nil ?_)))))))
  obtain ⟨oR, hoR, hcR, nR, hdR⟩ := id hRl
  refine call_list_seq R (T := "list") (.inl rfl) hoR hcR hdR (fun h' c' hk' hnew => wpAny_items_nil ?_) (by rw [sizeLine_eq]; simp; omega)
  have st₁₀ : Step [] s₉ { s₉ with heap := h' } := ⟨.stays hk', rfl, id⟩
  have r₁₀ := r₉.to0 st₁₀
  have hRa₁₀ := soft_pairs hRa st₁₀.keep so0
  have hne : Soft [x, dx] h' := r₁₀.softA
  refine ⟨r₁₀.X _ _ kf.oReset, wpAny_call (reset_list (new := rvs) kf r₁₀.X (ac.stays st₁₀.keep) (by omega) r₁₀.off (by omega) ⟨_, hnew, rfl, _, rfl⟩ (by omega) fun s₁₁ st₁₁ ac₁₁ => ?_)⟩
  have r₁₁ := r₁₀.mut st₁₁ ⟨rvs, ac₁₁, soft_pairs hRa₁₀ st₁₁.keep hne⟩ (by omega)
  refine wpAny_execs_nil (h s₁₁ _ _ _ ?_ r₁₁.one (by omega))
  exact (st₁.up.trans (st₂.mono (by simp))).trans ((st₆'.trans st₈').up.trans ((st₉.mono (by simp)).trans (st₁₀.up.trans (st₁₁.mono (by simp +contextual)))))
end
end Mine
namespace Mine
open PySem PySem.W PySem.Calls PyProof.Rows

def ifTest : Option Stmt → Expr × Pos
  | some (Stmt.If e _ _ p) => (e, p)
  | _ => (.Tuple [] 0 ⟨0, 0, 0, 0⟩, ⟨0, 0, 0, 0⟩)
def te0 : Expr × Pos := ifTest forBody[2]?
def te1 : Expr × Pos := ifTest br0.2[0]?
def te2 : Expr × Pos := ifTest br1.2[0]?
def te3 : Expr × Pos := ifTest br2.2[0]?
def te4 : Expr × Pos := ifTest br3.2[0]?
theorem chain0 : forBody.drop 2 = Stmt.If te0.1 br0.1 br0.2 te0.2 :: forBody.drop 3 := by rfl
theorem chain1 : br0.2 = [Stmt.If te1.1 br1.1 br1.2 te1.2] := by rfl
theorem chain2 : br1.2 = [Stmt.If te2.1 br2.1 br2.2 te2.2] := by rfl
theorem chain3 : br2.2 = [Stmt.If te3.1 br3.1 br3.2 te3.2] := by rfl
theorem chain4 : br3.2 = [Stmt.If te4.1 br4.1 br4.2 te4.2] := by rfl
theorem chain5 : br4.2 = [] := by rfl

section
variable {K : Frag} {w : World} {A : Around} {E : Value → Shared → Prop} {s s' : Shared} {L : Addr} {m : Str → Option Value} {x dx B Pa : Addr} {sz tz : Int} {ps qs : List Pair}

theorem mod6 {n : Int} {tn : Tok} {p1 p2 p3 : Pos} {k : Nat} {Q : Value → Shared → Prop} (ns : s.heap.Ns L m) (hm : m "number" = some (.int n tn)) (h : ∀ s' t, Step [] s s' → Q (.int (n.fmod 6) t) s') :
    wpAny (model prg w) A (eval (.BinOp (.Name "number" p1) .Mod (.Constant (.int 6) k p2) p3) (lenv L)) Q E s :=
  wpAny_BinOp (ldL ns hm (eInt fun t₁ s₁ st₁ => mod_int (by decide) (h _ _ (st₁.trans .toks))))

/-- the tests of the chain -/
theorem test0 {n : Int} {tn : Tok} {Q : Bool → Shared → Prop} (ns : s.heap.Ns L m) (hm : m "number" = some (.int n tn)) (h : ∀ s' b, Step [] s s' → Q b s') : wpAny (model prg w) A (isTrue te0.1 (lenv L) (eval te0.1 (lenv L))) Q E s :=
  wpAny_isTrue_Compare1 (mod6 ns hm fun _ _ st₁ => eInt fun _ _ st₂ => PyProof.Rows.lt_int (wpAny_truthy_bool (h _ _ (st₁.trans st₂))))
theorem test1 {n : Int} {tn : Tok} {Q : Bool → Shared → Prop} (ns : s.heap.Ns L m) (hm : m "number" = some (.int n tn)) (h : ∀ s' b, Step [] s s' → Q b s') : wpAny (model prg w) A (isTrue te1.1 (lenv L) (eval te1.1 (lenv L))) Q E s :=
  wpAny_isTrue_Compare1 (mod6 ns hm fun _ _ st₁ => eInt fun _ _ st₂ => cmp_ofEq (wpAny_eq_int (wpAny_truthy_bool (h _ _ (st₁.trans st₂)))))
theorem test2 {n : Int} {tn : Tok} {Q : Bool → Shared → Prop} (ns : s.heap.Ns L m) (hm : m "number" = some (.int n tn)) (h : ∀ s' b, Step [] s s' → Q b s') : wpAny (model prg w) A (isTrue te2.1 (lenv L) (eval te2.1 (lenv L))) Q E s :=
  wpAny_isTrue_Compare1 (mod6 ns hm fun _ _ st₁ => eInt fun _ _ st₂ => cmp_ofEq (wpAny_eq_int (wpAny_truthy_bool (h _ _ (st₁.trans st₂)))))
theorem test3 {n : Int} {tn : Tok} {Q : Bool → Shared → Prop} (ns : s.heap.Ns L m) (hm : m "number" = some (.int n tn)) (h : ∀ s' b, Step [] s s' → Q b s') : wpAny (model prg w) A (isTrue te3.1 (lenv L) (eval te3.1 (lenv L))) Q E s :=
  wpAny_isTrue_Compare1 (mod6 ns hm fun _ _ st₁ => eInt fun _ _ st₂ => cmp_ofEq (wpAny_eq_int (wpAny_truthy_bool (h _ _ (st₁.trans st₂)))))
theorem test4 {k : Nat} {tk : Tok} {Q : Bool → Shared → Prop} (ns : s.heap.Ns L m) (hk : m "place" = some (.int k tk)) (h : ∀ s' b, Step [] s s' → Q b s') : wpAny (model prg w) A (isTrue te4.1 (lenv L) (eval te4.1 (lenv L))) Q E s :=
  wpAny_isTrue_Compare1 (ldL ns hk (eInt fun _ _ st₁ => cmp_ofEq (wpAny_eq_int (wpAny_truthy_bool (h _ _ st₁)))))

/-- the facts of a turn that its branches ask -/
structure Turn (K : Frag) (A : Around) (s : Shared) (L : Addr) (m : Str → Option Value) (x dx B Pa : Addr) (sz : Int) (ps : List Pair) (n : Int) (tn : Tok) (T : Addr) (t u : Tok) (p : Pair) (k : Nat) (tk : Tok) : Prop where
  r : Row K s L m x dx B Pa sz ps
  hlen : ps.length ≤ 400
  hm : m "number" = some (.int n tn)
  hp : m "pair" = some (.ref T)
  hT : s.heap.IsTuple T #[.str p.1 t, .str p.2 u]
  sp : Small p
  hk : m "place" = some (.int k tk)
  hh : A.handled = none
  hd : A.depth + 60 < recursionLimit
  hu : A.units + 60 < cLine
  offL : Off K [L]
theorem Turn.to0 {n : Int} {tn t u tk : Tok} {T : Addr} {p : Pair} {k : Nat} (z : Turn K A s L m x dx B Pa sz ps n tn T t u p k tk) (kf : KF K) (st : Step [] s s') : Turn K A s' L m x dx B Pa sz ps n tn T t u p k tk :=
  ⟨z.r.to0 kf st, z.hlen, z.hm, z.hp, soft_tuple z.hT st.keep so0, z.sp, z.hk, z.hh, z.hd, z.hu, z.offL⟩
theorem Done.later {N : Nat} {Q : Flow → Shared → Prop} (h : Done K s L x dx B Pa N Q) (st : Step [] s s') : Done K s' L x dx B Pa N Q := fun s₁ m₁ sz₁ ps₁ st₁ r₁ hl => h s₁ m₁ sz₁ ps₁ (st.up.trans st₁) r₁ hl
theorem Done.nil {N : Nat} {env : Env} {Q : Flow → Shared → Prop} (h : Done K s L x dx B Pa N Q) :
    Done K s L x dx B Pa N (fun f s' => match f with | .next => wpAny (model prg w) A (execs [] env) Q E s' | f => Q f s') := fun s₁ m₁ sz₁ ps₁ st₁ r₁ hl => wpAny_execs_nil (h s₁ m₁ sz₁ ps₁ st₁ r₁ hl)

section
variable {n : Int} {tn t u tk : Tok} {T : Addr} {p : Pair} {k : Nat} {Q : Flow → Shared → Prop}

theorem lvl4 (kl : KL K) (z : Turn K A s L m x dx B Pa sz ps n tn T t u p k tk) (h : Done K s L x dx B Pa (ps.length + 2) Q) : wpAny (model prg w) A (execs br3.2 (lenv L)) Q E s := by
  rw [chain4]
  refine wpAny_execs_cons (wpAny_If (test4 z.r.ns z.hk fun s₁ b st => ?_))
  have z₁ := z.to0 kl.toKF st
  have h₁ := (h.later st).nil (w := w) (A := A) (E := E) (env := lenv L)
  cases b with
  | true => exact br_clear kl z₁.r z.hlen z.hd z.offL h₁
  | false =>
    rw [if_neg Bool.false_ne_true, chain5]
    exact wpAny_execs_nil (h₁ _ _ _ _ .refl z₁.r (by omega))
theorem lvl3 (kl : KL K) (z : Turn K A s L m x dx B Pa sz ps n tn T t u p k tk) (h : Done K s L x dx B Pa (ps.length + 2) Q) : wpAny (model prg w) A (execs br2.2 (lenv L)) Q E s := by
  rw [chain3]
  refine wpAny_execs_cons (wpAny_If (test3 z.r.ns z.hm fun s₁ b st => ?_))
  have z₁ := z.to0 kl.toKF st
  have h₁ := (h.later st).nil (w := w) (A := A) (E := E) (env := lenv L)
  cases b with
  | true => exact br_reset kl z₁.r z.hlen z.hp z₁.hT z.sp z.hk z.hd z.offL h₁
  | false => rw [if_neg Bool.false_ne_true]; exact lvl4 kl z₁ h₁
theorem lvl2 (kl : KL K) (z : Turn K A s L m x dx B Pa sz ps n tn T t u p k tk) (h : Done K s L x dx B Pa (ps.length + 2) Q) : wpAny (model prg w) A (execs br1.2 (lenv L)) Q E s := by
  rw [chain2]
  refine wpAny_execs_cons (wpAny_If (test2 z.r.ns z.hm fun s₁ b st => ?_))
  have z₁ := z.to0 kl.toKF st
  have h₁ := (h.later st).nil (w := w) (A := A) (E := E) (env := lenv L)
  cases b with
  | true => exact br_popf kl z₁.r z.hlen z.hk z.hd z.hu z.offL h₁
  | false => rw [if_neg Bool.false_ne_true]; exact lvl3 kl z₁ h₁
theorem lvl1 (kl : KL K) (z : Turn K A s L m x dx B Pa sz ps n tn T t u p k tk) (h : Done K s L x dx B Pa (ps.length + 2) Q) : wpAny (model prg w) A (execs br0.2 (lenv L)) Q E s := by
  rw [chain1]
  refine wpAny_execs_cons (wpAny_If (test1 z.r.ns z.hm fun s₁ b st => ?_))
  have z₁ := z.to0 kl.toKF st
  have h₁ := (h.later st).nil (w := w) (A := A) (E := E) (env := lenv L)
  cases b with
  | true => exact br_pop kl z₁.r z.hlen z.hh z.hd z.hu z.offL h₁
  | false => rw [if_neg Bool.false_ne_true]; exact lvl2 kl z₁ h₁
end

theorem turn_run (kl : KL K) (r : Row K s L m x dx B Pa sz ps) (hlen : ps.length ≤ 400) {n : Int} {tn : Tok} (hm : m "number" = some (.int n tn)) (hh : A.handled = none) (hd : A.depth + 60 < recursionLimit) (hu : A.units + 60 < cLine) (offL : Off K [L])
    {Q : Flow → Shared → Prop} (h : ∀ s' m' sz' ps', Step [L, x, dx, 56, 63] s s' → Row K s' L m' x dx B Pa sz' ps' → ps'.length ≤ ps.length + 2 → Q .next s') :
    wpAny (model prg w) A (execs forBody (lenv L)) Q E s := by
  have kf := kl.toKF
  refine head_run kl r hm offL fun s₀ m₀ T t u p k tk st₀ r₀ hm₀ hp hT sp hk5 hk => ?_
  have z : Turn K A s₀ L m₀ x dx B Pa sz ps n tn T t u p k tk := ⟨r₀, hlen, hm₀, hp, hT, sp, hk, hh, hd, hu, offL⟩
  rw [chain0]
  refine wpAny_execs_cons (wpAny_If (test0 r₀.ns hm₀ fun s₂ b q₂ => ?_))
  have z₂ := z.to0 kf q₂
  have done : Done K s₂ L x dx B Pa (ps.length + 2) (fun f s' => match f with | .next => wpAny (model prg w) A (execs (forBody.drop 3) (lenv L)) Q E s' | f => Q f s') := by
    intro s' m' sz' ps' st' r' hl
    refine tail_run kl r' hh hd hu offL fun s₃ m₃ st₃ r₃ => h s₃ m₃ sz' ps' ?_ r₃ hl
    exact ((st₀.mono (by simp)).trans (q₂.up.trans (st'.mono (by simp +contextual)))).trans (st₃.mono (by simp +contextual))
  cases b with
  | true => exact br_push kl z₂.r hlen hp z₂.hT sp hd offL done
  | false => rw [if_neg Bool.false_ne_true]; exact lvl1 kl z₂ done
end
end Mine
namespace Mine
open PySem PySem.W PySem.Calls PyProof.Rows

section
variable {K : Frag} {w : World} {A : Around} {E : Value → Shared → Prop} {s s' : Shared} {L : Addr} {m : Str → Option Value} {x dx B Pa : Addr} {sz tz : Int} {ps qs : List Pair}

theorem sum_ints {l : Addr} {items : Array Value} {ns : List Int} {Q : Value → Shared → Prop} (hh : A.handled = none) (hl : s.heap.IsList l items) (hi : IntsAre items.toList ns) (h : ∀ s' z t, Step [] s s' → Q (.int z t) s') :
    wpAny (model prg w) A (call (.builtin "sum") [.ref l]) Q E s := by
  have hlt : l < s.heap.objs.size := let ⟨_, e, _⟩ := hl; Heap.lt_size e
  refine call_sum_walkAnyS (wpAny_pyIter_list hl ?_)
  refine ⟨_, _, _, _, _, _, _, fun i => ns.getD i 0, rfl, (Walks.list (A := A.in1) hh s.heap.objs.size l (Nat.ne_of_lt hlt) items).toS, ⟨⟨_, Heap.get?_push_size _ rfl, rfl, rfl⟩, hl.push _⟩, ?_, ?_, fun s' t' hm => ?_⟩
  · intro b hb
    show b < (s.heap.push _).objs.size
    rw [Heap.size_push]
    rcases List.mem_cons.mp hb with rfl | hb
    · exact Nat.lt_succ_self _
    · rw [List.mem_singleton.mp hb]; exact Nat.lt_succ_of_lt hlt
  · intro i v hv
    have hv' : items.toList[i]? = some v := by simpa using hv
    have : ∀ {vs : List Value} {ns : List Int}, IntsAre vs ns → ∀ i v, vs[i]? = some v → ∃ t, v = Value.int (ns.getD i 0) t := by
      intro vs ns h
      induction h with
      | nil => intro i v e; simp at e
      | cons n t _ ih =>
        intro i v e
        cases i with
        | zero => simp at e; subst e; exact ⟨t, by simp⟩
        | succ i => simpa using ih i v (by simpa using e)
    exact this hi i v hv'
  · refine h s' _ t' ⟨fun b o _ e => hm.heap b o (by simpa using Nat.ne_of_lt (Heap.lt_size e)) (Heap.get?_push_of_some _ e), hm.os, fun z => ?_⟩
    have e : s'.gens = s.gens := hm.gens
    rw [e]; exact z

theorem softNs (ns : s.heap.Ns L m) : Soft [L] s.heap := by
  intro b hb o e
  rw [List.mem_singleton] at hb; subst hb
  obtain ⟨o', es, ep, ho, hd, _⟩ := ns
  rw [e] at ho; cases ho
  exact .inr ⟨es, ep, hd⟩
theorem intsTake : ∀ {vs : List Value} {ns : List Int}, IntsAre vs ns → ∀ k, IntsAre (vs.take k) (ns.take k)
  | _, _, .nil, k => by simp; exact .nil
  | _, _, .cons n t r, 0 => .nil
  | _, _, .cons n t r, k + 1 => .cons n t (intsTake r k)
theorem intsLen : ∀ {vs : List Value} {ns : List Int}, IntsAre vs ns → vs.length = ns.length
  | _, _, .nil => rfl
  | _, _, .cons n t r => by simp [intsLen r]

theorem Step.dropNone {b : Addr} {S : List Addr} (a : Step (b :: S) s s') (h : s.heap.get? b = none) : Step S s s' :=
  ⟨fun c o n e => a.keep c o (fun hm => by
    rcases List.mem_cons.mp hm with rfl | hm
    · rw [h] at e; cases e
    · exact n hm) e, a.os, a.bare⟩

def lawBody : List Stmt := lawParts.2.2.1

/-- what stands ahead of the loop -/
theorem law_head (kl : KL K) (X : K.In s.heap) (ns : s.heap.Ns L m) (offL : Off K [L]) {scr : Addr} {svs : List Value} {sns : List Int} (hm : m "script" = some (.ref scr)) (hs : s.heap.IsList scr svs.toArray) (hi : IntsAre svs sns) (hn : sns.length ≤ 100)
    (t56 : Tab s.heap 56) (t63 : Tab s.heap 63) (hh : A.handled = none) (hd : A.depth + 60 < recursionLimit) {Q : Flow → Shared → Prop}
    (h : ∀ s' m' x dx B Pa sz, Step [L] s s' → s.heap.get? x = none → s.heap.get? dx = none → m' "script" = some (.ref scr) → Row K s' L m' x dx B Pa sz [] → wpAny (model prg w) A (execs (lawBody.drop 5) (lenv L)) Q E s') :
    wpAny (model prg w) A (execs lawBody (lenv L)) Q E s := by
  have kf := kl.toKF
  refine wpAny_execs_cons (wpAny_Assign_Name (eList (wpAny_items_cons (eStr fun t₁ s₁ st₁ => wpAny_items_cons (eStr fun t₂ s₂ st₂ => wpAny_items_cons (eStr fun t₃ s₃ st₃ => wpAny_items_cons (eStr fun t₄ s₄ st₄ => wpAny_items_nil ⟨by simp, fun s₅ B st₅ hB => ?_⟩)))))))
  have q₅ : Step [] s s₅ := st₁.trans (st₂.trans (st₃.trans (st₄.trans st₅)))
  have bm₅ : isMenu s₅.heap B blankMenu := ⟨_, ⟨_, hB, rfl, 0, rfl⟩, .cons _ _ (.cons _ _ (.cons _ _ (.cons _ _ .nil)))⟩
  have ns₅ := nsKeep ns q₅.keep (by simp)
  refine stL ns₅ fun s₆ st₆ ns₆ => ?_
  have q₆ : Step [L] s s₆ := q₅.up.trans st₆
  have bm₆ := soft_menu bm₅ st₆.keep (softNs ns₅)
  refine wpAny_execs_cons (wpAny_Assign_Name (eList (wpAny_items_cons (eStr fun t₁ s₁ st₁ => wpAny_items_cons (eStr fun t₂ s₂ st₂ => wpAny_items_cons (eStr fun t₃ s₃ st₃ => wpAny_items_cons (eStr fun t₄ s₄ st₄ => wpAny_items_cons (eStr fun t₅ s₅ st₅ =>
    wpAny_items_nil ⟨by simp, fun s₇ Pa st₇ hPa => ?_⟩))))))))
  have q₇ : Step [] s₆ s₇ := st₁.trans (st₂.trans (st₃.trans (st₄.trans (st₅.trans st₇))))
  have pm₇ : isMenu s₇.heap Pa partMenu := ⟨_, ⟨_, hPa, rfl, 0, rfl⟩, .cons _ _ (.cons _ _ (.cons _ _ (.cons _ _ (.cons _ _ .nil))))⟩
  have bm₇ := soft_menu bm₆ q₇.keep so0
  have ns₇ := nsKeep ns₆ q₇.keep (by simp)
  refine stL ns₇ fun s₈ st₈ ns₈ => ?_
  have q₈ : Step [L] s s₈ := q₆.trans (q₇.up.trans st₈)
  have pm₈ := soft_menu pm₇ st₈.keep (softNs ns₇)
  have bm₈ := soft_menu bm₇ st₈.keep (softNs ns₇)
  have so := softNs ns
  have X₈ := offL.keep X q₈.keep
  have hs₈ := soft_list hs q₈.keep so
  have hlen := intsLen hi
  refine wpAny_execs_cons (wpAny_Assign_Name (wpAny_BinOp (Call_Name rfl (ldB X₈ kf.g_sum kf.b_sum (cw_biE rfl (wpAny_items_cons (subSlice (ldL (v := .ref scr) ns₈ ?_ (eSlice (wpAny_pure ?_))))))))))
  · rw [if_neg (by decide), if_neg (by decide)]; exact hm
  rw [evalPart_some]
  refine eInt fun t₉ s₉ st₉ s₁₀ sl st₁₀ hsl => ?_
  have q₁₀ := st₉.trans st₁₀
  have hs₁₀ := soft_list hs₈ q₁₀.keep so0
  refine ⟨inPython_list hs₁₀, wpAny_getItem_list_slice hs₁₀ hsl .none (.int _ _) .none (by simp) ?_ (by rw [sizeLine_eq]; simp; omega)⟩
  rw [show (some (1 : Int)) = some ((1 : Nat) : Int) from rfl, pick_upto]
  have st₁₁ : Step [] s₁₀ { s₁₀ with heap := s₁₀.heap.push { cls := .type "list", data := .seq (svs.toArray.toList.take 1).toArray } } := ⟨.push _, rfl, id⟩
  refine wpAny_items_nil (sum_ints hh ⟨_, Heap.get?_push_size _ rfl, rfl, 0, rfl⟩ (intsTake (by simpa using hi) 1) fun s₁₂ z t₁₂ st₁₂ => eInt fun t₁₃ s₁₃ st₁₃ => mod_int (by decide) ?_)
  have q₁₃ : Step [] s₈ { s₁₃ with toks := s₁₃.toks + 1 } := (q₁₀.trans st₁₁).trans (st₁₂.trans (st₁₃.trans .toks))
  have ns₁₃ := nsKeep ns₈ q₁₃.keep (by simp)
  refine stL ns₁₃ fun s₁₄ st₁₄ ns₁₄ => ?_
  have q₁₄ : Step [L] s s₁₄ := q₈.trans (q₁₃.up.trans st₁₄)
  have X₁₄ := offL.keep X q₁₄.keep
  have bm₁₄ := soft_menu (soft_menu bm₈ q₁₃.keep so0) st₁₄.keep (softNs ns₁₃)
  have pm₁₄ := soft_menu (soft_menu pm₈ q₁₃.keep so0) st₁₄.keep (softNs ns₁₃)
  refine wpAny_execs_cons (wpAny_Assign_Name (Call_Name rfl (ldG X₁₄ kf.g_acc (callWith_K X₁₄ kl.keep94 (wpAny_items_cons (ldL (v := .int (z.fmod 7) s₁₃.toks) ns₁₄ (if_pos rfl) (wpAny_items_nil ⟨X₁₄, wpAny_call (make_acc kf X₁₄ (by omega) fun s₁₅ x dx st₁₅ hx hdx ac => ?_)⟩)))))))
  have ns₁₅ := nsKeep ns₁₄ st₁₅.keep (by simp)
  have hL14 := ns₁₄.lt
  have hdL : dx ≠ L := fun e => Nat.lt_irrefl _ (Nat.lt_of_lt_of_le hL14 (e ▸ hdx))
  have hxL : x ≠ L := fun e => Nat.lt_irrefl _ (Nat.lt_of_lt_of_le hL14 (e ▸ hx))
  have fresh : ∀ y, y ≠ L → s₁₄.heap.objs.size ≤ y → s.heap.get? y = none := fun y hy hle => by
    cases e : s.heap.get? y with
    | none => rfl
    | some o => exact absurd (Heap.lt_size (q₁₄.keep y o (by simpa using hy) e)) (Nat.not_lt.mpr hle)
  refine stL ns₁₅ fun s₁₆ st₁₆ ns₁₆ => ?_
  have ac₁₆ := ac.keep st₁₆.keep (by simpa using hxL) (by simpa using hdL)
  refine wpAny_execs_cons (wpAny_Assign_Name (eList (wpAny_items_nil ⟨by simp, fun s₁₇ R st₁₇ hR => ?_⟩)))
  have ns₁₇ := nsKeep ns₁₆ st₁₇.keep (by simp)
  refine stL ns₁₇ fun s₁₈ st₁₈ ns₁₈ => ?_
  have q₁₈' : Step [L] s₁₄ s₁₈ := (st₁₅.up.trans st₁₆).trans (st₁₇.up.trans st₁₈)
  have q₁₈ : Step [L] s s₁₈ := q₁₄.trans q₁₈'
  have so14 := softNs ns₁₄
  have c0 : 0 ≤ z.fmod 7 := Int.fmod_nonneg_of_pos _ (by decide)
  have c7 : z.fmod 7 < 7 := Int.fmod_lt_of_pos _ (by decide)
  refine h s₁₈ _ x dx B Pa (z.fmod 7) q₁₈ (fresh x hxL hx) (fresh dx hdL hdx) ?_ ⟨offL.keep X q₁₈.keep, ns₁₈, ?_, ⟨R, [], if_pos rfl, soft_list ⟨_, hR, rfl, 0, rfl⟩ st₁₈.keep (softNs ns₁₇), .nil⟩, ⟨s₁₃.toks, ?_⟩, ⟨[], (ac₁₆.stays st₁₇.keep).keep st₁₈.keep (by simpa using hxL) (by simpa using hdL), .nil⟩,
    (by intro q hq; cases hq), (by simp), c0, by omega, soft_tab t56 q₁₈.keep so, soft_tab t63 q₁₈.keep so, Off.cons X₁₄ hx (Off.cons X₁₄ hdx (by intro _ h; cases h)), ?_, ?_, soft_menu bm₁₄ q₁₈'.keep so14, soft_menu pm₁₄ q₁₈'.keep so14, hdL⟩
  · rw [if_neg (by decide), if_neg (by decide), if_neg (by decide), if_neg (by decide), if_neg (by decide)]; exact hm
  · rw [if_neg (by decide), if_pos rfl]
  · rw [if_neg (by decide), if_neg (by decide), if_pos rfl]
  · rw [if_neg (by decide), if_neg (by decide), if_neg (by decide), if_neg (by decide), if_pos rfl]
  · rw [if_neg (by decide), if_neg (by decide), if_neg (by decide), if_pos rfl]

/-- the loop's iterator moves on -/
theorem Row.it {I l : Addr} {i : Nat} (r : Row K s L m x dx B Pa sz ps) (hI : s.heap.IsListIter I l i) (offI : Off K [I]) (st : Step [I] s s') : Row K s' L m x dx B Pa sz ps := by
  obtain ⟨oI, hoI, hcI, hdI⟩ := hI
  have off : ∀ b o, s.heap.get? b = some o → o.cls ≠ .type "list_iterator" → b ∉ [I] := fun b o e hc hm => by
    rw [List.mem_singleton] at hm; subst hm
    rw [e] at hoI; cases hoI; exact hc hcI
  have lst : ∀ {a its}, s.heap.IsList a its → s'.heap.IsList a its := fun {a its} h => by
    obtain ⟨o, ho, hc, q⟩ := h
    exact ⟨o, st.keep _ _ (off _ _ ho (by rw [hc]; simp)) ho, hc, q⟩
  have prs : ∀ {vs ps}, ArePairs s.heap vs ps → ArePairs s'.heap vs ps := fun {vs ps} h => by
    induction h with
    | nil => exact .nil
    | cons a _ ih =>
      obtain ⟨T, t, u, rfl, o, ho, hc, q⟩ := a
      exact .cons ⟨T, t, u, rfl, o, st.keep _ _ (off _ _ ho (by rw [hc]; simp)) ho, hc, q⟩ ih
  have tb : ∀ {P}, Tab s.heap P → Tab s'.heap P := fun {P} h => by
    obtain ⟨q, hp, ok⟩ := h
    exact ⟨q, st.keep _ _ (off _ _ hp (by simp)) hp, ok⟩
  obtain ⟨R, rvs, h1, h2, h3⟩ := r.row
  obtain ⟨vs, a, ar⟩ := r.acc
  obtain ⟨bs, hb, hbs⟩ := r.bl
  obtain ⟨cs, hcl, hcs⟩ := r.pl
  refine ⟨offI.keep r.X st.keep, nsKeep r.ns st.keep ?_, r.line, ⟨R, rvs, h1, lst h2, prs h3⟩, r.size, ⟨vs, a.keep st.keep ?_ ?_, prs ar⟩, r.sm, r.len, r.s0, r.s6, tb r.t56, tb r.t63, r.off, r.blanks, r.parts, ⟨bs, lst hb, hbs⟩, ⟨cs, lst hcl, hcs⟩, r.dL⟩
  · obtain ⟨o, es, ep, ho, hd, _⟩ := r.ns
    intro hm
    rw [List.mem_singleton] at hm; subst hm
    rw [ho] at hoI; cases hoI
    rw [hd] at hdI; cases hdI
  · obtain ⟨n, e⟩ := a.x; exact off _ _ e (by simp)
  · obtain ⟨_, _, _, n, e⟩ := a.d; exact off _ _ e (by simp)

theorem intsAt : ∀ {vs : List Value} {ns : List Int}, IntsAre vs ns → ∀ (i : Nat) (v : Value), vs[i]? = some v → ∃ n t, v = Value.int n t
  | _, _, .nil, i, v, e => by simp at e
  | _, _, .cons n t r, 0, v, e => by simp at e; exact ⟨n, t, e.symm⟩
  | _, _, .cons n t r, i + 1, v, e => intsAt r i v (by simpa using e)

/-- the loop -/
theorem law_loop (kl : KL K) (r : Row K s L m x dx B Pa sz []) (offL : Off K [L]) {scr : Addr} {svs : List Value} {sns : List Int} (hm : m "script" = some (.ref scr)) (hs : s.heap.IsList scr svs.toArray) (hi : IntsAre svs sns) (hn : sns.length ≤ 100)
    (hh : A.handled = none) (hd : A.depth + 60 < recursionLimit) (hu : A.units + 60 < cLine) {Q : Flow → Shared → Prop}
    (h : ∀ s', Step [L, x, dx, 56, 63] s s' → Tab s'.heap 56 → Tab s'.heap 63 → Q (.ret (.bool true)) s') : wpAny (model prg w) A (execs (lawBody.drop 5) (lenv L)) Q E s := by
  have kf := kl.toKF
  have hlen := intsLen hi
  refine wpAny_execs_cons (wpAny_For (ldL r.ns hm (wpAny_pyIter_list hs ?_)))
  have st₁ : Step [] s { s with heap := s.heap.push { cls := .type "list_iterator", data := .fields #[.ref scr, .int 0 0] } } := ⟨.push _, rfl, id⟩
  have r₁ := r.to0 kf st₁
  have hslt : scr < s.heap.objs.size := let ⟨_, e, _⟩ := hs; Heap.lt_size e
  obtain ⟨vs0, ac0, _⟩ := r.acc
  have hx := ac0.lt
  have h56 : 56 < s.heap.objs.size := let ⟨_, e, _⟩ := r.t56; Heap.lt_size e
  have h63 : 63 < s.heap.objs.size := let ⟨_, e, _⟩ := r.t63; Heap.lt_size e
  have hLlt := r.ns.lt
  have offI : Off K [s.heap.objs.size] := Off.cons r.X (Nat.le_refl _) (by intro _ h; cases h)
  have hIn : s.heap.objs.size ∉ [L, x, dx, 56, 63] := by
    simp only [List.mem_cons, List.not_mem_nil, or_false, not_or]
    exact ⟨(Nat.ne_of_lt hLlt).symm, (Nat.ne_of_lt hx.1).symm, (Nat.ne_of_lt hx.2).symm, (Nat.ne_of_lt h56).symm, (Nat.ne_of_lt h63).symm⟩
  have hsn : scr ∉ [L, x, dx, 56, 63] := by
    obtain ⟨o, ho, hc, n, hdt⟩ := id hs
    intro hmm
    rcases List.mem_cons.mp hmm with e | hmm
    · subst e
      rcases r.two.softL scr (by simp) o ho with e | ⟨_, _, e⟩
      · rw [hc] at e; cases e
      · rw [hdt] at e; cases e
    · rcases List.mem_cons.mp hmm with e | hmm
      · subst e
        rcases r.two.softA scr (by simp) o ho with e | ⟨_, _, e⟩
        · rw [hc] at e; cases e
        · rw [hdt] at e; cases e
      · rcases List.mem_cons.mp hmm with e | hmm
        · subst e
          rcases r.two.softA scr (by simp) o ho with e | ⟨_, _, e⟩
          · rw [hc] at e; cases e
          · rw [hdt] at e; cases e
        · exact off_two r.t56 r.t63 ho (by rw [hc]; simp) hmm
  refine codeAny_forLoop (fun n s' => ∃ i m' sz' ps', n = svs.length - i ∧ i ≤ svs.length ∧ Row K s' L m' x dx B Pa sz' ps' ∧ ps'.length ≤ 2 * i ∧ s'.heap.IsListIter s.heap.objs.size scr i ∧ s'.heap.IsList scr svs.toArray ∧
    Step [s.heap.objs.size, L, x, dx, 56, 63] s s') ?_ svs.length ⟨0, m, sz, [], rfl, Nat.zero_le _, r₁, by simp, ⟨_, Heap.get?_push_size _ rfl, rfl, rfl⟩, hs.push _, st₁.up⟩
  rintro n s' ⟨i, m', sz', ps', rfl, hil, r', hl', hit, hl, st⟩
  by_cases hlt : i < svs.length
  · have hv : svs.toArray[i]? = some svs[i] := by simp [hlt]
    obtain ⟨nn, tn, hnn⟩ := intsAt hi i svs[i] (List.getElem?_eq_getElem hlt)
    refine wpAny_pyNext_list_item hit hl hv fun h' hit' hsb => ?_
    dsimp only
    have stI : Step [s.heap.objs.size] s' { s' with heap := h' } := ⟨.same hsb (by simp), rfl, id⟩
    have r₂ := r'.it hit offI stI
    refine wpAny_assign_Name (stL r₂.ns fun s₃ st₃ ns₃ => ?_)
    have r₃ := r₂.store st₃ ns₃ offL (by decide)
    rw [hnn] at r₃
    refine turn_run kl r₃ (by omega) (if_pos rfl) hh hd hu offL fun s₄ m₄ sz₄ ps₄ st₄ r₄ hl₄ => ?_
    refine ⟨svs.length - (i + 1), by omega, i + 1, m₄, sz₄, ps₄, rfl, hlt, r₄, by omega, ?_, ?_, ?_⟩
    · have hIL : s.heap.objs.size ∉ [L] := fun hm => hIn (by simp at hm ⊢; exact .inl hm)
      exact hit'.at fun o e => st₄.keep _ o hIn (st₃.keep _ o hIL e)
    · have hsL : scr ∉ [L] := fun hm => hsn (by simp at hm ⊢; exact .inl hm)
      obtain ⟨o, ho, q⟩ := hl
      exact ⟨o, st₄.keep _ _ hsn (st₃.keep _ _ hsL (stI.keep _ _ (by simpa using Nat.ne_of_lt hslt) ho)), q⟩
    · exact (st.trans (stI.mono (by simp))).trans ((st₃.mono (by simp)).trans (st₄.mono (by simp +contextual)))
  · have e : i = svs.length := by omega
    refine wpAny_pyNext_list_end hh hit hl (by simp [e]) fun h' hx' => ?_
    have stI : Step [s.heap.objs.size] s' { s' with heap := h' } := ⟨.ext hx' (by simp), rfl, id⟩
    refine wpAny_execs_nil (wpAny_execs_cons (wpAny_Return_some (wpAny_Constant_bool ?_)))
    have r'' := r'.it hit offI stI
    exact h _ ((st.trans (stI.mono (by simp))).drop (Nat.le_refl _)) r''.t56 r''.t63
end
end Mine
namespace Mine
open PySem PySem.W PySem.Calls PyProof.Rows

section
variable {K : Frag} {w : World} {A : Around} {E : Value → Shared → Prop} {s s' : Shared}

theorem bind_law (s : Shared) (a : Value) : BindsTo s fdLaw ⟨[a], []⟩ [("script", a)] := BindsTo.of_eq rfl

theorem law_code {scr : Addr} {svs : List Value} {sns : List Int} {R : Result → Shared → Prop} (kl : KL K) (X : K.In s.heap) (hs : s.heap.IsList scr svs.toArray) (hi : IntsAre svs sns) (hn : sns.length ≤ 100)
    (t56 : Tab s.heap 56) (t63 : Tab s.heap 63) (hh : A.handled = none) (hd : A.depth + 100 < recursionLimit) (hu : A.units + 100 < cLine)
    (h : ∀ s', Step [56, 63] s s' → Tab s'.heap 56 → Tab s'.heap 63 → R (.ok (.ret (.bool true))) s') :
    codeAny (model prg w) A (.call (.ref 103) ⟨[.ref scr], []⟩) R s := by
  refine code_meth kl.toKF X kl.oLaw kl.cLaw rfl ?_ (bind_law s _) (by decide) (locs rfl) (fun s₀ L hL st ns E' => ?_)
  · omega
  have X₀ := X.keeps st.keep.nil
  have offL : Off K [L] := Off.cons X (Nat.le_of_eq hL.symm) (by intro _ h; cases h)
  refine law_head (A := A.deeper (callEnv fdLaw L 103)) kl X₀ ns offL rfl (soft_list hs st.keep so0) hi hn (t56.keep st.keep (by simp)) (t63.keep st.keep (by simp)) hh ?_ fun s₁ m₁ x dx B Pa sz st₁ hx hdx hm₁ r₁ => ?_
  · show A.depth + 1 + 60 < _
    omega
  have hs₁ := soft_list (soft_list hs st.keep so0) st₁.keep (softNs ns)
  refine law_loop (A := A.deeper (callEnv fdLaw L 103)) kl r₁ offL hm₁ hs₁ hi hn hh ?_ ?_ fun s₂ st₂ u56 u63 => ?_
  · show A.depth + 1 + 60 < _
    omega
  · show A.units + 3 + 60 < _
    omega
  have nL : s.heap.get? L = none := by
    cases e : s.heap.get? L with
    | none => rfl
    | some o => exact absurd (Heap.lt_size e) (Nat.not_lt.mpr (Nat.le_of_eq hL.symm))
  have back : ∀ y, s₀.heap.get? y = none → s.heap.get? y = none := fun y hy => by
    cases e : s.heap.get? y with
    | none => rfl
    | some o => rw [st.keep.nil _ _ e] at hy; cases hy
  have q : Step [L, x, dx, 56, 63] s s₂ := st.up.trans ((st₁.mono (by simp)).trans st₂)
  exact h s₂ (((q.dropNone nL).dropNone (back x hx)).dropNone (back dx hdx)) u56 u63
end
end Mine
namespace Mine
open PySem PySem.W PySem.Calls PyProof.Rows

/-- the top's written part but the two code tables that grow -/
def off2 (K : Frag) : Frag := K.filter fun p => p.1 != 56 && p.1 != 63
theorem off2_lookup : ∀ {K : Frag} {a : Addr} {o : Obj}, (off2 K).lookup a = some o → K.lookup a = some o ∧ a ≠ 56 ∧ a ≠ 63
  | [], a, o, h => by cases h
  | (b, y) :: r, a, o, h => by
    unfold off2 at h
    rw [List.filter_cons] at h
    by_cases hb : (b != 56 && b != 63) = true
    · rw [if_pos hb] at h
      simp only [Bool.and_eq_true, bne_iff_ne, ne_eq] at hb
      by_cases e : a = b
      · subst e
        rw [List.lookup_cons_self] at h ⊢
        exact ⟨h, hb.1, hb.2⟩
      · rw [List.lookup_cons, (by simpa using e : (a == b) = false)] at h ⊢
        exact off2_lookup h
    · rw [if_neg hb] at h
      obtain ⟨h1, h2, h3⟩ := off2_lookup (K := r) h
      have hb' : b = 56 ∨ b = 63 := by
        by_cases q : b = 56
        · exact .inl q
        · by_cases q2 : b = 63
          · exact .inr q2
          · exact absurd (by simp [q, q2]) hb
      have e : (a == b) = false := by
        rw [beq_eq_false_iff_ne]
        rintro rfl
        rcases hb' with q | q
        · exact h2 q
        · exact h3 q
      rw [List.lookup_cons, e]
      exact ⟨h1, h2, h3⟩

theorem table_of {K : Frag} {h : Heap} {c P : Addr} (X : K.In h) (e : codeTab K c P = true) : isCodeTable h P := by
  unfold codeTab at e
  split at e
  · rename_i cl di vs sl q
    simp only [Bool.and_eq_true, beq_iff_eq] at e
    obtain ⟨⟨⟨⟨⟨e1, e2⟩, _⟩, _⟩, _⟩, _⟩ := e
    subst e1
    exact ⟨c, _, vs, X _ _ q, rfl, rfl, e2⟩
  · cases e

theorem finish {K : Frag} {w : World} {s₁ : Shared} {scr : Addr} {svs : List Value} {sns : List Int} {G : Result → Shared → Prop} (KX : K.In s₁.heap) (kl : KL (off2 K)) (l56 : K.lookup 56 = some { cls := .none, data := .fields #[] }) (l63 : K.lookup 63 = some { cls := .none, data := .fields #[] })
    (hs : s₁.heap.IsList scr svs.toArray) (hi : IntsAre svs sns) (hn : ¬ ((63 : Nat) : Int) < ((sns.length : Nat) : Int)) (hg : s₁.gens = #[])
    (h : ∀ s', OldK s₁.heap s'.heap → s'.os = s₁.os → AllBare s'.gens → G (.ok (.ret (.bool true))) s') :
    wpAny (model prg w) callerA (call (.ref 103) [.ref scr]) (fun v s' => G (.ok (.ret v)) s') (fun e s' => G (.error e) s') s₁ := by
  have X : (off2 K).In s₁.heap := fun a o e => KX a o (off2_lookup e).1
  have t56 : Tab s₁.heap 56 := ⟨#[], KX _ _ l56, trivial⟩
  have t63 : Tab s₁.heap 63 := ⟨#[], KX _ _ l63, trivial⟩
  refine wpAny_call (law_code kl X hs hi (by omega) t56 t63 rfl (by decide) (by decide) fun s' st u56 u63 => ?_)
  refine h s' ⟨fun b o e => ?_, fun b o e => ?_⟩ st.os (st.bare (.of_eq hg))
  · by_cases h1 : b = 56
    · subst h1
      obtain ⟨ps, hp, _⟩ := u56
      have : o = { cls := .none, data := .fields #[] } := by have := KX _ _ l56; rw [e] at this; cases this; rfl
      subst this
      exact .inr (.inl ⟨table_of X kl.tab60, rfl, #[], ps, rfl, by simpa using hp⟩)
    · by_cases h2 : b = 63
      · subst h2
        obtain ⟨ps, hp, _⟩ := u63
        have : o = { cls := .none, data := .fields #[] } := by have := KX _ _ l63; rw [e] at this; cases this; rfl
        subst this
        exact .inr (.inl ⟨table_of X kl.tab67, rfl, #[], ps, rfl, by simpa using hp⟩)
      · exact .inl (st.keep b o (by simp [h1, h2]) e)
  · by_cases h1 : b = 56
    · subst h1; obtain ⟨ps, hp, _⟩ := u56; exact ⟨_, hp⟩
    · by_cases h2 : b = 63
      · subst h2; obtain ⟨ps, hp, _⟩ := u63; exact ⟨_, hp⟩
      · exact ⟨o, st.keep b o (by simp [h1, h2]) e⟩
end Mine
open PySem PySem.W PyProof.Rows
set_option maxRecDepth 100000 in
set_option maxHeartbeats 8000000 in
theorem PySem.Challenge.cw_wy0001_01_holds : PySem.Challenge.rw_wy0001_01.Holds := by
  w_on
  o_law
  x_head
  (case hw => w_witness2)
  k_fill
  intro w s₀ s₁ mg mb G Y fa o pm cd doc dV kV ho hd hcd hD hmg hg args vals as hpre hlay hrd hwl hlo
  have KX := kIn_of Y
  have X := (Ground.X G).1
  have V := (Ground.X G).2
  refine Ground.open G ?_
  intro T B D TE TW
  wrow_args hpre hlay hrd hwl hlo
  x_fa T KX hmg
  (try all_lens)
  refine Mine.finish (G := fun r s' => GoodWG _ _ _ _ s₁ r s') KX ?kl ?_ ?_ (by assumption) (by assumption) (by assumption) hg ?_
  case kl =>
    exact { 
      cls := by kernel_rfl
      lim := by kernel_rfl
      f_ga := by kernel_rfl
      f_gattr := by kernel_rfl
      f_sattr := by kernel_rfl
      f_append := by kernel_rfl
      f_iter := by kernel_rfl
      f_getitem := by kernel_rfl
      f_setitem := by kernel_rfl
      f_bool := by kernel_rfl
      f_isz := by kernel_rfl
      f_init := by kernel_rfl
      f_push := by kernel_rfl
      f_popf := by kernel_rfl
      f_pop := by kernel_rfl
      f_len := by kernel_rfl
      f_str := by kernel_rfl
      f_reset := by kernel_rfl
      f_ows := by kernel_rfl
      f_pc := by kernel_rfl
      oInit := by kernel_rfl
      cInit := by kernel_rfl
      oPush := by kernel_rfl
      cPush := by kernel_rfl
      oPopF := by kernel_rfl
      cPopF := by kernel_rfl
      oPop := by kernel_rfl
      cPop := by kernel_rfl
      oLen := by kernel_rfl
      cLen := by kernel_rfl
      oStr := by kernel_rfl
      cStr := by kernel_rfl
      oReset := by kernel_rfl
      cReset := by kernel_rfl
      oOws := by kernel_rfl
      cOws := by kernel_rfl
      oPc := by kernel_rfl
      cPc := by kernel_rfl
      noseq := by kernel_rfl
      d23 := by kernel_rfl
      d39 := by kernel_rfl
      d69 := by kernel_rfl
      cell18 := by kernel_rfl
      file30 := by kernel_rfl
      file53 := by kernel_rfl
      file90 := by kernel_rfl
      g_super := by kernel_rfl
      g_sum := by kernel_rfl
      g_len := by kernel_rfl
      g_str := by kernel_rfl
      g_list := by kernel_rfl
      g_max := by kernel_rfl
      b_super := by kernel_rfl
      b_sum := by kernel_rfl
      b_len := by kernel_rfl
      b_str := by kernel_rfl
      b_list := by kernel_rfl
      b_max := by kernel_rfl
      g_empty := by kernel_rfl
      g_acc := by kernel_rfl
      g_bi := by kernel_rfl
      mod4 := by kernel_rfl
      tab60 := by kernel_rfl
      tab67 := by kernel_rfl
      off56 := by kernel_rfl
      off63 := by kernel_rfl
      t_init := by kernel_rfl
      t_push := by kernel_rfl
      t_popf := by kernel_rfl
      t_pop := by kernel_rfl
      t_len := by kernel_rfl
      t_str := by kernel_rfl
      t_reset := by kernel_rfl
      t_ows := by kernel_rfl
      t_pc := by kernel_rfl
      oLaw := by kernel_rfl
      cLaw := by kernel_rfl
      keep94 := by kernel_rfl
    }
  · kernel_rfl
  · kernel_rfl
  · intro s' hO hos hb
    exact ⟨.inl ⟨_, _, [], rfl, fun _ => rfl, ReadsW.bool true, by first | rfl | wrow_post, fun _ => ⟨List.nodup_nil, fun _ hm => (nomatch hm)⟩⟩, hO, hos, hb⟩
