import PyProof.Rows.All
import Wide.All
import OpenK.AllK
import Wide.FinOn
import PySem.Challenge.RW_qj0001_01
open PySem PySem.W PyProof.Rows
set_option Elab.async false
set_option maxRecDepth 100000
namespace Mine
section
/-! ## The objects that the top leaves and the call reads; the syntax by projection from the row's own program -/
abbrev PW : Program := PySem.Challenge.pw_qj0001_01
def noStm : Stmt := .Pass ⟨0, 0, 0, 0⟩
def stm (i : Nat) : Stmt := PW.main.body.getD i noStm
def inCls (st : Stmt) (j : Nat) : Stmt := match st with
  | .ClassDef _ _ _ b _ _ _ _ _ _ _ => b.getD j noStm
  | _ => noStm
def meth (i j : Nat) : Stmt := inCls (stm i) j
def parO (st : Stmt) : Arguments := match st with
  | .FunctionDef _ a _ _ _ _ _ _ _ _ => a
  | _ => { posonlyargs := [], args := [], vararg := none, kwonlyargs := [], kw_defaults := [], kwarg := none, defaults := [] }
def bodO (st : Stmt) : List Stmt := match st with
  | .FunctionDef _ _ b _ _ _ _ _ _ _ => b
  | _ => []
def scoO (st : Stmt) : Scope := match st with
  | .FunctionDef _ _ _ _ _ _ s _ _ _ => s
  | _ => { kind := .module, names := [], isGenerator := false, isCoroutine := false, more := [] }
def fnD (st : Stmt) (name qual pm : Str) (tk : Tok) (dV : Value) (c : Addr) : FuncData :=
  { name := name, qualname := qual, params := parO st, body := .stmts (bodO st), scope := scoO st, globals := 3, closure := [], defaults := dV, kwdefaults := .none, pyModule := .str pm tk, code := .ref c }
def fnO (fd : FuncData) : Obj := { cls := .type "function", data := .func fd }
/-- the written numbers of a compiled pattern's call -/
def patI (i : Nat) : List Value := match stm i with
  | .Assign _ (.Call _ (_ :: _ :: .List es _ :: _) _ _) _ => es.map fun e => match e with | .Constant (.int k) _ _ => .int k 0 | _ => .none
  | _ => []
def patS (i : Nat) : Str := match stm i with
  | .Assign _ (.Call _ (.Constant (.str x) _ _ :: _) _ _) _ => x
  | _ => Str.empty
def ent (P : Params) (n : Str) (t : Tok) (v : Value) : DictEntry := ⟨PySem.PyData.keyHash P n, .str n t, v⟩
def clsD (n : Str) (b C : Addr) : ClassData := { name := n, bases := [.type "object"], mro := [.ref C, .type "object"], ns := b, qualname := n }
def clsO (n : Str) (b C : Addr) (t1 t2 : Tok) : Obj :=
  { cls := .type "type", data := .cls (clsD n b C), slots := #[none, none, some (.str n t1), some (.str n t2), some (.builtin "object.__new__"), some (.bool true)] }
def patO (x : Str) (t1 t2 : Tok) (c : Addr) : Obj := { cls := .type "re.Pattern", data := .fields #[.str x t1, .int 32 t2, .int 0 0, .none, .none, .ref c, .int 0 0] }
def fd52 : FuncData := fnD (meth 3 0) "__init__" "TupleComp.__init__" "cpy313.pstats" 289 (.none) 51
def fd59 : FuncData := fnD (meth 3 1) "compare" "TupleComp.compare" "cpy313.pstats" 289 (.none) 58
def fd73 : FuncData := fnD (stm 5) "replace" "replace" "cpy313.pydoc" 333 (.none) 72
def fd111 : FuncData := fnD (meth 11 0) "__init__" "Headers.__init__" "cpy313.wsgiref.headers" 343 (.ref 104) 110
def fd118 : FuncData := fnD (meth 11 1) "_convert_string_type" "Headers._convert_string_type" "cpy313.wsgiref.headers" 343 (.none) 117
def fd156 : FuncData := fnD (meth 11 7) "get_all" "Headers.get_all" "cpy313.wsgiref.headers" 343 (.none) 155
def fd214 : FuncData := fnD (meth 11 16) "add_header" "Headers.add_header" "cpy313.wsgiref.headers" 343 (.none) 213
def fd226 : FuncData := fnD (stm 13) "_law_cut" "_law_cut" "law_qj0001_01" 606 (.none) 225
def fd231 : FuncData := fnD (stm 14) "_law_rule" "_law_rule" "law_qj0001_01" 606 (.none) 230
def fd236 : FuncData := fnD (stm 15) "_law_chase" "_law_chase" "law_qj0001_01" 606 (.none) 235
def fd241 : FuncData := fnD (stm 16) "_law_agree" "_law_agree" "law_qj0001_01" 606 (.none) 240
def fd246 : FuncData := fnD (stm 17) "_law_join" "_law_join" "law_qj0001_01" 606 (.none) 245
def fd251 : FuncData := fnD (stm 18) "_law_fit" "_law_fit" "law_qj0001_01" 606 (.none) 250
def tcNs (P : Params) : Obj := { cls := .type "dict", data := .dict #[ent P "__module__" 298 (.str "cpy313.pstats" 289), ent P "__firstlineno__" 302 (.int 6 301), ent P "__init__" 310 (.ref 52), ent P "compare" 323 (.ref 59), ent P "__static_attributes__" 325 (.ref 60), ent P "__dict__" 327 (.ref 63), ent P "__weakref__" 329 (.ref 64), ent P "__doc__" 330 (.none)] 4 }
def hdNs (P : Params) : Obj := { cls := .type "dict", data := .dict #[ent P "__module__" 456 (.str "cpy313.wsgiref.headers" 343), ent P "__firstlineno__" 460 (.int 39 459), ent P "__init__" 470 (.ref 111), ent P "_convert_string_type" 480 (.ref 118), ent P "__len__" 487 (.ref 125), ent P "__setitem__" 496 (.ref 132), ent P "__delitem__" 502 (.ref 137), ent P "__getitem__" 510 (.ref 144), ent P "__contains__" 518 (.ref 151), ent P "get_all" 524 (.ref 156), ent P "get" 535 (.ref 164), ent P "keys" 541 (.ref 169), ent P "values" 547 (.ref 174), ent P "items" 554 (.ref 181), ent P "__repr__" 561 (.ref 188), ent P "__str__" 567 (.ref 193), ent P "__bytes__" 574 (.ref 200), ent P "setdefault" 583 (.ref 207), ent P "add_header" 596 (.ref 214), ent P "__static_attributes__" 598 (.ref 215), ent P "__dict__" 600 (.ref 218), ent P "__weakref__" 602 (.ref 219), ent P "__doc__" 603 (.none)] 4 }
def KK (P : Params) : Frag := [
  (52, fnO fd52),
  (59, fnO fd59),
  (61, tcNs P),
  (62, clsO "TupleComp" 61 62 291 299),
  (73, fnO fd73),
  (82, { cls := .type "tuple", data := .seq (patI 8).toArray }),
  (83, patO (patS 8) 380 403 82),
  (87, { cls := .type "tuple", data := .seq (patI 9).toArray }),
  (88, patO (patS 9) 406 437 87),
  (104, { cls := .type "tuple", data := .seq #[.none] }),
  (111, fnO fd111),
  (118, fnO fd118),
  (156, fnO fd156),
  (214, fnO fd214),
  (216, hdNs P),
  (217, clsO "Headers" 216 217 449 457),
  (226, fnO fd226),
  (231, fnO fd231),
  (236, fnO fd236),
  (241, fnO fd241),
  (246, fnO fd246),
  (251, fnO fd251)]
def kAs : List Addr := [52, 59, 61, 62, 73, 82, 83, 87, 88, 104, 111, 118, 156, 214, 216, 217, 226, 231, 236, 241, 246, 251]
def kCodes : List (Addr × Str) := [(51, "TupleComp.__init__"), (58, "TupleComp.compare"), (72, "replace"), (110, "Headers.__init__"), (117, "Headers._convert_string_type"), (155, "Headers.get_all"), (213, "Headers.add_header"), (225, "_law_cut"), (230, "_law_rule"), (235, "_law_chase"), (240, "_law_agree"), (245, "_law_join"), (250, "_law_fit")]
def kGlobs : List (Str × Addr) := [("TupleComp", 62), ("replace", 73), ("_name_disallowed_re", 83), ("_value_disallowed_re", 88), ("Headers", 217), ("_law_cut", 226), ("_law_rule", 231), ("_law_chase", 236), ("_law_agree", 241), ("_law_join", 246), ("_law_fit", 251)]
def kFree : List Str := ["range", "len", "sum", "sorted", "set", "enumerate", "zip", "type", "list", "str"]
end
section
/-! ## The head: the whole top in one check, with a hook of our own -/
def codeSeen (h : Heap) (c : Addr) : Option Str := match h.get? c with
  | some ⟨_, _, .fields vs, _⟩ => (match vs.toList with | _ :: Value.str q _ :: _ => some q | _ => none)
  | _ => none
structure Seen where
  objs : List (Option Obj)
  codes : List (Option Str)
  globs : List (Option Value)
  free : List (Option Value)
def obsH (s : Shared) : Seen :=
  ⟨kAs.map s.heap.get?, kCodes.map fun p => codeSeen s.heap p.1, kGlobs.map fun p => s.heap.nsMap mainGlobals p.1, kFree.map fun x => s.heap.nsMap mainGlobals x⟩
def valH (w : World) : Seen :=
  ⟨(KK w.params).map fun p => some p.2, kCodes.map fun p => some p.2, kGlobs.map fun p => some (.ref p.2), kFree.map fun _ => none⟩
def vw : Program := view PW [19]
def lo : List Str := ["_sre", "_wall", "TupleComp", "replace", "tspecials", "_name_disallowed_re", "_value_disallowed_re", "_formatparam", "Headers", "_law_cut", "_law_rule", "_law_chase", "_law_agree", "_law_join", "_law_fit"]
set_option maxHeartbeats 0 in
theorem left1 : LeftO PW vw lo (fun s => xlAt vw [] s && recOk [] s) obsH valH 3162 := by
  intro w
  kernel_rfl
end
section
/-! ## The walk's own layer: what holds of a state inside a call -/
abbrev MM (w : World) : Model := model PW w

/-- what the top has left, and every state of the call still has -/
structure Gl (w : World) (h : Heap) : Prop where
  k : (KK w.params).In h
  code : ∀ p ∈ kCodes, h.CodeRec (.ref p.1) p.2
  g : ∃ mg, h.Ns mainGlobals mg ∧ (∀ p ∈ kGlobs, mg p.1 = some (.ref p.2)) ∧ ∀ x ∈ kFree, mg x = none
  b : ∃ mb, h.Ns builtinsNs mb ∧ ∀ x : Str, x ≠ "__name__" → mb x = bootBuiltins x
  lim : h.NoLimit
theorem Gl.keeps {w : World} {h h' : Heap} (G : Gl w h) (hk : ∀ b o, h.get? b = some o → h'.get? b = some o) : Gl w h' where
  k := G.k.keeps hk
  code := fun p hp => (G.code p hp).keeps hk
  g := let ⟨mg, a, b, c⟩ := G.g; ⟨mg, a.keeps hk, b, c⟩
  b := let ⟨mb, a, b⟩ := G.b; ⟨mb, a.keeps hk, b⟩
  lim := G.lim.keeps hk

/-- room for n more frames -/
structure Rm (n : Nat) (A : Around) : Prop where
  hh : A.handled = none
  dep : A.depth + n < 500
  un : A.units + 8 * n < 900
theorem Rm.deeper {n : Nat} {A : Around} (R : Rm (n + 1) A) (env : Env) : Rm n (A.deeper env) :=
  ⟨R.hh, by show A.depth + 1 + n < 500; have := R.dep; omega, by show A.units + 3 + 8 * n < 900; have := R.un; omega⟩
theorem Rm.less {n k : Nat} {A : Around} (R : Rm n A) (h : k ≤ n) : Rm k A := ⟨R.hh, by have := R.dep; omega, by have := R.un; omega⟩
theorem Rm.room {n : Nat} {A : Around} (R : Rm n A) : A.depth < recursionLimit := by have := R.dep; show A.depth < 1000; omega
theorem Rm.units {n : Nat} {A : Around} (R : Rm n A) : A.units < cLine := by have := R.un; show A.units < 9900; omega
theorem Rm.units' {n k : Nat} {A : Around} (R : Rm n A) (h : k ≤ 1000) : A.units + k < cLine := by have := R.un; show A.units + k < 9900; omega

/-- only new objects came -/
def Kp (s s' : Shared) : Prop := PySem.Keeps s s'
theorem Kp.refl (s : Shared) : Kp s s := ⟨s.heap, s.toks, rfl, fun _ _ e => e⟩
theorem Kp.trans {s s' s'' : Shared} (a : Kp s s') (b : Kp s' s'') : Kp s s'' := by
  obtain ⟨h, t, rfl, k⟩ := a
  obtain ⟨h', t', rfl, k'⟩ := b
  exact ⟨h', t', rfl, fun b o e => k' b o (k b o e)⟩
theorem Kp.get {s s' : Shared} (a : Kp s s') {b : Addr} {o : Obj} (e : s.heap.get? b = some o) : s'.heap.get? b = some o := by
  obtain ⟨h, t, rfl, k⟩ := a
  exact k b o e
theorem Kp.none {s s' : Shared} (a : Kp s s') {b : Addr} (e : s'.heap.get? b = none) : s.heap.get? b = none := by
  cases q : s.heap.get? b with
  | none => rfl
  | some o => rw [a.get q] at e; cases e
theorem Kp.tok (s : Shared) (t : Nat) : Kp s { s with toks := t } := ⟨s.heap, t, rfl, fun _ _ e => e⟩
theorem Kp.push (s : Shared) (o : Obj) : Kp s { s with heap := s.heap.push o } := ⟨_, _, rfl, fun _ _ e => Heap.get?_push_of_some _ e⟩
theorem Kp.to {s : Shared} {h : Heap} {t : Nat} (k : ∀ b o, s.heap.get? b = some o → h.get? b = some o) : Kp s { s with heap := h, toks := t } := ⟨h, t, rfl, k⟩
/-- all but the object at a -/
def KeepsBut (a : Addr) (s s' : Shared) : Prop := ∃ h' tk, s' = { s with heap := h', toks := tk } ∧ ∀ b o, b ≠ a → s.heap.get? b = some o → h'.get? b = some o
theorem KeepsBut.get {s s' : Shared} {a b : Addr} {o : Obj} (k : KeepsBut a s s') (hb : b ≠ a) (e : s.heap.get? b = some o) : s'.heap.get? b = some o := by
  obtain ⟨h, t, rfl, k⟩ := k
  exact k b o hb e
theorem Kp.but {s s' : Shared} (k : Kp s s') (a : Addr) : KeepsBut a s s' := by
  obtain ⟨h, t, rfl, k⟩ := k
  exact ⟨h, t, rfl, fun b o _ e => k b o e⟩
theorem KeepsBut.trans {s s' s'' : Shared} {a : Addr} (x : KeepsBut a s s') (y : KeepsBut a s' s'') : KeepsBut a s s'' := by
  obtain ⟨h, t, rfl, k⟩ := x
  obtain ⟨h', t', rfl, k'⟩ := y
  exact ⟨h', t', rfl, fun b o hb e => k' b o hb (k b o hb e)⟩

/-- the object at a stands at b, and did not at an earlier state -/
theorem fresh_ne {s : Shared} {a b : Addr} {o : Obj} (ha : s.heap.get? a = none) (hb : s.heap.get? b = some o) : b ≠ a := fun e => by
  subst e; rw [ha] at hb; cases hb

def NameAt (env : Env) (h : Heap) (x : Str) (v : Value) : Prop :=
  (env.kindOf x = some .local ∧ ∃ m, h.Ns env.locals m ∧ m x = some v) ∨
  ((env.kindOf x = some .cell ∨ (env.kindOf x = some .free ∧ (x == ("__classdict__" : Str)) = false)) ∧ ∃ c, env.cells.lookup x = some c ∧ h.IsCell c (some v))
theorem NameAt.keeps {env : Env} {h h' : Heap} {x : Str} {v : Value} (N : NameAt env h x v) (hk : ∀ b o, h.get? b = some o → h'.get? b = some o) : NameAt env h' x v := by
  rcases N with ⟨a, m, b, c⟩ | ⟨a, c, b, d⟩
  · exact .inl ⟨a, m, b.keeps hk, c⟩
  · exact .inr ⟨a, c, b, d.keeps hk⟩

/-- a reading state: from b on only new objects came (the ledger nw names some); the names V stand in env -/
structure Rd (w : World) (b : Shared) (env : Env) (V : List (Str × Value)) (nw : List (Addr × Obj)) (s : Shared) : Prop where
  kind : env.scope.kind = .function
  glob : env.globals = mainGlobals
  blt : env.builtins = builtinsNs
  gl : Gl w b.heap
  kp : Kp b s
  nm : ∀ x v, V.lookup x = some v → NameAt env b.heap x v
  has : ∀ p ∈ nw, s.heap.get? p.1 = some p.2 ∧ b.heap.get? p.1 = none
  nd : (nw.map (·.1)).Nodup
section
variable {w : World} {b s s' : Shared} {env : Env} {V : List (Str × Value)} {nw : List (Addr × Obj)}
theorem Rd.gl' (R : Rd w b env V nw s) : Gl w s.heap := R.gl.keeps fun _ _ e => R.kp.get e
theorem Rd.old (R : Rd w b env V nw s) {a : Addr} {o : Obj} (e : b.heap.get? a = some o) : s.heap.get? a = some o := R.kp.get e
theorem Rd.at (R : Rd w b env V nw s) {a : Addr} {o : Obj} (e : (a, o) ∈ nw) : s.heap.get? a = some o := (R.has _ e).1
theorem Rd.keeps (R : Rd w b env V nw s) (k : Kp s s') : Rd w b env V nw s' :=
  { R with kp := R.kp.trans k, has := fun p hp => ⟨k.get (R.has p hp).1, (R.has p hp).2⟩ }
theorem Rd.tok (R : Rd w b env V nw s) (t : Nat) : Rd w b env V nw { s with toks := t } := R.keeps (Kp.tok s t)
theorem Rd.any (R : Rd w b env V nw s) (e : s' = { s with toks := s'.toks }) : Rd w b env V nw s' := by rw [e]; exact R.tok _
theorem Rd.name (R : Rd w b env V nw s) {x : Str} {v : Value} (e : V.lookup x = some v) : NameAt env s.heap x v := (R.nm x v e).keeps fun _ _ e => R.kp.get e
theorem Rd.add (R : Rd w b env V nw s) (k : Kp s s') {a : Addr} {o : Obj} (ha : s.heap.get? a = none) (ho : s'.heap.get? a = some o) : Rd w b env V ((a, o) :: nw) s' :=
  let R' := R.keeps k
  { R' with
    has := fun p hp => by
      rcases List.mem_cons.mp hp with rfl | hp
      · exact ⟨ho, R.kp.none ha⟩
      · exact R'.has p hp
    nd := by
      rw [List.map_cons]
      refine List.nodup_cons.mpr ⟨fun hm => ?_, R.nd⟩
      obtain ⟨p, hp, e⟩ := List.mem_map.mp hm
      exact fresh_ne ha (R.has p hp).1 e }
theorem Rd.push (R : Rd w b env V nw s) (o : Obj) (hf : o.isFreed = false := by rfl) : Rd w b env V ((s.heap.objs.size, o) :: nw) { s with heap := s.heap.push o } :=
  R.add (Kp.push s o) (by
    cases q : s.heap.get? s.heap.objs.size with
    | none => rfl
    | some o => exact absurd (Heap.lt_size q) (Nat.lt_irrefl _)) (Heap.get?_push_size _ hf)
theorem Rd.drop (R : Rd w b env V nw s) {nw' : List (Addr × Obj)} (h : List.Sublist nw' nw) : Rd w b env V nw' s :=
  { R with has := fun p hp => R.has p (h.subset hp), nd := (h.map _).nodup R.nd }
theorem Rd.vars (R : Rd w b env V nw s) {V' : List (Str × Value)} (h : ∀ x v, V'.lookup x = some v → V.lookup x = some v) : Rd w b env V' nw s :=
  { R with nm := fun x v e => R.nm x v (h x v e) }
end

/-- a state between two statements of a call (or two turns of a comprehension) that began at s₀ -/
structure St (w : World) (s₀ : Shared) (env : Env) (V : List (Str × Value)) (led : List (Addr × Obj)) (s : Shared) : Prop where
  kind : env.scope.kind = .function
  glob : env.globals = mainGlobals
  blt : env.builtins = builtinsNs
  gl : Gl w s₀.heap
  keep : Kp s₀ s
  new : s₀.heap.get? env.locals = none
  vars : ∃ m cm : Str → Option Value, s.heap.Ns env.locals m ∧ (∀ n c, env.cells.lookup n = some c → s.heap.IsCell c (cm n)) ∧
    ∀ x v, V.lookup x = some v → (env.kindOf x = some .local ∧ m x = some v) ∨ (env.kindOf x = some .cell ∧ (env.cells.lookup x).isSome = true ∧ cm x = some v)
  apart : ∀ x y c, env.cells.lookup x = some c → env.cells.lookup y = some c → s₀.heap.get? c = none → x = y
  has : ∀ p ∈ led, s.heap.get? p.1 = some p.2 ∧ s₀.heap.get? p.1 = none ∧ p.1 ≠ env.locals ∧ ∀ n c, env.cells.lookup n = some c → c ≠ p.1
  nd : (led.map (·.1)).Nodup
section
variable {w : World} {s₀ s s' : Shared} {env : Env} {V : List (Str × Value)} {led : List (Addr × Obj)}
theorem St.old (S : St w s₀ env V led s) {a : Addr} {o : Obj} (e : s₀.heap.get? a = some o) : s.heap.get? a = some o := S.keep.get e
theorem St.at (S : St w s₀ env V led s) {a : Addr} {o : Obj} (e : (a, o) ∈ led) : s.heap.get? a = some o := (S.has _ e).1
theorem St.any (S : St w s₀ env V led s) (e : s' = { s with toks := s'.toks }) : Kp s s' := by rw [e]; exact Kp.tok s _
theorem St.gl' (S : St w s₀ env V led s) : Gl w s.heap := S.gl.keeps fun _ _ e => S.keep.get e
theorem St.rd (S : St w s₀ env V led s) : Rd w s env V [] s where
  kind := S.kind
  glob := S.glob
  blt := S.blt
  gl := S.gl'
  kp := Kp.refl s
  nm := fun x v e => by
    obtain ⟨m, cm, n, c, h⟩ := S.vars
    rcases h x v e with ⟨a, b⟩ | ⟨a, b, d⟩
    · exact .inl ⟨a, m, n, b⟩
    · obtain ⟨q, hq⟩ := Option.isSome_iff_exists.mp b
      exact .inr ⟨.inl a, q, hq, d ▸ c x q hq⟩
  has := fun _ hp => nomatch hp
  nd := List.nodup_nil
theorem St.keeps (S : St w s₀ env V led s) (k : Kp s s') : St w s₀ env V led s' := by
  obtain ⟨m, cm, n, c, h⟩ := S.vars
  exact { S with
    keep := S.keep.trans k
    vars := ⟨m, cm, n.keeps fun _ _ e => k.get e, fun x y e => (c x y e).keeps fun _ _ e => k.get e, h⟩
    has := fun p hp => ⟨k.get (S.has p hp).1, (S.has p hp).2⟩ }
/-- behind an expression: what it has made goes onto the ledger -/
theorem St.back {nw : List (Addr × Obj)} (S : St w s₀ env V led s) (R : Rd w s env V nw s') : St w s₀ env V (nw ++ led) s' := by
  have S' := S.keeps R.kp
  obtain ⟨m, cm, n, c, h⟩ := S.vars
  refine { S' with has := fun p hp => ?_, nd := ?_ }
  · rcases List.mem_append.mp hp with hp | hp
    · have a := R.has p hp
      refine ⟨a.1, S.keep.none a.2, fun e => ?_, fun n c' hc e => ?_⟩
      · obtain ⟨o, _, _, ho, _⟩ := n
        exact fresh_ne a.2 ho e.symm
      · obtain ⟨o, ho, _⟩ := c n c' hc
        exact fresh_ne a.2 ho e
    · exact S'.has p hp
  · rw [List.map_append]
    refine List.nodup_append.mpr ⟨R.nd, S.nd, fun x hx y hy e => ?_⟩
    obtain ⟨p, hp, rfl⟩ := List.mem_map.mp hx
    obtain ⟨q, hq, rfl⟩ := List.mem_map.mp hy
    exact fresh_ne (R.has p hp).2 (S.has q hq).1 e.symm
end
end
section
section
variable {w : World} {s₀ s s' : Shared} {env : Env} {V : List (Str × Value)} {led : List (Addr × Obj)} {A : Around} {E : Value → Shared → Prop}

theorem lookup_mem {V : List (Str × Value)} {x : Str} {v : Value} (h : V.lookup x = some v) : (x, v) ∈ V := mem_of_lookup h
/-- every name of V' stands so in V -/
def SubV (V : List (Str × Value)) : List (Str × Value) → Prop
  | [] => True
  | p :: r => V.lookup p.1 = some p.2 ∧ SubV V r
theorem SubV.mem {V : List (Str × Value)} : ∀ {V' : List (Str × Value)}, SubV V V' → ∀ p ∈ V', V.lookup p.1 = some p.2
  | _ :: _, h, _, .head _ => h.1
  | _ :: _, h, p, .tail _ hp => SubV.mem h.2 p hp
theorem SubV.look {V V' : List (Str × Value)} (h : SubV V V') : ∀ x v, V'.lookup x = some v → V.lookup x = some v := fun x v e => h.mem (x, v) (lookup_mem e)
theorem SubV.refl (V : List (Str × Value)) : ∀ x v, V.lookup x = some v → V.lookup x = some v := fun _ _ e => e

theorem St.weak (S : St w s₀ env V led s) {V' : List (Str × Value)} {led' : List (Addr × Obj)} (hV : ∀ x v, V'.lookup x = some v → V.lookup x = some v) (hl : List.Sublist led' led) : St w s₀ env V' led' s := by
  obtain ⟨m, cm, n, c, h⟩ := S.vars
  exact { S with vars := ⟨m, cm, n, c, fun x v e => h x v (hV x v e)⟩, has := fun p hp => S.has p (hl.subset hp), nd := (hl.map _).nodup S.nd }
theorem St.sub (S : St w s₀ env V led s) {V' : List (Str × Value)} (hV : SubV V V') : St w s₀ env V' led s := S.weak hV.look (List.Sublist.refl _)
theorem St.perm (S : St w s₀ env V led s) {led' : List (Addr × Obj)} (hp : led.Perm led') : St w s₀ env V led' s :=
  { S with has := fun p h => S.has p (hp.mem_iff.mpr h), nd := (hp.map _).nodup_iff.mp S.nd }
theorem St.drop (S : St w s₀ env V led s) {led' : List (Addr × Obj)} (hl : List.Sublist led' led) : St w s₀ env V led' s := S.weak (fun _ _ e => e) hl

theorem St.store' {x : Str} {v : Value} {Q : Unit → Shared → Prop} (S : St w s₀ env V led s) (hk : env.kindOf x = some .local ∨ (env.kindOf x = some .cell ∧ ∃ c, env.cells.lookup x = some c ∧ s₀.heap.get? c = none))
    (h : ∀ s' a, St w s₀ env ((x, v) :: V) led s' → KeepsBut a s s' → ((env.kindOf x = some .local ∧ a = env.locals) ∨ (env.kindOf x = some .cell ∧ env.cells.lookup x = some a)) → Q () s') : wpAny (MM w) A (storeName env x v) Q E s := by
  obtain ⟨m, cm, ns, cl, hV⟩ := S.vars
  have look : ∀ (y : Str) (u : Value), ((x, v) :: V).lookup y = some u → (y = x ∧ u = v) ∨ (y ≠ x ∧ V.lookup y = some u) := by
    intro y u e
    rw [List.lookup_cons] at e
    cases hb : y == x with
    | true => rw [hb] at e; cases e; exact .inl ⟨beq_iff_eq.mp hb, rfl⟩
    | false => rw [hb] at e; exact .inr ⟨beq_eq_false_iff_ne.mp hb, e⟩
  have ncl : ∀ n c, env.cells.lookup n = some c → c ≠ env.locals := fun n c e q => by
    obtain ⟨o, ho, hd⟩ := cl n c e
    obtain ⟨o', es, ep, ho', hd', _⟩ := ns
    rw [q, ho'] at ho; cases ho; rw [hd'] at hd; cases hd
  rcases hk with hl | ⟨hl, c, hc, hc0⟩
  · refine wpAny_storeName_local hl ns (fun h' hn' hs' => h _ env.locals ?_ ?_ (.inl ⟨hl, rfl⟩)) (by rw [S.kind]; rfl)
    · have kb : ∀ b o, b ≠ env.locals → s.heap.get? b = some o → h'.get? b = some o := fun b o hb e => hs'.extBut b o hb e
      refine { S with keep := ?_, vars := ⟨fun y => if y = x then some v else m y, cm, hn', fun k c hk' => (cl k c hk').sameBut hs' (ncl k c hk'), fun y u e => ?_⟩, has := fun p hp => ⟨kb _ _ (S.has p hp).2.2.1 (S.has p hp).1, (S.has p hp).2⟩ }
      · obtain ⟨h₁, tk, e, k⟩ := S.keep
        refine ⟨h', _, by rw [e], fun b o e' => kb b o (fun q => ?_) (by rw [e]; exact k b o e')⟩
        have := S.new; rw [← q, e'] at this; cases this
      · rcases look y u e with ⟨rfl, rfl⟩ | ⟨hne, e⟩
        · exact .inl ⟨hl, by simp⟩
        · rcases hV y u e with ⟨a, b⟩ | ⟨a, b, c⟩
          · exact .inl ⟨a, by simpa [hne] using b⟩
          · exact .inr ⟨a, b, c⟩
    · exact ⟨h', _, rfl, fun b o hb e => hs'.extBut b o hb e⟩
  · refine wpAny_storeName_cell S.kind hl hc (cl x c hc) fun h' hcl hs' => h _ c ?_ ?_ (.inr ⟨hl, hc⟩)
    · have kb : ∀ b o, b ≠ c → s.heap.get? b = some o → h'.get? b = some o := fun b o hb e => hs'.extBut b o hb e
      refine { S with keep := ?_, vars := ⟨m, fun y => if y = x then some v else cm y, ns.sameBut hs' (Ne.symm (ncl x c hc)), fun k c' hk' => ?_, fun y u e => ?_⟩, has := fun p hp => ⟨kb _ _ (fun e => (S.has p hp).2.2.2 x c hc e.symm) (S.has p hp).1, (S.has p hp).2⟩ }
      · obtain ⟨h₁, tk, e, k⟩ := S.keep
        refine ⟨h', s.toks, by rw [e], fun b o e' => kb b o (fun q => ?_) (by rw [e]; exact k b o e')⟩
        rw [← q, e'] at hc0; cases hc0
      · by_cases hkn : k = x
        · subst hkn
          rw [hc] at hk'; cases hk'
          simpa using hcl
        · simp only [if_neg hkn]
          exact (cl k c' hk').sameBut hs' fun e => hkn (S.apart k x c (e ▸ hk') hc hc0)
      · rcases look y u e with ⟨rfl, rfl⟩ | ⟨hne, e⟩
        · exact .inr ⟨hl, by rw [hc]; rfl, by simp⟩
        · rcases hV y u e with ⟨a, b⟩ | ⟨a, b, d⟩
          · exact .inl ⟨a, b⟩
          · exact .inr ⟨a, b, by simpa [hne] using d⟩
    · exact ⟨h', _, rfl, fun b o hb e => hs'.extBut b o hb e⟩
theorem St.store {x : Str} {v : Value} {Q : Unit → Shared → Prop} (S : St w s₀ env V led s) (hk : env.kindOf x = some .local ∨ (env.kindOf x = some .cell ∧ ∃ c, env.cells.lookup x = some c ∧ s₀.heap.get? c = none))
    (h : ∀ s', St w s₀ env ((x, v) :: V) led s' → Q () s') : wpAny (MM w) A (storeName env x v) Q E s := S.store' hk fun s' _ S' _ _ => h s' S'

/-- an object of the ledger is changed -/
theorem St.mut {a : Addr} {o o' : Obj} {l₁ l₂ : List (Addr × Obj)} (S : St w s₀ env V (l₁ ++ (a, o) :: l₂) s) (k : KeepsBut a s s') (ho : s'.heap.get? a = some o') : St w s₀ env V (l₁ ++ (a, o') :: l₂) s' := by
  obtain ⟨m, cm, ns, cl, hV⟩ := S.vars
  have ha := S.has (a, o) (by simp)
  have nd := S.nd
  have nd' : ((l₁ ++ (a, o') :: l₂).map (·.1)).Nodup := by simpa using nd
  have off : ∀ p, p ∈ l₁ ++ l₂ → p.1 ≠ a := by
    intro p hp e
    rw [List.map_append, List.map_cons] at nd
    have nd2 := List.nodup_append.mp nd
    rcases List.mem_append.mp hp with hp | hp
    · exact nd2.2.2 p.1 (List.mem_map_of_mem hp) a (by simp) e
    · exact (List.nodup_cons.mp nd2.2.1).1 (e ▸ List.mem_map_of_mem (f := (·.1)) hp)
  refine { S with keep := ?_, vars := ⟨m, cm, ns.at' fun ob e => k.get (Ne.symm ha.2.2.1) e, fun n c hc => ?_, hV⟩, has := fun p hp => ?_, nd := nd' }
  · obtain ⟨h₁, tk, e, kk⟩ := S.keep
    obtain ⟨h₂, t₂, e₂, k₂⟩ := k
    refine ⟨h₂, t₂, by rw [e₂, e], fun b ob e' => k₂ b ob (fun q => ?_) (by rw [e]; exact kk b ob e')⟩
    subst q; rw [ha.2.1] at e'; cases e'
  · obtain ⟨ob, e, d⟩ := cl n c hc
    exact ⟨ob, k.get (ha.2.2.2 n c hc) e, d⟩
  · rcases List.mem_append.mp hp with hp' | hp'
    · have x := S.has p (List.mem_append_left _ hp')
      exact ⟨k.get (off p (List.mem_append_left _ hp')) x.1, x.2⟩
    · rcases List.mem_cons.mp hp' with rfl | hp''
      · exact ⟨ho, ha.2⟩
      · have x := S.has p (List.mem_append_right _ (.tail _ hp''))
        exact ⟨k.get (off p (List.mem_append_right _ hp'')) x.1, x.2⟩
theorem St.mut1 {a : Addr} {o o' : Obj} {l : List (Addr × Obj)} (S : St w s₀ env V ((a, o) :: l) s) (k : KeepsBut a s s') (ho : s'.heap.get? a = some o') : St w s₀ env V ((a, o') :: l) s' :=
  St.mut (l₁ := []) S k ho
theorem St.mut2 {a : Addr} {o o' : Obj} {p : Addr × Obj} {l : List (Addr × Obj)} (S : St w s₀ env V (p :: (a, o) :: l) s) (k : KeepsBut a s s') (ho : s'.heap.get? a = some o') : St w s₀ env V (p :: (a, o') :: l) s' :=
  St.mut (l₁ := [p]) S k ho
theorem St.mut3 {a : Addr} {o o' : Obj} {p q : Addr × Obj} {l : List (Addr × Obj)} (S : St w s₀ env V (p :: q :: (a, o) :: l) s) (k : KeepsBut a s s') (ho : s'.heap.get? a = some o') : St w s₀ env V (p :: q :: (a, o') :: l) s' :=
  St.mut (l₁ := [p, q]) S k ho

/-- how a bound name stands in the new frame -/
def VarOk (env : Env) (m cm : Str → Option Value) (p : Str × Value) : Prop :=
  (env.kindOf p.1 = some .local ∧ m p.1 = some p.2) ∨ (env.kindOf p.1 = some .cell ∧ (env.cells.lookup p.1).isSome = true ∧ cm p.1 = some p.2)
def AllV (P : Str × Value → Prop) : List (Str × Value) → Prop
  | [] => True
  | p :: r => P p ∧ AllV P r
theorem AllV.mem {P : Str × Value → Prop} : ∀ {V : List (Str × Value)}, AllV P V → ∀ p ∈ V, P p
  | _ :: _, h, _, .head _ => h.1
  | _ :: _, h, p, .tail _ hp => AllV.mem h.2 p hp
end

theorem none_ge {h : Heap} {a : Addr} (ha : h.objs.size ≤ a) : h.get? a = none := by
  cases q : h.get? a with
  | none => rfl
  | some o => exact absurd (Heap.lt_size q) (Nat.not_lt.mpr ha)
theorem none_at (h : Heap) : h.get? h.objs.size = none := none_ge (Nat.le_refl _)
/-- a def of the text is entered -/
theorem enter {w : World} {s : Shared} {A : Around} {R : Result → Shared → Prop} {fd : FuncData} {f c : Addr} {args : Args} {binds V : List (Str × Value)} {body : List Stmt}
    (hf : (KK w.params).lookup f = some (fnO fd)) (hc : (c, fd.qualname) ∈ kCodes) (hcd : fd.code = .ref c) (G : Gl w s.heap) (hroom : A.depth < recursionLimit)
    (hbody : fd.body = .stmts body) (hbind : BindsTo s fd args binds) (hclo : fd.closure = []) (hgl : fd.globals = mainGlobals) (hbl : fd.builtins = builtinsNs)
    (hkind : ∀ n, ∀ x ∈ binds, fd.scope.names.lookup x.1 = some .local ∨ (fd.scope.names.lookup x.1 = some .cell ∧ ((cellsFrom n fd.scope.names []).lookup x.1).isSome = true))
    (hV : ∀ L, AllV (VarOk (callEnvC fd L f) (bindL (callEnvC fd L f).kindOf binds fun _ => none) (bindC (callEnvC fd L f).kindOf binds fun _ => none)) V)
    (h : ∀ L s₁, s.heap.objs.size ≤ L → St w s (callEnvC fd L f) V [] s₁ →
      wpAny (MM w) (A.deeper (callEnvC fd L f)) (execs body (callEnvC fd L f)) (fun fl s' => R (.ok (.ret (match fl with | .ret v => v | _ => .none))) s') (fun _ _ => False) s₁)
    (hco : fd.scope.isCoroutine = false) (hgen : fd.scope.isGenerator = false) (hk : fd.scope.kind = .function) :
    codeAny (MM w) A (.call (.ref f) args) R s := by
  refine codeAny_call_function hroom (G.k _ _ hf) rfl hco hgen hbody (hcd ▸ G.code _ hc) (hbind _ _ _ _ ?_)
  rw [hclo]
  refine wpAny_newFunctionEnv_cells hk (hkind _) fun env he s' x => ?_
  subst he
  refine ⟨G.lim.keeps x.toInCall.keep, codeAny_func ?_⟩
  refine wpAny_mono (h s.heap.objs.size s' (Nat.le_refl _) ⟨hk, hgl, hbl, G, (let ⟨h, t, e, k⟩ := x.done; ⟨h, t, e, k⟩), none_at s.heap, ⟨_, _, x.toInCall.ns, x.cell, fun y v e => (hV _).mem (y, v) (lookup_mem e)⟩, fun p q c hp hq _ => name_of_addr x.apart (mem_of_lookup hp) (mem_of_lookup hq), fun _ hp => (nomatch hp), List.nodup_nil⟩) (fun _ _ z => z) fun _ _ z => z.elim
end
section
abbrev listO (vs : List Value) (n : Nat) : Obj := { cls := .type "list", data := .seq vs.toArray n }
abbrev tupO (vs : List Value) : Obj := { cls := .type "tuple", data := .seq vs.toArray 0 }
section
variable {w : World} {b s s' s₀ : Shared} {env : Env} {V : List (Str × Value)} {nw led : List (Addr × Obj)} {A : Around} {E : Value → Shared → Prop}

theorem Rd.ldn {x : Str} {v : Value} {Q : Value → Shared → Prop} (R : Rd w b env V nw s) (hv : V.lookup x = some v) (h : Q v s) : wpAny (MM w) A (loadName env x) Q E s := by
  rcases R.name hv with ⟨a, m, n, e⟩ | ⟨a | ⟨a, q⟩, c, e, d⟩
  · exact wpAny_loadName_local R.kind a n e h
  · exact wpAny_loadName_cell R.kind a e d h
  · exact wpAny_loadName_free R.kind a e d h q
theorem Rd.Nm {x : Str} {v : Value} {pos : Pos} {Q : Value → Shared → Prop} (R : Rd w b env V nw s) (hv : V.lookup x = some v) (h : Q v s) (hd : (x == ("__debug__" : Str)) = false := by decide) :
    wpAny (MM w) A (eval (.Name x pos) env) Q E s := wpAny_Name (R.ldn hv h) hd
theorem Rd.Gb {x : Str} {a : Addr} {pos : Pos} {Q : Value → Shared → Prop} (R : Rd w b env V nw s) (hp : kGlobs.lookup x = some a) (hx : env.kindOf x = some .globalImplicit) (h : Q (.ref a) s) (hd : (x == ("__debug__" : Str)) = false := by decide) :
    wpAny (MM w) A (eval (.Name x pos) env) Q E s := by
  obtain ⟨mg, hg, hm, _⟩ := R.gl'.g
  exact PySem.Calls.Name_function_global R.kind hx (PySem.Calls.loadGlobal_global (by rw [R.glob]; exact hg) (hm _ (mem_of_lookup hp)) h) hd
theorem Rd.Bl {x : Str} {v : Value} {pos : Pos} {Q : Value → Shared → Prop} (R : Rd w b env V nw s) (hp : x ∈ kFree) (hb : bootBuiltins x = some v) (hx : env.kindOf x = some .globalImplicit) (h : Q v s) (hn : x ≠ "__name__" := by decide)
    (hd : (x == ("__debug__" : Str)) = false := by decide) : wpAny (MM w) A (eval (.Name x pos) env) Q E s := by
  obtain ⟨mg, hg, _, hm⟩ := R.gl'.g
  obtain ⟨mb, hb', hq⟩ := R.gl'.b
  exact PySem.Calls.Name_function_global R.kind hx (PySem.Calls.loadGlobal_builtin (by rw [R.glob]; exact hg) (hm _ hp) (by rw [R.blt]; exact hb') ((hq x hn).trans hb) h) hd

/-! ### comprehensions -/
theorem cellsFrom_app : ∀ (names : List (Str × NameKind)) (n : Nat) (acc : List (Str × Addr)), cellsFrom n names acc = cellsFrom n names [] ++ acc
  | [], _, _ => rfl
  | (x, k) :: r, n, acc => by
    unfold cellsFrom
    split
    · rw [cellsFrom_app r (n + 1) ((x, n) :: acc), cellsFrom_app r (n + 1) [(x, n)]]; simp
    · exact cellsFrom_app r n acc
theorem lookup_app {α : Type} (l r : List (Str × α)) (x : Str) : (l ++ r).lookup x = (l.lookup x).or (r.lookup x) := by
  rw [List.lookup_append]

def cenvOf (scope : Scope) (cl : List (Str × Addr)) (C : Addr) (env : Env) : Env :=
  { scope := relabel scope env, locals := C, globals := env.globals, cells := cellsFrom (C + 1) scope.names cl, qual := env.qual, func := none, code := env.code, frame := env.frame, builtins := env.builtins }

/-- the names that a comprehension takes from around it -/
def ClOk (V : List (Str × Value)) (env : Env) : List (Str × Addr) → Prop
  | [] => True
  | p :: r => ((∃ v, V.lookup p.1 = some v) ∧ env.kindOf p.1 = some .cell ∧ env.cells.lookup p.1 = some p.2) ∧ ClOk V env r
theorem ClOk.mem {V : List (Str × Value)} {env : Env} : ∀ {cl : List (Str × Addr)}, ClOk V env cl → ∀ p ∈ cl, (∃ v, V.lookup p.1 = some v) ∧ env.kindOf p.1 = some .cell ∧ env.cells.lookup p.1 = some p.2
  | _ :: _, h, _, .head _ => h.1
  | _ :: _, h, p, .tail _ hp => ClOk.mem h.2 p hp
theorem NameAt.cellOf {env : Env} {h : Heap} {x : Str} {v : Value} {c : Addr} (N : NameAt env h x v) (hk : env.kindOf x = some .cell) (hc : env.cells.lookup x = some c) : h.IsCell c (some v) := by
  rcases N with ⟨a, _⟩ | ⟨_, c', e, d⟩
  · rw [hk] at a; cases a
  · rw [hc] at e; cases e; exact d

/-- the new frame of a comprehension -/
theorem comp_env {scope : Scope} {cl : List (Str × Addr)} {C : Addr} {V' : List (Str × Value)} {led : List (Addr × Obj)} {Q : Env → Shared → Prop} (R : Rd w b env V nw s₀) (hkind : scope.kind = .function) (k : Kp s₀ s)
    (hcl : ClOk V env cl) (hC : C = s.heap.objs.size)
    (hV : AllV (fun p => V.lookup p.1 = some p.2 ∧ (cenvOf scope cl C env).kindOf p.1 = some .cell ∧ (∃ c, cl.lookup p.1 = some c) ∧ (cellsFrom (C + 1) scope.names []).lookup p.1 = none) V')
    (hl : ∀ p ∈ led, s.heap.get? p.1 = some p.2 ∧ s₀.heap.get? p.1 = none) (hnd : (led.map (·.1)).Nodup)
    (h : ∀ s', St w s₀ (cenvOf scope cl C env) V' led s' → Kp s s' → (∀ n c, (cenvOf scope cl C env).cells.lookup n = some c → @LT.lt Nat _ C c ∨ ∃ o, s₀.heap.get? c = some o) → Q (newEnv scope C env.globals (cellsFrom (C + 1) scope.names cl) env.qual none .none (some env) builtinsNs) s') :
    wpAny (MM w) A (newFunctionEnv scope env.globals cl [] env.qual none .none (some env)) Q E s := by
  have R' := R.keeps k
  simp only [newFunctionEnv, Option.isSome_some, if_true]
  refine wpAny_bind (wpAny_alloc ?_)
  refine wpAny_bind (wpAny_layCells _ (fun name kind cells => by cases hkc : kind == NameKind.cell <;> simp) _ _ _ _ ?_)
  rw [show ({ s with heap := s.heap.push { cls := .type "dict", data := .dict #[] } } : Shared).heap.objs.size = s.heap.objs.size + 1 from Heap.size_push ..]
  have ok := cellsFrom_ok scope.names (s.heap.push { cls := .type "dict", data := .dict #[] }) (s.heap.objs.size + 1) [] ⟨fun _ _ hm => (nomatch hm), List.Pairwise.nil⟩ (by rw [Heap.size_push]; exact Nat.le_refl _)
  rw [Heap.size_push] at ok
  refine wpAny_bind (wpAny_pure ?_)
  subst hC
  have kk : Kp s { s with heap := pushCells (s.heap.push { cls := .type "dict", data := .dict #[] }) scope.names } := Kp.to fun b o e => pushCells_keeps _ _ b o (Heap.get?_push_of_some _ e)
  have own : ∀ n c, (cellsFrom (s.heap.objs.size + 1) scope.names []).lookup n = some c → s.heap.objs.size < c := fun n c e => (ok.empty n c (mem_of_lookup e)).2
  have cut : ∀ n c, (cellsFrom (s.heap.objs.size + 1) scope.names cl).lookup n = some c → (cellsFrom (s.heap.objs.size + 1) scope.names []).lookup n = some c ∨ (cl.lookup n = some c) := fun n c e => by
    rw [cellsFrom_app, lookup_app] at e
    cases q : (cellsFrom (s.heap.objs.size + 1) scope.names []).lookup n with
    | some c' => rw [q] at e; cases e; exact .inl rfl
    | none => rw [q] at e; exact .inr e
  have clIs : ∀ n c, cl.lookup n = some c → ∃ v, V.lookup n = some v ∧ s₀.heap.IsCell c (some v) := fun n c e => by
    obtain ⟨⟨v, hv⟩, a, d⟩ := hcl.mem (n, c) (mem_of_lookup e)
    exact ⟨v, hv, ((R.name hv)).cellOf a d⟩
  have hC0 : s₀.heap.get? s.heap.objs.size = none := k.none (none_at _)
  refine wpAny_pure (h _ ⟨hkind, R.glob, R.blt, R.gl', k.trans kk, hC0, ⟨fun _ => none, fun n => if (cellsFrom (s.heap.objs.size + 1) scope.names []).lookup n = none then V.lookup n else none, ?_, ?_, ?_⟩, ?_, ?_, hnd⟩ kk fun n c e => (cut n c e).imp (own n c) fun q => let ⟨_, _, o, ho, _⟩ := clIs n c q; ⟨o, ho⟩)
  · exact (Heap.Ns.new s.heap (.type "dict")).keeps (pushCells_keeps _ _)
  · intro n c e
    rcases cut n c e with q | q
    · have := (ok.empty n c (mem_of_lookup q)).1
      simpa [q] using this
    · cases q' : (cellsFrom (s.heap.objs.size + 1) scope.names []).lookup n with
      | some c' =>
        have e' : (cellsFrom (s.heap.objs.size + 1) scope.names cl).lookup n = some c := e
        rw [cellsFrom_app, lookup_app, q'] at e'
        cases e'
        have := (ok.empty n c (mem_of_lookup q')).1
        simpa [q'] using this
      | none =>
        obtain ⟨v, hv, hc⟩ := clIs n c q
        have z : (pushCells (s.heap.push { cls := .type "dict", data := .dict #[] }) scope.names).IsCell c (some v) := (hc.keeps fun _ _ e => k.get e).keeps fun _ _ e => kk.get e
        dsimp only
        rw [if_pos q', hv]
        exact z
  · intro x v e
    obtain ⟨a, c, ⟨d, hd⟩, f⟩ := hV.mem (x, v) (lookup_mem e)
    refine .inr ⟨c, ?_, by simp only [f, if_true]; exact a⟩
    show ((cellsFrom (s.heap.objs.size + 1) scope.names cl).lookup x).isSome = true
    rw [cellsFrom_app, lookup_app, f, hd]; rfl
  · intro x y c hx hy hn
    have no : ∀ n, cl.lookup n = some c → False := fun n e => by
      obtain ⟨v, _, o, ho, _⟩ := clIs n c e
      rw [hn] at ho; cases ho
    rcases cut x c hx with q | q
    · rcases cut y c hy with q' | q'
      · exact name_of_addr ok.apart (mem_of_lookup q) (mem_of_lookup q')
      · exact (no y q').elim
    · exact (no x q).elim
  · intro p hp
    obtain ⟨a, d⟩ := hl p hp
    refine ⟨kk.get a, d, Nat.ne_of_lt (Heap.lt_size a), fun n c e q => ?_⟩
    rcases cut n c e with z | z
    · have := own n c z; have lt := Heap.lt_size a; rw [q] at this; exact absurd (Nat.lt_trans this lt) (Nat.lt_irrefl _)
    · obtain ⟨v, _, o, ho, _⟩ := clIs n c z
      rw [q, d] at ho; cases ho

/-- a step that changes no more than objects of an iterator's -/
theorem St.stepOff {wr : List Addr} {h' : Heap} {tk : Nat} (S : St w s₀ env V led s) (hw : ∀ c ∈ wr, s₀.heap.get? c = none) (hl : env.locals ∉ wr) (hc : ∀ n c, env.cells.lookup n = some c → c ∉ wr) (hd : ∀ p ∈ led, p.1 ∉ wr)
    (hk : ∀ b o, b ∉ wr → s.heap.get? b = some o → h'.get? b = some o) : St w s₀ env V led { s with heap := h', toks := tk } := by
  obtain ⟨m, cm, n, c, h⟩ := S.vars
  refine { S with keep := ?_, vars := ⟨m, cm, n.at' fun o e => hk _ o hl e, fun x y e => ?_, h⟩, has := fun p hp => ⟨hk _ _ (hd p hp) (S.has p hp).1, (S.has p hp).2⟩ }
  · obtain ⟨h₁, t₁, e, k⟩ := S.keep
    refine ⟨h', tk, by rw [e], fun b o e' => hk b o (fun q => ?_) (by rw [e]; exact k b o e')⟩
    rw [hw b q] at e'; cases e'
  · obtain ⟨o, ho, hd⟩ := c x y e
    exact ⟨o, hk _ _ (hc x y e) ho, hd⟩
theorem lt_three {c D C : Nat} (h : c < D) (hC : C = D + 1) : c ≠ C ∧ c ≠ D ∧ c < C := by omega
theorem le_up {C D c : Nat} (hC : C = D + 1) (h : C < c) : D ≤ c := by omega

/-- a comprehension over whatever walks: Acc says what stands behind i turns of the made items and of the objects made for them -/
structure CompGo (w : World) (A : Around) (env : Env) (V : List (Str × Value)) (scope : Scope) (cl : List (Str × Addr)) (x : Str) (ifs : List Expr) (elt : Expr) (s : Shared) (it : Value) (s₂ : Shared)
    (I : Addr) (fp wr : List Addr) (n : Nat) (P : Nat → Value → Prop) (Wst : Nat → Heap → Prop) (V' : List (Str × Value)) (Acc : Nat → List Value → List (Addr × Obj) → Prop) : Prop where
  eq : it = .ref I
  walks : Walks PW w A I fp wr n P Wst
  kp : Kp s s₂
  st : Wst 0 s₂.heap
  fp0 : ∀ c ∈ fp, c < s₂.heap.objs.size
  wr0 : ∀ c ∈ wr, s.heap.get? c = none
  live : ∀ i h, Wst i h → ∀ c ∈ wr, ∃ o, h.get? c = some o
  few : n ≤ sizeLine
  vs : ∀ C, AllV (fun p => V.lookup p.1 = some p.2 ∧ (cenvOf scope cl C env).kindOf p.1 = some .cell ∧ (∃ c, cl.lookup p.1 = some c) ∧ (cellsFrom (C + 1) scope.names []).lookup p.1 = none) V'
  hx : ∀ C, (cenvOf scope cl C env).kindOf x = some .local ∨ ((cenvOf scope cl C env).kindOf x = some .cell ∧ ∃ c, (cenvOf scope cl C env).cells.lookup x = some c ∧ C < c)
  nx : V'.lookup x = none
  acc : Acc 0 [] []
  turn : ∀ C i v ys els s₃ E', i < n → P i v → Acc i ys els → Kp s s₃ → (∀ p ∈ els, s₃.heap.get? p.1 = some p.2) → Rd w s₃ (cenvOf scope cl C env) ((x, v) :: V') [] s₃ →
    wpAny (MM w) A (forIn ifs true fun c r => if r = true then do let ok ← isTrue c (cenvOf scope cl C env) (eval c (cenvOf scope cl C env)); pure (ForInStep.yield ok) else pure (ForInStep.yield r)) (fun ok s₄ =>
      if ok = true then wpAny (MM w) A (eval elt (cenvOf scope cl C env)) (fun y s₅ => ∃ nw', Rd w s₃ (cenvOf scope cl C env) ((x, v) :: V') nw' s₅ ∧ Acc (i + 1) (ys ++ [y]) (nw' ++ els)) E' s₄
      else Rd w s₃ (cenvOf scope cl C env) ((x, v) :: V') [] s₄ ∧ Acc (i + 1) ys els) E' s₃

/-- where a comprehension's own frame goes, nothing else changes -/
theorem Rd.offC {C : Addr} {h' : Heap} {tk : Nat} (R : Rd w b env V nw s) (hs : Heap.SameBut C s.heap h') (hb : b.heap.get? C = none) (hn : ∀ p ∈ nw, p.1 ≠ C) : Rd w b env V nw { s with heap := h', toks := tk } := by
  refine { R with kp := ?_, has := fun p hp => ⟨hs.extBut _ _ (hn p hp) (R.has p hp).1, (R.has p hp).2⟩ }
  obtain ⟨h₁, t₁, e, k⟩ := R.kp
  refine ⟨h', tk, by rw [e], fun a o e' => hs.extBut a o (fun q => ?_) (by rw [e]; exact k a o e')⟩
  rw [q, hb] at e'; cases e'

theorem comp_core {elt iter : Expr} {x : Str} {px : Pos} {ifs : List Expr} {scope : Scope} {cl : List (Str × Addr)} {pos : Pos} {RR : Value → Addr → Result → Shared → Prop} {s₂ : Shared} {it : Value} {I : Addr} {fp wr : List Addr} {n : Nat} {P : Nat → Value → Prop}
    {Wst : Nat → Heap → Prop} {V' : List (Str × Value)} {Acc : Nat → List Value → List (Addr × Obj) → Prop} (R : Rd w b env V nw s) (hkind : scope.kind = .function) (hcl : ClOk V env cl)
    (G : CompGo w A env V scope cl x ifs elt s it s₂ I fp wr n P Wst V' Acc)
    (done : ∀ D k ys els C m s', Acc n ys els → Rd w b env V ((D, listO ys k) :: els ++ nw) s' → s'.heap.Ns C m → s.heap.get? C = none → (∀ p ∈ (D, listO ys k) :: els ++ nw, p.1 ≠ C) → RR (.ref D) C (.ok .next) s') :
    wpAny (MM w) A (newList []) (fun acc s₃ => wpAny (MM w) A (newFunctionEnv scope env.globals cl [] env.qual none .none (some env)) (fun cenv s₄ =>
      codeAny (MM w) A (.compStart (.ListComp elt [⟨.Name x px, iter, ifs, 0⟩] scope pos) 0 it acc { cenv with scope := relabel scope env }) (RR acc cenv.locals) s₄) E s₃) E s₂ := by
  have W := G.walks
  have hit := G.eq
  subst hit
  refine wpAny_newObj_type ?_
  generalize hs3 : ({ s₂ with heap := s₂.heap.push { cls := .type "list", data := .seq ([] : List Value).toArray } } : Shared) = s₃
  have hD3 : s₃.heap.get? s₂.heap.objs.size = some (listO [] 0) := by rw [← hs3]; exact Heap.get?_push_size _ rfl
  have k23 : Kp s₂ s₃ := by rw [← hs3]; exact Kp.push _ _
  have sz3 : s₃.heap.objs.size = s₂.heap.objs.size + 1 := by rw [← hs3]; exact Heap.size_push ..
  generalize hD : s₂.heap.objs.size = D at hD3 sz3
  have hDs : s.heap.get? D = none := G.kp.none (by rw [← hD]; exact none_at _)
  refine comp_env (C := s₃.heap.objs.size) (V' := V') (led := [(D, listO [] 0)]) R hkind (G.kp.trans k23) hcl rfl (G.vs _) (fun p hp => ?_) (by simp) fun s₄ S₄ k34 cells₄ => ?_
  · rw [List.mem_singleton] at hp; subst hp; exact ⟨hD3, hDs⟩
  generalize hC : s₃.heap.objs.size = C at S₄ cells₄
  have fpC : ∀ c ∈ fp, c ≠ C ∧ c ≠ D ∧ c < C := fun c hc => lt_three (hD ▸ G.fp0 c hc) (hC ▸ sz3)
  have hst4 : Wst 0 s₄.heap := W.frame _ _ _ G.st fun c _ o e => k34.get (k23.get e)
  have loop : codeAny (MM w) A (.compLoop (.ListComp elt [⟨.Name x px, iter, ifs, 0⟩] scope pos) 0 (.ref I) (.ref D) (cenvOf scope cl C env)) (RR (.ref D) C) s₄ := by
    refine codeAny_compLoop_tests (fun k s' => ∃ i ys els e, i + k = n ∧ ys.length ≤ i ∧ Acc i ys els ∧ (∀ p ∈ els, p.1 ∉ wr) ∧ Wst i s'.heap ∧ St w s (cenvOf scope cl C env) V' ((D, listO ys e) :: els) s') ?_ n
      ⟨0, [], [], 0, by omega, by simp, G.acc, (fun _ hp => nomatch hp), hst4, S₄⟩
    have hCw : C ∉ wr := fun q => (fpC C (W.sub C q)).1 rfl
    have hDw : D ∉ wr := fun q => (fpC D (W.sub D q)).2.1 rfl
    have hcw : ∀ n c, (cenvOf scope cl C env).cells.lookup n = some c → c ∉ wr := fun n c e q => by
      rcases cells₄ n c e with lt | ⟨o, ho⟩
      · exact Nat.lt_asymm lt (fpC c (W.sub c q)).2.2
      · rw [G.wr0 c q] at ho; cases ho
    rintro k s₅ ⟨i, ys, els, e, hik, hlen, hacc, hels, hst, S₅⟩
    have hled : ∀ p ∈ (D, listO ys e) :: els, p.1 ∉ wr := fun p hp => by
      rcases List.mem_cons.mp hp with rfl | hp
      · exact hDw
      · exact hels p hp
    by_cases hi : i < n
    · refine W.item i s₅ _ _ hi hst fun v h' tk hP hst' hk' => ?_
      have S₆ := S₅.stepOff (tk := tk) G.wr0 hCw hcw hled hk'
      dsimp only
      refine wpAny_assign_Name ?_
      refine S₆.store' (by
        rcases G.hx C with q | ⟨q, c, q', lt⟩
        · exact .inl q
        · exact .inr ⟨q, c, q', G.kp.none (none_ge (by rw [hD]; exact le_up (hC ▸ sz3) lt))⟩) fun s₇ a S₇ kb ha => ?_
      have hafp : a ∉ fp := by
        rcases ha with ⟨_, q0⟩ | ⟨hk, q⟩
        · exact fun q => (fpC a q).1 q0
        · rcases G.hx C with z | ⟨_, c, z, lt⟩
          · rw [z] at hk; cases hk
          · rw [q] at z; cases z; exact fun q' => Nat.lt_asymm lt (fpC a q').2.2
      have hst7 : Wst (i + 1) s₇.heap := W.frame _ _ _ hst' fun c hc o e => kb.get (fun q => hafp (q ▸ hc)) e
      refine wpAny_mono (G.turn C i v ys els s₇ _ hi hP hacc S₇.keep (fun p hp => S₇.at (.tail _ hp)) S₇.rd) (fun ok s₈ h₈ => ?_) fun _ _ e => e
      have back : ∀ {nw' s₉}, Rd w s₇ (cenvOf scope cl C env) ((x, v) :: V') nw' s₉ → St w s (cenvOf scope cl C env) V' ((D, listO ys e) :: (nw' ++ els)) s₉ ∧ Wst (i + 1) s₉.heap ∧ ∀ p ∈ nw' ++ els, p.1 ∉ wr := by
        intro nw' s₉ R₉
        have S₉ := S₇.back R₉
        refine ⟨(S₉.weak (V' := V') (fun y u e => ?_) (List.Sublist.refl _)).perm List.perm_middle, W.frame _ _ _ hst7 fun c _ o e => R₉.kp.get e, fun p hp q => ?_⟩
        · rw [List.lookup_cons]
          cases hb : y == x with
          | true => rw [beq_iff_eq.mp hb, G.nx] at e; cases e
          | false => exact e
        · rcases List.mem_append.mp hp with hp | hp
          · obtain ⟨o, ho⟩ := G.live _ _ hst7 _ q
            rw [(R₉.has p hp).2] at ho; cases ho
          · exact hels p hp q
      cases ok with
      | false =>
        obtain ⟨R₈, hacc'⟩ := h₈
        obtain ⟨S₈, hst8, hw8⟩ := back R₈
        exact ⟨k - 1, by omega, i + 1, ys, els, e, by omega, by omega, hacc', hw8, hst8, S₈⟩
      | true =>
        refine wpAny_mono h₈ (fun y s₉ h₉ => ?_) fun _ _ e => e
        obtain ⟨nw', R₉, hacc'⟩ := h₉
        obtain ⟨S₉, hst9, hw9⟩ := back R₉
        refine wpAny_list_append_plain (items := ys.toArray) ⟨e, S₉.at (.head _)⟩ (fun h₁ hl₁ hs₁ => ?_) ?_
        · obtain ⟨e', ho⟩ := hl₁
          have kb' : KeepsBut D s₉ { s₉ with heap := h₁ } := ⟨h₁, s₉.toks, rfl, fun b o hb e => hs₁.extBut b o hb e⟩
          refine ⟨k - 1, by omega, i + 1, ys ++ [y], nw' ++ els, e', by omega, by simp; omega, hacc', hw9, W.frame _ _ _ hst9 fun c hc o e => kb'.get (fpC c hc).2.1 e, S₉.mut1 kb' (by simpa using ho)⟩
        · show ys.toArray.size ≤ sizeLine
          have := G.few
          rw [List.size_toArray]; omega
    · have hin : i = n := by omega
      subst hin
      refine W.done _ _ _ hst fun h' tk hk' => ?_
      have S₆ := S₅.stepOff (tk := tk) G.wr0 hCw hcw hled hk'
      obtain ⟨m, cm, ns, cs, hv⟩ := S₆.vars
      have R' := R.keeps S₆.keep
      refine done D e ys els C m _ hacc { R' with has := fun p hp => ?_, nd := ?_ } ns S₆.new fun p hp => ?_
      · rcases List.mem_append.mp (List.cons_append .. ▸ hp : p ∈ ((D, listO ys e) :: els) ++ nw) with hp | hp
        · have a := S₆.has p hp
          exact ⟨a.1, R.kp.none a.2.1⟩
        · exact R'.has p hp
      · have e1 : ((D, listO ys e) :: els ++ nw).map (·.1) = ((D, listO ys e) :: els).map (·.1) ++ nw.map (·.1) := by simp
        rw [e1]
        refine List.nodup_append.mpr ⟨S₆.nd, R.nd, fun x hx y hy q => ?_⟩
        obtain ⟨p, hp, rfl⟩ := List.mem_map.mp hx
        obtain ⟨p', hp', rfl⟩ := List.mem_map.mp hy
        exact fresh_ne (S₆.has p hp).2.1 (R.has p' hp').1 q.symm
      · rcases List.mem_append.mp (List.cons_append .. ▸ hp : p ∈ ((D, listO ys e) :: els) ++ nw) with hp | hp
        · exact (S₆.has p hp).2.2.1
        · exact fun q => fresh_ne S₆.new (R.has p hp).1 q
  exact codeAny_compStart_list loop (W.self 0 _ _ _ hst4 loop)

theorem comp1 {elt iter : Expr} {x : Str} {px : Pos} {ifs : List Expr} {scope : Scope} {cl : List (Str × Addr)} {pos : Pos} {Q : Value → Shared → Prop} (R : Rd w b env V nw s)
    (hclos : closureFor scope env = pure cl) (hkind : scope.kind = .function) (hnames : ∀ y ∈ scope.names, y.2 = .local → scope.names.lookup y.1 = some .local) (hcl : ClOk V env cl)
    (hfold : ∀ x, foldedSetIterable iter env x = pure x)
    (h : wpAny (MM w) A (eval iter env) (fun xv s₁ => wpAny (MM w) A (pyIter xv) (fun it s₂ => ∃ I fp wr n P Wst V' Acc, CompGo w A env V scope cl x ifs elt s it s₂ I fp wr n P Wst V' Acc ∧
      ∀ D k ys els s', Acc n ys els → Rd w b env V ((D, listO ys k) :: els ++ nw) s' → Q (.ref D) s') E s₁) E s) :
    wpAny (MM w) A (eval (.ListComp elt [⟨.Name x px, iter, ifs, 0⟩] scope pos) env) Q E s := by
  rw [eval_ListComp]
  refine wpAny_comprehension_free (use := none) rfl hfold hclos hkind hnames (wpAny_mono h (fun xv s₁ h₁ => wpAny_mono h₁ (fun it s₂ h₂ => ?_) fun _ _ e => e) fun _ _ e => e)
  obtain ⟨I, fp, wr, n, P, Wst, V', Acc, G, done⟩ := h₂
  refine comp_core (RR := fun acc C => compPost (MM w) A E none Q acc C) R hkind hcl G fun D k ys els C m s' hacc R' hns hC hn => ?_
  exact ⟨m, hns, fun h' hs' => done D k ys els _ hacc (R'.offC hs' (R.kp.none hC) hn)⟩

/-- y = [..]: the name is stored ahead of the comprehension's own names going -/
theorem compAssign {elt iter : Expr} {x y : Str} {px py : Pos} {ifs : List Expr} {scope : Scope} {cl : List (Str × Addr)} {pos spos : Pos} {Q : Flow → Shared → Prop} (S : St w s₀ env V led s)
    (hsw : swapsWith (.ListComp elt [⟨.Name x px, iter, ifs, 0⟩] scope pos) (some (.Name y py)) spos.line env = pure true) (hy : env.kindOf y = some .local)
    (hclos : closureFor scope env = pure cl) (hkind : scope.kind = .function) (hnames : ∀ y ∈ scope.names, y.2 = .local → scope.names.lookup y.1 = some .local) (hcl : ClOk V env cl)
    (hfold : ∀ x, foldedSetIterable iter env x = pure x)
    (h : wpAny (MM w) A (eval iter env) (fun xv s₁ => wpAny (MM w) A (pyIter xv) (fun it s₂ => ∃ I fp wr n P Wst V' Acc, CompGo w A env V scope cl x ifs elt s it s₂ I fp wr n P Wst V' Acc ∧
      ∀ D k ys els s', Acc n ys els → St w s₀ env ((y, .ref D) :: V) ((D, listO ys k) :: els ++ led) s' → Q .next s') E s₁) E s) :
    wpAny (MM w) A (exec (.Assign [.Name y py] (.ListComp elt [⟨.Name x px, iter, ifs, 0⟩] scope pos) spos) env) Q E s := by
  rw [exec_Assign_Name_used _ _ _ _ hsw]
  refine wpAny_bind (wpAny_standAt (wpAny_bind ?_))
  show wpAny _ A (do let _ ← comprehension (.ListComp elt [⟨.Name x px, iter, ifs, 0⟩] scope pos) scope env _ (newList []) false (eval iter env) (some (assign (.Name y py) env))) _ _ s
  refine wpAny_bind (wpAny_mono (wpAny_comprehension_free (use := some (assign (.Name y py) env)) (Q := fun _ s' => Q .next s') rfl hfold hclos hkind hnames
    (wpAny_mono h (fun xv s₁ h₁ => wpAny_mono h₁ (fun it s₂ h₂ => ?_) fun _ _ e => e) fun _ _ e => e)) (fun _ s' hq => wpAny_pure (wpAny_pure hq)) fun _ _ e => e)
  obtain ⟨I, fp, wr, n, P, Wst, V', Acc, G, done⟩ := h₂
  refine comp_core (RR := fun acc C => compPost (MM w) A E (some (assign (.Name y py) env)) (fun _ s' => Q .next s') acc C) S.rd hkind hcl G fun D k ys els C m s' hacc R' hns hC hn => ?_
  have S' := S.back R'
  show wpAny _ A (assign (.Name y py) env (.ref D)) _ _ _
  refine wpAny_assign_Name (S'.store' (.inl hy) fun s'' a S'' kb ha => ?_)
  obtain ⟨mE, cmE, nE, cE, _⟩ := S.vars
  have hLC : env.locals ≠ C := fun q => by obtain ⟨o, _, _, ho, _⟩ := nE; rw [q, hC] at ho; cases ho
  have haC : C ≠ a := by
    rcases ha with ⟨_, q⟩ | ⟨q, _⟩
    · rw [q]; exact Ne.symm hLC
    · rw [hy] at q; cases q
  refine ⟨m, hns.at' fun o e => kb.get haC e, fun h'' hs'' => done D k ys els _ hacc ?_⟩
  have e0 : ((D, listO ys k) :: els ++ []) ++ led = (D, listO ys k) :: els ++ led := by simp
  rw [e0] at S''
  refine S''.stepOff (wr := [C]) (tk := s''.toks) (fun c hc => ?_) (fun q => hLC (List.mem_singleton.mp q)) (fun n c hc q => ?_) (fun p hp q => ?_) fun a o ha e => hs''.extBut a o (fun q => ha (List.mem_singleton.mpr q)) e
  · rw [List.mem_singleton.mp hc]; exact S.keep.none hC
  · obtain ⟨o, ho, _⟩ := cE n c hc
    rw [List.mem_singleton.mp q, hC] at ho; cases ho
  · rcases List.mem_append.mp (List.cons_append .. ▸ hp : p ∈ ((D, listO ys k) :: els) ++ led) with hp | hp
    · exact hn p (by simpa using hp) (List.mem_singleton.mp q)
    · have := (S.has p hp).1
      rw [List.mem_singleton.mp q, hC] at this; cases this
end
end
section
def sOf (l : List Nat) : Str := ⟨l.toArray⟩
section
variable {w : World} {b s s' s₀ : Shared} {env : Env} {V : List (Str × Value)} {nw led : List (Addr × Obj)} {A : Around} {E : Value → Shared → Prop}

theorem newList_R {vs : List Value} {Q : Value → Shared → Prop} (R : Rd w b env V nw s) (h : ∀ a s', Rd w b env V ((a, listO vs 0) :: nw) s' → Q (.ref a) s') (hsz : vs.length ≤ sizeLine) : wpAny (MM w) A (newList vs) Q E s :=
  wpAny_newObj_type (h _ _ (R.push _)) (by show vs.toArray.size ≤ sizeLine; rw [List.size_toArray]; exact hsz)
theorem newTuple_R {vs : List Value} {Q : Value → Shared → Prop} (R : Rd w b env V nw s) (h : ∀ a s', Rd w b env V ((a, tupO vs) :: nw) s' → Q (.ref a) s') (hsz : vs.length ≤ sizeLine) : wpAny (MM w) A (newTuple vs) Q E s :=
  wpAny_newObj_type (h _ _ (R.push _)) (by show vs.toArray.size ≤ sizeLine; rw [List.size_toArray]; exact hsz)

/-- range(N) with a written N, iterated -/
theorem range_it {N : Nat} {k : Nat} {p1 p2 p3 : Pos} {Q : Value → Shared → Prop} (R : Rd w b env V nw s) (hk : env.kindOf "range" = some .globalImplicit) (hN : N ≤ 1000)
    (h : ∀ I s₂, Kp s s₂ → s.heap.get? I = none → IsRangeIter s₂.heap I 0 N 1 → I < s₂.heap.objs.size → Q (.ref I) s₂) :
    wpAny (MM w) A (eval (.Call (.Name "range" p1) [.Constant (.int N) k p2] [] p3) env) (fun xv s₁ => wpAny (MM w) A (pyIter xv) Q E s₁) E s := by
  refine Call_ (R.Bl (by decide) boot_range hk (callWith_type1 (args_cons (wpAny_Constant_int (args_nil ?_)))))
  refine call_range_1 ?_
  have hsm : Builtin.Range.small 0 (N : Int) 1 = true := small_one (by omega) (by omega) (by omega) (by omega)
  refine wpAny_pyIter_range (IsRange.new _ _ _ _ _ _ _) hsm ?_
  have hsz : Builtin.Range.rangeSize 0 (N : Int) 1 = N := by rw [rangeSize_one]; split <;> omega
  rw [hsz]
  refine h _ _ (Kp.to fun b o e => Heap.get?_push_of_some _ (Heap.get?_push_of_some _ e)) ?_ (Heap.get?_push_size _ rfl) ?_
  · exact none_ge (by show s.heap.objs.size ≤ (s.heap.push _).objs.size; rw [Heap.size_push]; exact Nat.le_succ _)
  · show (s.heap.push _).objs.size < ((s.heap.push _).push _).objs.size
    simp only [Heap.size_push]; exact Nat.lt_succ_self _

abbrev TurnR (w : World) (A : Around) (env : Env) (scope : Scope) (cl : List (Str × Addr)) (x : Str) (ifs : List Expr) (elt : Expr) (s : Shared) (V' : List (Str × Value)) (Acc : Nat → List Value → List (Addr × Obj) → Prop) (C : Addr) (i : Nat) (v : Value) : Prop :=
  ∀ ys els s₃ (E' : Value → Shared → Prop), Acc i ys els → Kp s s₃ → (∀ p ∈ els, s₃.heap.get? p.1 = some p.2) → Rd w s₃ (cenvOf scope cl C env) ((x, v) :: V') [] s₃ →
    wpAny (MM w) A (forIn ifs true fun c r => if r = true then do let ok ← isTrue c (cenvOf scope cl C env) (eval c (cenvOf scope cl C env)); pure (ForInStep.yield ok) else pure (ForInStep.yield r)) (fun ok s₄ =>
      if ok = true then wpAny (MM w) A (eval elt (cenvOf scope cl C env)) (fun y s₅ => ∃ nw', Rd w s₃ (cenvOf scope cl C env) ((x, v) :: V') nw' s₅ ∧ Acc (i + 1) (ys ++ [y]) (nw' ++ els)) E' s₄
      else Rd w s₃ (cenvOf scope cl C env) ((x, v) :: V') [] s₄ ∧ Acc (i + 1) ys els) E' s₃
/-- what a comprehension takes from around it, and its own name -/
structure Takes (V : List (Str × Value)) (env : Env) (scope : Scope) (cl : List (Str × Addr)) (x : Str) (V' : List (Str × Value)) : Prop where
  clos : closureFor scope env = pure cl
  kind : scope.kind = .function
  names : ∀ y ∈ scope.names, y.2 = .local → scope.names.lookup y.1 = some .local
  clok : ClOk V env cl
  vs : ∀ C, AllV (fun p => V.lookup p.1 = some p.2 ∧ (cenvOf scope cl C env).kindOf p.1 = some .cell ∧ (∃ c, cl.lookup p.1 = some c) ∧ (cellsFrom (C + 1) scope.names []).lookup p.1 = none) V'
  hx : ∀ C, (cenvOf scope cl C env).kindOf x = some .local ∨ ((cenvOf scope cl C env).kindOf x = some .cell ∧ ∃ c, (cenvOf scope cl C env).cells.lookup x = some c ∧ C < c)
  nx : V'.lookup x = none
theorem rangeGo {N : Nat} {elt : Expr} {x : Str} {ifs : List Expr} {scope : Scope} {cl : List (Str × Addr)} {V' : List (Str × Value)} {Acc : Nat → List Value → List (Addr × Obj) → Prop} {I : Addr} {s₂ : Shared} (hh : A.handled = none) (T : Takes V env scope cl x V') (hN : N ≤ 1000)
    (kp : Kp s s₂) (hI : s.heap.get? I = none) (hit : IsRangeIter s₂.heap I 0 N 1) (hlt : I < s₂.heap.objs.size) (acc : Acc 0 [] []) (turn : ∀ C i t, i < N → TurnR w A env scope cl x ifs elt s V' Acc C i (.int (i : Nat) t)) :
    CompGo w A env V scope cl x ifs elt s (.ref I) s₂ I [I] [I] N (fun i v => ∃ t, v = .int (0 + (i : Nat) * 1) t) (fun i h => IsRangeIter h I (0 + (i : Nat) * 1) ((N : Int) - (i : Nat)) 1) V' Acc := by
  refine ⟨rfl, Walks.range hh I 0 1 N, kp, ?_, fun c hc => ?_, fun c hc => ?_, fun i h st c hc => ?_, ?_, T.vs, T.hx, T.nx, acc, ?_⟩
  · simpa using hit
  · rw [List.mem_singleton] at hc; subst hc; exact hlt
  · rw [List.mem_singleton] at hc; subst hc; exact hI
  · rw [List.mem_singleton] at hc; subst hc; exact ⟨_, st⟩
  · show N ≤ 2 ^ 24; omega
  · rintro C i v ys els s₃ E' hi ⟨t, rfl⟩ hacc k he R₃
    have e : (0 : Int) + (i : Nat) * 1 = (i : Nat) := by omega
    rw [e] at R₃ ⊢
    exact turn C i t hi ys els s₃ E' hacc k he R₃

/-- a comprehension over range(N), N written -/
theorem compRange {N : Nat} {elt : Expr} {x : Str} {px p1 p2 p3 pos : Pos} {k : Nat} {ifs : List Expr} {scope : Scope} {cl : List (Str × Addr)} {Q : Value → Shared → Prop} (hh : A.handled = none) (R : Rd w b env V nw s)
    (V' : List (Str × Value)) (Acc : Nat → List Value → List (Addr × Obj) → Prop) (T : Takes V env scope cl x V') (hk : env.kindOf "range" = some .globalImplicit) (hN : N ≤ 1000)
    (acc : Acc 0 [] []) (turn : ∀ C i t, i < N → TurnR w A env scope cl x ifs elt s V' Acc C i (.int (i : Nat) t))
    (done : ∀ D k ys els s', Acc N ys els → Rd w b env V ((D, listO ys k) :: els ++ nw) s' → Q (.ref D) s') :
    wpAny (MM w) A (eval (.ListComp elt [⟨.Name x px, .Call (.Name "range" p1) [.Constant (.int N) k p2] [] p3, ifs, 0⟩] scope pos) env) Q E s :=
  comp1 R T.clos T.kind T.names T.clok (fun _ => rfl) (range_it R hk hN fun _ _ kp hI hit hlt => ⟨_, _, _, _, _, _, _, _, rangeGo hh T hN kp hI hit hlt acc turn, done⟩)
/-- y = [.. for x in range(N) ..], y a plain local -/
theorem compRangeA {N : Nat} {elt : Expr} {x y : Str} {px py p1 p2 p3 pos spos : Pos} {k : Nat} {ifs : List Expr} {scope : Scope} {cl : List (Str × Addr)} {Q : Flow → Shared → Prop} (hh : A.handled = none) (S : St w s₀ env V led s)
    (V' : List (Str × Value)) (Acc : Nat → List Value → List (Addr × Obj) → Prop) (T : Takes V env scope cl x V') (hk : env.kindOf "range" = some .globalImplicit) (hN : N ≤ 1000)
    (hsw : swapsWith (.ListComp elt [⟨.Name x px, .Call (.Name "range" p1) [.Constant (.int N) k p2] [] p3, ifs, 0⟩] scope pos) (some (.Name y py)) spos.line env = pure true) (hy : env.kindOf y = some .local)
    (acc : Acc 0 [] []) (turn : ∀ C i t, i < N → TurnR w A env scope cl x ifs elt s V' Acc C i (.int (i : Nat) t))
    (done : ∀ D k ys els s', Acc N ys els → St w s₀ env ((y, .ref D) :: V) ((D, listO ys k) :: els ++ led) s' → Q .next s') :
    wpAny (MM w) A (exec (.Assign [.Name y py] (.ListComp elt [⟨.Name x px, .Call (.Name "range" p1) [.Constant (.int N) k p2] [] p3, ifs, 0⟩] scope pos) spos) env) Q E s :=
  compAssign S hsw hy T.clos T.kind T.names T.clok (fun _ => rfl) (range_it S.rd hk hN fun _ _ kp hI hit hlt => ⟨_, _, _, _, _, _, _, _, rangeGo hh T hN kp hI hit hlt acc turn, done⟩)
end
end
section
/-! ## Bits and texts -/
theorem bitAnd_nat (a b : Nat) : Builtin.bitAnd (a : Int) (b : Int) = ((a &&& b : Nat) : Int) := by
  unfold Builtin.bitAnd
  simp
theorem bitOr_nat (a b : Nat) : Builtin.bitOr (a : Int) (b : Int) = ((a ||| b : Nat) : Int) := by
  have n1 : ∀ k : Nat, Builtin.bitNot (k : Int) < 0 := fun k => by unfold Builtin.bitNot; omega
  have n2 : ∀ k : Int, Builtin.bitNot (Builtin.bitNot k) = k := fun k => by unfold Builtin.bitNot; omega
  unfold Builtin.bitOr Builtin.bitAnd
  rw [decide_eq_false (Int.not_le.mpr (n1 a)), decide_eq_false (Int.not_le.mpr (n1 b))]
  simp only [n2, Int.toNat_natCast]
theorem fdiv_pow (a i : Nat) : (a : Int).fdiv (2 ^ ((i : Nat) : Int).toNat) = ((a / 2 ^ i : Nat) : Int) := by
  rw [Int.fdiv_eq_ediv_of_nonneg _ (by exact Int.pow_nonneg (by decide))]
  simp
theorem bit_test (a i : Nat) : (Builtin.bitAnd ((a : Int).fdiv (2 ^ ((i : Nat) : Int).toNat)) 1 != 0) = a.testBit i := by
  rw [fdiv_pow, show (1 : Int) = ((1 : Nat) : Int) from rfl, bitAnd_nat, Nat.testBit, Nat.shiftRight_eq_div_pow, Nat.and_comm]
  cases h : (1 &&& a / 2 ^ i) with
  | zero => rfl
  | succ n => simp; omega
theorem sOf_cps (l : List Nat) : (sOf l).cps.toList = l := rfl
theorem sOf_len (l : List Nat) : (sOf l).length = l.length := by unfold sOf Str.length; exact List.size_toArray
theorem sOf_inj {a b : List Nat} (h : sOf a = sOf b) : a = b := by
  have := congrArg (fun x : Str => x.cps.toList) h
  simpa [sOf] using this
theorem sOf_app (a b : List Nat) : sOf a ++ sOf b = sOf (a ++ b) := by
  show (⟨a.toArray ++ b.toArray⟩ : Str) = ⟨(a ++ b).toArray⟩
  simp
theorem sOf_beq (a b : List Nat) : (sOf a == sOf b) = (a == b) := by
  rw [Bool.eq_iff_iff]; simp only [beq_iff_eq]
  exact ⟨sOf_inj, fun h => h ▸ rfl⟩
theorem sOf_bne (a b : List Nat) : (sOf a != sOf b) = (a != b) := by unfold bne; rw [sOf_beq]
theorem item_sOf {l : List Nat} {i : Nat} (h : i < l.length) : Txt.item (sOf l) (i : Int) = sOf [l.getD i 0] := by
  unfold Txt.item Txt.charAt
  have e : seqIndex? (i : Int) (sOf l).length = some i := by
    unfold seqIndex?
    rw [sOf_len]
    simp
    omega
  rw [e]
  simp [sOf, h]
theorem join_sOf_nil : ∀ ls : List (List Nat), Txt.join (sOf []) (ls.map sOf) = sOf ls.flatten := by
  intro ls
  show Builtin.Str.glued _ _ = _
  rw [StrLaws.glued_eq_join]
  induction ls with
  | nil => rfl
  | cons a r ih =>
    cases r with
    | nil => simp [Str.join]
    | cons b r =>
      show sOf a ++ sOf [] ++ Str.join (sOf []) ((b :: r).map sOf) = _
      rw [ih, sOf_app, sOf_app]; simp
theorem StrsAre.app {a b : List Value} {x y : List Str} (h : StrsAre a x) (g : StrsAre b y) : StrsAre (a ++ b) (x ++ y) := by
  induction h with
  | nil => exact g
  | cons y t _ ih => exact .cons y t ih
theorem StrsAre.len {a : List Value} {x : List Str} (h : StrsAre a x) : a.length = x.length := by
  induction h with
  | nil => rfl
  | cons _ _ _ ih => simp [ih]
theorem StrsAre.at {a : List Value} {x : List Str} (h : StrsAre a x) {i : Nat} {y : Str} (e : x[i]? = some y) : ∃ t, a[i]? = some (.str y t) := by
  induction h generalizing i with
  | nil => simp at e
  | cons z t _ ih =>
    cases i with
    | zero => simp at e; subst e; exact ⟨t, rfl⟩
    | succ i => exact ih (by simpa using e)
theorem isList_of {h : Heap} {a : Addr} {vs : List Value} {n : Nat} (e : h.get? a = some (listO vs n)) : h.IsList a vs.toArray := ⟨_, e, rfl, n, rfl⟩
theorem isTup_of {h : Heap} {a : Addr} {vs : List Value} (e : h.get? a = some (tupO vs)) : IsTup h a vs.toArray := ⟨_, e, rfl, 0, rfl⟩
theorem item_L {w : World} {A : Around} {E : Value → Shared → Prop} {s : Shared} {value slice : Expr} {a : Addr} {vs : List Value} {n : Nat} {k : Int} {u : Tok} {v : Value} {Q : Value → Shared → Prop} (ho : s.heap.get? a = some (listO vs n)) (h0 : 0 ≤ k) (hfit : k < 2 ^ 63)
    (hx : vs[k.toNat]? = some v) (h : Q v s) (hs : subscripted slice false (.ref a) (.int k u) = operate [.ref a, .int k u] (getItem (.ref a) (.int k u)) := by with_unfolding_all rfl) :
    wpAny (MM w) A (subscriptTail value slice (.ref a) (.int k u)) Q E s :=
  tail_any (isList_of ho).typeIs slot_list_getitem.lookup (wpAny_getItem_list (isList_of ho) h0 hfit (by simpa using hx) h) hs
theorem IntsAre.app {a b : List Value} {x y : List Int} (h : IntsAre a x) (g : IntsAre b y) : IntsAre (a ++ b) (x ++ y) := by
  induction h with
  | nil => exact g
  | cons y t _ ih => exact .cons y t ih
theorem IntsAre.at {a : List Value} {x : List Int} (h : IntsAre a x) {i : Nat} {y : Int} (e : x[i]? = some y) : ∃ t, a[i]? = some (.int y t) := by
  induction h generalizing i with
  | nil => simp at e
  | cons z t _ ih =>
    cases i with
    | zero => simp at e; subst e; exact ⟨t, rfl⟩
    | succ i => exact ih (by simpa using e)
/-- the ints of a list are numbers -/
abbrev NatsAre (vs : List Value) (ns : List Nat) : Prop := IntsAre vs (ns.map fun n : Nat => (n : Int))
theorem NatsAre.at {a : List Value} {x : List Nat} (h : NatsAre a x) {i y : Nat} (e : x[i]? = some y) : ∃ t, a[i]? = some (.int (y : Nat) t) := IntsAre.at h (by simp [e])
def cutL (row : List Nat) (part : Nat) : List Nat := (List.range 4).map fun c => if part.testBit c then row.getD c 0 else 46
end
section
--LINES
local macro_rules | `(tactic| walk_at "eval Name") => `(tactic| first
  | refine Rd.Nm (Rd.any (by assumption) (by rfl)) (by rfl) ?_
  | refine Rd.Gb (Rd.any (by assumption) (by rfl)) (by rfl) (by rfl) ?_
  | refine Rd.Bl (Rd.any (by assumption) (by rfl)) (by decide) (by first | exact boot_len | exact boot_range | exact boot_sum | exact boot_sorted | exact boot_enumerate | exact boot_zip | exact PyProof.Rows.boot_set | exact PyProof.Rows.boot_type | exact PyProof.Rows.boot_list | exact PyProof.Rows.boot_str) (by rfl) ?_)
local macro_rules | `(tactic| walk_at "side") => `(tactic| (refine ⟨rfl, rfl, by decide, ?_, ?_, fun C => .inl rfl, rfl⟩; ((repeat (refine And.intro ⟨⟨_, rfl⟩, rfl, rfl⟩ ?_)); exact trivial); (intro C; (repeat (refine And.intro ⟨rfl, rfl, ⟨_, rfl⟩, rfl⟩ ?_)); exact trivial)))
local macro_rules | `(tactic| walk_at "newTuple") => `(tactic| (refine newTuple_R (Rd.any (by assumption) (by rfl)) ?_ (by simp [sizeLine]); intro a s' R))
local macro_rules | `(tactic| walk_at "newList") => `(tactic| (refine newList_R (Rd.any (by assumption) (by rfl)) ?_ (by simp [sizeLine]); intro a s' R))
local macro_rules | `(tactic| walk_at "w") => `(tactic| (walk1; try dsimp only))
--ENDLINES
/-! ## _law_cut -/
set_option maxHeartbeats 4000000 in
theorem cut_ok {w : World} {s : Shared} {A : Around} {Q E : Value → Shared → Prop} {row : List Nat} {part : Nat} {t u : Tok} (G : Gl w s.heap) (hA : Rm 1 A) (hrow : row.length = 4)
    (h : ∀ s' t', Kp s s' → Q (.str (sOf (cutL row part)) t') s') :
    wpAny (MM w) A (call (.ref 226) [.str (sOf row) t, .int part u]) Q E s := by
  refine wpAny_call ?_
  refine enter (fd := fd226) (c := 225) (binds := [("row", .str (sOf row) t), ("part", .int part u)]) (V := [("row", .str (sOf row) t), ("part", .int part u)]) (body := bodO (stm 13)) (by rfl) (by decide) rfl G hA.room rfl (BindsTo.of_eq rfl) rfl rfl rfl ?_ ?_ ?_ rfl rfl rfl
  · intro k x hx
    simp only [List.mem_cons, List.not_mem_nil, or_false] at hx
    rcases hx with rfl | rfl <;> exact .inr ⟨rfl, rfl⟩
  · intro L
    exact ⟨.inr ⟨rfl, rfl, rfl⟩, .inr ⟨rfl, rfl, rfl⟩, trivial⟩
  · intro L s₁ hL S
    have R := S.rd
    refine wpAny_execs_cons (wpAny_Return_some ?_)
    walk1
    walk1
    walk1
    walk1
    walk1
    refine compRange (cl := [("row", L + 1), ("part", L + 2)]) (hA.deeper _).hh (R.tok _) [("row", .str (sOf row) t), ("part", .int part u)]
      (fun i ys els => els = [] ∧ StrsAre ys ((List.range i).map fun c => sOf [if part.testBit c then row.getD c 0 else 46])) (by walk_at "side") rfl (by decide) ⟨rfl, .nil⟩ ?_ ?_
    · rintro C i ti hi ys els s₃ E' ⟨rfl, hys⟩ k - R₃
      have hi : i < 4 := hi
      refine wpAny_tests_nil ?_
      rw [if_pos rfl]
      clear R
      iterate 10 walk1
      rw [bit_test]
      by_cases hb : part.testBit i = true
      · rw [if_pos hb]
        walk1
        walk1
        walk1
        refine item_str (fitsSsize_of (N := 9223372036854775808) (by omega) (by omega) (Int.le_refl _)) (by omega) (by rw [sOf_len, hrow]; omega) fun _ => ?_
        rw [item_sOf (by omega)]
        refine ⟨[], R₃.tok _, rfl, ?_⟩
        rw [List.range_succ, List.map_append]
        exact StrsAre.app hys (by simpa [hb] using StrsAre.cons _ _ .nil)
      · rw [if_neg hb]
        walk1
        refine ⟨[], R₃.tok _, rfl, ?_⟩
        rw [List.range_succ, List.map_append]
        refine StrsAre.app hys ?_
        simp only [List.map_cons, List.map_nil, if_neg hb]
        exact StrsAre.cons _ _ .nil
    · rintro D kk ys els s' ⟨rfl, hys⟩ R'
      walk1
      refine join_list (isList_of (R'.at (.head _))) (by simpa using hys) ?_ fun t' k' => ?_
      · rw [show (Str.ofString "").length = 0 from by decide]
        simp [sOf_len, List.range, List.range.loop]
      · have e : Txt.join (Str.ofString "") ((List.range 4).map fun c => sOf [if part.testBit c then row.getD c 0 else 46]) = sOf (cutL row part) := by
          have := join_sOf_nil ((List.range 4).map fun c => [if part.testBit c then row.getD c 0 else 46])
          rw [List.map_map] at this
          exact this
        have g := h { s' with toks := k' } t' (S.keep.trans (R'.kp.trans (Kp.tok _ _)))
        rw [← e] at g
        simpa using g

/-! ## _law_rule -/
set_option maxHeartbeats 4000000 in
theorem rule_ok {w : World} {s : Shared} {A : Around} {Q E : Value → Shared → Prop} {n : Int} {t : Tok} (G : Gl w s.heap) (hA : Rm 1 A)
    (h : ∀ s' a (need goal : Nat) t1 t2, Kp s s' → s'.heap.get? a = some (tupO [.int need t1, .int goal t2]) → s.heap.get? a = none → need < 16 → goal < 4 → Q (.ref a) s') :
    wpAny (MM w) A (call (.ref 231) [.int n t]) Q E s := by
  refine wpAny_call ?_
  refine enter (fd := fd231) (c := 230) (binds := [("n", .int n t)]) (V := [("n", .int n t)]) (body := bodO (stm 14)) (by rfl) (by decide) rfl G hA.room rfl (BindsTo.of_eq rfl) rfl rfl rfl ?_ ?_ ?_ rfl rfl rfl
  · intro k x hx
    rw [List.mem_singleton] at hx; subst hx
    exact .inl rfl
  · intro L
    exact ⟨.inl ⟨rfl, rfl⟩, trivial⟩
  · intro L s₁ hL S
    have R := S.rd
    refine wpAny_execs_cons (wpAny_Assign_Name ?_)
    iterate 5 walk1
    walk1
    walk1
    refine St.store (S.back (R.any rfl)) (.inr ⟨rfl, L + 1, rfl, none_ge (Nat.le_succ_of_le hL)⟩) fun s₂ S₂ => ?_
    clear R S
    have hm := Int.fmod_eq_emod_of_nonneg n (show (0 : Int) ≤ 14 by decide)
    obtain ⟨need, hneed, hn1, hn2⟩ : ∃ need : Nat, 1 + n.fmod 14 = (need : Int) ∧ 1 ≤ need ∧ need ≤ 14 := ⟨(1 + n.fmod 14).toNat, by omega, by omega, by omega⟩
    rw [hneed] at S₂
    dsimp only [List.nil_append] at S₂ ⊢
    generalize s₁.toks + 1 + 1 + 1 = tn at S₂
    refine wpAny_execs_cons ?_
    refine compRangeA (cl := [("need", L + 1)]) (hA.deeper _).hh S₂ [("need", .int need tn)] (fun i ys els => els = [] ∧ NatsAre ys ((List.range i).filter fun c => !need.testBit c))
      (by walk_at "side") rfl (by decide) rfl rfl ⟨rfl, .nil⟩ ?_ ?_
    · rintro C i ti hi ys els s₃ E' ⟨rfl, hys⟩ k - R₃
      have hi : i < 4 := hi
      refine wpAny_tests_one ?_
      iterate 10 walk_at "w"
      rw [bit_test]
      cases hb : need.testBit i with
      | true =>
        refine ⟨R₃.any rfl, rfl, ?_⟩
        rw [List.range_succ, List.filter_append]
        simpa [hb] using hys
      | false =>
        rw [if_pos (by rfl)]
        walk1
        refine ⟨[], R₃.any rfl, rfl, ?_⟩
        rw [List.range_succ, List.filter_append]
        have e : List.filter (fun c => !need.testBit c) [i] = [i] := by simp [hb]
        rw [e, NatsAre, List.map_append]
        exact IntsAre.app hys (.cons _ _ .nil)
    · rintro D kk ys els s₃ ⟨rfl, hys⟩ S₃
      have hys : NatsAre ys ((List.range 4).filter fun c => !need.testBit c) := hys
      generalize hrest : (List.range 4).filter (fun c => !need.testBit c) = rest at hys
      have hpos : 0 < rest.length := by
        have : ∀ m : Fin 15, 1 ≤ m.val → 0 < ((List.range 4).filter fun c => !Nat.testBit m.val c).length := by decide
        rw [← hrest]; exact this ⟨need, by omega⟩ hn1
      have hlen : ys.length = rest.length := by rw [hys.length]; simp
      have hsm : rest.length ≤ 4 := by rw [← hrest]; exact List.length_filter_le _ _
      have hlt : ∀ g ∈ rest, g < 4 := fun g hg => by rw [← hrest] at hg; simpa using (List.mem_filter.mp hg).1
      have R := S₃.rd
      have hD := S₃.at (.head _)
      dsimp only
      refine wpAny_execs_cons (wpAny_Return_some ?_)
      have hne : (ys.toArray.size : Int) ≠ 0 := by rw [List.size_toArray]; omega
      iterate 17 walk_at "w"
      refine PySem.Calls.call_len_list (isList_of hD) (by rw [List.size_toArray]; omega) ?_
      dsimp only
      walk_at "w"
      have hk0 := Int.fmod_eq_emod_of_nonneg (n.fdiv 14) (show (0 : Int) ≤ (ys.toArray.size : Int) by omega)
      have hsz : ys.toArray.size = rest.length := by rw [List.size_toArray]; exact hlen
      obtain ⟨g, hg, hg2⟩ : ∃ g : Nat, (n.fdiv 14).fmod (ys.toArray.size : Int) = (g : Int) ∧ g < rest.length := by
        have h1 := Int.emod_nonneg (n.fdiv 14) hne
        have h2 := Int.emod_lt_of_pos (n.fdiv 14) (show (0 : Int) < (ys.toArray.size : Int) by omega)
        exact ⟨((n.fdiv 14).fmod (ys.toArray.size : Int)).toNat, by omega, by omega⟩
      rw [hg]
      obtain ⟨tg, htg⟩ := NatsAre.at hys (i := g) (y := rest[g]) (by simp [hg2])
      refine item_L hD (by omega) (by omega) (by simpa using htg) ?_
      iterate 2 walk_at "w"
      rename_i a s' R'
      exact h s' a need rest[g] _ _ (S₃.keep.trans R'.kp) (R'.at (.head _)) (S₃.keep.none (R'.has _ (.head _)).2) (by omega) (hlt _ (List.getElem_mem _))
end
section
/-! ## for -/
/-- an iterator of one object: Ok i o says that o has handed on i items, Aux what else it looks at -/
structure ItW (w : World) (A : Around) (I : Addr) (n : Nat) (P : Nat → Value → Prop) (Ok : Nat → Obj → Prop) (Aux : Heap → Prop) : Prop where
  item : ∀ i (s : Shared) (Q : Option Value → Shared → Prop) (E : Value → Shared → Prop) o, i < n → s.heap.get? I = some o → Ok i o → Aux s.heap →
    (∀ v h' tk o', P i v → h'.get? I = some o' → Ok (i + 1) o' → (∀ b x, b ≠ I → s.heap.get? b = some x → h'.get? b = some x) → Q (some v) { s with heap := h', toks := tk }) → wpAny (MM w) A (pyNext (.ref I)) Q E s
  done : ∀ (s : Shared) (Q : Option Value → Shared → Prop) (E : Value → Shared → Prop) o, s.heap.get? I = some o → Ok n o → Aux s.heap →
    (∀ h' tk, (∀ b x, b ≠ I → s.heap.get? b = some x → h'.get? b = some x) → Q none { s with heap := h', toks := tk }) → wpAny (MM w) A (pyNext (.ref I)) Q E s
abbrev listIt (l : Addr) (i : Nat) (o : Obj) : Prop := o.cls = .type "list_iterator" ∧ o.data = .fields #[.ref l, .int i 0]
abbrev tupIt (l : Addr) (i : Nat) (o : Obj) : Prop := o.cls = .type "tuple_iterator" ∧ o.data = .fields #[.ref l, .int i 0]
theorem ItW.list {w : World} {A : Around} (hh : A.handled = none) (I l : Addr) (vs : List Value) (hne : l ≠ I) : ItW w A I vs.length (fun i v => vs[i]? = some v) (listIt l) (fun h => h.IsList l vs.toArray) where
  item := fun i s Q E o hi ho hok hax hQ => by
    refine (Walks.list (prog := PW) (w := w) hh I l hne vs.toArray).item i s Q E (by simpa using hi) ⟨⟨o, ho, hok.1, hok.2⟩, hax⟩ fun v h' tk hP hst hk => ?_
    obtain ⟨⟨o', ho', hok'⟩, _⟩ := hst
    exact hQ v h' tk o' (by simpa using hP) ho' hok' fun b x hb e => hk b x (by simpa using hb) e
  done := fun s Q E o ho hok hax hQ => by
    refine (Walks.list (prog := PW) (w := w) hh I l hne vs.toArray).done s Q E ⟨⟨o, ho, hok.1, by simpa using hok.2⟩, hax⟩ fun h' tk hk => hQ h' tk fun b x hb e => hk b x (by simpa using hb) e
theorem ItW.tuple {w : World} {A : Around} (hh : A.handled = none) (I l : Addr) (vs : List Value) (hne : l ≠ I) : ItW w A I vs.length (fun i v => vs[i]? = some v) (tupIt l) (fun h => h.IsTuple l vs.toArray) where
  item := fun i s Q E o hi ho hok hax hQ => by
    refine (Walks.tuple (prog := PW) (w := w) hh I l hne vs.toArray).item i s Q E (by simpa using hi) ⟨⟨o, ho, hok.1, hok.2⟩, hax⟩ fun v h' tk hP hst hk => ?_
    obtain ⟨⟨o', ho', hok'⟩, _⟩ := hst
    exact hQ v h' tk o' (by simpa using hP) ho' hok' fun b x hb e => hk b x (by simpa using hb) e
  done := fun s Q E o ho hok hax hQ => by
    refine (Walks.tuple (prog := PW) (w := w) hh I l hne vs.toArray).done s Q E ⟨⟨o, ho, hok.1, by simpa using hok.2⟩, hax⟩ fun h' tk hk => hQ h' tk fun b x hb e => hk b x (by simpa using hb) e
abbrev rngIt (N : Nat) (i : Nat) (o : Obj) : Prop := o = { cls := .type "range_iterator", data := .fields #[rawInt (0 + (i : Nat) * 1), rawInt ((N : Int) - (i : Nat)), rawInt 1] }
theorem ItW.range {w : World} {A : Around} (hh : A.handled = none) (I : Addr) (N : Nat) : ItW w A I N (fun i v => ∃ t, v = .int (i : Nat) t) (rngIt N) (fun _ => True) where
  item := fun i s Q E o hi ho hok _ hQ => by
    subst hok
    refine (Walks.range (prog := PW) (w := w) hh I 0 1 N).item i s Q E hi ho fun v h' tk hP hst hk => ?_
    obtain ⟨t, rfl⟩ := hP
    exact hQ _ h' tk _ ⟨t, by congr 1; omega⟩ hst rfl fun b x hb e => hk b x (by simpa using hb) e
  done := fun s Q E o ho hok _ hQ => by
    subst hok
    exact (Walks.range (prog := PW) (w := w) hh I 0 1 N).done s Q E ho fun h' tk hk => hQ h' tk fun b x hb e => hk b x (by simpa using hb) e

section
variable {w : World} {b s s' s₀ : Shared} {env : Env} {V : List (Str × Value)} {nw led : List (Addr × Obj)} {A : Around} {E : Value → Shared → Prop}

abbrev J4 := Nat → List (Str × Value) → List (Addr × Obj) → Prop
/-- what a turn ends with -/
def TurnEnd (w : World) (s₀ : Shared) (env : Env) (I : Addr) (o : Obj) (J : List (Str × Value) → List (Addr × Obj) → Prop) (Q : Flow → Shared → Prop) (f : Flow) (s : Shared) : Prop :=
  match f with
  | .next | .cont => ∃ V l₁ l₂, J V (l₁ ++ l₂) ∧ St w s₀ env V (l₁ ++ (I, o) :: l₂) s
  | .brk => Q .next s
  | .ret v => Q (.ret v) s
structure ForGo (w : World) (A : Around) (s₀ : Shared) (env : Env) (target : Expr) (body : List Stmt) (Q : Flow → Shared → Prop) (s : Shared) (V : List (Str × Value)) (led : List (Addr × Obj)) (it : Value) (s₂ : Shared) (I : Addr) (o : Obj)
    (nw : List (Addr × Obj)) (n : Nat) (P : Nat → Value → Prop) (Ok : Nat → Obj → Prop) (Aux : Heap → Prop) (J : J4) : Prop where
  eq : it = .ref I
  itw : ItW w A I n P Ok Aux
  rd : Rd w s env V ((I, o) :: nw) s₂
  ok : Ok 0 o
  ini : J 0 V (nw ++ led)
  aux : ∀ i V led s, J i V led → St w s₀ env V led s → Aux s.heap
  own : ∀ v s (Q : Unit → Shared → Prop) (E : Value → Shared → Prop) o i, s.heap.get? I = some o → Ok i o → Q () s → wpAny (MM w) A (letOwnedTupleGo target (.ref I) v) Q E s
  turn : ∀ i v V led s o (E' : Value → Shared → Prop), i < n → P i v → J i V led → Ok (i + 1) o → St w s₀ env V ((I, o) :: led) s →
    wpAny (MM w) A (assign target env v) (fun _ s₂ => wpAny (MM w) A (execs body env) (TurnEnd w s₀ env I o (J (i + 1)) Q) E' s₂) E' s
  done : ∀ V led s, J n V led → St w s₀ env V led s → Q .next s

theorem forW {target iter : Expr} {body : List Stmt} {pos : Pos} {Q : Flow → Shared → Prop} (S : St w s₀ env V led s)
    (hfold : ∀ x, foldedSetIterable iter env x = pure x)
    (h : wpAny (MM w) A (eval iter env) (fun xv s₁ => wpAny (MM w) A (pyIter xv) (fun it s₂ => ∃ I o nw n P Ok Aux J, ForGo w A s₀ env target body Q s V led it s₂ I o nw n P Ok Aux J) E s₁) E s) :
    wpAny (MM w) A (exec (.For target iter body [] pos) env) Q E s := by
  refine wpAny_For (wpAny_mono h (fun xv s₁ h₁ => wpAny_mono h₁ (fun it s₂ h₂ => ?_) fun _ _ e => e) fun _ _ e => e) hfold
  obtain ⟨I, o, nw, n, P, Ok, Aux, J, G⟩ := h₂
  have hit := G.eq
  subst hit
  have S₂ := S.back G.rd
  refine codeAny_forLoop_any (fun k s' => ∃ i V l₁ l₂ o, i + k = n ∧ J i V (l₁ ++ l₂) ∧ Ok i o ∧ St w s₀ env V (l₁ ++ (I, o) :: l₂) s') ?_ n ⟨0, V, [], nw ++ led, o, by omega, G.ini, G.ok, S₂⟩
  rintro k s₃ ⟨i, V, l₁, l₂, o, hik, hJ, hok, S₃⟩
  have hI := S₃.has (I, o) (by simp)
  have sub : List.Sublist (l₁ ++ l₂) (l₁ ++ (I, o) :: l₂) := List.Sublist.append_left (List.sublist_cons_self _ _) _
  have hax : Aux s₃.heap := G.aux i V _ s₃ hJ (S₃.drop sub)
  by_cases hi : i < n
  · refine G.itw.item i s₃ _ _ o hi hI.1 hok hax fun v h' tk o' hP hI' hok' hk => ?_
    have kb : KeepsBut I s₃ { s₃ with heap := h', toks := tk } := ⟨h', tk, rfl, hk⟩
    have S₄ := (S₃.mut kb hI').perm (led' := (I, o') :: (l₁ ++ l₂)) List.perm_middle
    dsimp only
    refine G.own v _ _ _ o' (i + 1) hI' hok' ?_
    refine wpAny_mono (G.turn i v V _ _ o' _ hi hP hJ hok' S₄) (fun _ s₅ h₅ => wpAny_mono h₅ (fun f s₆ h₆ => ?_) fun _ _ e => e) fun _ _ e => e
    have back : (∃ V l₁ l₂, J (i + 1) V (l₁ ++ l₂) ∧ St w s₀ env V (l₁ ++ (I, o') :: l₂) s₆) → ∃ m, m < k ∧ ∃ i V l₁ l₂ o, i + m = n ∧ J i V (l₁ ++ l₂) ∧ Ok i o ∧ St w s₀ env V (l₁ ++ (I, o) :: l₂) s₆ := by
      rintro ⟨V', m₁, m₂, hJ', S₆⟩
      exact ⟨k - 1, by omega, i + 1, V', m₁, m₂, o', by omega, hJ', hok', S₆⟩
    cases f with
    | next => exact back h₆
    | cont => exact back h₆
    | brk => exact h₆
    | ret v => exact h₆
  · have hin : i = n := by omega
    subst hin
    refine G.itw.done s₃ _ _ o hI.1 hok hax fun h' tk hk => ?_
    have S₄ := (S₃.drop sub).stepOff (wr := [I]) (h' := h') (tk := tk) (fun c hc => by rw [List.mem_singleton.mp hc]; exact hI.2.1) (fun q => hI.2.2.1 (List.mem_singleton.mp q).symm)
      (fun n c hc q => hI.2.2.2 n c hc (List.mem_singleton.mp q)) (fun p hp q => ?_) fun b x hb e => hk b x (fun q => hb (List.mem_singleton.mpr q)) e
    · exact wpAny_execs_nil (G.done V _ _ hJ S₄)
    · have nd := (S₃.perm (led' := (I, o) :: (l₁ ++ l₂)) List.perm_middle).nd
      exact (List.nodup_cons.mp nd).1 (List.mem_singleton.mp q ▸ List.mem_map_of_mem (f := (·.1)) hp)

/-- a list is iterated -/
theorem IsList.lt {h : Heap} {l : Addr} {xs : Array Value} (hl : h.IsList l xs) : l < h.objs.size := by
  obtain ⟨o, ho, _⟩ := hl
  exact Heap.lt_size ho
theorem list_it {Q : Value → Shared → Prop} {l : Addr} {vs : List Value} (R : Rd w b env V nw s) (hl : s.heap.IsList l vs.toArray) (h : ∀ I o s₂, Rd w b env V ((I, o) :: nw) s₂ → listIt l 0 o → l ≠ I → Q (.ref I) s₂) :
    wpAny (MM w) A (pyIter (.ref l)) Q E s :=
  wpAny_pyIter_list hl (h _ _ _ (R.push _) ⟨rfl, rfl⟩ (Nat.ne_of_lt (IsList.lt hl)))
theorem tup_it {Q : Value → Shared → Prop} {l : Addr} {vs : List Value} (R : Rd w b env V nw s) (hl : s.heap.get? l = some (tupO vs)) (h : ∀ I o s₂, Rd w b env V ((I, o) :: nw) s₂ → tupIt l 0 o → l ≠ I → Q (.ref I) s₂) :
    wpAny (MM w) A (pyIter (.ref l)) Q E s :=
  wpAny_pyIter_tuple ⟨_, hl, rfl, 0, rfl⟩ (h _ _ _ (R.push _) ⟨rfl, rfl⟩ (Nat.ne_of_lt (Heap.lt_size hl)))
theorem own_list {elts : List Expr} {x1 : Nat} {p1 : Pos} {I l : Addr} (v : Value) (s : Shared) (Q : Unit → Shared → Prop) (E : Value → Shared → Prop) (o : Obj) (i : Nat) (ho : s.heap.get? I = some o) (hok : listIt l i o) (h : Q () s) :
    wpAny (MM w) A (letOwnedTupleGo (.Tuple elts x1 p1) (.ref I) v) Q E s := by
  cases v with
  | ref T => exact wpAny_letOwnedTupleGo_listiter ⟨o, ho, hok.1, hok.2⟩ h
  | _ => exact wpAny_pure h
theorem own_tup {elts : List Expr} {x1 : Nat} {p1 : Pos} {I l : Addr} (v : Value) (s : Shared) (Q : Unit → Shared → Prop) (E : Value → Shared → Prop) (o : Obj) (i : Nat) (ho : s.heap.get? I = some o) (hok : tupIt l i o) (h : Q () s) :
    wpAny (MM w) A (letOwnedTupleGo (.Tuple elts x1 p1) (.ref I) v) Q E s := by
  cases v with
  | ref T =>
    unfold letOwnedTupleGo
    refine wpAny_bind (wpAny_load ho ?_)
    rw [hok.1, hok.2]
    show wpAny _ A (if (["enumerate", "zip", "dict_itemiterator", "dict_reverseitemiterator", "odict_iterator", "itertools.zip_longest", "itertools.pairwise"].contains "tuple_iterator" &&
      (#[.ref l, .int i 0] : Array Value)[0]? == some (rawInt T)) = true then _ else _) Q E s
    rw [if_neg (by
      rw [show (["enumerate", "zip", "dict_itemiterator", "dict_reverseitemiterator", "odict_iterator", "itertools.zip_longest", "itertools.pairwise"].contains "tuple_iterator") = false from by decide]
      exact Bool.false_ne_true)]
    exact wpAny_pure h
  | _ => exact wpAny_pure h
theorem own_name {x : Str} {p1 : Pos} {I : Addr} {Ok : Nat → Obj → Prop} (v : Value) (s : Shared) (Q : Unit → Shared → Prop) (E : Value → Shared → Prop) (o : Obj) (i : Nat) (_ : s.heap.get? I = some o) (_ : Ok i o) (h : Q () s) :
    wpAny (MM w) A (letOwnedTupleGo (.Name x p1) (.ref I) v) Q E s := wpAny_pure h
end
end
section
--LINES
local macro_rules | `(tactic| walk_at "eval Name") => `(tactic| first
  | refine Rd.Nm (Rd.any (by assumption) (by rfl)) (by rfl) ?_
  | refine Rd.Gb (Rd.any (by assumption) (by rfl)) (by rfl) (by rfl) ?_
  | refine Rd.Bl (Rd.any (by assumption) (by rfl)) (by decide) (by first | exact boot_len | exact boot_range | exact boot_sum | exact boot_sorted | exact boot_enumerate | exact boot_zip | exact PyProof.Rows.boot_set | exact PyProof.Rows.boot_type | exact PyProof.Rows.boot_list | exact PyProof.Rows.boot_str) (by rfl) ?_)
local macro_rules | `(tactic| walk_at "side") => `(tactic| (refine ⟨rfl, rfl, by decide, ?_, ?_, fun C => .inl rfl, rfl⟩; ((repeat (refine And.intro ⟨⟨_, rfl⟩, rfl, rfl⟩ ?_)); exact trivial); (intro C; (repeat (refine And.intro ⟨rfl, rfl, ⟨_, rfl⟩, rfl⟩ ?_)); exact trivial)))
local macro_rules | `(tactic| walk_at "newTuple") => `(tactic| (refine newTuple_R (Rd.any (by assumption) (by rfl)) ?_ (by simp [sizeLine]); intro a s' R))
local macro_rules | `(tactic| walk_at "newList") => `(tactic| (refine newList_R (Rd.any (by assumption) (by rfl)) ?_ (by simp [sizeLine]); intro a s' R))
local macro_rules | `(tactic| walk_at "w") => `(tactic| (walk1; try dsimp only))
--ENDLINES
/-! ## Instances -/
theorem Rm.under {n : Nat} {A : Around} (R : Rm (n + 1) A) (C : Addr) (vals : List Value) : Rm n (A.under (.builtin "type.__call__" ⟨.ref C :: vals, []⟩)) :=
  ⟨R.hh, by show A.depth + 1 + n < 500; have := R.dep; omega, by show A.units + 1 + 8 * n < 900; have := R.un; omega⟩
abbrev HK (env : Env) (s₀ : Shared) (x : Str) : Prop := env.kindOf x = some .local ∨ (env.kindOf x = some .cell ∧ ∃ c, env.cells.lookup x = some c ∧ s₀.heap.get? c = none)
section
variable {w : World} {b s s' s₀ s1 : Shared} {env : Env} {V : List (Str × Value)} {nw led : List (Addr × Obj)} {A : Around} {E : Value → Shared → Prop}

theorem St.rebase {l : List (Addr × Obj)} (S : St w s1 env V led s) (G : Gl w s₀.heap) (k : Kp s₀ s1) (hc : env.cells = []) (hl : ∀ p ∈ l, s1.heap.get? p.1 = some p.2 ∧ s₀.heap.get? p.1 = none) (hnd : (l.map (·.1)).Nodup) : St w s₀ env V (l ++ led) s := by
  refine ⟨S.kind, S.glob, S.blt, G, k.trans S.keep, k.none S.new, S.vars, fun x y c e _ => (by rw [hc] at e; cases e), fun p hp => ?_, ?_⟩
  · rcases List.mem_append.mp hp with q | q
    · refine ⟨S.keep.get (hl p q).1, (hl p q).2, fun e => ?_, fun n c e => (by rw [hc] at e; cases e)⟩
      exact fresh_ne S.new (hl p q).1 e
    · exact ⟨(S.has p q).1, k.none (S.has p q).2.1, (S.has p q).2.2.1, fun n c e => (by rw [hc] at e; cases e)⟩
  · rw [List.map_append]
    refine List.nodup_append.mpr ⟨hnd, S.nd, fun x hx y hy e => ?_⟩
    obtain ⟨p, hp, rfl⟩ := List.mem_map.mp hx
    obtain ⟨q, hq, rfl⟩ := List.mem_map.mp hy
    exact fresh_ne (S.has q hq).2.1 (hl p hp).1 e

/-- an attribute of a new object is set -/
theorem St.put {x dx C : Addr} {name : Str} {v : Value} {es : List DictEntry} {n : Nat} {Q : Unit → Shared → Prop} (S : St w s₀ env V ((x, instObj C dx) :: (dx, dictOf es n) :: led) s) (hc : env.cells = []) (hL : s₀.heap.objs.size ≤ env.locals)
    (hs : findIn (KK w.params) (.ref C) "__setattr__" = some (some (.builtin "object.__setattr__"))) (hp : plainOver (KK w.params) C = true) (ht : takerIn (KK w.params) C name = some none) (hh : hasDictIn (KK w.params) C = true) (hl : (getL name es).isSome = true)
    (hz : (putL name (PyData.keyHash w.params name) (.str name (s.toks + 1)) v es).length ≤ 1000)
    (h : ∀ s', St w s₀ env V ((x, instObj C dx) :: (dx, dictOf (putL name (PyData.keyHash w.params name) (.str name (s.toks + 1)) v es) (putN name es n)) :: led) s' → Q () s') :
    wpAny (MM w) A (setAttr (.ref x) name v) Q E s := by
  obtain ⟨m, cm, ns, cl, hV⟩ := S.vars
  have N : News s₀.heap env.locals s.heap ((x, instObj C dx) :: (dx, dictOf es n) :: led) := fun p hp => ⟨(S.has p hp).1, (S.has p hp).2.2.1, (S.has p hp).2.1⟩
  have F : Fr s₀.heap env.locals s.heap m := ⟨ns, fun b o e => S.keep.get e, hL⟩
  have nd := S.nd
  simp only [List.map_cons, List.nodup_cons, List.mem_cons, not_or] at nd
  refine set_dict (news' := (x, instObj C dx) :: (dx, dictOf (putL name (PyData.keyHash w.params name) (.str name (s.toks + 1)) v es) (putN name es n)) :: led) F S.gl.k N (InstAt.of_news N (.head _) (.tail _ (.head _))) rfl hs hp ht hh hl rfl
    (.tail nd.1.1 (.head fun p hp e => nd.2.1 (e ▸ List.mem_map_of_mem (f := (·.1)) hp))) hz fun h' F' N' => h _ ?_
  obtain ⟨h₁, t₁, e, k⟩ := S.keep
  refine { S with keep := ⟨h', s.toks + 2, by rw [e], fun b o e' => F'.keep b o e'⟩, vars := ⟨m, cm, F'.ns, fun n c e => (by rw [hc] at e; cases e), hV⟩, has := fun p hp => ⟨(N' p hp).1, (N' p hp).2.2, (N' p hp).2.1, fun n c e => (by rw [hc] at e; cases e)⟩, nd := ?_ }
  simpa using S.nd

/-- x, y = a tuple of two -/
theorem St.two {x y : Str} {px py pos : Pos} {k : Nat} {T : Addr} {a c : Value} {Q : Unit → Shared → Prop} (S : St w s₀ env V led s) (hh : A.handled = none) (hT : s.heap.get? T = some (tupO [a, c])) (hx : HK env s₀ x) (hy : HK env s₀ y)
    (h : ∀ s', St w s₀ env ((y, c) :: (x, a) :: V) led s' → Q () s') : wpAny (MM w) A (assign (.Tuple [.Name x px, .Name y py] k pos) env (.ref T)) Q E s := by
  refine assign_Tuple_tuple hh (isTup_of hT) rfl rfl fun h' he => ?_
  have S' : St w s₀ env V led { s with heap := h' } := S.keeps (Kp.to fun b o e => he b o (Nat.ne_of_lt (Heap.lt_size e)) e)
  refine assignInOrder_cons (PyProof.Rows.assign_Name (S'.store hx fun s₂ S₂ => ?_))
  refine assignInOrder_cons (PyProof.Rows.assign_Name (S₂.store hy fun s₃ S₃ => ?_))
  exact assignInOrder_nil (h _ S₃)
end
section
variable {w : World} {b s s' s₀ : Shared} {env : Env} {V : List (Str × Value)} {nw led : List (Addr × Obj)} {A : Around} {E : Value → Shared → Prop}
abbrev OwnOk (w : World) (A : Around) (target : Expr) (Ok : Nat → Obj → Prop) (I : Addr) : Prop :=
  ∀ v s (Q : Unit → Shared → Prop) (E : Value → Shared → Prop) o i, s.heap.get? I = some o → Ok i o → Q () s → wpAny (MM w) A (letOwnedTupleGo target (.ref I) v) Q E s
abbrev TurnOk (w : World) (A : Around) (s₀ : Shared) (env : Env) (target : Expr) (body : List Stmt) (Q : Flow → Shared → Prop) (J : J4) (P : Nat → Value → Prop) : Prop :=
  ∀ I o i v V led s (E' : Value → Shared → Prop), P i v → J i V led → St w s₀ env V ((I, o) :: led) s →
    wpAny (MM w) A (assign target env v) (fun _ s₂ => wpAny (MM w) A (execs body env) (TurnEnd w s₀ env I o (J (i + 1)) Q) E' s₂) E' s
theorem forList {target iter : Expr} {body : List Stmt} {pos : Pos} {Q : Flow → Shared → Prop} (vs : List Value) (J : J4) (S : St w s₀ env V led s) (hh : A.handled = none) (hfold : ∀ x, foldedSetIterable iter env x = pure x)
    (own : ∀ I l, OwnOk w A target (listIt l) I)
    (h : wpAny (MM w) A (eval iter env) (fun xv s₁ => ∃ l nw, xv = .ref l ∧ Rd w s env V nw s₁ ∧ s₁.heap.IsList l vs.toArray ∧ J 0 V (nw ++ led) ∧ (∀ i V led s, J i V led → St w s₀ env V led s → s.heap.IsList l vs.toArray)) E s)
    (turn : TurnOk w A s₀ env target body Q J (fun i v => vs[i]? = some v)) (done : ∀ V led s, J vs.length V led → St w s₀ env V led s → Q .next s) :
    wpAny (MM w) A (exec (.For target iter body [] pos) env) Q E s := by
  refine forW S hfold (wpAny_mono h (fun xv s₁ h₁ => ?_) fun _ _ e => e)
  obtain ⟨l, nw, rfl, R, hl, hJ, hk⟩ := h₁
  refine list_it R hl fun I o s₂ R₂ hI hne => ⟨I, o, nw, vs.length, fun i v => vs[i]? = some v, listIt l, fun h => h.IsList l vs.toArray, J, ?_⟩
  exact ⟨rfl, ItW.list hh I l vs hne, R₂, hI, hJ, fun i V led s j S => hk i V led s j S, own I l, fun i v V led s o E' _ hv hJ _ S => turn I o i v V led s E' hv hJ S, done⟩
theorem forTup {target iter : Expr} {body : List Stmt} {pos : Pos} {Q : Flow → Shared → Prop} (vs : List Value) (J : J4) (S : St w s₀ env V led s) (hh : A.handled = none) (hfold : ∀ x, foldedSetIterable iter env x = pure x)
    (own : ∀ I l, OwnOk w A target (tupIt l) I)
    (h : wpAny (MM w) A (eval iter env) (fun xv s₁ => ∃ l nw, xv = .ref l ∧ Rd w s env V nw s₁ ∧ s₁.heap.get? l = some (tupO vs) ∧ J 0 V (nw ++ led) ∧ (∀ i V led s, J i V led → St w s₀ env V led s → s.heap.get? l = some (tupO vs))) E s)
    (turn : TurnOk w A s₀ env target body Q J (fun i v => vs[i]? = some v)) (done : ∀ V led s, J vs.length V led → St w s₀ env V led s → Q .next s) :
    wpAny (MM w) A (exec (.For target iter body [] pos) env) Q E s := by
  refine forW S hfold (wpAny_mono h (fun xv s₁ h₁ => ?_) fun _ _ e => e)
  obtain ⟨l, nw, rfl, R, hl, hJ, hk⟩ := h₁
  refine tup_it R hl fun I o s₂ R₂ hI hne => ⟨I, o, nw, vs.length, fun i v => vs[i]? = some v, tupIt l, fun h => h.IsTuple l vs.toArray, J, ?_⟩
  exact ⟨rfl, ItW.tuple hh I l vs hne, R₂, hI, hJ, fun i V led s j S => ⟨_, hk i V led s j S, rfl, 0, rfl⟩, own I l, fun i v V led s o E' _ hv hJ _ S => turn I o i v V led s E' hv hJ S, done⟩
theorem forRange {target : Expr} {body : List Stmt} {k N : Nat} {pos p1 p2 p3 : Pos} {Q : Flow → Shared → Prop} (J : J4) (S : St w s₀ env V led s) (hh : A.handled = none) (hk : env.kindOf "range" = some .globalImplicit) (hN : N ≤ 1000)
    (own : ∀ I, OwnOk w A target (rngIt N) I) (hJ : J 0 V led)
    (turn : TurnOk w A s₀ env target body Q J (fun i v => i < N ∧ ∃ t, v = .int (i : Nat) t)) (done : ∀ V led s, J N V led → St w s₀ env V led s → Q .next s) :
    wpAny (MM w) A (exec (.For target (.Call (.Name "range" p1) [.Constant (.int N) k p2] [] p3) body [] pos) env) Q E s := by
  refine forW S (fun _ => rfl) (range_it S.rd hk hN fun I s₂ k₂ hI hit hlt => ?_)
  have e0 : ({ cls := .type "range_iterator", data := .fields #[rawInt 0, rawInt N, rawInt 1] } : Obj) = { cls := .type "range_iterator", data := .fields #[rawInt (0 + (0 : Nat) * 1), rawInt ((N : Int) - (0 : Nat)), rawInt 1] } := by simp
  refine ⟨I, { cls := .type "range_iterator", data := .fields #[rawInt 0, rawInt N, rawInt 1] }, [], N, fun i v => ∃ t, v = .int (i : Nat) t, rngIt N, fun _ => True, J, ?_⟩
  exact ⟨rfl, ItW.range hh I N, S.rd.add k₂ hI hit, e0, hJ, fun _ _ _ _ _ _ => trivial, own I, fun i v V led s o E' hi hv hJ _ S => turn I o i v V led s E' ⟨hi, hv⟩ hJ S, done⟩
end
theorem lt_one (x y : Nat) : decide ((sOf [x]).cps.toList < (sOf [y]).cps.toList) = decide (x < y) := by
  rw [sOf_cps, sOf_cps]
  simp [List.cons_lt_cons_iff]
theorem item_S {w : World} {A : Around} {E : Value → Shared → Prop} {s : Shared} {value slice : Expr} {l : List Nat} {i : Nat} {t u : Tok} {Q : Value → Shared → Prop} (hi : i < l.length) (hl : l.length ≤ 1000) (h : Q (.str (sOf [l.getD i 0]) s.toks) { s with toks := s.toks + 1 })
    (hs : subscripted slice false (.str (sOf l) t) (.int (i : Nat) u) = operate [.str (sOf l) t, .int (i : Nat) u] (getItem (.str (sOf l) t) (.int (i : Nat) u)) := by with_unfolding_all rfl)
    (ht : ∀ r, letTemporaryGo value (.str (sOf l) t) r = pure () := by intro _; with_unfolding_all rfl) :
    wpAny (MM w) A (subscriptTail value slice (.str (sOf l) t) (.int (i : Nat) u)) Q E s :=
  item_str (fitsSsize_of (N := 9223372036854775808) (by omega) (by omega) (Int.le_refl _)) (by omega) (by rw [sOf_len]; omega) (fun _ => by rw [item_sOf hi]; exact h) hs ht
/-! ## TupleComp -/
theorem tc_set (P : Params) : findIn (KK P) (.ref 62) "__setattr__" = some (some (.builtin "object.__setattr__")) := by rfl
theorem tc_over (P : Params) : plainOver (KK P) 62 = true := by rfl
theorem tc_taker (P : Params) : takerIn (KK P) 62 "comp_select_list" = some none := by rfl
theorem tc_dict (P : Params) : hasDictIn (KK P) 62 = true := by rfl
theorem tc_makes (P : Params) : makesIn (KK P) 62 = true := by rfl
theorem tc_init (P : Params) : findIn (KK P) (.ref 62) "__init__" = some (some (.ref 52)) := by rfl
theorem tc_ga (P : Params) (x : Str) : plainGet (KK P) 62 x = true := by rfl
theorem tc_cmp (P : Params) : findIn (KK P) (.ref 62) "compare" = some (some (.ref 59)) := by rfl
theorem tc_fn (P : Params) : isFn (KK P) (.ref 59) = true := by rfl
theorem tc_keep (P : Params) : keepIn (KK P) (.ref 62) = true := by rfl

def tcDict (P : Params) (t : Tok) (v : Value) : Obj := dictOf [⟨PyData.keyHash P "comp_select_list", .str "comp_select_list" t, v⟩] 1
set_option maxHeartbeats 4000000 in
theorem tc_new {w : World} {s : Shared} {A : Around} {Q E : Value → Shared → Prop} {v : Value} (G : Gl w s.heap) (hA : Rm 2 A)
    (h : ∀ x dx s' t, Kp s s' → s.heap.get? x = none → s.heap.get? dx = none → x ≠ dx → s'.heap.get? x = some (instObj 62 dx) → s'.heap.get? dx = some (tcDict w.params t v) → Q (.ref x) s') :
    wpAny (MM w) A (call (.ref 62) [v]) Q E s := by
  obtain ⟨hp, g, d, tk, os⟩ := s
  refine wpAny_call (make_core (makes_of G.k (tc_makes _)) (looks_findIn G.k (tc_init _)) (fun self => bind_fn G.k self rfl) (.inl rfl) ?_)
  have k0 : Kp ⟨hp, g, d, tk, os⟩ ⟨(hp.push emptyDict).push (instObj 62 hp.objs.size), g, d, tk, os⟩ := Kp.to fun b o e => Heap.get?_push_of_some _ (Heap.get?_push_of_some _ e)
  have hsz : (hp.push emptyDict).objs.size = hp.objs.size + 1 := Heap.size_push ..
  have hx : ((hp.push emptyDict).push (instObj 62 hp.objs.size)).get? (hp.objs.size + 1) = some (instObj 62 hp.objs.size) := by rw [← hsz]; exact Heap.get?_push_size _ rfl
  have hd : ((hp.push emptyDict).push (instObj 62 hp.objs.size)).get? hp.objs.size = some emptyDict := Heap.get?_push_of_some _ (Heap.get?_push_size _ rfl)
  have hx0 : hp.get? (hp.objs.size + 1) = none := none_ge (Nat.le_succ _)
  have hd0 : hp.get? hp.objs.size = none := none_ge (Nat.le_refl _)
  generalize hX : hp.objs.size + 1 = x at *
  generalize hD : hp.objs.size = dx at *
  have hne : x ≠ dx := fun e => by rw [← hX] at e; exact absurd e (Nat.succ_ne_self _)
  have G1 : Gl w ((hp.push emptyDict).push (instObj 62 dx)) := G.keeps fun b o e => k0.get e
  refine enter (fd := fd52) (c := 51) (binds := [("self", .ref x), ("comp_select_list", v)]) (V := [("self", .ref x), ("comp_select_list", v)]) (body := bodO (meth 3 0)) (by rfl) (by decide) rfl G1 (hA.under 62 [v]).room rfl (BindsTo.of_eq rfl) rfl rfl rfl ?_ ?_ ?_ rfl rfl rfl
  · intro k x hx
    simp only [List.mem_cons, List.not_mem_nil, or_false] at hx
    rcases hx with rfl | rfl <;> exact .inl rfl
  · intro L
    exact ⟨.inl ⟨rfl, rfl⟩, .inl ⟨rfl, rfl⟩, trivial⟩
  · intro L s₁ hL S
    have S0 := S.rebase (l := [(x, instObj 62 dx), (dx, dictOf [] 0)]) G k0 rfl (fun p hp => ?_) (by simpa using hne)
    · have R := S0.rd
      refine wpAny_execs_cons (plainObj_wpAny_Assign_Attribute ?_)
      walk_at "w"
      walk_at "w"
      refine S0.put rfl ?_ (tc_set _) (tc_over _) (tc_taker _) (tc_dict _) rfl (by show (1 : Nat) ≤ 1000; decide) fun s₂ S₂ => ?_
      · have e : ((hp.push emptyDict).push (instObj 62 dx)).objs.size = dx + 1 + 1 := by rw [Heap.size_push, Heap.size_push, hD]
        have hL : ((hp.push emptyDict).push (instObj 62 dx)).objs.size ≤ L := hL
        rw [e] at hL
        show hp.objs.size ≤ L
        rw [hD]
        exact Nat.le_trans (Nat.le_add_right dx 2) hL
      · refine wpAny_execs_nil ⟨rfl, h x dx s₂ _ S₂.keep hx0 hd0 hne (S₂.at (.head _)) (S₂.at (.tail _ (.head _)))⟩
    · simp only [List.mem_cons, List.not_mem_nil, or_false] at hp
      rcases hp with rfl | rfl
      · exact ⟨hx, hx0⟩
      · exact ⟨hd, hd0⟩

def cmpF (way : Int) (a b : List Nat) : List Nat → Int
  | [] => 0
  | c :: r => if a.getD c 0 < b.getD c 0 then -way else if b.getD c 0 < a.getD c 0 then way else cmpF way a b r
def PairsAre (h : Heap) (vs : List Value) (cs : List Nat) (way : Int) : Prop := vs.length = cs.length ∧ ∀ (i c : Nat), cs[i]? = some c → ∃ T t u, vs[i]? = some (Value.ref T) ∧ h.get? T = some (tupO [Value.int (c : Nat) t, Value.int way u])
theorem PairsAre.keeps {h h' : Heap} {vs : List Value} {cs : List Nat} {way : Int} (P : PairsAre h vs cs way) (k : ∀ b o, h.get? b = some o → h'.get? b = some o) : PairsAre h' vs cs way :=
  ⟨P.1, fun i c e => let ⟨T, t, u, a, b⟩ := P.2 i c e; ⟨T, t, u, a, k _ _ b⟩⟩
set_option maxHeartbeats 4000000 in
theorem cmp_ok {w : World} {s : Shared} {A : Around} {Q E : Value → Shared → Prop} {x dx l : Addr} {vs : List Value} {n : Nat} {cs a b : List Nat} {way : Int} {t t1 t2 : Tok} (G : Gl w s.heap) (hA : Rm 1 A)
    (hx : s.heap.get? x = some (instObj 62 dx)) (hd : s.heap.get? dx = some (tcDict w.params t (.ref l))) (hl : s.heap.get? l = some (listO vs n)) (hP : PairsAre s.heap vs cs way) (hc : ∀ c ∈ cs, c < 4) (ha : a.length = 4) (hb : b.length = 4)
    (h : ∀ s' t', Kp s s' → Q (.int (cmpF way a b cs) t') s') :
    wpAny (MM w) A (call (.ref 59) [.ref x, .str (sOf a) t1, .str (sOf b) t2]) Q E s := by
  refine wpAny_call ?_
  refine enter (fd := fd59) (c := 58) (binds := [("self", .ref x), ("left", .str (sOf a) t1), ("right", .str (sOf b) t2)]) (V := [("self", .ref x), ("left", .str (sOf a) t1), ("right", .str (sOf b) t2)]) (body := bodO (meth 3 1)) (by rfl) (by decide) rfl G hA.room rfl (BindsTo.of_eq rfl) rfl rfl rfl ?_ ?_ ?_ rfl rfl rfl
  · intro k x hx
    simp only [List.mem_cons, List.not_mem_nil, or_false] at hx
    rcases hx with rfl | rfl | rfl <;> exact .inl rfl
  · intro L
    exact ⟨.inl ⟨rfl, rfl⟩, .inl ⟨rfl, rfl⟩, .inl ⟨rfl, rfl⟩, trivial⟩
  · intro L s₁ hL S
    have R := S.rd
    have hA' := hA.deeper (callEnvC fd59 L 59)
    refine wpAny_execs_cons ?_
    refine forList vs (fun i V led => led = [] ∧ cmpF way a b cs = cmpF way a b (cs.drop i) ∧ SubV V [("self", .ref x), ("left", .str (sOf a) t1), ("right", .str (sOf b) t2)]) S hA'.hh (fun _ => rfl) (fun _ _ => own_list) ?_ ?_ ?_
    · refine Attribute_Name_ ?_
      walk_at "w"
      have I : InstAt s₁.heap x (instObj 62 dx) 62 (some (tcDict w.params t (.ref l))) := ⟨S.old hx, rfl, rfl, S.old hd⟩
      refine get_value S.gl'.k I (plainGet_of (tc_ga _ "compare")).1 (findObj_own (attr := none) (tc_dict _) rfl rfl rfl) rfl ?_
      exact ⟨l, [], rfl, R.any rfl, isList_of (S.old hl), ⟨rfl, rfl, rfl, rfl, rfl, trivial⟩, fun i V led s _ S => isList_of (S.old hl)⟩
    · rintro I o₃ i v V led s₃ E' hv ⟨rfl, hcm, hV⟩ S₃
      have hi : i < vs.length := (List.getElem?_eq_some_iff.mp hv).1
      obtain ⟨c, hci⟩ : ∃ c, cs[i]? = some c := ⟨cs[i]'(hP.1 ▸ hi), by simp⟩
      obtain ⟨T, u1, u2, hvi, hT⟩ := hP.2 i c hci
      rw [hv] at hvi; cases hvi
      have hc4 := hc c (List.mem_of_getElem? hci)
      refine (S₃.sub hV).two hA'.hh (S₃.old hT) (.inl rfl) (.inl rfl) fun s₄ S₄ => ?_
      have R₄ := S₄.rd
      refine wpAny_execs_cons (wpAny_Assign_Name ?_)
      walk_at "w"
      walk_at "w"
      walk_at "w"
      refine item_S (by omega) (by omega) ?_
      refine (S₄.back (R₄.any rfl)).store (.inl rfl) fun s₅ S₅ => ?_
      clear R₄ S₄
      dsimp only [List.nil_append] at S₅
      generalize s₄.toks = ta at S₅
      have R₅ := S₅.rd
      refine wpAny_execs_cons (wpAny_Assign_Name ?_)
      walk_at "w"
      walk_at "w"
      walk_at "w"
      refine item_S (by omega) (by omega) ?_
      refine (S₅.back (R₅.any rfl)).store (.inl rfl) fun s₆ S₆ => ?_
      clear R₅ S₅
      dsimp only [List.nil_append] at S₆
      generalize s₅.toks = tb at S₆
      have R₆ := S₆.rd
      refine wpAny_execs_cons (wpAny_If ?_)
      walk_at "w"
      walk_at "w"
      walk_at "w"
      walk_at "w"
      walk_at "w"
      rw [lt_one]
      obtain ⟨hi', hci'⟩ := List.getElem?_eq_some_iff.mp hci
      rw [List.drop_eq_getElem_cons hi', hci'] at hcm
      by_cases hlt : a.getD c 0 < b.getD c 0
      · rw [if_pos (by simpa using hlt)]
        refine wpAny_execs_cons (wpAny_Return_some ?_)
        iterate 3 walk_at "w"
        have g := h { s₆ with toks := s₆.toks + 1 } s₆.toks (S₆.keep.trans (Kp.tok _ _))
        rw [hcm, cmpF, if_pos hlt] at g
        exact g
      · rw [if_neg (by simpa using hlt)]
        refine wpAny_execs_nil ?_
        dsimp only
        refine wpAny_execs_cons (wpAny_If ?_)
        iterate 5 walk_at "w"
        rw [lt_one]
        by_cases hgt : b.getD c 0 < a.getD c 0
        · rw [if_pos (by simpa using hgt)]
          refine wpAny_execs_cons (wpAny_Return_some ?_)
          walk_at "w"
          have g := h s₆ u2 S₆.keep
          rw [hcm, cmpF, if_neg hlt, if_pos hgt] at g
          exact g
        · rw [if_neg (by simpa using hgt)]
          refine wpAny_execs_nil (wpAny_execs_nil ?_)
          rw [cmpF, if_neg hlt, if_neg hgt] at hcm
          exact ⟨_, [], [], ⟨rfl, hcm, rfl, rfl, rfl, trivial⟩, S₆⟩
    · rintro V led s₃ ⟨rfl, hcm, hV⟩ S₃
      refine wpAny_execs_cons (wpAny_Return_some ?_)
      walk_at "w"
      rw [List.drop_of_length_le (by rw [hP.1]; exact Nat.le_refl _)] at hcm
      have g := h { s₃ with toks := s₃.toks + 1 } s₃.toks (S₃.keep.trans (Kp.tok _ _))
      rw [hcm] at g
      exact g
end
section
--LINES
local macro_rules | `(tactic| walk_at "eval Name") => `(tactic| first
  | refine Rd.Nm (Rd.any (by assumption) (by rfl)) (by rfl) ?_
  | refine Rd.Gb (Rd.any (by assumption) (by rfl)) (by rfl) (by rfl) ?_
  | refine Rd.Bl (Rd.any (by assumption) (by rfl)) (by decide) (by first | exact boot_len | exact boot_range | exact boot_sum | exact boot_sorted | exact boot_enumerate | exact boot_zip | exact PyProof.Rows.boot_set | exact PyProof.Rows.boot_type | exact PyProof.Rows.boot_list | exact PyProof.Rows.boot_str) (by rfl) ?_)
local macro_rules | `(tactic| walk_at "side") => `(tactic| (refine ⟨rfl, rfl, by decide, ?_, ?_, fun C => .inl rfl, rfl⟩; ((repeat (refine And.intro ⟨⟨_, rfl⟩, rfl, rfl⟩ ?_)); exact trivial); (intro C; (repeat (refine And.intro ⟨rfl, rfl, ⟨_, rfl⟩, rfl⟩ ?_)); exact trivial)))
local macro_rules | `(tactic| walk_at "newTuple") => `(tactic| (refine newTuple_R (Rd.any (by assumption) (by rfl)) ?_ (by simp [sizeLine]); intro a s' R))
local macro_rules | `(tactic| walk_at "newList") => `(tactic| (refine newList_R (Rd.any (by assumption) (by rfl)) ?_ (by simp [sizeLine]); intro a s' R))
local macro_rules | `(tactic| walk_at "w") => `(tactic| (walk1; try dsimp only))
local macro_rules | `(tactic| walk_at "ww") => `(tactic| repeat walk_at "w")
--ENDLINES
abbrev VL := List (Str × Value)
abbrev LL := List (Addr × Obj)
/-! ## split and join -/
def joinL (c : Nat) : List (List Nat) → List Nat
  | [] => []
  | [p] => p
  | p :: q :: r => p ++ c :: joinL c (q :: r)
theorem join_sOf (c : Nat) : ∀ P : List (List Nat), Str.join (sOf [c]) (P.map sOf) = sOf (joinL c P)
  | [] => rfl
  | [p] => rfl
  | p :: q :: r => by
    show sOf p ++ sOf [c] ++ Str.join (sOf [c]) ((q :: r).map sOf) = _
    rw [join_sOf c (q :: r), sOf_app, sOf_app]
    simp [joinL]
theorem txt_join (c : Nat) (P : List (List Nat)) : Txt.join (sOf [c]) (P.map sOf) = sOf (joinL c P) := by
  show Builtin.Str.glued _ _ = _
  rw [StrLaws.glued_eq_join, join_sOf]
theorem str_sOf (x : Str) : x = sOf x.cps.toList := by
  obtain ⟨a⟩ := x
  simp [sOf]
/-- the parts of a text at a sign -/
structure Parts (c : Nat) (l : List Nat) (P : List (List Nat)) : Prop where
  join : joinL c P = l
  free : ∀ p ∈ P, c ∉ p
  some : P ≠ []
theorem split_parts (l : List Nat) (c : Nat) : ∃ P, Txt.split (sOf l) (sOf [c]) = P.map sOf ∧ Parts c l P := by
  refine ⟨(Txt.split (sOf l) (sOf [c])).map (·.cps.toList), ?_, ?_, ?_, ?_⟩
  · rw [List.map_map]
    have : (sOf ∘ fun x : Str => x.cps.toList) = id := by funext x; exact (str_sOf x).symm
    rw [this, List.map_id]
  · have h := StrLaws.join_split (sOf l) (sOf [c])
    have e : Txt.split (sOf l) (sOf [c]) = ((Txt.split (sOf l) (sOf [c])).map (·.cps.toList)).map sOf := by
      rw [List.map_map]
      have : (sOf ∘ fun x : Str => x.cps.toList) = id := by funext x; exact (str_sOf x).symm
      rw [this, List.map_id]
    rw [e, join_sOf] at h
    exact sOf_inj h
  · intro p hp
    obtain ⟨x, hx, rfl⟩ := List.mem_map.mp hp
    exact StrLaws.split_free (sOf l) c x hx
  · intro e
    have := split_pos (sOf l) (sOf [c])
    rw [List.map_eq_nil_iff] at e
    rw [e] at this
    exact absurd this (by decide)
theorem Parts.uniq {c : Nat} : ∀ {P P' : List (List Nat)} {l : List Nat}, Parts c l P → Parts c l P' → P = P'
  | [], _, _, h, _ => absurd rfl h.some
  | _ :: _, [], _, _, h => absurd rfl h.some
  | [p], [q], l, h, g => by rw [show p = l from h.join, show q = l from g.join]
  | [p], q :: r :: t, l, h, g => by
    have e : p = q ++ c :: joinL c (r :: t) := (show p = l from h.join).trans g.join.symm
    exact absurd (by rw [e]; simp) (h.free p (.head _))
  | q :: r :: t, [p], l, h, g => by
    have e : p = q ++ c :: joinL c (r :: t) := (show p = l from g.join).trans h.join.symm
    exact absurd (by rw [e]; simp) (g.free p (.head _))
  | p :: q :: r, p' :: q' :: r', l, h, g => by
    have e : p ++ c :: joinL c (q :: r) = p' ++ c :: joinL c (q' :: r') := h.join.trans g.join.symm
    have cutAt : ∀ (a b x y : List Nat), c ∉ a → c ∉ b → a ++ c :: x = b ++ c :: y → a = b ∧ x = y := by
      intro a
      induction a with
      | nil =>
        intro b x y _ hb e
        cases b with
        | nil => exact ⟨rfl, by simpa using e⟩
        | cons d b => simp at e; exact absurd (e.1 ▸ .head _) hb
      | cons d a ih =>
        intro b x y ha hb e
        cases b with
        | nil => simp at e; exact absurd (e.1 ▸ .head _) ha
        | cons d' b =>
          simp only [List.cons_append, List.cons.injEq] at e
          have := ih b x y (fun h => ha (.tail _ h)) (fun h => hb (.tail _ h)) e.2
          exact ⟨by rw [e.1, this.1], this.2⟩
    obtain ⟨e1, e2⟩ := cutAt _ _ _ _ (h.free p (.head _)) (g.free p' (.head _)) e
    have := Parts.uniq (P := q :: r) (P' := q' :: r') (l := joinL c (q :: r)) ⟨rfl, fun x hx => h.free x (.tail _ hx), by simp⟩ ⟨e2.symm, fun x hx => g.free x (.tail _ hx), by simp⟩
    rw [e1, this]
def swapL (c d : Nat) (l : List Nat) : List Nat := l.map fun x => if x = c then d else x
theorem swap_free {c d : Nat} {p : List Nat} (h : c ∉ p) : p = swapL c d p := by
  refine (List.map_id p).symm.trans (List.map_congr_left fun x hx => ?_)
  have hne : x ≠ c := fun e => h (e ▸ hx)
  rw [if_neg hne]; rfl
theorem Parts.swap {c : Nat} (d : Nat) : ∀ {P : List (List Nat)} {l : List Nat}, Parts c l P → joinL d P = swapL c d l
  | [], _, h => absurd rfl h.some
  | [p], l, h => by
    rw [← h.join]
    exact swap_free (h.free p (.head _))
  | p :: q :: r, l, h => by
    have ih := Parts.swap (P := q :: r) (l := joinL c (q :: r)) d ⟨rfl, fun x hx => h.free x (.tail _ hx), by simp⟩
    rw [← h.join]
    show p ++ d :: joinL d (q :: r) = swapL c d (p ++ c :: joinL c (q :: r))
    rw [ih]
    have hp : p = swapL c d p := swap_free (h.free p (.head _))
    unfold swapL at *
    rw [List.map_append, List.map_cons, if_pos rfl, ← hp]
theorem Parts.length {c : Nat} : ∀ {P : List (List Nat)} {l : List Nat}, Parts c l P → (P.map (·.length)).sum + P.length ≤ l.length + 1
  | [], _, h => absurd rfl h.some
  | [p], l, h => by rw [← h.join]; simp [joinL]
  | p :: q :: r, l, h => by
    have ih := Parts.length (P := q :: r) (l := joinL c (q :: r)) ⟨rfl, fun x hx => h.free x (.tail _ hx), by simp⟩
    rw [← h.join]
    simp only [joinL, List.map_cons, List.sum_cons, List.length_cons, List.length_append] at ih ⊢
    omega
section
variable {w : World} {b s s' s₀ : Shared} {env : Env} {V : List (Str × Value)} {nw led : List (Addr × Obj)} {A : Around} {E : Value → Shared → Prop}
theorem split_S {l : List Nat} {c : Nat} {t u : Tok} {Q : Value → Shared → Prop} (R : Rd w b env V nw s) (hl : l.length ≤ 1000)
    (h : ∀ D vs P s', Parts c l P → StrsAre vs (P.map sOf) → Rd w b env V ((D, listO vs 0) :: nw) s' → Q (.ref D) s') : wpAny (MM w) A (call (.builtin "str.split") [.str (sOf l) t, .str (sOf [c]) u]) Q E s := by
  obtain ⟨P, hP, hparts⟩ := split_parts l c
  have go : ∀ (L : List (Str × Tok)) (k : Nat), L.map (·.1) = Txt.split (sOf l) (sOf [c]) → Q (.ref s.heap.objs.size) { s with heap := s.heap.push { cls := .type "list", data := .seq (strValues L).toArray }, toks := k } := by
    intro L k e
    have := strsAre_of_values L
    rw [e, hP] at this
    exact h _ _ P _ hparts this ((R.push (listO (strValues L) 0)).tok k)
  have hsz : (sOf l).length + 2 ≤ sizeLine := by rw [sOf_len]; show l.length + 2 ≤ 2 ^ 24; omega
  have hn : (Builtin.Str.partsBetween (sOf l) (Builtin.Str.occurrences (sOf l) (sOf [c]) 0 (sOf l).length ((sOf l).length + 1)) (sOf [c]).length).length ≤ sizeLine := by
    have e1 := StrLaws.occ_length_le (sOf l) (sOf [c]) 0 (sOf l).length ((sOf l).length + 1)
    rw [length_partsBetween]; omega
  cases h1 : (decide ((sOf l).length < (sOf [c]).length) || decide (Builtin.Str.strKind (sOf l) < Builtin.Str.strKind (sOf [c])))
  · cases hf : (Builtin.Str.occurrences (sOf l) (sOf [c]) 0 (sOf l).length ((sOf l).length + 1)).isEmpty
    · refine call_meets F.slot_str_split (typeIs_str _ _ _) F.entry_str_split (F.args_str_split_2 _ _) (meets_str_split_sep (sOf l) (sOf [c]) t u h1 rfl hf (by omega) hn) ?_
      show wants Q E _ { s with toks := _, heap := s.heap.push { cls := .type "list", data := .seq (strsFrom s.toks _).toArray } }
      rw [strsFrom_eq]
      exact go _ _ ((numbered_texts _ _).trans ((if_neg (ne_true_of_eq_false h1)).trans (if_neg (ne_true_of_eq_false hf))).symm)
    · exact call_meets F.slot_str_split (typeIs_str _ _ _) F.entry_str_split (F.args_str_split_2 _ _) (meets_str_split_not_found (sOf l) (sOf [c]) t u h1 rfl hf) (go [(sOf l, t)] s.toks ((if_neg (ne_true_of_eq_false h1)).trans (if_pos hf)).symm)
  · exact call_meets F.slot_str_split (typeIs_str _ _ _) F.entry_str_split (F.args_str_split_2 _ _) (meets_str_split_cannot_occur (sOf l) (sOf [c]) t u h1) (go [(sOf l, t)] s.toks (if_pos h1).symm)
theorem join_S {D : Addr} {vs : List Value} {n : Nat} {P : List (List Nat)} {c : Nat} {t : Tok} {Q : Value → Shared → Prop} (hD : s.heap.get? D = some (listO vs n)) (hv : StrsAre vs (P.map sOf)) (hl : (P.map (·.length)).sum + P.length ≤ 1002)
    (h : ∀ t' k, Q (.str (sOf (joinL c P)) t') { s with toks := k }) : wpAny (MM w) A (call (.builtin "str.join") [.str (sOf [c]) t, .ref D]) Q E s := by
  refine join_list (isList_of hD) (by simpa using hv) ?_ fun t' k => by rw [txt_join]; exact h t' k
  rw [List.map_map, List.length_map, show (sOf [c]).length = 1 from sOf_len _]
  have : ((fun x : Str => x.length) ∘ sOf) = fun p : List Nat => p.length := by funext p; exact sOf_len p
  rw [this]; omega
end

section
variable {w : World} {b s s' s₀ : Shared} {env : Env} {V : List (Str × Value)} {nw led : List (Addr × Obj)} {A : Around} {E : Value → Shared → Prop}
/-- while -/
theorem whileW {test : Expr} {body : List Stmt} {pos : Pos} {Q : Flow → Shared → Prop} (J : J4) (n : Nat) (S : St w s₀ env V led s) (hJ : J n V led)
    (turn : ∀ n V led s (E' : Value → Shared → Prop), J n V led → St w s₀ env V led s → wpAny (MM w) A (isTrue test env (eval test env)) (fun b s₂ => if b = true then wpAny (MM w) A (execs body env) (fun f s₃ => match f with
      | .next | .cont => ∃ m V led, m < n ∧ J m V led ∧ St w s₀ env V led s₃
      | .brk => Q .next s₃
      | .ret v => Q (.ret v) s₃) E' s₂ else Q .next s₂) E' s) :
    wpAny (MM w) A (exec (.While test body [] pos) env) Q E s := by
  refine wpAny_While (codeAny_whileLoop (fun n s => ∃ V led, J n V led ∧ St w s₀ env V led s) ?_ n ⟨V, led, hJ, S⟩)
  rintro n s ⟨V, led, hJ, S⟩
  refine wpAny_mono (turn n V led s _ hJ S) (fun b s₂ h₂ => ?_) fun _ _ e => e
  cases b with
  | true =>
    rw [if_pos rfl] at h₂ ⊢
    refine wpAny_mono h₂ (fun f s₃ h₃ => ?_) fun _ _ e => e
    cases f with
    | next => obtain ⟨m, V, led, a, b, c⟩ := h₃; exact ⟨m, a, V, led, b, c⟩
    | cont => obtain ⟨m, V, led, a, b, c⟩ := h₃; exact ⟨m, a, V, led, b, c⟩
    | brk => exact h₃
    | ret v => exact h₃
  | false =>
    rw [if_neg (by decide)] at h₂ ⊢
    exact wpAny_execs_nil h₂
theorem item_LI {value slice : Expr} {a : Addr} {vs : List Value} {k : Nat} {u : Tok} {v : Value} {Q : Value → Shared → Prop} (ho : s.heap.IsList a vs.toArray) (hfit : k ≤ 1000) (hx : vs[k]? = some v) (h : Q v s)
    (hs : subscripted slice false (.ref a) (.int (k : Nat) u) = operate [.ref a, .int (k : Nat) u] (getItem (.ref a) (.int (k : Nat) u)) := by with_unfolding_all rfl) :
    wpAny (MM w) A (subscriptTail value slice (.ref a) (.int (k : Nat) u)) Q E s :=
  tail_any ho.typeIs slot_list_getitem.lookup (wpAny_getItem_list ho (by omega) (by omega) (by simpa using hx) h) hs
theorem item_T {value slice : Expr} {a : Addr} {vs : List Value} {k : Nat} {u : Tok} {v : Value} {Q : Value → Shared → Prop} (ho : s.heap.get? a = some (tupO vs)) (hfit : k ≤ 1000) (hx : vs[k]? = some v) (h : Q v s)
    (hs : subscripted slice false (.ref a) (.int (k : Nat) u) = operate [.ref a, .int (k : Nat) u] (getItem (.ref a) (.int (k : Nat) u)) := by with_unfolding_all rfl) :
    wpAny (MM w) A (subscriptTail value slice (.ref a) (.int (k : Nat) u)) Q E s :=
  item_tupleT (j := k) (isTup_of ho) (by omega) (by omega) (by
    have := (List.getElem?_eq_some_iff.mp hx).1
    unfold seqIndex?; simp; omega) hx h hs
/-- a slice of a list -/
theorem slice_L {value slice : Expr} {l : Addr} {vs : List Value} {vl vu : Value} {lo hi : Option Int} {Q : Value → Shared → Prop} (R : Rd w b env V nw s) (hl : s.heap.IsList l vs.toArray) (pl : IsPart vl lo) (pu : IsPart vu hi) (hz : vs.length ≤ 1000)
    (h : ∀ a s', Rd w b env V ((a, listO (slicePick vs.toArray lo hi none).toList 0) :: nw) s' → Q (.ref a) s')
    (hs : subscripted slice false (.ref l) (.ref s.heap.objs.size) = operate [.ref s.heap.objs.size, .ref l] (getItem (.ref l) (.ref s.heap.objs.size)) := by with_unfolding_all rfl)
    (ht : ∀ r, letTemporaryGo value (.ref l) r = pure () := by intro _; with_unfolding_all rfl) :
    wpAny (MM w) A (subscriptTail value slice (.ref l) (.ref s.heap.objs.size)) Q E { s with heap := s.heap.push { cls := .type "slice", data := .fields #[vl, vu, .none] } } := by
  refine subscriptTail_ops (Heap.IsList.typeIs (s := { s with heap := s.heap.push { cls := .type "slice", data := .fields #[vl, vu, .none] } }) (hl.push _)) list_getitem_lookup
    (wpAny_getItem_list_slice (hl.push _) (Heap.IsSliceOf.new ..) pl pu .none (by simp) ?_ (by rw [List.size_toArray]; show vs.length ≤ 2 ^ 24; omega)) hs ht
  refine h _ _ ?_
  have := (R.keeps (Kp.push s { cls := .type "slice", data := .fields #[vl, vu, .none] })).push (listO (slicePick vs.toArray lo hi none).toList 0)
  simpa using this
theorem slice_T {value slice : Expr} {l : Addr} {vs : List Value} {a : Nat} {u : Tok} {Q : Value → Shared → Prop} (R : Rd w b env V nw s) (hl : s.heap.get? l = some (tupO vs)) (h1 : 1 ≤ a) (ha : a ≤ vs.length) (hz : vs.length ≤ 1000)
    (h : ∀ a' s', Rd w b env V ((a', tupO (vs.drop a)) :: nw) s' → Q (.ref a') s')
    (hs : subscripted slice false (.ref l) (.ref s.heap.objs.size) = operate [.ref s.heap.objs.size, .ref l] (getItem (.ref l) (.ref s.heap.objs.size)) := by with_unfolding_all rfl)
    (ht : ∀ r, letTemporaryGo value (.ref l) r = pure () := by intro _; with_unfolding_all rfl) :
    wpAny (MM w) A (subscriptTail value slice (.ref l) (.ref s.heap.objs.size)) Q E { s with heap := s.heap.push { cls := .type "slice", data := .fields #[.int (a : Nat) u, .none, .none] } } := by
  have ht' : IsTup (s.heap.push { cls := .type "slice", data := .fields #[.int (a : Nat) u, .none, .none] }) l vs.toArray := (isTup_of hl).keeps fun _ _ e => Heap.get?_push_of_some _ e
  refine subscriptTail_ops (s := { s with heap := s.heap.push { cls := .type "slice", data := .fields #[.int (a : Nat) u, .none, .none] } }) ht'.typeIs slot_tuple_getitem.lookup
    (getItem_tuple_from ht' (Heap.IsSliceOf.new ..) h1 (by simpa using ha) ?_ (by rw [List.size_toArray]; show vs.length ≤ 2 ^ 24; omega)) hs ht
  exact h _ _ ((R.keeps (Kp.push s { cls := .type "slice", data := .fields #[.int (a : Nat) u, .none, .none] })).push (tupO (vs.drop a)))
end
/-- a def of the text is entered, and its arguments make new objects -/
theorem enterB {w : World} {s s1 : Shared} {A : Around} {R : Result → Shared → Prop} {fd : FuncData} {f c : Addr} {args : Args} {binds V : List (Str × Value)} {body : List Stmt}
    (hf : (KK w.params).lookup f = some (fnO fd)) (hc : (c, fd.qualname) ∈ kCodes) (hcd : fd.code = .ref c) (G : Gl w s.heap) (k : Kp s s1) (hroom : A.depth < recursionLimit)
    (hbody : fd.body = .stmts body) (hbind : ∀ (M : Model) (A : Around) (E : Value → Shared → Prop) (Q : List (Str × Value) → Shared → Prop), Q binds s1 → wpAny M A (bindArgs fd args) Q E s) (hclo : fd.closure = []) (hgl : fd.globals = mainGlobals) (hbl : fd.builtins = builtinsNs)
    (hkind : ∀ n, ∀ x ∈ binds, fd.scope.names.lookup x.1 = some .local ∨ (fd.scope.names.lookup x.1 = some .cell ∧ ((cellsFrom n fd.scope.names []).lookup x.1).isSome = true))
    (hV : ∀ L, AllV (VarOk (callEnvC fd L f) (bindL (callEnvC fd L f).kindOf binds fun _ => none) (bindC (callEnvC fd L f).kindOf binds fun _ => none)) V)
    (h : ∀ L s₁, s1.heap.objs.size ≤ L → St w s1 (callEnvC fd L f) V [] s₁ →
      wpAny (MM w) (A.deeper (callEnvC fd L f)) (execs body (callEnvC fd L f)) (fun fl s' => R (.ok (.ret (match fl with | .ret v => v | _ => .none))) s') (fun _ _ => False) s₁)
    (hco : fd.scope.isCoroutine = false) (hgen : fd.scope.isGenerator = false) (hk : fd.scope.kind = .function) :
    codeAny (MM w) A (.call (.ref f) args) R s := by
  have G1 : Gl w s1.heap := G.keeps fun _ _ e => k.get e
  refine codeAny_call_function hroom (G.k _ _ hf) rfl hco hgen hbody (hcd ▸ G.code _ hc) (hbind _ _ _ _ ?_)
  rw [hclo]
  refine wpAny_newFunctionEnv_cells hk (hkind _) fun env he s' x => ?_
  subst he
  refine ⟨G1.lim.keeps x.toInCall.keep, codeAny_func ?_⟩
  refine wpAny_mono (h s1.heap.objs.size s' (Nat.le_refl _) ⟨hk, hgl, hbl, G1, (let ⟨h, t, e, k⟩ := x.done; ⟨h, t, e, k⟩), none_at s1.heap, ⟨_, _, x.toInCall.ns, x.cell, fun y v e => (hV _).mem (y, v) (lookup_mem e)⟩, fun p q c hp hq _ => name_of_addr x.apart (mem_of_lookup hp) (mem_of_lookup hq), fun _ hp => (nomatch hp), List.nodup_nil⟩) (fun _ _ z => z) fun _ _ z => z.elim

theorem rep_bind (a b c : Value) : bindArgs fd73 ⟨[a, b, c], []⟩ = (newTuple [b, c] >>= fun v => pure [((Str.ofString "text", a) : Str × Value), (Str.ofString "pairs", v)]) := by rfl
set_option maxHeartbeats 4000000 in
theorem rep_ok {w : World} {s : Shared} {A : Around} {Q E : Value → Shared → Prop} {l : List Nat} {c d : Nat} {t u v : Tok} (G : Gl w s.heap) (hA : Rm 1 A) (hl : l.length ≤ 1000)
    (h : ∀ s' t', Kp s s' → Q (.str (sOf (swapL c d l)) t') s') :
    wpAny (MM w) A (call (.ref 73) [.str (sOf l) t, .str (sOf [c]) u, .str (sOf [d]) v]) Q E s := by
  refine wpAny_call ?_
  have hT : ({ s with heap := s.heap.push (tupO [.str (sOf [c]) u, .str (sOf [d]) v]) } : Shared).heap.get? s.heap.objs.size = some (tupO [.str (sOf [c]) u, .str (sOf [d]) v]) := Heap.get?_push_size _ rfl
  have hT0 := none_at s.heap
  have k0 : Kp s { s with heap := s.heap.push (tupO [.str (sOf [c]) u, .str (sOf [d]) v]) } := Kp.push _ _
  refine enterB (s1 := { s with heap := s.heap.push (tupO [.str (sOf [c]) u, .str (sOf [d]) v]) }) (fd := fd73) (c := 72) (binds := [("text", .str (sOf l) t), ("pairs", .ref s.heap.objs.size)]) (V := [("text", .str (sOf l) t), ("pairs", .ref s.heap.objs.size)]) (body := bodO (stm 5))
    (by rfl) (by decide) rfl G k0 hA.room rfl ?_ rfl rfl rfl ?_ ?_ ?_ rfl rfl rfl
  · intro M A E Q hq
    rw [rep_bind]
    exact wpAny_bind (wpAny_newObj_type (wpAny_pure hq) (by show (2 : Nat) ≤ sizeLine; decide))
  · intro k x hx
    simp only [List.mem_cons, List.not_mem_nil, or_false] at hx
    rcases hx with rfl | rfl <;> exact .inl rfl
  · intro L
    exact ⟨.inl ⟨rfl, rfl⟩, .inl ⟨rfl, rfl⟩, trivial⟩
  · intro L s₁ hL S
    generalize s.heap.objs.size = T at *
    have hA' := hA.deeper (callEnvC fd73 L 73)
    have S0 := S.rebase (l := [(T, tupO [.str (sOf [c]) u, .str (sOf [d]) v])]) G k0 rfl (fun p hp => by rw [List.mem_singleton.mp hp]; exact ⟨hT, hT0⟩) (by simp)
    clear S
    refine wpAny_execs_cons ?_
    refine whileW (fun n V led => ∃ (T : Addr) (vs : List Value) (x : List Nat) (tx : Tok), V = ([("text", .str (sOf x) tx), ("pairs", .ref T)] : VL) ∧ led = ([(T, tupO vs)] : LL) ∧ ((n = 1 ∧ x = l ∧ vs = [.str (sOf [c]) u, .str (sOf [d]) v]) ∨ (n = 0 ∧ x = swapL c d l ∧ vs = []))) 1 S0 ⟨T, _, l, t, rfl, rfl, .inl ⟨rfl, rfl, rfl⟩⟩ ?_
    rintro n V led s₂ E' ⟨T₂, vs, x, tx, rfl, rfl, hn⟩ S₂
    have R := S₂.rd
    have hT₂ := S₂.at (.head _)
    walk_at "w"
    walk_at "w"
    refine truthy_tuple (isTup_of hT₂) ?_ ?_
    · rcases hn with ⟨-, -, rfl⟩ | ⟨-, -, rfl⟩ <;> exact Int.lt_of_le_of_lt (b := 2) (by simp) (by decide)
    rcases hn with ⟨rfl, rfl, rfl⟩ | ⟨rfl, rfl, rfl⟩
    · rw [if_pos (by rfl)]
      refine wpAny_execs_cons (wpAny_Assign_Name ?_)
      walk_at "w"
      walk_at "w"
      walk_at "w"
      walk_at "w"
      refine item_T (k := 1) hT₂ (by decide) rfl ?_
      walk_at "ww"
      refine item_T (k := 0) hT₂ (by decide) rfl ?_
      walk_at "ww"
      refine split_S (R.any rfl) hl fun D vs P s₃ hP hvs R₃ => ?_
      walk_at "ww"
      refine join_S (R₃.at (.head _)) hvs (Nat.le_trans hP.length (by omega)) fun t' k => ?_
      rw [hP.swap d]
      refine ((S₂.back (R₃.any rfl)).drop (led' := [(T₂, tupO [.str (sOf [c]) u, .str (sOf [d]) v])]) (List.sublist_cons_self _ _)).store (.inl rfl) fun s₄ S₄ => ?_
      clear R R₃
      have R₄ := S₄.rd
      refine wpAny_execs_cons (wpAny_Assign_Name ?_)
      walk_at "ww"
      refine slice_T (s := { s₄ with toks := s₄.toks + 1 }) (a := 2) (R₄.tok _) (S₄.at (.head _)) (by decide) (Nat.le_refl _) (by simp) fun T₅ s₅ R₅ => ?_
      refine ((S₄.back R₅).drop (led' := [(T₅, tupO [])]) (by simp)).store (.inl rfl) fun s₆ S₆ => ?_
      exact wpAny_execs_nil ⟨0, _, _, by decide, ⟨T₅, [], _, _, rfl, rfl, .inr ⟨rfl, rfl, rfl⟩⟩, S₆.sub ⟨rfl, rfl, trivial⟩⟩
    · rw [if_neg (by decide)]
      refine wpAny_execs_cons (wpAny_Return_some ?_)
      walk_at "w"
      exact h _ _ (S₂.keep.trans (Kp.tok _ _))
end
section
/-! ## The plain law: chase -/
def ch (R : List (List Nat)) (i c : Nat) : Nat := (R.getD i []).getD c 0
structure Grid (R : List (List Nat)) : Prop where
  len : R.length = 3
  row : ∀ r ∈ R, r.length = 4
  sign : ∀ r ∈ R, ∀ x ∈ r, 97 ≤ x ∧ x ≤ 112
  apart : ∀ i j c d, i < 3 → j < 3 → c < 4 → d < 4 → ch R i c = ch R j d → c = d
theorem Grid.row' {R : List (List Nat)} (G : Grid R) {i : Nat} (hi : i < 3) : (R.getD i []).length = 4 := by
  have : i < R.length := by rw [G.len]; exact hi
  rw [List.getD_eq_getElem?_getD, List.getElem?_eq_getElem this]
  exact G.row _ (List.getElem_mem _)
theorem Grid.sign' {R : List (List Nat)} (G : Grid R) {i c : Nat} (hi : i < 3) (hc : c < 4) : 97 ≤ ch R i c ∧ ch R i c ≤ 112 := by
  have h1 : i < R.length := by rw [G.len]; exact hi
  have h2 := G.row' hi
  unfold ch
  have e : R.getD i [] = R[i] := by rw [List.getD_eq_getElem?_getD, List.getElem?_eq_getElem h1]; rfl
  rw [e] at h2 ⊢
  have h3 : c < R[i].length := by rw [h2]; exact hc
  rw [List.getD_eq_getElem?_getD, List.getElem?_eq_getElem h3]
  exact G.sign _ (List.getElem_mem _) _ (List.getElem_mem _)
theorem grid_ext {R R' : List (List Nat)} (h : R.length = 3) (h' : R'.length = 3) (r : ∀ x ∈ R, x.length = 4) (r' : ∀ x ∈ R', x.length = 4) (e : ∀ i c, i < 3 → c < 4 → ch R i c = ch R' i c) : R = R' := by
  refine List.ext_getElem (h.trans h'.symm) fun i hi hi' => ?_
  have a := r _ (List.getElem_mem hi)
  have b := r' _ (List.getElem_mem hi')
  refine List.ext_getElem (a.trans b.symm) fun c hc hc' => ?_
  have := e i c (h ▸ hi) (a ▸ hc)
  unfold ch at this
  simpa only [List.getD_eq_getElem?_getD, List.getElem?_eq_getElem hi, List.getElem?_eq_getElem hi', Option.getD_some, List.getElem?_eq_getElem hc, List.getElem?_eq_getElem hc'] using this
abbrev Rel := Nat → Nat → Nat → Prop
def Agr (R : List (List Nat)) : Rel := fun i j c => ch R i c = ch R j c
/-- a relation that the rules close -/
structure Cl (rules : List (Nat × Nat)) (E : Rel) : Prop where
  refl : ∀ i c, i < 3 → c < 4 → E i i c
  symm : ∀ i j c, i < 3 → j < 3 → c < 4 → E i j c → E j i c
  trans : ∀ i j k c, i < 3 → j < 3 → k < 3 → c < 4 → E i j c → E j k c → E i k c
  rule : ∀ p ∈ rules, ∀ i j, i < 3 → j < 3 → (∀ c, c < 4 → p.1.testBit c = true → E i j c) → E i j p.2
def SubR (E E' : Rel) : Prop := ∀ i j c, i < 3 → j < 3 → c < 4 → E i j c → E' i j c
def Leq (way : Int) (x y : Nat) : Prop := if way = 1 then x ≤ y else y ≤ x
structure Best (way : Int) (r : List (List Nat)) (E : Rel) (R : List (List Nat)) : Prop where
  one : ∀ i c, i < 3 → c < 4 → ∃ j, j < 3 ∧ E i j c ∧ ch R i c = ch r j c
  best : ∀ i j c, i < 3 → j < 3 → c < 4 → E i j c → Leq way (ch R i c) (ch r j c)
structure Good (way : Int) (rules : List (Nat × Nat)) (r R : List (List Nat)) : Prop where
  grid : Grid R
  up : SubR (Agr r) (Agr R)
  least : ∀ E, Cl rules E → SubR (Agr r) E → SubR (Agr R) E
  best : Best way r (Agr R) R
structure Chased (way : Int) (rules : List (Nat × Nat)) (r R : List (List Nat)) : Prop extends Good way rules r R where
  cl : Cl rules (Agr R)
theorem Leq.refl (way : Int) (x : Nat) : Leq way x x := by unfold Leq; split <;> omega
theorem Leq.trans {way : Int} {x y z : Nat} (a : Leq way x y) (b : Leq way y z) : Leq way x z := by unfold Leq at *; split at a <;> simp_all <;> omega
theorem Leq.anti {way : Int} {x y : Nat} (a : Leq way x y) (b : Leq way y x) : x = y := by unfold Leq at *; split at a <;> simp_all <;> omega
theorem best_uniq {way : Int} {r R R' : List (List Nat)} {E E' : Rel} (h : Best way r E R) (h' : Best way r E' R') (e : ∀ i j c, i < 3 → j < 3 → c < 4 → (E i j c ↔ E' i j c)) {i c : Nat} (hi : i < 3) (hc : c < 4) : ch R i c = ch R' i c := by
  obtain ⟨j, hj, a, b⟩ := h.one i c hi hc
  obtain ⟨j', hj', a', b'⟩ := h'.one i c hi hc
  refine Leq.anti (way := way) ?_ ?_
  · rw [b']; exact h.best i j' c hi hj' hc ((e i j' c hi hj' hc).mpr a')
  · rw [b]; exact h'.best i j c hi hj hc ((e i j c hi hj hc).mp a)
theorem Good.start {way : Int} {rules : List (Nat × Nat)} {r : List (List Nat)} (G : Grid r) : Good way rules r r :=
  ⟨G, fun _ _ _ _ _ _ e => e, fun _ _ h => h, ⟨fun i c hi hc => ⟨i, hi, rfl, rfl⟩, fun i j c _ _ _ e => by rw [show ch r i c = ch r j c from e]; exact Leq.refl _ _⟩⟩
theorem Chased.uniq {way : Int} {rules : List (Nat × Nat)} {r R R' : List (List Nat)} (h : Chased way rules r R) (h' : Chased way rules r R') : R = R' :=
  grid_ext h.grid.len h'.grid.len h.grid.row h'.grid.row fun i c hi hc =>
    best_uniq h.best h'.best (fun i j c hi hj hc => ⟨h.least _ h'.cl h'.up i j c hi hj hc, h'.least _ h.cl h.up i j c hi hj hc⟩) hi hc

def swapR (x y : Nat) (R : List (List Nat)) : List (List Nat) := R.map fun r => r.map fun z => if z = x then y else z
theorem ch_swap {R : List (List Nat)} {x y i c : Nat} (G : Grid R) (hi : i < 3) (hc : c < 4) : ch (swapR x y R) i c = if ch R i c = x then y else ch R i c := by
  have h1 : i < R.length := by rw [G.len]; exact hi
  have h2 : R[i].length = 4 := G.row _ (List.getElem_mem _)
  have h3 : c < R[i].length := by rw [h2]; exact hc
  unfold ch swapR
  simp only [List.getD_eq_getElem?_getD, List.getElem?_map, List.getElem?_eq_getElem h1, Option.map_some, Option.getD_some, List.getElem?_eq_getElem h3]
/-- one merge -/
theorem Good.swap {way : Int} {rules : List (Nat × Nat)} {r R : List (List Nat)} {i j g need lost keep : Nat} (G : Good way rules r R) (hp : (need, g) ∈ rules) (hi : i < 3) (hj : j < 3) (hg : g < 4)
    (al : ∀ c, c < 4 → need.testBit c = true → ch R i c = ch R j c) (hl : lost = ch R j g) (hk : keep = ch R i g) (hle : Leq way keep lost) : Good way rules r (swapR lost keep R) := by
  have gr := G.grid
  have off : ∀ k c, k < 3 → c < 4 → c ≠ g → ch (swapR lost keep R) k c = ch R k c := fun k c hk' hc hne => by
    rw [ch_swap gr hk' hc, if_neg]
    intro e; rw [hl] at e
    exact hne (gr.apart k j c g hk' hj hc hg e)
  have on : ∀ k, k < 3 → ch (swapR lost keep R) k g = if ch R k g = lost then keep else ch R k g := fun k hk' => ch_swap gr hk' hg
  have mono : ∀ k l c, k < 3 → l < 3 → c < 4 → ch R k c = ch R l c → ch (swapR lost keep R) k c = ch (swapR lost keep R) l c := fun k l c hk' hl' hc e => by
    rw [ch_swap gr hk' hc, ch_swap gr hl' hc, e]
  have col : ∀ k c, k < 3 → c < 4 → ∃ k', k' < 3 ∧ ch (swapR lost keep R) k c = ch R k' c := fun k c hk' hc => by
    rw [ch_swap gr hk' hc]
    split
    · rename_i e
      have : c = g := gr.apart k j c g hk' hj hc hg (by rw [e, hl])
      subst this
      exact ⟨i, hi, hk⟩
    · exact ⟨k, hk', rfl⟩
  refine ⟨⟨?_, ?_, ?_, ?_⟩, ?_, ?_, ⟨?_, ?_⟩⟩
  · unfold swapR; rw [List.length_map]; exact gr.len
  · intro x hx
    obtain ⟨y, hy, rfl⟩ := List.mem_map.mp hx
    rw [List.length_map]; exact gr.row y hy
  · intro x hx z hz
    obtain ⟨y, hy, rfl⟩ := List.mem_map.mp hx
    obtain ⟨u, hu, rfl⟩ := List.mem_map.mp hz
    split
    · rw [hk]; exact gr.sign' hi hg
    · exact gr.sign y hy u hu
  · intro a b c d ha hb hc hd e
    obtain ⟨a', ha', e1⟩ := col a c ha hc
    obtain ⟨b', hb', e2⟩ := col b d hb hd
    exact gr.apart a' b' c d ha' hb' hc hd (by rw [← e1, ← e2, e])
  · exact fun a b c ha hb hc e => mono a b c ha hb hc (G.up a b c ha hb hc e)
  · intro E hE hr a b c ha hb hc e
    have sub := G.least E hE hr
    have e : ch (swapR lost keep R) a c = ch (swapR lost keep R) b c := e
    by_cases hcg : c = g
    · subst hcg
      have hij : E i j c := hE.rule (need, c) hp i j hi hj fun d hd hb => sub i j d hi hj hd (al d hd hb)
      have toI : ∀ k, k < 3 → ch R k c = lost → E k i c := fun k hk' e => hE.trans k j i c hk' hj hi hc (sub k j c hk' hj hc (e.trans hl)) (hE.symm i j c hi hj hc hij)
      have toI' : ∀ k, k < 3 → ch R k c = keep → E k i c := fun k hk' e => sub k i c hk' hi hc (e.trans hk)
      rw [on a ha, on b hb] at e
      split at e <;> split at e
      · rename_i e1 e2; exact hE.trans a i b c ha hi hb hc (toI a ha e1) (hE.symm b i c hb hi hc (toI b hb e2))
      · rename_i e1 e2; exact hE.trans a i b c ha hi hb hc (toI a ha e1) (hE.symm b i c hb hi hc (toI' b hb e.symm))
      · rename_i e1 e2; exact hE.trans a i b c ha hi hb hc (toI' a ha e) (hE.symm b i c hb hi hc (toI b hb e2))
      · exact sub a b c ha hb hc e
    · rw [off a c ha hc hcg, off b c hb hc hcg] at e
      exact sub a b c ha hb hc e
  · intro a c ha hc
    obtain ⟨a', ha', e⟩ := col a c ha hc
    obtain ⟨k, hk', e1, e2⟩ := G.best.one a' c ha' hc
    refine ⟨k, hk', ?_, e.trans e2⟩
    show ch (swapR lost keep R) a c = ch (swapR lost keep R) k c
    have e1 : ch R a' c = ch R k c := e1
    rw [e, ch_swap gr hk' hc, ← e1]
    split
    · rename_i q
      have hcg : c = g := gr.apart a' j c g ha' hj hc hg (by rw [q, hl])
      subst hcg
      rw [on a ha] at e
      split at e
      · rw [← e]
      · rename_i q'; rw [e] at q'; exact absurd q q'
    · rfl
  · intro a b c ha hb hc e
    have e : ch (swapR lost keep R) a c = ch (swapR lost keep R) b c := e
    rw [e, ch_swap gr hb hc]
    have self := G.best.best b b c hb hb hc rfl
    split
    · rename_i q
      exact Leq.trans hle (q ▸ self)
    · exact self
/-- how many signs are still apart -/
def trips : List (Nat × Nat × Nat) := [(0, 1, 0), (0, 1, 1), (0, 1, 2), (0, 1, 3), (0, 2, 0), (0, 2, 1), (0, 2, 2), (0, 2, 3), (1, 2, 0), (1, 2, 1), (1, 2, 2), (1, 2, 3)]
def apartN (R : List (List Nat)) : Nat := trips.countP fun p => ch R p.1 p.2.2 != ch R p.2.1 p.2.2
theorem countP_lt {α : Type} {p q : α → Bool} : ∀ {l : List α}, (∀ x ∈ l, p x = true → q x = true) → ∀ x ∈ l, p x = false → q x = true → l.countP p < l.countP q
  | y :: l, h, x, hx, hp, hq => by
    rw [List.countP_cons, List.countP_cons]
    have mono : l.countP p ≤ l.countP q := List.countP_mono_left fun z hz => h z (.tail _ hz)
    rcases List.mem_cons.mp hx with rfl | hx'
    · rw [if_neg (by rw [hp]; decide), if_pos hq]; omega
    · have := countP_lt (fun z hz => h z (.tail _ hz)) x hx' hp hq
      by_cases hy : p y = true
      · rw [if_pos hy, if_pos (h y (.head _) hy)]; omega
      · rw [if_neg hy]; split <;> omega
theorem apart_swap {R : List (List Nat)} {i j g lost keep : Nat} (gr : Grid R) (ht : (i, j, g) ∈ trips) (hne : ch R i g ≠ ch R j g) (h : (lost = ch R j g ∧ keep = ch R i g) ∨ (lost = ch R i g ∧ keep = ch R j g)) : apartN (swapR lost keep R) < apartN R := by
  have lt : ∀ p ∈ trips, p.1 < 3 ∧ p.2.1 < 3 ∧ p.2.2 < 4 := by decide
  have hijg := lt _ ht
  refine countP_lt (fun p hp e => ?_) (i, j, g) ht ?_ ?_
  · obtain ⟨a, b, c⟩ := lt p hp
    rw [bne_iff_ne] at e ⊢
    intro q
    rw [ch_swap gr a c, ch_swap gr b c, q] at e
    exact e rfl
  · rw [bne_eq_false_iff_eq]
    show ch _ i g = ch _ j g
    rw [ch_swap gr hijg.1 hijg.2.2, ch_swap gr hijg.2.1 hijg.2.2]
    rcases h with ⟨rfl, rfl⟩ | ⟨rfl, rfl⟩
    · simp [hne]
    · simp [Ne.symm hne]
  · rw [bne_iff_ne]; exact hne
/-- what one look at a rule and a pair finds -/
def Fine (R : List (List Nat)) (p : Nat × Nat) (i j : Nat) : Prop := (∀ c, c < 4 → p.1.testBit c = true → ch R i c = ch R j c) → ch R i p.2 = ch R j p.2
def duos : List (Nat × Nat) := [(0, 1), (0, 2), (1, 2)]
theorem Good.close {way : Int} {rules : List (Nat × Nat)} {r R : List (List Nat)} (G : Good way rules r R) (h : ∀ p ∈ rules, ∀ q ∈ duos, Fine R p q.1 q.2) : Chased way rules r R := by
  refine ⟨G, fun _ _ _ _ => rfl, fun _ _ _ _ _ _ e => Eq.symm e, fun _ _ _ _ _ _ _ _ a b => Eq.trans a b, fun p hp i j hi hj al => ?_⟩
  have f : ∀ q ∈ duos, Fine R p q.1 q.2 := h p hp
  have key : ∀ i j, i < j → j < 3 → (∀ c, c < 4 → p.1.testBit c = true → ch R i c = ch R j c) → ch R i p.2 = ch R j p.2 := by
    intro i j h1 h2 al
    have : (i, j) ∈ duos := by
      have : j = 1 ∨ j = 2 := by omega
      rcases this with rfl | rfl
      · have : i = 0 := by omega
        subst this; decide
      · have : i = 0 ∨ i = 1 := by omega
        rcases this with rfl | rfl <;> decide
    exact f (i, j) this al
  rcases Nat.lt_trichotomy i j with q | q | q
  · exact key i j q hj al
  · subst q; rfl
  · exact (key j i q hi fun c hc hb => (al c hc hb).symm).symm
end
section
--LINES
local macro_rules | `(tactic| walk_at "eval Name") => `(tactic| first
  | refine Rd.Nm (Rd.any (by assumption) (by rfl)) (by rfl) ?_
  | refine Rd.Gb (Rd.any (by assumption) (by rfl)) (by rfl) (by rfl) ?_
  | refine Rd.Bl (Rd.any (by assumption) (by rfl)) (by decide) (by first | exact boot_len | exact boot_range | exact boot_sum | exact boot_sorted | exact boot_enumerate | exact boot_zip | exact PyProof.Rows.boot_set | exact PyProof.Rows.boot_type | exact PyProof.Rows.boot_list | exact PyProof.Rows.boot_str) (by rfl) ?_)
local macro_rules | `(tactic| walk_at "side") => `(tactic| (refine ⟨rfl, rfl, by decide, ?_, ?_, fun C => .inl rfl, rfl⟩; ((repeat (refine And.intro ⟨⟨_, rfl⟩, rfl, rfl⟩ ?_)); exact trivial); (intro C; (repeat (refine And.intro ⟨rfl, rfl, ⟨_, rfl⟩, rfl⟩ ?_)); exact trivial)))
local macro_rules | `(tactic| walk_at "newTuple") => `(tactic| (refine newTuple_R (Rd.any (by assumption) (by rfl)) ?_ (by simp [sizeLine]); intro a s' R))
local macro_rules | `(tactic| walk_at "newList") => `(tactic| (refine newList_R (Rd.any (by assumption) (by rfl)) ?_ (by simp [sizeLine]); intro a s' R))
local macro_rules | `(tactic| walk_at "w") => `(tactic| (walk1; try dsimp only))
local macro_rules | `(tactic| walk_at "ww") => `(tactic| repeat ((with_reducible show wpAny _ _ _ _ _ _); walk_at "w"))
local macro_rules | `(tactic| walk_at "callWith ref") => `(tactic| refine callWith_K (Rd.gl' (by assumption)).k (by rfl) ?_)
--ENDLINES
theorem Rd.adds {w : World} {b s s' : Shared} {env : Env} {V : VL} {nw l : LL} (R : Rd w b env V nw s) (k : Kp s s') (h : ∀ p ∈ l, s.heap.get? p.1 = none ∧ s'.heap.get? p.1 = some p.2) (nd : (l.map (·.1)).Nodup) : Rd w b env V (l ++ nw) s' :=
  let R' := R.keeps k
  { R' with
    has := fun p hp => by
      rcases List.mem_append.mp hp with hp | hp
      · exact ⟨(h p hp).2, R.kp.none (h p hp).1⟩
      · exact R'.has p hp
    nd := by
      rw [List.map_append]
      refine List.nodup_append.mpr ⟨nd, R.nd, fun x hx y hy e => ?_⟩
      obtain ⟨p, hp, rfl⟩ := List.mem_map.mp hx
      obtain ⟨q, hq, rfl⟩ := List.mem_map.mp hy
      exact fresh_ne (h p hp).1 (R.has q hq).1 e.symm }
theorem forTupE {w : World} {s s₀ : Shared} {env : Env} {V : VL} {led : LL} {A : Around} {E : Value → Shared → Prop} {target iter : Expr} {body : List Stmt} {pos : Pos} {Q : Flow → Shared → Prop} (S : St w s₀ env V led s) (hh : A.handled = none) (hfold : ∀ x, foldedSetIterable iter env x = pure x)
    (own : ∀ I l, OwnOk w A target (tupIt l) I)
    (h : wpAny (MM w) A (eval iter env) (fun xv s₁ => ∃ l nw vs J, xv = .ref l ∧ Rd w s env V nw s₁ ∧ s₁.heap.get? l = some (tupO vs) ∧ J 0 V (nw ++ led) ∧ (∀ i V led s, J i V led → St w s₀ env V led s → s.heap.get? l = some (tupO vs)) ∧
      TurnOk w A s₀ env target body Q J (fun i v => vs[i]? = some v) ∧ (∀ V led s, J vs.length V led → St w s₀ env V led s → Q .next s)) E s) :
    wpAny (MM w) A (exec (.For target iter body [] pos) env) Q E s := by
  refine forW S hfold (wpAny_mono h (fun xv s₁ h₁ => ?_) fun _ _ e => e)
  obtain ⟨l, nw, vs, J, rfl, R, hl, hJ, hk, turn, done⟩ := h₁
  refine tup_it R hl fun I o s₂ R₂ hI hne => ⟨I, o, nw, vs.length, fun i v => vs[i]? = some v, tupIt l, fun h => h.IsTuple l vs.toArray, J, ?_⟩
  exact ⟨rfl, ItW.tuple hh I l vs hne, R₂, hI, hJ, fun i V led s j S => ⟨_, hk i V led s j S, rfl, 0, rfl⟩, own I l, fun i v V led s o E' _ hv hJ _ S => turn I o i v V led s E' hv hJ S, done⟩
/-! ## _law_chase -/
def RulesAre (h : Heap) (vs : List Value) (rl : List (Nat × Nat)) : Prop := vs.length = rl.length ∧ ∀ (i : Nat) (p : Nat × Nat), rl[i]? = some p → ∃ T t u, vs[i]? = some (Value.ref T) ∧ h.get? T = some (tupO [Value.int (p.1 : Nat) t, Value.int (p.2 : Nat) u])
def PairsIn (els : LL) (vs : List Value) (cs : List Nat) (way : Int) : Prop := vs.length = cs.length ∧ ∀ (i c : Nat), cs[i]? = some c → ∃ T t u, vs[i]? = some (Value.ref T) ∧ (T, tupO [Value.int (c : Nat) t, Value.int way u]) ∈ els
theorem PairsIn.are {els : LL} {vs : List Value} {cs : List Nat} {way : Int} {h : Heap} (P : PairsIn els vs cs way) (k : ∀ p ∈ els, h.get? p.1 = some p.2) : PairsAre h vs cs way :=
  ⟨P.1, fun i c e => let ⟨T, t, u, a, b⟩ := P.2 i c e; ⟨T, t, u, a, k _ b⟩⟩
theorem PairsIn.add {els : LL} {vs : List Value} {cs : List Nat} {way : Int} {T : Addr} {c : Nat} {t u : Tok} (P : PairsIn els vs cs way) : PairsIn ((T, tupO [Value.int (c : Nat) t, Value.int way u]) :: els) (vs ++ [.ref T]) (cs ++ [c]) way := by
  refine ⟨by simp [P.1], fun i d e => ?_⟩
  rcases Nat.lt_trichotomy i cs.length with q | q | q
  · rw [List.getElem?_append_left q] at e
    obtain ⟨T', t', u', a, b⟩ := P.2 i d e
    exact ⟨T', t', u', by rw [List.getElem?_append_left (by rw [P.1]; exact q)]; exact a, .tail _ b⟩
  · subst q
    simp at e
    subst e
    exact ⟨T, t, u, by rw [← P.1]; simp, .head _⟩
  · rw [List.getElem?_eq_none (by simp; omega)] at e; cases e
def bitsL (need : Nat) : List Nat := (List.range 4).filter fun c => need.testBit c
theorem cmp_zero {way : Int} (hw : way ≠ 0) {a b : List Nat} : ∀ cs : List Nat, cmpF way a b cs = 0 ↔ ∀ c ∈ cs, a.getD c 0 = b.getD c 0
  | [] => by simp [cmpF]
  | c :: r => by
    have ih := cmp_zero hw (a := a) (b := b) r
    unfold cmpF
    simp only [List.mem_cons, forall_eq_or_imp]
    split
    · constructor
      · intro h; omega
      · intro h; omega
    · split
      · constructor
        · intro h; omega
        · intro h; omega
      · rw [ih]
        constructor
        · intro h; exact ⟨by omega, h⟩
        · intro h; exact h.2
theorem cmp_sign {way : Int} (hway : way = 1 ∨ way = -1) {a b : List Nat} {g : Nat} (hne : a.getD g 0 ≠ b.getD g 0) : cmpF way a b [g] < 0 ↔ Leq way (a.getD g 0) (b.getD g 0) := by
  unfold cmpF Leq
  rcases hway with rfl | rfl
  · rw [if_pos rfl]
    by_cases h : a.getD g 0 < b.getD g 0
    · rw [if_pos h]; omega
    · rw [if_neg h, if_pos (by omega)]; omega
  · rw [if_neg (show ¬ ((-1 : Int) = 1) by decide)]
    by_cases h : a.getD g 0 < b.getD g 0
    · rw [if_pos h]; omega
    · rw [if_neg h, if_pos (by omega)]; omega
theorem Leq.total (way : Int) (x y : Nat) : Leq way x y ∨ Leq way y x := by unfold Leq; split <;> omega
theorem mem_bits {need c : Nat} : c ∈ bitsL need ↔ c < 4 ∧ need.testBit c = true := by simp [bitsL]
theorem grid_free {R : List (List Nat)} (G : Grid R) : ∀ p ∈ R, 32 ∉ p := fun p hp h => by have := G.sign p hp 32 h; omega
theorem grid_parts {R : List (List Nat)} (G : Grid R) : Parts 32 (joinL 32 R) R := ⟨rfl, grid_free G, fun e => by have := G.len; rw [e] at this; cases this⟩
theorem swap_join {x y : Nat} (hx : x ≠ 32) : ∀ R : List (List Nat), swapL x y (joinL 32 R) = joinL 32 (swapR x y R)
  | [] => rfl
  | [p] => rfl
  | p :: q :: r => by
    have ih := swap_join (y := y) hx (q :: r)
    show swapL x y (p ++ 32 :: joinL 32 (q :: r)) = _
    unfold swapL at ih ⊢
    rw [List.map_append, List.map_cons, if_neg (Ne.symm hx), ih]
    rfl
theorem grid_len {R : List (List Nat)} (G : Grid R) : (joinL 32 R).length = 14 := by
  obtain ⟨h, r, -, -⟩ := G
  match R, h with
  | [a, b, c], _ =>
    have ha := r a (by simp)
    have hb := r b (by simp)
    have hc := r c (by simp)
    simp [joinL, ha, hb, hc]

theorem tc_meth {w : World} {s : Shared} {A : Around} {E : Value → Shared → Prop} {x dx : Addr} {t : Tok} {v : Value} {pl : Sem Bool} {Q : Value × List Value → Shared → Prop} (G : Gl w s.heap) (hx : s.heap.get? x = some (instObj 62 dx)) (hd : s.heap.get? dx = some (tcDict w.params t v)) (h : Q (.ref 59, [.ref x]) s) :
    wpAny (MM w) A (getMethod (.ref x) "compare" pl) Q E s :=
  method_fn (od := some (tcDict w.params t v)) G.k ⟨hx, rfl, rfl, hd⟩ (plainGet_of (tc_ga _ "compare")).1 (plainGet_of (tc_ga _ "compare")).2 (tc_cmp _) (beq_iff_eq.mp (tc_fn _)) rfl h
theorem row_at {T : List (List Nat)} {vs : List Value} {i : Nat} (h : StrsAre vs (T.map sOf)) (hi : i < T.length) : ∃ t, vs[i]? = some (.str (sOf (T.getD i [])) t) := by
  refine StrsAre.at h ?_
  rw [List.getElem?_map, List.getElem?_eq_getElem hi, List.getD_eq_getElem?_getD, List.getElem?_eq_getElem hi]; rfl
def forBody : Stmt → List Stmt
  | .For _ _ b _ _ => b
  | _ => []
def whBody : Stmt → List Stmt
  | .While _ b _ _ => b
  | _ => []
def chB : List Stmt := forBody ((forBody ((whBody ((bodO (stm 15)).getD 2 noStm)).getD 1 noStm)).getD 2 noStm)

set_option maxHeartbeats 8000000 in
theorem pair_turn {w : World} {s₀ s : Shared} {A : Around} {E : Value → Shared → Prop} {Q : Flow → Shared → Prop} {L x dx D x' dx' aW aP ra ua : Addr} {ys : List Value} {els led : LL} {nD i j need goal : Nat} {T r : List (List Nat)} {rl : List (Nat × Nat)} {g : Bool} {way : Int} {tw tx t₇ t₁₀ u2 ti tj tp tq : Tok}
    (S : St w s₀ (callEnvC fd236 L 236) [("rows", .ref ra), ("rules", .ref ua), ("way", .int way tw), ("text", .str (sOf (joinL 32 T)) tx), ("going", .bool g), ("goal", .int (goal : Nat) u2), ("alike", .ref x), ("which", .ref x'), ("i", .int (i : Nat) ti), ("j", .int (j : Nat) tj)] led s)
    (hA : Rm 1 A) (hT : Good way rl r T) (hp : (need, goal) ∈ rl) (hd : (i, j) ∈ duos) (hg : goal < 4) (hway : way = 1 ∨ way = -1)
    (mA : (x, instObj 62 dx) ∈ led) (mAd : (dx, tcDict w.params t₇ (.ref D)) ∈ led) (mAl : (D, listO ys nD) ∈ led) (hys : PairsIn els ys (bitsL need) way) (mAe : ∀ p ∈ els, p ∈ led)
    (mW : (x', instObj 62 dx') ∈ led) (mWd : (dx', tcDict w.params t₁₀ (.ref aW)) ∈ led) (mWl : (aW, listO [.ref aP] 0) ∈ led) (mWe : (aP, tupO [.int (goal : Nat) tp, .int way tq]) ∈ led)
    (h : ∀ s' T' g' tx', St w s₀ (callEnvC fd236 L 236) [("rows", .ref ra), ("rules", .ref ua), ("way", .int way tw), ("text", .str (sOf (joinL 32 T')) tx'), ("going", .bool g'), ("goal", .int (goal : Nat) u2), ("alike", .ref x), ("which", .ref x')] led s' →
      ((T' = T ∧ g' = g ∧ Fine T (need, goal) i j) ∨ (Good way rl r T' ∧ g' = true ∧ apartN T' < apartN T)) → Q .next s') :
    wpAny (MM w) A (execs chB (callEnvC fd236 L 236)) Q E s := by
  have hij : i < 3 ∧ j < 3 := by
    have : ∀ q ∈ duos, q.1 < 3 ∧ q.2 < 3 := by decide
    exact this _ hd
  have gr := hT.grid
  have R := S.rd
  refine wpAny_execs_cons (wpAny_Assign_Name ?_)
  walk_at "ww"
  refine split_S (c := 32) (R.any rfl) (by rw [grid_len gr]; decide) fun N vs P s₁ hP hvs R₁ => ?_
  have hPT : P = T := hP.uniq (grid_parts gr)
  subst hPT
  refine (S.back R₁).store (.inl rfl) fun s₂ S₂ => ?_
  clear R R₁ S
  have R := S₂.rd
  have hN := S₂.at (.head _)
  have hI := isTup_of (S₂.at (.tail _ mWe))
  refine wpAny_execs_cons (wpAny_Assign_Name ?_)
  walk_at "ww"
  obtain ⟨tA, hiA⟩ := row_at hvs (i := i) (by rw [gr.len]; exact hij.1)
  obtain ⟨tB, hjB⟩ := row_at hvs (i := j) (by rw [gr.len]; exact hij.2)
  refine tc_meth R.gl' (S₂.at (.tail _ mW)) (S₂.at (.tail _ mWd)) ?_
  walk_at "ww"
  refine item_L hN (by omega) (by omega) (by rw [Int.toNat_natCast]; exact hiA) ?_
  walk_at "ww"
  refine item_L hN (by omega) (by omega) (by rw [Int.toNat_natCast]; exact hjB) ?_
  walk_at "ww"
  refine ⟨R.gl'.k, ?_⟩
  refine cmp_ok (cs := [goal]) (way := way) R.gl' hA (S₂.at (.tail _ mW)) (S₂.at (.tail _ mWd)) (S₂.at (.tail _ mWl)) ?_ (by simpa using hg) (gr.row' hij.1) (gr.row' hij.2) fun s₃ t₃ k₃ => ?_
  · refine ⟨rfl, fun k c e => ?_⟩
    match k, e with
    | 0, e => cases e; exact ⟨aP, tp, tq, rfl, S₂.at (.tail _ mWe)⟩
    | k + 1, e => simp at e
  refine (S₂.keeps k₃).store (.inl rfl) fun s₄ S₄ => ?_
  clear R S₂ hI hN k₃
  have R := S₄.rd
  have hN := S₄.at (.head _)
  generalize htold : cmpF way (P.getD i []) (P.getD j []) [goal] = told at S₄ R
  refine wpAny_execs_cons (wpAny_If ?_)
  walk_at "ww"
  have hw0 : way ≠ 0 := by rcases hway with rfl | rfl <;> decide
  have hzero : told = 0 ↔ ch P i goal = ch P j goal := by
    rw [← htold, cmp_zero hw0]; simp [ch]
  by_cases h0 : told = 0
  · rw [if_neg (by simp [h0])]
    rw [if_neg (by decide)]
    refine wpAny_execs_nil (wpAny_execs_nil ?_)
    exact h _ P g tx (((S₄.keeps (Kp.tok _ _)).sub (V' := [("rows", .ref ra), ("rules", .ref ua), ("way", .int way tw), ("text", .str (sOf (joinL 32 P)) tx), ("going", .bool g), ("goal", .int (goal : Nat) u2), ("alike", .ref x), ("which", .ref x')]) ⟨rfl, rfl, rfl, rfl, rfl, rfl, rfl, rfl, trivial⟩).drop (List.sublist_cons_self _ _)) (.inl ⟨rfl, rfl, fun _ => hzero.mp h0⟩)
  · rw [if_pos (by simpa using h0)]
    walk_at "ww"
    refine tc_meth (s := { s₄ with toks := s₄.toks + 1 }) R.gl' (S₄.at (.tail _ mA)) (S₄.at (.tail _ mAd)) ?_
    walk_at "ww"
    refine item_L hN (by omega) (by omega) (by rw [Int.toNat_natCast]; exact hiA) ?_
    walk_at "ww"
    refine item_L hN (by omega) (by omega) (by rw [Int.toNat_natCast]; exact hjB) ?_
    walk_at "ww"
    refine ⟨R.gl'.k, ?_⟩
    refine cmp_ok (s := { s₄ with toks := s₄.toks + 1 }) (cs := bitsL need) (way := way) R.gl' hA (S₄.at (.tail _ mA)) (S₄.at (.tail _ mAd)) (S₄.at (.tail _ mAl)) (hys.are fun p hp => S₄.at (.tail _ (mAe p hp))) (fun c hc => (mem_bits.mp hc).1) (gr.row' hij.1) (gr.row' hij.2) fun s₅ t₅ k₅ => ?_
    have S₅ := S₄.keeps ((Kp.tok _ _).trans k₅)
    clear R S₄ hN k₅
    have R := S₅.rd
    have hN := S₅.at (.head _)
    walk_at "ww"
    have hal : cmpF way (P.getD i []) (P.getD j []) (bitsL need) = 0 ↔ ∀ c, c < 4 → need.testBit c = true → ch P i c = ch P j c := by
      rw [cmp_zero hw0]
      exact ⟨fun q c hc hb => q c (mem_bits.mpr ⟨hc, hb⟩), fun q c hc => q c (mem_bits.mp hc).1 (mem_bits.mp hc).2⟩
    by_cases h1 : cmpF way (P.getD i []) (P.getD j []) (bitsL need) = 0
    · rw [if_pos (by simpa using h1)]
      walk_at "w"
      rw [if_pos rfl]
      have hne : ch P i goal ≠ ch P j goal := fun e => h0 (hzero.mpr e)
      have hsign : told < 0 ↔ Leq way (ch P i goal) (ch P j goal) := by rw [← htold]; exact cmp_sign hway hne
      refine wpAny_execs_cons (PyProof.Rows.Assign_Tuple ?_)
      refine wpAny_mono (Q := fun v s₆ => ∃ (ki li : Nat) (tk tl : Tok) (Tt : Addr) (nw : LL), v = .ref Tt ∧ ((ki = i ∧ li = j) ∨ (ki = j ∧ li = i)) ∧ Leq way (ch P ki goal) (ch P li goal) ∧ s₆.heap.get? Tt = some (tupO [.str (sOf (P.getD ki [])) tk, .str (sOf (P.getD li [])) tl]) ∧ Kp s₅ s₆) (E := E) ?_ (fun v s₆ h₆ => ?_) fun _ _ e => e
      · walk_at "ww"
        by_cases hlt : told < 0
        · rw [if_pos (by simpa using hlt)]
          walk_at "ww"
          refine item_L hN (by omega) (by omega) (by rw [Int.toNat_natCast]; exact hiA) ?_
          walk_at "ww"
          refine item_L hN (by omega) (by omega) (by rw [Int.toNat_natCast]; exact hjB) ?_
          walk_at "ww"
          rename_i a₆ s₆ R₆
          exact ⟨i, j, tA, tB, a₆, [], rfl, .inl ⟨rfl, rfl⟩, hsign.mp hlt, R₆.at (.head _), R₆.kp⟩
        · rw [if_neg (by simpa using hlt)]
          walk_at "ww"
          refine item_L hN (by omega) (by omega) (by rw [Int.toNat_natCast]; exact hjB) ?_
          walk_at "ww"
          refine item_L hN (by omega) (by omega) (by rw [Int.toNat_natCast]; exact hiA) ?_
          walk_at "ww"
          rename_i a₆ s₆ R₆
          exact ⟨j, i, tB, tA, a₆, [], rfl, .inr ⟨rfl, rfl⟩, (Leq.total way (ch P i goal) (ch P j goal)).resolve_left (fun q => hlt (hsign.mpr q)), R₆.at (.head _), R₆.kp⟩
      · obtain ⟨ki, li, tk, tl, Tt, -, rfl, hkl, hle, hTt, k₆⟩ := h₆
        refine (S₅.keeps k₆).two hA.hh hTt (.inl rfl) (.inl rfl) fun s₇ S₇ => ?_
        clear R S₅ hN
        have R := S₇.rd
        have hk3 : ki < 3 := by rcases hkl with ⟨rfl, rfl⟩ | ⟨rfl, rfl⟩ <;> omega
        have hl3 : li < 3 := by rcases hkl with ⟨rfl, rfl⟩ | ⟨rfl, rfl⟩ <;> omega
        refine wpAny_execs_cons (wpAny_Assign_Name ?_)
        walk_at "ww"
        refine item_S (by rw [gr.row' hl3]; exact hg) (by rw [gr.row' hl3]; decide) ?_
        walk_at "ww"
        refine item_S (by rw [gr.row' hk3]; exact hg) (by rw [gr.row' hk3]; decide) ?_
        walk_at "ww"
        refine ⟨R.gl'.k, ?_⟩
        refine rep_ok (R.any rfl).gl' hA (by rw [grid_len gr]; decide) fun s₈ t₈ k₈ => ?_
        have S₈ := (S₇.keeps (Kp.tok _ _)).keeps k₈
        clear R S₇ k₈
        refine S₈.store (.inl rfl) fun s₉ S₉ => ?_
        refine wpAny_execs_cons (wpAny_Assign_Name ?_)
        walk_at "ww"
        refine S₉.store (.inl rfl) fun s₁₀ S₁₀ => ?_
        refine wpAny_execs_nil (wpAny_execs_nil ?_)
        have hx32 : ch P li goal ≠ 32 := fun e => by have := (gr.sign' hl3 hg).1; omega
        have e : swapL ((P.getD li []).getD goal 0) ((P.getD ki []).getD goal 0) (joinL 32 P) = joinL 32 (swapR (ch P li goal) (ch P ki goal) P) := swap_join hx32 P
        rw [e] at S₁₀
        refine h _ (swapR (ch P li goal) (ch P ki goal) P) true t₈ ((S₁₀.sub (V' := [("rows", .ref ra), ("rules", .ref ua), ("way", .int way tw), ("text", .str (sOf (joinL 32 (swapR (ch P li goal) (ch P ki goal) P))) t₈), ("going", .bool true), ("goal", .int (goal : Nat) u2), ("alike", .ref x), ("which", .ref x')]) ⟨rfl, rfl, rfl, rfl, rfl, rfl, rfl, rfl, trivial⟩).drop (List.sublist_cons_self _ _)) (.inr ⟨?_, rfl, ?_⟩)
        · refine hT.swap hp hk3 hl3 hg (fun c hc hb => ?_) rfl rfl hle
          have := hal.mp h1 c hc hb
          rcases hkl with ⟨rfl, rfl⟩ | ⟨rfl, rfl⟩
          · exact this
          · exact this.symm
        · refine apart_swap gr (i := i) (j := j) (g := goal) ?_ hne ?_
          · have : ∀ q ∈ duos, ∀ g < 4, (q.1, q.2, g) ∈ trips := by decide
            exact this _ hd _ hg
          · rcases hkl with ⟨rfl, rfl⟩ | ⟨rfl, rfl⟩
            · exact .inl ⟨rfl, rfl⟩
            · exact .inr ⟨rfl, rfl⟩
    · rw [if_neg (by simpa using h1)]
      rw [if_neg (by decide)]
      refine wpAny_execs_nil (wpAny_execs_nil ?_)
      exact h _ P g tx (((S₅.keeps (Kp.tok _ _)).sub (V' := [("rows", .ref ra), ("rules", .ref ua), ("way", .int way tw), ("text", .str (sOf (joinL 32 P)) tx), ("going", .bool g), ("goal", .int (goal : Nat) u2), ("alike", .ref x), ("which", .ref x')]) ⟨rfl, rfl, rfl, rfl, rfl, rfl, rfl, rfl, trivial⟩).drop (List.sublist_cons_self _ _)) (.inl ⟨rfl, rfl, fun q => absurd (hal.mpr q) h1⟩)
end
section
--LINES
local macro_rules | `(tactic| walk_at "eval Name") => `(tactic| first
  | refine Rd.Nm (Rd.any (by assumption) (by rfl)) (by rfl) ?_
  | refine Rd.Gb (Rd.any (by assumption) (by rfl)) (by rfl) (by rfl) ?_
  | refine Rd.Bl (Rd.any (by assumption) (by rfl)) (by decide) (by first | exact boot_len | exact boot_range | exact boot_sum | exact boot_sorted | exact boot_enumerate | exact boot_zip | exact PyProof.Rows.boot_set | exact PyProof.Rows.boot_type | exact PyProof.Rows.boot_list | exact PyProof.Rows.boot_str) (by rfl) ?_)
local macro_rules | `(tactic| walk_at "side") => `(tactic| (refine ⟨rfl, rfl, by decide, ?_, ?_, fun C => .inl rfl, rfl⟩; ((repeat (refine And.intro ⟨⟨_, rfl⟩, rfl, rfl⟩ ?_)); exact trivial); (intro C; (repeat (refine And.intro ⟨rfl, rfl, ⟨_, rfl⟩, rfl⟩ ?_)); exact trivial)))
local macro_rules | `(tactic| walk_at "newTuple") => `(tactic| (refine newTuple_R (Rd.any (by assumption) (by rfl)) ?_ (by simp [sizeLine]); intro a s' R))
local macro_rules | `(tactic| walk_at "newList") => `(tactic| (refine newList_R (Rd.any (by assumption) (by rfl)) ?_ (by simp [sizeLine]); intro a s' R))
local macro_rules | `(tactic| walk_at "w") => `(tactic| (walk1; try dsimp only))
local macro_rules | `(tactic| walk_at "ww") => `(tactic| repeat ((with_reducible show wpAny _ _ _ _ _ _); walk_at "w"))
local macro_rules | `(tactic| walk_at "callWith ref") => `(tactic| refine callWith_K (Rd.gl' (by assumption)).k (by rfl) ?_)
--ENDLINES
set_option maxHeartbeats 8000000 in
theorem chase_ok {w : World} {s : Shared} {A : Around} {Q E : Value → Shared → Prop} {ra ua : Addr} {rv uv : List Value} {n1 n2 : Nat} {r : List (List Nat)} {rl : List (Nat × Nat)} {way : Int} {tw : Tok} (G : Gl w s.heap) (hA : Rm 3 A)
    (hr : s.heap.get? ra = some (listO rv n1)) (hrv : StrsAre rv (r.map sOf)) (grid : Grid r) (hu : s.heap.get? ua = some (listO uv n2)) (hP : RulesAre s.heap uv rl) (hrl : ∀ p ∈ rl, p.1 < 16 ∧ p.2 < 4) (hway : way = 1 ∨ way = -1)
    (h : ∀ D vs R s', Kp s s' → s.heap.get? D = none → s'.heap.get? D = some (listO vs 0) → StrsAre vs (R.map sOf) → Chased way rl r R → Q (.ref D) s') :
    wpAny (MM w) A (call (.ref 236) [.ref ra, .ref ua, .int way tw]) Q E s := by
  refine wpAny_call ?_
  refine enter (fd := fd236) (c := 235) (binds := [("rows", .ref ra), ("rules", .ref ua), ("way", .int way tw)]) (V := [("rows", .ref ra), ("rules", .ref ua), ("way", .int way tw)]) (body := bodO (stm 15)) (by rfl) (by decide) rfl G hA.room rfl (BindsTo.of_eq rfl) rfl rfl rfl ?_ ?_ ?_ rfl rfl rfl
  · intro k x hx
    simp only [List.mem_cons, List.not_mem_nil, or_false] at hx
    rcases hx with rfl | rfl | rfl
    · exact .inl rfl
    · exact .inl rfl
    · exact .inr ⟨rfl, rfl⟩
  · intro L
    exact ⟨.inl ⟨rfl, rfl⟩, .inl ⟨rfl, rfl⟩, .inr ⟨rfl, rfl, rfl⟩, trivial⟩
  · intro L s₁ hL S
    have hA' := hA.deeper (callEnvC fd236 L 236)
    have R := S.rd
    refine wpAny_execs_cons (wpAny_Assign_Name ?_)
    walk_at "ww"
    refine join_S (P := r) (c := 32) (S.old hr) hrv ?_ fun t' k => ?_
    · have := grid_len grid
      have e := (grid_parts grid).length
      omega
    refine (S.back (R.any rfl)).store (.inl rfl) fun s₂ S₂ => ?_
    clear R S
    dsimp only [List.nil_append] at S₂
    refine wpAny_execs_cons (wpAny_Assign_Name ?_)
    walk_at "ww"
    refine S₂.store (.inl rfl) fun s₃ S₃ => ?_
    clear S₂
    refine wpAny_execs_cons ?_
    refine whileW (fun n V led => ∃ (T : List (List Nat)) (g : Bool) (tx : Tok), V = ([("rows", .ref ra), ("rules", .ref ua), ("way", .int way tw), ("text", .str (sOf (joinL 32 T)) tx), ("going", .bool g)] : VL) ∧ led = ([] : LL) ∧
      Good way rl r T ∧ ((g = true ∧ n = apartN T + 1) ∨ (g = false ∧ n = 0 ∧ Chased way rl r T))) (apartN r + 1) (S₃.sub (V' := [("rows", .ref ra), ("rules", .ref ua), ("way", .int way tw), ("text", .str (sOf (joinL 32 r)) t'), ("going", .bool true)]) ⟨rfl, rfl, rfl, rfl, rfl, trivial⟩)
      ⟨r, true, t', rfl, rfl, Good.start grid, .inl ⟨rfl, rfl⟩⟩ ?_
    clear S₃
    rintro n V led s₂ E' ⟨T, g, tx, rfl, rfl, hT, hn⟩ S₂
    have R := S₂.rd
    rcases hn with ⟨rfl, rfl⟩ | ⟨rfl, rfl, hch⟩
    · walk_at "w"
      walk_at "w"
      walk_at "w"
      rw [if_pos rfl]
      refine wpAny_execs_cons (wpAny_Assign_Name ?_)
      walk_at "w"
      refine S₂.store (.inl rfl) fun s₃ S₃ => ?_
      clear R S₂
      have S₃ := S₃.sub (V' := [("rows", .ref ra), ("rules", .ref ua), ("way", .int way tw), ("text", .str (sOf (joinL 32 T)) tx), ("going", .bool false)]) ⟨rfl, rfl, rfl, rfl, rfl, trivial⟩
      refine wpAny_execs_cons ?_
      refine forList uv (fun i V led => ∃ (T' : List (List Nat)) (g : Bool) (tx : Tok), V = ([("rows", .ref ra), ("rules", .ref ua), ("way", .int way tw), ("text", .str (sOf (joinL 32 T')) tx), ("going", .bool g)] : VL) ∧ led = ([] : LL) ∧
        Good way rl r T' ∧ ((g = false ∧ T' = T ∧ ∀ k p, k < i → rl[k]? = some p → ∀ q ∈ duos, Fine T p q.1 q.2) ∨ (g = true ∧ apartN T' < apartN T))) S₃ hA'.hh (fun _ => rfl) (fun _ _ => own_list) ?_ ?_ ?_
      · have R := S₃.rd
        walk_at "w"
        exact ⟨ua, [], rfl, R, isList_of (S₃.old hu), ⟨T, false, tx, rfl, rfl, hT, .inl ⟨rfl, rfl, fun k p hk => absurd hk (Nat.not_lt_zero _)⟩⟩, fun i V led s _ S => isList_of (S.old hu)⟩
      · rintro I oI i v V led s₄ E'' hv ⟨T₁, g, tx₁, rfl, rfl, hT₁, hg⟩ S₄
        clear S₃
        have hi : i < uv.length := (List.getElem?_eq_some_iff.mp hv).1
        obtain ⟨p, hpi⟩ : ∃ p, rl[i]? = some p := ⟨rl[i]'(hP.1 ▸ hi), by simp⟩
        obtain ⟨Tp, u1, u2, hvi, hTp⟩ := hP.2 i p hpi
        rw [hv] at hvi; cases hvi
        obtain ⟨need, goal⟩ := p
        have hp4 := hrl _ (List.mem_of_getElem? hpi)
        refine S₄.two hA'.hh (S₄.old hTp) (.inr ⟨rfl, L + 2, rfl, none_ge (Nat.le_trans hL (Nat.le_add_right _ 2))⟩) (.inl rfl) fun s₅ S₅ => ?_
        clear S₄
        have R := S₅.rd
        refine wpAny_execs_cons (wpAny_Assign_Name ?_)
        walk_at "ww"
        refine compRange (cl := [("way", L + 1), ("need", L + 2)]) hA'.hh (R.any rfl) [("need", .int (need : Nat) u1), ("way", .int way tw)]
          (fun i ys els => PairsIn els ys ((List.range i).filter fun c => need.testBit c) way) (by walk_at "side") rfl (by decide) ⟨rfl, fun i c e => by simp at e⟩ ?_ ?_
        · rintro C k tk hk ys els s₆ E₂ hys kp - R₆
          have hk : k < 4 := hk
          clear R
          refine wpAny_tests_one ?_
          walk_at "ww"
          rw [bit_test]
          cases hb : need.testBit k with
          | true =>
            rw [if_pos rfl]
            walk_at "ww"
            rename_i a s₇ R₇
            refine ⟨_, R₇, ?_⟩
            rw [List.range_succ, List.filter_append]
            have e : List.filter (fun c => need.testBit c) [k] = [k] := by simp [hb]
            rw [e]
            exact hys.add
          | false =>
            rw [if_neg (by decide)]
            refine ⟨R₆.any rfl, ?_⟩
            rw [List.range_succ, List.filter_append]
            have e : List.filter (fun c => need.testBit c) [k] = [] := by simp [hb]
            rw [e, List.append_nil]
            exact hys
        · rintro D nD ys els s₆ hys R₆
          have hys : PairsIn els ys (bitsL need) way := hys
          rw [List.append_nil] at R₆
          clear R
          walk_at "ww"
          refine ⟨R₆.gl'.k, ?_⟩
          refine tc_new R₆.gl' hA' fun x dx s₇ t₇ kp hx0 hd0 hne hx hd => ?_
          have R₇ := R₆.adds (l := [(x, instObj 62 dx), (dx, tcDict w.params t₇ (.ref D))]) kp (fun p hp => by
            simp only [List.mem_cons, List.not_mem_nil, or_false] at hp
            rcases hp with rfl | rfl
            · exact ⟨hx0, hx⟩
            · exact ⟨hd0, hd⟩) (by simpa using hne)
          refine (S₅.back R₇).store (.inl rfl) fun s₈ S₈ => ?_
          clear R₆ R₇ S₅
          have S₈ := S₈.sub (V' := [("rows", .ref ra), ("rules", .ref ua), ("way", .int way tw), ("text", .str (sOf (joinL 32 T₁)) tx₁), ("going", .bool g), ("goal", .int (goal : Nat) u2), ("alike", .ref x)]) ⟨rfl, rfl, rfl, rfl, rfl, rfl, rfl, trivial⟩
          have R := S₈.rd
          refine wpAny_execs_cons (wpAny_Assign_Name ?_)
          walk_at "ww"
          rename_i aP sP RP aW s₉ R₉
          refine ⟨R₉.gl'.k, ?_⟩
          refine tc_new R₉.gl' hA' fun x' dx' s₁₀ t₁₀ kp' hx0' hd0' hne' hx' hd' => ?_
          have R₁₀ := R₉.adds (l := [(x', instObj 62 dx'), (dx', tcDict w.params t₁₀ (.ref aW))]) kp' (fun p hp => by
            simp only [List.mem_cons, List.not_mem_nil, or_false] at hp
            rcases hp with rfl | rfl
            · exact ⟨hx0', hx'⟩
            · exact ⟨hd0', hd'⟩) (by simpa using hne')
          refine (S₈.back R₁₀).store (.inl rfl) fun s₁₁ S₁₁ => ?_
          clear R RP R₉ R₁₀ S₈
          have S₁₁ := S₁₁.sub (V' := [("rows", .ref ra), ("rules", .ref ua), ("way", .int way tw), ("text", .str (sOf (joinL 32 T₁)) tx₁), ("going", .bool g), ("goal", .int (goal : Nat) u2), ("alike", .ref x), ("which", .ref x')]) ⟨rfl, rfl, rfl, rfl, rfl, rfl, rfl, rfl, trivial⟩
          generalize hled : ([(x', instObj 62 dx'), (dx', tcDict w.params t₁₀ (.ref aW))] ++ [(aW, listO [.ref aP] 0), (aP, tupO [.int (goal : Nat) u2, .int way tw])] ++ _ : LL) = led₀ at S₁₁
          have mA : (x, instObj 62 dx) ∈ led₀ := by rw [← hled]; simp
          have mAd : (dx, tcDict w.params t₇ (.ref D)) ∈ led₀ := by rw [← hled]; simp
          have mAl : (D, listO ys nD) ∈ led₀ := by rw [← hled]; simp
          have mAe : ∀ p ∈ els, p ∈ led₀ := fun p hp => by rw [← hled]; simp [hp]
          have mW : (x', instObj 62 dx') ∈ led₀ := by rw [← hled]; simp
          have mWd : (dx', tcDict w.params t₁₀ (.ref aW)) ∈ led₀ := by rw [← hled]; simp
          have mWl : (aW, listO [.ref aP] 0) ∈ led₀ := by rw [← hled]; simp
          have mWe : (aP, tupO [.int (goal : Nat) u2, .int way tw]) ∈ led₀ := by rw [← hled]; simp
          have mI : (I, oI) ∈ led₀ := by rw [← hled]; simp
          clear hled kp kp' hx0 hd0 hne hx hd hx0' hd0' hne' hx' hd'
          have R := S₁₁.rd
          refine wpAny_execs_cons ?_
          refine forTupE S₁₁ hA'.hh (fun _ => rfl) (fun _ _ => own_tup) ?_
          walk_at "ww"
          rename_i a1 s1 R1 a2 s2 R2 a3 s3 R3 aT s12 R12
          generalize hnw : ((aT, tupO [.ref a1, .ref a2, .ref a3]) :: _ : LL) = nwT at R12
          have mT0 : (aT, tupO [.ref a1, .ref a2, .ref a3]) ∈ nwT := by rw [← hnw]; exact .head _
          have mT : (aT, tupO [.ref a1, .ref a2, .ref a3]) ∈ nwT ++ led₀ := by rw [← hnw]; simp
          have mT1 : ∃ t t', (a1, tupO [.int (0 : Nat) t, .int (1 : Nat) t']) ∈ nwT ++ led₀ := ⟨_, _, by rw [← hnw]; exact .tail _ (.tail _ (.tail _ (.head _)))⟩
          have mT2 : ∃ t t', (a2, tupO [.int (0 : Nat) t, .int (2 : Nat) t']) ∈ nwT ++ led₀ := ⟨_, _, by rw [← hnw]; exact .tail _ (.tail _ (.head _))⟩
          have mT3 : ∃ t t', (a3, tupO [.int (1 : Nat) t, .int (2 : Nat) t']) ∈ nwT ++ led₀ := ⟨_, _, by rw [← hnw]; exact .tail _ (.head _)⟩
          clear hnw R R1 R2 R3
          refine ⟨aT, nwT, [.ref a1, .ref a2, .ref a3], fun k V led => ∃ (T' : List (List Nat)) (g' : Bool) (tx' : Tok), V = ([("rows", .ref ra), ("rules", .ref ua), ("way", .int way tw), ("text", .str (sOf (joinL 32 T')) tx'), ("going", .bool g'), ("goal", .int (goal : Nat) u2), ("alike", .ref x), ("which", .ref x')] : VL) ∧ led = nwT ++ led₀ ∧ Good way rl r T' ∧
            ((g' = false ∧ T' = T ∧ (∀ k p, k < i → rl[k]? = some p → ∀ q ∈ duos, Fine T p q.1 q.2) ∧ ∀ q ∈ duos.take k, Fine T (need, goal) q.1 q.2) ∨ (g' = true ∧ apartN T' < apartN T)), rfl, R12, R12.at ?_, ⟨T₁, g, tx₁, rfl, rfl, hT₁, ?_⟩, ?_, ?_, ?_⟩
          · exact mT0
          · rcases hg with ⟨a, b, c⟩ | ⟨a, b⟩
            · exact .inl ⟨a, b, c, fun q hq => by simp at hq⟩
            · exact .inr ⟨a, b⟩
          · rintro k V led s ⟨T', g', tx', rfl, rfl, -⟩ S
            exact S.at mT
          · rintro I₂ o₂ k v V led s₁₃ E₃ hv ⟨T₂, g₂, tx₂, rfl, rfl, hT₂, hg₂⟩ S₁₃
            obtain ⟨ii, jj, ti, tj, Ta, hd, hvT, hTa⟩ : ∃ (ii jj : Nat) (ti tj : Tok) (Ta : Addr), duos[k]? = some (ii, jj) ∧ v = .ref Ta ∧ (Ta, tupO [.int (ii : Nat) ti, .int (jj : Nat) tj]) ∈ nwT ++ led₀ := by
              match k, hv with
              | 0, hv => cases hv; obtain ⟨t, t', m⟩ := mT1; exact ⟨0, 1, t, t', a1, rfl, rfl, m⟩
              | 1, hv => cases hv; obtain ⟨t, t', m⟩ := mT2; exact ⟨0, 2, t, t', a2, rfl, rfl, m⟩
              | 2, hv => cases hv; obtain ⟨t, t', m⟩ := mT3; exact ⟨1, 2, t, t', a3, rfl, rfl, m⟩
              | k + 3, hv => simp at hv
            subst hvT
            refine S₁₃.two hA'.hh (S₁₃.at (.tail _ hTa)) (.inl rfl) (.inl rfl) fun s₁₄ S₁₄ => ?_
            have up : ∀ {p : Addr × Obj}, p ∈ led₀ → p ∈ (I₂, o₂) :: (nwT ++ led₀) := fun hp => .tail _ (List.mem_append_right _ hp)
            refine pair_turn (T := T₂) (g := g₂) (tx := tx₂) (u2 := u2) (S₁₄.sub ⟨rfl, rfl, rfl, rfl, rfl, rfl, rfl, rfl, rfl, rfl, trivial⟩) (hA'.less (by decide)) hT₂ (List.mem_of_getElem? hpi) (List.mem_of_getElem? hd) hp4.2 hway
              (up mA) (up mAd) (up mAl) hys (fun p hp => up (mAe p hp)) (up mW) (up mWd) (up mWl) (up mWe) fun s₁₅ T₃ g₃ tx₃ S₁₅ h₃ => ?_
            refine ⟨_, [], _, ⟨T₃, g₃, tx₃, rfl, rfl, ?_⟩, S₁₅⟩
            rcases h₃ with ⟨rfl, rfl, hf⟩ | ⟨hG, rfl, hlt⟩
            · refine ⟨hT₂, ?_⟩
              rcases hg₂ with ⟨a, b, c, d⟩ | ⟨a, b⟩
              · refine .inl ⟨a, b, c, fun q hq => ?_⟩
                rw [List.take_add_one, hd] at hq
                rcases List.mem_append.mp hq with hq | hq
                · exact d q hq
                · simp at hq; subst hq; subst b; exact hf
              · exact .inr ⟨a, b⟩
            · refine ⟨hG, .inr ⟨rfl, ?_⟩⟩
              rcases hg₂ with ⟨-, rfl, -, -⟩ | ⟨-, b⟩
              · exact hlt
              · exact Nat.lt_trans hlt b
          · rintro V led s₁₃ ⟨T₂, g₂, tx₂, rfl, rfl, hT₂, hg₂⟩ S₁₃
            refine wpAny_execs_nil ?_
            refine ⟨_, [], [], ⟨T₂, g₂, tx₂, rfl, rfl, hT₂, ?_⟩, (S₁₃.sub (V' := [("rows", .ref ra), ("rules", .ref ua), ("way", .int way tw), ("text", .str (sOf (joinL 32 T₂)) tx₂), ("going", .bool g₂)]) ⟨rfl, rfl, rfl, rfl, rfl, trivial⟩).drop (List.singleton_sublist.mpr (List.mem_append_right _ mI))⟩
            rcases hg₂ with ⟨a, b, c, d⟩ | ⟨a, b⟩
            · refine .inl ⟨a, b, fun k p hk hkp => ?_⟩
              rcases Nat.lt_or_ge k i with q | q
              · exact c k p q hkp
              · have : k = i := by omega
                subst this
                rw [hpi] at hkp; cases hkp
                exact fun q hq => d q hq
            · exact .inr ⟨a, b⟩
      · rintro V led s₄ ⟨T₁, g, tx₁, rfl, rfl, hT₁, hg⟩ S₄
        refine wpAny_execs_nil ?_
        rcases hg with ⟨rfl, rfl, hf⟩ | ⟨rfl, hlt⟩
        · refine ⟨0, _, _, by omega, ⟨T₁, false, tx₁, rfl, rfl, hT₁, .inr ⟨rfl, rfl, hT₁.close fun p hp => ?_⟩⟩, S₄⟩
          obtain ⟨k, hk⟩ := List.getElem?_of_mem hp
          exact hf k p (by have := (List.getElem?_eq_some_iff.mp hk).1; rw [hP.1]; exact this) hk
        · exact ⟨apartN T₁ + 1, _, _, by omega, ⟨T₁, true, tx₁, rfl, rfl, hT₁, .inl ⟨rfl, rfl⟩⟩, S₄⟩
    · walk_at "w"
      walk_at "w"
      walk_at "w"
      rw [if_neg (by decide)]
      refine wpAny_execs_cons (wpAny_Return_some ?_)
      walk_at "ww"
      refine split_S (c := 32) (R.any rfl) (by rw [grid_len hT.grid]; decide) fun D vs P s₃ hP' hvs R₃ => ?_
      have hPT : P = T := hP'.uniq (grid_parts hT.grid)
      subst hPT
      exact h D vs P _ (S₂.keep.trans R₃.kp) (S₂.keep.none (R₃.has _ (.head _)).2) (R₃.at (.head _)) hvs hch
end
section
/-! ## sorted, sum -/
abbrev Up (l : List (List Nat)) : Prop := l.Pairwise (fun a b => ¬ b < a)
theorem up_trans {a b c : List Nat} (h : ¬ b < a) (g : ¬ c < b) : ¬ c < a := by
  have h' : a ≤ b := List.not_lt.mp h
  have g' : b ≤ c := List.not_lt.mp g
  exact List.not_lt.mpr (List.le_trans h' g')
theorem up_anti {a b : List Nat} (h : ¬ b < a) (g : ¬ a < b) : a = b := List.le_antisymm (List.not_lt.mp h) (List.not_lt.mp g)
theorem rising_up : ∀ (l : List (List Nat)) (p : List Nat), risingS (sOf p) (l.map sOf) = true → Up (p :: l)
  | [], p, _ => by simp
  | x :: r, p, h => by
    have h : (!PySem.Spec.ltCps (sOf x).cps.toList (sOf p).cps.toList && risingS (sOf x) (r.map sOf)) = true := h
    rw [Bool.and_eq_true, sOf_cps, sOf_cps, ltCps_eq] at h
    have h1 : ¬ x < p := by simpa using h.1
    have ih := rising_up r x h.2
    refine List.pairwise_cons.mpr ⟨fun y hy => ?_, ih⟩
    rcases List.mem_cons.mp hy with rfl | hy
    · exact h1
    · exact up_trans h1 (List.rel_of_pairwise_cons ih hy)
theorem sorted_up (l : List (List Nat)) (h : sortedS (l.map sOf) = true) : Up l := by
  cases l with
  | nil => simp
  | cons x r => exact rising_up r x h
theorem up_uniq {l l' : List (List Nat)} (p : l.Perm l') (h : Up l) (h' : Up l') : l = l' :=
  List.Perm.eq_of_pairwise (fun _ _ _ _ x y => up_anti x y) h h' p
section
variable {w : World} {b s s' s₀ : Shared} {env : Env} {V : List (Str × Value)} {nw led : List (Addr × Obj)} {A : Around} {E : Value → Shared → Prop}
theorem strs_map {ss : List Str} : ∃ P : List (List Nat), ss = P.map sOf := ⟨ss.map (·.cps.toList), by
  rw [List.map_map]
  have : (sOf ∘ fun x : Str => x.cps.toList) = id := by funext x; exact (str_sOf x).symm
  rw [this, List.map_id]⟩
theorem sorted_S {l : Addr} {vs : List Value} {P : List (List Nat)} {Q : Value → Shared → Prop} (R : Rd w b env V nw s) (hl : s.heap.IsList l vs.toArray) (hS : StrsAre vs (P.map sOf)) (h64 : P.length < 64)
    (h : ∀ D vs' P' e s', StrsAre vs' (P'.map sOf) → P'.Perm P → Up P' → Rd w b env V ((D, listO vs' e) :: nw) s' → Q (.ref D) s') : wpAny (MM w) A (call (.builtin "sorted") [.ref l]) Q E s := by
  refine sorted_strs hl hS (by rw [StrsAre.len hS, List.length_map]; exact h64) fun out ss' a1 a2 a3 => ?_
  obtain ⟨P', rfl⟩ := strs_map (ss := ss')
  obtain ⟨e, he⟩ := sortedAll_at s.heap vs out
  refine h _ out.toList P' e _ a1 ?_ (sorted_up P' a3) (R.add (Kp.to fun b o q => sortedAll_old q) (none_ge (Nat.le_succ _)) (by simpa using he))
  have := a2.map (fun x : Str => x.cps.toList)
  simpa [List.map_map, Function.comp_def, sOf_cps] using this
theorem sum_S {l : Addr} {vs : List Value} {ns : List Int} {Q : Value → Shared → Prop} (R : Rd w b env V nw s) (hh : A.handled = none) (hl : s.heap.IsList l vs.toArray) (hS : IntsAre vs ns)
    (h : ∀ t s', Rd w b env V nw s' → Q (.int ns.sum t) s') : wpAny (MM w) A (call (.builtin "sum") [.ref l]) Q E s := by
  obtain ⟨xs, e⟩ := (IntsAre.allInts hS).items
  refine sum_intListG hh (e ▸ hl) fun h' tk t' hk => ?_
  have e2 : preSum (numAt xs) xs.size = ns.sum := by
    rw [preSum_eq, List.take_of_length_le (by simp)]
    have := hS.numsOf
    rw [show vs = vs.toArray.toList from rfl, e, nums_intItems] at this
    rw [this]
  rw [e2]
  exact h t' _ (R.keeps (Kp.to hk))
end
/-- short plain texts -/
def Plain (P : List (List Nat)) : Prop := ∀ p ∈ P, p.length ≤ 1000 ∧ ∀ x ∈ p, x < 256
theorem strOk_of {p : List Nat} (h : p.length ≤ 1000 ∧ ∀ x ∈ p, x < 256) : PyData.strOk (sOf p) = true := by
  unfold PyData.strOk
  rw [← Array.all_toList, sOf_cps, List.all_eq_true]
  exact fun x hx => decide_eq_true (by have := h.2 x hx; omega)
theorem shaped_S {P : List (List Nat)} (h : Plain P) : SeqAt.shaped (.list ((P.map sOf).map PyData.str)) = true := by
  show (PyData.canLay0 _ && decide (PyData.depth _ ≤ 64)) = true
  rw [Bool.and_eq_true]
  refine ⟨?_, ?_⟩
  · show PyData.canLayAll0 _ = true
    rw [canLayAll_strs', List.all_eq_true]
    intro x hx
    obtain ⟨p, hp, rfl⟩ := List.mem_map.mp hx
    exact strOk_of (h p hp)
  · refine decide_eq_true ?_
    simp only [PyData.depth, depthAll_strs']
    decide
theorem same_strs : ∀ P P' : List (List Nat), PySem.Spec.sameAll ((P.map sOf).map PyData.str) ((P'.map sOf).map PyData.str) = decide (P = P')
  | [], [] => by simp [PySem.Spec.sameAll]
  | [], _ :: _ => by simp [PySem.Spec.sameAll]
  | _ :: _, [] => by simp [PySem.Spec.sameAll]
  | a :: r, b :: t => by
    simp only [List.map_cons, PySem.Spec.sameAll, PySem.Spec.same, same_strs r t, sOf_beq]
    by_cases h : a = b <;> by_cases h' : r = t <;> simp [h, h']
theorem reads_S {h : Heap} {a : Addr} {vs : List Value} {ss : List Str} (hl : h.IsList a vs.toArray) (hi : StrsAre vs ss) : Reads h (.ref a) (.list (ss.map PyData.str)) [a] := by
  obtain ⟨o, ho, hc, n, hd⟩ := hl
  exact Reads.list ho hc hd (by simpa using StrsAre.reads h hi)
section
variable {w : World} {s : Shared} {A : Around} {E : Value → Shared → Prop} {a b : Addr} {xs ys : List Value} {P P' : List (List Nat)} {Q : Value → Shared → Prop}
theorem eq_S (ha : s.heap.IsList a xs.toArray) (hb : s.heap.IsList b ys.toArray) (hi : StrsAre xs (P.map sOf)) (hj : StrsAre ys (P'.map sOf)) (hP : Plain P) (hP' : Plain P') (hu : A.units + 64 < cLine) (h : Q (.bool (decide (P = P'))) s) :
    wpAny (MM w) A (compareOp .Eq (.ref a) (.ref b)) Q E s :=
  eq_dataH_same (reads_S ha hi) (reads_S hb hj) (shaped_S hP) (shaped_S hP') hu
    (SeqAt.noMix_of_shape (.list .str) rfl _ _ (list_map_has fun _ => rfl) (list_map_has fun _ => rfl)) (by simp only [PySem.Spec.same]; rw [same_strs]; exact h)
theorem ne_S (ha : s.heap.IsList a xs.toArray) (hb : s.heap.IsList b ys.toArray) (hi : StrsAre xs (P.map sOf)) (hj : StrsAre ys (P'.map sOf)) (hP : Plain P) (hP' : Plain P') (hu : A.units + 64 < cLine) (h : Q (.bool (!decide (P = P'))) s) :
    wpAny (MM w) A (compareOp .NotEq (.ref a) (.ref b)) Q E s :=
  ne_dataH_same (reads_S ha hi) (reads_S hb hj) (shaped_S hP) (shaped_S hP') hu
    (SeqAt.noMix_of_shape (.list .str) rfl _ _ (list_map_has fun _ => rfl) (list_map_has fun _ => rfl)) (by simp only [PySem.Spec.same]; rw [same_strs]; exact h)
end
end
section
/-! ## The plain law: agree -/
def msk (S : List Nat) (k : Nat) : Nat := S.getD k 0
def ES (S : List Nat) : Rel := fun i j c => i = j ∨ (msk S (3 - i - j)).testBit c = true
structure MInv (rules : List (Nat × Nat)) (r : List (List Nat)) (S : List Nat) : Prop where
  len : S.length = 3
  lt : ∀ k, k < 3 → msk S k < 16
  up : SubR (Agr r) (ES S)
  least : ∀ E, Cl rules E → SubR (Agr r) E → SubR (ES S) E
theorem msk_set {S : List Nat} {k k' m : Nat} (h : S.length = 3) (hk : k < 3) : msk (S.set k m) k' = if k' = k then m else msk S k' := by
  unfold msk
  simp only [List.getD_eq_getElem?_getD, List.getElem?_set]
  by_cases e : k = k'
  · subst e; simp [h, hk]
  · rw [if_neg e, if_neg (Ne.symm e)]
theorem MInv.set {rules : List (Nat × Nat)} {r : List (List Nat)} {S : List Nat} {k m : Nat} (M : MInv rules r S) (hk : k < 3) (hm : m < 16) (mono : ∀ c, (msk S k).testBit c = true → m.testBit c = true)
    (ok : ∀ E, Cl rules E → SubR (ES S) E → ∀ i j c, i < 3 → j < 3 → c < 4 → i ≠ j → 3 - i - j = k → m.testBit c = true → E i j c) : MInv rules r (S.set k m) := by
  have at' := fun k' => msk_set (m := m) (k' := k') M.len hk
  refine ⟨by rw [List.length_set]; exact M.len, fun k' hk' => ?_, fun i j c hi hj hc e => ?_, fun E hE hr i j c hi hj hc e => ?_⟩
  · rw [at']; split
    · exact hm
    · exact M.lt k' hk'
  · rcases M.up i j c hi hj hc e with q | q
    · exact .inl q
    · right; rw [at']; split
      · rename_i e; rw [e] at q; exact mono c q
      · exact q
  · have sub := M.least E hE hr
    rcases e with q | q
    · subst q; exact hE.refl i c hi hc
    · rw [at'] at q
      by_cases hij : i = j
      · subst hij; exact hE.refl i c hi hc
      · split at q
        · rename_i e; exact ok E hE sub i j c hi hj hc hij e q
        · exact sub i j c hi hj hc (.inr q)
theorem three_sym (i j : Nat) : 3 - i - j = 3 - j - i := by omega
theorem or_lt16 {a b : Nat} (h : a < 16) (g : b < 16) : a ||| b < 16 := Nat.or_lt_two_pow (n := 4) h g
theorem one_lt16 {g : Nat} (h : g < 4) : 1 <<< g < 16 := by
  rw [Nat.one_shiftLeft]
  exact Nat.pow_lt_pow_right (by decide) h
theorem bit_one {g c : Nat} : (1 <<< g).testBit c = decide (g = c) := by rw [Nat.one_shiftLeft, Nat.testBit_two_pow]
theorem and_all {m need : Nat} (hn : need < 16) : m &&& need = need ↔ ∀ c, c < 4 → need.testBit c = true → m.testBit c = true := by
  constructor
  · intro h c _ hb
    rw [← h, Nat.testBit_and] at hb
    exact (Bool.and_eq_true_iff.mp hb).1
  · intro h
    refine Nat.eq_of_testBit_eq fun c => ?_
    rw [Nat.testBit_and]
    cases hb : need.testBit c with
    | false => rw [Bool.and_false]
    | true =>
      have hc : c < 4 := by
        rcases Nat.lt_or_ge c 4 with q | q
        · exact q
        · have := Nat.testBit_lt_two_pow (x := need) (i := c) (Nat.lt_of_lt_of_le hn (Nat.pow_le_pow_right (n := 2) (by decide) q))
          rw [this] at hb; cases hb
      rw [h c hc hb]; rfl
theorem MInv.rule {rules : List (Nat × Nat)} {r : List (List Nat)} {S : List Nat} {k need g : Nat} (M : MInv rules r S) (hk : k < 3) (hp : (need, g) ∈ rules) (hn : need < 16) (hg : g < 4) (h : msk S k &&& need = need) : MInv rules r (S.set k (msk S k ||| 1 <<< g)) := by
  refine M.set hk (or_lt16 (M.lt k hk) (one_lt16 hg)) (fun c e => by rw [Nat.testBit_or, e]; rfl) fun E hE sub i j c hi hj hc hij e hb => ?_
  rw [Nat.testBit_or, bit_one, Bool.or_eq_true] at hb
  rcases hb with hb | hb
  · exact sub i j c hi hj hc (.inr (by rw [e]; exact hb))
  · have : g = c := of_decide_eq_true hb
    subst this
    exact hE.rule (need, g) hp i j hi hj fun d hd hb => sub i j d hi hj hd (.inr (by rw [e]; exact (and_all hn).mp h d hd hb))
theorem MInv.via {rules : List (Nat × Nat)} {r : List (List Nat)} {S : List Nat} {k : Nat} (M : MInv rules r S) (hk : k < 3) : MInv rules r (S.set k (msk S k ||| (msk S ((k + 1) % 3) &&& msk S ((k + 2) % 3)))) := by
  have h1 : (k + 1) % 3 < 3 := Nat.mod_lt _ (by decide)
  refine M.set hk (or_lt16 (M.lt k hk) (Nat.lt_of_le_of_lt Nat.and_le_left (M.lt _ h1))) (fun c e => by rw [Nat.testBit_or, e]; rfl) fun E hE sub i j c hi hj hc hij e hb => ?_
  rw [Nat.testBit_or, Nat.testBit_and, Bool.or_eq_true, Bool.and_eq_true] at hb
  rcases hb with hb | ⟨h1, h2⟩
  · exact sub i j c hi hj hc (.inr (by rw [e]; exact hb))
  · have hik : i ≠ k := by omega
    have hjk : j ≠ k := by omega
    have key : (3 - i - k = (k + 1) % 3 ∧ 3 - k - j = (k + 2) % 3) ∨ (3 - i - k = (k + 2) % 3 ∧ 3 - k - j = (k + 1) % 3) := by omega
    refine hE.trans i k j c hi hk hj hc (sub i k c hi hk hc (.inr ?_)) (sub k j c hk hj hc (.inr ?_))
    · rcases key with ⟨a, b⟩ | ⟨a, b⟩
      · rw [a]; exact h1
      · rw [a]; exact h2
    · rcases key with ⟨a, b⟩ | ⟨a, b⟩
      · rw [b]; exact h2
      · rw [b]; exact h1
/-- a pass over the masks that changes nothing closes them -/
structure Shut (rules : List (Nat × Nat)) (S : List Nat) : Prop where
  rule : ∀ k, k < 3 → ∀ p ∈ rules, msk S k &&& p.1 = p.1 → (msk S k).testBit p.2 = true
  via : ∀ k c, k < 3 → (msk S ((k + 1) % 3)).testBit c = true → (msk S ((k + 2) % 3)).testBit c = true → (msk S k).testBit c = true
theorem Shut.cl {rules : List (Nat × Nat)} {S : List Nat} (H : Shut rules S) (hr : ∀ p ∈ rules, p.1 < 16) : Cl rules (ES S) := by
  refine ⟨fun i c _ _ => .inl rfl, fun i j c _ _ _ e => ?_, fun i j k c hi hj hk hc a b => ?_, fun p hp i j hi hj al => ?_⟩
  · rcases e with e | e
    · exact .inl e.symm
    · exact .inr (by rw [three_sym]; exact e)
  · rcases a with rfl | a
    · exact b
    · rcases b with rfl | b
      · exact .inr a
      · by_cases hik : i = k
        · exact .inl hik
        · by_cases hij : i = j
          · subst hij; exact .inr b
          · by_cases hjk : j = k
            · subst hjk; exact .inr a
            · right
              have e : 3 - i - k = j := by omega
              rw [e]
              have key : (3 - i - j = (j + 1) % 3 ∧ 3 - j - k = (j + 2) % 3) ∨ (3 - i - j = (j + 2) % 3 ∧ 3 - j - k = (j + 1) % 3) := by omega
              rcases key with ⟨p, q⟩ | ⟨p, q⟩
              · rw [p] at a; rw [q] at b; exact H.via j c hj a b
              · rw [p] at a; rw [q] at b; exact H.via j c hj b a
  · by_cases hij : i = j
    · exact .inl hij
    · right
      refine H.rule _ (by omega) p hp ((and_all (hr p hp)).mpr fun c hc hb => ?_)
      rcases al c hc hb with e | e
      · exact absurd e hij
      · exact e
theorem chased_of {way : Int} {rules : List (Nat × Nat)} {r R : List (List Nat)} {S : List Nat} (gr : Grid r) (M : MInv rules r S) (H : Shut rules S) (hr : ∀ p ∈ rules, p.1 < 16 ∧ p.2 < 4) (len : R.length = 3) (row : ∀ x ∈ R, x.length = 4) (B : Best way r (ES S) R) : Chased way rules r R := by
  have cl := H.cl fun p hp => (hr p hp).1
  have iff : ∀ i j c, i < 3 → j < 3 → c < 4 → (Agr R i j c ↔ ES S i j c) := by
    intro i j c hi hj hc
    constructor
    · intro e
      obtain ⟨i', hi', a, a'⟩ := B.one i c hi hc
      obtain ⟨j', hj', b, b'⟩ := B.one j c hj hc
      have e : ch R i c = ch R j c := e
      have : Agr r i' j' c := by show ch r i' c = ch r j' c; rw [← a', ← b', e]
      exact cl.trans i i' j c hi hi' hj hc a (cl.trans i' j' j c hi' hj' hj hc (M.up i' j' c hi' hj' hc this) (cl.symm j j' c hj hj' hc b))
    · intro e
      obtain ⟨i', hi', a, a'⟩ := B.one i c hi hc
      obtain ⟨j', hj', b, b'⟩ := B.one j c hj hc
      show ch R i c = ch R j c
      refine Leq.anti (way := way) ?_ ?_
      · rw [b']; exact B.best i j' c hi hj' hc (cl.trans i j j' c hi hj hj' hc e b)
      · rw [a']; exact B.best j i' c hj hi' hc (cl.trans j i i' c hj hi hi' hc (cl.symm i j c hi hj hc e) a)
  have val : ∀ i c, i < 3 → c < 4 → ∃ j, j < 3 ∧ ch R i c = ch r j c := fun i c hi hc => let ⟨j, hj, _, e⟩ := B.one i c hi hc; ⟨j, hj, e⟩
  have memch : ∀ x ∈ R, ∀ z ∈ x, ∃ i c, i < 3 ∧ c < 4 ∧ z = ch R i c := by
    intro x hx z hz
    obtain ⟨i, hi⟩ := List.getElem?_of_mem hx
    obtain ⟨c, hc⟩ := List.getElem?_of_mem hz
    have hi' := (List.getElem?_eq_some_iff.mp hi).1
    have hc' := (List.getElem?_eq_some_iff.mp hc).1
    refine ⟨i, c, by rw [← len]; exact hi', by rw [← row x hx]; exact hc', ?_⟩
    unfold ch
    simp only [List.getD_eq_getElem?_getD, hi, Option.getD_some, hc]
  refine ⟨⟨⟨len, row, fun x hx z hz => ?_, fun i j c d hi hj hc hd e => ?_⟩, fun i j c hi hj hc e => (iff i j c hi hj hc).mpr (M.up i j c hi hj hc e), fun E hE hs i j c hi hj hc e => M.least E hE hs i j c hi hj hc ((iff i j c hi hj hc).mp e), ⟨fun i c hi hc => ?_, fun i j c hi hj hc e => B.best i j c hi hj hc ((iff i j c hi hj hc).mp e)⟩⟩, ?_⟩
  · obtain ⟨i, c, hi, hc, rfl⟩ := memch x hx z hz
    obtain ⟨j, hj, e⟩ := val i c hi hc
    rw [e]; exact gr.sign' hj hc
  · obtain ⟨i', hi', e1⟩ := val i c hi hc
    obtain ⟨j', hj', e2⟩ := val j d hj hd
    exact gr.apart i' j' c d hi' hj' hc hd (by rw [← e1, ← e2, e])
  · obtain ⟨j, hj, a, e⟩ := B.one i c hi hc
    exact ⟨j, hj, (iff i j c hi hj hc).mpr a, e⟩
  · exact ⟨fun _ _ _ _ => rfl, fun _ _ _ _ _ _ e => Eq.symm e, fun _ _ _ _ _ _ _ _ a b => Eq.trans a b, fun p hp i j hi hj al => (iff i j p.2 hi hj (hr p hp).2).mpr (cl.rule p hp i j hi hj fun c hc hb => (iff i j c hi hj hc).mp (al c hc hb))⟩
end
section
--LINES
local macro_rules | `(tactic| walk_at "eval Name") => `(tactic| first
  | refine Rd.Nm (Rd.any (by assumption) (by rfl)) (by rfl) ?_
  | refine Rd.Gb (Rd.any (by assumption) (by rfl)) (by rfl) (by rfl) ?_
  | refine Rd.Bl (Rd.any (by assumption) (by rfl)) (by decide) (by first | exact boot_len | exact boot_range | exact boot_sum | exact boot_sorted | exact boot_enumerate | exact boot_zip | exact PyProof.Rows.boot_set | exact PyProof.Rows.boot_type | exact PyProof.Rows.boot_list | exact PyProof.Rows.boot_str) (by rfl) ?_)
local macro_rules | `(tactic| walk_at "side") => `(tactic| (refine ⟨rfl, rfl, by decide, ?_, ?_, fun C => .inl rfl, rfl⟩; ((repeat (refine And.intro ⟨⟨_, rfl⟩, rfl, rfl⟩ ?_)); exact trivial); (intro C; (repeat (refine And.intro ⟨rfl, rfl, ⟨_, rfl⟩, rfl⟩ ?_)); exact trivial)))
local macro_rules | `(tactic| walk_at "newTuple") => `(tactic| (refine newTuple_R (Rd.any (by assumption) (by rfl)) ?_ (by simp [sizeLine]); intro a s' R))
local macro_rules | `(tactic| walk_at "newList") => `(tactic| (refine newList_R (Rd.any (by assumption) (by rfl)) ?_ (by simp [sizeLine]); intro a s' R))
local macro_rules | `(tactic| walk_at "w") => `(tactic| (walk1; try dsimp only))
local macro_rules | `(tactic| walk_at "ww") => `(tactic| repeat ((with_reducible show wpAny _ _ _ _ _ _); walk_at "w"))
local macro_rules | `(tactic| walk_at "callWith ref") => `(tactic| refine callWith_K (Rd.gl' (by assumption)).k (by rfl) ?_)
--ENDLINES
/-! ## _law_agree -/
theorem fmod_nat (a b : Nat) : ((a : Nat) : Int).fmod (b : Int) = ((a % b : Nat) : Int) := by
  rw [Int.fmod_eq_emod_of_nonneg _ (by omega)]; simp
theorem mod_k (k : Nat) : ((k : Int) + 1).fmod 3 = (((k + 1) % 3 : Nat) : Int) := (fmod_nat (k + 1) 3)
theorem mod_k2 (k : Nat) : ((k : Int) + 2).fmod 3 = (((k + 2) % 3 : Nat) : Int) := (fmod_nat (k + 2) 3)
theorem shl_nat (c : Nat) : (1 : Int) * (2 : Int) ^ ((c : Nat) : Int).toNat = ((1 <<< c : Nat) : Int) := by
  rw [Int.toNat_natCast, Nat.one_shiftLeft, Int.one_mul]; simp
theorem nats_sum (l : List Nat) : (l.map fun n : Nat => (n : Int)).sum = ((l.sum : Nat) : Int) := by
  induction l with
  | nil => rfl
  | cons a r ih => simp [ih]
theorem nat_lists (a b : List Nat) : decide ((a.map fun n : Nat => (n : Int)) = b.map fun n : Nat => (n : Int)) = decide (a = b) := by
  have : ((a.map fun n : Nat => (n : Int)) = b.map fun n : Nat => (n : Int)) ↔ a = b := List.map_inj_right (fun x y h => by omega)
  simp only [this]
def maskOf (p : Nat → Bool) : Nat := (((List.range 4).filter p).map fun c => 1 <<< c).sum
theorem mask_lt (p : Nat → Bool) : maskOf p < 16 := by
  unfold maskOf
  simp only [List.range, List.range.loop, List.filter_cons, List.filter_nil]
  cases p 0 <;> cases p 1 <;> cases p 2 <;> cases p 3 <;> decide
theorem mask_bit (p : Nat → Bool) {c : Nat} (hc : c < 4) : (maskOf p).testBit c = p c := by
  have : c = 0 ∨ c = 1 ∨ c = 2 ∨ c = 3 := by omega
  unfold maskOf
  simp only [List.range, List.range.loop, List.filter_cons, List.filter_nil]
  rcases this with rfl | rfl | rfl | rfl <;> cases p 0 <;> cases p 1 <;> cases p 2 <;> cases p 3 <;> decide
def sameOf (r : List (List Nat)) (k : Nat) : Nat := maskOf fun c => ch r ((k + 1) % 3) c == ch r ((k + 2) % 3) c
theorem minv_start {rules : List (Nat × Nat)} {r : List (List Nat)} : MInv rules r ((List.range 3).map (sameOf r)) := by
  have at' : ∀ k, k < 3 → msk ((List.range 3).map (sameOf r)) k = sameOf r k := fun k hk => by
    have : k = 0 ∨ k = 1 ∨ k = 2 := by omega
    rcases this with rfl | rfl | rfl <;> rfl
  refine ⟨by simp, fun k hk => by rw [at' k hk]; exact mask_lt _, fun i j c hi hj hc e => ?_, fun E hE hs i j c hi hj hc e => ?_⟩
  · by_cases hij : i = j
    · exact .inl hij
    · right
      rw [at' _ (by omega)]
      unfold sameOf
      rw [mask_bit _ hc, beq_iff_eq]
      have e : ch r i c = ch r j c := e
      have key : ((3 - i - j + 1) % 3 = i ∧ (3 - i - j + 2) % 3 = j) ∨ ((3 - i - j + 1) % 3 = j ∧ (3 - i - j + 2) % 3 = i) := by omega
      rcases key with ⟨a, b⟩ | ⟨a, b⟩
      · rw [a, b, e]
      · rw [a, b, e]
  · rcases e with e | e
    · subst e; exact hE.refl i c hi hc
    · by_cases hij : i = j
      · subst hij; exact hE.refl i c hi hc
      · rw [at' _ (by omega)] at e
        unfold sameOf at e
        rw [mask_bit _ hc, beq_iff_eq] at e
        have key : ((3 - i - j + 1) % 3 = i ∧ (3 - i - j + 2) % 3 = j) ∨ ((3 - i - j + 1) % 3 = j ∧ (3 - i - j + 2) % 3 = i) := by omega
        rcases key with ⟨a, b⟩ | ⟨a, b⟩
        · rw [a, b] at e; exact hs i j c hi hj hc e
        · rw [a, b] at e; exact hs i j c hi hj hc e.symm

abbrev LO (o : Obj) (vs : List Value) : Prop := o.cls = .type "list" ∧ ∃ n, o.data = .seq vs.toArray n
theorem LO.is {o : Obj} {vs : List Value} {h : Heap} {a : Addr} (l : LO o vs) (e : h.get? a = some o) : h.IsList a vs.toArray := ⟨o, e, l.1, l.2⟩
theorem LO.of {h : Heap} {a : Addr} {vs : List Value} (e : h.IsList a vs.toArray) : ∃ o, h.get? a = some o ∧ LO o vs := let ⟨o, e, a, b⟩ := e; ⟨o, e, a, b⟩
theorem set_L {w : World} {s : Shared} {A : Around} {E : Value → Shared → Prop} {D : Addr} {sv : List Value} {k : Nat} {t : Tok} {v : Value} {Q : Unit → Shared → Prop} (hD : s.heap.IsList D sv.toArray) (hk : k < sv.length) (hz : k ≤ 1000)
    (h : ∀ s' o', KeepsBut D s s' → s'.heap.get? D = some o' → LO o' (sv.set k v) → Q () s') : wpAny (MM w) A (setItem (.ref D) (.int (k : Nat) t) v) Q E s := by
  refine wpAny_setItem_list hD (by omega) (by omega) (by rw [List.size_toArray]; omega) fun h' hl hs => ?_
  have hl : h'.IsList D (sv.set k v).toArray := by simpa using hl
  obtain ⟨o', e, lo⟩ := LO.of hl
  exact h _ o' ⟨h', s.toks, rfl, fun b o hb e => hs.extBut b o hb e⟩ e lo
def agK : List Stmt := forBody ((whBody ((bodO (stm 16)).getD 2 noStm)).getD 1 noStm)
def Mono (S S' : List Nat) : Prop := ∀ k, k < 3 → msk S k ≤ msk S' k
theorem masks_eq {S S' : List Nat} (h : S.length = 3) (h' : S'.length = 3) (e : ∀ k, k < 3 → msk S k = msk S' k) : S = S' := by
  refine List.ext_getElem (h.trans h'.symm) fun i a b => ?_
  have := e i (h ▸ a)
  unfold msk at this
  simpa only [List.getD_eq_getElem?_getD, List.getElem?_eq_getElem a, List.getElem?_eq_getElem b, Option.getD_some] using this
theorem mono_set {S : List Nat} {k y : Nat} (h : S.length = 3) (hk : k < 3) : Mono S (S.set k (msk S k ||| y)) := fun k' _ => by
  rw [msk_set h hk]; split
  · rename_i e; rw [e]; exact Nat.left_le_or
  · exact Nat.le_refl _
theorem nats_set {vs : List Value} {ns : List Nat} {k m : Nat} {t : Tok} (h : NatsAre vs ns) : NatsAre (vs.set k (.int (m : Nat) t)) (ns.set k m) := by
  have : ∀ {vs : List Value} {ns : List Int} {k : Nat} {m : Int}, IntsAre vs ns → IntsAre (vs.set k (.int m t)) (ns.set k m) := by
    intro vs ns k m h
    induction h generalizing k with
    | nil => exact .nil
    | cons n u r ih =>
      cases k with
      | zero => exact .cons _ _ r
      | succ k => exact .cons _ _ ih
  have e : (ns.set k m).map (fun n : Nat => (n : Int)) = (ns.map fun n : Nat => (n : Int)).set k (m : Int) := List.map_set
  rw [NatsAre, e]
  exact this h
theorem nat_at {vs : List Value} {S : List Nat} {k : Nat} (h : NatsAre vs S) (hl : S.length = 3) (hk : k < 3) : ∃ t, vs[k]? = some (.int (msk S k : Nat) t) := by
  refine NatsAre.at h ?_
  have : k < S.length := by omega
  unfold msk
  rw [List.getD_eq_getElem?_getD, List.getElem?_eq_getElem this]; rfl
set_option maxHeartbeats 8000000 in
theorem k_turn {w : World} {s₀ s : Shared} {A : Around} {E : Value → Shared → Prop} {Q : Flow → Shared → Prop} {L ra ua D aB : Addr} {oS : Obj} {sv uv : List Value} {led : LL} {k n2 : Nat} {S₀ : List Nat} {r : List (List Nat)} {rl : List (Nat × Nat)} {way : Int} {tw tk : Tok}
    (S : St w s₀ (callEnvC fd241 L 241) [("rows", .ref ra), ("rules", .ref ua), ("way", .int way tw), ("same", .ref D), ("before", .ref aB), ("k", .int (k : Nat) tk)] ((D, oS) :: led) s)
    (hA : A.handled = none) (hk : k < 3) (hO : LO oS sv) (hS : NatsAre sv S₀) (hM : MInv rl r S₀) (hu : s₀.heap.get? ua = some (listO uv n2)) (hP : RulesAre s₀.heap uv rl) (hrl : ∀ p ∈ rl, p.1 < 16 ∧ p.2 < 4)
    (h : ∀ s' oS' sv' S', LO oS' sv' → NatsAre sv' S' → MInv rl r S' → Mono S₀ S' → (S' = S₀ → (∀ p ∈ rl, msk S₀ k &&& p.1 = p.1 → (msk S₀ k).testBit p.2 = true) ∧ ∀ c, (msk S₀ ((k + 1) % 3)).testBit c = true → (msk S₀ ((k + 2) % 3)).testBit c = true → (msk S₀ k).testBit c = true) →
      St w s₀ (callEnvC fd241 L 241) [("rows", .ref ra), ("rules", .ref ua), ("way", .int way tw), ("same", .ref D), ("before", .ref aB)] ((D, oS') :: led) s' → Q .next s') :
    wpAny (MM w) A (execs agK (callEnvC fd241 L 241)) Q E s := by
  refine wpAny_execs_cons ?_
  refine forList uv (fun i V led' => ∃ (o₁ : Obj) (sv₁ : List Value) (S₁ : List Nat), V = ([("rows", .ref ra), ("rules", .ref ua), ("way", .int way tw), ("same", .ref D), ("before", .ref aB), ("k", .int (k : Nat) tk)] : VL) ∧ led' = (D, o₁) :: led ∧ LO o₁ sv₁ ∧ NatsAre sv₁ S₁ ∧ MInv rl r S₁ ∧ Mono S₀ S₁ ∧
    (S₁ = S₀ → ∀ i' p, i' < i → rl[i']? = some p → msk S₀ k &&& p.1 = p.1 → (msk S₀ k).testBit p.2 = true)) S hA (fun _ => rfl) (fun _ _ => own_list) ?_ ?_ ?_
  · have R := S.rd
    walk_at "w"
    exact ⟨ua, [], rfl, R, isList_of (S.old hu), ⟨oS, sv, S₀, rfl, rfl, hO, hS, hM, fun _ _ => Nat.le_refl _, fun _ i' _ h => absurd h (Nat.not_lt_zero _)⟩, fun i V led s _ S => isList_of (S.old hu)⟩
  · rintro I o i v V led' s₁ E' hv ⟨o₁, sv₁, S₁, rfl, rfl, hO₁, hS₁, hM₁, hmo, hf⟩ S₁'
    have hi : i < uv.length := (List.getElem?_eq_some_iff.mp hv).1
    obtain ⟨p, hpi⟩ : ∃ p, rl[i]? = some p := ⟨rl[i]'(hP.1 ▸ hi), by simp⟩
    obtain ⟨Tp, u1, u2, hvi, hTp⟩ := hP.2 i p hpi
    rw [hv] at hvi; cases hvi
    obtain ⟨need, goal⟩ := p
    have hp4 := hrl _ (List.mem_of_getElem? hpi)
    refine S₁'.two hA (S₁'.old hTp) (.inl rfl) (.inl rfl) fun s₂ S₂ => ?_
    clear S₁' S
    have R := S₂.rd
    have hD := hO₁.is (S₂.at (.tail _ (.head _)))
    obtain ⟨tm, hm⟩ := nat_at hS₁ hM₁.len hk
    refine wpAny_execs_cons (wpAny_If ?_)
    walk_at "ww"
    refine item_LI hD (by omega) hm ?_
    walk_at "ww"
    rw [bitAnd_nat]
    have look : ∀ i' p, i' < i + 1 → rl[i']? = some p → i' < i ∨ p = (need, goal) := fun i' p a b => by
      rcases Nat.lt_or_ge i' i with q | q
      · exact .inl q
      · have : i' = i := by omega
        subst this
        rw [hpi] at b; cases b; exact .inr rfl
    by_cases hc : msk S₁ k &&& need = need
    · rw [if_pos (by rw [hc]; exact beq_self_eq_true _)]
      refine wpAny_execs_cons (wpAny_AugAssign_SubscriptAny ?_)
      walk_at "ww"
      refine wpAny_getItem_list hD (by omega) (by omega) (by simpa using hm) ?_
      walk_at "ww"
      rw [shl_nat, bitOr_nat]
      have hlen : sv₁.length = 3 := by rw [hS₁.length]; simp [hM₁.len]
      refine set_L hD (by omega) (by omega) fun s₃ o₃ kb ho₃ lo₃ => ?_
      have S₃ := (S₂.keeps (Kp.tok _ _)).mut2 kb ho₃
      refine wpAny_execs_nil (wpAny_execs_nil ?_)
      have hM₃ := hM₁.rule hk (List.mem_of_getElem? hpi) hp4.1 hp4.2 hc
      refine ⟨_, [], _, ⟨o₃, _, _, rfl, rfl, lo₃, nats_set hS₁, hM₃, fun k' hk' => Nat.le_trans (hmo k' hk') (mono_set hM₁.len hk k' hk'), fun e i' p a b c => ?_⟩, S₃.sub (V' := [("rows", .ref ra), ("rules", .ref ua), ("way", .int way tw), ("same", .ref D), ("before", .ref aB), ("k", .int (k : Nat) tk)]) ⟨rfl, rfl, rfl, rfl, rfl, rfl, trivial⟩⟩
      have hS₁₀ : S₁ = S₀ := masks_eq hM₁.len (by rw [← e]; exact hM₃.len) fun k' hk' => Nat.le_antisymm (by have := mono_set (y := 1 <<< goal) hM₁.len hk k' hk'; rw [e] at this; exact this) (hmo k' hk')
      rcases look i' p a b with q | q
      · exact hf hS₁₀ i' p q b c
      · subst q
        have : msk S₀ k = msk S₁ k ||| 1 <<< goal := by rw [← e, msk_set hM₁.len hk, if_pos rfl]
        rw [this, Nat.testBit_or, bit_one]; simp
    · rw [if_neg (by rw [beq_iff_eq]; omega)]
      refine wpAny_execs_nil (wpAny_execs_nil ?_)
      refine ⟨_, [], _, ⟨o₁, sv₁, S₁, rfl, rfl, hO₁, hS₁, hM₁, hmo, fun e i' p a b c => ?_⟩, (S₂.keeps (Kp.tok _ _)).sub (V' := [("rows", .ref ra), ("rules", .ref ua), ("way", .int way tw), ("same", .ref D), ("before", .ref aB), ("k", .int (k : Nat) tk)]) ⟨rfl, rfl, rfl, rfl, rfl, rfl, trivial⟩⟩
      rcases look i' p a b with q | q
      · exact hf e i' p q b c
      · subst q; subst e; exact absurd c hc
  · rintro V led' s₁ ⟨o₁, sv₁, S₁, rfl, rfl, hO₁, hS₁, hM₁, hmo, hf⟩ S₂
    clear S
    have R := S₂.rd
    have hD := hO₁.is (S₂.at (.head _))
    have hk1 : (k + 1) % 3 < 3 := Nat.mod_lt _ (by decide)
    have hk2 : (k + 2) % 3 < 3 := Nat.mod_lt _ (by decide)
    obtain ⟨tm, hm⟩ := nat_at hS₁ hM₁.len hk
    obtain ⟨tm1, hm1⟩ := nat_at hS₁ hM₁.len hk1
    obtain ⟨tm2, hm2⟩ := nat_at hS₁ hM₁.len hk2
    refine wpAny_execs_cons (wpAny_AugAssign_SubscriptAny ?_)
    walk_at "ww"
    refine wpAny_getItem_list hD (by omega) (by omega) (by simpa using hm) ?_
    walk_at "ww"
    rw [mod_k]
    refine item_LI hD (by omega) hm1 ?_
    walk_at "ww"
    rw [mod_k2]
    refine item_LI hD (by omega) hm2 ?_
    walk_at "ww"
    rw [bitAnd_nat, bitOr_nat]
    have hlen : sv₁.length = 3 := by rw [hS₁.length]; simp [hM₁.len]
    refine set_L hD (by omega) (by omega) fun s₃ o₃ kb ho₃ lo₃ => ?_
    have S₃ := (S₂.keeps (Kp.tok _ _)).mut1 kb ho₃
    refine wpAny_execs_nil ?_
    have hM₃ := hM₁.via hk
    refine h _ o₃ _ _ lo₃ (nats_set hS₁) hM₃ (fun k' hk' => Nat.le_trans (hmo k' hk') (mono_set hM₁.len hk k' hk')) (fun e => ?_) (S₃.sub ⟨rfl, rfl, rfl, rfl, rfl, trivial⟩)
    have hS₁₀ : S₁ = S₀ := masks_eq hM₁.len (by rw [← e]; exact hM₃.len) fun k' hk' => Nat.le_antisymm (by have := mono_set (y := msk S₁ ((k + 1) % 3) &&& msk S₁ ((k + 2) % 3)) hM₁.len hk k' hk'; rw [e] at this; exact this) (hmo k' hk')
    refine ⟨fun p hp c => ?_, fun c a b => ?_⟩
    · obtain ⟨i, hi⟩ := List.getElem?_of_mem hp
      exact hf hS₁₀ i p (by have := (List.getElem?_eq_some_iff.mp hi).1; rw [hP.1]; exact this) hi c
    · have : msk S₀ k = msk S₁ k ||| (msk S₁ ((k + 1) % 3) &&& msk S₁ ((k + 2) % 3)) := by rw [← e, msk_set hM₁.len hk, if_pos rfl]
      rw [this, Nat.testBit_or, Nat.testBit_and, hS₁₀, a, b]; simp
end
section
--LINES
local macro_rules | `(tactic| walk_at "eval Name") => `(tactic| first
  | refine Rd.Nm (Rd.any (by assumption) (by rfl)) (by rfl) ?_
  | refine Rd.Gb (Rd.any (by assumption) (by rfl)) (by rfl) (by rfl) ?_
  | refine Rd.Bl (Rd.any (by assumption) (by rfl)) (by decide) (by first | exact boot_len | exact boot_range | exact boot_sum | exact boot_sorted | exact boot_enumerate | exact boot_zip | exact PyProof.Rows.boot_set | exact PyProof.Rows.boot_type | exact PyProof.Rows.boot_list | exact PyProof.Rows.boot_str) (by rfl) ?_)
local macro_rules | `(tactic| walk_at "side") => `(tactic| (refine ⟨rfl, rfl, by decide, ?_, ?_, fun C => .inl rfl, rfl⟩; ((repeat (refine And.intro ⟨⟨_, rfl⟩, rfl, rfl⟩ ?_)); exact trivial); (intro C; (repeat (refine And.intro ⟨rfl, rfl, ⟨_, rfl⟩, rfl⟩ ?_)); exact trivial)))
local macro_rules | `(tactic| walk_at "newTuple") => `(tactic| (refine newTuple_R (Rd.any (by assumption) (by rfl)) ?_ (by simp [sizeLine]); intro a s' R))
local macro_rules | `(tactic| walk_at "newList") => `(tactic| (refine newList_R (Rd.any (by assumption) (by rfl)) ?_ (by simp [sizeLine]); intro a s' R))
local macro_rules | `(tactic| walk_at "w") => `(tactic| (walk1; try dsimp only))
local macro_rules | `(tactic| walk_at "ww") => `(tactic| repeat ((with_reducible show wpAny _ _ _ _ _ _); walk_at "w"))
local macro_rules | `(tactic| walk_at "callWith ref") => `(tactic| refine callWith_K (Rd.gl' (by assumption)).k (by rfl) ?_)
--ENDLINES
theorem St.cut {w : World} {s₀ s : Shared} {env : Env} {V V' : VL} {led led' : LL} (S : St w s₀ env V led s) (hV : SubV V V') (hl : List.Sublist led' led) : St w s₀ env V' led' s := (S.sub hV).drop hl
def agC : List Stmt := forBody ((forBody ((bodO (stm 16)).getD 4 noStm)).getD 1 noStm)
theorem item_neg {w : World} {s : Shared} {A : Around} {E : Value → Shared → Prop} {value slice : Expr} {a : Addr} {vs : List Value} {u : Tok} {v : Value} {Q : Value → Shared → Prop} (ho : s.heap.IsList a vs.toArray) (h0 : 0 < vs.length) (hx : vs[vs.length - 1]? = some v) (h : Q v s)
    (hs : subscripted slice false (.ref a) (.int (-1) u) = operate [.ref a, .int (-1) u] (getItem (.ref a) (.int (-1) u)) := by with_unfolding_all rfl) :
    wpAny (MM w) A (subscriptTail value slice (.ref a) (.int (-1) u)) Q E s :=
  tail_any ho.typeIs slot_list_getitem.lookup (wpAny_getItem_list_neg ho (by decide) (by rw [List.size_toArray]; omega) (by decide) (by
    rw [List.size_toArray, show ((-1 : Int) + (vs.length : Int)).toNat = vs.length - 1 by omega]; simpa using hx) h) hs
set_option maxHeartbeats 8000000 in
theorem c_turn {w : World} {s₀ s : Shared} {A : Around} {E : Value → Shared → Prop} {Q : Flow → Shared → Prop} {L ra D aM : Addr} {oS : Obj} {sv rv : List Value} {led : LL} {i c n1 : Nat} {S₀ x : List Nat} {r : List (List Nat)} {way : Int} {tw ti tc tx : Tok}
    (S : St w s₀ (callEnvC fd241 L 241) [("rows", .ref ra), ("way", .int way tw), ("same", .ref D), ("made", .ref aM), ("i", .int (i : Nat) ti), ("row", .str (sOf x) tx), ("c", .int (c : Nat) tc)] led s) (hx : x.length ≤ 100)
    (hL : s₀.heap.objs.size ≤ L) (hA : A.handled = none) (hi : i < 3) (hc : c < 4) (mD : (D, oS) ∈ led) (hO : LO oS sv) (hS : NatsAre sv S₀) (hlen : S₀.length = 3) (hr : s₀.heap.get? ra = some (listO rv n1)) (hrv : StrsAre rv (r.map sOf)) (grid : Grid r) (hway : way = 1 ∨ way = -1)
    (h : ∀ s' y tx', (∃ j, j < 3 ∧ ES S₀ i j c ∧ y = ch r j c) → (∀ j, j < 3 → ES S₀ i j c → Leq way y (ch r j c)) → St w s₀ (callEnvC fd241 L 241) [("rows", .ref ra), ("way", .int way tw), ("same", .ref D), ("made", .ref aM), ("i", .int (i : Nat) ti), ("row", .str (sOf (x ++ [y])) tx')] led s' → Q .next s') :
    wpAny (MM w) A (execs agC (callEnvC fd241 L 241)) Q E s := by
  have R := S.rd
  refine wpAny_execs_cons (wpAny_Assign_Name ?_)
  walk_at "ww"
  refine compRange (cl := [("same", L + 3), ("rows", L + 1), ("i", L + 4), ("c", L + 2)]) hA (R.any rfl) [("same", .ref D), ("rows", .ref ra), ("i", .int (i : Nat) ti), ("c", .int (c : Nat) tc)]
    (fun n ys els => els = [] ∧ StrsAre ys ((((List.range n).filter fun j => decide (i = j) || (msk S₀ (3 - i - j)).testBit c).map fun j => [ch r j c]).map sOf)) (by walk_at "side") rfl (by decide) ⟨rfl, .nil⟩ ?_ ?_
  · rintro C j tj hj ys els s₁ E' ⟨rfl, hys⟩ kp - R₁
    have hj : j < 3 := hj
    have hD := kp.get (S.at mD)
    have hRa := kp.get (S.old hr)
    obtain ⟨tA, hA1⟩ := row_at hrv (i := j) (by rw [grid.len]; exact hj)
    clear R
    refine wpAny_tests_one ?_
    refine wpAny_mono (Q := fun b s' => b = (decide (i = j) || (msk S₀ (3 - i - j)).testBit c) ∧ s' = { s₁ with toks := s'.toks }) (E := E') ?_ (fun b s₂ h₂ => ?_) fun _ _ e => e
    · walk_at "ww"
      by_cases hij : i = j
      · rw [if_pos (by simp [hij])]
        exact ⟨by simp [hij], rfl⟩
      · rw [if_neg (by rw [beq_iff_eq]; omega)]
        walk_at "ww"
        have e3 : (3 : Int) - (i : Nat) - (j : Nat) = ((3 - i - j : Nat) : Int) := by omega
        obtain ⟨tm, hm⟩ := nat_at hS hlen (k := 3 - i - j) (by omega)
        rw [e3]
        refine item_LI (hO.is hD) (by omega) hm ?_
        walk_at "ww"
        rw [bit_test]
        cases hb : (msk S₀ (3 - i - j)).testBit c with
        | true =>
          rw [if_pos rfl]
          exact ⟨by simp, rfl⟩
        | false =>
          rw [if_neg (by decide)]
          walk_at "ww"
          exact ⟨by simp [hij], rfl⟩
    · obtain ⟨rfl, e₂⟩ := h₂
      have R₂ := R₁.any e₂
      dsimp only
      rw [List.range_succ, List.filter_append, List.map_append, List.map_append]
      cases hb : (decide (i = j) || (msk S₀ (3 - i - j)).testBit c) with
      | true =>
        rw [if_pos rfl]
        have hRa₂ : s₂.heap.get? ra = some (listO rv n1) := by rw [e₂]; exact hRa
        clear R₁
        walk_at "ww"
        refine item_LI (isList_of hRa₂) (by omega) hA1 ?_
        walk_at "ww"
        refine item_S (by rw [grid.row' hj]; exact hc) (by rw [grid.row' hj]; decide) ?_
        refine ⟨[], R₂.tok _, rfl, StrsAre.app hys ?_⟩
        have e : List.filter (fun j => decide (i = j) || (msk S₀ (3 - i - j)).testBit c) [j] = [j] := by simp only [List.filter_cons, hb]; rfl
        rw [e]
        exact .cons _ _ .nil
      | false =>
        rw [if_neg (by decide)]
        have e : List.filter (fun j => decide (i = j) || (msk S₀ (3 - i - j)).testBit c) [j] = [] := by simp only [List.filter_cons, hb]; rfl
        rw [e]
        exact ⟨R₂, rfl, by simpa using hys⟩
  · rintro D₁ n₁ ys els s₁ ⟨rfl, hys⟩ R₁
    clear R
    rw [List.append_nil] at R₁
    walk_at "ww"
    refine sorted_S R₁ (isList_of (R₁.at (.head _))) hys (by rw [List.length_map]; exact Nat.lt_of_le_of_lt (List.length_filter_le _ _) (by simp)) fun D₂ vs P e s₂ hvs hperm hup R₂ => ?_
    refine (S.back R₂).store (.inl rfl) fun s₃ S₃ => ?_
    clear S R₁ R₂
    have R := S₃.rd
    have hsg := S₃.at (.head _)
    have hmem : ∀ q, q ∈ P ↔ ∃ j, j < 3 ∧ ES S₀ i j c ∧ q = [ch r j c] := fun q => by
      rw [hperm.mem_iff, List.mem_map]
      constructor
      · rintro ⟨j, hj, rfl⟩
        rw [List.mem_filter, List.mem_range] at hj
        exact ⟨j, hj.1, by simpa [ES] using hj.2, rfl⟩
      · rintro ⟨j, hj, hE, rfl⟩
        exact ⟨j, by rw [List.mem_filter, List.mem_range]; exact ⟨hj, by simpa [ES] using hE⟩, rfl⟩
    have hpos : 0 < P.length := List.length_pos_of_mem ((hmem _).mpr ⟨i, hi, .inl rfl, rfl⟩)
    have hvl : vs.length = P.length := by rw [StrsAre.len hvs, List.length_map]
    refine wpAny_execs_cons (wpAny_AugAssign_Name ?_)
    refine R.ldn rfl ?_
    refine wpAny_mono (Q := fun v s' => ∃ (y : Nat) (t : Tok), v = .str (sOf [y]) t ∧ (∃ j, j < 3 ∧ ES S₀ i j c ∧ y = ch r j c) ∧ (∀ j, j < 3 → ES S₀ i j c → Leq way y (ch r j c)) ∧ s' = { s₃ with toks := s'.toks }) (E := E) ?_ (fun v s₄ h₄ => ?_) fun _ _ e => e
    · walk_at "ww"
      have pick : ∀ k, k < P.length → ∃ j t, j < 3 ∧ ES S₀ i j c ∧ P[k]? = some [ch r j c] ∧ vs[k]? = some (.str (sOf [ch r j c]) t) := fun k hk => by
        obtain ⟨j, hj, hE, e⟩ := (hmem P[k]).mp (List.getElem_mem hk)
        have e1 : P[k]? = some [ch r j c] := by rw [List.getElem?_eq_getElem hk, e]
        obtain ⟨t, ht⟩ := StrsAre.at hvs (i := k) (y := sOf [ch r j c]) (by rw [List.getElem?_map, e1]; rfl)
        exact ⟨j, t, hj, hE, e1, ht⟩
      have one : ∀ a b : Nat, ¬ [a] < [b] ↔ b ≤ a := fun a b => by rw [List.cons_lt_cons_iff]; simp
      rcases hway with rfl | rfl
      · rw [if_pos (by decide)]
        walk_at "ww"
        obtain ⟨j, t, hj, hE, e1, ht⟩ := pick 0 hpos
        refine item_LI (k := 0) (isList_of hsg) (by decide) ht ?_
        refine ⟨_, t, rfl, ⟨j, hj, hE, rfl⟩, fun j' hj' hE' => ?_, rfl⟩
        obtain ⟨k, hk⟩ := List.getElem?_of_mem ((hmem _).mpr ⟨j', hj', hE', rfl⟩)
        rw [Leq, if_pos rfl]
        rcases Nat.eq_zero_or_pos k with q | q
        · subst q; rw [e1] at hk; simp at hk; omega
        · obtain ⟨a0, a1⟩ := List.getElem?_eq_some_iff.mp e1
          obtain ⟨b0, b1⟩ := List.getElem?_eq_some_iff.mp hk
          have := List.pairwise_iff_getElem.mp hup 0 k a0 b0 q
          rw [a1, b1, one] at this
          exact this
      · rw [if_neg (by decide)]
        walk_at "ww"
        obtain ⟨j, t, hj, hE, e1, ht⟩ := pick (P.length - 1) (by omega)
        refine item_neg (isList_of hsg) (by omega) (by rw [hvl]; exact ht) ?_
        refine ⟨_, t, rfl, ⟨j, hj, hE, rfl⟩, fun j' hj' hE' => ?_, rfl⟩
        obtain ⟨k, hk⟩ := List.getElem?_of_mem ((hmem _).mpr ⟨j', hj', hE', rfl⟩)
        rw [Leq, if_neg (by decide)]
        obtain ⟨a0, a1⟩ := List.getElem?_eq_some_iff.mp e1
        obtain ⟨b0, b1⟩ := List.getElem?_eq_some_iff.mp hk
        by_cases q : k = P.length - 1
        · subst q; rw [a1] at b1; simp at b1; omega
        · have := List.pairwise_iff_getElem.mp hup k (P.length - 1) b0 a0 (by omega)
          rw [a1, b1, one] at this
          exact this
    · obtain ⟨y, t, rfl, h1, h2, e₄⟩ := h₄
      have S₄ := S₃.keeps (S₃.any e₄)
      refine iadd_str (fun t' tk => ?_) (by rw [sOf_len, sOf_len]; show x.length + 1 ≤ 2 ^ 24; omega)
      rw [sOf_app]
      refine (S₄.keeps (Kp.tok _ _)).store (.inl rfl) fun s₅ S₅ => ?_
      exact wpAny_execs_nil (h _ y t' h1 h2 (S₅.cut ⟨rfl, rfl, rfl, rfl, rfl, rfl, trivial⟩ (by simp)))
end
section
--LINES
local macro_rules | `(tactic| walk_at "eval Name") => `(tactic| first
  | refine Rd.Nm (Rd.any (by assumption) (by rfl)) (by rfl) ?_
  | refine Rd.Gb (Rd.any (by assumption) (by rfl)) (by rfl) (by rfl) ?_
  | refine Rd.Bl (Rd.any (by assumption) (by rfl)) (by decide) (by first | exact boot_len | exact boot_range | exact boot_sum | exact boot_sorted | exact boot_enumerate | exact boot_zip | exact PyProof.Rows.boot_set | exact PyProof.Rows.boot_type | exact PyProof.Rows.boot_list | exact PyProof.Rows.boot_str) (by rfl) ?_)
local macro_rules | `(tactic| walk_at "side") => `(tactic| (refine ⟨rfl, rfl, by decide, ?_, ?_, fun C => .inl rfl, rfl⟩; ((repeat (refine And.intro ⟨⟨_, rfl⟩, rfl, rfl⟩ ?_)); exact trivial); (intro C; (repeat (refine And.intro ⟨rfl, rfl, ⟨_, rfl⟩, rfl⟩ ?_)); exact trivial)))
local macro_rules | `(tactic| walk_at "newTuple") => `(tactic| (refine newTuple_R (Rd.any (by assumption) (by rfl)) ?_ (by simp [sizeLine]); intro a s' R))
local macro_rules | `(tactic| walk_at "newList") => `(tactic| (refine newList_R (Rd.any (by assumption) (by rfl)) ?_ (by simp [sizeLine]); intro a s' R))
local macro_rules | `(tactic| walk_at "w") => `(tactic| (walk1; try dsimp only))
local macro_rules | `(tactic| walk_at "ww") => `(tactic| repeat ((with_reducible show wpAny _ _ _ _ _ _); walk_at "w"))
local macro_rules | `(tactic| walk_at "callWith ref") => `(tactic| refine callWith_K (Rd.gl' (by assumption)).k (by rfl) ?_)
--ENDLINES
theorem append_L {w : World} {s : Shared} {A : Around} {E : Value → Shared → Prop} {D : Addr} {vs : List Value} {n : Nat} {v : Value} {Q : Value → Shared → Prop} (hD : s.heap.get? D = some (listO vs n)) (hz : vs.length ≤ 1000)
    (h : ∀ s' n', KeepsBut D s s' → s'.heap.get? D = some (listO (vs ++ [v]) n') → Q .none s') : wpAny (MM w) A (call (.builtin "list.append") [.ref D, v]) Q E s := by
  refine wpAny_list_append_plain ⟨n, hD⟩ (fun h' hp hs => ?_) (by rw [List.size_toArray]; show vs.length ≤ 2 ^ 24; omega)
  obtain ⟨n', e⟩ := hp
  exact h _ n' ⟨h', s.toks, rfl, fun b o hb e => hs.extBut b o hb e⟩ (by simpa using e)
set_option maxHeartbeats 8000000 in
theorem agree_ok {w : World} {s : Shared} {A : Around} {Q E : Value → Shared → Prop} {ra ua : Addr} {rv uv : List Value} {n1 n2 : Nat} {r : List (List Nat)} {rl : List (Nat × Nat)} {way : Int} {tw : Tok} (G : Gl w s.heap) (hA : Rm 1 A)
    (hr : s.heap.get? ra = some (listO rv n1)) (hrv : StrsAre rv (r.map sOf)) (grid : Grid r) (hu : s.heap.get? ua = some (listO uv n2)) (hP : RulesAre s.heap uv rl) (hrl : ∀ p ∈ rl, p.1 < 16 ∧ p.2 < 4) (hway : way = 1 ∨ way = -1)
    (h : ∀ D vs R s', Kp s s' → s.heap.get? D = none → s'.heap.IsList D vs.toArray → StrsAre vs (R.map sOf) → Chased way rl r R → Q (.ref D) s') :
    wpAny (MM w) A (call (.ref 241) [.ref ra, .ref ua, .int way tw]) Q E s := by
  refine wpAny_call ?_
  refine enter (fd := fd241) (c := 240) (binds := [("rows", .ref ra), ("rules", .ref ua), ("way", .int way tw)]) (V := [("rows", .ref ra), ("rules", .ref ua), ("way", .int way tw)]) (body := bodO (stm 16)) (by rfl) (by decide) rfl G hA.room rfl (BindsTo.of_eq rfl) rfl rfl rfl ?_ ?_ ?_ rfl rfl rfl
  · intro k x hx
    simp only [List.mem_cons, List.not_mem_nil, or_false] at hx
    rcases hx with rfl | rfl | rfl
    · exact .inr ⟨rfl, rfl⟩
    · exact .inl rfl
    · exact .inl rfl
  · intro L
    exact ⟨.inr ⟨rfl, rfl, rfl⟩, .inl ⟨rfl, rfl⟩, .inl ⟨rfl, rfl⟩, trivial⟩
  · intro L s₁ hL S
    have hA' := hA.deeper (callEnvC fd241 L 241)
    have R := S.rd
    refine wpAny_execs_cons (wpAny_Assign_Name ?_)
    refine compRange (cl := [("rows", L + 1)]) hA'.hh R [("rows", .ref ra)] (fun i ys els => els = [] ∧ NatsAre ys ((List.range i).map (sameOf r))) ?_ rfl (by decide) ⟨rfl, .nil⟩ ?_ ?_
    · refine ⟨rfl, rfl, by decide, ?_, ?_, fun C => .inr ⟨rfl, _, rfl, ?_⟩, rfl⟩
      · exact ⟨⟨⟨_, rfl⟩, rfl, rfl⟩, trivial⟩
      · exact fun C => ⟨⟨rfl, rfl, ⟨_, rfl⟩, rfl⟩, trivial⟩
      · exact Nat.lt_succ_self _
    · rintro C k tk hk ys els s₃ E' ⟨rfl, hys⟩ kp - R₃
      have hk : k < 3 := hk
      clear R
      refine wpAny_tests_nil ?_
      rw [if_pos rfl]
      walk_at "ww"
      have hrow : ∀ i, i < 3 → ∃ t, rv[i]? = some (.str (sOf (r.getD i [])) t) := fun i hi => row_at hrv (by rw [grid.len]; exact hi)
      have hk1 : (k + 1) % 3 < 3 := Nat.mod_lt _ (by decide)
      have hk2 : (k + 2) % 3 < 3 := Nat.mod_lt _ (by decide)
      obtain ⟨tA, hiA⟩ := hrow _ hk1
      obtain ⟨tB, hiB⟩ := hrow _ hk2
      have hRa := kp.get (S.old hr)
      refine compRange (cl := [("rows", L + 1), ("k", C + 1)]) hA'.hh (R₃.any rfl) [("k", .int (k : Nat) tk), ("rows", .ref ra)] (fun i ys els => els = [] ∧ NatsAre ys (((List.range i).filter fun c => ch r ((k + 1) % 3) c == ch r ((k + 2) % 3) c).map fun c => 1 <<< c)) (by walk_at "side") rfl (by decide) ⟨rfl, .nil⟩ ?_ ?_
      · rintro C₂ c tc hc ys₂ els₂ s₄ E₂ ⟨rfl, hys₂⟩ kp₂ - R₄
        have hc : c < 4 := hc
        have hRa₂ := kp₂.get hRa
        clear R₃
        refine wpAny_tests_one ?_
        walk_at "ww"
        rw [mod_k]
        refine item_L hRa₂ (by omega) (by omega) (by rw [Int.toNat_natCast]; exact hiA) ?_
        walk_at "ww"
        refine item_S (by rw [grid.row' hk1]; exact hc) (by rw [grid.row' hk1]; decide) ?_
        walk_at "ww"
        rw [mod_k2]
        refine item_L hRa₂ (by omega) (by omega) (by rw [Int.toNat_natCast]; exact hiB) ?_
        walk_at "ww"
        refine item_S (by rw [grid.row' hk2]; exact hc) (by rw [grid.row' hk2]; decide) ?_
        walk_at "ww"
        rw [sOf_beq]
        have e0 : ([(r.getD ((k + 1) % 3) []).getD c 0] == [(r.getD ((k + 2) % 3) []).getD c 0]) = (ch r ((k + 1) % 3) c == ch r ((k + 2) % 3) c) := by
          rw [Bool.eq_iff_iff]; simp [ch]
        rw [e0, List.range_succ, List.filter_append, List.map_append]
        cases hb : (ch r ((k + 1) % 3) c == ch r ((k + 2) % 3) c) with
        | true =>
          rw [if_pos rfl]
          walk_at "ww"
          rw [shl_nat]
          have e : List.filter (fun c => ch r ((k + 1) % 3) c == ch r ((k + 2) % 3) c) [c] = [c] := by simp [hb]
          rw [e]
          refine ⟨[], R₄.any rfl, rfl, ?_⟩
          rw [NatsAre, List.map_append]
          exact IntsAre.app hys₂ (.cons _ _ .nil)
        | false =>
          rw [if_neg (by decide)]
          have e : List.filter (fun c => ch r ((k + 1) % 3) c == ch r ((k + 2) % 3) c) [c] = [] := by simp [hb]
          rw [e]
          exact ⟨R₄.any rfl, rfl, by simpa using hys₂⟩
      · rintro D nD ys₂ els₂ s₄ ⟨rfl, hys₂⟩ R₄
        clear R₃
        walk_at "ww"
        refine sum_S R₄ hA'.hh (isList_of (R₄.at (.head _))) hys₂ fun t s₅ R₅ => ?_
        rw [nats_sum]
        refine ⟨[], R₅.drop (List.nil_sublist _), rfl, ?_⟩
        rw [List.range_succ (n := k), List.map_append, NatsAre, List.map_append]
        exact IntsAre.app hys (.cons _ _ .nil)
    · rintro D nD ys els s₂ ⟨rfl, hys⟩ R₂
      clear R
      refine (S.back R₂).store (.inr ⟨rfl, L + 3, rfl, none_ge (Nat.le_trans hL (Nat.le_add_right _ 3))⟩) fun s₃ S₃ => ?_
      clear S R₂
      rw [List.append_nil] at S₃
      refine wpAny_execs_cons (wpAny_Assign_Name ?_)
      have R := S₃.rd
      walk_at "ww"
      rename_i aB s₄ R₄
      refine (S₃.back R₄).store (.inl rfl) fun s₅ S₅ => ?_
      clear S₃ R R₄
      have S₅ := S₅.sub (V' := [("rows", .ref ra), ("rules", .ref ua), ("way", .int way tw), ("same", .ref D), ("before", .ref aB)]) ⟨rfl, rfl, rfl, rfl, rfl, trivial⟩
      refine wpAny_execs_cons ?_
      refine whileW (fun n V led => ∃ (B S : List Nat) (bv sv : List Value) (aB : Addr) (oB oS : Obj), V = ([("rows", .ref ra), ("rules", .ref ua), ("way", .int way tw), ("same", .ref D), ("before", .ref aB)] : VL) ∧ led = ([(aB, oB), (D, oS)] : LL) ∧ LO oB bv ∧ LO oS sv ∧
        NatsAre bv B ∧ NatsAre sv S ∧ MInv rl r S ∧ (B = S → Shut rl S) ∧ n = if B = S then 0 else 46 - S.sum) (46 - ((List.range 3).map (sameOf r)).sum) S₅ ⟨[], (List.range 3).map (sameOf r), [], ys, aB, _, _, rfl, rfl, ⟨rfl, _, rfl⟩, ⟨rfl, _, rfl⟩, .nil, hys, minv_start, fun e => ?_, ?_⟩ ?_
      · have := congrArg List.length e; simp at this
      · rw [if_neg (fun e => by have := congrArg List.length e; simp at this)]
      clear S₅
      rintro n V led s₆ E' ⟨B, S, bv, sv, aB, oB, oS, rfl, rfl, hoB, hoS, hB, hS, hM, hshut, hn⟩ S₆
      have hsum : ∀ S : List Nat, MInv rl r S → S.sum = msk S 0 + msk S 1 + msk S 2 ∧ S.sum ≤ 45 := fun S hM => by
        have e : S.sum = msk S 0 + msk S 1 + msk S 2 := by
          match S, hM.len with
          | [a, b, c], _ => simp [msk]; omega
        have := hM.lt 0 (by decide)
        have := hM.lt 1 (by decide)
        have := hM.lt 2 (by decide)
        exact ⟨e, by omega⟩
      have R := S₆.rd
      walk_at "w"
      walk_at "w"
      walk_at "w"
      refine ne_intsK (hoB.is (S₆.at (.head _))) hB (hoS.is (S₆.at (.tail _ (.head _)))) hS (hA'.units' (by decide)) ?_
      walk_at "w"
      rw [nat_lists]
      by_cases hBS : B = S
      · rw [if_neg (by simp [hBS])]
        subst hBS
        have hsh := hshut rfl
        clear R
        refine wpAny_execs_cons (wpAny_Assign_Name ?_)
        have S₇ := S₆.cut (V' := [("rows", .ref ra), ("way", .int way tw), ("same", .ref D)]) (led' := [(D, oS)]) ⟨rfl, rfl, rfl, trivial⟩ (by simp)
        clear S₆
        have R := S₇.rd
        walk_at "ww"
        rename_i aM s₈ R₈
        refine (S₇.back R₈).store (.inl rfl) fun s₉ S₉ => ?_
        clear R R₈ S₇
        have S₉ := S₉.sub (V' := [("rows", .ref ra), ("way", .int way tw), ("same", .ref D), ("made", .ref aM)]) ⟨rfl, rfl, rfl, rfl, trivial⟩
        refine wpAny_execs_cons ?_
        refine forRange (fun i V led => ∃ (mv : List Value) (nM : Nat) (M : List (List Nat)), V = ([("rows", .ref ra), ("way", .int way tw), ("same", .ref D), ("made", .ref aM)] : VL) ∧ led = ([(aM, listO mv nM), (D, oS)] : LL) ∧ StrsAre mv (M.map sOf) ∧ M.length = i ∧ (∀ x ∈ M, x.length = 4) ∧
          ∀ i' c, i' < i → c < 4 → (∃ j, j < 3 ∧ ES B i' j c ∧ ch M i' c = ch r j c) ∧ ∀ j, j < 3 → ES B i' j c → Leq way (ch M i' c) (ch r j c)) S₉ hA'.hh rfl (by decide) (fun I => own_name)
          ⟨[], 0, [], rfl, rfl, .nil, rfl, (fun _ h => nomatch h), fun i' c h => absurd h (Nat.not_lt_zero _)⟩ ?_ ?_
        · rintro I o i v V led s₁₀ E'' ⟨hi, t, rfl⟩ ⟨mv, nM, M, rfl, rfl, hmv, hMl, hM4, hbest⟩ S₁₀
          refine PyProof.Rows.assign_Name (S₁₀.store (.inr ⟨rfl, L + 4, rfl, none_ge (Nat.le_trans hL (Nat.le_add_right _ 4))⟩) fun s₁₁ S₁₁ => ?_)
          refine wpAny_execs_cons (wpAny_Assign_Name ?_)
          walk_at "ww"
          refine (S₁₁.keeps (Kp.tok _ _)).store (.inl rfl) fun s₁₂ S₁₂ => ?_
          have S₁₂ := S₁₂.sub (V' := [("rows", .ref ra), ("way", .int way tw), ("same", .ref D), ("made", .ref aM), ("i", .int (i : Nat) t), ("row", .str (sOf []) s₁₁.toks)]) ⟨rfl, rfl, rfl, rfl, rfl, rfl, trivial⟩
          refine wpAny_execs_cons ?_
          refine forRange (fun c V led => ∃ (x : List Nat) (tx : Tok), V = ([("rows", .ref ra), ("way", .int way tw), ("same", .ref D), ("made", .ref aM), ("i", .int (i : Nat) t), ("row", .str (sOf x) tx)] : VL) ∧ led = ([(I, o), (aM, listO mv nM), (D, oS)] : LL) ∧ x.length = c ∧
            ∀ c', c' < c → (∃ j, j < 3 ∧ ES B i j c' ∧ x.getD c' 0 = ch r j c') ∧ ∀ j, j < 3 → ES B i j c' → Leq way (x.getD c' 0) (ch r j c')) S₁₂ hA'.hh rfl (by decide) (fun I => own_name)
            ⟨[], _, rfl, rfl, rfl, fun c' h => absurd h (Nat.not_lt_zero _)⟩ ?_ ?_
          · rintro I₂ o₂ c v V led s₁₃ E₃ ⟨hc, t₂, rfl⟩ ⟨x, tx, rfl, rfl, hxl, hxb⟩ S₁₃
            have hc : c < 4 := hc
            refine PyProof.Rows.assign_Name (S₁₃.store (.inr ⟨rfl, L + 2, rfl, none_ge (Nat.le_trans hL (Nat.le_add_right _ 2))⟩) fun s₁₄ S₁₄ => ?_)
            refine c_turn (S₀ := B) (i := i) (c := c) (S₁₄.sub ⟨rfl, rfl, rfl, rfl, rfl, rfl, rfl, trivial⟩) (by omega) hL hA'.hh hi hc (.tail _ (.tail _ (.tail _ (.head _)))) hoS hS hM.len hr hrv grid hway fun s₁₅ y ty h1 h2 S₁₅ => ?_
            refine ⟨_, [], _, ⟨x ++ [y], ty, rfl, rfl, by simp [hxl], fun c' hc' => ?_⟩, S₁₅⟩
            rcases Nat.lt_or_ge c' c with q | q
            · have e : (x ++ [y]).getD c' 0 = x.getD c' 0 := by simp only [List.getD_eq_getElem?_getD]; rw [List.getElem?_append_left (by omega)]
              rw [e]; exact hxb c' q
            · have : c' = c := by omega
              subst this
              have e : (x ++ [y]).getD c' 0 = y := by simp only [List.getD_eq_getElem?_getD]; rw [List.getElem?_append_right (by omega), hxl]; simp
              rw [e]
              obtain ⟨j, a, b, d⟩ := h1
              exact ⟨⟨j, a, b, d⟩, h2⟩
          · rintro V led s₁₃ ⟨x, tx, rfl, rfl, hxl, hxb⟩ S₁₃
            have R := S₁₃.rd
            refine wpAny_execs_cons (wpAny_Expr_any ?_)
            walk_at "ww"
            refine PySem.Calls.getMethod_list_append (S₁₃.at (.tail _ (.head _))) rfl rfl ?_
            walk_at "ww"
            refine append_L (S₁₃.at (.tail _ (.head _))) (by rw [StrsAre.len hmv, List.length_map, hMl]; have : i < 3 := hi; omega) fun s₁₄ n₁₄ kb e₁₄ => ?_
            have S₁₄ := S₁₃.mut2 kb e₁₄
            have hxl : x.length = 4 := hxl
            refine wpAny_execs_nil ⟨_, [], _, ⟨_, n₁₄, M ++ [x], rfl, rfl, ?_, by simp [hMl], ?_, fun i' c hi' hc => ?_⟩, S₁₄.sub (V' := [("rows", .ref ra), ("way", .int way tw), ("same", .ref D), ("made", .ref aM)]) ⟨rfl, rfl, rfl, rfl, trivial⟩⟩
            · rw [List.map_append]; exact StrsAre.app hmv (.cons _ _ .nil)
            · intro z hz
              rcases List.mem_append.mp hz with q | q
              · exact hM4 z q
              · rw [List.mem_singleton.mp q]; exact hxl
            · rcases Nat.lt_or_ge i' i with q | q
              · have e : ch (M ++ [x]) i' c = ch M i' c := by unfold ch; simp only [List.getD_eq_getElem?_getD]; rw [List.getElem?_append_left (by omega)]
                rw [e]; exact hbest i' c q hc
              · have : i' = i := by omega
                subst this
                have e : ch (M ++ [x]) i' c = x.getD c 0 := by unfold ch; simp only [List.getD_eq_getElem?_getD]; rw [List.getElem?_append_right (by omega), hMl]; simp
                rw [e]; exact hxb c hc
        · rintro V led s₁₀ ⟨mv, nM, M, rfl, rfl, hmv, hMl, hM4, hbest⟩ S₁₀
          have R := S₁₀.rd
          refine wpAny_execs_cons (wpAny_Return_some ?_)
          walk_at "ww"
          refine h aM mv M _ S₁₀.keep (S₁₀.has _ (.head _)).2.1 (isList_of (S₁₀.at (.head _))) hmv (chased_of grid hM hsh hrl hMl hM4 ⟨fun i c hi hc => ?_, fun i j c hi hj hc => ?_⟩)
          · exact (hbest i c hi hc).1
          · exact (hbest i c hi hc).2 j hj
      · rw [if_pos (by simp [hBS])]
        refine wpAny_execs_cons (wpAny_Assign_Name ?_)
        walk_at "ww"
        refine slice_L R (hoS.is (S₆.at (.tail _ (.head _)))) .none .none (by rw [hS.length]; simp [hM.len]) fun a₇ s₇ R₇ => ?_
        have hpick := slice_ints_all hS
        generalize (slicePick sv.toArray none none none).toList = cv at R₇ hpick
        refine (S₆.back R₇).store (.inl rfl) fun s₈ S₈ => ?_
        clear R R₇ S₆
        have S₈ := (S₈.cut (V' := [("rows", .ref ra), ("rules", .ref ua), ("way", .int way tw), ("same", .ref D), ("before", .ref a₇)]) (led' := [(a₇, listO cv 0), (D, oS)]) ⟨rfl, rfl, rfl, rfl, rfl, trivial⟩ (by simp)).perm (led' := [(D, oS), (a₇, listO cv 0)]) (List.Perm.swap _ _ _)
        refine wpAny_execs_cons ?_
        refine forRange (fun k V led => ∃ (o₁ : Obj) (sv₁ : List Value) (S₁ : List Nat), V = ([("rows", .ref ra), ("rules", .ref ua), ("way", .int way tw), ("same", .ref D), ("before", .ref a₇)] : VL) ∧ led = ([(D, o₁), (a₇, listO cv 0)] : LL) ∧ LO o₁ sv₁ ∧ NatsAre sv₁ S₁ ∧ MInv rl r S₁ ∧ Mono S S₁ ∧
          (S₁ = S → ∀ k', k' < k → (∀ p ∈ rl, msk S k' &&& p.1 = p.1 → (msk S k').testBit p.2 = true) ∧ ∀ c, (msk S ((k' + 1) % 3)).testBit c = true → (msk S ((k' + 2) % 3)).testBit c = true → (msk S k').testBit c = true)) S₈ hA'.hh rfl (by decide) (fun I => own_name)
          ⟨oS, sv, S, rfl, rfl, hoS, hS, hM, fun _ _ => Nat.le_refl _, fun _ k' hk' => absurd hk' (Nat.not_lt_zero _)⟩ ?_ ?_
        · rintro I o k v V led s₉ E'' ⟨hk, t, rfl⟩ ⟨o₁, sv₁, S₁, rfl, rfl, hO₁, hS₁, hM₁, hmo, hf⟩ S₉
          refine PyProof.Rows.assign_Name (S₉.store (.inl rfl) fun s₁₀ S₁₀ => ?_)
          have S₁₀ := (S₁₀.sub (V' := [("rows", .ref ra), ("rules", .ref ua), ("way", .int way tw), ("same", .ref D), ("before", .ref a₇), ("k", .int (k : Nat) t)]) ⟨rfl, rfl, rfl, rfl, rfl, rfl, trivial⟩).perm (led' := [(D, o₁), (I, o), (a₇, listO cv 0)]) (List.Perm.swap _ _ _)
          refine k_turn S₁₀ hA'.hh hk hO₁ hS₁ hM₁ hu hP hrl fun s₁₁ o₂ sv₂ S₂ hO₂ hS₂ hM₂ hmo₂ hf₂ S₁₁ => ?_
          refine ⟨_, [(D, o₂)], [(a₇, listO cv 0)], ⟨o₂, sv₂, S₂, rfl, rfl, hO₂, hS₂, hM₂, fun k' hk' => Nat.le_trans (hmo k' hk') (hmo₂ k' hk'), fun e k' hk' => ?_⟩, S₁₁⟩
          have e₁ : S₁ = S := masks_eq hM₁.len hM.len fun k' hk' => Nat.le_antisymm (by have := hmo₂ k' hk'; rw [e] at this; exact this) (hmo k' hk')
          rcases Nat.lt_or_ge k' k with q | q
          · exact hf e₁ k' q
          · have : k' = k := by omega
            subst this
            have := hf₂ (e.trans e₁.symm)
            rw [e₁] at this
            exact this
        · rintro V led s₉ ⟨o₁, sv₁, S₁, rfl, rfl, hO₁, hS₁, hM₁, hmo, hf⟩ S₉
          refine wpAny_execs_nil ?_
          refine ⟨if S = S₁ then 0 else 46 - S₁.sum, _, _, ?_, ⟨S, S₁, cv, sv₁, a₇, _, o₁, rfl, rfl, ⟨rfl, _, rfl⟩, hO₁, hpick, hS₁, hM₁, fun e => ?_, rfl⟩, S₉.perm (List.Perm.swap _ _ _)⟩
          · rw [hn, if_neg hBS]
            have a := hsum S hM
            have b := hsum S₁ hM₁
            split
            · omega
            · rename_i hne
              have m0 := hmo 0 (by decide)
              have m1 := hmo 1 (by decide)
              have m2 := hmo 2 (by decide)
              have : ¬ (msk S 0 = msk S₁ 0 ∧ msk S 1 = msk S₁ 1 ∧ msk S 2 = msk S₁ 2) := fun ⟨x, y, z⟩ => hne (masks_eq hM.len hM₁.len fun k hk => by
                have : k = 0 ∨ k = 1 ∨ k = 2 := by omega
                rcases this with rfl | rfl | rfl
                · exact x
                · exact y
                · exact z)
              omega
          · subst e
            exact ⟨fun k hk => (hf rfl k hk).1, fun k c hk => (hf rfl k hk).2 c⟩
end
section
/-! ## zip of a tuple and a list -/
section
variable {w : World} {A : Around} {E : Value → Shared → Prop} {s : Shared}
theorem nextOf_tup {it t : Addr} {i : Nat} {items : Array Value} {x : Value} {Q : Value → Shared → Prop} (hit : IsTupIter s.heap it t i) (ht : IsTup s.heap t items) (hx : items[i]? = some x)
    (hQ : ∀ h', IsTupIter h' it t (i + 1) → Heap.SameBut it s.heap h' → Q x { s with heap := h' }) : wpAny (MM w) A (Builtin.SmallTypes.nextOf (.ref it)) Q E s := by
  obtain ⟨o, ho, hc, hd⟩ := id hit
  obtain ⟨ol, hol, _, nl, hdl⟩ := ht
  unfold Builtin.SmallTypes.nextOf
  refine wpAny_bind (wpAny_callSpecial?_slot (name := Str.ofString "__next__") hit.typeIs slot_tupleiter_next (wpAny_call_entry slot_tupleiter_next hit.typeIs entry_tupleiter_next ?_ (args_tupleiter_next _)))
  show wpAny _ _ (field (.ref it) 0 >>= _) _ _ s
  refine wpAny_bind (wpAny_field ho hd (x := .ref t) rfl ?_)
  show wpAny _ _ (if (Value.ref t == Value.none) = true then _ else _) _ _ s
  rw [if_neg (show ¬ ((Value.ref t == Value.none) = true) from Bool.false_ne_true)]
  show wpAny _ _ (field (.ref it) 1 >>= _) _ _ s
  refine wpAny_bind (wpAny_field ho hd (x := .int i 0) rfl ?_)
  show wpAny _ _ (seqItems? (.ref t) >>= _) _ _ s
  refine wpAny_bind (wpAny_seqItems hol hdl ?_)
  simp only [Int.toNat_natCast, hx]
  refine wpAny_bind (wpAny_setField ho hd (by simp) (wpAny_pure ⟨x, rfl, wpAny_pure (hQ _ ⟨_, Heap.get?_update_self _ ho (Obj.isFreed_of_fields (Obj.data_mapFields hd _)), (Obj.cls_mapFields ..).trans hc, ?_⟩ (Heap.SameBut.update ..))⟩))
  rw [Obj.data_mapFields hd]; simp [rawInt]
theorem nextOf_tupEnd {it t : Addr} {i : Nat} {items : Array Value} {Q : Value → Shared → Prop} (hh : A.handled = none) (hit : IsTupIter s.heap it t i) (ht : IsTup s.heap t items) (hx : items[i]? = none)
    (hE : ∀ h' e, Heap.ExtBut it s.heap h' → (∃ o, h'.get? e = some o ∧ o.cls = .type "StopIteration") → E (.ref e) { s with heap := h' }) : wpAny (MM w) A (Builtin.SmallTypes.nextOf (.ref it)) Q E s := by
  obtain ⟨o, ho, hc, hd⟩ := id hit
  obtain ⟨ol, hol, _, nl, hdl⟩ := ht
  unfold Builtin.SmallTypes.nextOf
  refine wpAny_bind (wpAny_callSpecial?_slot (name := Str.ofString "__next__") hit.typeIs slot_tupleiter_next (wpAny_call_entry slot_tupleiter_next hit.typeIs entry_tupleiter_next ?_ (args_tupleiter_next _)))
  show wpAny _ _ (field (.ref it) 0 >>= _) _ _ s
  refine wpAny_bind (wpAny_field ho hd (x := .ref t) rfl ?_)
  show wpAny _ _ (if (Value.ref t == Value.none) = true then _ else _) _ _ s
  rw [if_neg (show ¬ ((Value.ref t == Value.none) = true) from Bool.false_ne_true)]
  show wpAny _ _ (field (.ref it) 1 >>= _) _ _ s
  refine wpAny_bind (wpAny_field ho hd (x := .int i 0) rfl ?_)
  show wpAny _ _ (seqItems? (.ref t) >>= _) _ _ s
  refine wpAny_bind (wpAny_seqItems hol hdl ?_)
  simp only [Int.toNat_natCast, hx]
  refine wpAny_bind (wpAny_rule (wpAny_bind (wpAny_setField ho hd (by simp) ?_)))
  show wpAny _ _ (newExc (.type "StopIteration") [] >>= _) _ _ _
  refine wpAny_bind ?_
  simp only [newExc, newTuple]
  refine wpAny_bind (wpAny_newObj_type ?_ (by size_fits))
  refine wpAny_bind (m := firstArgMember _ _) (wpAny_of_eq (a := Value.none) rfl ?_)
  refine wpAny_newObj_type ?_ (by size_fits)
  simp only [raiseNew]
  refine wpAny_bind (wpAny_handled ?_)
  first | rw [show A.in1.handled = none from hh] | rw [hh]
  exact wpAny_bind (wpAny_pure (wpAny_throw (hE _ _ (((Heap.SameBut.update ..).extBut.push _).push _) ⟨_, Heap.get?_push_size _ rfl, rfl⟩)))

theorem tupIter_but {h h' : Heap} {it t b : Addr} {i : Nat} (H : IsTupIter h it t i) (k : Heap.ExtBut b h h') (hne : it ≠ b) : IsTupIter h' it t i := by
  obtain ⟨o, ho, r⟩ := H
  exact ⟨o, k _ _ hne ho, r⟩
theorem zipTL_next {z TI TO i1 i2 l1 l2 : Addr} {k1 k2 : Nat} {xs ys : Array Value} {x y a b : Value} {Q : Value → Shared → Prop} (D : ZipApart z TI TO i1 i2 l1 l2)
    (hz : IsZip s.heap z TI TO .none) (hTI : IsPair s.heap TI (.ref i1) (.ref i2)) (hTO : IsPair s.heap TO a b)
    (h1 : IsTupIter s.heap i1 l1 k1) (h2 : s.heap.IsListIter i2 l2 k2) (hl1 : IsTup s.heap l1 xs) (hl2 : s.heap.IsList l2 ys) (hx : xs[k1]? = some x) (hy : ys[k2]? = some y)
    (hQ : ∀ h', IsZip h' z TI TO (rawInt s.heap.objs.size) → IsPair h' TO x y → IsTupIter h' i1 l1 (k1 + 1) → h'.IsListIter i2 l2 (k2 + 1) → IsPair h' s.heap.objs.size x y →
      (∀ c o, c ≠ z → c ≠ TO → c ≠ i1 → c ≠ i2 → s.heap.get? c = some o → h'.get? c = some o) → Q (.ref s.heap.objs.size) { s with heap := h' }) :
    wpAny (MM w) A (Builtin.«zip.__next__» ⟨[.ref z], []⟩) (fun fin s' => ∃ v, fin = .done (.ret v) ∧ Q v s') E s := by
  show wpAny _ _ (field (.ref z) 2 >>= _) _ _ _
  refine wpAny_bind (wpAny_field hz rfl (x := .bool false) rfl ?_)
  show wpAny _ _ (field (.ref z) 3 >>= _) _ _ _
  refine wpAny_bind (wpAny_field hz rfl (x := .ref TI) rfl (wpAny_bind (wpAny_seqItems hTI rfl ?_)))
  show wpAny _ _ (Builtin.SmallTypes.ownedTupleIsFree (.ref z) >>= _) _ _ _
  refine wpAny_bind ?_
  unfold Builtin.SmallTypes.ownedTupleIsFree
  refine wpAny_bind (wpAny_field hz rfl (x := .none) rfl (wpAny_pure ?_))
  simp only [if_true]
  refine wpAny_bind (wpAny_rule (wpAny_bind (wpAny_field hz rfl (x := .ref TO) rfl (wpAny_bind (wpAny_setField_rec hz (by simp) fun h₁ hz₁ hs₁ => ?_)))))
  replace hz₁ : IsZip h₁ z TI TO .ellipsis := hz₁
  refine wpAny_bind ?_
  simp only [List.zipIdx_cons, List.zipIdx_nil, List.forIn_cons, List.forIn_nil]
  refine wpAny_bind (wpAny_bind (wpAny_onRaise ?_))
  show wpAny _ _ (Builtin.SmallTypes.nextOf (.ref i1) >>= _) _ _ _
  refine wpAny_bind (nextOf_tup (tupIter_but h1 hs₁.extBut D.i1z) (hl1.extBut hs₁.extBut D.l1z) hx fun h₂ h1₂ hs₂ => wpAny_pure ?_)
  have hTO₂ : IsPair h₂ TO a b := hs₂.extBut _ _ D.TOi1 (hs₁.extBut _ _ D.TOz hTO)
  refine wpAny_bind (wpAny_seqItems hTO₂ rfl (wpAny_bind (wpAny_updateSeq_pair hTO₂ fun h₃ hTO₃ hs₃ => ?_)))
  replace hTO₃ : IsPair h₃ TO x b := hTO₃
  refine wpAny_bind (wpAny_letGo (wpAny_pure (wpAny_bind (wpAny_bind (wpAny_onRaise ?_)))))
  show wpAny _ _ (Builtin.SmallTypes.nextOf (.ref i2) >>= _) _ _ _
  refine wpAny_bind (wpAny_nextOf_list_item (((h2.extBut hs₁.extBut D.i2z).extBut hs₂.extBut D.i12.symm).extBut hs₃.extBut D.TOi2.symm)
    (((hl2.extBut hs₁.extBut D.l2z).extBut hs₂.extBut D.l2i1).extBut hs₃.extBut D.l2TO) hy fun h₄ h2₄ hs₄ => wpAny_pure ?_)
  have hTO₄ : IsPair h₄ TO x b := hs₄.extBut _ _ D.TOi2 hTO₃
  refine wpAny_bind (wpAny_seqItems hTO₄ rfl (wpAny_bind (wpAny_updateSeq_pair hTO₄ fun h₅ hTO₅ hs₅ => ?_)))
  replace hTO₅ : IsPair h₅ TO x y := hTO₅
  refine wpAny_bind (wpAny_letGo (wpAny_pure (wpAny_pure (wpAny_bind (wpAny_seqItems hTO₅ rfl (wpAny_bind (wpAny_newTuple ?_)))))))
  have hsz : h₅.objs.size = s.heap.objs.size := by rw [hs₅.1, hs₄.1, hs₃.1, hs₂.1, hs₁.1]
  have hz₅ : IsZip h₅ z TI TO .ellipsis := hs₅.extBut _ _ D.TOz.symm (hs₄.extBut _ _ D.i2z.symm (hs₃.extBut _ _ D.TOz.symm (hs₂.extBut _ _ D.i1z.symm hz₁)))
  have h1₅ : IsTupIter h₅ i1 l1 (k1 + 1) := tupIter_but (tupIter_but (tupIter_but h1₂ hs₃.extBut D.TOi1.symm) hs₄.extBut D.i12) hs₅.extBut D.TOi1.symm
  have h2₅ : h₅.IsListIter i2 l2 (k2 + 1) := h2₄.extBut hs₅.extBut D.TOi2.symm
  have hzlt : z < h₅.objs.size := Heap.lt_size hz₅
  show wpAny _ _ (Builtin.SmallTypes.ownedTupleHandOut (.ref z) (.ref h₅.objs.size) >>= _) _ _ _
  refine wpAny_bind ?_
  unfold Builtin.SmallTypes.ownedTupleHandOut
  have hz₆ : IsZip (h₅.push { cls := .type "tuple", data := .seq #[x, y] }) z TI TO .ellipsis := Heap.get?_push_of_some _ hz₅
  refine wpAny_bind (wpAny_setField_rec hz₆ (by simp) fun h₇ hz₇ hs₇ => ?_)
  replace hz₇ : IsZip h₇ z TI TO (rawInt h₅.objs.size) := hz₇
  refine wpAny_setField_rec hz₇ (by simp) fun h₈ hz₈ hs₈ => ?_
  replace hz₈ : IsZip h₈ z TI TO (rawInt h₅.objs.size) := hz₈
  have up : ∀ c o, c ≠ z → h₅.get? c = some o → h₈.get? c = some o := fun c o c1 e => hs₈.extBut _ _ c1 (hs₇.extBut _ _ c1 (Heap.get?_push_of_some _ e))
  have hT₈ : IsPair h₈ h₅.objs.size x y := hs₈.extBut _ _ (Nat.ne_of_gt hzlt) (hs₇.extBut _ _ (Nat.ne_of_gt hzlt) (Heap.get?_push_size _ rfl))
  rw [hsz] at hz₈ hT₈
  refine wpAny_pure ⟨_, rfl, ?_⟩
  show Q (.ref h₅.objs.size) _
  rw [hsz]
  refine hQ h₈ hz₈ (up _ _ D.TOz hTO₅) ?_ (h2₅.at fun o e => up _ o D.i2z e) hT₈ fun c o c1 c2 c3 c4 e => up c o c1 (hs₅.extBut _ _ c2 (hs₄.extBut _ _ c4 (hs₃.extBut _ _ c2 (hs₂.extBut _ _ c3 (hs₁.extBut _ _ c1 e)))))
  obtain ⟨o, ho, r⟩ := h1₅
  exact ⟨o, up _ _ D.i1z ho, r⟩
theorem zipTL_end {z TI TO i1 i2 l1 l2 : Addr} {k1 : Nat} {xs : Array Value} {Q : Fin → Shared → Prop} (hh : A.handled = none) (D : ZipApart z TI TO i1 i2 l1 l2)
    (hz : IsZip s.heap z TI TO .none) (hTI : IsPair s.heap TI (.ref i1) (.ref i2)) (h1 : IsTupIter s.heap i1 l1 k1) (hl1 : IsTup s.heap l1 xs) (hx : xs[k1]? = none)
    (hE : ∀ h' e, (∀ c o, c ≠ z → c ≠ TO → c ≠ i1 → c ≠ i2 → s.heap.get? c = some o → h'.get? c = some o) → (∃ o, h'.get? e = some o ∧ o.cls = .type "StopIteration") → E (.ref e) { s with heap := h' }) :
    wpAny (MM w) A (Builtin.«zip.__next__» ⟨[.ref z], []⟩) Q E s := by
  show wpAny _ _ (field (.ref z) 2 >>= _) _ _ _
  refine wpAny_bind (wpAny_field hz rfl (x := .bool false) rfl ?_)
  show wpAny _ _ (field (.ref z) 3 >>= _) _ _ _
  refine wpAny_bind (wpAny_field hz rfl (x := .ref TI) rfl (wpAny_bind (wpAny_seqItems hTI rfl ?_)))
  show wpAny _ _ (Builtin.SmallTypes.ownedTupleIsFree (.ref z) >>= _) _ _ _
  refine wpAny_bind ?_
  unfold Builtin.SmallTypes.ownedTupleIsFree
  refine wpAny_bind (wpAny_field hz rfl (x := .none) rfl (wpAny_pure ?_))
  simp only [if_true]
  refine wpAny_bind (wpAny_rule (wpAny_bind (wpAny_field hz rfl (x := .ref TO) rfl (wpAny_bind (wpAny_setField_rec hz (by simp) fun h₁ hz₁ hs₁ => ?_)))))
  replace hz₁ : IsZip h₁ z TI TO .ellipsis := hz₁
  refine wpAny_bind ?_
  simp only [List.zipIdx_cons, List.zipIdx_nil, List.forIn_cons, List.forIn_nil]
  refine wpAny_bind (wpAny_bind (wpAny_onRaise ?_))
  show wpAny _ _ (Builtin.SmallTypes.nextOf (.ref i1) >>= _) _ _ _
  refine wpAny_bind (nextOf_tupEnd hh (tupIter_but h1 hs₁.extBut D.i1z) (hl1.extBut hs₁.extBut D.l1z) hx fun h₂ e hs₂ he => ?_)
  obtain ⟨oe, hoe, hce⟩ := he
  have hz₂ : IsZip h₂ z TI TO .ellipsis := hs₂ _ _ D.i1z.symm hz₁
  have hez : e ≠ z := fun x => by subst x; rw [hz₂] at hoe; cases hoe; simp at hce
  exact wpAny_setField_rec hz₂ (by simp) fun h₃ _ hs₃ => hE h₃ e (fun c o c1 _ c3 _ x => hs₃.extBut _ _ c1 (hs₂ _ _ c3 (hs₁.extBut _ _ c1 x))) ⟨oe, hs₃.extBut _ _ hez hoe, hce⟩

theorem WalksT.zipTL (hh : A.handled = none) (z TI TO i1 i2 l1 l2 : Addr) (D : ZipApart z TI TO i1 i2 l1 l2) (xs ys : Array Value) (hle : xs.size ≤ ys.size) :
    WalksT PW w A z [z, TI, TO, i1, i2, l1, l2] [z, TO, i1, i2] xs.size
      (fun i vals => ∃ x y, xs[i]? = some x ∧ ys[i]? = some y ∧ vals = #[x, y])
      (fun i h => IsZip h z TI TO .none ∧ IsPair h TI (.ref i1) (.ref i2) ∧ (∃ a b, IsPair h TO a b) ∧ IsTupIter h i1 l1 i ∧ h.IsListIter i2 l2 i ∧ IsTup h l1 xs ∧ h.IsList l2 ys)
      (fun i T h => IsZip h z TI TO (rawInt T) ∧ IsPair h TI (.ref i1) (.ref i2) ∧ (∃ a b, IsPair h TO a b) ∧ IsTupIter h i1 l1 (i + 1) ∧ h.IsListIter i2 l2 (i + 1) ∧ IsTup h l1 xs ∧ h.IsList l2 ys ∧
        T ≠ z ∧ T ≠ TO ∧ T ≠ i1 ∧ T ≠ i2) where
  sub := fun c hc => by simp at hc ⊢; rcases hc with rfl | rfl | rfl | rfl <;> simp
  frame := fun i h h' hst hk => by
    obtain ⟨hz, hTI, ⟨a, b, hTO⟩, ⟨o1, h1, r1⟩, h2, ⟨o2, hl1, r2⟩, hl2⟩ := hst
    exact ⟨hk z (by simp) _ hz, hk TI (by simp) _ hTI, ⟨a, b, hk TO (by simp) _ hTO⟩, ⟨o1, hk i1 (by simp) o1 h1, r1⟩, h2.at fun o e => hk i2 (by simp) o e, ⟨o2, hk l1 (by simp) o2 hl1, r2⟩, hl2.at fun o e => hk l2 (by simp) o e⟩
  item := fun i s Q E hi hst hQ => by
    obtain ⟨hz, hTI, ⟨a, b, hTO⟩, h1, h2, hl1, hl2⟩ := hst
    have hiy : i < ys.size := Nat.lt_of_lt_of_le hi hle
    have hT : s.TypeIs (.ref z) "zip" := ⟨_, hz, rfl⟩
    have lt : ∀ {c o}, s.heap.get? c = some o → s.heap.objs.size ≠ c := fun e => Nat.ne_of_gt (Heap.lt_size e)
    unfold pyNext
    refine wpAny_bind (wpAny_attempt (wpAny_callSpecial?_slot (name := Str.ofString "__next__") hT F.slot_zip_next (wpAny_call_entry F.slot_zip_next hT F.entry_zip_next
      (zipTL_next D hz hTI hTO h1 h2 hl1 hl2 (Array.getElem?_eq_getElem hi) (Array.getElem?_eq_getElem hiy) fun h' a1 a2 a3 a4 a5 hk => wpAny_pure ?_) (F.args_zip_next_1 _))))
    obtain ⟨o2, e2, r2⟩ := id hl1
    exact hQ s.heap.objs.size #[xs[i], ys[i]] h' s.toks ⟨_, _, Array.getElem?_eq_getElem hi, Array.getElem?_eq_getElem hiy, rfl⟩ (Nat.le_refl _) ⟨_, a5, rfl, _, rfl⟩
      ⟨a1, hk _ _ D.TIz D.TITO D.TIi1 D.TIi2 hTI, ⟨_, _, a2⟩, a3, a4, ⟨o2, hk _ _ D.l1z D.l1TO D.l1i1 D.l1i2 e2, r2⟩, hl2.at fun o e => hk _ o D.l2z D.l2TO D.l2i1 D.l2i2 e,
        lt hz, lt hTO, (by obtain ⟨_, e, _⟩ := h1; exact lt e), (by obtain ⟨_, e, _⟩ := h2; exact lt e)⟩
      fun c o hc e => hk c o (fun x => hc (by simp [x])) (fun x => hc (by simp [x])) (fun x => hc (by simp [x])) (fun x => hc (by simp [x])) e
  go := fun elts k pos i T s Q E hm hQ => by
    obtain ⟨hz, hTI, ⟨a, b, hTO⟩, ⟨o1, h1, r1⟩, h2, ⟨o2, hl1, r2⟩, hl2, _⟩ := hm
    exact wpAny_letOwnedTupleGo_zip hz fun h' hz' hs' => hQ h' ⟨hz', hs'.extBut _ _ D.TIz hTI, ⟨a, b, hs'.extBut _ _ D.TOz hTO⟩, ⟨o1, hs'.extBut _ _ D.i1z h1, r1⟩, h2.extBut hs'.extBut D.i2z,
      ⟨o2, hs'.extBut _ _ D.l1z hl1, r2⟩, hl2.extBut hs'.extBut D.l2z⟩ fun c o hc e => hs'.extBut _ _ (fun x => hc (by simp [x])) e
  apart := fun i T h hm hT => by
    obtain ⟨_, _, _, _, _, _, _, t1, t2, t3, t4⟩ := hm
    simp at hT
    rcases hT with rfl | rfl | rfl | rfl
    · exact t1 rfl
    · exact t2 rfl
    · exact t3 rfl
    · exact t4 rfl
  done := fun s Q E hst hQ => by
    obtain ⟨hz, hTI, ⟨a, b, hTO⟩, h1, h2, hl1, hl2⟩ := hst
    have hT : s.TypeIs (.ref z) "zip" := ⟨_, hz, rfl⟩
    unfold pyNext
    refine wpAny_bind (wpAny_attempt (wpAny_callSpecial?_slot (name := Str.ofString "__next__") hT F.slot_zip_next (wpAny_call_entry F.slot_zip_next hT F.entry_zip_next
      (zipTL_end hh D hz hTI h1 hl1 (Array.getElem?_eq_none (Nat.le_refl _)) fun h' e hk he => ?_) (F.args_zip_next_1 _))))
    obtain ⟨o, ho, hc⟩ := he
    refine wpAny_bind (wpAny_isInstance (T := "StopIteration") (b := true) ⟨o, ho, hc⟩ isSubtype_stop ?_)
    exact wpAny_pure (hQ _ _ fun c o hc e => hk c o (fun x => hc (by simp [x])) (fun x => hc (by simp [x])) (fun x => hc (by simp [x])) (fun x => hc (by simp [x])) e)
  self := fun i s Q E hst hQ => wpAny_pyIter_zip hst.1 hQ
abbrev zT1 (h : Heap) (l1 : Addr) : Heap := h.push { cls := .type "tuple_iterator", data := .fields #[.ref l1, .int 0 0] }
abbrev zT2 (h : Heap) (l1 l2 : Addr) : Heap := (zT1 h l1).push { cls := .type "list_iterator", data := .fields #[.ref l2, .int 0 0] }
abbrev zT3 (h : Heap) (l1 l2 : Addr) : Heap := (zT2 h l1 l2).push { cls := .type "tuple", data := .seq #[.ref h.objs.size, .ref (zT1 h l1).objs.size] }
abbrev zT4 (h : Heap) (l1 l2 : Addr) : Heap := (zT3 h l1 l2).push { cls := .type "tuple", data := .seq #[.none, .none] }
abbrev zT5 (h : Heap) (l1 l2 : Addr) : Heap := (zT4 h l1 l2).push { cls := .type "zip", data := .fields #[.none, .bool false, .bool false, .ref (zT2 h l1 l2).objs.size, .ref (zT3 h l1 l2).objs.size] }
theorem meets_zipTL (l1 l2 : Addr) (xs ys : Array Value) :
    Meets (Builtin.«zip.__new__» ⟨[.type "zip", .ref l1, .ref l2], []⟩) (fun _ R s => IsTup s.heap l1 xs ∧ s.heap.IsList l2 ys ∧ R (.ok (.ret (.ref (zT4 s.heap l1 l2).objs.size))) { s with heap := zT5 s.heap l1 l2 }) :=
  .of_wp fun prog w A R s h => by
    obtain ⟨hp, g, d, tk, os⟩ := s; obtain ⟨hl1, hl2, h⟩ := h
    have hsub := sub_zip
    have hL1 : IsTup (Shared.heap ⟨hp, g, d, tk, os⟩) l1 xs := hl1
    have hL2 : Heap.IsList (Shared.heap ⟨hp.push { cls := .type "tuple_iterator", data := .fields #[.ref l1, .int 0 0] }, g, d, tk, os⟩) l2 ys := Heap.IsList.push hl2 _
    wp_walk using iter_tuple hL1, wpAny_pyIter_list hL2
    exact ⟨_, rfl, h⟩
end
end
section
/-! ## comprehensions over pairs -/
section
variable {w : World} {b s s' s₀ : Shared} {env : Env} {V : List (Str × Value)} {nw led : List (Addr × Obj)} {A : Around} {E : Value → Shared → Prop}
theorem call_zipTL {l1 l2 : Addr} {xs ys : Array Value} {Q : Value → Shared → Prop} (hl1 : IsTup s.heap l1 xs) (hl2 : s.heap.IsList l2 ys)
    (h : ∀ s' z TI TO i1 i2, Kp s s' → ZipApart z TI TO i1 i2 l1 l2 → (IsZip s'.heap z TI TO .none ∧ IsPair s'.heap TI (.ref i1) (.ref i2) ∧ (∃ a b, IsPair s'.heap TO a b) ∧ IsTupIter s'.heap i1 l1 0 ∧ s'.heap.IsListIter i2 l2 0 ∧ IsTup s'.heap l1 xs ∧ s'.heap.IsList l2 ys) →
      (∀ c ∈ [z, TO, i1, i2], s.heap.get? c = none) → (∀ c ∈ [z, TI, TO, i1, i2, l1, l2], c < s'.heap.objs.size) → Q (.ref z) s') :
    wpAny (MM w) A (call (.type "zip") [.ref l1, .ref l2]) Q E s := by
  refine callType_new F.called_zip (by decide) (F.typeCall_zip_2 _ _) (F.newCall_zip_2 _ _) (fun obj => F.args_object_init_3 obj _ _) F.entry_zip_new (meets_zipTL l1 l2 xs ys) ⟨hl1, hl2, ?_⟩
  have z1 : (zT1 s.heap l1).objs.size = s.heap.objs.size + 1 := Heap.size_push ..
  have z2 : (zT2 s.heap l1 l2).objs.size = s.heap.objs.size + 2 := by rw [Heap.size_push, z1]
  have z3 : (zT3 s.heap l1 l2).objs.size = s.heap.objs.size + 3 := by rw [Heap.size_push, z2]
  have z4 : (zT4 s.heap l1 l2).objs.size = s.heap.objs.size + 4 := by rw [Heap.size_push, z3]
  have z5 : (zT5 s.heap l1 l2).objs.size = s.heap.objs.size + 5 := by rw [Heap.size_push, z4]
  have k5 : ∀ b o, s.heap.get? b = some o → (zT5 s.heap l1 l2).get? b = some o := fun c o x => Heap.get?_push_of_some _ (Heap.get?_push_of_some _ (Heap.get?_push_of_some _ (Heap.get?_push_of_some _ (Heap.get?_push_of_some _ x))))
  have g5 : (zT5 s.heap l1 l2).get? (zT4 s.heap l1 l2).objs.size = some _ := Heap.get?_push_size _ rfl
  have g4 : (zT5 s.heap l1 l2).get? (zT3 s.heap l1 l2).objs.size = some _ := Heap.get?_push_of_some _ (Heap.get?_push_size _ rfl)
  have g3 : (zT5 s.heap l1 l2).get? (zT2 s.heap l1 l2).objs.size = some _ := Heap.get?_push_of_some _ (Heap.get?_push_of_some _ (Heap.get?_push_size _ rfl))
  have g2 : (zT5 s.heap l1 l2).get? (zT1 s.heap l1).objs.size = some _ := Heap.get?_push_of_some _ (Heap.get?_push_of_some _ (Heap.get?_push_of_some _ (Heap.get?_push_size _ rfl)))
  have g1 : (zT5 s.heap l1 l2).get? s.heap.objs.size = some _ := Heap.get?_push_of_some _ (Heap.get?_push_of_some _ (Heap.get?_push_of_some _ (Heap.get?_push_of_some _ (Heap.get?_push_size _ rfl))))
  rw [z2, z3, z4] at g5
  rw [z1, z2] at g3
  rw [z3] at g4
  rw [z1] at g2
  obtain ⟨o1, e1, r1⟩ := id hl1
  obtain ⟨o2, e2, r2⟩ := id hl2
  have lt1 : l1 < s.heap.objs.size := Heap.lt_size e1
  have lt2 : l2 < s.heap.objs.size := Heap.lt_size e2
  show _ ∧ _
  rw [z4]
  have n : ∀ (a b : Nat), a < b → ∀ k, a ≠ b + k := fun a b h k => by omega
  refine ⟨⟨_, g5, rfl⟩, h { s with heap := zT5 s.heap l1 l2 } _ _ _ _ _ (Kp.to k5) ⟨?_, ?_, ?_, ?_, ?_, ?_, ?_, ?_, ?_, ?_, n _ _ lt1 4, n _ _ lt1 3, n _ _ lt1 0, n _ _ lt1 1, n _ _ lt2 4, n _ _ lt2 3, n _ _ lt2 0, n _ _ lt2 1⟩
    ⟨g5, g3, ⟨_, _, g4⟩, ⟨_, g1, rfl, rfl⟩, ⟨_, g2, rfl, rfl⟩, ⟨o1, k5 _ _ e1, r1⟩, ⟨o2, k5 _ _ e2, r2⟩⟩ ?_ ?_⟩
  iterate 10 (generalize s.heap.objs.size = N; intro e; have e : (_ : Nat) = _ := e; omega)
  · intro c hc
    simp only [List.mem_cons, List.not_mem_nil, or_false] at hc
    rcases hc with rfl | rfl | rfl | rfl
    · exact none_ge (Nat.le_add_right _ 4)
    · exact none_ge (Nat.le_add_right _ 3)
    · exact none_ge (Nat.le_refl _)
    · exact none_ge (Nat.le_add_right _ 1)
  · intro c hc
    show c < (zT5 s.heap l1 l2).objs.size
    rw [z5]
    simp only [List.mem_cons, List.not_mem_nil, or_false] at hc
    have up : ∀ (a b k : Nat), a < b → a < b + k := fun a b k h => by omega
    have up' : ∀ (b k : Nat), k < 5 → b + k < b + 5 := fun b k h => by omega
    rcases hc with rfl | rfl | rfl | rfl | rfl | rfl | rfl
    · exact up' _ 4 (by decide)
    · exact up' _ 2 (by decide)
    · exact up' _ 3 (by decide)
    · exact up' _ 0 (by decide)
    · exact up' _ 1 (by decide)
    · exact up _ _ 5 lt1
    · exact up _ _ 5 lt2

theorem compLoopPair {elt target iter : Expr} {ifs : List Expr} {scope : Scope} {pos : Pos} {it acc : Value} {cenv : Env} {R : Result → Shared → Prop} (I : Nat → Shared → Prop)
    (turn : ∀ n s, I n s → wpAny (MM w) A (pyNext it) (fun r s₁ => match r with
      | none => R (.ok .next) s₁
      | some v => wpAny (MM w) A (letOwnedTupleGo target it v) (fun _ s₁' => wpAny (MM w) A (assign target cenv v) (fun _ s₂ =>
          wpAny (MM w) A (forIn ifs true fun c r => if r = true then do let ok ← isTrue c cenv (eval c cenv); pure (ForInStep.yield ok) else pure (ForInStep.yield r)) (fun ok s₃ =>
            if ok = true then wpAny (MM w) A (eval elt cenv) (fun x s₄ =>
              wpAny (MM w) A (call (.builtin "list.append") [acc, x]) (fun _ s₅ => ∃ m, m < n ∧ I m s₅) (notedBy (MM w) A cenv fun e s' => R (.error e) s') s₄) (notedBy (MM w) A cenv fun e s' => R (.error e) s') s₃
            else ∃ m, m < n ∧ I m s₃) (notedBy (MM w) A cenv fun e s' => R (.error e) s') s₂) (notedBy (MM w) A cenv fun e s' => R (.error e) s') s₁') (notedBy (MM w) A cenv fun e s' => R (.error e) s') s₁) (notedBy (MM w) A cenv fun e s' => R (.error e) s') s)
    (n : Nat) (h : I n s) : codeAny (MM w) A (.compLoop (.ListComp elt [⟨target, iter, ifs, 0⟩] scope pos) 0 it acc cenv) R s := by
  refine codeAny_loop rfl I (fun n s hI => ?_) n h
  show wpAny _ A ((compTurn (.ListComp elt [⟨target, iter, ifs, 0⟩] scope pos) 0 it acc cenv).onRaise (fun x => do noteFrame x cenv; theTreesLotGoes x)) _ _ s
  refine wpAny_noted ?_
  rw [compTurn_list]
  refine wpAny_bind (wpAny_standAt (wpAny_bind (wpAny_mono (turn n s hI) (fun r s₁ h₁ => ?_) fun _ _ h' => h')))
  cases r with
  | none => exact wpAny_pure h₁
  | some v =>
    refine wpAny_bind (wpAny_mono h₁ (fun _ s₁' h₁' => ?_) fun _ _ h' => h')
    refine wpAny_bind (wpAny_mono h₁' (fun _ s₂ h₂ => wpAny_bind (wpAny_mono h₂ (fun ok s₃ h₃ => ?_) fun _ _ h' => h')) fun _ _ h' => h')
    cases ok with
    | false => exact wpAny_pure ⟨rfl, h₃⟩
    | true => exact wpAny_bind (wpAny_bind (wpAny_mono h₃ (fun x s₄ h₄ => wpAny_bind (wpAny_mono h₄ (fun _ s₅ h₅ => wpAny_pure (wpAny_pure ⟨rfl, h₅⟩)) fun _ _ h' => h')) fun _ _ h' => h'))

structure CompGo2 (w : World) (A : Around) (env : Env) (V : List (Str × Value)) (scope : Scope) (cl : List (Str × Addr)) (x y : Str) (ifs : List Expr) (elt : Expr) (s : Shared) (it : Value) (s₂ : Shared)
    (I : Addr) (fp wr : List Addr) (n : Nat) (Pt : Nat → Array Value → Prop) (Wst : Nat → Heap → Prop) (Mid : Nat → Addr → Heap → Prop) (V' : List (Str × Value)) (Acc : Nat → List Value → List (Addr × Obj) → Prop) : Prop where
  eq : it = .ref I
  walks : WalksT PW w A I fp wr n Pt Wst Mid
  hh : A.handled = none
  kp : Kp s s₂
  st : Wst 0 s₂.heap
  fp0 : ∀ c ∈ fp, c < s₂.heap.objs.size
  wr0 : ∀ c ∈ wr, s.heap.get? c = none
  live : ∀ i h, Wst i h → ∀ c ∈ wr, ∃ o, h.get? c = some o
  few : n ≤ sizeLine
  vs : ∀ C, AllV (fun p => V.lookup p.1 = some p.2 ∧ (cenvOf scope cl C env).kindOf p.1 = some .cell ∧ (∃ c, cl.lookup p.1 = some c) ∧ (cellsFrom (C + 1) scope.names []).lookup p.1 = none) V'
  hx : ∀ C, (cenvOf scope cl C env).kindOf x = some .local
  hy : ∀ C, (cenvOf scope cl C env).kindOf y = some .local
  nx : V'.lookup x = none
  ny : V'.lookup y = none
  two : ∀ i vals, Pt i vals → ∃ a c, vals = #[a, c]
  acc : Acc 0 [] []
  turn : ∀ C i a c ys els s₃ E', i < n → Pt i #[a, c] → Acc i ys els → Kp s s₃ → (∀ p ∈ els, s₃.heap.get? p.1 = some p.2) → Rd w s₃ (cenvOf scope cl C env) ((y, c) :: (x, a) :: V') [] s₃ →
    wpAny (MM w) A (forIn ifs true fun c r => if r = true then do let ok ← isTrue c (cenvOf scope cl C env) (eval c (cenvOf scope cl C env)); pure (ForInStep.yield ok) else pure (ForInStep.yield r)) (fun ok s₄ =>
      if ok = true then wpAny (MM w) A (eval elt (cenvOf scope cl C env)) (fun z s₅ => ∃ nw', Rd w s₃ (cenvOf scope cl C env) ((y, c) :: (x, a) :: V') nw' s₅ ∧ Acc (i + 1) (ys ++ [z]) (nw' ++ els)) E' s₄
      else Rd w s₃ (cenvOf scope cl C env) ((y, c) :: (x, a) :: V') [] s₄ ∧ Acc (i + 1) ys els) E' s₃
theorem comp_core2 {elt iter : Expr} {x y : Str} {px py pt : Pos} {kt : Nat} {ifs : List Expr} {scope : Scope} {cl : List (Str × Addr)} {pos : Pos} {RR : Value → Addr → Result → Shared → Prop} {s₂ : Shared} {it : Value} {I : Addr} {fp wr : List Addr} {n : Nat} {Pt : Nat → Array Value → Prop}
    {Wst : Nat → Heap → Prop} {Mid : Nat → Addr → Heap → Prop} {V' : List (Str × Value)} {Acc : Nat → List Value → List (Addr × Obj) → Prop} (R : Rd w b env V nw s) (hkind : scope.kind = .function) (hcl : ClOk V env cl)
    (G : CompGo2 w A env V scope cl x y ifs elt s it s₂ I fp wr n Pt Wst Mid V' Acc)
    (done : ∀ D k ys els C m s', Acc n ys els → Rd w b env V ((D, listO ys k) :: els ++ nw) s' → s'.heap.Ns C m → s.heap.get? C = none → (∀ p ∈ (D, listO ys k) :: els ++ nw, p.1 ≠ C) → RR (.ref D) C (.ok .next) s') :
    wpAny (MM w) A (newList []) (fun acc s₃ => wpAny (MM w) A (newFunctionEnv scope env.globals cl [] env.qual none .none (some env)) (fun cenv s₄ =>
      codeAny (MM w) A (.compStart (.ListComp elt [⟨.Tuple [.Name x px, .Name y py] kt pt, iter, ifs, 0⟩] scope pos) 0 it acc { cenv with scope := relabel scope env }) (RR acc cenv.locals) s₄) E s₃) E s₂ := by
  have W := G.walks
  have hit := G.eq
  subst hit
  refine wpAny_newObj_type ?_
  generalize hs3 : ({ s₂ with heap := s₂.heap.push { cls := .type "list", data := .seq ([] : List Value).toArray } } : Shared) = s₃
  have hD3 : s₃.heap.get? s₂.heap.objs.size = some (listO [] 0) := by rw [← hs3]; exact Heap.get?_push_size _ rfl
  have k23 : Kp s₂ s₃ := by rw [← hs3]; exact Kp.push _ _
  have sz3 : s₃.heap.objs.size = s₂.heap.objs.size + 1 := by rw [← hs3]; exact Heap.size_push ..
  generalize hD : s₂.heap.objs.size = D at hD3 sz3
  have hDs : s.heap.get? D = none := G.kp.none (by rw [← hD]; exact none_at _)
  refine comp_env (C := s₃.heap.objs.size) (V' := V') (led := [(D, listO [] 0)]) R hkind (G.kp.trans k23) hcl rfl (G.vs _) (fun p hp => ?_) (by simp) fun s₄ S₄ k34 cells₄ => ?_
  · rw [List.mem_singleton] at hp; subst hp; exact ⟨hD3, hDs⟩
  generalize hC : s₃.heap.objs.size = C at S₄ cells₄
  have fpC : ∀ c ∈ fp, c ≠ C ∧ c ≠ D ∧ c < C := fun c hc => lt_three (hD ▸ G.fp0 c hc) (hC ▸ sz3)
  have hst4 : Wst 0 s₄.heap := W.frame _ _ _ G.st fun c _ o e => k34.get (k23.get e)
  have loop : codeAny (MM w) A (.compLoop (.ListComp elt [⟨.Tuple [.Name x px, .Name y py] kt pt, iter, ifs, 0⟩] scope pos) 0 (.ref I) (.ref D) (cenvOf scope cl C env)) (RR (.ref D) C) s₄ := by
    refine compLoopPair (fun k s' => ∃ i ys els e, i + k = n ∧ ys.length ≤ i ∧ Acc i ys els ∧ (∀ p ∈ els, p.1 ∉ wr) ∧ Wst i s'.heap ∧ St w s (cenvOf scope cl C env) V' ((D, listO ys e) :: els) s') ?_ n
      ⟨0, [], [], 0, by omega, by simp, G.acc, (fun _ hp => nomatch hp), hst4, S₄⟩
    have hCw : C ∉ wr := fun q => (fpC C (W.sub C q)).1 rfl
    have hDw : D ∉ wr := fun q => (fpC D (W.sub D q)).2.1 rfl
    have hCf : C ∉ fp := fun q => (fpC C q).1 rfl
    have hcw : ∀ n c, (cenvOf scope cl C env).cells.lookup n = some c → c ∉ wr := fun n c e q => by
      rcases cells₄ n c e with lt | ⟨o, ho⟩
      · exact Nat.lt_asymm lt (fpC c (W.sub c q)).2.2
      · rw [G.wr0 c q] at ho; cases ho
    rintro k s₅ ⟨i, ys, els, e, hik, hlen, hacc, hels, hst, S₅⟩
    have hled : ∀ p ∈ (D, listO ys e) :: els, p.1 ∉ wr := fun p hp => by
      rcases List.mem_cons.mp hp with rfl | hp
      · exact hDw
      · exact hels p hp
    by_cases hi : i < n
    · refine W.item i s₅ _ _ hi hst fun T vals h' tk hP hTs hT hmid hk' => ?_
      have S₆ := S₅.stepOff (tk := tk) G.wr0 hCw hcw hled hk'
      have hTw := W.apart _ _ _ hmid
      dsimp only
      refine W.go _ _ _ i T _ _ _ hmid fun h'' hst'' hk'' => ?_
      have S₇ := S₆.stepOff (h' := h'') (tk := tk) G.wr0 hCw hcw hled hk''
      obtain ⟨a, c, rfl⟩ := G.two i vals hP
      have hT₇ : IsTup h'' T #[a, c] := by obtain ⟨o, ho, r⟩ := hT; exact ⟨o, hk'' _ _ hTw ho, r⟩
      refine assign_Tuple_tuple G.hh hT₇ rfl rfl fun h₃ he => ?_
      have kk : Kp ({ s₅ with heap := h'', toks := tk } : Shared) ({ s₅ with heap := h₃, toks := tk } : Shared) := Kp.to fun b o e => he b o (Nat.ne_of_lt (Heap.lt_size e)) e
      have S₈ := S₇.keeps kk
      have hst8 : Wst (i + 1) h₃ := W.frame _ _ _ hst'' fun c _ o e => kk.get e
      refine assignInOrder_cons (PyProof.Rows.assign_Name (S₈.store' (.inl (G.hx C)) fun s₉ a₁ S₉ kb₁ ha₁ => ?_))
      refine assignInOrder_cons (PyProof.Rows.assign_Name (S₉.store' (.inl (G.hy C)) fun s₁₀ a₂ S₁₀ kb₂ ha₂ => ?_))
      refine assignInOrder_nil ?_
      have e₁ : a₁ = C := by
        rcases ha₁ with ⟨_, q⟩ | ⟨q, _⟩
        · exact q
        · rw [G.hx C] at q; cases q
      have e₂ : a₂ = C := by
        rcases ha₂ with ⟨_, q⟩ | ⟨q, _⟩
        · exact q
        · rw [G.hy C] at q; cases q
      subst e₁
      subst e₂
      have hst10 : Wst (i + 1) s₁₀.heap := W.frame _ _ _ hst8 fun c hc o e => kb₂.get (fun q => hCf (q ▸ hc)) (kb₁.get (fun q => hCf (q ▸ hc)) e)
      refine wpAny_mono (G.turn _ i a c ys els s₁₀ _ hi hP hacc S₁₀.keep (fun p hp => S₁₀.at (.tail _ hp)) S₁₀.rd) (fun ok s₁₁ h₁₁ => ?_) fun _ _ e => e
      generalize a₂ = C at *
      have back : ∀ {nw' s₉}, Rd w s₁₀ (cenvOf scope cl C env) ((y, c) :: (x, a) :: V') nw' s₉ → St w s (cenvOf scope cl C env) V' ((D, listO ys e) :: (nw' ++ els)) s₉ ∧ Wst (i + 1) s₉.heap ∧ ∀ p ∈ nw' ++ els, p.1 ∉ wr := by
        intro nw' s₉ R₉
        have S₉ := S₁₀.back R₉
        refine ⟨(S₉.weak (V' := V') (fun z u e => ?_) (List.Sublist.refl _)).perm List.perm_middle, W.frame _ _ _ hst10 fun c _ o e => R₉.kp.get e, fun p hp q => ?_⟩
        · rw [List.lookup_cons]
          cases hb : z == y with
          | true => rw [beq_iff_eq.mp hb, G.ny] at e; cases e
          | false =>
            show List.lookup z ((x, a) :: V') = some u
            rw [List.lookup_cons]
            cases hb' : z == x with
            | true => rw [beq_iff_eq.mp hb', G.nx] at e; cases e
            | false => exact e
        · rcases List.mem_append.mp hp with hp | hp
          · obtain ⟨o, ho⟩ := G.live _ _ hst10 _ q
            rw [(R₉.has p hp).2] at ho; cases ho
          · exact hels p hp q
      cases ok with
      | false =>
        obtain ⟨R₈, hacc'⟩ := h₁₁
        obtain ⟨S₈, hst8, hw8⟩ := back R₈
        exact ⟨k - 1, by omega, i + 1, ys, els, e, by omega, by omega, hacc', hw8, hst8, S₈⟩
      | true =>
        refine wpAny_mono h₁₁ (fun z s₉ h₉ => ?_) fun _ _ e => e
        obtain ⟨nw', R₉, hacc'⟩ := h₉
        obtain ⟨S₉, hst9, hw9⟩ := back R₉
        refine wpAny_list_append_plain (items := ys.toArray) ⟨e, S₉.at (.head _)⟩ (fun h₁ hl₁ hs₁ => ?_) ?_
        · obtain ⟨e', ho⟩ := hl₁
          have kb' : KeepsBut D s₉ { s₉ with heap := h₁ } := ⟨h₁, s₉.toks, rfl, fun b o hb e => hs₁.extBut b o hb e⟩
          refine ⟨k - 1, by omega, i + 1, ys ++ [z], nw' ++ els, e', by omega, by simp; omega, hacc', hw9, W.frame _ _ _ hst9 fun c hc o e => kb'.get (fpC c hc).2.1 e, S₉.mut1 kb' (by simpa using ho)⟩
        · show ys.toArray.size ≤ sizeLine
          have := G.few
          rw [List.size_toArray]; omega
    · have hin : i = n := by omega
      subst hin
      refine W.done _ _ _ hst fun h' tk hk' => ?_
      have S₆ := S₅.stepOff (tk := tk) G.wr0 hCw hcw hled hk'
      obtain ⟨m, cm, ns, cs, hv⟩ := S₆.vars
      have R' := R.keeps S₆.keep
      refine done D e ys els C m _ hacc { R' with has := fun p hp => ?_, nd := ?_ } ns S₆.new fun p hp => ?_
      · rcases List.mem_append.mp (List.cons_append .. ▸ hp : p ∈ ((D, listO ys e) :: els) ++ nw) with hp | hp
        · have a := S₆.has p hp
          exact ⟨a.1, R.kp.none a.2.1⟩
        · exact R'.has p hp
      · have e1 : ((D, listO ys e) :: els ++ nw).map (·.1) = ((D, listO ys e) :: els).map (·.1) ++ nw.map (·.1) := by simp
        rw [e1]
        refine List.nodup_append.mpr ⟨S₆.nd, R.nd, fun x hx y hy q => ?_⟩
        obtain ⟨p, hp, rfl⟩ := List.mem_map.mp hx
        obtain ⟨p', hp', rfl⟩ := List.mem_map.mp hy
        exact fresh_ne (S₆.has p hp).2.1 (R.has p' hp').1 q.symm
      · rcases List.mem_append.mp (List.cons_append .. ▸ hp : p ∈ ((D, listO ys e) :: els) ++ nw) with hp | hp
        · exact (S₆.has p hp).2.2.1
        · exact fun q => fresh_ne S₆.new (R.has p hp).1 q
  exact codeAny_compStart_list loop (W.self 0 _ _ _ hst4 loop)

theorem comp2 {elt iter : Expr} {x x₂ : Str} {px px₂ pt : Pos} {kt : Nat} {ifs : List Expr} {scope : Scope} {cl : List (Str × Addr)} {pos : Pos} {Q : Value → Shared → Prop} (R : Rd w b env V nw s)
    (hclos : closureFor scope env = pure cl) (hkind : scope.kind = .function) (hnames : ∀ y ∈ scope.names, y.2 = .local → scope.names.lookup y.1 = some .local) (hcl : ClOk V env cl)
    (hfold : ∀ x, foldedSetIterable iter env x = pure x)
    (h : wpAny (MM w) A (eval iter env) (fun xv s₁ => wpAny (MM w) A (pyIter xv) (fun it s₂ => ∃ I fp wr n P Wst Mid V' Acc, CompGo2 w A env V scope cl x x₂ ifs elt s it s₂ I fp wr n P Wst Mid V' Acc ∧
      ∀ D k ys els s', Acc n ys els → Rd w b env V ((D, listO ys k) :: els ++ nw) s' → Q (.ref D) s') E s₁) E s) :
    wpAny (MM w) A (eval (.ListComp elt [⟨.Tuple [.Name x px, .Name x₂ px₂] kt pt, iter, ifs, 0⟩] scope pos) env) Q E s := by
  rw [eval_ListComp]
  refine wpAny_comprehension_free (use := none) rfl hfold hclos hkind hnames (wpAny_mono h (fun xv s₁ h₁ => wpAny_mono h₁ (fun it s₂ h₂ => ?_) fun _ _ e => e) fun _ _ e => e)
  obtain ⟨I, fp, wr, n, P, Wst, Mid, V', Acc, G, done⟩ := h₂
  refine comp_core2 (RR := fun acc C => compPost (MM w) A E none Q acc C) R hkind hcl G fun D k ys els C m s' hacc R' hns hC hn => ?_
  exact ⟨m, hns, fun h' hs' => done D k ys els _ hacc (R'.offC hs' (R.kp.none hC) hn)⟩

/-- y = [..]: the name is stored ahead of the comprehension's own names going -/
theorem compAssign2 {elt iter : Expr} {x x₂ y : Str} {px px₂ py pt : Pos} {kt : Nat} {ifs : List Expr} {scope : Scope} {cl : List (Str × Addr)} {pos spos : Pos} {Q : Flow → Shared → Prop} (S : St w s₀ env V led s)
    (hsw : swapsWith (.ListComp elt [⟨.Tuple [.Name x px, .Name x₂ px₂] kt pt, iter, ifs, 0⟩] scope pos) (some (.Name y py)) spos.line env = pure true) (hy : env.kindOf y = some .local)
    (hclos : closureFor scope env = pure cl) (hkind : scope.kind = .function) (hnames : ∀ y ∈ scope.names, y.2 = .local → scope.names.lookup y.1 = some .local) (hcl : ClOk V env cl)
    (hfold : ∀ x, foldedSetIterable iter env x = pure x)
    (h : wpAny (MM w) A (eval iter env) (fun xv s₁ => wpAny (MM w) A (pyIter xv) (fun it s₂ => ∃ I fp wr n P Wst Mid V' Acc, CompGo2 w A env V scope cl x x₂ ifs elt s it s₂ I fp wr n P Wst Mid V' Acc ∧
      ∀ D k ys els s', Acc n ys els → St w s₀ env ((y, .ref D) :: V) ((D, listO ys k) :: els ++ led) s' → Q .next s') E s₁) E s) :
    wpAny (MM w) A (exec (.Assign [.Name y py] (.ListComp elt [⟨.Tuple [.Name x px, .Name x₂ px₂] kt pt, iter, ifs, 0⟩] scope pos) spos) env) Q E s := by
  rw [exec_Assign_Name_used _ _ _ _ hsw]
  refine wpAny_bind (wpAny_standAt (wpAny_bind ?_))
  show wpAny _ A (do let _ ← comprehension (.ListComp elt [⟨.Tuple [.Name x px, .Name x₂ px₂] kt pt, iter, ifs, 0⟩] scope pos) scope env _ (newList []) false (eval iter env) (some (assign (.Name y py) env))) _ _ s
  refine wpAny_bind (wpAny_mono (wpAny_comprehension_free (use := some (assign (.Name y py) env)) (Q := fun _ s' => Q .next s') rfl hfold hclos hkind hnames
    (wpAny_mono h (fun xv s₁ h₁ => wpAny_mono h₁ (fun it s₂ h₂ => ?_) fun _ _ e => e) fun _ _ e => e)) (fun _ s' hq => wpAny_pure (wpAny_pure hq)) fun _ _ e => e)
  obtain ⟨I, fp, wr, n, P, Wst, Mid, V', Acc, G, done⟩ := h₂
  refine comp_core2 (RR := fun acc C => compPost (MM w) A E (some (assign (.Name y py) env)) (fun _ s' => Q .next s') acc C) S.rd hkind hcl G fun D k ys els C m s' hacc R' hns hC hn => ?_
  have S' := S.back R'
  show wpAny _ A (assign (.Name y py) env (.ref D)) _ _ _
  refine wpAny_assign_Name (S'.store' (.inl hy) fun s'' a S'' kb ha => ?_)
  obtain ⟨mE, cmE, nE, cE, _⟩ := S.vars
  have hLC : env.locals ≠ C := fun q => by obtain ⟨o, _, _, ho, _⟩ := nE; rw [q, hC] at ho; cases ho
  have haC : C ≠ a := by
    rcases ha with ⟨_, q⟩ | ⟨q, _⟩
    · rw [q]; exact Ne.symm hLC
    · rw [hy] at q; cases q
  refine ⟨m, hns.at' fun o e => kb.get haC e, fun h'' hs'' => done D k ys els _ hacc ?_⟩
  have e0 : ((D, listO ys k) :: els ++ []) ++ led = (D, listO ys k) :: els ++ led := by simp
  rw [e0] at S''
  refine S''.stepOff (wr := [C]) (tk := s''.toks) (fun c hc => ?_) (fun q => hLC (List.mem_singleton.mp q)) (fun n c hc q => ?_) (fun p hp q => ?_) fun a o ha e => hs''.extBut a o (fun q => ha (List.mem_singleton.mpr q)) e
  · rw [List.mem_singleton.mp hc]; exact S.keep.none hC
  · obtain ⟨o, ho, _⟩ := cE n c hc
    rw [List.mem_singleton.mp q, hC] at ho; cases ho
  · rcases List.mem_append.mp (List.cons_append .. ▸ hp : p ∈ ((D, listO ys k) :: els) ++ led) with hp | hp
    · exact hn p (by simpa using hp) (List.mem_singleton.mp q)
    · have := (S.has p hp).1
      rw [List.mem_singleton.mp q, hC] at this; cases this
end
end
section
--LINES
local macro_rules | `(tactic| walk_at "eval Name") => `(tactic| first
  | refine Rd.Nm (Rd.any (by assumption) (by rfl)) (by rfl) ?_
  | refine Rd.Gb (Rd.any (by assumption) (by rfl)) (by rfl) (by rfl) ?_
  | refine Rd.Bl (Rd.any (by assumption) (by rfl)) (by decide) (by first | exact boot_len | exact boot_range | exact boot_sum | exact boot_sorted | exact boot_enumerate | exact boot_zip | exact PyProof.Rows.boot_set | exact PyProof.Rows.boot_type | exact PyProof.Rows.boot_list | exact PyProof.Rows.boot_str) (by rfl) ?_)
local macro_rules | `(tactic| walk_at "side") => `(tactic| (refine ⟨rfl, rfl, by decide, ?_, ?_, fun C => .inl rfl, rfl⟩; ((repeat (refine And.intro ⟨⟨_, rfl⟩, rfl, rfl⟩ ?_)); exact trivial); (intro C; (repeat (refine And.intro ⟨rfl, rfl, ⟨_, rfl⟩, rfl⟩ ?_)); exact trivial)))
local macro_rules | `(tactic| walk_at "newTuple") => `(tactic| (refine newTuple_R (Rd.any (by assumption) (by rfl)) ?_ (by simp [sizeLine]); intro a s' R))
local macro_rules | `(tactic| walk_at "newList") => `(tactic| (refine newList_R (Rd.any (by assumption) (by rfl)) ?_ (by simp [sizeLine]); intro a s' R))
local macro_rules | `(tactic| walk_at "w") => `(tactic| (walk1; try dsimp only))
local macro_rules | `(tactic| walk_at "ww") => `(tactic| repeat ((with_reducible show wpAny _ _ _ _ _ _); walk_at "w"))
local macro_rules | `(tactic| walk_at "callWith ref") => `(tactic| refine callWith_K (Rd.gl' (by assumption)).k (by rfl) ?_)
--ENDLINES
/-! ## _law_fit -/
theorem foldl_app (vs : List Value) : ∀ (m : Nat) (acc : Array Value), (List.replicate m vs.toArray).foldl (fun x y => x ++ y) acc = acc ++ ((List.replicate m vs).flatten).toArray
  | 0, acc => by simp
  | m + 1, acc => by
    rw [List.replicate_succ, List.foldl_cons, foldl_app vs m, List.replicate_succ, List.flatten_cons]
    simp
section
variable {w : World} {b s s' s₀ : Shared} {env : Env} {V : List (Str × Value)} {nw led : List (Addr × Obj)} {A : Around} {E : Value → Shared → Prop}
theorem mul_I {l : Addr} {items : Array Value} {k : Nat} {x : Int} {u : Tok} {Q : Value → Shared → Prop} (hl : s.heap.get? l = some { cls := .type "list", dict := none, data := .seq items k, slots := #[] })
    (hlo : -(2 ^ 63 : Int) ≤ x) (hhi : x < 2 ^ 63) (hsz : items.size * x.toNat ≤ 2 ^ 24)
    (h : Q (.ref s.heap.objs.size) { s with heap := s.heap.push { cls := .type "list", data := .seq (List.foldl (fun x1 x2 => x1 ++ x2) #[] (List.replicate (if items.isEmpty = true then 0 else x.toNat) items)) } }) :
    wpAny (MM w) A (binaryOp .Mult (.ref l) (.int x u)) Q E s :=
  wpAny_binaryOp_repeat_ref (T := "list") (U := "int") (by decide) ⟨_, hl, rfl⟩ (fun s' => typeIs_int s' x u) noFill_list_mul F.fills_int_mul F.slot_int_rmul repeat_list F.slot_int_index.lookup
    (call_meets F.slot_int_rmul (typeIs_int s x u) F.entry_int_rmul (F.args_int_rmul_2 _ _) (int___rmul___int_list x u l items k)
      ⟨hl, rfl, ⟨_, hl, rfl⟩, call_meets F.slot_list_mul ⟨_, hl, rfl⟩ F.entry_list_mul (F.args_list_mul_2 _ _)
        (AutoListH.list___mul___list_int_3 l items k x u (by simp [Builtin.List.listFitsIndex]; omega) (by omega) (by simp [Builtin.List.listTooLong, sizeLine]; omega))
        ⟨hl, h⟩⟩)
theorem mul_L {l : Addr} {vs : List Value} {k x : Nat} {u : Tok} {Q : Value → Shared → Prop} (R : Rd w b env V nw s) (hl : s.heap.get? l = some (listO vs k)) (hx : x ≤ 1000) (hz : vs.length ≤ 1000)
    (h : ∀ a s', Rd w b env V ((a, listO (List.replicate x vs).flatten 0) :: nw) s' → Q (.ref a) s') : wpAny (MM w) A (binaryOp .Mult (.ref l) (.int (x : Nat) u)) Q E s := by
  have hb : vs.length * x ≤ 1000000 := Nat.mul_le_mul hz hx
  refine mul_I hl (by omega) (by omega) (by rw [List.size_toArray, Int.toNat_natCast]; exact Nat.le_trans hb (by decide)) ?_
  have e : (List.replicate (if vs.toArray.isEmpty = true then 0 else ((x : Nat) : Int).toNat) vs.toArray).foldl (fun x1 x2 => x1 ++ x2) #[] = ((List.replicate x vs).flatten).toArray := by
    cases vs with
    | nil => simp
    | cons v r => rw [if_neg (by simp), foldl_app, Int.toNat_natCast]; simp
  have := h _ _ (R.push (listO (List.replicate x vs).flatten 0))
  rw [e]
  exact this
end
end
section
--LINES
local macro_rules | `(tactic| walk_at "eval Name") => `(tactic| first
  | refine Rd.Nm (Rd.any (by assumption) (by rfl)) (by rfl) ?_
  | refine Rd.Gb (Rd.any (by assumption) (by rfl)) (by rfl) (by rfl) ?_
  | refine Rd.Bl (Rd.any (by assumption) (by rfl)) (by decide) (by first | exact boot_len | exact boot_range | exact boot_sum | exact boot_sorted | exact boot_enumerate | exact boot_zip | exact PyProof.Rows.boot_set | exact PyProof.Rows.boot_type | exact PyProof.Rows.boot_list | exact PyProof.Rows.boot_str) (by rfl) ?_)
local macro_rules | `(tactic| walk_at "side") => `(tactic| (refine ⟨rfl, rfl, by decide, ?_, ?_, fun C => .inl rfl, rfl⟩; ((repeat (refine And.intro ⟨⟨_, rfl⟩, rfl, rfl⟩ ?_)); exact trivial); (intro C; (repeat (refine And.intro ⟨rfl, rfl, ⟨_, rfl⟩, rfl⟩ ?_)); exact trivial)))
local macro_rules | `(tactic| walk_at "newTuple") => `(tactic| (refine newTuple_R (Rd.any (by assumption) (by rfl)) ?_ (by simp [sizeLine]); intro a s' R))
local macro_rules | `(tactic| walk_at "newList") => `(tactic| (refine newList_R (Rd.any (by assumption) (by rfl)) ?_ (by simp [sizeLine]); intro a s' R))
local macro_rules | `(tactic| walk_at "w") => `(tactic| (walk1; try dsimp only))
local macro_rules | `(tactic| walk_at "ww") => `(tactic| repeat ((with_reducible show wpAny _ _ _ _ _ _); walk_at "w"))
local macro_rules | `(tactic| walk_at "callWith ref") => `(tactic| refine callWith_K (Rd.gl' (by assumption)).k (by rfl) ?_)
--ENDLINES
/-! ## _law_fit: the walk -/
def fitB : List Stmt := forBody ((bodO (stm 18)).getD 1 noStm)
/-- what fit tells of three rows -/
def FitOk (rs : List (List Nat)) (ps : List Nat) (y : List Nat) : Prop :=
  (y = [] ∧ ∃ c i j, c < 4 ∧ i < 3 ∧ j < 3 ∧ (msk ps i).testBit c = true ∧ (msk ps j).testBit c = true ∧ ch rs i c ≠ ch rs j c) ∨
  (y.length = 4 ∧ ∀ c i, c < 4 → i < 3 → (msk ps i).testBit c = true → y.getD c 0 = ch rs i c)
theorem all_same {L : List Nat} (hne : L ≠ []) : (L.map fun y => [y]) = (List.replicate L.length ((L.map fun y => [y]).take 1)).flatten ↔ ∀ y ∈ L, ∀ z ∈ L, y = z := by
  cases L with
  | nil => exact absurd rfl hne
  | cons a r =>
    have e : (List.replicate (a :: r).length (((a :: r).map fun y => [y]).take 1)).flatten = List.replicate (a :: r).length [a] := by
      rw [List.map_cons, List.take_succ_cons, List.take_zero, List.flatten_replicate_singleton]
    rw [e, List.eq_replicate_iff]
    constructor
    · intro h y hy z hz
      have h1 := h.2 [y] (List.mem_map_of_mem (f := fun y => [y]) hy)
      have h2 := h.2 [z] (List.mem_map_of_mem (f := fun y => [y]) hz)
      rw [List.cons.injEq] at h1 h2
      rw [h1.1, h2.1]
    · intro h
      refine ⟨by simp, fun b hb => ?_⟩
      obtain ⟨y, hy, rfl⟩ := List.mem_map.mp hb
      rw [h y hy a (.head _)]
theorem StrsAre.take {a : List Value} {x : List Str} (h : StrsAre a x) (n : Nat) : StrsAre (a.take n) (x.take n) := by
  induction h generalizing n with
  | nil => simp; exact .nil
  | cons y t r ih =>
    cases n with
    | zero => exact .nil
    | succ n => exact .cons y t (ih n)
theorem StrsAre.rep {a : List Value} {x : List Str} (h : StrsAre a x) : ∀ n, StrsAre (List.replicate n a).flatten (List.replicate n x).flatten
  | 0 => .nil
  | n + 1 => by
    rw [List.replicate_succ, List.replicate_succ, List.flatten_cons, List.flatten_cons]
    exact StrsAre.app h (StrsAre.rep h n)
def signsAt (rs : List (List Nat)) (ps : List Nat) (c n : Nat) : List Nat := ((List.range n).filter fun i => (msk ps i).testBit c).map fun i => ch rs i c
set_option maxHeartbeats 8000000 in
theorem fit_ok {w : World} {s : Shared} {A : Around} {Q E : Value → Shared → Prop} {ta pa : Addr} {tv pv : List Value} {n2 : Nat} {rs : List (List Nat)} {ps : List Nat} (G : Gl w s.heap) (hA : Rm 1 A)
    (ht : s.heap.get? ta = some (tupO tv)) (htv : StrsAre tv (rs.map sOf)) (hr3 : rs.length = 3) (hr4 : ∀ x ∈ rs, x.length = 4) (hsg : ∀ x ∈ rs, ∀ z ∈ x, z < 256) (hp : s.heap.get? pa = some (listO pv n2)) (hpv : NatsAre pv ps) (hp3 : ps.length = 3)
    (hcov : ∀ c, c < 4 → ∃ i, i < 3 ∧ (msk ps i).testBit c = true)
    (h : ∀ y t' s', Kp s s' → FitOk rs ps y → Q (.str (sOf y) t') s') :
    wpAny (MM w) A (call (.ref 251) [.ref ta, .ref pa]) Q E s := by
  refine wpAny_call ?_
  refine enter (fd := fd251) (c := 250) (binds := [("trio", .ref ta), ("parts", .ref pa)]) (V := [("trio", .ref ta), ("parts", .ref pa)]) (body := bodO (stm 18)) (by rfl) (by decide) rfl G hA.room rfl (BindsTo.of_eq rfl) rfl rfl rfl ?_ ?_ ?_ rfl rfl rfl
  · intro k x hx
    simp only [List.mem_cons, List.not_mem_nil, or_false] at hx
    rcases hx with rfl | rfl
    · exact .inl rfl
    · exact .inl rfl
  · intro L
    exact ⟨.inl ⟨rfl, rfl⟩, .inl ⟨rfl, rfl⟩, trivial⟩
  · intro L s₁ hL S
    have hA' := hA.deeper (callEnvC fd251 L 251)
    have htl : tv.toArray.size = 3 := by rw [List.size_toArray, StrsAre.len htv, List.length_map, hr3]
    have hpl : pv.toArray.size = 3 := by rw [List.size_toArray, hpv.length, List.length_map, hp3]
    have R := S.rd
    refine wpAny_execs_cons (wpAny_Assign_Name ?_)
    walk_at "ww"
    refine (S.keeps (Kp.tok _ _)).store (.inl rfl) fun s₂ S₂ => ?_
    clear R S
    have S₂ := S₂.sub (V' := [("trio", .ref ta), ("parts", .ref pa), ("row", .str (sOf []) s₁.toks)]) ⟨rfl, rfl, rfl, trivial⟩
    refine wpAny_execs_cons ?_
    refine forRange (fun c V led => ∃ (x : List Nat) (tx : Tok), V = ([("trio", .ref ta), ("parts", .ref pa), ("row", .str (sOf x) tx)] : VL) ∧ led = ([] : LL) ∧ x.length = c ∧
      ∀ c', c' < c → ∀ i, i < 3 → (msk ps i).testBit c' = true → x.getD c' 0 = ch rs i c') S₂ hA'.hh rfl (by decide) (fun I => own_name)
      ⟨[], _, rfl, rfl, rfl, fun c' h => absurd h (Nat.not_lt_zero _)⟩ ?_ ?_
    · rintro I o c v V led s₃ E' ⟨hc, t₂, rfl⟩ ⟨x, tx, rfl, rfl, hxl, hxb⟩ S₃
      have hc : c < 4 := hc
      clear S₂
      refine PyProof.Rows.assign_Name (S₃.store (.inr ⟨rfl, L + 1, rfl, none_ge (Nat.le_trans hL (Nat.le_add_right _ 1))⟩) fun s₄ S₄ => ?_)
      have S₄ := S₄.sub (V' := [("trio", .ref ta), ("parts", .ref pa), ("row", .str (sOf x) tx), ("c", .int (c : Nat) t₂)]) ⟨rfl, rfl, rfl, rfl, trivial⟩
      clear S₃
      have R := S₄.rd
      refine wpAny_execs_cons ?_
      refine compAssign2 (cl := [("c", L + 1)]) S₄ (by rfl) (by rfl) (by rfl) (by rfl) (by decide) ⟨⟨⟨_, rfl⟩, rfl, rfl⟩, trivial⟩ (fun _ => rfl) ?_
      walk_at "ww"
      refine call_zipTL (isTup_of (S₄.old ht)) (isList_of (S₄.old hp)) fun s₅ z TI TO i1 i2 kp hap hst hwr hfp => ?_
      refine wpAny_pyIter_zip hst.1 ?_
      refine ⟨z, _, _, tv.toArray.size, _, _, _, [("c", .int (c : Nat) t₂)], (fun n ys els => els = [] ∧ StrsAre ys (((signsAt rs ps c n).map fun y => [y]).map sOf)), ⟨rfl, WalksT.zipTL hA'.hh z TI TO i1 i2 ta pa hap tv.toArray pv.toArray ?_, hA'.hh, kp, hst, hfp, hwr, ?_, ?_, ?_, ?_, ?_, rfl, rfl, ?_, ⟨rfl, .nil⟩, ?_⟩, ?_⟩
      · rw [htl, hpl]; exact Nat.le_refl _
      · rintro i h ⟨a1, a2, ⟨_, _, a3⟩, ⟨_, a4, _⟩, ⟨_, a5, _⟩, -⟩ c hc
        simp only [List.mem_cons, List.not_mem_nil, or_false] at hc
        rcases hc with rfl | rfl | rfl | rfl
        · exact ⟨_, a1⟩
        · exact ⟨_, a3⟩
        · exact ⟨_, a4⟩
        · exact ⟨_, a5⟩
      · rw [htl]; decide
      · exact fun C => ⟨⟨rfl, rfl, ⟨_, rfl⟩, rfl⟩, trivial⟩
      · exact fun C => rfl
      · exact fun C => rfl
      · rintro i vals ⟨a, b, -, -, rfl⟩
        exact ⟨a, b, rfl⟩
      · rintro C i a b ys els s₆ E₂ hi ⟨a', b', ha, hb, hab⟩ ⟨rfl, hys⟩ kp₂ - R₆
        clear R
        rw [htl] at hi
        obtain ⟨ta', hta⟩ := row_at htv (i := i) (by omega)
        obtain ⟨tb', htb⟩ := nat_at hpv hp3 (k := i) hi
        have hab := congrArg Array.toList hab
        have ea : a = .str (sOf (rs.getD i [])) ta' := by
          have h1 : a = a' := by simpa using congrArg (·.head?) hab
          have h2 : tv[i]? = some a' := by simpa using ha
          rw [h2] at hta; rw [h1]; exact Option.some.inj hta
        have eb : b = .int (msk ps i : Nat) tb' := by
          have h1 : b = b' := by simpa using congrArg (·.getLast?) hab
          have h2 : pv[i]? = some b' := by simpa using hb
          rw [h2] at htb; rw [h1]; exact Option.some.inj htb
        subst ea eb
        have hrow : (rs.getD i []).length = 4 := by
          have : i < rs.length := by omega
          rw [List.getD_eq_getElem?_getD, List.getElem?_eq_getElem this]
          exact hr4 _ (List.getElem_mem _)
        refine wpAny_tests_one ?_
        walk_at "ww"
        rw [bit_test]
        cases hbit : (msk ps i).testBit c with
        | true =>
          rw [if_pos rfl]
          walk_at "ww"
          refine item_S (by omega) (by omega) ?_
          have e : signsAt rs ps c (i + 1) = signsAt rs ps c i ++ [ch rs i c] := by
            unfold signsAt
            rw [List.range_succ, List.filter_append, List.map_append]
            simp [hbit]
          refine ⟨[], R₆.any rfl, rfl, ?_⟩
          rw [e, List.map_append, List.map_append]
          exact StrsAre.app hys (.cons _ _ .nil)
        | false =>
          rw [if_neg (by decide)]
          have e : signsAt rs ps c (i + 1) = signsAt rs ps c i := by
            unfold signsAt
            rw [List.range_succ, List.filter_append, List.map_append]
            simp [hbit]
          rw [e]
          exact ⟨R₆.any rfl, rfl, hys⟩
      · rintro D kD ys els s₆ ⟨rfl, hys⟩ S₆
        clear R S₄
        rw [htl] at hys
        have hmem : ∀ y, y ∈ signsAt rs ps c 3 ↔ ∃ i, i < 3 ∧ (msk ps i).testBit c = true ∧ y = ch rs i c := fun y => by
          unfold signsAt
          simp only [List.mem_map, List.mem_filter, List.mem_range]
          exact ⟨fun ⟨i, ⟨a, b⟩, e⟩ => ⟨i, a, b, e.symm⟩, fun ⟨i, a, b, e⟩ => ⟨i, ⟨a, b⟩, e.symm⟩⟩
        obtain ⟨i0, hi0, hb0⟩ := hcov c hc
        have hpos : signsAt rs ps c 3 ≠ [] := List.ne_nil_of_mem ((hmem _).mpr ⟨i0, hi0, hb0, rfl⟩)
        have hle : (signsAt rs ps c 3).length ≤ 3 := by
          unfold signsAt
          rw [List.length_map]
          exact Nat.le_trans (List.length_filter_le _ _) (by simp)
        have hyl : ys.length = (signsAt rs ps c 3).length := by rw [StrsAre.len hys]; simp
        have hsm : ∀ y ∈ signsAt rs ps c 3, y < 256 := fun y hy => by
          obtain ⟨i, hi, -, rfl⟩ := (hmem y).mp hy
          have h1 : i < rs.length := by omega
          have h2 := hr4 _ (List.getElem_mem h1)
          unfold ch
          simp only [List.getD_eq_getElem?_getD, List.getElem?_eq_getElem h1, Option.getD_some]
          rw [List.getElem?_eq_getElem (by omega)]
          exact hsg _ (List.getElem_mem h1) _ (List.getElem_mem _)
        have hD := S₆.at (.head _)
        have R := S₆.rd
        refine wpAny_execs_cons (wpAny_If ?_)
        walk_at "ww"
        refine slice_L (s := { s₆ with toks := s₆.toks + 1 }) (R.tok _) (isList_of hD) .none (.int _ _) (by omega) fun a₇ s₇ R₇ => ?_
        rw [show slicePick ys.toArray none (some 1) none = (ys.take 1).toArray from slicePick_upto' ys.toArray 1, List.toList_toArray] at R₇
        clear R
        walk_at "ww"
        refine PySem.Calls.call_len_list (isList_of (R₇.kp.get hD)) (by rw [List.size_toArray]; omega) ?_
        rw [List.size_toArray]
        refine mul_L (R₇.any rfl) (R₇.at (.head _)) (by omega) (by rw [List.length_take]; omega) fun a₈ s₈ R₈ => ?_
        have hP' : StrsAre (List.replicate ys.length (List.take 1 ys)).flatten (((List.replicate (signsAt rs ps c 3).length (((signsAt rs ps c 3).map fun y => [y]).take 1)).flatten).map sOf) := by
          rw [List.map_flatten, List.map_replicate, List.map_take, hyl]
          exact StrsAre.rep (StrsAre.take hys 1) _
        refine ne_S (isList_of (R₈.kp.get hD)) (isList_of (R₈.at (.head _))) hys hP' ?_ ?_ (hA'.units' (by decide)) ?_
        · intro p hp
          obtain ⟨y, hy, rfl⟩ := List.mem_map.mp hp
          exact ⟨by simp, fun x hx => by rw [List.mem_singleton.mp hx]; exact hsm y hy⟩
        · intro p hp
          obtain ⟨l, hl, hp⟩ := List.mem_flatten.mp hp
          obtain ⟨y, hy, rfl⟩ := List.mem_map.mp (List.mem_of_mem_take ((List.mem_replicate.mp hl).2 ▸ hp))
          exact ⟨by simp, fun x hx => by rw [List.mem_singleton.mp hx]; exact hsm y hy⟩
        clear R₇
        walk_at "ww"
        by_cases hall : ∀ y ∈ signsAt rs ps c 3, ∀ z ∈ signsAt rs ps c 3, y = z
        · rw [if_neg (by rw [decide_eq_true ((all_same hpos).mpr hall)]; decide)]
          refine wpAny_execs_nil ?_
          dsimp only
          have S₈ := S₆.back R₈
          clear R₈ S₆
          have R := S₈.rd
          have hD := S₈.at (show (D, listO ys kD) ∈ _ from by simp)
          obtain ⟨y0, hy0⟩ : ∃ y0, (signsAt rs ps c 3)[0]? = some y0 := ⟨_, List.getElem?_eq_getElem (List.length_pos_iff.mpr hpos)⟩
          obtain ⟨t0, ht0⟩ := StrsAre.at hys (i := 0) (y := sOf [y0]) (by rw [List.getElem?_map, List.getElem?_map, hy0]; rfl)
          refine wpAny_execs_cons (wpAny_AugAssign_Name ?_)
          refine R.ldn rfl ?_
          walk_at "ww"
          refine item_LI (k := 0) (isList_of hD) (by decide) ht0 ?_
          refine iadd_str (fun t' tk => ?_) (by rw [sOf_len, sOf_len]; show x.length + 1 ≤ 2 ^ 24; omega)
          rw [sOf_app]
          refine (S₈.keeps (Kp.tok _ _)).store (.inl rfl) fun s₉ S₉ => ?_
          refine wpAny_execs_nil ⟨_, [], _, ⟨x ++ [y0], t', rfl, rfl, by simp [hxl], fun c' hc' i hi hb => ?_⟩, S₉.cut ⟨rfl, rfl, rfl, trivial⟩ (by simp)⟩
          rcases Nat.lt_or_ge c' c with q | q
          · have e : (x ++ [y0]).getD c' 0 = x.getD c' 0 := by simp only [List.getD_eq_getElem?_getD]; rw [List.getElem?_append_left (by omega)]
            rw [e]; exact hxb c' q i hi hb
          · have : c' = c := by omega
            subst this
            have e : (x ++ [y0]).getD c' 0 = y0 := by simp only [List.getD_eq_getElem?_getD]; rw [List.getElem?_append_right (by omega), hxl]; simp
            rw [e]
            exact hall _ (List.mem_of_getElem? hy0) _ ((hmem _).mpr ⟨i, hi, hb, rfl⟩)
        · rw [if_pos (by rw [decide_eq_false (fun q => hall ((all_same hpos).mp q))]; decide)]
          refine wpAny_execs_cons (wpAny_Return_some ?_)
          walk_at "ww"
          refine h [] _ _ (S₆.keep.trans (R₈.kp.trans (Kp.tok _ _))) (.inl ⟨rfl, ?_⟩)
          simp only [Classical.not_forall] at hall
          obtain ⟨y, hy, z, hz, hne⟩ := hall
          obtain ⟨i, hi, hbi, rfl⟩ := (hmem y).mp hy
          obtain ⟨j, hj, hbj, rfl⟩ := (hmem z).mp hz
          exact ⟨c, i, j, hc, hi, hj, hbi, hbj, hne⟩
    · rintro V led s₃ ⟨x, tx, rfl, rfl, hxl, hxb⟩ S₃
      have R := S₃.rd
      refine wpAny_execs_cons (wpAny_Return_some ?_)
      walk_at "ww"
      exact h x _ _ S₃.keep (.inr ⟨hxl, fun c i hc hi hb => hxb c hc i hi hb⟩)
end
section
/-! ## re.Pattern.search that finds nothing -/
theorem rp_attrs : PlainAttrs "re.Pattern" :=
  ⟨⟨"object.__getattribute__", by rw [typeLookup_type, builtinLookup_eq_fast]; kernel_rfl, by decide +kernel⟩, by rw [typeLookup_type, builtinLookup_eq_fast]; kernel_rfl⟩
theorem rp_slot : Slot "re.Pattern" "search" "re.Pattern.search" :=
  .of (owner := "re.Pattern") (n := "search") (by rw [typeLookup_type, builtinLookup_eq_fast]; kernel_rfl) (by decide +kernel) (by decide +kernel) (by decide +kernel)
    (by first | exact .inl (by decide +kernel) | exact .inr (by decide +kernel)) (by rw [isSubtype_type]; kernel_rfl)
theorem rp_type : typeOf (.builtin "re.Pattern.search") = pure (.type "method_descriptor") := by show builtinType _ = _; rw [builtinType_eq_fast]; kernel_rfl
theorem rp_entry : entryFor table "re.Pattern.search" = some Builtin.«re.Pattern.search» := entryFor_of_tree (by kernel_rfl)
theorem rp_owner : Manifest.owners.lookup (String.ofList ['n', 'r', 'e', 't', 't', 'a', 'P', '.', 'e', 'r'].reverse) = some Manifest.sig_re_Pattern := by kernel_rfl
theorem rp_args (a b : Value) : argsOk "re.Pattern.search" ⟨[a, b], []⟩ := by
  unfold argsOk; rw [signature?_of (id := "re.Pattern.search") (n := ['h', 'c', 'r', 'a', 'e', 's']) (o := ['n', 'r', 'e', 't', 't', 'a', 'P', '.', 'e', 'r']) (by kernel_rfl) rp_owner]; kernel_rfl
section
variable {M : Model} {A : Around} {E : Value → Shared → Prop} {s : Shared}
theorem notes_go {l : List Nat} {f : Nat → PUnit → Sem (ForInStep PUnit)} {Q : PUnit → Shared → Prop} (hf : ∀ i (Q : ForInStep PUnit → Shared → Prop), Q (.yield ⟨⟩) s → wpAny M A (f i ⟨⟩) Q E s) (h : Q ⟨⟩ s) : wpAny M A (forIn l (⟨⟩ : PUnit) f) Q E s := by
  induction l with
  | nil => rw [List.forIn_nil]; exact wpAny_pure h
  | cons i l ih =>
    rw [List.forIn_cons]
    exact wpAny_bind (hf i _ ih)
theorem drive_go {m : Sre.M} {Q : Sre.M → Shared → Prop} (ho : (m.runFor 4).outcome = some .failed) (h : Q (m.runFor 4) s) : wpAny M A (Builtin.Re.reDrive (2 ^ 64) m) Q E s := by
  obtain ⟨k, hk⟩ : ∃ k, 2 ^ 64 = k + 1 := ⟨2 ^ 64 - 1, by decide⟩
  rw [hk]
  unfold Builtin.Re.reDrive
  dsimp only [Builtin.Re.reTurnSteps]
  rw [ho]
  exact wpAny_pure h
theorem runToEnd_go {m : Sre.M} {Q : Option Sre.M → Shared → Prop} (ho : (m.runFor 4).outcome = some .failed) (h : Q none s) : wpAny M A (Builtin.Re.reRunToEnd m) Q E s := by
  unfold Builtin.Re.reRunToEnd
  refine wpAny_bind (drive_go ho ?_)
  refine wpAny_bind (notes_go (fun i Q hq => ?_) ?_)
  · split
    · exact wpAny_bind (wpAny_rule (wpAny_pure hq))
    · exact wpAny_pure hq
  · rw [ho]
    exact wpAny_pure h
end
theorem named_ok (v : Value) : Builtin.Re.reNamed "re.Pattern.search" "search" ["string", "pos", "endpos"] 1 [v] [] = pure [some v, none, none] := by rfl
theorem search_none {w : World} {A : Around} {E : Value → Shared → Prop} {s : Shared} {a c : Addr} {px x : Str} {t1 t2 t : Tok} {vs : List Value} {Q : Value → Shared → Prop} (ho : s.heap.get? a = some (patO px t1 t2 c)) (hc : s.heap.get? c = some (tupO vs))
    (hm : ((Sre.forSearch ((vs.toArray.map Builtin.Re.reRawOf).map (·.toNat)) x.cps 0 0 (min (2 ^ 63 - 1) x.cps.size) false).runFor 4).outcome = some .failed) (h : Q .none s) :
    wpAny (MM w) A (call (.builtin "re.Pattern.search") [.ref a, .str x t]) Q E s := by
  refine call_meets rp_slot ⟨_, ho, rfl⟩ rp_entry (rp_args _ _) (S := fun _ R s' => s' = s ∧ R (.ok (.ret .none)) s') (Meets.of_wp fun prog w A R s' hs => ?_) ⟨rfl, h⟩
  obtain ⟨rfl, hR⟩ := hs
  unfold Builtin.«re.Pattern.search»
  refine wpAny_bind ?_
  unfold Builtin.Re.reTarget
  dsimp only
  refine wpAny_bind (wpAny_of_eq (named_ok _) ?_)
  dsimp only
  refine wpAny_bind (wpAny_pure ?_)
  refine wpAny_bind (wpAny_pure ?_)
  refine wpAny_bind (wpAny_fieldsOf ho rfl ?_)
  refine wpAny_bind (m := Builtin.Re.reTextOf _) (wpAny_pure (a := (x.cps, 0)) ?_)
  dsimp only
  have g6 : Builtin.Re.reRawNat ((#[Value.str px t1, .int 32 t2, .int 0 0, .none, .none, .ref c, .int 0 0] : Array Value).getD 6 Value.none) = 0 := rfl
  rw [g6, if_neg (by decide), if_neg (by decide)]
  refine wpAny_bind (m := Builtin.Re.reNoCollectionInside _ _) (wpAny_pure (a := ()) ?_)
  refine wpAny_bind (m := Builtin.Re.reRawItems _) ?_
  unfold Builtin.Re.reRawItems
  refine wpAny_bind (wpAny_seqItems hc rfl ?_)
  refine wpAny_pure (wpAny_pure ?_)
  unfold Builtin.Re.reAnswer
  refine wpAny_bind (runToEnd_go ?_ ?_)
  · exact hm
  · exact wpAny_pure ⟨_, rfl, hR⟩
/-! ## the two patterns find no fault in plain texts -/
def cdN : Array Nat := #[14, 10, 4, 1, 1, 22, 0, 31, 16, 127, 0, 13, 7, 22, 0, 31, 16, 127, 0, 1]
def cdV : Array Nat := #[14, 14, 4, 1, 1, 9, 4294966783, 0, 0, 2147483648, 0, 0, 0, 0, 0, 13, 11, 9, 4294966783, 0, 0, 2147483648, 0, 0, 0, 0, 0, 1]
def okC (c : Nat) : Prop := 32 ≤ c ∧ c ≤ 126
theorem inN {c : Nat} (h : okC c) (seen : Sre.Seen) : ∃ seen', Sre.inSet cdN c cdN.size 5 true seen = .ok (false, seen') := by
  have h1 : (decide (0 ≤ c) && decide (c ≤ 31)) = false := by have := h.1; simp; omega
  have h2 : (c == 127) = false := by have := h.2; rw [beq_eq_false_iff_ne]; omega
  refine ⟨((seen.add 22).add 16).add 0, ?_⟩
  show (if (decide (0 ≤ c) && decide (c ≤ 31)) = true then _ else if (c == 127) = true then _ else _) = _
  rw [h1, h2]
  rfl
theorem inV {c : Nat} (h : okC c) (seen : Sre.Seen) : ∃ seen', Sre.inSet cdV c cdV.size 5 true seen = .ok (false, seen') := by
  have h1 : (decide (c < 256) && (cdV.getD (5 + (1 + c / 32)) 0).testBit (c % 32)) = false := by
    have : ∀ d : Fin 127, 32 ≤ d.val → (decide (d.val < 256) && (cdV.getD (5 + (1 + d.val / 32)) 0).testBit (d.val % 32)) = false := by decide +kernel
    exact this ⟨c, by have := h.2; omega⟩ h.1
  refine ⟨(seen.add 9).add 0, ?_⟩
  show (if (decide (c < 256) && (cdV.getD (5 + (1 + c / 32)) 0).testBit (c % 32)) = true then _ else _) = _
  rw [h1]
  rfl
theorem admit_none (m : Sre.M) (h : ∀ c, okC c → ∀ seen, ∃ seen', Sre.inSet m.code c m.code.size 5 true seen = .ok (false, seen')) (ht : ∀ c ∈ m.text.toList, okC c) (hl : m.lim ≤ m.text.size) :
    ∀ fuel s seen, ∃ seen', Sre.M.admitted m fuel s seen = .ok (none, seen')
  | 0, s, seen => ⟨seen, rfl⟩
  | fuel + 1, s, seen => by
    unfold Sre.M.admitted
    by_cases hs : s ≥ m.lim
    · rw [if_pos hs]; exact ⟨seen, rfl⟩
    · rw [if_neg hs]
      have hlt : s < m.text.size := by omega
      have hc : okC (m.text.getD s 0) := ht _ (by
        have : m.text.getD s 0 = m.text[s] := by simp [hlt]
        rw [this]; exact Array.getElem_mem_toList hlt)
      obtain ⟨seen', e⟩ := h _ hc seen
      rw [e]
      exact admit_none m h ht hl fuel (s + 1) seen'
theorem from_none (m : Sre.M) (h : ∀ c, okC c → ∀ seen, ∃ seen', Sre.inSet m.code c m.code.size 5 true seen = .ok (false, seen')) (ht : ∀ c ∈ m.text.toList, okC c) (hl : m.lim ≤ m.text.size) (hf : m.hasFirstSet = true)
    (hfr : m.frames = []) (ho : m.outcome = none) (s : Nat) : ((m.attemptFrom s true).runFor 4).outcome = some .failed := by
  obtain ⟨seen', e⟩ := admit_none m h ht hl (m.lim + 1 - s) s m.seen
  have e1 : m.attemptFrom s true = { m with seen := seen', answer := some false } := by
    unfold Sre.M.attemptFrom
    rw [hf, e]; rfl
  rw [e1]
  obtain ⟨⟩ := m
  subst hfr ho
  rfl
theorem search_fails (cd : Array Nat) (x : List Nat) (h : ∀ c, okC c → ∀ seen, ∃ seen', Sre.inSet cd c cd.size 5 true seen = .ok (false, seen')) (hf : Sre.ops[cd.getD 0 0]? = some .INFO) (hf2 : cd.getD 2 0 = 4) (hf3 : cd.getD 3 0 = 1) (hx : ∀ c ∈ x, okC c) (hne : x ≠ []) (hl : x.length ≤ 1000) :
    ((Sre.forSearch cd (sOf x).cps 0 0 (min (2 ^ 63 - 1) (sOf x).cps.size) false).runFor 4).outcome = some .failed := by
  have hsz : (sOf x).cps.size = x.length := sOf_len x
  have hpos : 0 < x.length := List.length_pos_iff.mpr hne
  have hmin : min (2 ^ 63 - 1) (sOf x).cps.size = x.length := by rw [hsz]; omega
  rw [hmin]
  unfold Sre.forSearch
  dsimp only
  have hh : (Sre.header cd).1 = 1 := by unfold Sre.header; rw [hf]; exact hf3
  rw [hh, if_neg (by rw [Bool.or_eq_true, decide_eq_true_eq, decide_eq_true_eq] <;> omega)]
  refine from_none _ h hx (Nat.le_of_eq hsz.symm) ?_ rfl rfl 0
  unfold Sre.M.hasFirstSet
  show ((match Sre.ops[cd.getD 0 0]? with | some .INFO => true | _ => false) && cd.getD 2 0 == 4) = true
  rw [hf, hf2]; rfl
theorem pat_n : (((patI 8).toArray.map Builtin.Re.reRawOf).map (·.toNat)) = cdN := by decide +kernel
theorem pat_v : (((patI 9).toArray.map Builtin.Re.reRawOf).map (·.toNat)) = cdV := by decide +kernel
end
section
--LINES
local macro_rules | `(tactic| walk_at "eval Name") => `(tactic| first
  | refine Rd.Nm (Rd.any (by assumption) (by rfl)) (by rfl) ?_
  | refine Rd.Gb (Rd.any (by assumption) (by rfl)) (by rfl) (by rfl) ?_
  | refine Rd.Bl (Rd.any (by assumption) (by rfl)) (by decide) (by first | exact boot_len | exact boot_range | exact boot_sum | exact boot_sorted | exact boot_enumerate | exact boot_zip | exact PyProof.Rows.boot_set | exact PyProof.Rows.boot_type | exact PyProof.Rows.boot_list | exact PyProof.Rows.boot_str) (by rfl) ?_)
local macro_rules | `(tactic| walk_at "side") => `(tactic| (refine ⟨rfl, rfl, by decide, ?_, ?_, fun C => .inl rfl, rfl⟩; ((repeat (refine And.intro ⟨⟨_, rfl⟩, rfl, rfl⟩ ?_)); exact trivial); (intro C; (repeat (refine And.intro ⟨rfl, rfl, ⟨_, rfl⟩, rfl⟩ ?_)); exact trivial)))
local macro_rules | `(tactic| walk_at "newTuple") => `(tactic| (refine newTuple_R (Rd.any (by assumption) (by rfl)) ?_ (by simp [sizeLine]); intro a s' R))
local macro_rules | `(tactic| walk_at "newList") => `(tactic| (refine newList_R (Rd.any (by assumption) (by rfl)) ?_ (by simp [sizeLine]); intro a s' R))
local macro_rules | `(tactic| walk_at "w") => `(tactic| (walk1; try dsimp only))
local macro_rules | `(tactic| walk_at "ww") => `(tactic| repeat ((with_reducible show wpAny _ _ _ _ _ _); walk_at "w"))
local macro_rules | `(tactic| walk_at "callWith ref") => `(tactic| refine callWith_K (Rd.gl' (by assumption)).k (by rfl) ?_)
--ENDLINES
/-! ## Headers: _convert_string_type -/
/-- a pattern that finds no fault in a plain text -/
def PatAt (h : Heap) (a : Addr) : Prop := ∃ px t1 t2 c vs, h.get? a = some (patO px t1 t2 c) ∧ h.get? c = some (tupO vs) ∧
  ∀ x : List Nat, (∀ c ∈ x, okC c) → x ≠ [] → x.length ≤ 1000 → ((Sre.forSearch ((vs.toArray.map Builtin.Re.reRawOf).map (·.toNat)) (sOf x).cps 0 0 (min (2 ^ 63 - 1) (sOf x).cps.size) false).runFor 4).outcome = some .failed
theorem pat83 {w : World} {h : Heap} (G : Gl w h) : PatAt h 83 :=
  ⟨_, _, _, 82, patI 8, G.k 83 _ (by rfl), G.k 82 _ (by rfl), fun x a b c => by rw [pat_n]; exact search_fails cdN x (fun _ => inN) (by rfl) (by rfl) (by rfl) a b c⟩
theorem pat88 {w : World} {h : Heap} (G : Gl w h) : PatAt h 88 :=
  ⟨_, _, _, 87, patI 9, G.k 88 _ (by rfl), G.k 87 _ (by rfl), fun x a b c => by rw [pat_v]; exact search_fails cdV x (fun _ => inV) (by rfl) (by rfl) (by rfl) a b c⟩
set_option maxHeartbeats 8000000 in
theorem conv_ok {w : World} {s : Shared} {A : Around} {R : Result → Shared → Prop} {sv : Value} {v : List Nat} {t : Tok} {nb : Bool} (G : Gl w s.heap) (hA : Rm 1 A) (hv : ∀ c ∈ v, okC c) (hne : v ≠ []) (hl : v.length ≤ 1000)
    (h : ∀ s', Kp s s' → R (.ok (.ret (.str (sOf v) t))) s') :
    codeAny (MM w) A (.call (.ref 118) ⟨[sv, .str (sOf v) t], [("name", .bool nb)]⟩) R s := by
  refine enter (fd := fd118) (c := 117) (binds := [("self", sv), ("value", .str (sOf v) t), ("name", .bool nb)]) (V := [("self", sv), ("value", .str (sOf v) t), ("name", .bool nb)]) (body := bodO (meth 11 1)) (by rfl) (by decide) rfl G hA.room rfl (BindsTo.of_eq rfl) rfl rfl rfl ?_ ?_ ?_ rfl rfl rfl
  · intro k x hx
    simp only [List.mem_cons, List.not_mem_nil, or_false] at hx
    rcases hx with rfl | rfl | rfl <;> exact .inl rfl
  · intro L
    exact ⟨.inl ⟨rfl, rfl⟩, .inl ⟨rfl, rfl⟩, .inl ⟨rfl, rfl⟩, trivial⟩
  · intro L s₁ hL S
    have hA' := hA.deeper (callEnvC fd118 L 118)
    have R := S.rd
    refine wpAny_execs_cons (wpAny_If ?_)
    walk_at "ww"
    rw [if_pos rfl]
    refine wpAny_execs_cons (wpAny_Assign_Name ?_)
    refine wpAny_mono (Q := fun v s' => ∃ a, v = .ref a ∧ PatAt s.heap a ∧ s' = { s₁ with toks := s'.toks }) (E := fun _ _ => False) ?_ (fun rv s₂ h₂ => ?_) fun _ _ e => e
    · walk_at "ww"
      cases nb with
      | true =>
        rw [if_pos rfl]
        walk_at "ww"
        exact ⟨83, rfl, pat83 G, rfl⟩
      | false =>
        rw [if_neg (by decide)]
        walk_at "ww"
        exact ⟨88, rfl, pat88 G, rfl⟩
    · obtain ⟨a, rfl, ⟨px, t1, t2, c, vs, ho, hc, hf⟩, e₂⟩ := h₂
      refine (S.keeps (S.any e₂)).store (.inl rfl) fun s₃ S₃ => ?_
      clear R
      have R := S₃.rd
      refine wpAny_execs_cons (wpAny_If ?_)
      walk_at "ww"
      refine getMethod_builtin (T := "re.Pattern") ⟨_, S₃.old ho, rfl⟩ rp_attrs rp_slot rp_type (fun b hb => by cases hb; exact ⟨_, S₃.old ho, rfl⟩) ?_
      walk_at "ww"
      refine search_none (S₃.old ho) (S₃.old hc) (hf v hv hne hl) ?_
      walk_at "ww"
      rw [if_neg (by decide)]
      refine wpAny_execs_nil ?_
      dsimp only
      refine wpAny_execs_cons (wpAny_Return_some ?_)
      walk_at "ww"
      exact h _ S₃.keep
/-! ## Headers -/
theorem hd_set (P : Params) : findIn (KK P) (.ref 217) "__setattr__" = some (some (.builtin "object.__setattr__")) := by rfl
theorem hd_over (P : Params) : plainOver (KK P) 217 = true := by rfl
theorem hd_taker (P : Params) : takerIn (KK P) 217 "_headers" = some none := by rfl
theorem hd_dict (P : Params) : hasDictIn (KK P) 217 = true := by rfl
theorem hd_makes (P : Params) : makesIn (KK P) 217 = true := by rfl
theorem hd_init (P : Params) : findIn (KK P) (.ref 217) "__init__" = some (some (.ref 111)) := by rfl
theorem hd_ga (P : Params) (x : Str) : plainGet (KK P) 217 x = true := by rfl
theorem hd_conv (P : Params) : findIn (KK P) (.ref 217) "_convert_string_type" = some (some (.ref 118)) := by rfl
theorem hd_get (P : Params) : findIn (KK P) (.ref 217) "get_all" = some (some (.ref 156)) := by rfl
theorem hd_add (P : Params) : findIn (KK P) (.ref 217) "add_header" = some (some (.ref 214)) := by rfl
theorem hd_f118 (P : Params) : isFn (KK P) (.ref 118) = true := by rfl
theorem hd_f156 (P : Params) : isFn (KK P) (.ref 156) = true := by rfl
theorem hd_f214 (P : Params) : isFn (KK P) (.ref 214) = true := by rfl
def hdDict (P : Params) (t : Tok) (v : Value) : Obj := dictOf [⟨PyData.keyHash P "_headers", .str "_headers" t, v⟩] 1
set_option maxHeartbeats 8000000 in
theorem hd_new {w : World} {s : Shared} {A : Around} {Q E : Value → Shared → Prop} {l : Addr} {n : Nat} (G : Gl w s.heap) (hA : Rm 2 A) (hl : s.heap.get? l = some (listO [] n))
    (h : ∀ x dx s' t, Kp s s' → s.heap.get? x = none → s.heap.get? dx = none → x ≠ dx → s'.heap.get? x = some (instObj 217 dx) → s'.heap.get? dx = some (hdDict w.params t (.ref l)) → Q (.ref x) s') :
    wpAny (MM w) A (call (.ref 217) [.ref l]) Q E s := by
  obtain ⟨hp, g, d, tk, os⟩ := s
  refine wpAny_call (make_core (makes_of G.k (hd_makes _)) (looks_findIn G.k (hd_init _)) (fun self => bind_fn G.k self rfl) (.inl rfl) ?_)
  have k0 : Kp ⟨hp, g, d, tk, os⟩ ⟨(hp.push emptyDict).push (instObj 217 hp.objs.size), g, d, tk, os⟩ := Kp.to fun b o e => Heap.get?_push_of_some _ (Heap.get?_push_of_some _ e)
  have hsz : (hp.push emptyDict).objs.size = hp.objs.size + 1 := Heap.size_push ..
  have hx : ((hp.push emptyDict).push (instObj 217 hp.objs.size)).get? (hp.objs.size + 1) = some (instObj 217 hp.objs.size) := by rw [← hsz]; exact Heap.get?_push_size _ rfl
  have hd : ((hp.push emptyDict).push (instObj 217 hp.objs.size)).get? hp.objs.size = some emptyDict := Heap.get?_push_of_some _ (Heap.get?_push_size _ rfl)
  have hl0 : ((hp.push emptyDict).push (instObj 217 hp.objs.size)).get? l = some (listO [] n) := k0.get hl
  have hx0 : hp.get? (hp.objs.size + 1) = none := none_ge (Nat.le_succ _)
  have hd0 : hp.get? hp.objs.size = none := none_ge (Nat.le_refl _)
  generalize hX : hp.objs.size + 1 = x at *
  generalize hD : hp.objs.size = dx at *
  have hne : x ≠ dx := fun e => by rw [← hX] at e; exact absurd e (Nat.succ_ne_self _)
  have G1 : Gl w ((hp.push emptyDict).push (instObj 217 dx)) := G.keeps fun b o e => k0.get e
  refine enter (fd := fd111) (c := 110) (binds := [("self", .ref x), ("headers", .ref l)]) (V := [("self", .ref x), ("headers", .ref l)]) (body := bodO (meth 11 0)) (by rfl) (by decide) rfl G1 (hA.under 217 [.ref l]).room rfl (BindsTo.of_defaults (T := 104) rfl (G1.k 104 _ (by rfl)) rfl rfl rfl) rfl rfl rfl ?_ ?_ ?_ rfl rfl rfl
  · intro k x hx
    simp only [List.mem_cons, List.not_mem_nil, or_false] at hx
    rcases hx with rfl | rfl <;> exact .inl rfl
  · intro L
    exact ⟨.inl ⟨rfl, rfl⟩, .inl ⟨rfl, rfl⟩, trivial⟩
  · intro L s₁ hL S
    have S0 := S.rebase (l := [(x, instObj 217 dx), (dx, dictOf [] 0)]) G k0 rfl (fun p hp => ?_) (by simpa using hne)
    · have R := S0.rd
      have hls := isList_of (S.old hl0)
      refine wpAny_execs_cons (wpAny_Assign_Name ?_)
      walk_at "ww"
      rw [if_pos rfl]
      walk_at "ww"
      refine S0.store (.inl rfl) fun s₂ S₂ => ?_
      clear R
      have S₂ := S₂.sub (V' := [("self", .ref x), ("headers", .ref l)]) ⟨rfl, rfl, trivial⟩
      have R := S₂.rd
      have hl2 : s₂.heap.get? l = some (listO [] n) := S₂.old hl
      have hty := Heap.IsList.typeIs (isList_of hl2)
      refine wpAny_execs_cons (wpAny_If ?_)
      walk_at "ww"
      refine call_type_of hty (by decide) ?_
      walk_at "ww"
      rw [if_neg (by decide)]
      refine wpAny_execs_nil ?_
      dsimp only
      refine wpAny_execs_cons (plainObj_wpAny_Assign_Attribute ?_)
      walk_at "w"
      walk_at "w"
      clear R
      refine S₂.put rfl ?_ (hd_set _) (hd_over _) (hd_taker _) (hd_dict _) rfl (by show (1 : Nat) ≤ 1000; decide) fun s₃ S₃ => ?_
      · have e : ((hp.push emptyDict).push (instObj 217 hp.objs.size)).objs.size = dx + 1 + 1 := by rw [Heap.size_push, Heap.size_push, hD]
        have hL : ((hp.push emptyDict).push (instObj 217 dx)).objs.size ≤ L := hL
        rw [hD] at e
        rw [e] at hL
        show hp.objs.size ≤ L
        rw [hD]
        exact Nat.le_trans (Nat.le_add_right dx 2) hL
      · have R := S₃.rd
        refine wpAny_execs_cons (wpAny_If ?_)
        walk_at "ww"
        rw [if_pos rfl]
        refine wpAny_execs_cons ?_
        refine forList [] (fun i V led' => V = ([("self", .ref x), ("headers", .ref l)] : VL) ∧ led' = ([(x, instObj 217 dx), (dx, hdDict w.params (s₂.toks + 1) (.ref l))] : LL)) S₃ (hA.under 217 [.ref l]).hh (fun _ => rfl) (fun _ _ => own_list) ?_ ?_ ?_
        · walk_at "ww"
          exact ⟨l, [], rfl, R.any rfl, isList_of (S₃.old hl), ⟨rfl, rfl⟩, fun i V led s _ S => isList_of (S.old hl)⟩
        · rintro I o i v V led s E' hv
          simp at hv
        · rintro V led s₄ ⟨rfl, rfl⟩ S₄
          refine wpAny_execs_nil ?_
          refine wpAny_execs_nil ?_
          exact ⟨rfl, h x dx s₄ _ S₄.keep hx0 hd0 hne (S₄.at (.head _)) (S₄.at (.tail _ (.head _)))⟩
    · simp only [List.mem_cons, List.not_mem_nil, or_false] at hp
      rcases hp with rfl | rfl
      · exact ⟨hx, hx0⟩
      · exact ⟨hd, hd0⟩
end
section
--LINES
local macro_rules | `(tactic| walk_at "eval Name") => `(tactic| first
  | refine Rd.Nm (Rd.any (by assumption) (by rfl)) (by rfl) ?_
  | refine Rd.Gb (Rd.any (by assumption) (by rfl)) (by rfl) (by rfl) ?_
  | refine Rd.Bl (Rd.any (by assumption) (by rfl)) (by decide) (by first | exact boot_len | exact boot_range | exact boot_sum | exact boot_sorted | exact boot_enumerate | exact boot_zip | exact PyProof.Rows.boot_set | exact PyProof.Rows.boot_type | exact PyProof.Rows.boot_list | exact PyProof.Rows.boot_str) (by rfl) ?_)
local macro_rules | `(tactic| walk_at "side") => `(tactic| (refine ⟨rfl, rfl, by decide, ?_, ?_, fun C => .inl rfl, rfl⟩; ((repeat (refine And.intro ⟨⟨_, rfl⟩, rfl, rfl⟩ ?_)); exact trivial); (intro C; (repeat (refine And.intro ⟨rfl, rfl, ⟨_, rfl⟩, rfl⟩ ?_)); exact trivial)))
local macro_rules | `(tactic| walk_at "newTuple") => `(tactic| (refine newTuple_R (Rd.any (by assumption) (by rfl)) ?_ (by simp [sizeLine]); intro a s' R))
local macro_rules | `(tactic| walk_at "newList") => `(tactic| (refine newList_R (Rd.any (by assumption) (by rfl)) ?_ (by simp [sizeLine]); intro a s' R))
local macro_rules | `(tactic| walk_at "w") => `(tactic| (walk1; try dsimp only))
local macro_rules | `(tactic| walk_at "ww") => `(tactic| repeat ((with_reducible show wpAny _ _ _ _ _ _); walk_at "w"))
local macro_rules | `(tactic| walk_at "callWith ref") => `(tactic| refine callWith_K (Rd.gl' (by assumption)).k (by rfl) ?_)
--ENDLINES
/-! ## comprehensions over a list -/
section
variable {w : World} {b s s' s₀ : Shared} {env : Env} {V : List (Str × Value)} {nw led : List (Addr × Obj)} {A : Around} {E : Value → Shared → Prop}
theorem listGo {vs : List Value} {l : Addr} {s₁ : Shared} {elt : Expr} {x : Str} {ifs : List Expr} {scope : Scope} {cl : List (Str × Addr)} {V' : List (Str × Value)} {Acc : Nat → List Value → List (Addr × Obj) → Prop} {Q : Value → Shared → Prop} (hh : A.handled = none) (T : Takes V env scope cl x V') (hz : vs.length ≤ 1000)
    (kp : Kp s s₁) (hl : s₁.heap.IsList l vs.toArray) (acc : Acc 0 [] []) (turn : ∀ C i v, vs[i]? = some v → TurnR w A env scope cl x ifs elt s V' Acc C i v)
    (h : ∀ I s₂, CompGo w A env V scope cl x ifs elt s (.ref I) s₂ I [I, l] [I] vs.toArray.size (fun i v => vs.toArray[i]? = some v) (fun i h => h.IsListIter I l i ∧ h.IsList l vs.toArray) V' Acc → Q (.ref I) s₂) : wpAny (MM w) A (pyIter (.ref l)) Q E s₁ := by
  have lt := IsList.lt hl
  refine wpAny_pyIter_list hl (h _ _ ⟨rfl, Walks.list hh _ l (Nat.ne_of_lt lt) vs.toArray, kp.trans (Kp.push _ _), ⟨⟨_, Heap.get?_push_size _ rfl, rfl, rfl⟩, hl.push _⟩, fun c hc => ?_, fun c hc => ?_, fun i h st c hc => ?_, ?_, T.vs, T.hx, T.nx, acc, ?_⟩)
  · show c < (s₁.heap.push _).objs.size
    rw [Heap.size_push]
    simp only [List.mem_cons, List.not_mem_nil, or_false] at hc
    rcases hc with rfl | rfl
    · exact Nat.lt_succ_self _
    · exact Nat.lt_succ_of_lt lt
  · rw [List.mem_singleton] at hc; subst hc; exact kp.none (none_at _)
  · rw [List.mem_singleton] at hc; subst hc; obtain ⟨o, e, _⟩ := st.1; exact ⟨o, e⟩
  · rw [List.size_toArray]; show vs.length ≤ 2 ^ 24; omega
  · rintro C i v ys els s₃ E' hi hv hacc k he R₃
    exact turn C i v (by simpa using hv) ys els s₃ E' hacc k he R₃
/-- a comprehension over a list -/
theorem compList {vs : List Value} {elt iter : Expr} {x : Str} {px pos : Pos} {ifs : List Expr} {scope : Scope} {cl : List (Str × Addr)} {Q : Value → Shared → Prop} (hh : A.handled = none) (R : Rd w b env V nw s)
    (V' : List (Str × Value)) (Acc : Nat → List Value → List (Addr × Obj) → Prop) (T : Takes V env scope cl x V') (hz : vs.length ≤ 1000) (hfold : ∀ x, foldedSetIterable iter env x = pure x)
    (hit : wpAny (MM w) A (eval iter env) (fun xv s₁ => ∃ l, xv = .ref l ∧ Kp s s₁ ∧ s₁.heap.IsList l vs.toArray) E s)
    (acc : Acc 0 [] []) (turn : ∀ C i v, vs[i]? = some v → TurnR w A env scope cl x ifs elt s V' Acc C i v)
    (done : ∀ D k ys els s', Acc vs.length ys els → Rd w b env V ((D, listO ys k) :: els ++ nw) s' → Q (.ref D) s') :
    wpAny (MM w) A (eval (.ListComp elt [⟨.Name x px, iter, ifs, 0⟩] scope pos) env) Q E s :=
  comp1 R T.clos T.kind T.names T.clok hfold (wpAny_mono hit (fun xv s₁ h₁ => by
    obtain ⟨l, rfl, kp, hl⟩ := h₁
    exact listGo hh T hz kp hl acc turn fun I s₂ G => ⟨I, _, _, _, _, _, _, _, G, by simpa using done⟩) fun _ _ e => e)
theorem compListA {vs : List Value} {elt iter : Expr} {x y : Str} {px py pos spos : Pos} {ifs : List Expr} {scope : Scope} {cl : List (Str × Addr)} {Q : Flow → Shared → Prop} (hh : A.handled = none) (S : St w s₀ env V led s)
    (V' : List (Str × Value)) (Acc : Nat → List Value → List (Addr × Obj) → Prop) (T : Takes V env scope cl x V') (hz : vs.length ≤ 1000) (hfold : ∀ x, foldedSetIterable iter env x = pure x)
    (hsw : swapsWith (.ListComp elt [⟨.Name x px, iter, ifs, 0⟩] scope pos) (some (.Name y py)) spos.line env = pure true) (hy : env.kindOf y = some .local)
    (hit : wpAny (MM w) A (eval iter env) (fun xv s₁ => ∃ l, xv = .ref l ∧ Kp s s₁ ∧ s₁.heap.IsList l vs.toArray) E s)
    (acc : Acc 0 [] []) (turn : ∀ C i v, vs[i]? = some v → TurnR w A env scope cl x ifs elt s V' Acc C i v)
    (done : ∀ D k ys els s', Acc vs.length ys els → St w s₀ env ((y, .ref D) :: V) ((D, listO ys k) :: els ++ led) s' → Q .next s') :
    wpAny (MM w) A (exec (.Assign [.Name y py] (.ListComp elt [⟨.Name x px, iter, ifs, 0⟩] scope pos) spos) env) Q E s :=
  compAssign S hsw hy T.clos T.kind T.names T.clok hfold (wpAny_mono hit (fun xv s₁ h₁ => by
    obtain ⟨l, rfl, kp, hl⟩ := h₁
    exact listGo hh T hz kp hl acc turn fun I s₂ G => ⟨I, _, _, _, _, _, _, _, G, by simpa using done⟩) fun _ _ e => e)
end
/-! ## Headers.get_all -/
def lowL (l : List Nat) : List Nat := l.map lo1
def upL (l : List Nat) : List Nat := l.map up1
theorem lower_sOf {l : List Nat} (h : ∀ c ∈ l, okC c) : Txt.lower (sOf l) = sOf (lowL l) := by
  rw [lower_ascii (x := sOf l) fun c hc => by have := (h c hc).2; omega]
  simp [sOf, lowL]
theorem upper_sOf {l : List Nat} (h : ∀ c ∈ l, okC c) : Txt.upper (sOf l) = sOf (upL l) := by
  rw [upper_ascii (x := sOf l) fun c hc => by have := (h c hc).2; omega]
  simp [sOf, upL]
theorem ok_low {l : List Nat} (h : ∀ c ∈ l, okC c) : ∀ c ∈ lowL l, okC c := fun c hc => by
  obtain ⟨d, hd, rfl⟩ := List.mem_map.mp hc
  have := h d hd
  unfold lo1 okC at *
  split <;> omega
theorem ok_up {l : List Nat} (h : ∀ c ∈ l, okC c) : ∀ c ∈ upL l, okC c := fun c hc => by
  obtain ⟨d, hd, rfl⟩ := List.mem_map.mp hc
  have := h d hd
  unfold up1 okC at *
  split <;> omega
abbrev PL := List (List Nat × List Nat)
/-- a text that a header may bear -/
def okT (l : List Nat) : Prop := (∀ c ∈ l, okC c) ∧ l ≠ [] ∧ l.length ≤ 1000
theorem okT.low {l : List Nat} (h : okT l) : okT (lowL l) := ⟨ok_low h.1, fun e => h.2.1 (List.map_eq_nil_iff.mp e), by unfold lowL; rw [List.length_map]; exact h.2.2⟩
theorem okT.up {l : List Nat} (h : okT l) : okT (upL l) := ⟨ok_up h.1, fun e => h.2.1 (List.map_eq_nil_iff.mp e), by unfold upL; rw [List.length_map]; exact h.2.2⟩
def KvsAre (h : Heap) (vs : List Value) (ts : PL) : Prop := vs.length = ts.length ∧ ∀ (i : Nat) (p : List Nat × List Nat), ts[i]? = some p → ∃ T t u, vs[i]? = some (Value.ref T) ∧ h.get? T = some (tupO [Value.str (sOf p.1) t, Value.str (sOf p.2) u])
theorem KvsAre.keeps {h h' : Heap} {vs : List Value} {ts : PL} (P : KvsAre h vs ts) (k : ∀ b o, h.get? b = some o → h'.get? b = some o) : KvsAre h' vs ts :=
  ⟨P.1, fun i c e => let ⟨T, t, u, a, b⟩ := P.2 i c e; ⟨T, t, u, a, k _ _ b⟩⟩
def allOf (ts : PL) (q : List Nat) : List (List Nat) := (ts.filter fun p => lowL p.1 == q).map (·.2)
theorem hd_meth {w : World} {s : Shared} {A : Around} {E : Value → Shared → Prop} {x dx f : Addr} {name : Str} {t : Tok} {v : Value} {pl : Sem Bool} {Q : Value × List Value → Shared → Prop} (G : Gl w s.heap) (hx : s.heap.get? x = some (instObj 217 dx)) (hd : s.heap.get? dx = some (hdDict w.params t v))
    (hf : findIn (KK w.params) (.ref 217) name = some (some (.ref f))) (hfn : isFn (KK w.params) (.ref f) = true) (hs : shadowIn (some (hdDict w.params t v)) name = some false) (h : Q (.ref f, [.ref x]) s) :
    wpAny (MM w) A (getMethod (.ref x) name pl) Q E s :=
  method_fn (od := some (hdDict w.params t v)) G.k ⟨hx, rfl, rfl, hd⟩ (plainGet_of (hd_ga _ name)).1 (plainGet_of (hd_ga _ name)).2 hf (beq_iff_eq.mp hfn) hs h
/-- self._convert_string_type(e, name=True or False), behind the method's finding -/
theorem conv_with {w : World} {s : Shared} {env : Env} {A : Around} {E : Value → Shared → Prop} {sv : Value} {pos kp p3 : Pos} {kk : Nat} {e : Expr} {nb : Bool} {Q : Value → Shared → Prop} (G : Gl w s.heap) (hA : Rm 1 A)
    (h : wpAny (MM w) A (eval e env) (fun v s₁ => ∃ l tl, v = .str (sOf l) tl ∧ okT l ∧ Kp s s₁ ∧ ∀ s₂, Kp s₁ s₂ → Q (.str (sOf l) tl) s₂) E s)
    (he : starEach (e :: []) env = (false, eval e env) :: starEach [] env := by rfl)
    (hplain : ((backTo pos (starEach (e :: []) env)).any (·.1) || (backToKw pos (keywordEach [⟨some "name", .Constant (.bool nb) kk p3, kp⟩] env)).any (·.1.isNone)) = false := by rfl) :
    wpAny (MM w) A (callWith pos (.ref 118) [sv] (backTo pos (starEach [e] env)) (backToKw pos (keywordEach [⟨some "name", .Constant (.bool nb) kk p3, kp⟩] env))) Q E s := by
  refine callWith_KW G.k (by rfl) (by rfl) ?_ hplain he
  refine args_cons ?_ he
  refine wpAny_mono h (fun v s₁ h₁ => ?_) fun _ _ z => z
  obtain ⟨l, tl, rfl, hl, k₁, hq⟩ := h₁
  have G₁ : Gl w s₁.heap := G.keeps fun _ _ e => k₁.get e
  refine args_nil ?_
  walk_at "ww"
  refine ⟨G₁.k, ?_⟩
  show wpAny _ A (call (.ref 118) [sv, .str (sOf l) tl] [("name", .bool nb)]) Q E s₁
  exact wpAny_call (conv_ok G₁ hA hl.1 hl.2.1 hl.2.2 fun s₂ k₂ => hq s₂ k₂)
theorem low_S {w : World} {s : Shared} {A : Around} {E : Value → Shared → Prop} {l : List Nat} {t : Tok} {Q : Value → Shared → Prop} (h : okT l) (hq : Q (.str (sOf (lowL l)) s.toks) { s with toks := s.toks + 1 }) : wpAny (MM w) A (call (.builtin "str.lower") [.str (sOf l) t]) Q E s :=
  SCL.lower (by rw [sOf_len]; have := h.2.2; omega) fun _ => by rw [lower_sOf h.1]; exact hq
theorem up_S {w : World} {s : Shared} {A : Around} {E : Value → Shared → Prop} {l : List Nat} {t : Tok} {Q : Value → Shared → Prop} (h : okT l) (hq : Q (.str (sOf (upL l)) s.toks) { s with toks := s.toks + 1 }) : wpAny (MM w) A (call (.builtin "str.upper") [.str (sOf l) t]) Q E s :=
  SCL.upper (by rw [sOf_len]; have := h.2.2; omega) fun _ => by rw [upper_sOf h.1]; exact hq
set_option maxHeartbeats 8000000 in
theorem all_ok {w : World} {s : Shared} {A : Around} {Q E : Value → Shared → Prop} {x dx l : Addr} {vs : List Value} {n : Nat} {ts : PL} {q : List Nat} {t tq : Tok} (G : Gl w s.heap) (hA : Rm 2 A)
    (hx : s.heap.get? x = some (instObj 217 dx)) (hd : s.heap.get? dx = some (hdDict w.params t (.ref l))) (hl : s.heap.get? l = some (listO vs n)) (hv : KvsAre s.heap vs ts) (hts : ∀ p ∈ ts, okT p.1) (htl : ts.length ≤ 1000) (hq : okT q)
    (h : ∀ D ys k s', Kp s s' → s.heap.get? D = none → s'.heap.get? D = some (listO ys k) → StrsAre ys ((allOf ts (lowL q)).map sOf) → Q (.ref D) s') :
    wpAny (MM w) A (call (.ref 156) [.ref x, .str (sOf q) tq]) Q E s := by
  refine wpAny_call ?_
  refine enter (fd := fd156) (c := 155) (binds := [("self", .ref x), ("name", .str (sOf q) tq)]) (V := [("self", .ref x), ("name", .str (sOf q) tq)]) (body := bodO (meth 11 7)) (by rfl) (by decide) rfl G hA.room rfl (BindsTo.of_eq rfl) rfl rfl rfl ?_ ?_ ?_ rfl rfl rfl
  · intro k x hx
    simp only [List.mem_cons, List.not_mem_nil, or_false] at hx
    rcases hx with rfl | rfl
    · exact .inl rfl
    · exact .inr ⟨rfl, rfl⟩
  · intro L
    exact ⟨.inl ⟨rfl, rfl⟩, .inr ⟨rfl, rfl, rfl⟩, trivial⟩
  · intro L s₁ hL S
    have hA' := hA.deeper (callEnvC fd156 L 156)
    have R := S.rd
    refine wpAny_execs_cons (wpAny_Assign_Name ?_)
    refine methodCall_KW ?_
    walk_at "ww"
    refine hd_meth R.gl' (S.old hx) (S.old hd) (hd_conv _) (hd_f118 _) (by rfl) ?_
    refine conv_with R.gl' (hA'.less (by decide)) ?_
    walk_at "ww"
    refine low_S hq ?_
    refine ⟨lowL q, _, rfl, hq.low, Kp.tok _ _, fun s₂ k₂ => ?_⟩
    refine (S.keeps ((Kp.tok _ _).trans k₂)).store (.inr ⟨rfl, L + 1, rfl, none_ge (Nat.le_trans hL (Nat.le_add_right _ 1))⟩) fun s₃ S₃ => ?_
    clear R S
    have S₃ := S₃.sub (V' := [("self", .ref x), ("name", .str (sOf (lowL q)) s₁.toks)]) ⟨rfl, rfl, trivial⟩
    have R := S₃.rd
    refine wpAny_execs_cons (wpAny_Return_some ?_)
    refine compList (cl := [("name", L + 1)]) hA'.hh R [("name", .str (sOf (lowL q)) s₁.toks)] (fun i ys els => els = [] ∧ StrsAre ys ((allOf (ts.take i) (lowL q)).map sOf)) (by walk_at "side") (vs := vs) (by rw [hv.1]; exact htl) (fun _ => rfl) ?_ ⟨rfl, .nil⟩ ?_ ?_
    · walk_at "ww"
      have I : InstAt s₃.heap x (instObj 217 dx) 217 (some (hdDict w.params t (.ref l))) := ⟨S₃.old hx, rfl, rfl, S₃.old hd⟩
      refine get_value S₃.gl'.k I (plainGet_of (hd_ga _ "_headers")).1 (findObj_own (attr := none) (hd_dict _) rfl rfl rfl) rfl ?_
      exact ⟨l, rfl, Kp.tok _ _, isList_of (S₃.old hl)⟩
    · rintro C i v hvi ys els s₄ E' ⟨rfl, hys⟩ kp - R₄
      clear R
      have hi : i < vs.length := (List.getElem?_eq_some_iff.mp hvi).1
      obtain ⟨p, hpi⟩ : ∃ p, ts[i]? = some p := ⟨ts[i]'(hv.1 ▸ hi), by simp⟩
      obtain ⟨T, u1, u2, hvT, hT⟩ := hv.2 i p hpi
      rw [hvi] at hvT; cases hvT
      have hp := hts p (List.mem_of_getElem? hpi)
      have hT₄ : s₄.heap.get? T = _ := kp.get (S₃.old hT)
      have etk : ts.take (i + 1) = ts.take i ++ [p] := by rw [List.take_add_one, hpi]; rfl
      have eall : allOf (ts.take (i + 1)) (lowL q) = allOf (ts.take i) (lowL q) ++ allOf [p] (lowL q) := by
        rw [etk]; unfold allOf; rw [List.filter_append, List.map_append]
      refine wpAny_tests_one ?_
      walk_at "ww"
      refine item_T (k := 0) hT₄ (by decide) rfl ?_
      walk_at "ww"
      refine low_S hp ?_
      walk_at "ww"
      rw [sOf_beq]
      cases hb : (lowL p.1 == lowL q) with
      | true =>
        rw [if_pos rfl]
        walk_at "ww"
        refine item_T (k := 1) hT₄ (by decide) rfl ?_
        refine ⟨[], R₄.any rfl, rfl, ?_⟩
        have e1 : allOf [p] (lowL q) = [p.2] := by simp [allOf, hb]
        rw [eall, List.map_append, e1]
        exact StrsAre.app hys (.cons _ _ .nil)
      | false =>
        rw [if_neg (by decide)]
        refine ⟨R₄.any rfl, rfl, ?_⟩
        have e1 : allOf [p] (lowL q) = [] := by simp [allOf, hb]
        rw [eall, e1, List.append_nil]
        exact hys
    · rintro D k ys els s₄ ⟨rfl, hys⟩ R₄
      rw [hv.1, List.take_length] at hys
      exact h D ys k s₄ (S₃.keep.trans R₄.kp) (S₃.keep.none (R₄.has _ (.head _)).2) (R₄.at (.head _)) hys
end
section
--LINES
local macro_rules | `(tactic| walk_at "eval Name") => `(tactic| first
  | refine Rd.Nm (Rd.any (by assumption) (by rfl)) (by rfl) ?_
  | refine Rd.Gb (Rd.any (by assumption) (by rfl)) (by rfl) (by rfl) ?_
  | refine Rd.Bl (Rd.any (by assumption) (by rfl)) (by decide) (by first | exact boot_len | exact boot_range | exact boot_sum | exact boot_sorted | exact boot_enumerate | exact boot_zip | exact PyProof.Rows.boot_set | exact PyProof.Rows.boot_type | exact PyProof.Rows.boot_list | exact PyProof.Rows.boot_str) (by rfl) ?_)
local macro_rules | `(tactic| walk_at "side") => `(tactic| (refine ⟨rfl, rfl, by decide, ?_, ?_, fun C => .inl rfl, rfl⟩; ((repeat (refine And.intro ⟨⟨_, rfl⟩, rfl, rfl⟩ ?_)); exact trivial); (intro C; (repeat (refine And.intro ⟨rfl, rfl, ⟨_, rfl⟩, rfl⟩ ?_)); exact trivial)))
local macro_rules | `(tactic| walk_at "newTuple") => `(tactic| (refine newTuple_R (Rd.any (by assumption) (by rfl)) ?_ (by simp [sizeLine]); intro a s' R))
local macro_rules | `(tactic| walk_at "newList") => `(tactic| (refine newList_R (Rd.any (by assumption) (by rfl)) ?_ (by simp [sizeLine]); intro a s' R))
local macro_rules | `(tactic| walk_at "w") => `(tactic| (walk1; try dsimp only))
local macro_rules | `(tactic| walk_at "ww") => `(tactic| repeat ((with_reducible show wpAny _ _ _ _ _ _); walk_at "w"))
local macro_rules | `(tactic| walk_at "callWith ref") => `(tactic| refine callWith_K (Rd.gl' (by assumption)).k (by rfl) ?_)
--ENDLINES
/-! ## Headers.add_header -/
theorem add_bind (a b c : Value) : bindArgs fd214 ⟨[a, b, c], []⟩ = (alloc emptyDict >>= fun d => pure [((Str.ofString "self", a) : Str × Value), (Str.ofString "_name", b), (Str.ofString "_value", c), (Str.ofString "_params", .ref d)]) := by rfl
abbrev itmIt (d : Addr) (i : Nat) (o : Obj) : Prop := i = 0 ∧ o = { cls := .type "dict_itemiterator", data := .fields #[.none, .bool false, .ref d, .int (0 : Nat) 0, .int (0 : Nat) 0, .int (0 : Nat) 0, .none, .none] }
abbrev dEmp (w : World) (d : Addr) (h : Heap) : Prop := h.DictAt (strKind PW w) d [] 0
theorem dEmp_of {w : World} {d : Addr} {h : Heap} (e : h.get? d = some emptyDict) : dEmp w d h := ⟨_, #[], e, ⟨rfl, rfl, rfl⟩, rfl, fun _ h => by simp at h, .nil, List.nodup_nil⟩
theorem ItW.items {w : World} {A : Around} (hh : A.handled = none) (I d : Addr) : ItW w A I 0 (fun _ _ => False) (itmIt d) (dEmp w d) where
  item := fun i s Q E o hi => absurd hi (Nat.not_lt_zero _)
  done := fun s Q E o ho hok hax hQ => by
    obtain ⟨-, rfl⟩ := hok
    exact wpAny_pyNext_items_end (knd := strKind PW w) (kvs := []) hh ho hax rfl fun h' hk => hQ h' s.toks hk
theorem own_itm {w : World} {A : Around} {elts : List Expr} {x1 : Nat} {p1 : Pos} {I d : Addr} (v : Value) (s : Shared) (Q : Unit → Shared → Prop) (E : Value → Shared → Prop) (o : Obj) (i : Nat) (ho : s.heap.get? I = some o) (hok : itmIt d i o) (h : Q () s) :
    wpAny (MM w) A (letOwnedTupleGo (.Tuple elts x1 p1) (.ref I) v) Q E s := by
  obtain ⟨-, rfl⟩ := hok
  cases v with
  | ref T =>
    unfold letOwnedTupleGo
    refine wpAny_bind (wpAny_load ho ?_)
    show wpAny _ A (if (["enumerate", "zip", "dict_itemiterator", "dict_reverseitemiterator", "odict_iterator", "itertools.zip_longest", "itertools.pairwise"].contains "dict_itemiterator" &&
      (#[.none, .bool false, .ref d, .int (0 : Nat) 0, .int (0 : Nat) 0, .int (0 : Nat) 0, .none, .none] : Array Value)[0]? == some (rawInt T)) = true then _ else _) Q E s
    rw [if_neg (by
      rw [Bool.and_eq_true]
      rintro ⟨-, h⟩
      have h : (Value.none == rawInt T) = true := h
      exact Bool.false_ne_true h)]
    exact wpAny_pure h
  | _ => exact wpAny_pure h
set_option maxHeartbeats 8000000 in
theorem add_ok {w : World} {s : Shared} {A : Around} {Q E : Value → Shared → Prop} {x dx l : Addr} {vs : List Value} {n : Nat} {nm vl : List Nat} {t tn tv : Tok} (G : Gl w s.heap) (hA : Rm 2 A)
    (hx : s.heap.get? x = some (instObj 217 dx)) (hd : s.heap.get? dx = some (hdDict w.params t (.ref l))) (hl : s.heap.get? l = some (listO vs n)) (hz : vs.length ≤ 1000) (hn : okT nm) (hv : okT vl)
    (h : ∀ T t1 t2 n' s', KeepsBut l s s' → s'.heap.get? l = some (listO (vs ++ [.ref T]) n') → s.heap.get? T = none → s'.heap.get? T = some (tupO [.str (sOf nm) t1, .str (sOf vl) t2]) → Q .none s') :
    wpAny (MM w) A (call (.ref 214) [.ref x, .str (sOf nm) tn, .str (sOf vl) tv]) Q E s := by
  refine wpAny_call ?_
  have hT : ({ s with heap := s.heap.push emptyDict } : Shared).heap.get? s.heap.objs.size = some emptyDict := Heap.get?_push_size _ rfl
  have hT0 := none_at s.heap
  have k0 : Kp s { s with heap := s.heap.push emptyDict } := Kp.push _ _
  have hsys : (s.heap.objs.size == sysModules) = false := by
    have := Heap.lt_size (G.k 251 _ (by rfl : (KK w.params).lookup 251 = some (fnO fd251)))
    rw [beq_eq_false_iff_ne]
    intro e
    rw [e] at this
    exact absurd this (by decide)
  refine enterB (s1 := { s with heap := s.heap.push emptyDict }) (fd := fd214) (c := 213) (binds := [("self", .ref x), ("_name", .str (sOf nm) tn), ("_value", .str (sOf vl) tv), ("_params", .ref s.heap.objs.size)]) (V := [("self", .ref x), ("_name", .str (sOf nm) tn), ("_value", .str (sOf vl) tv), ("_params", .ref s.heap.objs.size)]) (body := bodO (meth 11 16))
    (by rfl) (by decide) rfl G k0 hA.room rfl ?_ rfl rfl rfl ?_ ?_ ?_ rfl rfl rfl
  · intro M A E Q hq
    rw [add_bind]
    exact wpAny_bind (wpAny_alloc (wpAny_pure hq))
  · intro k x hx
    simp only [List.mem_cons, List.not_mem_nil, or_false] at hx
    rcases hx with rfl | rfl | rfl | rfl <;> exact .inl rfl
  · intro L
    exact ⟨.inl ⟨rfl, rfl⟩, .inl ⟨rfl, rfl⟩, .inl ⟨rfl, rfl⟩, .inl ⟨rfl, rfl⟩, trivial⟩
  · intro L s₁ hL S
    generalize s.heap.objs.size = d at *
    have hA' := hA.deeper (callEnvC fd214 L 214)
    have S0 := S.rebase (l := [(d, emptyDict)]) G k0 rfl (fun p hp => by rw [List.mem_singleton.mp hp]; exact ⟨hT, hT0⟩) (by simp)
    clear S
    have R := S0.rd
    refine wpAny_execs_cons (wpAny_Assign_Name ?_)
    walk_at "ww"
    rename_i aP s₂ R₂
    refine (S0.back R₂).store (.inl rfl) fun s₃ S₃ => ?_
    clear R R₂ S0
    have S₃ := S₃.sub (V' := [("self", .ref x), ("_name", .str (sOf nm) tn), ("_value", .str (sOf vl) tv), ("_params", .ref d), ("parts", .ref aP)]) ⟨rfl, rfl, rfl, rfl, rfl, trivial⟩
    have R := S₃.rd
    refine wpAny_execs_cons (wpAny_If ?_)
    walk_at "ww"
    rw [if_pos rfl]
    refine wpAny_execs_cons (wpAny_Assign_Name ?_)
    refine methodCall_KW ?_
    walk_at "ww"
    refine hd_meth (s := { s₃ with toks := s₃.toks }) R.gl' (S₃.old hx) (S₃.old hd) (hd_conv _) (hd_f118 _) (by rfl) ?_
    refine conv_with R.gl' (hA'.less (by decide)) ?_
    walk_at "ww"
    refine ⟨vl, _, rfl, hv, Kp.refl _, fun s₄ k₄ => ?_⟩
    refine (S₃.keeps k₄).store (.inl rfl) fun s₅ S₅ => ?_
    clear R S₃
    have S₅ := S₅.sub (V' := [("self", .ref x), ("_name", .str (sOf nm) tn), ("_value", .str (sOf vl) tv), ("_params", .ref d), ("parts", .ref aP)]) ⟨rfl, rfl, rfl, rfl, rfl, trivial⟩
    have R := S₅.rd
    refine wpAny_execs_cons (wpAny_Expr_any ?_)
    walk_at "ww"
    refine PySem.Calls.getMethod_list_append (S₅.at (.head _)) rfl rfl ?_
    walk_at "ww"
    refine append_L (S₅.at (.head _)) (by simp) fun s₆ n₆ kb e₆ => ?_
    have S₆ := S₅.mut1 kb e₆
    clear R S₅
    refine wpAny_execs_nil ?_
    dsimp only
    have R := S₆.rd
    refine wpAny_execs_cons ?_
    refine forW S₆ (fun _ => rfl) ?_
    walk_at "ww"
    have hdd := S₆.at (.tail _ (.head _))
    refine getMethod_builtin (T := "dict") ⟨_, hdd, rfl⟩ PySem.F.plainAttrs_dict PySem.F.slot_dict_items PySem.F.type_dict_items (fun b hb => by cases hb; exact ⟨_, hdd, rfl⟩) ?_
    walk_at "ww"
    refine call_meetsIn PySem.F.slot_dict_items ⟨_, hdd, rfl⟩ PySem.F.entry_dict_items (PySem.F.args_dict_items_1 _) (meets_dict_items (strKind PW w) d hsys) ⟨⟨[], let ⟨o, es, r⟩ := dEmp_of (w := w) hdd; ⟨o, es, 0, r⟩⟩, ?_⟩
    have R₇ := R.push { cls := .type "dict_items", data := .fields #[.ref d] }
    show wpAny (MM w) _ (pyIter (.ref s₆.heap.objs.size)) _ _ _
    refine wpAny_pyIter_items (knd := strKind PW w) (kvs := []) (ep := 0) ⟨_, R₇.at (.head _), rfl, rfl⟩ (dEmp_of (R₇.kp.get hdd)) ?_
    refine ⟨_, _, [(_, _)], 0, _, itmIt d, dEmp w d, fun i V led => V = ([("self", .ref x), ("_name", .str (sOf nm) tn), ("_value", .str (sOf vl) tv), ("_params", .ref d), ("parts", .ref aP)] : VL) ∧ (aP, listO [.str (sOf vl) tv] n₆) ∈ led ∧ (d, emptyDict) ∈ led,
      rfl, ItW.items hA'.hh _ d, R₇.push _, ⟨rfl, rfl⟩, ⟨rfl, by simp, by simp⟩, fun i V led s J S => dEmp_of (S.at J.2.2), fun v s Q E o i ho hok hq => own_itm v s Q E o i ho hok hq, fun i v V led s o E' hi => absurd hi (Nat.not_lt_zero _), ?_⟩
    rintro V led s₇ ⟨rfl, hmP, -⟩ S₇
    clear R R₇ S₆
    have R := S₇.rd
    refine wpAny_execs_cons (wpAny_Expr_any ?_)
    walk_at "ww"
    have I : InstAt s₇.heap x (instObj 217 dx) 217 (some (hdDict w.params t (.ref l))) := ⟨S₇.old hx, rfl, rfl, S₇.old hd⟩
    refine get_value S₇.gl'.k I (plainGet_of (hd_ga _ "_headers")).1 (findObj_own (attr := none) (hd_dict _) rfl rfl rfl) rfl ?_
    walk_at "ww"
    refine PySem.Calls.getMethod_list_append (S₇.old hl) rfl rfl ?_
    walk_at "ww"
    refine methodCall_KW ?_
    walk_at "ww"
    refine hd_meth (R.any rfl).gl' (S₇.old hx) (S₇.old hd) (hd_conv _) (hd_f118 _) (by rfl) ?_
    refine conv_with (R.any rfl).gl' (hA'.less (by decide)) ?_
    walk_at "ww"
    refine ⟨nm, _, rfl, hn, Kp.refl _, fun s₈ k₈ => ?_⟩
    have S₈ := (S₇.keeps (Kp.tok _ (s₇.toks + 1))).keeps k₈
    clear R
    have R := S₈.rd
    walk_at "ww"
    refine join_list (isList_of (S₈.at hmP)) (ys := [sOf vl]) (StrsAre.cons _ _ .nil) ?_ fun t' k => ?_
    · have := hv.2.2
      rw [show (Str.ofString "; ").length = 2 from by decide]
      simp [sOf_len]; omega
    have ej : Txt.join (Str.ofString "; ") [sOf vl] = sOf vl := by
      show Builtin.Str.glued _ _ = _
      rw [StrLaws.glued_eq_join]; rfl
    rw [ej]
    have S₉ := S₈.keeps (Kp.tok _ k)
    clear R S₈ S₇
    have R := S₉.rd
    walk_at "ww"
    rename_i aT s₁₀ R₁₀
    have S₁₀ := S₉.back R₁₀
    refine append_L (S₁₀.old hl) hz fun s₁₁ n₁₁ kb e₁₁ => ?_
    refine wpAny_execs_nil ?_
    have hTn := S₉.keep.none (R₁₀.has _ (.head _)).2
    have hTl : aT ≠ l := fun e => by rw [e, hl] at hTn; cases hTn
    exact h aT _ _ n₁₁ s₁₁ ((S₁₀.keep.but l).trans kb) e₁₁ hTn (kb.get hTl (S₁₀.at (.head _)))
end
section
/-! ## The plain law: join -/
def okR (r : List Nat) : Prop := r.length = 4 ∧ ∀ x ∈ r, 97 ≤ x ∧ x ≤ 112
/-- a made row: signs where known, points elsewhere -/
def Shape (kn : Nat) (x : List Nat) : Prop := x.length = 4 ∧ ∀ c, c < 4 → if kn.testBit c then 97 ≤ x.getD c 0 ∧ x.getD c 0 ≤ 112 else x.getD c 0 = 46
def AgOn (p : Nat) (x r : List Nat) : Prop := ∀ c, c < 4 → p.testBit c = true → x.getD c 0 = r.getD c 0
def dotsL : List Nat := [46, 46, 46, 46]
def nameL (row : List Nat) (m : Nat) : List Nat := 107 :: cutL row m
def tabStep (m part : Nat) (ts : PL) (row : List Nat) : PL := if (allOf ts (lowL (nameL row m))).contains (cutL row part) then ts else ts ++ [(nameL row m, cutL row part)]
def tabOf (rows : List (List Nat)) (m part : Nat) : PL := rows.foldl (tabStep m part) []
def mergeL (one value : List Nat) : List Nat := (List.range 4).map fun c => if one.getD c 0 = 46 then value.getD c 0 else one.getD c 0
def moreOf (ts : PL) (m : Nat) (made : List (List Nat)) : List (List Nat) := made.flatMap fun one => (allOf ts (lowL (upL (nameL one m)))).map (mergeL one)
def joinStep (rows : List (List Nat)) (st : List (List Nat) × Nat) (part : Nat) : List (List Nat) × Nat :=
  (moreOf (tabOf rows (st.2 &&& part) part) (st.2 &&& part) st.1, st.2 ||| part)
def joinN (rows : List (List Nat)) (ps : List Nat) : List (List Nat) × Nat := ps.foldl (joinStep rows) ([dotsL], 0)

theorem getD_range (f : Nat → Nat) {c : Nat} (hc : c < 4) : ((List.range 4).map f).getD c 0 = f c := by
  rw [List.getD_eq_getElem?_getD, List.getElem?_map, List.getElem?_range hc]; rfl
theorem cut_at {row : List Nat} {p c : Nat} (hc : c < 4) : (cutL row p).getD c 0 = if p.testBit c then row.getD c 0 else 46 := getD_range _ hc
theorem cut_len (row : List Nat) (p : Nat) : (cutL row p).length = 4 := by unfold cutL; simp
theorem merge_at {one v : List Nat} {c : Nat} (hc : c < 4) : (mergeL one v).getD c 0 = if one.getD c 0 = 46 then v.getD c 0 else one.getD c 0 := getD_range _ hc
theorem merge_len (one v : List Nat) : (mergeL one v).length = 4 := by unfold mergeL; simp
theorem four_ext {a b : List Nat} (ha : a.length = 4) (hb : b.length = 4) (h : ∀ c, c < 4 → a.getD c 0 = b.getD c 0) : a = b := by
  refine List.ext_getElem (ha.trans hb.symm) fun i hi hi' => ?_
  have := h i (ha ▸ hi)
  simpa only [List.getD_eq_getElem?_getD, List.getElem?_eq_getElem hi, List.getElem?_eq_getElem hi', Option.getD_some] using this
theorem okR.at {r : List Nat} (h : okR r) {c : Nat} (hc : c < 4) : 97 ≤ r.getD c 0 ∧ r.getD c 0 ≤ 112 := by
  have : c < r.length := by rw [h.1]; exact hc
  rw [List.getD_eq_getElem?_getD, List.getElem?_eq_getElem this]
  exact h.2 _ (List.getElem_mem _)
theorem cut_eq {a b : List Nat} {p : Nat} : cutL a p = cutL b p ↔ AgOn p a b := by
  constructor
  · intro h c hc hb
    have := congrArg (fun l : List Nat => l.getD c 0) h
    simp only [cut_at hc, hb, if_true] at this
    exact this
  · intro h
    refine four_ext (cut_len _ _) (cut_len _ _) fun c hc => ?_
    rw [cut_at hc, cut_at hc]
    split
    · rename_i hb; exact h c hc hb
    · rfl
theorem cut_shape {x : List Nat} {kn m : Nat} (h : Shape kn x) : ∀ y ∈ cutL x m, y = 46 ∨ (97 ≤ y ∧ y ≤ 112) := by
  intro y hy
  unfold cutL at hy
  obtain ⟨c, hc, rfl⟩ := List.mem_map.mp hy
  have hc := List.mem_range.mp hc
  split
  · have := h.2 c hc
    split at this
    · exact .inr this
    · exact .inl this
  · exact .inl rfl
theorem okR.shape {r : List Nat} (h : okR r) : Shape 15 r := by
  refine ⟨h.1, fun c hc => ?_⟩
  have : (15 : Nat).testBit c = true := by
    have : c = 0 ∨ c = 1 ∨ c = 2 ∨ c = 3 := by omega
    rcases this with rfl | rfl | rfl | rfl <;> decide
  rw [if_pos this]
  exact h.at hc
theorem name_okT {x : List Nat} {kn m : Nat} (h : Shape kn x) : okT (nameL x m) := by
  refine ⟨fun c hc => ?_, (fun e => by cases e), ?_⟩
  · rcases List.mem_cons.mp hc with rfl | hc
    · unfold okC; omega
    · have := cut_shape h c hc
      unfold okC; omega
  · show (cutL x m).length + 1 ≤ 1000
    rw [cut_len]; decide
theorem cut_okT {x : List Nat} {kn m : Nat} (h : Shape kn x) : okT (cutL x m) := by
  refine ⟨fun c hc => ?_, (fun e => by have := cut_len x m; rw [e] at this; cases this), by rw [cut_len]; decide⟩
  have := cut_shape h c hc
  unfold okC; omega
theorem low_fix {l : List Nat} (h : ∀ c ∈ l, c = 46 ∨ 97 ≤ c) : lowL l = l := by
  unfold lowL
  refine (List.map_congr_left fun c hc => ?_).trans (List.map_id l)
  have := h c hc
  show lo1 c = c
  unfold lo1
  rw [if_neg (by omega)]
theorem low_up_fix {l : List Nat} (h : ∀ c ∈ l, c = 46 ∨ (97 ≤ c ∧ c ≤ 112)) : lowL (upL l) = l := by
  unfold lowL upL
  rw [List.map_map]
  refine (List.map_congr_left fun c hc => ?_).trans (List.map_id l)
  have := h c hc
  show lo1 (up1 c) = c
  unfold up1
  split
  · unfold lo1; rw [if_pos (by omega)]; omega
  · unfold lo1; rw [if_neg (by omega)]
theorem name_signs {x : List Nat} {kn m : Nat} (h : Shape kn x) : ∀ c ∈ nameL x m, c = 46 ∨ (97 ≤ c ∧ c ≤ 112) := fun c hc => by
  rcases List.mem_cons.mp hc with rfl | hc
  · omega
  · exact cut_shape h c hc
theorem name_low {x : List Nat} {kn m : Nat} (h : Shape kn x) : lowL (nameL x m) = nameL x m := low_fix fun c hc => by have := name_signs h c hc; omega
theorem name_up {x : List Nat} {kn m : Nat} (h : Shape kn x) : lowL (upL (nameL x m)) = nameL x m := low_up_fix (name_signs h)
theorem name_eq {a b : List Nat} {m : Nat} : nameL a m = nameL b m ↔ AgOn m a b := by
  rw [← cut_eq]; unfold nameL; simp
/-- what the table holds behind some rows -/
structure TInv (m part : Nat) (rows : List (List Nat)) (ts : PL) : Prop where
  from' : ∀ p ∈ ts, ∃ r ∈ rows, p = (nameL r m, cutL r part)
  all : ∀ r ∈ rows, (nameL r m, cutL r part) ∈ ts
  nd : (ts.map (·.2)).Nodup
  few : ts.length ≤ rows.length
theorem mem_allOf {ts : PL} {q v : List Nat} : v ∈ allOf ts q ↔ ∃ p ∈ ts, lowL p.1 = q ∧ p.2 = v := by
  unfold allOf
  simp only [List.mem_map, List.mem_filter, beq_iff_eq]
  exact ⟨fun ⟨p, ⟨a, b⟩, c⟩ => ⟨p, a, b, c⟩, fun ⟨p, a, b, c⟩ => ⟨p, ⟨a, b⟩, c⟩⟩
theorem TInv.step {m part : Nat} {rows : List (List Nat)} {ts : PL} {row : List Nat} (T : TInv m part rows ts) (hr : ∀ r ∈ rows, okR r) (hrow : okR row) (hm : ∀ c, c < 4 → m.testBit c = true → part.testBit c = true) : TInv m part (rows ++ [row]) (tabStep m part ts row) := by
  have up : ∀ p ∈ ts, ∃ r ∈ rows ++ [row], p = (nameL r m, cutL r part) := fun p hp => let ⟨r, h, e⟩ := T.from' p hp; ⟨r, List.mem_append_left _ h, e⟩
  unfold tabStep
  rw [name_low hrow.shape]
  split
  · rename_i hin
    rw [List.contains_iff_mem, mem_allOf] at hin
    obtain ⟨p, hp, e1, e2⟩ := hin
    obtain ⟨r, hr', e⟩ := T.from' p hp
    rw [e] at e1
    have e1 : nameL r m = nameL row m := (name_low (hr r hr').shape).symm.trans e1
    have hp' : (nameL row m, cutL row part) ∈ ts := by rw [← e1, ← e2]; rw [e] at hp ⊢; exact hp
    refine ⟨up, fun r hr => ?_, T.nd, by rw [List.length_append]; have := T.few; omega⟩
    rcases List.mem_append.mp hr with h | h
    · exact T.all r h
    · rw [List.mem_singleton.mp h]; exact hp'
  · rename_i hin
    rw [List.contains_iff_mem, mem_allOf] at hin
    refine ⟨fun p hp => ?_, fun r hr => ?_, ?_, by rw [List.length_append, List.length_append]; have := T.few; simp; omega⟩
    · rcases List.mem_append.mp hp with h | h
      · exact up p h
      · exact ⟨row, List.mem_append_right _ (.head _), List.mem_singleton.mp h⟩
    · rcases List.mem_append.mp hr with h | h
      · exact List.mem_append_left _ (T.all r h)
      · rw [List.mem_singleton.mp h]; exact List.mem_append_right _ (.head _)
    · rw [List.map_append]
      refine List.nodup_append.mpr ⟨T.nd, by simp, fun a ha b hb e => ?_⟩
      obtain ⟨p, hp, rfl⟩ := List.mem_map.mp ha
      have hb : b = cutL row part := by simpa using hb
      subst hb
      obtain ⟨r, hr', e'⟩ := T.from' p hp
      refine hin ⟨p, hp, ?_, e⟩
      rw [e'] at e ⊢
      have : AgOn part r row := cut_eq.mp e
      show lowL (nameL r m) = nameL row m
      rw [name_low (hr r hr').shape]
      exact name_eq.mpr fun c hc hb => this c hc (hm c hc hb)
theorem TInv.fold {m part : Nat} (hm : ∀ c, c < 4 → m.testBit c = true → part.testBit c = true) : ∀ (more done : List (List Nat)) (ts : PL), TInv m part done ts → (∀ r ∈ done, okR r) → (∀ r ∈ more, okR r) → TInv m part (done ++ more) (more.foldl (tabStep m part) ts)
  | [], done, ts, T, _, _ => by simpa using T
  | r :: more, done, ts, T, h, g => by
    have := TInv.fold hm more (done ++ [r]) (tabStep m part ts r) (T.step h (g r (.head _)) hm) (fun x hx => by
      rcases List.mem_append.mp hx with q | q
      · exact h x q
      · rw [List.mem_singleton.mp q]; exact g r (.head _)) fun x hx => g x (.tail _ hx)
    simpa using this
theorem tab_inv {rows : List (List Nat)} {m part : Nat} (h : ∀ r ∈ rows, okR r) (hm : ∀ c, c < 4 → m.testBit c = true → part.testBit c = true) : TInv m part rows (tabOf rows m part) := by
  have := TInv.fold hm rows [] [] ⟨(fun _ h => nomatch h), (fun _ h => nomatch h), by simp, by simp⟩ (fun _ h => nomatch h) h
  simpa [tabOf] using this
theorem and_sub {kn part c : Nat} (h : (kn &&& part).testBit c = true) : kn.testBit c = true ∧ part.testBit c = true := by
  rw [Nat.testBit_and, Bool.and_eq_true] at h; exact h
theorem mem_tab {rows : List (List Nat)} {kn part : Nat} {one v : List Nat} (h : ∀ r ∈ rows, okR r) (ho : Shape kn one) :
    v ∈ allOf (tabOf rows (kn &&& part) part) (lowL (upL (nameL one (kn &&& part)))) ↔ ∃ r ∈ rows, AgOn (kn &&& part) r one ∧ v = cutL r part := by
  have T := tab_inv (m := kn &&& part) (part := part) h fun c _ hb => (and_sub hb).2
  rw [name_up ho, mem_allOf]
  constructor
  · rintro ⟨p, hp, e1, e2⟩
    obtain ⟨r, hr, e⟩ := T.from' p hp
    subst e
    refine ⟨r, hr, name_eq.mp ((name_low (h r hr).shape).symm.trans e1), e2.symm⟩
  · rintro ⟨r, hr, ha, rfl⟩
    exact ⟨_, T.all r hr, (name_low (h r hr).shape).trans (name_eq.mpr ha), rfl⟩
theorem all_nd {ts : PL} {q : List Nat} (h : (ts.map (·.2)).Nodup) : (allOf ts q).Nodup :=
  h.sublist (List.filter_sublist.map _)
theorem all_len (ts : PL) (q : List Nat) : (allOf ts q).length ≤ ts.length := by
  unfold allOf; rw [List.length_map]; exact List.length_filter_le _ _
theorem more_len (ts : PL) (m : Nat) : ∀ made : List (List Nat), (moreOf ts m made).length ≤ made.length * ts.length
  | [] => by simp [moreOf]
  | a :: r => by
    have ih := more_len ts m r
    have e : moreOf ts m (a :: r) = (allOf ts (lowL (upL (nameL a m)))).map (mergeL a) ++ moreOf ts m r := by unfold moreOf; rw [List.flatMap_cons]
    have := all_len ts (lowL (upL (nameL a m)))
    rw [e, List.length_append, List.length_map, List.length_cons, Nat.succ_mul]
    omega
/-- the made rows are all rows whose parts stand in rows -/
structure JInv (rows : List (List Nat)) (ps : List Nat) (M : List (List Nat)) (kn : Nat) : Prop where
  sub : ∀ p ∈ ps, ∀ c, c < 4 → p.testBit c = true → kn.testBit c = true
  mem : ∀ x, x ∈ M ↔ Shape kn x ∧ ∀ p ∈ ps, ∃ r ∈ rows, AgOn p x r
  nd : M.Nodup
  few : M.length ≤ rows.length ^ ps.length
theorem merge_known {one v : List Nat} {kn c : Nat} (ho : Shape kn one) (hc : c < 4) (hb : kn.testBit c = true) : (mergeL one v).getD c 0 = one.getD c 0 := by
  have := ho.2 c hc
  rw [if_pos hb] at this
  rw [merge_at hc, if_neg (by omega)]
theorem merge_new {one r : List Nat} {kn part c : Nat} (ho : Shape kn one) (hc : c < 4) (hb : kn.testBit c = false) : (mergeL one (cutL r part)).getD c 0 = if part.testBit c then r.getD c 0 else 46 := by
  have := ho.2 c hc
  rw [if_neg (by rw [hb]; decide)] at this
  rw [merge_at hc, if_pos this, cut_at hc]
theorem merge_shape {one r : List Nat} {kn part : Nat} (ho : Shape kn one) (hr : okR r) : Shape (kn ||| part) (mergeL one (cutL r part)) := by
  refine ⟨merge_len _ _, fun c hc => ?_⟩
  rw [Nat.testBit_or]
  cases hb : kn.testBit c with
  | true =>
    have := ho.2 c hc
    rw [if_pos hb] at this
    rw [merge_known ho hc hb]; simpa using this
  | false =>
    rw [merge_new ho hc hb]
    cases hp : part.testBit c with
    | true => simpa using hr.at hc
    | false => simp
theorem merge_ag {one r : List Nat} {kn part : Nat} (ho : Shape kn one) (ha : AgOn (kn &&& part) r one) : AgOn part (mergeL one (cutL r part)) r := by
  intro c hc hb
  cases hk : kn.testBit c with
  | true => rw [merge_known ho hc hk]; exact (ha c hc (by rw [Nat.testBit_and, hk, hb]; rfl)).symm
  | false => rw [merge_new ho hc hk, if_pos hb]
theorem cut_back {one v : List Nat} {kn : Nat} (ho : Shape kn one) : cutL (mergeL one v) kn = one := by
  refine four_ext (cut_len _ _) ho.1 fun c hc => ?_
  rw [cut_at hc]
  split
  · rename_i hb; exact merge_known ho hc hb
  · rename_i hb
    have := ho.2 c hc
    rw [if_neg hb] at this
    exact this.symm
theorem cut_back2 {one r : List Nat} {kn part : Nat} (ho : Shape kn one) (ha : AgOn (kn &&& part) r one) : cutL (mergeL one (cutL r part)) part = cutL r part := cut_eq.mpr (merge_ag ho ha)
theorem JInv.step {rows : List (List Nat)} {ps : List Nat} {M : List (List Nat)} {kn : Nat} (part : Nat) (h : ∀ r ∈ rows, okR r) (J : JInv rows ps M kn) : JInv rows (ps ++ [part]) (joinStep rows (M, kn) part).1 (joinStep rows (M, kn) part).2 := by
  have T := tab_inv (rows := rows) (m := kn &&& part) (part := part) h fun c _ hb => (and_sub hb).2
  have mem : ∀ x, x ∈ moreOf (tabOf rows (kn &&& part) part) (kn &&& part) M ↔ ∃ one ∈ M, ∃ r ∈ rows, AgOn (kn &&& part) r one ∧ x = mergeL one (cutL r part) := fun x => by
    unfold moreOf
    simp only [List.mem_flatMap, List.mem_map]
    constructor
    · rintro ⟨one, ho, v, hv, rfl⟩
      obtain ⟨r, hr, ha, rfl⟩ := (mem_tab h ((J.mem one).mp ho).1).mp hv
      exact ⟨one, ho, r, hr, ha, rfl⟩
    · rintro ⟨one, ho, r, hr, ha, rfl⟩
      exact ⟨one, ho, _, (mem_tab h ((J.mem one).mp ho).1).mpr ⟨r, hr, ha, rfl⟩, rfl⟩
  refine ⟨fun p hp c hc hb => ?_, fun x => ?_, ?_, ?_⟩
  · show (kn ||| part).testBit c = true
    rw [Nat.testBit_or]
    rcases List.mem_append.mp hp with q | q
    · rw [J.sub p q c hc hb]; rfl
    · rw [← List.mem_singleton.mp q, hb]; simp
  · show x ∈ moreOf (tabOf rows (kn &&& part) part) (kn &&& part) M ↔ Shape (kn ||| part) x ∧ _
    rw [mem]
    constructor
    · rintro ⟨one, ho, r, hr, ha, rfl⟩
      obtain ⟨hs, hall⟩ := (J.mem one).mp ho
      refine ⟨merge_shape hs (h r hr), fun p hp => ?_⟩
      rcases List.mem_append.mp hp with q | q
      · obtain ⟨r', hr', ha'⟩ := hall p q
        exact ⟨r', hr', fun c hc hb => (merge_known hs hc (J.sub p q c hc hb)).trans (ha' c hc hb)⟩
      · rw [List.mem_singleton.mp q]
        exact ⟨r, hr, merge_ag hs ha⟩
    · rintro ⟨hs, hall⟩
      have so : Shape kn (cutL x kn) := by
        refine ⟨cut_len _ _, fun c hc => ?_⟩
        rw [cut_at hc]
        have := hs.2 c hc
        rw [Nat.testBit_or] at this
        cases hb : kn.testBit c with
        | true => rw [hb] at this; simpa using this
        | false => simp
      obtain ⟨r, hr, ha⟩ := hall part (List.mem_append_right _ (.head _))
      refine ⟨cutL x kn, (J.mem _).mpr ⟨so, fun p hp => ?_⟩, r, hr, fun c hc hb => ?_, ?_⟩
      · obtain ⟨r', hr', ha'⟩ := hall p (List.mem_append_left _ hp)
        exact ⟨r', hr', fun c hc hb => by rw [cut_at hc, if_pos (J.sub p hp c hc hb)]; exact ha' c hc hb⟩
      · rw [cut_at hc, if_pos (and_sub hb).1]
        exact (ha c hc (and_sub hb).2).symm
      · refine four_ext hs.1 (merge_len _ _) fun c hc => ?_
        cases hb : kn.testBit c with
        | true => rw [merge_known so hc hb, cut_at hc, if_pos hb]
        | false =>
          rw [merge_new so hc hb]
          cases hp : part.testBit c with
          | true => rw [if_pos rfl]; exact ha c hc hp
          | false =>
            have := hs.2 c hc
            rw [Nat.testBit_or, hb, hp] at this
            simpa using this
  · show (moreOf (tabOf rows (kn &&& part) part) (kn &&& part) M).Nodup
    unfold moreOf
    refine List.pairwise_flatMap.mpr ⟨fun one ho => ?_, ?_⟩
    · have hs := ((J.mem one).mp ho).1
      refine List.pairwise_map.mpr (List.Pairwise.imp_of_mem (fun {a b} ha hb hne e => ?_) (all_nd T.nd))
      obtain ⟨r, hr, ag, rfl⟩ := (mem_tab h hs).mp ha
      obtain ⟨r', hr', ag', rfl⟩ := (mem_tab h hs).mp hb
      exact hne (by rw [← cut_back2 hs ag, e, cut_back2 hs ag'])
    · refine List.Pairwise.imp_of_mem (fun {a b} ha hb hne x hx y hy e => ?_) J.nd
      obtain ⟨v, _, rfl⟩ := List.mem_map.mp hx
      obtain ⟨v', _, rfl⟩ := List.mem_map.mp hy
      exact hne (by rw [← cut_back ((J.mem a).mp ha).1, e, cut_back ((J.mem b).mp hb).1])
  · show (moreOf (tabOf rows (kn &&& part) part) (kn &&& part) M).length ≤ _
    refine Nat.le_trans (more_len _ _ _) ?_
    rw [List.length_append, List.length_singleton, Nat.pow_succ]
    exact Nat.mul_le_mul J.few T.few
theorem join_inv {rows : List (List Nat)} (h : ∀ r ∈ rows, okR r) : ∀ ps : List Nat, JInv rows ps (joinN rows ps).1 (joinN rows ps).2 := by
  have key : ∀ (more done : List Nat) (st : List (List Nat) × Nat), JInv rows done st.1 st.2 → JInv rows (done ++ more) (more.foldl (joinStep rows) st).1 (more.foldl (joinStep rows) st).2 := by
    intro more
    induction more with
    | nil => intro done st J; simpa using J
    | cons p more ih =>
      intro done st J
      have := ih (done ++ [p]) (joinStep rows st p) (J.step p h)
      simpa using this
  intro ps
  have := key ps [] ([dotsL], 0) ⟨(fun _ h => nomatch h), fun x => ?_, by simp, by simp⟩
  · simpa [joinN] using this
  · rw [List.mem_singleton]
    constructor
    · rintro rfl
      refine ⟨⟨rfl, fun c hc => ?_⟩, fun _ h => nomatch h⟩
      rw [if_neg (by simp)]
      have : c = 0 ∨ c = 1 ∨ c = 2 ∨ c = 3 := by omega
      rcases this with rfl | rfl | rfl | rfl <;> rfl
    · rintro ⟨hs, -⟩
      refine four_ext hs.1 rfl fun c hc => ?_
      have := hs.2 c hc
      rw [if_neg (by simp)] at this
      rw [this]
      have : c = 0 ∨ c = 1 ∨ c = 2 ∨ c = 3 := by omega
      rcases this with rfl | rfl | rfl | rfl <;> rfl
end
section
--LINES
local macro_rules | `(tactic| walk_at "eval Name") => `(tactic| first
  | refine Rd.Nm (Rd.any (by assumption) (by rfl)) (by rfl) ?_
  | refine Rd.Gb (Rd.any (by assumption) (by rfl)) (by rfl) (by rfl) ?_
  | refine Rd.Bl (Rd.any (by assumption) (by rfl)) (by decide) (by first | exact boot_len | exact boot_range | exact boot_sum | exact boot_sorted | exact boot_enumerate | exact boot_zip | exact PyProof.Rows.boot_set | exact PyProof.Rows.boot_type | exact PyProof.Rows.boot_list | exact PyProof.Rows.boot_str) (by rfl) ?_)
local macro_rules | `(tactic| walk_at "side") => `(tactic| (refine ⟨rfl, rfl, by decide, ?_, ?_, fun C => .inl rfl, rfl⟩; ((repeat (refine And.intro ⟨⟨_, rfl⟩, rfl, rfl⟩ ?_)); exact trivial); (intro C; (repeat (refine And.intro ⟨rfl, rfl, ⟨_, rfl⟩, rfl⟩ ?_)); exact trivial)))
local macro_rules | `(tactic| walk_at "newTuple") => `(tactic| (refine newTuple_R (Rd.any (by assumption) (by rfl)) ?_ (by simp [sizeLine]); intro a s' R))
local macro_rules | `(tactic| walk_at "newList") => `(tactic| (refine newList_R (Rd.any (by assumption) (by rfl)) ?_ (by simp [sizeLine]); intro a s' R))
local macro_rules | `(tactic| walk_at "w") => `(tactic| (walk1; try dsimp only))
local macro_rules | `(tactic| walk_at "ww") => `(tactic| repeat ((with_reducible show wpAny _ _ _ _ _ _); walk_at "w"))
local macro_rules | `(tactic| walk_at "callWith ref") => `(tactic| refine callWith_K (Rd.gl' (by assumption)).k (by rfl) ?_)
--ENDLINES
/-! ## _law_join: the table's rows -/
def KvsIn (led : LL) (vs : List Value) (ts : PL) : Prop := vs.length = ts.length ∧ ∀ (i : Nat) (p : List Nat × List Nat), ts[i]? = some p → ∃ T t u, vs[i]? = some (Value.ref T) ∧ (T, tupO [Value.str (sOf p.1) t, Value.str (sOf p.2) u]) ∈ led
theorem KvsIn.are {led : LL} {vs : List Value} {ts : PL} {h : Heap} (P : KvsIn led vs ts) (k : ∀ p ∈ led, h.get? p.1 = some p.2) : KvsAre h vs ts :=
  ⟨P.1, fun i c e => let ⟨T, t, u, a, b⟩ := P.2 i c e; ⟨T, t, u, a, k _ b⟩⟩
theorem KvsIn.add {led : LL} {vs : List Value} {ts : PL} {T : Addr} {a b : List Nat} {t u : Tok} (P : KvsIn led vs ts) : KvsIn ((T, tupO [Value.str (sOf a) t, Value.str (sOf b) u]) :: led) (vs ++ [.ref T]) (ts ++ [(a, b)]) := by
  refine ⟨by simp [P.1], fun i d e => ?_⟩
  rcases Nat.lt_trichotomy i ts.length with q | q | q
  · rw [List.getElem?_append_left q] at e
    obtain ⟨T', t', u', a, b⟩ := P.2 i d e
    exact ⟨T', t', u', by rw [List.getElem?_append_left (by rw [P.1]; exact q)]; exact a, .tail _ b⟩
  · subst q
    simp at e
    subst e
    exact ⟨T, t, u, by rw [← P.1]; simp, .head _⟩
  · rw [List.getElem?_eq_none (by simp; omega)] at e; cases e
/-- an object of the ledger is changed, and a new one comes -/
theorem St.mutAdd {w : World} {s₀ s s' : Shared} {env : Env} {V : VL} {a T : Addr} {o o' oT : Obj} {l : LL} (S : St w s₀ env V ((a, o) :: l) s) (k : KeepsBut a s s') (ho : s'.heap.get? a = some o') (hT : s.heap.get? T = none) (hT' : s'.heap.get? T = some oT) : St w s₀ env V ((a, o') :: (T, oT) :: l) s' := by
  have S' := S.mut1 k ho
  obtain ⟨m, cm, ns, cl, hV⟩ := S.vars
  refine { S' with has := fun p hp => ?_, nd := ?_ }
  · simp only [List.mem_cons] at hp
    rcases hp with rfl | rfl | hp
    · exact S'.has _ (.head _)
    · refine ⟨hT', S.keep.none hT, fun e => ?_, fun n c hc e => ?_⟩
      · obtain ⟨ob, _, _, hob, _⟩ := ns
        exact fresh_ne hT hob e.symm
      · obtain ⟨ob, hob, _⟩ := cl n c hc
        exact fresh_ne hT hob e
    · exact S'.has _ (.tail _ hp)
  · have nd := S.nd
    simp only [List.map_cons, List.nodup_cons, List.mem_cons, not_or] at nd ⊢
    refine ⟨⟨fun e => ?_, nd.1⟩, fun hm => ?_, nd.2⟩
    · exact fresh_ne hT (S.has _ (.head _)).1 e
    · obtain ⟨p, hp, e⟩ := List.mem_map.mp hm
      exact fresh_ne hT (S.has p (.tail _ hp)).1 e
def joB : List Stmt := forBody ((bodO (stm 17)).getD 2 noStm)
def joRow : List Stmt := forBody (joB.getD 1 noStm)
def joOne : List Stmt := forBody (joB.getD 3 noStm)
set_option maxHeartbeats 8000000 in
theorem row_turn {w : World} {s₀ s : Shared} {A : Around} {E : Value → Shared → Prop} {Q : Flow → Shared → Prop} {L ra pa aM x dx l : Addr} {vs : List Value} {n : Nat} {ts : PL} {kn part : Nat} {row : List Nat} {rest rest0 : LL} {tk tp tr t : Tok}
    (S : St w s₀ (callEnvC fd246 L 246) [("rows", .ref ra), ("parts", .ref pa), ("made", .ref aM), ("known", .int (kn : Nat) tk), ("part", .int (part : Nat) tp), ("table", .ref x), ("row", .str (sOf row) tr)] ((l, listO vs n) :: rest) s)
    (hL : s₀.heap.objs.size ≤ L) (hA : Rm 2 A) (mX : (x, instObj 217 dx) ∈ rest) (mD : (dx, hdDict w.params t (.ref l)) ∈ rest) (hsub : ∀ p ∈ rest0, p ∈ rest) (hv : KvsIn rest0 vs ts) (hts : ∀ p ∈ ts, okT p.1) (htl : ts.length ≤ 100) (hrow : okR row)
    (h : ∀ s' vs' n' own, KvsIn (own ++ rest0) vs' (tabStep (kn &&& part) part ts row) → St w s₀ (callEnvC fd246 L 246) [("rows", .ref ra), ("parts", .ref pa), ("made", .ref aM), ("known", .int (kn : Nat) tk), ("part", .int (part : Nat) tp), ("table", .ref x)] ((l, listO vs' n') :: (own ++ rest)) s' → Q .next s') :
    wpAny (MM w) A (execs joRow (callEnvC fd246 L 246)) Q E s := by
  have R := S.rd
  refine wpAny_execs_cons (wpAny_Assign_Name ?_)
  walk_at "ww"
  refine ⟨R.gl'.k, ?_⟩
  rw [bitAnd_nat]
  refine cut_ok (R.any rfl).gl' (hA.less (by decide)) hrow.1 fun s₁ t₁ k₁ => ?_
  refine PyProof.Rows.add_str (fun t' tk' => ?_) (by rw [sOf_len, cut_len]; decide)
  have e1 : (Str.ofString "k" ++ sOf (cutL row (kn &&& part))) = sOf (nameL row (kn &&& part)) := sOf_app [107] _
  rw [e1]
  refine (S.keeps (((Kp.tok _ _).trans k₁).trans (Kp.tok _ tk'))).store (.inl rfl) fun s₂ S₂ => ?_
  clear R S k₁
  have R := S₂.rd
  refine wpAny_execs_cons (wpAny_Assign_Name ?_)
  walk_at "ww"
  refine ⟨R.gl'.k, ?_⟩
  refine cut_ok (R.any rfl).gl' (hA.less (by decide)) hrow.1 fun s₃ t₃ k₃ => ?_
  refine (S₂.keeps k₃).store (.inr ⟨rfl, L + 1, rfl, none_ge (Nat.le_trans hL (Nat.le_add_right _ 1))⟩) fun s₄ S₄ => ?_
  clear R S₂ k₃
  have hnm := name_okT (m := kn &&& part) hrow.shape
  have hvl := cut_okT (m := part) hrow.shape
  generalize hN : nameL row (kn &&& part) = nm at *
  generalize hV : cutL row part = vl at *
  have S₄ := S₄.sub (V' := [("rows", .ref ra), ("parts", .ref pa), ("made", .ref aM), ("known", .int (kn : Nat) tk), ("part", .int (part : Nat) tp), ("table", .ref x), ("name", .str (sOf nm) t'), ("value", .str (sOf vl) t₃)]) ⟨rfl, rfl, rfl, rfl, rfl, rfl, rfl, rfl, trivial⟩
  have R := S₄.rd
  refine wpAny_execs_cons (wpAny_If ?_)
  walk_at "ww"
  refine hd_meth R.gl' (S₄.at (.tail _ mX)) (S₄.at (.tail _ mD)) (hd_get _) (hd_f156 _) (by rfl) ?_
  walk_at "ww"
  refine ⟨R.gl'.k, ?_⟩
  refine all_ok R.gl' hA (S₄.at (.tail _ mX)) (S₄.at (.tail _ mD)) (S₄.at (.head _)) (hv.are fun p hp => S₄.at (.tail _ (hsub p hp))) hts (by omega) hnm fun D ys k s₅ k₅ hD0 hD hys => ?_
  have S₅ := S₄.keeps k₅
  refine notin_list_strs (isList_of hD) hys ?_
  have e2 : (((allOf ts (lowL nm)).map sOf).any fun z => z == sOf vl) = (allOf ts (lowL nm)).contains vl := by
    rw [List.any_map, List.contains_eq_any_beq]
    congr 1
    funext z
    show (sOf z == sOf vl) = (vl == z)
    rw [sOf_beq, Bool.eq_iff_iff, beq_iff_eq, beq_iff_eq]
    exact eq_comm
  rw [e2]
  clear R S₄ k₅
  have R := S₅.rd
  walk_at "ww"
  unfold tabStep at h
  rw [hN, hV] at h
  cases hc : (allOf ts (lowL nm)).contains vl with
  | true =>
    rw [hc, if_pos rfl] at h
    rw [if_neg (by decide)]
    refine wpAny_execs_nil ?_
    dsimp only
    refine wpAny_execs_nil ?_
    exact h _ vs n [] hv ((S₅.keeps (Kp.tok _ _)).sub ⟨rfl, rfl, rfl, rfl, rfl, rfl, trivial⟩)
  | false =>
    rw [hc, if_neg (by decide)] at h
    rw [if_pos (by decide)]
    refine wpAny_execs_cons (wpAny_Expr_any ?_)
    walk_at "ww"
    refine hd_meth (R.any rfl).gl' (S₅.at (.tail _ mX)) (S₅.at (.tail _ mD)) (hd_add _) (hd_f214 _) (by rfl) ?_
    walk_at "ww"
    refine ⟨(R.any rfl).gl'.k, ?_⟩
    refine add_ok (R.any rfl).gl' hA (S₅.at (.tail _ mX)) (S₅.at (.tail _ mD)) (S₅.at (.head _)) (by rw [hv.1]; omega) hnm hvl fun T t1 t2 n' s₆ kb hl6 hT hT6 => ?_
    refine wpAny_execs_nil ?_
    dsimp only
    refine wpAny_execs_nil ?_
    have S₆ := (S₅.keeps (Kp.tok _ _)).mutAdd kb hl6 hT hT6
    exact h _ _ n' [(T, _)] hv.add (S₆.sub ⟨rfl, rfl, rfl, rfl, rfl, rfl, trivial⟩)
end
section
--LINES
local macro_rules | `(tactic| walk_at "eval Name") => `(tactic| first
  | refine Rd.Nm (Rd.any (by assumption) (by rfl)) (by rfl) ?_
  | refine Rd.Gb (Rd.any (by assumption) (by rfl)) (by rfl) (by rfl) ?_
  | refine Rd.Bl (Rd.any (by assumption) (by rfl)) (by decide) (by first | exact boot_len | exact boot_range | exact boot_sum | exact boot_sorted | exact boot_enumerate | exact boot_zip | exact PyProof.Rows.boot_set | exact PyProof.Rows.boot_type | exact PyProof.Rows.boot_list | exact PyProof.Rows.boot_str) (by rfl) ?_)
local macro_rules | `(tactic| walk_at "side") => `(tactic| (refine ⟨rfl, rfl, by decide, ?_, ?_, fun C => .inl rfl, rfl⟩; ((repeat (refine And.intro ⟨⟨_, rfl⟩, rfl, rfl⟩ ?_)); exact trivial); (intro C; (repeat (refine And.intro ⟨rfl, rfl, ⟨_, rfl⟩, rfl⟩ ?_)); exact trivial)))
local macro_rules | `(tactic| walk_at "newTuple") => `(tactic| (refine newTuple_R (Rd.any (by assumption) (by rfl)) ?_ (by simp [sizeLine]); intro a s' R))
local macro_rules | `(tactic| walk_at "newList") => `(tactic| (refine newList_R (Rd.any (by assumption) (by rfl)) ?_ (by simp [sizeLine]); intro a s' R))
local macro_rules | `(tactic| walk_at "w") => `(tactic| (walk1; try dsimp only))
local macro_rules | `(tactic| walk_at "ww") => `(tactic| repeat ((with_reducible show wpAny _ _ _ _ _ _); walk_at "w"))
local macro_rules | `(tactic| walk_at "callWith ref") => `(tactic| refine callWith_K (Rd.gl' (by assumption)).k (by rfl) ?_)
--ENDLINES
/-! ## _law_join: one made row goes on -/
theorem forListE {w : World} {s s₀ : Shared} {env : Env} {V : VL} {led : LL} {A : Around} {E : Value → Shared → Prop} {target iter : Expr} {body : List Stmt} {pos : Pos} {Q : Flow → Shared → Prop} (S : St w s₀ env V led s) (hh : A.handled = none) (hfold : ∀ x, foldedSetIterable iter env x = pure x)
    (own : ∀ I l, OwnOk w A target (listIt l) I)
    (h : wpAny (MM w) A (eval iter env) (fun xv s₁ => ∃ (l : Addr) (nw : LL) (vs : List Value) (J : J4), xv = .ref l ∧ Rd w s env V nw s₁ ∧ s₁.heap.IsList l vs.toArray ∧ J 0 V (nw ++ led) ∧ (∀ i V led s, J i V led → St w s₀ env V led s → s.heap.IsList l vs.toArray) ∧
      TurnOk w A s₀ env target body Q J (fun i v => vs[i]? = some v) ∧ (∀ V led s, J vs.length V led → St w s₀ env V led s → Q .next s)) E s) :
    wpAny (MM w) A (exec (.For target iter body [] pos) env) Q E s := by
  refine forW S hfold (wpAny_mono h (fun xv s₁ h₁ => ?_) fun _ _ e => e)
  obtain ⟨l, nw, vs, J, rfl, R, hl, hJ, hk, turn, done⟩ := h₁
  refine list_it R hl fun I o s₂ R₂ hI hne => ⟨I, o, nw, vs.length, fun i v => vs[i]? = some v, listIt l, fun h => h.IsList l vs.toArray, J, ?_⟩
  exact ⟨rfl, ItW.list hh I l vs hne, R₂, hI, hJ, fun i V led s j S => hk i V led s j S, own I l, fun i v V led s o E' _ hv hJ _ S => turn I o i v V led s E' hv hJ S, done⟩
set_option maxHeartbeats 8000000 in
theorem one_turn {w : World} {s₀ s : Shared} {A : Around} {E : Value → Shared → Prop} {Q : Flow → Shared → Prop} {L ra pa aM aR x dx l : Addr} {vs mr : List Value} {n nR : Nat} {ts : PL} {kn kk part : Nat} {one : List Nat} {MR : List (List Nat)} {rest : LL} {tk tp to t : Tok}
    (S : St w s₀ (callEnvC fd246 L 246) [("rows", .ref ra), ("parts", .ref pa), ("made", .ref aM), ("known", .int (kn : Nat) tk), ("part", .int (part : Nat) tp), ("table", .ref x), ("more", .ref aR), ("one", .str (sOf one) to)] ((aR, listO mr nR) :: rest) s)
    (hL : s₀.heap.objs.size ≤ L) (hA : Rm 2 A) (mX : (x, instObj 217 dx) ∈ rest) (mD : (dx, hdDict w.params t (.ref l)) ∈ rest) (mL : (l, listO vs n) ∈ rest) (hv : KvsIn rest vs ts) (hts : ∀ p ∈ ts, okT p.1 ∧ p.2.length = 4) (htl : ts.length ≤ 100) (hone : Shape kk one)
    (hmr : StrsAre mr (MR.map sOf)) (hMR : MR.length ≤ 500)
    (h : ∀ s' mr' nR', StrsAre mr' ((MR ++ (allOf ts (lowL (upL (nameL one (kn &&& part))))).map (mergeL one)).map sOf) → St w s₀ (callEnvC fd246 L 246) [("rows", .ref ra), ("parts", .ref pa), ("made", .ref aM), ("known", .int (kn : Nat) tk), ("part", .int (part : Nat) tp), ("table", .ref x), ("more", .ref aR)] ((aR, listO mr' nR') :: rest) s' → Q .next s') :
    wpAny (MM w) A (execs joOne (callEnvC fd246 L 246)) Q E s := by
  have R := S.rd
  refine wpAny_execs_cons ?_
  refine forListE S hA.hh (fun _ => rfl) (fun _ _ => own_name) ?_
  walk_at "ww"
  refine hd_meth R.gl' (S.at (.tail _ mX)) (S.at (.tail _ mD)) (hd_get _) (hd_f156 _) (by rfl) ?_
  walk_at "ww"
  refine ⟨R.gl'.k, ?_⟩
  rw [bitAnd_nat]
  refine cut_ok (R.any rfl).gl' (hA.less (by decide)) hone.1 fun s₁ t₁ k₁ => ?_
  refine PyProof.Rows.add_str (fun t' tk' => ?_) (by rw [sOf_len, cut_len]; decide)
  have e1 : (Str.ofString "k" ++ sOf (cutL one (kn &&& part))) = sOf (nameL one (kn &&& part)) := sOf_app [107] _
  rw [e1]
  have hnm := name_okT (m := kn &&& part) hone
  have S₁ := S.keeps (((Kp.tok _ _).trans k₁).trans (Kp.tok _ tk'))
  have kk₁ : Kp s _ := (((Kp.tok s (s.toks + 1 + 1)).trans k₁).trans (Kp.tok _ tk'))
  clear R
  have R := S₁.rd
  walk_at "ww"
  refine up_S hnm ?_
  walk_at "ww"
  refine ⟨(R.any rfl).gl'.k, ?_⟩
  refine all_ok (R.any rfl).gl' hA (S₁.at (.tail _ mX)) (S₁.at (.tail _ mD)) (S₁.at (.tail _ mL)) (hv.are fun p hp => S₁.at (.tail _ hp)) (fun p hp => (hts p hp).1) (by omega) hnm.up fun D ys k s₅ k₅ hD0 hD hys => ?_
  have kk₅ := (kk₁.trans (Kp.tok _ _)).trans k₅
  have R₅ := (S.rd).add kk₅ ((kk₁.trans (Kp.tok _ _)).none hD0) hD
  generalize hall : allOf ts (lowL (upL (nameL one (kn &&& part)))) = all at *
  have hlen4 : ∀ v ∈ all, v.length = 4 := fun v hv' => by
    rw [← hall] at hv'
    obtain ⟨p, hp, -, rfl⟩ := mem_allOf.mp hv'
    exact (hts p hp).2
  have hallN : all.length ≤ 100 := by rw [← hall]; exact Nat.le_trans (all_len _ _) htl
  clear R S₁ k₅ hD0 k₁
  refine ⟨D, [(D, listO ys k)], ys, fun i V led => ∃ (mr' : List Value) (nR' : Nat), V = ([("rows", .ref ra), ("parts", .ref pa), ("made", .ref aM), ("known", .int (kn : Nat) tk), ("part", .int (part : Nat) tp), ("table", .ref x), ("more", .ref aR), ("one", .str (sOf one) to)] : VL) ∧ led = ((D, listO ys k) :: (aR, listO mr' nR') :: rest : LL) ∧ StrsAre mr' ((MR ++ (all.take i).map (mergeL one)).map sOf),
    rfl, R₅, isList_of hD, ⟨mr, nR, rfl, rfl, by simpa using hmr⟩, ?_, ?_, ?_⟩
  · rintro i V led s' ⟨mr', nR', rfl, rfl, -⟩ S'
    exact isList_of (S'.at (.head _))
  · rintro I o i v V led s₂ E' hvi ⟨mr', nR', rfl, rfl, hmr'⟩ S₂
    have hi : i < ys.length := (List.getElem?_eq_some_iff.mp hvi).1
    have hyl : ys.length = all.length := by rw [StrsAre.len hys, List.length_map]
    obtain ⟨vl, hvl⟩ : ∃ vl, all[i]? = some vl := ⟨all[i]'(hyl ▸ hi), by simp⟩
    obtain ⟨tv, htv⟩ := StrsAre.at hys (i := i) (y := sOf vl) (by rw [List.getElem?_map, hvl]; rfl)
    rw [hvi] at htv; cases htv
    have hvl4 := hlen4 vl (List.mem_of_getElem? hvl)
    refine PyProof.Rows.assign_Name (S₂.store (.inr ⟨rfl, L + 1, rfl, none_ge (Nat.le_trans hL (Nat.le_add_right _ 1))⟩) fun s₃ S₃ => ?_)
    have S₃ := S₃.sub (V' := [("rows", .ref ra), ("parts", .ref pa), ("made", .ref aM), ("known", .int (kn : Nat) tk), ("part", .int (part : Nat) tp), ("table", .ref x), ("more", .ref aR), ("one", .str (sOf one) to), ("value", .str (sOf vl) tv)]) ⟨rfl, rfl, rfl, rfl, rfl, rfl, rfl, rfl, rfl, trivial⟩
    have R := S₃.rd
    refine wpAny_execs_cons (wpAny_Expr_any ?_)
    walk_at "ww"
    refine PySem.Calls.getMethod_list_append (S₃.at (.tail _ (.tail _ (.head _)))) rfl rfl ?_
    walk_at "ww"
    refine compRange (cl := [("value", L + 1), ("one", L + 2)]) hA.hh (R.any rfl) [("value", .str (sOf vl) tv), ("one", .str (sOf one) to)]
      (fun i ys els => els = [] ∧ StrsAre ys ((List.range i).map fun c => sOf [if one.getD c 0 = 46 then vl.getD c 0 else one.getD c 0])) (by walk_at "side") rfl (by decide) ⟨rfl, .nil⟩ ?_ ?_
    · rintro C c tc hc ys' els s₄ E₄ ⟨rfl, hys'⟩ kp - R₄
      have hc : c < 4 := hc
      clear R
      refine wpAny_tests_nil ?_
      rw [if_pos rfl]
      walk_at "ww"
      refine item_S (by rw [hone.1]; exact hc) (by rw [hone.1]; decide) ?_
      walk_at "ww"
      have edot : (sOf [one.getD c 0] == Str.ofString ".") = decide (one.getD c 0 = 46) := by
        rw [show Str.ofString "." = sOf [46] from rfl, sOf_beq, Bool.eq_iff_iff, beq_iff_eq, decide_eq_true_eq]
        simp
      rw [edot, List.range_succ, List.map_append]
      by_cases h46 : one.getD c 0 = 46
      · rw [if_pos (decide_eq_true h46)]
        walk_at "ww"
        refine item_S (by rw [hvl4]; exact hc) (by rw [hvl4]; decide) ?_
        refine ⟨[], R₄.any rfl, rfl, StrsAre.app hys' ?_⟩
        simp only [List.map_cons, List.map_nil, if_pos h46]
        exact .cons _ _ .nil
      · rw [if_neg (by simpa using h46)]
        walk_at "ww"
        refine item_S (by rw [hone.1]; exact hc) (by rw [hone.1]; decide) ?_
        refine ⟨[], R₄.any rfl, rfl, StrsAre.app hys' ?_⟩
        simp only [List.map_cons, List.map_nil, if_neg h46]
        exact .cons _ _ .nil
    · rintro D' k' ys' els s₄ ⟨rfl, hys'⟩ R₄
      clear R
      walk_at "ww"
      refine join_list (isList_of (R₄.at (.head _))) hys' ?_ fun t'' k'' => ?_
      · rw [show (Str.ofString "").length = 0 from by decide]
        simp [sOf_len, List.range, List.range.loop]
      have ej : Txt.join (Str.ofString "") ((List.range 4).map fun c => sOf [if one.getD c 0 = 46 then vl.getD c 0 else one.getD c 0]) = sOf (mergeL one vl) := by
        have := join_sOf_nil ((List.range 4).map fun c => [if one.getD c 0 = 46 then vl.getD c 0 else one.getD c 0])
        rw [List.map_map] at this
        refine Eq.trans this ?_
        congr 1
      rw [ej]
      walk_at "ww"
      have S₄ := (S₃.keeps (Kp.trans (Kp.trans (Kp.tok _ _) R₄.kp) (Kp.tok _ k'')))
      refine append_L (S₄.at (.tail _ (.tail _ (.head _)))) ?_ fun s₅ n₅ kb e₅ => ?_
      · rw [StrsAre.len hmr', List.length_map, List.length_append, List.length_map, List.length_take]; omega
      have S₅ := S₄.mut3 kb e₅
      refine wpAny_execs_nil ⟨_, [], _, ⟨_, n₅, rfl, rfl, ?_⟩, S₅.sub ⟨rfl, rfl, rfl, rfl, rfl, rfl, rfl, rfl, trivial⟩⟩
      rw [List.take_add_one, hvl]
      show StrsAre _ ((MR ++ ((all.take i) ++ [vl]).map (mergeL one)).map sOf)
      have e9 : (MR ++ ((all.take i) ++ [vl]).map (mergeL one)).map sOf = (MR ++ (all.take i).map (mergeL one)).map sOf ++ [sOf (mergeL one vl)] := by simp
      rw [e9]
      exact StrsAre.app hmr' (.cons _ _ .nil)
  · rintro V led s₂ ⟨mr', nR', rfl, rfl, hmr'⟩ S₂
    refine wpAny_execs_nil ?_
    have e : all.take ys.length = all := List.take_of_length_le (by rw [StrsAre.len hys, List.length_map]; exact Nat.le_refl _)
    rw [e] at hmr'
    exact h _ mr' nR' hmr' (S₂.cut ⟨rfl, rfl, rfl, rfl, rfl, rfl, rfl, trivial⟩ (List.sublist_cons_self _ _))
end
section
--LINES
local macro_rules | `(tactic| walk_at "eval Name") => `(tactic| first
  | refine Rd.Nm (Rd.any (by assumption) (by rfl)) (by rfl) ?_
  | refine Rd.Gb (Rd.any (by assumption) (by rfl)) (by rfl) (by rfl) ?_
  | refine Rd.Bl (Rd.any (by assumption) (by rfl)) (by decide) (by first | exact boot_len | exact boot_range | exact boot_sum | exact boot_sorted | exact boot_enumerate | exact boot_zip | exact PyProof.Rows.boot_set | exact PyProof.Rows.boot_type | exact PyProof.Rows.boot_list | exact PyProof.Rows.boot_str) (by rfl) ?_)
local macro_rules | `(tactic| walk_at "side") => `(tactic| (refine ⟨rfl, rfl, by decide, ?_, ?_, fun C => .inl rfl, rfl⟩; ((repeat (refine And.intro ⟨⟨_, rfl⟩, rfl, rfl⟩ ?_)); exact trivial); (intro C; (repeat (refine And.intro ⟨rfl, rfl, ⟨_, rfl⟩, rfl⟩ ?_)); exact trivial)))
local macro_rules | `(tactic| walk_at "newTuple") => `(tactic| (refine newTuple_R (Rd.any (by assumption) (by rfl)) ?_ (by simp [sizeLine]); intro a s' R))
local macro_rules | `(tactic| walk_at "newList") => `(tactic| (refine newList_R (Rd.any (by assumption) (by rfl)) ?_ (by simp [sizeLine]); intro a s' R))
local macro_rules | `(tactic| walk_at "w") => `(tactic| (walk1; try dsimp only))
local macro_rules | `(tactic| walk_at "ww") => `(tactic| repeat ((with_reducible show wpAny _ _ _ _ _ _); walk_at "w"))
local macro_rules | `(tactic| walk_at "callWith ref") => `(tactic| refine callWith_K (Rd.gl' (by assumption)).k (by rfl) ?_)
--ENDLINES
/-! ## _law_join -/
theorem KvsIn.mono {led led' : LL} {vs : List Value} {ts : PL} (P : KvsIn led vs ts) (h : ∀ p ∈ led, p ∈ led') : KvsIn led' vs ts :=
  ⟨P.1, fun i c e => let ⟨T, t, u, a, b⟩ := P.2 i c e; ⟨T, t, u, a, h _ b⟩⟩
theorem tab_next {rows : List (List Nat)} {m part j : Nat} {row : List Nat} (e : rows[j]? = some row) : tabOf (rows.take (j + 1)) m part = tabStep m part (tabOf (rows.take j) m part) row := by
  unfold tabOf
  rw [List.take_add_one, e, List.foldl_append]; rfl
theorem tab_ok {rows : List (List Nat)} {kn part : Nat} (h : ∀ r ∈ rows, okR r) (j : Nat) : (∀ p ∈ tabOf (rows.take j) (kn &&& part) part, okT p.1 ∧ p.2.length = 4) ∧ (tabOf (rows.take j) (kn &&& part) part).length ≤ rows.length := by
  have hj : ∀ r ∈ rows.take j, okR r := fun r hr => h r (List.mem_of_mem_take hr)
  have T := tab_inv (m := kn &&& part) (part := part) hj fun c _ hb => (and_sub hb).2
  refine ⟨fun p hp => ?_, Nat.le_trans T.few (by rw [List.length_take]; omega)⟩
  obtain ⟨r, hr, rfl⟩ := T.from' p hp
  exact ⟨name_okT (hj r hr).shape, cut_len _ _⟩
theorem more_next {ts : PL} {m i : Nat} {M : List (List Nat)} {one : List Nat} (e : M[i]? = some one) : moreOf ts m (M.take (i + 1)) = moreOf ts m (M.take i) ++ (allOf ts (lowL (upL (nameL one m)))).map (mergeL one) := by
  unfold moreOf
  rw [List.take_add_one, e, List.flatMap_append]
  simp
theorem join_next {rows : List (List Nat)} {ps : List Nat} {i p : Nat} (e : ps[i]? = some p) : joinN rows (ps.take (i + 1)) = joinStep rows (joinN rows (ps.take i)) p := by
  unfold joinN
  rw [List.take_add_one, e, List.foldl_append]; rfl
set_option maxHeartbeats 8000000 in
theorem join_ok {w : World} {s : Shared} {A : Around} {Q E : Value → Shared → Prop} {ra pa : Addr} {rv pv : List Value} {n1 n2 : Nat} {rows : List (List Nat)} {ps : List Nat} (G : Gl w s.heap) (hA : Rm 3 A)
    (hr : s.heap.get? ra = some (listO rv n1)) (hrv : StrsAre rv (rows.map sOf)) (hok : ∀ r ∈ rows, okR r) (hr3 : rows.length = 3) (hp : s.heap.get? pa = some (listO pv n2)) (hpv : NatsAre pv ps) (hp3 : ps.length = 3)
    (h : ∀ D vs P e s', Kp s s' → s.heap.get? D = none → s'.heap.get? D = some (listO vs e) → StrsAre vs (P.map sOf) → P.Perm (joinN rows ps).1 → Up P → Q (.ref D) s') :
    wpAny (MM w) A (call (.ref 246) [.ref ra, .ref pa]) Q E s := by
  refine wpAny_call ?_
  refine enter (fd := fd246) (c := 245) (binds := [("rows", .ref ra), ("parts", .ref pa)]) (V := [("rows", .ref ra), ("parts", .ref pa)]) (body := bodO (stm 17)) (by rfl) (by decide) rfl G hA.room rfl (BindsTo.of_eq rfl) rfl rfl rfl ?_ ?_ ?_ rfl rfl rfl
  · intro k x hx
    simp only [List.mem_cons, List.not_mem_nil, or_false] at hx
    rcases hx with rfl | rfl <;> exact .inl rfl
  · intro L
    exact ⟨.inl ⟨rfl, rfl⟩, .inl ⟨rfl, rfl⟩, trivial⟩
  · intro L s₁ hL S
    have hA' := hA.deeper (callEnvC fd246 L 246)
    have R := S.rd
    refine wpAny_execs_cons (wpAny_Assign_Name ?_)
    walk_at "ww"
    rename_i aM0 s₂ R₂
    refine (S.back R₂).store (.inl rfl) fun s₃ S₃ => ?_
    clear R R₂ S
    refine wpAny_execs_cons (wpAny_Assign_Name ?_)
    walk_at "ww"
    refine (S₃.keeps (Kp.tok _ _)).store (.inl rfl) fun s₄ S₄ => ?_
    have S₄ := S₄.sub (V' := [("rows", .ref ra), ("parts", .ref pa), ("made", .ref aM0), ("known", .int (0 : Nat) s₃.toks)]) ⟨rfl, rfl, rfl, rfl, trivial⟩
    clear S₃
    refine wpAny_execs_cons ?_
    refine forList pv (fun i V led => ∃ (aM : Addr) (mv : List Value) (nM : Nat) (M : List (List Nat)) (kn : Nat) (tk : Tok), V = ([("rows", .ref ra), ("parts", .ref pa), ("made", .ref aM), ("known", .int (kn : Nat) tk)] : VL) ∧ led = ([(aM, listO mv nM)] : LL) ∧ StrsAre mv (M.map sOf) ∧ (M, kn) = joinN rows (ps.take i)) S₄ hA'.hh (fun _ => rfl) (fun _ _ => own_name) ?_ ?_ ?_
    · have R := S₄.rd
      walk_at "ww"
      exact ⟨pa, [], rfl, R, isList_of (S₄.old hp), ⟨aM0, _, 0, [dotsL], 0, _, rfl, rfl, .cons _ _ .nil, rfl⟩, fun i V led s _ S => isList_of (S.old hp)⟩
    · rintro I o i v V led s₅ E' hv ⟨aM, mv, nM, M, kn, tk, rfl, rfl, hmv, hjn⟩ S₅
      clear S₄
      have hi : i < pv.length := (List.getElem?_eq_some_iff.mp hv).1
      have hpl : pv.length = ps.length := by rw [hpv.length, List.length_map]
      obtain ⟨part, hpi⟩ : ∃ p, ps[i]? = some p := ⟨ps[i]'(hpl ▸ hi), by simp⟩
      obtain ⟨tp, htp⟩ := NatsAre.at hpv hpi
      rw [hv] at htp; cases htp
      have JI := join_inv hok (ps.take i)
      rw [← hjn] at JI
      have hM27 : M.length ≤ 27 := Nat.le_trans JI.few (by
        rw [hr3]
        exact Nat.le_trans (Nat.pow_le_pow_right (by decide) (by rw [List.length_take, hp3]; omega : (ps.take i).length ≤ 3)) (by decide))
      refine PyProof.Rows.assign_Name (S₅.store (.inl rfl) fun s₆ S₆ => ?_)
      have S₆ := S₆.sub (V' := [("rows", .ref ra), ("parts", .ref pa), ("made", .ref aM), ("known", .int (kn : Nat) tk), ("part", .int (part : Nat) tp)]) ⟨rfl, rfl, rfl, rfl, rfl, trivial⟩
      clear S₅
      have R := S₆.rd
      refine wpAny_execs_cons (wpAny_Assign_Name ?_)
      walk_at "ww"
      rename_i l s₇ R₇
      refine ⟨R₇.gl'.k, ?_⟩
      refine hd_new R₇.gl' (hA'.less (by decide)) (R₇.at (.head _)) fun x dx s₈ t₈ kp hx0 hd0 hne hx hd => ?_
      have R₈ := R₇.adds (l := [(x, instObj 217 dx), (dx, hdDict w.params t₈ (.ref l))]) kp (fun p hp => by
        simp only [List.mem_cons, List.not_mem_nil, or_false] at hp
        rcases hp with rfl | rfl
        · exact ⟨hx0, hx⟩
        · exact ⟨hd0, hd⟩) (by simpa using hne)
      refine (S₆.back R₈).store (.inl rfl) fun s₉ S₉ => ?_
      clear R R₇ R₈ S₆ kp hx0 hd0 hne hx hd
      have S₉ := (S₉.cut (V' := [("rows", .ref ra), ("parts", .ref pa), ("made", .ref aM), ("known", .int (kn : Nat) tk), ("part", .int (part : Nat) tp), ("table", .ref x)]) (led' := [(x, instObj 217 dx), (dx, hdDict w.params t₈ (.ref l)), (l, listO [] 0), (I, o), (aM, listO mv nM)]) ⟨rfl, rfl, rfl, rfl, rfl, rfl, trivial⟩ (by simp)).perm
        (led' := (l, listO [] 0) :: ([] ++ [(x, instObj 217 dx), (dx, hdDict w.params t₈ (.ref l)), (I, o), (aM, listO mv nM)])) (by simpa using List.perm_middle (a := (l, listO [] 0)) (l₁ := [(x, instObj 217 dx), (dx, hdDict w.params t₈ (.ref l))]) (l₂ := [(I, o), (aM, listO mv nM)]))
      generalize hled1 : ([(x, instObj 217 dx), (dx, hdDict w.params t₈ (.ref l)), (I, o), (aM, listO mv nM)] : LL) = led1 at S₉
      have mX : (x, instObj 217 dx) ∈ led1 := by rw [← hled1]; simp
      have mD : (dx, hdDict w.params t₈ (.ref l)) ∈ led1 := by rw [← hled1]; simp
      have mI : (I, o) ∈ led1 := by rw [← hled1]; simp
      have mM : (aM, listO mv nM) ∈ led1 := by rw [← hled1]; simp
      clear hled1
      refine wpAny_execs_cons ?_
      refine forList rv (fun j V led => ∃ (vs : List Value) (n : Nat) (own : LL), V = ([("rows", .ref ra), ("parts", .ref pa), ("made", .ref aM), ("known", .int (kn : Nat) tk), ("part", .int (part : Nat) tp), ("table", .ref x)] : VL) ∧ led = ((l, listO vs n) :: (own ++ led1) : LL) ∧ KvsIn own vs (tabOf (rows.take j) (kn &&& part) part)) S₉ hA'.hh (fun _ => rfl) (fun _ _ => own_name) ?_ ?_ ?_
      · have R := S₉.rd
        walk_at "ww"
        exact ⟨ra, [], rfl, R, isList_of (S₉.old hr), ⟨[], 0, [], rfl, rfl, rfl, fun i p e => by simp [tabOf] at e⟩, fun i V led s _ S => isList_of (S.old hr)⟩
      · rintro I₂ o₂ j v V led s₁₀ E₂ hv ⟨vs, n, own, rfl, rfl, hkv⟩ S₁₀
        clear S₉
        have hj : j < rv.length := (List.getElem?_eq_some_iff.mp hv).1
        have hrl : rv.length = rows.length := by rw [StrsAre.len hrv, List.length_map]
        obtain ⟨row, hrj⟩ : ∃ r, rows[j]? = some r := ⟨rows[j]'(hrl ▸ hj), by simp⟩
        obtain ⟨tr, htr⟩ := StrsAre.at hrv (i := j) (y := sOf row) (by rw [List.getElem?_map, hrj]; rfl)
        rw [hv] at htr; cases htr
        have hrow := hok row (List.mem_of_getElem? hrj)
        have hts := tab_ok (kn := kn) (part := part) hok j
        refine PyProof.Rows.assign_Name (S₁₀.store (.inl rfl) fun s₁₁ S₁₁ => ?_)
        have S₁₁ := (S₁₁.sub (V' := [("rows", .ref ra), ("parts", .ref pa), ("made", .ref aM), ("known", .int (kn : Nat) tk), ("part", .int (part : Nat) tp), ("table", .ref x), ("row", .str (sOf row) tr)]) ⟨rfl, rfl, rfl, rfl, rfl, rfl, rfl, trivial⟩).perm (led' := (l, listO vs n) :: (I₂, o₂) :: (own ++ led1)) (List.Perm.swap _ _ _)
        clear S₁₀
        refine row_turn (rest0 := own) S₁₁ hL (hA'.less (by decide)) (.tail _ (List.mem_append_right _ mX)) (.tail _ (List.mem_append_right _ mD)) (fun p hp => .tail _ (List.mem_append_left _ hp)) hkv (fun p hp => (hts.1 p hp).1) (by have := hts.2; omega) hrow fun s₁₂ vs' n' own' hkv' S₁₂ => ?_
        refine ⟨_, (l, listO vs' n') :: own', own ++ led1, ⟨vs', n', own' ++ own, rfl, by simp, ?_⟩, S₁₂⟩
        rw [tab_next hrj]; exact hkv'
      · rintro V led s₁₀ ⟨vs, n, own, rfl, rfl, hkv⟩ S₁₀
        clear S₉
        have hrl : rv.length = rows.length := by rw [StrsAre.len hrv, List.length_map]
        have hts := tab_ok (kn := kn) (part := part) hok rv.length
        rw [hrl, List.take_length] at hkv hts
        generalize htab : tabOf rows (kn &&& part) part = ts at *
        have R := S₁₀.rd
        refine wpAny_execs_cons (wpAny_Assign_Name ?_)
        walk_at "ww"
        rename_i aR s₁₁ R₁₁
        refine (S₁₀.back R₁₁).store (.inl rfl) fun s₁₂ S₁₂ => ?_
        clear R R₁₁ S₁₀
        have S₁₂ := S₁₂.sub (V' := [("rows", .ref ra), ("parts", .ref pa), ("made", .ref aM), ("known", .int (kn : Nat) tk), ("part", .int (part : Nat) tp), ("table", .ref x), ("more", .ref aR)]) ⟨rfl, rfl, rfl, rfl, rfl, rfl, rfl, trivial⟩
        generalize hled2 : ((l, listO vs n) :: (own ++ led1) : LL) = led2 at S₁₂
        have sub2 : ∀ p ∈ led1, p ∈ led2 := fun p hp => by rw [← hled2]; exact .tail _ (List.mem_append_right _ hp)
        have mL : (l, listO vs n) ∈ led2 := by rw [← hled2]; exact .head _
        have hkv2 : KvsIn led2 vs ts := hkv.mono fun p hp => by rw [← hled2]; exact .tail _ (List.mem_append_left _ hp)
        clear hled2 hkv
        refine wpAny_execs_cons ?_
        refine forList mv (fun j V led => ∃ (mr : List Value) (nR : Nat), V = ([("rows", .ref ra), ("parts", .ref pa), ("made", .ref aM), ("known", .int (kn : Nat) tk), ("part", .int (part : Nat) tp), ("table", .ref x), ("more", .ref aR)] : VL) ∧ led = ((aR, listO mr nR) :: led2 : LL) ∧ StrsAre mr ((moreOf ts (kn &&& part) (M.take j)).map sOf)) S₁₂ hA'.hh (fun _ => rfl) (fun _ _ => own_name) ?_ ?_ ?_
        · have R := S₁₂.rd
          walk_at "ww"
          exact ⟨aM, [], rfl, R, isList_of (S₁₂.at (.tail _ (sub2 _ mM))), ⟨[], 0, rfl, rfl, .nil⟩, by
            rintro i V led s ⟨mr, nR, rfl, rfl, -⟩ S
            exact isList_of (S.at (.tail _ (sub2 _ mM)))⟩
        · rintro I₃ o₃ j v V led s₁₃ E₃ hv ⟨mr, nR, rfl, rfl, hmr⟩ S₁₃
          clear S₁₂
          have hj : j < mv.length := (List.getElem?_eq_some_iff.mp hv).1
          have hml : mv.length = M.length := by rw [StrsAre.len hmv, List.length_map]
          obtain ⟨one, hoj⟩ : ∃ r, M[j]? = some r := ⟨M[j]'(hml ▸ hj), by simp⟩
          obtain ⟨to, hto⟩ := StrsAre.at hmv (i := j) (y := sOf one) (by rw [List.getElem?_map, hoj]; rfl)
          rw [hv] at hto; cases hto
          have hone := ((JI.mem one).mp (List.mem_of_getElem? hoj)).1
          refine PyProof.Rows.assign_Name (S₁₃.store (.inr ⟨rfl, L + 2, rfl, none_ge (Nat.le_trans hL (Nat.le_add_right _ 2))⟩) fun s₁₄ S₁₄ => ?_)
          have S₁₄ := (S₁₄.sub (V' := [("rows", .ref ra), ("parts", .ref pa), ("made", .ref aM), ("known", .int (kn : Nat) tk), ("part", .int (part : Nat) tp), ("table", .ref x), ("more", .ref aR), ("one", .str (sOf one) to)]) ⟨rfl, rfl, rfl, rfl, rfl, rfl, rfl, rfl, trivial⟩).perm (led' := (aR, listO mr nR) :: (I₃, o₃) :: led2) (List.Perm.swap _ _ _)
          clear S₁₃
          have hlen : (moreOf ts (kn &&& part) (M.take j)).length ≤ 500 := by
            have h1 := more_len ts (kn &&& part) (M.take j)
            have h2 : (M.take j).length ≤ 27 := by rw [List.length_take]; omega
            have h3 := hts.2
            have h4 := Nat.mul_le_mul h2 (Nat.le_trans h3 (Nat.le_of_eq hr3))
            omega
          refine one_turn S₁₄ hL (hA'.less (by decide)) (.tail _ (sub2 _ mX)) (.tail _ (sub2 _ mD)) (.tail _ mL) (hkv2.mono fun p hp => .tail _ hp) hts.1 (by have := hts.2; omega) hone hmr hlen fun s₁₅ mr' nR' hmr' S₁₅ => ?_
          refine ⟨_, [(aR, listO mr' nR')], led2, ⟨mr', nR', rfl, rfl, ?_⟩, S₁₅⟩
          rw [more_next hoj]; exact hmr'
        · rintro V led s₁₃ ⟨mr, nR, rfl, rfl, hmr⟩ S₁₃
          clear S₁₂
          have hml : mv.length = M.length := by rw [StrsAre.len hmv, List.length_map]
          rw [hml, List.take_length] at hmr
          have R := S₁₃.rd
          refine wpAny_execs_cons (wpAny_Assign_Name ?_)
          walk_at "ww"
          refine S₁₃.store (.inl rfl) fun s₁₄ S₁₄ => ?_
          clear R S₁₃
          have R := S₁₄.rd
          refine wpAny_execs_cons (wpAny_AugAssign_Name ?_)
          refine R.ldn rfl ?_
          walk_at "ww"
          rw [bitOr_nat]
          refine (S₁₄.keeps (Kp.tok _ _)).store (.inl rfl) fun s₁₅ S₁₅ => ?_
          refine wpAny_execs_nil ⟨_, [(aR, listO mr nR)], [], ⟨aR, mr, nR, _, kn ||| part, _, rfl, rfl, hmr, ?_⟩, S₁₅.cut ⟨rfl, rfl, rfl, rfl, trivial⟩ (List.Sublist.cons_cons _ (List.singleton_sublist.mpr (sub2 _ mI)))⟩
          rw [join_next hpi, ← hjn, ← htab]; rfl
    · rintro V led s₅ ⟨aM, mv, nM, M, kn, tk, rfl, rfl, hmv, hjn⟩ S₅
      clear S₄
      have R := S₅.rd
      refine wpAny_execs_cons (wpAny_Return_some ?_)
      walk_at "ww"
      have hpl : pv.length = ps.length := by rw [hpv.length, List.length_map]
      rw [hpl, List.take_length] at hjn
      have JI := join_inv hok ps
      rw [← hjn] at JI
      refine sorted_S R (isList_of (S₅.at (.head _))) hmv (Nat.lt_of_le_of_lt JI.few (by rw [hr3, hp3]; decide)) fun D vs P e s₆ hvs hperm hup R₆ => ?_
      refine h D vs P e s₆ (S₅.keep.trans R₆.kp) (S₅.keep.none (R₆.has _ (.head _)).2) (R₆.at (.head _)) hvs ?_ hup
      rw [← hjn]; exact hperm
end
section
/-! ## The plain law: the plan, the due rows, the lossless join -/
def abcdL : List Nat := [97, 98, 99, 100]
theorem abcd_at {c : Nat} (hc : c < 4) : abcdL.getD c 0 = 97 + c := by
  have : c = 0 ∨ c = 1 ∨ c = 2 ∨ c = 3 := by omega
  rcases this with rfl | rfl | rfl | rfl <;> rfl
def rowOf (f : Nat → Nat → Nat) : List (List Nat) := (List.range 3).map fun i => (List.range 4).map fun c => f i c
theorem row_ch {f : Nat → Nat → Nat} {i c : Nat} (hi : i < 3) (hc : c < 4) : ch (rowOf f) i c = f i c := by
  unfold ch rowOf
  have e : ((List.range 3).map fun i => (List.range 4).map fun c => f i c).getD i [] = (List.range 4).map fun c => f i c := by
    rw [List.getD_eq_getElem?_getD, List.getElem?_map, List.getElem?_range hi]; rfl
  rw [e]
  exact getD_range _ hc
theorem row_grid {f : Nat → Nat → Nat} (h1 : ∀ i c, i < 3 → c < 4 → 97 ≤ f i c ∧ f i c ≤ 112) (h2 : ∀ i j c d, i < 3 → j < 3 → c < 4 → d < 4 → f i c = f j d → c = d) : Grid (rowOf f) := by
  refine ⟨by simp [rowOf], fun r hr => ?_, fun r hr x hx => ?_, fun i j c d hi hj hc hd e => ?_⟩
  · obtain ⟨i, _, rfl⟩ := List.mem_map.mp hr; simp
  · obtain ⟨i, hi, rfl⟩ := List.mem_map.mp hr
    obtain ⟨c, hc, rfl⟩ := List.mem_map.mp hx
    exact h1 i c (List.mem_range.mp hi) (List.mem_range.mp hc)
  · rw [row_ch hi hc, row_ch hj hd] at e
    exact h2 i j c d hi hj hc hd e
def planF (ps : List Nat) (i c : Nat) : Nat := if (msk ps i).testBit c then 97 + c else 101 + (4 * i + c)
def drawF (g : Nat → Nat → Nat) (i c : Nat) : Nat := 97 + (3 * c + g i c)
theorem plan_grid (ps : List Nat) : Grid (rowOf (planF ps)) := by
  refine row_grid (fun i c hi hc => ?_) fun i j c d hi hj hc hd e => ?_
  · unfold planF; split <;> omega
  · unfold planF at e; split at e <;> split at e <;> omega
theorem draw_grid {g : Nat → Nat → Nat} (hg : ∀ i c, i < 3 → c < 4 → g i c < 3) : Grid (rowOf (drawF g)) := by
  refine row_grid (fun i c hi hc => ?_) fun i j c d hi hj hc hd e => ?_
  · have := hg i c hi hc; unfold drawF; omega
  · have h1 := hg i c hi hc; have h2 := hg j d hj hd; unfold drawF at e; omega
theorem Grid.okR {R : List (List Nat)} (G : Grid R) : ∀ r ∈ R, okR r := fun r hr => ⟨G.row r hr, G.sign r hr⟩
structure Parted (ps : List Nat) : Prop where
  len : ps.length = 3
  cov : ∀ c, c < 4 → ∃ i, i < 3 ∧ (msk ps i).testBit c = true
theorem msk_mem {ps : List Nat} {i : Nat} (h : ps.length = 3) (hi : i < 3) : msk ps i ∈ ps := by
  have : i < ps.length := by omega
  unfold msk
  rw [List.getD_eq_getElem?_getD, List.getElem?_eq_getElem this]
  exact List.getElem_mem _
theorem mem_msk {ps : List Nat} {p : Nat} (h : ps.length = 3) (hp : p ∈ ps) : ∃ i, i < 3 ∧ p = msk ps i := by
  obtain ⟨i, hi⟩ := List.getElem?_of_mem hp
  refine ⟨i, by have := (List.getElem?_eq_some_iff.mp hi).1; omega, ?_⟩
  unfold msk
  rw [List.getD_eq_getElem?_getD, hi]; rfl
theorem mem_join {rows : List (List Nat)} {ps : List Nat} (P : Parted ps) (h : ∀ r ∈ rows, okR r) (x : List Nat) : x ∈ (joinN rows ps).1 ↔ x.length = 4 ∧ ∀ i, i < 3 → ∃ r ∈ rows, AgOn (msk ps i) x r := by
  have J := join_inv h ps
  have kn : ∀ c, c < 4 → (joinN rows ps).2.testBit c = true := fun c hc => by
    obtain ⟨i, hi, hb⟩ := P.cov c hc
    exact J.sub _ (msk_mem P.len hi) c hc hb
  rw [J.mem]
  constructor
  · rintro ⟨hs, ha⟩
    exact ⟨hs.1, fun i hi => ha _ (msk_mem P.len hi)⟩
  · rintro ⟨h4, ha⟩
    refine ⟨⟨h4, fun c hc => ?_⟩, fun p hp => ?_⟩
    · rw [if_pos (kn c hc)]
      obtain ⟨i, hi, hb⟩ := P.cov c hc
      obtain ⟨r, hr, ag⟩ := ha i hi
      rw [ag c hc hb]
      exact (h r hr).at hc
    · obtain ⟨i, hi, rfl⟩ := mem_msk P.len hp
      exact ha i hi
theorem grid_at {R : List (List Nat)} (G : Grid R) {r : List Nat} (hr : r ∈ R) : ∃ i, i < 3 ∧ ∀ c, r.getD c 0 = ch R i c := by
  obtain ⟨i, hi⟩ := List.getElem?_of_mem hr
  refine ⟨i, by have := (List.getElem?_eq_some_iff.mp hi).1; rw [G.len] at this; exact this, fun c => ?_⟩
  unfold ch
  rw [List.getD_eq_getElem?_getD (l := R), hi]; rfl
theorem grid_row {R : List (List Nat)} (G : Grid R) {i : Nat} (hi : i < 3) : ∃ r ∈ R, ∀ c, r.getD c 0 = ch R i c := by
  have : i < R.length := by rw [G.len]; exact hi
  refine ⟨R[i], List.getElem_mem _, fun c => ?_⟩
  unfold ch
  rw [List.getD_eq_getElem?_getD (l := R), List.getElem?_eq_getElem this]; rfl
/-- abcd is always in the plan's join -/
theorem abcd_in {rl : List (Nat × Nat)} {ps : List Nat} {W : List (List Nat)} (P : Parted ps) (C : Chased 1 rl (rowOf (planF ps)) W) : abcdL ∈ (joinN W ps).1 := by
  refine (mem_join P C.grid.okR _).mpr ⟨rfl, fun i hi => ?_⟩
  obtain ⟨r, hr, e⟩ := grid_row C.grid hi
  refine ⟨r, hr, fun c hc hb => ?_⟩
  rw [e, abcd_at hc]
  have h1 := C.best.best i i c hi hi hc rfl
  obtain ⟨j, hj, _, h2⟩ := C.best.one i c hi hc
  rw [row_ch hi hc, Leq, if_pos rfl] at h1
  rw [row_ch hj hc] at h2
  unfold planF at h1 h2
  rw [if_pos hb] at h1
  split at h2 <;> omega
/-- Aho, Beeri, Ullman: the join of a table that the rules close is the table, where the chased plan holds abcd -/
theorem lossless {rl : List (Nat × Nat)} {ps : List Nat} {W T : List (List Nat)} (P : Parted ps) (C : Chased 1 rl (rowOf (planF ps)) W) (hW : abcdL ∈ W) (hr : ∀ p ∈ rl, p.2 < 4) (GT : Grid T) (CT : Cl rl (Agr T)) (x : List Nat) : x ∈ (joinN T ps).1 ↔ x ∈ T := by
  rw [mem_join P GT.okR]
  constructor
  · rintro ⟨h4, ha⟩
    have pick : ∀ i, ∃ j, i < 3 → j < 3 ∧ ∀ c, c < 4 → (msk ps i).testBit c = true → ch T j c = x.getD c 0 := fun i => by
      by_cases hi : i < 3
      · obtain ⟨r, hr, ag⟩ := ha i hi
        obtain ⟨j, hj, e⟩ := grid_at GT hr
        exact ⟨j, fun _ => ⟨hj, fun c hc hb => by rw [← e, ag c hc hb]⟩⟩
      · exact ⟨0, fun h => absurd h hi⟩
    obtain ⟨j, hj⟩ := Classical.axiomOfChoice pick
    have hj3 : ∀ i, i < 3 → j i < 3 := fun i hi => (hj i hi).1
    have cl : Cl rl (fun a b c => ch T (j a) c = ch T (j b) c) :=
      ⟨fun _ _ _ _ => rfl, fun _ _ _ _ _ _ e => e.symm, fun _ _ _ _ _ _ _ _ a b => a.trans b, fun p hp a b hA hB al => CT.rule p hp (j a) (j b) (hj3 a hA) (hj3 b hB) al⟩
    have up : SubR (Agr (rowOf (planF ps))) (fun a b c => ch T (j a) c = ch T (j b) c) := fun a b c hA hB hc e => by
      by_cases hab : a = b
      · subst hab; rfl
      · have e : ch (rowOf (planF ps)) a c = ch (rowOf (planF ps)) b c := e
        rw [row_ch hA hc, row_ch hB hc] at e
        unfold planF at e
        split at e <;> split at e
        · rename_i h1 h2
          show ch T (j a) c = ch T (j b) c
          rw [(hj a hA).2 c hc h1, (hj b hB).2 c hc h2]
        · omega
        · omega
        · omega
    have sub := C.least _ cl up
    obtain ⟨k, hk, ek⟩ := grid_at C.grid hW
    obtain ⟨r, hr', er⟩ := grid_row GT (hj3 k hk)
    have : x = r := by
      refine four_ext h4 (GT.row r hr') fun c hc => ?_
      rw [er]
      obtain ⟨i, hi, ag, e⟩ := C.best.one k c hk hc
      rw [← ek, abcd_at hc, row_ch hi hc] at e
      have hb : (msk ps i).testBit c = true := by
        unfold planF at e
        split at e
        · rename_i h; exact h
        · omega
      have := sub k i c hk hi hc ag
      rw [show ch T (j k) c = ch T (j i) c from this, (hj i hi).2 c hc hb]
    rw [this]; exact hr'
  · intro hx
    exact ⟨GT.row x hx, fun i _ => ⟨x, hx, fun _ _ _ => rfl⟩⟩
theorem up_same {l l' : List (List Nat)} (h : Up l) (h' : Up l') (n : l.Nodup) (n' : l'.Nodup) (e : ∀ x, x ∈ l ↔ x ∈ l') : l = l' :=
  up_uniq ((List.perm_ext_iff_of_nodup n n').mpr e) h h'
/-- three rows and the row that they tell -/
def Fits (ps : List Nat) (a b d y : List Nat) : Prop := y.length = 4 ∧ ∀ c i, c < 4 → i < 3 → (msk ps i).testBit c = true → y.getD c 0 = ch [a, b, d] i c
theorem fits_iff {ps : List Nat} {a b d y : List Nat} : Fits ps a b d y ↔ y.length = 4 ∧ AgOn (msk ps 0) y a ∧ AgOn (msk ps 1) y b ∧ AgOn (msk ps 2) y d := by
  constructor
  · rintro ⟨h, g⟩
    exact ⟨h, fun c hc hb => g c 0 hc (by decide) hb, fun c hc hb => g c 1 hc (by decide) hb, fun c hc hb => g c 2 hc (by decide) hb⟩
  · rintro ⟨h, h0, h1, h2⟩
    refine ⟨h, fun c i hc hi hb => ?_⟩
    have : i = 0 ∨ i = 1 ∨ i = 2 := by omega
    rcases this with rfl | rfl | rfl
    · exact h0 c hc hb
    · exact h1 c hc hb
    · exact h2 c hc hb
theorem fits_uniq {ps : List Nat} (P : Parted ps) {a b d y z : List Nat} (h : Fits ps a b d y) (g : Fits ps a b d z) : y = z :=
  four_ext h.1 g.1 fun c hc => by
    obtain ⟨i, hi, hb⟩ := P.cov c hc
    rw [h.2 c i hc hi hb, g.2 c i hc hi hb]
theorem fit_fits {ps : List Nat} (P : Parted ps) {a b d y z : List Nat} (h : FitOk [a, b, d] ps y) (g : Fits ps a b d z) : y = z := by
  rcases h with ⟨-, c, i, j, hc, hi, hj, hb, hb', hne⟩ | h
  · exact absurd ((g.2 c i hc hi hb).symm.trans (g.2 c j hc hj hb')) hne
  · exact fits_uniq P h g
theorem fit_ne {ps : List Nat} {a b d y : List Nat} (h : FitOk [a, b, d] ps y) (hy : y ≠ []) : Fits ps a b d y := by
  rcases h with ⟨rfl, -⟩ | h
  · exact absurd rfl hy
  · exact h
theorem fits_nonempty {ps : List Nat} {a b d y : List Nat} (h : Fits ps a b d y) : y ≠ [] := fun e => by have := h.1; rw [e] at this; cases this
/-- the due rows so far -/
structure Due (ps : List Nat) (rows D : List (List Nat)) : Prop where
  nd : D.Nodup
  from' : ∀ y ∈ D, ∃ a ∈ rows, ∃ b ∈ rows, ∃ d ∈ rows, Fits ps a b d y
def Has (ps : List Nat) (D : List (List Nat)) (a b d : List Nat) : Prop := ∀ y, Fits ps a b d y → y ∈ D
theorem due_join {ps : List Nat} {rows K D : List (List Nat)} (P : Parted ps) (hK : ∀ r ∈ K, okR r) (hrows : ∀ x, x ∈ rows ↔ x ∈ K) (H : Due ps rows D) (all : ∀ a ∈ rows, ∀ b ∈ rows, ∀ d ∈ rows, Has ps D a b d) (x : List Nat) : x ∈ (joinN K ps).1 ↔ x ∈ D := by
  rw [mem_join P hK]
  constructor
  · rintro ⟨h4, ha⟩
    obtain ⟨a, hA, h0⟩ := ha 0 (by decide)
    obtain ⟨b, hB, h1⟩ := ha 1 (by decide)
    obtain ⟨d, hD, h2⟩ := ha 2 (by decide)
    exact all a ((hrows a).mpr hA) b ((hrows b).mpr hB) d ((hrows d).mpr hD) x (fits_iff.mpr ⟨h4, h0, h1, h2⟩)
  · intro hx
    obtain ⟨a, hA, b, hB, d, hD, h⟩ := H.from' x hx
    obtain ⟨h4, h0, h1, h2⟩ := fits_iff.mp h
    refine ⟨h4, fun i hi => ?_⟩
    have : i = 0 ∨ i = 1 ∨ i = 2 := by omega
    rcases this with rfl | rfl | rfl
    · exact ⟨a, (hrows a).mp hA, h0⟩
    · exact ⟨b, (hrows b).mp hB, h1⟩
    · exact ⟨d, (hrows d).mp hD, h2⟩
theorem join_nd {rows : List (List Nat)} {ps : List Nat} (h : ∀ r ∈ rows, okR r) : (joinN rows ps).1.Nodup := (join_inv h ps).nd
end
section
/-! ## A set of texts -/
abbrev skd (w : World) := PySem.strKind PW w
def kOf : Value → List Nat
  | .str x _ => x.cps.toList
  | _ => []
theorem is_shape {w : World} {k : Str} {v : Value} (h : (skd w).is k v = true) : ∃ t, v = .str k t := Value.isStrOf_shape h
theorem is_sOf {w : World} {l : List Nat} {v : Value} (h : ∃ x t, v = .str x t) : (skd w).is (sOf l) v = true ↔ kOf v = l := by
  obtain ⟨x, t, rfl⟩ := h
  show (x == sOf l) = true ↔ x.cps.toList = l
  rw [beq_iff_eq]
  constructor
  · rintro rfl; exact sOf_cps l
  · intro e; rw [← e]; exact str_sOf x
structure SetAt (w : World) (h : Heap) (a : Addr) (es : Array (Int × Value)) (ep : Nat) (t : SetTable) : Prop where
  at' : h.get? a = some { cls := .type "set", dict := none, data := .set es ep t }
  el : ElemsOf (skd w) es.toList
  nd : (es.toList.map fun e => kOf e.2).Nodup
  fit : t.fits es.size = true
  led : t.led = !w.params.followText "set-order"
  plain : es.size ≠ 0 → t.plain = false
  small : es.size ≤ 100
theorem el_str {w : World} {l : List (Int × Value)} (h : ElemsOf (skd w) l) : ∀ e ∈ l, ∃ x t, e.2 = .str x t := fun e he => let ⟨⟨k, hk, _⟩, _⟩ := h e he; let ⟨t, q⟩ := is_shape hk; ⟨k, t, q⟩
theorem put_led (t : SetTable) (j : Nat) : (t.put j).1.led = t.led := rfl
theorem standIn_led (t : SetTable) (n : Nat) : (t.standIn n).led = t.led := rfl
theorem orStandIn_led (t : SetTable) (n : Nat) : (t.orStandIn n).led = t.led := by unfold SetTable.orStandIn; split <;> rfl
theorem layNew_led (t : SetTable) (es : Array (Int × Value)) (h : Int) (x : Value) : (layNew t es h x).2.1.led = t.led := by
  unfold layNew
  split
  · exact orStandIn_led _ _
  · rfl
theorem laid_rest {mask finger moves : Nat} {led plain : Bool} {hashes : Array Int} {r : SetTable × Array Nat} (h : SetTable.laid mask finger moves led plain hashes = some r) : r.1.led = led ∧ r.1.plain = plain := by
  unfold SetTable.laid at h
  obtain ⟨o, _, h⟩ := Option.bind_eq_some_iff.mp h
  cases h
  exact ⟨rfl, rfl⟩
theorem relayAll_rest (t : SetTable) (es : Array (Int × Value)) (n : Nat) : (relayAll t es n).2.1.led = t.led ∧ (t.plain = false → (relayAll t es n).2.1.plain = false) := by
  unfold relayAll
  split
  · rename_i t' order e
    have h := laid_rest e
    dsimp only
    split
    · exact ⟨h.1, fun q => h.2.trans q⟩
    · exact ⟨rfl, fun _ => rfl⟩
  · exact ⟨rfl, fun _ => rfl⟩
section
variable {w : World} {s : Shared} {A : Around} {E : Value → Shared → Prop}
theorem SetAt.put {h : Heap} {a : Addr} {es es' : Array (Int × Value)} {ep : Nat} {t t' : SetTable} (S : SetAt w h a es ep t) (el : ElemsOf (skd w) es'.toList) (nd : (es'.toList.map fun e => kOf e.2).Nodup) (fit : t'.fits es'.size = true) (led : t'.led = t.led) (plain : es'.size ≠ 0 → t'.plain = false) (small : es'.size ≤ 100) :
    SetAt w (h.update a (Obj.putSet es' t')) a es' (ep + 1) t' := by
  refine ⟨?_, el, nd, fit, led.trans S.led, plain, small⟩
  have := Heap.get?_update_self (Obj.putSet es' t') S.at' (by rw [putSet_of es' t' rfl]; rfl)
  rw [putSet_of es' t' rfl] at this
  exact this
theorem add_tail {g : Bool → Sem Unit} {a : Addr} {es es' : Array (Int × Value)} {ep : Nat} {t t' : SetTable} {wd : Bool} {R : Option Bool → Shared → Prop} (S : SetAt w s.heap a es ep t)
    (hg : ∀ (b : Bool) (s₁ : Shared) (Q' : Unit → Shared → Prop), Q' () s₁ → wpAny (MM w) A (g b) Q' E s₁)
    (el : ElemsOf (skd w) es'.toList) (nd : (es'.toList.map fun e => kOf e.2).Nodup) (fit : t'.fits es'.size = true) (led : t'.led = t.led) (plain : t'.plain = false) (small : es'.size ≤ 100)
    (h : ∀ h' es₂ ep₂ t₂, Heap.SameBut a s.heap h' → SetAt w h' a es₂ ep₂ t₂ → es₂.toList.Perm es'.toList → R (some true) { s with heap := h' }) :
    wpAny (MM w) A (do
        storeSet a es' t'
        if (!wd && t'.tooFull) = true then do
            g (relayAll t' es' (SetTable.grown es'.size)).2.2
            storeSet a (relayAll t' es' (SetTable.grown es'.size)).1 (relayAll t' es' (SetTable.grown es'.size)).2.1
            pure (some true)
          else pure (some true)) R E s := by
  have hz : sizeLine = 2 ^ 24 := rfl
  refine wpAny_bind (wpAny_storeSet_of S.at' rfl ?_ (by rw [hz]; omega))
  have S1 := S.put el nd fit led (fun _ => plain) small
  have sb := Heap.SameBut.update s.heap a (Obj.putSet es' t')
  split
  · have hp := relayAll_perm t' es' (SetTable.grown es'.size)
    have hf := relayAll_fits t' es' (SetTable.grown es'.size)
    have hr := relayAll_rest t' es' (SetTable.grown es'.size)
    generalize relayAll t' es' (SetTable.grown es'.size) = Rl at hp hf hr ⊢
    obtain ⟨es2, t3, gave⟩ := Rl
    dsimp only at hp hf hr ⊢
    have hsz : es2.size = es'.size := by rw [← Array.length_toList, hp.length_eq, Array.length_toList]
    refine wpAny_bind (hg _ _ _ ?_)
    refine wpAny_bind (wpAny_storeSet_of S1.at' rfl ?_ (by rw [hz, hsz]; omega))
    exact wpAny_pure (h _ es2 _ t3 (sb.trans (Heap.SameBut.update _ a _)) (S1.put (el.perm hp) ((hp.map _).nodup_iff.mpr nd) hf hr.1 (fun _ => hr.2 plain) (by omega)) hp)
  · exact wpAny_pure (h _ es' _ t' sb S1 (List.Perm.refl _))
theorem setAdd_S {a : Addr} {es : Array (Int × Value)} {ep : Nat} {t : SetTable} {x : List Nat} {u : Tok} {Q : Bool → Shared → Prop} (S : SetAt w s.heap a es ep t) (hroom : es.size < 100)
    (h : ∀ b h' tk es' ep' t', Heap.SameBut a s.heap h' → SetAt w h' a es' ep' t' → (∀ y, y ∈ es'.toList.map (fun e => kOf e.2) ↔ y ∈ es.toList.map (fun e => kOf e.2) ∨ y = x) → es'.size ≤ es.size + 1 → Q b { s with heap := h', toks := tk }) :
    wpAny (MM w) A (setAdd a (.str (sOf x) u)) Q E s := by
  have hkey : (skd w).is (sOf x) (.str (sOf x) u) = true := strKind_is PW w (sOf x) u
  unfold setAdd
  refine wpAny_holding (wpAny_bind ((skd w).pyHash (k := sOf x) hkey ?_))
  unfold setAddHashed setAddHashedIn
  refine wpAny_holding (wpAny_bind (wpAny_setState_of S.at' rfl S.fit ?_))
  dsimp only
  rw [byScan_of (knd := skd w) rfl (by have := S.small; unfold scanBound; omega) S.el]
  simp only [↓reduceIte]
  unfold setAddByScan
  refine wpAny_bind ?_
  refine wpAny_bind (wpAny_rule ?_)
  refine wpAny_bind (wpAny_setScan_of (knd := skd w) hkey S.at' rfl S.fit S.el ?_)
  cases hr : List.findIdx? (fun e => (skd w).is (sOf x) e.2) es.toList with
  | some j =>
    dsimp only
    obtain ⟨hj, hpj, _⟩ := List.findIdx?_eq_some_iff_getElem.mp hr
    have hm := List.getElem_mem hj
    have hx : x ∈ es.toList.map (fun e => kOf e.2) := List.mem_map.mpr ⟨_, hm, (is_sOf (el_str S.el _ hm)).mp hpj⟩
    refine wpAny_pure (wpAny_pure ?_)
    exact h _ s.heap (s.toks + 1) es ep t (Heap.SameBut.refl a s.heap) S (fun y => ⟨.inl, fun q => q.elim _root_.id fun e => e ▸ hx⟩) (Nat.le_succ _)
  | none =>
    dsimp only
    have hx : x ∉ es.toList.map (fun e => kOf e.2) := fun q => by
      obtain ⟨e, he, q⟩ := List.mem_map.mp q
      have := List.findIdx?_eq_none_iff.mp hr e he
      rw [(is_sOf (el_str S.el _ he)).mpr q] at this; cases this
    have hgw : ∀ (b : Bool) {s₁ : Shared} {Q' : Unit → Shared → Prop}, Q' () s₁ → wpAny (MM w) A (match b with | true => rule "set.scan.the-table-gave-way" | false => pure ()) Q' E s₁ :=
      fun b s₁ Q' hq => by cases b <;> first | exact wpAny_pure hq | exact wpAny_rule hq
    have hperm := layNew_perm t es ((skd w).hash (sOf x)) (.str (sOf x) u)
    have hfits := layNew_fits t es ((skd w).hash (sOf x)) (.str (sOf x) u)
    have hled := layNew_led t es ((skd w).hash (sOf x)) (.str (sOf x) u)
    generalize layNew t es ((skd w).hash (sOf x)) (.str (sOf x) u) = L at hperm hfits hled ⊢
    obtain ⟨es1, t1, wd, gave⟩ := L
    dsimp only at hperm hfits hled ⊢
    rw [Array.toList_push] at hperm
    have hel1 : ElemsOf (skd w) es1.toList := (S.el.push hkey rfl).perm hperm
    have hpm : (es1.toList.map fun e => kOf e.2).Perm (es.toList.map (fun e => kOf e.2) ++ [x]) := by
      have := hperm.map fun e : Int × Value => kOf e.2
      rw [List.map_append] at this
      exact this
    have hnd1 : (es1.toList.map fun e => kOf e.2).Nodup := hpm.nodup_iff.mpr (List.nodup_append.mpr ⟨S.nd, by simp, fun p hp q hq e => hx (by rw [List.mem_singleton.mp hq] at e; exact e ▸ hp)⟩)
    have hsz1 : es1.size = es.size + 1 := by rw [← Array.length_toList, hperm.length_eq, List.length_append, Array.length_toList]; rfl
    have hmem : ∀ y, y ∈ es1.toList.map (fun e => kOf e.2) ↔ y ∈ es.toList.map (fun e => kOf e.2) ∨ y = x := fun y => by rw [hpm.mem_iff, List.mem_append, List.mem_singleton]
    have hend : ∀ h' es₂ ep₂ t₂, Heap.SameBut a s.heap h' → SetAt w h' a es₂ ep₂ t₂ → es₂.toList.Perm es1.toList → Q true { s with heap := h', toks := s.toks + 1 } := fun h' es₂ ep₂ t₂ sb S₂ hp =>
      h true h' (s.toks + 1) es₂ ep₂ t₂ sb S₂ (fun y => by rw [(hp.map fun e : Int × Value => kOf e.2).mem_iff]; exact hmem y) (by rw [← Array.length_toList, hp.length_eq, Array.length_toList]; omega)
    refine wpAny_bind (hgw _ ?_)
    split
    · refine wpAny_bind ?_
      rw [hashByValue_scannable 8 rfl]
      refine wpAny_pure ?_
      refine add_tail (s := { s with toks := s.toks + 1 }) S (fun b s₁ Q' hq => by cases b <;> first | exact wpAny_pure hq | exact wpAny_rule hq) hel1 hnd1 ?_ ?_ ?_ (by omega) fun h' es₂ ep₂ t₂ sb S₂ hp => wpAny_pure (hend h' es₂ ep₂ t₂ sb S₂ hp)
      · exact SetTable.fits_plain_off hfits
      · exact hled
      · rfl
    · rename_i hpl
      refine wpAny_bind (wpAny_pure ?_)
      simp only [↓reduceIte]
      exact add_tail (s := { s with toks := s.toks + 1 }) S (fun b s₁ Q' hq => by cases b <;> first | exact wpAny_pure hq | exact wpAny_rule hq) hel1 hnd1 hfits hled (by simpa using hpl) (by omega) fun h' es₂ ep₂ t₂ sb S₂ hp => wpAny_pure (hend h' es₂ ep₂ t₂ sb S₂ hp)
/-- set(): the new object -/
theorem set_made (a : Value) {Q₁ : Value → Shared → Prop}
    (h : Q₁ (.ref s.heap.objs.size) { s with heap := s.heap.push { cls := .type "set", dict := none, data := .set #[] 0 (.fresh 0 0 (!w.params.followText "set-order")) } }) :
    codeAny (MM w) A (.call (.builtin "set.__new__") ⟨[.type "set", a], []⟩) (wants Q₁ E) s := by
  refine codeAny_of_tree ?_
  show wpAny _ A.in1 (do checkBuiltinCall "set.__new__" ⟨[.type "set", a], []⟩; again (.builtin "set.__new__" ⟨[.type "set", a], []⟩)) _ _ s
  refine wpAny_bind (wpAny_of_eq (PySem.F.newCall_set_1 a) (wpAny_pure ⟨plainId_quiet PySem.F.plain_set_new _, codeAny_builtin PySem.F.entry_set_new ?_⟩))
  rw [Around.under_plainId PySem.F.plain_set_new _]
  unfold Builtin.«set.__new__» Builtin.Frozenset.newClass
  have hsub := sub_set_self
  obtain ⟨hp, g, d, tk, os⟩ := s
  dsimp only
  wp_walk
  refine wpAny_askSetting (wpAny_pure ?_)
  dsimp only
  simp only [newObj]
  refine wpAny_bind (wpAny_alloc (wpAny_pure ?_))
  exact wpAny_pure h
/-- the loop that fills a set from an iterator -/
theorem update_loop {I S : Addr} {n : Nat} {ys : List (List Nat)} {Ok : Nat → Obj → Prop} {Aux : Heap → Prop} {R : Result → Shared → Prop} (W : ItW w A.in1 I n (fun i v => ∃ y t, ys[i]? = some y ∧ v = .str (sOf y) t) Ok Aux) (hIS : I ≠ S)
    (hAux : ∀ h h' : Heap, Aux h → (∀ b x, b ≠ S → b ≠ I → h.get? b = some x → h'.get? b = some x) → Aux h') (hn : n ≤ 50) :
    ∀ (k i : Nat) (s : Shared) (o : Obj) (es : Array (Int × Value)) (ep : Nat) (t : SetTable), n - i = k → i ≤ n → s.heap.get? I = some o → Ok i o → Aux s.heap → SetAt w s.heap S es ep t → es.size ≤ i → (∀ y, y ∈ es.toList.map (fun e => kOf e.2) ↔ y ∈ ys.take i) →
      (∀ h' tk es' ep' t', (∀ b x, b ≠ S → b ≠ I → s.heap.get? b = some x → h'.get? b = some x) → SetAt w h' S es' ep' t' → es'.size ≤ n → (∀ y, y ∈ es'.toList.map (fun e => kOf e.2) ↔ y ∈ ys.take n) → R (.ok (.ret .none)) { s with heap := h', toks := tk }) →
      codeAny (MM w) A (.builtin "set.update.loop" ⟨[.ref S, .ref I], []⟩) R s := by
  intro k
  induction k with
  | zero =>
    intro i s o es ep t hk hi ho hok hax hS hsz hmem hR
    have hin : i = n := by omega
    subst hin
    refine codeAny_builtin PyProof.Rows.F.entry_set_update_loop ?_
    rw [Around.under_plainId PyProof.Rows.F.plain_set_update_loop _]
    show wpAny _ A.in1 (pyNext (.ref I) >>= _) _ _ s
    refine wpAny_bind (W.done s _ _ o ho hok hax fun h' tk hk' => ?_)
    show wpAny _ A.in1 (ret Value.none) _ _ _
    refine wpAny_pure (hR h' tk es ep t (fun b x _ hb e => hk' b x hb e) { hS with at' := hk' S _ (Ne.symm hIS) hS.at' } hsz hmem)
  | succ k ih =>
    intro i s o es ep t hk hi ho hok hax hS hsz hmem hR
    refine codeAny_builtin PyProof.Rows.F.entry_set_update_loop ?_
    rw [Around.under_plainId PyProof.Rows.F.plain_set_update_loop _]
    show wpAny _ A.in1 (pyNext (.ref I) >>= _) _ _ s
    refine wpAny_bind (W.item i s _ _ o (by omega) ho hok hax fun v h' tk o' hP ho' hok' hk' => ?_)
    obtain ⟨y, ty, hy, rfl⟩ := hP
    have hS' : SetAt w h' S es ep t := { hS with at' := hk' S _ (Ne.symm hIS) hS.at' }
    show wpAny _ A.in1 (holding [Value.str (sOf y) ty] (setAdd S (.str (sOf y) ty)) >>= _) _ _ _
    refine wpAny_bind (wpAny_holding ?_)
    refine setAdd_S hS' (by omega) fun b h₂ tk₂ es₂ ep₂ t₂ sb S₂ hm₂ hz₂ => ?_
    have kk : ∀ c x, c ≠ S → c ≠ I → s.heap.get? c = some x → h₂.get? c = some x := fun c x h1 h2 e => by
      rw [sb.2 c h1]; exact hk' c x h2 e
    refine wpAny_pure ⟨plainId_quiet PyProof.Rows.F.plain_set_update_loop _, ih (i + 1) _ o' es₂ ep₂ t₂ (by omega) (by omega) (by rw [sb.2 I hIS]; exact ho') hok' (hAux _ _ hax kk) S₂ (by omega) (fun z => ?_) fun h₃ tk₃ es₃ ep₃ t₃ kk₃ S₃ hz₃ hm₃ => ?_⟩
    · rw [hm₂, hmem, List.take_add_one, hy, List.mem_append]; simp
    · exact hR h₃ tk₃ es₃ ep₃ t₃ (fun c x h1 h2 e => kk₃ c x h1 h2 (kk c x h1 h2 e)) S₃ hz₃ hm₃
end
end
section
/-! ## set(list) -/
theorem ItW.to {w : World} {A : Around} {I : Addr} {n : Nat} {P P' : Nat → Value → Prop} {Ok : Nat → Obj → Prop} {Aux : Heap → Prop} (W : ItW w A I n P Ok Aux) (h : ∀ i v, i < n → P i v → P' i v) : ItW w A I n P' Ok Aux where
  item := fun i s Q E o hi ho hok hax hQ => W.item i s Q E o hi ho hok hax fun v h' tk o' hP => hQ v h' tk o' (h i v hi hP)
  done := W.done
theorem texts_it {w : World} {A : Around} (hh : A.handled = none) (I l : Addr) {vs : List Value} {ys : List (List Nat)} (hv : StrsAre vs (ys.map sOf)) (hne : l ≠ I) : ItW w A I ys.length (fun i v => ∃ y t, ys[i]? = some y ∧ v = .str (sOf y) t) (listIt l) (fun h => h.IsList l vs.toArray) := by
  have e : vs.length = ys.length := by rw [StrsAre.len hv, List.length_map]
  have W := ItW.list (w := w) hh I l vs hne
  rw [e] at W
  refine W.to fun i v hi hP => ?_
  obtain ⟨y, hy⟩ : ∃ y, ys[i]? = some y := ⟨ys[i], List.getElem?_eq_getElem hi⟩
  obtain ⟨t, ht⟩ := StrsAre.at hv (i := i) (y := sOf y) (by rw [List.getElem?_map, hy]; rfl)
  rw [ht] at hP
  exact ⟨y, t, hy, (Option.some.inj hP).symm⟩
section
variable {w : World} {s : Shared} {A : Around} {E : Value → Shared → Prop}
set_option maxHeartbeats 3200000 in
theorem set_S {l : Addr} {vs : List Value} {ys : List (List Nat)} {Q : Value → Shared → Prop} (hh : A.handled = none) (hl : s.heap.IsList l vs.toArray) (hv : StrsAre vs (ys.map sOf)) (hn : ys.length ≤ 50)
    (h : ∀ S h' tk es ep t, (∀ b o, s.heap.get? b = some o → h'.get? b = some o) → s.heap.get? S = none → SetAt w h' S es ep t → es.size ≤ ys.length → (∀ y, y ∈ es.toList.map (fun e => kOf e.2) ↔ y ∈ ys) → Q (.ref S) { s with heap := h', toks := tk }) :
    wpAny (MM w) A (call (.type "set") [.ref l]) Q E s := by
  obtain ⟨c, tl, hmro⟩ := PySem.F.called_set.mro
  have hmade := PySem.F.called_set.made
  have hsub := PySem.F.called_set.sub
  refine wpAny_call (codeAny_of_tree ?_)
  show wpAny _ _ (callAny (.type "set") _) _ _ _
  refine wpAny_pure ⟨Code.quiet_builtin _ (by decide +kernel), codeAny_builtin PySem.F.entry_type_call ?_⟩
  rw [Around.under_plain (weight_type_call_type "set" [.ref l] []) rfl]
  have h1 := PySem.F.called_set.notType
  have h2 := PySem.F.called_set.canCreate
  have hct := PySem.F.typeCall_set_1 (.ref l)
  repeat (any_goals (first | assumption | wp_step))
  generalize hfr : (!w.params.followText "set-order") = led
  refine codeAny_mono (set_made (.ref l) (E := E) (Q₁ := fun obj s₁ => obj = .ref s.heap.objs.size ∧ s₁ = { s with heap := s.heap.push { cls := .type "set", dict := none, data := .set #[] 0 (.fresh 0 0 (!w.params.followText "set-order")) } }) ⟨rfl, rfl⟩) fun r s₁ hr => ?_
  rw [hfr] at hr
  cases r with
  | error e => exact hr
  | ok fl =>
    cases fl with
    | ret obj =>
      obtain ⟨rfl, rfl⟩ := hr
      have hS : (s.heap.push { cls := .type "set", dict := none, data := .set #[] 0 (.fresh 0 0 led) }).get? s.heap.objs.size = some { cls := .type "set", dict := none, data := .set #[] 0 (.fresh 0 0 led) } := Heap.get?_push_size _ rfl
      have hT : Shared.TypeIs { s with heap := s.heap.push { cls := .type "set", dict := none, data := .set #[] 0 (.fresh 0 0 led) } } (.ref s.heap.objs.size) "set" := ⟨_, hS, rfl⟩
      have hled : (SetTable.fresh 0 0 led).led = !w.params.followText "set-order" := hfr.symm
      have hS0 : SetAt w (s.heap.push { cls := .type "set", dict := none, data := .set #[] 0 (.fresh 0 0 led) }) s.heap.objs.size #[] 0 (.fresh 0 0 led) := ⟨hS, fun e he => by simp at he, by simp, by rfl, hled, fun q => absurd rfl q, by decide⟩
      have hli := PySem.F.called_set.init.lookup
      have hbi := PySem.F.called_set.init.bind (.ref s.heap.objs.size)
      repeat (any_goals (first | assumption | wp_step))
      refine codeAny_mono (codeAny_call_builtin (R := wants (fun r s₂ => r = .none ∧ ∃ h' tk es ep t, s₂ = { s with heap := h', toks := tk } ∧ (∀ b o, s.heap.get? b = some o → h'.get? b = some o) ∧ SetAt w h' s.heap.objs.size es ep t ∧ es.size ≤ ys.length ∧ (∀ y, y ∈ es.toList.map (fun e => kOf e.2) ↔ y ∈ ys)) E)
        PySem.F.called_set.init.plain PySem.F.entry_set_init (check_set_init_1 hT ?_)) fun r₂ s₂ hr₂ => ?_
      · obtain ⟨ol, hol, hcl, nl, hdl⟩ := hl
        obtain ⟨ocls, odict, odata, oslots⟩ := ol
        simp only at hcl hdl
        subst hcl; subst hdl
        have hol' : (s.heap.push { cls := .type "set", dict := none, data := .set #[] 0 (.fresh 0 0 led) }).get? l = some { cls := .type "list", dict := odict, data := .seq vs.toArray nl, slots := oslots } := Heap.get?_push_of_some _ hol
        have hsls := PySem.F.sub_list_set
        have hslf := PySem.F.sub_list_frozenset
        have hne : (Value.type "list" == Value.type "dict") = false := by decide
        have hl1 : (s.heap.push { cls := .type "set", dict := none, data := .set #[] 0 (.fresh 0 0 led) }).IsList l vs.toArray := ⟨_, hol', rfl, nl, rfl⟩
        have hlS : l < s.heap.objs.size := Heap.lt_size hol
        unfold Builtin.«set.__init__» noKeywords Builtin.Frozenset.updateFrom
        generalize hPI : pyIter = PI
        wp_walk
        subst hPI
        refine wpAny_pyIter_list hl1 ?_
        refine wpAny_bind (wpAny_runValue ?_)
        show codeAny _ _ (.builtin "set.update.loop" ⟨[.ref s.heap.objs.size, .ref (s.heap.push { cls := .type "set", dict := none, data := .set #[] 0 (.fresh 0 0 led) }).objs.size], []⟩) _ _
        have hsz : (s.heap.push { cls := .type "set", dict := none, data := .set #[] 0 (.fresh 0 0 led) }).objs.size = s.heap.objs.size + 1 := Heap.size_push ..
        rw [hsz]
        have hI : ((s.heap.push { cls := .type "set", dict := none, data := .set #[] 0 (.fresh 0 0 led) }).push { cls := .type "list_iterator", data := .fields #[.ref l, .int 0 0] }).get? (s.heap.objs.size + 1) = some { cls := .type "list_iterator", data := .fields #[.ref l, .int 0 0] } := by
          rw [← hsz]; exact Heap.get?_push_size _ rfl
        have hneI : s.heap.objs.size + 1 ≠ s.heap.objs.size := Nat.succ_ne_self _
        have hlI : l ≠ s.heap.objs.size + 1 := Nat.ne_of_lt (Nat.lt_succ_of_lt hlS)
        have hl0 : l ≠ s.heap.objs.size := Nat.ne_of_lt hlS
        have hold : ∀ b o, s.heap.get? b = some o → b ≠ s.heap.objs.size ∧ b ≠ s.heap.objs.size + 1 := fun b o e => ⟨Nat.ne_of_lt (Heap.lt_size e), Nat.ne_of_lt (Nat.lt_succ_of_lt (Heap.lt_size e))⟩
        generalize s.heap.objs.size + 1 = I at *
        generalize s.heap.objs.size = S at *
        refine update_loop (S := S) (I := I) (n := ys.length) (ys := ys) (texts_it (w := w) (A := A.in1.in1.in1) hh I l hv hlI) hneI (fun h h' hax k => hax.at fun o e => k l o hl0 hlI e) hn ys.length 0 _ _ #[] 0 (.fresh 0 0 led) (by omega) (Nat.zero_le _) hI ⟨rfl, rfl⟩ (hl1.push _) { hS0 with at' := Heap.get?_push_of_some _ hS0.at' } (Nat.le_refl _) (fun y => by simp) fun h' tk es ep t hk hS' hz hm => ?_
        refine wpAny_pure (wpAny_pure ⟨rfl, h', tk, es, ep, t, rfl, fun b o e => ?_, hS', hz, by simpa using hm⟩)
        exact hk b o (hold b o e).1 (hold b o e).2 (Heap.get?_push_of_some _ (Heap.get?_push_of_some _ e))
      · cases r₂ with
        | error e => exact hr₂
        | ok fl₂ =>
          cases fl₂ with
          | ret r =>
            obtain ⟨rfl, h', tk, es, ep, t, rfl, hk, hS', hz, hm⟩ := hr₂
            repeat (any_goals (first | assumption | wp_step))
            exact h _ _ _ es ep t hk (none_at _) hS' hz hm
          | _ => exact hr₂.elim
    | _ => exact hr.elim
end
end
section
/-! ## a set of texts is walked -/
theorem slot_si_next : Slot "set_iterator" "__next__" "set_iterator.__next__" :=
  .of (owner := "set_iterator") (n := "__next__") (by rw [typeLookup_type, builtinLookup_eq_fast]; kernel_rfl) (by decide +kernel) (by decide +kernel) (by decide +kernel)
    (by first | exact .inl (by decide +kernel) | exact .inr (by decide +kernel)) (by rw [isSubtype_type]; kernel_rfl)
theorem entry_si_next : entryFor table "set_iterator.__next__" = some Builtin.«set_iterator.__next__» := entryFor_of_fast (by kernel_rfl)
theorem args_si_next (a : Value) : argsOk "set_iterator.__next__" ⟨[a], []⟩ := by unfold argsOk; kernel_rfl
theorem entry_s_iter : entryFor table "set.__iter__" = some Builtin.«frozenset.__iter__» :=
  entryFor_alias (id' := "frozenset.__iter__") (by kernel_rfl) rfl (by decide +kernel) (by kernel_rfl)
def setIt (first : Value) (i n ep : Nat) (S : Addr) : Obj := { cls := .type "set_iterator", data := .fields #[first, .int i 0, .ref S, .int n 0, .int ep 0] }
section
variable {w : World} {s : Shared} {A : Around} {E : Value → Shared → Prop} {I S : Addr} {first : Value} {i n ep : Nat} {es : Array (Int × Value)} {t : SetTable}
theorem next_int {slot nx : Nat} {x : Value} {Q : Option Value → Shared → Prop} (ho : s.heap.get? I = some (setIt (rawInt slot) i n ep S)) (hS : SetAt w s.heap S es ep t) (hn : es.size = n)
    (hstep : ∀ (A : Around) (E : Value → Shared → Prop) (Q : Option (Value × Nat) → Shared → Prop), Q (some (x, nx)) s → wpAny (MM w) A (setNext S slot i ep) Q E s)
    (hQ : ∀ h', h'.get? I = some (setIt (rawInt nx) (i + 1) n ep S) → (∀ b o, b ≠ I → s.heap.get? b = some o → h'.get? b = some o) → Q (some x) { s with heap := h' }) : wpAny (MM w) A (pyNext (.ref I)) Q E s := by
  have hT : s.TypeIs (.ref I) "set_iterator" := ⟨_, ho, rfl⟩
  unfold pyNext
  refine wpAny_bind (wpAny_attempt (wpAny_callSpecial?_slot (name := Str.ofString "__next__") hT slot_si_next (wpAny_call_entry slot_si_next hT entry_si_next ?_ (args_si_next _))))
  unfold Builtin.«set_iterator.__next__»
  refine wpAny_bind (m := slotArgs _ _ _) (wpAny_pure (a := ((Value.ref I, []) : Value × List Value)) ?_)
  dsimp only
  refine wpAny_bind (wpAny_fieldsOf ho rfl ?_)
  dsimp only
  refine wpAny_bind (wpAny_setEntries_of hS.at' rfl hS.fit ?_)
  rw [if_neg (by rw [hn]; simp)]
  dsimp only [rawInt]
  simp only [Int.toNat_natCast]
  refine wpAny_bind (hstep _ _ _ ?_)
  dsimp only
  refine wpAny_bind (wpAny_setField_rec ho (by simp) fun h₁ ho₁ hs₁ => ?_)
  refine wpAny_bind (wpAny_setField_rec ho₁ (by simp) fun h₂ ho₂ hs₂ => ?_)
  refine wpAny_pure ⟨x, rfl, wpAny_pure (hQ h₂ ?_ fun b o hb e => hs₂.extBut _ _ hb (hs₁.extBut _ _ hb e))⟩
  have e : (((i + 1 : Nat) : Int)) = (i : Int) + 1 := by omega
  unfold setIt
  rw [e]
  simpa [rawInt] using ho₂
theorem stop_go {k : Nat} {cls : Value} {vs : Array Value} {Q : Option Value → Shared → Prop} (hh : A.handled = none) (ho : s.heap.get? I = some { cls := cls, dict := none, data := .fields vs, slots := #[] }) (hk : k < vs.size)
    (hQ : ∀ h', (∀ b o, b ≠ I → s.heap.get? b = some o → h'.get? b = some o) → Q none { s with heap := h' }) :
    wpAny (MM w) A.in1 (do
      setField (.ref I) k .none
      let e ← newExc (.type "StopIteration") []
      raiseNew e) (fun fin s' => ∃ v, fin = Fin.done (.ret v) ∧ wpAny (MM w) A (pure (some v)) Q E s')
      (fun e s' => wpAny (MM w) A (do
        let b ← isInstance e (.type "StopIteration")
        if b = true then pure none else throw e) Q E s') s := by
  refine wpAny_bind (wpAny_setField_rec ho hk fun h₁ ho₁ hs₁ => ?_)
  refine wpAny_bind ?_
  simp only [newExc, newTuple]
  refine wpAny_bind (wpAny_newObj_type ?_ (by size_fits))
  refine wpAny_bind (m := firstArgMember _ _) (wpAny_of_eq (a := Value.none) rfl ?_)
  refine wpAny_newObj_type ?_ (by size_fits)
  simp only [raiseNew]
  refine wpAny_bind (wpAny_handled ?_)
  rw [show A.in1.handled = none from hh]
  refine wpAny_bind (wpAny_pure (wpAny_throw ?_))
  refine wpAny_bind (wpAny_isInstance (T := "StopIteration") (b := true) ⟨_, Heap.get?_push_size _ rfl, rfl⟩ isSubtype_stop ?_)
  exact wpAny_pure (hQ _ fun b o hb e => (((hs₁.extBut.push _).push _)) b o hb e)
theorem next_intEnd {slot : Nat} {Q : Option Value → Shared → Prop} (hh : A.handled = none) (ho : s.heap.get? I = some (setIt (rawInt slot) i n ep S)) (hS : SetAt w s.heap S es ep t) (hn : es.size = n)
    (hstep : ∀ (A : Around) (E : Value → Shared → Prop) (Q : Option (Value × Nat) → Shared → Prop), Q none s → wpAny (MM w) A (setNext S slot i ep) Q E s)
    (hQ : ∀ h', (∀ b o, b ≠ I → s.heap.get? b = some o → h'.get? b = some o) → Q none { s with heap := h' }) : wpAny (MM w) A (pyNext (.ref I)) Q E s := by
  have hT : s.TypeIs (.ref I) "set_iterator" := ⟨_, ho, rfl⟩
  unfold pyNext
  refine wpAny_bind (wpAny_attempt (wpAny_callSpecial?_slot (name := Str.ofString "__next__") hT slot_si_next (wpAny_call_entry slot_si_next hT entry_si_next ?_ (args_si_next _))))
  unfold Builtin.«set_iterator.__next__»
  refine wpAny_bind (m := slotArgs _ _ _) (wpAny_pure (a := ((Value.ref I, []) : Value × List Value)) ?_)
  dsimp only
  refine wpAny_bind (wpAny_fieldsOf ho rfl ?_)
  dsimp only
  refine wpAny_bind (wpAny_setEntries_of hS.at' rfl hS.fit ?_)
  rw [if_neg (by rw [hn]; simp)]
  dsimp only [rawInt]
  simp only [Int.toNat_natCast]
  refine wpAny_bind (hstep _ _ _ ?_)
  dsimp only
  exact stop_go hh ho (by simp) hQ
theorem next_tup {T : Addr} {ps : List Value} {p : Nat} {e : Int × Value} {Q : Option Value → Shared → Prop} (ho : s.heap.get? I = some (setIt (.ref T) i n ep S)) (hS : SetAt w s.heap S es ep t) (hn : es.size = n)
    (hT' : s.heap.get? T = some (tupO ps)) (hp : ps[i]? = some (rawInt p)) (he : es[p]? = some e)
    (hQ : ∀ h', h'.get? I = some (setIt (.ref T) (i + 1) n ep S) → (∀ b o, b ≠ I → s.heap.get? b = some o → h'.get? b = some o) → Q (some e.2) { s with heap := h' }) : wpAny (MM w) A (pyNext (.ref I)) Q E s := by
  have hT : s.TypeIs (.ref I) "set_iterator" := ⟨_, ho, rfl⟩
  unfold pyNext
  refine wpAny_bind (wpAny_attempt (wpAny_callSpecial?_slot (name := Str.ofString "__next__") hT slot_si_next (wpAny_call_entry slot_si_next hT entry_si_next ?_ (args_si_next _))))
  unfold Builtin.«set_iterator.__next__»
  refine wpAny_bind (m := slotArgs _ _ _) (wpAny_pure (a := ((Value.ref I, []) : Value × List Value)) ?_)
  dsimp only
  refine wpAny_bind (wpAny_fieldsOf ho rfl ?_)
  dsimp only
  refine wpAny_bind (wpAny_setEntries_of hS.at' rfl hS.fit ?_)
  rw [if_neg (by rw [hn]; simp)]
  refine wpAny_bind (wpAny_seqItems hT' rfl ?_)
  have hp' : ps.toArray[(i : Int).toNat]? = some (rawInt p) := by simpa using hp
  dsimp only
  rw [hp']
  dsimp only [rawInt]
  simp only [Int.toNat_natCast]
  refine wpAny_bind (m := setNextDrawn _ _ _) ?_
  unfold setNextDrawn
  refine wpAny_bind (wpAny_setState_of hS.at' rfl hS.fit ?_)
  dsimp only
  rw [if_neg (by simp)]
  rw [he]
  obtain ⟨e1, e2⟩ := e
  dsimp only
  refine wpAny_pure ?_
  refine wpAny_bind (wpAny_setField_rec ho (by simp) fun h₂ ho₂ hs₂ => ?_)
  refine wpAny_pure ⟨e2, rfl, wpAny_pure (hQ h₂ ?_ fun b o hb e => hs₂.extBut _ _ hb e)⟩
  have e : (((i + 1 : Nat) : Int)) = (i : Int) + 1 := by omega
  unfold setIt
  rw [e]
  simpa [rawInt] using ho₂
theorem next_tupEnd {T : Addr} {ps : List Value} {Q : Option Value → Shared → Prop} (hh : A.handled = none) (ho : s.heap.get? I = some (setIt (.ref T) i n ep S)) (hS : SetAt w s.heap S es ep t) (hn : es.size = n)
    (hT' : s.heap.get? T = some (tupO ps)) (hp : ps[i]? = none)
    (hQ : ∀ h', (∀ b o, b ≠ I → s.heap.get? b = some o → h'.get? b = some o) → Q none { s with heap := h' }) : wpAny (MM w) A (pyNext (.ref I)) Q E s := by
  have hT : s.TypeIs (.ref I) "set_iterator" := ⟨_, ho, rfl⟩
  unfold pyNext
  refine wpAny_bind (wpAny_attempt (wpAny_callSpecial?_slot (name := Str.ofString "__next__") hT slot_si_next (wpAny_call_entry slot_si_next hT entry_si_next ?_ (args_si_next _))))
  unfold Builtin.«set_iterator.__next__»
  refine wpAny_bind (m := slotArgs _ _ _) (wpAny_pure (a := ((Value.ref I, []) : Value × List Value)) ?_)
  dsimp only
  refine wpAny_bind (wpAny_fieldsOf ho rfl ?_)
  dsimp only
  refine wpAny_bind (wpAny_setEntries_of hS.at' rfl hS.fit ?_)
  rw [if_neg (by rw [hn]; simp)]
  refine wpAny_bind (wpAny_seqItems hT' rfl ?_)
  have hp' : ps.toArray[(i : Int).toNat]? = none := by simpa using hp
  dsimp only
  rw [hp']
  dsimp only
  refine wpAny_bind (wpAny_setField_rec ho (by simp) fun h₁ ho₁ hs₁ => ?_)
  exact stop_go hh ho₁ (by simp) fun h' hk => hQ h' fun b o hb e => hk b o hb (hs₁.extBut _ _ hb e)
end
end
section
/-! ## sorted(set) -/
theorem erase_perm {α : Type} : ∀ (l : List α) (i : Nat) (h : i < l.length), (l[i] :: l.eraseIdx i).Perm l
  | a :: l, 0, _ => by simp
  | a :: l, i + 1, h => by
    have ih := erase_perm l i (by simpa using h)
    simp only [List.getElem_cons_succ, List.eraseIdx_cons_succ]
    exact (List.Perm.swap _ _ _).trans (ih.cons a)
theorem pick_go {α : Type} (next : Nat → Nat) : ∀ (fuel k : Nat) (left : List α) (out : Array α), left.length = fuel → (pickOrder.go next fuel k left out).toList.Perm (out.toList ++ left)
  | 0, k, left, out, h => by
    have : left = [] := List.eq_nil_of_length_eq_zero h
    subst this
    rw [List.append_nil]
    exact List.Perm.refl _
  | fuel + 1, k, left, out, h => by
    unfold pickOrder.go
    have hlt : next k % left.length < left.length := Nat.mod_lt _ (by omega)
    rw [List.getElem?_eq_getElem hlt]
    dsimp only
    have ih := pick_go next fuel (k + 1) (left.eraseIdx (next k % left.length)) (out.push left[next k % left.length]) (by rw [List.length_eraseIdx_of_lt hlt]; omega)
    refine ih.trans ?_
    rw [Array.toList_push, List.append_assoc]
    exact (erase_perm _ _ hlt).append_left _
theorem pick_perm {α : Type} (next : Nat → Nat) (xs : Array α) : (pickOrder next xs).toList.Perm xs.toList := by
  have := pick_go next xs.size 0 xs.toList #[] (by simp)
  simpa [pickOrder] using this
section
variable {w : World} {s : Shared} {A : Around} {E : Value → Shared → Prop}
theorem choose_go {src : Source} {n : Nat} {Q : Nat → Shared → Prop} (hn : n ≠ 0) (h : ∀ k d, k < n → Q k { s with drawn := d }) : wpAny (MM w) A (choose src n) Q E s := fun Γ p hΓ => by
  unfold choose
  rw [Sem.wp_choose]
  exact ⟨hn, h _ _ (Nat.mod_lt _ (Nat.pos_of_ne_zero hn))⟩
theorem draw_go {α : Type} : ∀ (n : Nat) (xs : List α) (s : Shared) (Q : List α → Shared → Prop), xs.length = n → (∀ ys d, ys.Perm xs → Q ys { s with drawn := d }) → wpAny (MM w) A (drawOrder n xs) Q E s
  | 0, xs, s, Q, h, hq => by
    have : xs = [] := List.eq_nil_of_length_eq_zero h
    subst this
    unfold drawOrder
    exact wpAny_pure (hq [] s.drawn (List.Perm.refl _))
  | n + 1, [], s, Q, h, hq => by cases h
  | n + 1, x :: xs, s, Q, h, hq => by
    unfold drawOrder
    refine wpAny_bind (choose_go (by simp) fun k d hk => ?_)
    rw [List.getElem?_eq_getElem hk]
    dsimp only
    refine wpAny_bind (draw_go n ((x :: xs).eraseIdx k) _ _ (by rw [List.length_eraseIdx_of_lt hk]; simpa using h) fun ys d' hp => ?_)
    exact wpAny_pure (hq _ d' ((hp.cons _).trans (erase_perm _ _ hk)))
/-- the walk over a set that stands -/
structure SetGo (w : World) (s s' : Shared) (S I : Addr) (es : Array (Int × Value)) (zs : List Value) (o : Obj) (Ok : Nat → Obj → Prop) (Aux : Heap → Prop) : Prop where
  st : ∃ h' tk d, s' = { s with heap := h', toks := tk, drawn := d }
  kp : ∀ b o, s.heap.get? b = some o → s'.heap.get? b = some o
  new : s.heap.get? I = none
  at' : s'.heap.get? I = some o
  perm : zs.Perm (es.toList.map (·.2))
  walk : ∀ A : Around, A.handled = none → ItW w A I zs.length (fun i v => zs[i]? = some v) Ok Aux
  ok : Ok 0 o
  aux : Aux s'.heap
  stay : ∀ (X : Addr) (ox : Obj), X ≠ S → s.heap.get? X = some ox → ∀ h h' : Heap, Aux h → (∀ b x, b ≠ X → b ≠ I → h.get? b = some x → h'.get? b = some x) → Aux h'
theorem below1 {j k : Nat} : SetTable.below #[j] k = if j < k then 1 else 0 := by
  unfold SetTable.below
  show SetTable.below.go #[j] k 1 0 1 = _
  unfold SetTable.below.go
  rw [if_pos (by decide)]
  show (if j < k then _ else _) = _
  split
  · rfl
  · rfl
theorem one_of {α : Type} {xs : Array α} (h : xs.size = 1) : ∃ x, xs = #[x] := by
  obtain ⟨l⟩ := xs
  match l, h with
  | [x], _ => exact ⟨x, rfl⟩
theorem set_iter {S : Addr} {es : Array (Int × Value)} {ep : Nat} {t : SetTable} {Q : Value → Shared → Prop} (hS : SetAt w s.heap S es ep t)
    (h : ∀ I s' zs o Ok Aux, SetGo w s s' S I es zs o Ok Aux → Q (.ref I) s') : wpAny (MM w) A (pyIter (.ref S)) Q E s := by
  have hT : s.TypeIs (.ref S) "set" := ⟨_, hS.at', rfl⟩
  refine wpAny_pyIter_slot hT PySem.F.slot_set_iter (wpAny_call_entry PySem.F.slot_set_iter hT entry_s_iter ?_ (PySem.F.args_set_iter_1 _))
  unfold Builtin.«frozenset.__iter__»
  refine wpAny_bind (m := Builtin.Frozenset.slot0 _ _) (wpAny_pure (a := S) ?_)
  refine wpAny_bind (m := Builtin.Frozenset.sizeOf _) ?_
  unfold Builtin.Frozenset.sizeOf
  refine wpAny_bind (wpAny_setEntries_of hS.at' rfl hS.fit (wpAny_pure ?_))
  refine wpAny_bind (m := setDrawn _) ?_
  unfold setDrawn
  refine wpAny_bind (wpAny_setState_of hS.at' rfl hS.fit ?_)
  dsimp only
  unfold setsByText
  refine wpAny_bind (wpAny_bind (wpAny_askSetting (wpAny_pure ?_)))
  refine wpAny_pure ?_
  show wpAny (MM w) A.in1 (if (!w.params.followText "set-order" && (!t.plain && decide (es.size > 1))) = true then _ else _) _ _ s
  have hz : sizeLine = 2 ^ 24 := rfl
  have hSlt : S < s.heap.objs.size := Heap.lt_size hS.at'
  by_cases hc : (!w.params.followText "set-order" && (!t.plain && decide (es.size > 1))) = true
  · rw [if_pos hc]
    refine wpAny_bind (draw_go es.size (List.range es.size) _ _ (by simp) fun ys d hp => ?_)
    have hyl : ys.length = es.size := by rw [hp.length_eq]; simp
    refine wpAny_bind (wpAny_newObj_type ?_ (by show _ ≤ sizeLine; rw [List.size_toArray, List.length_map, hyl, hz]; have := hS.small; omega))
    refine wpAny_bind (m := setEpoch _) (wpAny_setEpoch_of (Heap.get?_push_of_some _ hS.at') rfl hS.fit ?_)
    refine wpAny_bind (m := newFields _ _) (wpAny_newObj_type ?_ (by size_fits))
    have hsz : (s.heap.push (tupO (ys.map fun (i : Nat) => rawInt i))).objs.size = s.heap.objs.size + 1 := Heap.size_push ..
    have hI : ((s.heap.push (tupO (ys.map fun (i : Nat) => rawInt i))).push (setIt (.ref s.heap.objs.size) 0 es.size ep S)).get? (s.heap.objs.size + 1) = some (setIt (.ref s.heap.objs.size) 0 es.size ep S) := by rw [← hsz]; exact Heap.get?_push_size _ rfl
    have hTT : ((s.heap.push (tupO (ys.map fun (i : Nat) => rawInt i))).push (setIt (.ref s.heap.objs.size) 0 es.size ep S)).get? s.heap.objs.size = some (tupO (ys.map fun (i : Nat) => rawInt i)) := Heap.get?_push_of_some _ (Heap.get?_push_size _ rfl)
    refine wpAny_pure ⟨_, rfl, "set_iterator", _, ⟨_, Heap.get?_push_size _ rfl, rfl⟩, slot_si_next.lookup, ?_⟩
    show Q (.ref (s.heap.push (tupO (ys.map fun (i : Nat) => rawInt i))).objs.size) { s with drawn := d, heap := (s.heap.push (tupO (ys.map fun (i : Nat) => rawInt i))).push (setIt (.ref s.heap.objs.size) 0 es.size ep S) }
    rw [hsz]
    have hT0 := none_at s.heap
    have hI0 : s.heap.get? (s.heap.objs.size + 1) = none := none_ge (Nat.le_succ _)
    have hIT : s.heap.objs.size + 1 ≠ s.heap.objs.size := Nat.succ_ne_self _
    have hIS : s.heap.objs.size + 1 ≠ S := Nat.ne_of_gt (Nat.lt_succ_of_lt hSlt)
    have hTS : s.heap.objs.size ≠ S := Nat.ne_of_gt hSlt
    have kk : ∀ b o, s.heap.get? b = some o → ((s.heap.push (tupO (ys.map fun (i : Nat) => rawInt i))).push (setIt (.ref s.heap.objs.size) 0 es.size ep S)).get? b = some o := fun b o e => Heap.get?_push_of_some _ (Heap.get?_push_of_some _ e)
    generalize s.heap.objs.size + 1 = I at *
    generalize s.heap.objs.size = T at *
    refine h I _ (ys.map fun p => (es.getD p (0, .none)).2) _ (fun i o => o = setIt (.ref T) i es.size ep S) (fun h => SetAt w h S es ep t ∧ h.get? T = some (tupO (ys.map fun (i : Nat) => rawInt i))) ⟨⟨_, _, _, rfl⟩, kk, hI0, hI, ?_, ?_, rfl, ⟨{ hS with at' := kk _ _ hS.at' }, hTT⟩, ?_⟩
    · have e : (List.range es.size).map (fun p => (es.getD p (0, .none)).2) = es.toList.map (·.2) := by
        refine List.ext_getElem (by simp) fun i h1 h2 => ?_
        have hi : i < es.size := by simpa using h1
        simp [hi]
      rw [← e]
      exact hp.map _
    · intro A hh
      have hll : (ys.map fun p => (es.getD p (0, .none)).2).length = es.size := by rw [List.length_map, hyl]
      rw [hll]
      constructor
      · rintro i s' Q' E' o hi ho rfl ⟨hS', hT'⟩ hQ
        have hi' : i < ys.length := by omega
        have hpm : ys[i] < es.size := by have := hp.mem_iff.mp (List.getElem_mem hi'); simpa using this
        refine next_tup (p := ys[i]) (e := es[ys[i]]) ho hS' rfl hT' (by rw [List.getElem?_map, List.getElem?_eq_getElem hi']; rfl) (by simp [hpm]) fun h' ho' hk => ?_
        refine hQ _ h' s'.toks _ ?_ ho' rfl hk
        rw [List.getElem?_map, List.getElem?_eq_getElem hi']
        simp [hpm]
      · rintro s' Q' E' o ho rfl ⟨hS', hT'⟩ hQ
        exact next_tupEnd hh ho hS' rfl hT' (by rw [List.getElem?_map, List.getElem?_eq_none (by omega)]; rfl) fun h' hk => hQ h' s'.toks hk
    · rintro X ox hX hox h₁ h₂ ⟨a, b⟩ k
      have hXT : T ≠ X := fun e => by rw [e, hox] at hT0; cases hT0
      exact ⟨{ a with at' := k _ _ (Ne.symm hX) (Ne.symm hIS) a.at' }, k _ _ hXT (Ne.symm hIT) b⟩
  · rw [if_neg hc]
    refine wpAny_bind (wpAny_pure ?_)
    refine wpAny_bind (m := setEpoch _) (wpAny_setEpoch_of hS.at' rfl hS.fit ?_)
    refine wpAny_bind (m := newFields _ _) (wpAny_newObj_type ?_ (by size_fits))
    refine wpAny_pure ⟨_, rfl, "set_iterator", _, ⟨_, Heap.get?_push_size _ rfl, rfl⟩, slot_si_next.lookup, ?_⟩
    show Q (.ref s.heap.objs.size) { s with heap := s.heap.push (setIt (rawInt (0 : Nat)) 0 es.size ep S) }
    have hI : (s.heap.push (setIt (rawInt (0 : Nat)) 0 es.size ep S)).get? s.heap.objs.size = some (setIt (rawInt (0 : Nat)) 0 es.size ep S) := Heap.get?_push_size _ rfl
    have hI0 := none_at s.heap
    have hIS : s.heap.objs.size ≠ S := Nat.ne_of_gt hSlt
    have kk : ∀ b o, s.heap.get? b = some o → (s.heap.push (setIt (rawInt (0 : Nat)) 0 es.size ep S)).get? b = some o := fun b o e => Heap.get?_push_of_some _ e
    generalize s.heap.objs.size = I at *
    have stay : ∀ (X : Addr) (ox : Obj), X ≠ S → s.heap.get? X = some ox → ∀ h h' : Heap, SetAt w h S es ep t → (∀ b x, b ≠ X → b ≠ I → h.get? b = some x → h'.get? b = some x) → SetAt w h' S es ep t :=
      fun X ox hX _ h₁ h₂ a k => { a with at' := k _ _ (Ne.symm hX) (Ne.symm hIS) a.at' }
    have hSs : SetAt w (s.heap.push (setIt (rawInt (0 : Nat)) 0 es.size ep S)) S es ep t := { hS with at' := kk _ _ hS.at' }
    cases hf : w.params.followText "set-order" with
    | true =>
      have hpp := pick_perm (w.params.setOrder S ep) es
      have hstep : ∀ (s' : Shared) (i : Nat), SetAt w s'.heap S es ep t → ∀ (A : Around) (E : Value → Shared → Prop) (Q : Option (Value × Nat) → Shared → Prop), Q (((pickOrder (w.params.setOrder S ep) es)[i]?).map fun e => (e.2, 0)) s' → wpAny (MM w) A (setNext S 0 i ep) Q E s' := by
        intro s' i a A E Q hq
        unfold setNext setsByText
        refine wpAny_bind (wpAny_setState_of a.at' rfl a.fit ?_)
        dsimp only
        refine wpAny_bind (wpAny_bind (wpAny_askSetting (wpAny_pure ?_)))
        show wpAny _ _ (if w.params.followText "set-order" = true then _ else _) _ _ _
        rw [hf, if_pos rfl, if_neg (by simp)]
        refine wpAny_bind (m := setWalk _) ?_
        unfold setWalk setsByText
        refine wpAny_bind (wpAny_setState_of a.at' rfl a.fit ?_)
        dsimp only
        refine wpAny_bind (wpAny_bind (wpAny_askSetting (wpAny_pure ?_)))
        show wpAny _ _ (if w.params.followText "set-order" = true then _ else _) _ _ _
        rw [hf, if_pos rfl]
        refine wpAny_bind (wpAny_askSetting (wpAny_pure ?_))
        exact wpAny_pure hq
      have hll : ((pickOrder (w.params.setOrder S ep) es).toList.map (·.2)).length = es.size := by rw [List.length_map, hpp.length_eq]; simp
      refine h I _ ((pickOrder (w.params.setOrder S ep) es).toList.map (·.2)) _ (fun i o => o = setIt (rawInt (0 : Nat)) i es.size ep S) (fun h => SetAt w h S es ep t) ⟨⟨_, _, _, rfl⟩, kk, hI0, hI, hpp.map _, ?_, rfl, hSs, stay⟩
      intro A hh
      constructor
      · rintro i s' Q' E' o hi ho rfl hS' hQ
        have hi' : i < (pickOrder (w.params.setOrder S ep) es).size := by simpa using hi
        have e1 : (pickOrder (w.params.setOrder S ep) es)[i]? = some (pickOrder (w.params.setOrder S ep) es)[i] := Array.getElem?_eq_getElem hi'
        refine next_int (slot := 0) (nx := 0) (x := ((pickOrder (w.params.setOrder S ep) es)[i]).2) ho hS' rfl (fun A E Q hq => hstep s' i hS' A E Q (by rw [e1]; exact hq)) fun h' ho' hk => ?_
        refine hQ _ h' s'.toks _ ?_ ho' rfl hk
        rw [List.getElem?_map, Array.getElem?_toList, e1]; rfl
      · rintro s' Q' E' o ho rfl hS' hQ
        rw [hll] at ho
        have e1 : (pickOrder (w.params.setOrder S ep) es)[es.size]? = none := by
          rw [← Array.getElem?_toList, List.getElem?_eq_none (by rw [List.length_map] at hll; omega)]
        exact next_intEnd hh ho hS' rfl (fun A E Q hq => hstep s' _ hS' A E Q (by rw [e1]; exact hq)) fun h' hk => hQ h' s'.toks hk
    | false =>
      have hled : t.led = true := by rw [hS.led, hf]; rfl
      have h1 : es.size ≤ 1 := by
        rcases Nat.lt_or_ge 1 es.size with q | q
        · exfalso
          refine hc ?_
          rw [hf, hS.plain (by omega), decide_eq_true q]; rfl
        · exact q
      have hdr : (!t.plain && decide (es.size > 1)) = false := by rw [decide_eq_false (by omega), Bool.and_false]
      have hstep : ∀ (s' : Shared) (slot i : Nat), SetAt w s'.heap S es ep t → ∀ (A : Around) (E : Value → Shared → Prop) (Q : Option (Value × Nat) → Shared → Prop),
          Q (match es[SetTable.below t.place slot]?, t.place[SetTable.below t.place slot]? with | some (_, x), some j => some (x, j + 1) | _, _ => none) s' → wpAny (MM w) A (setNext S slot i ep) Q E s' := by
        intro s' slot i a A E Q hq
        unfold setNext setsByText
        refine wpAny_bind (wpAny_setState_of a.at' rfl a.fit ?_)
        dsimp only
        refine wpAny_bind (wpAny_bind (wpAny_askSetting (wpAny_pure ?_)))
        show wpAny _ _ (if w.params.followText "set-order" = true then _ else _) _ _ _
        rw [hf, if_neg (by decide)]
        show wpAny _ _ (if (!t.plain && decide (es.size > 1)) = true then _ else _) _ _ _
        rw [hdr, if_neg (by decide)]
        refine wpAny_bind (m := (if (!t.led && !es.isEmpty) = true then unsupported "set:maker-not-led" else pure () : Sem Unit)) ?_
        rw [hled, if_neg (by simp)]
        exact wpAny_pure (wpAny_pure hq)
      rcases Nat.eq_zero_or_pos es.size with h0 | hp
      · have he : es = #[] := Array.eq_empty_of_size_eq_zero h0
        refine h I _ [] _ (fun i o => o = setIt (rawInt (0 : Nat)) i es.size ep S) (fun h => SetAt w h S es ep t) ⟨⟨_, _, _, rfl⟩, kk, hI0, hI, by rw [he]; exact List.Perm.refl _, ?_, rfl, hSs, stay⟩
        intro A hh
        constructor
        · rintro i s' Q' E' o hi
          exact absurd hi (Nat.not_lt_zero _)
        · rintro s' Q' E' o ho rfl hS' hQ
          exact next_intEnd hh ho hS' rfl (fun A E Q hq => hstep s' _ _ hS' A E Q (by rw [he]; simpa using hq)) fun h' hk => hQ h' s'.toks hk
      · obtain ⟨e, he⟩ := one_of (xs := es) (by omega)
        have hpl : t.place.size = 1 := by
          have := hS.fit
          simp only [SetTable.fits, Bool.and_eq_true, beq_iff_eq] at this
          omega
        obtain ⟨j, hj⟩ := one_of hpl
        refine h I _ [e.2] _ (fun i o => (i = 0 ∧ o = setIt (rawInt (0 : Nat)) 0 es.size ep S) ∨ (i = 1 ∧ o = setIt (rawInt (j + 1 : Nat)) 1 es.size ep S)) (fun h => SetAt w h S es ep t) ⟨⟨_, _, _, rfl⟩, kk, hI0, hI, by rw [he]; exact List.Perm.refl _, ?_, .inl ⟨rfl, rfl⟩, hSs, stay⟩
        intro A hh
        constructor
        · rintro i s' Q' E' o hi ho (⟨rfl, rfl⟩ | ⟨rfl, rfl⟩) hS' hQ
          · refine next_int (slot := 0) (nx := j + 1) (x := e.2) ho hS' rfl (fun A E Q hq => hstep s' _ _ hS' A E Q (by rw [he, hj, below1, if_neg (Nat.not_lt_zero _)]; exact hq)) fun h' ho' hk => ?_
            exact hQ _ h' s'.toks _ rfl ho' (.inr ⟨rfl, rfl⟩) hk
          · exact absurd hi (Nat.lt_irrefl _)
        · rintro s' Q' E' o ho (⟨q, rfl⟩ | ⟨-, rfl⟩) hS' hQ
          · cases q
          · exact next_intEnd hh ho hS' rfl (fun A E Q hq => hstep s' _ _ hS' A E Q (by rw [he, hj, below1, if_pos (Nat.lt_succ_self _)]; exact hq)) fun h' hk => hQ h' s'.toks hk
end
end
section
/-! ## sorted(set): collected and sorted -/
section
variable {w : World} {s : Shared} {A : Around} {E : Value → Shared → Prop}
theorem extend_loop {I X : Addr} {zs : List Value} {Ok : Nat → Obj → Prop} {Aux : Heap → Prop} {res : Value} {R : Result → Shared → Prop} (W : ItW w A.in1 I zs.length (fun i v => zs[i]? = some v) Ok Aux) (hXI : X ≠ I)
    (hAux : ∀ h h' : Heap, Aux h → (∀ b x, b ≠ X → b ≠ I → h.get? b = some x → h'.get? b = some x) → Aux h') (hn : zs.length ≤ 200) :
    ∀ (k i : Nat) (s : Shared) (o : Obj) (c : Nat), zs.length - i = k → i ≤ zs.length → s.heap.get? I = some o → Ok i o → Aux s.heap → s.heap.get? X = some (listO (zs.take i) c) →
      (∀ h' tk c', (∀ b x, b ≠ X → b ≠ I → s.heap.get? b = some x → h'.get? b = some x) → h'.get? X = some (listO zs c') → R (.ok (.ret res)) { s with heap := h', toks := tk }) →
      codeAny (MM w) A (.builtin "list.extend.loop" ⟨[.ref X, .ref I, res], []⟩) R s := by
  intro k
  induction k with
  | zero =>
    intro i s o c hk hi ho hok hax hX hR
    have hin : i = zs.length := by omega
    subst hin
    refine codeAny_builtin PySem.F.entry_extend_loop ?_
    rw [Around.under_plainId PySem.F.plain_extend_loop _]
    show wpAny _ A.in1 (pyNext (.ref I) >>= _) _ _ s
    refine wpAny_bind (W.done s _ _ o ho hok hax fun h' tk hk' => ?_)
    rw [List.take_length] at hX
    exact wpAny_pure (hR h' tk c (fun b x _ hb e => hk' b x hb e) (hk' _ _ hXI hX))
  | succ k ih =>
    intro i s o c hk hi ho hok hax hX hR
    refine codeAny_builtin PySem.F.entry_extend_loop ?_
    rw [Around.under_plainId PySem.F.plain_extend_loop _]
    show wpAny _ A.in1 (pyNext (.ref I) >>= _) _ _ s
    refine wpAny_bind (W.item i s _ _ o (by omega) ho hok hax fun v h' tk o' hP ho' hok' hk' => ?_)
    have hX' := hk' _ _ hXI hX
    have hz : sizeLine = 2 ^ 24 := rfl
    have htl : (zs.take i).length ≤ 200 := by rw [List.length_take]; omega
    show wpAny _ A.in1 (updateSeq X (·.push v) >>= _) _ _ _
    refine wpAny_bind ?_
    have kk : ∀ b x, b ≠ X → b ≠ I → s.heap.get? b = some x → (h'.update X (Obj.mapSeq (·.push v))).get? b = some x := fun b x h1 h2 e =>
      (Heap.get?_update_other _ _ (Ne.symm h1)).trans (hk' b x h2 e)
    obtain ⟨c₂, hc₂⟩ : ∃ c₂, (h'.update X (Obj.mapSeq (·.push v))).get? X = some (listO (zs.take (i + 1)) c₂) := by
      have e := get?_update_seq (c := "list") (xs := (zs.take i).toArray) hX' (·.push v)
      have e2 : (zs.take i).toArray.push v = (zs.take (i + 1)).toArray := by rw [List.take_add_one, hP]; simp
      rw [e2] at e
      exact ⟨_, e⟩
    refine wpAny_updateSeq hX' rfl (wpAny_pure ⟨plainId_quiet PySem.F.plain_extend_loop _, ih (i + 1) _ o' c₂ (by omega) (by omega) ((Heap.get?_update_other _ _ hXI).trans ho') hok' (hAux _ _ hax kk) hc₂ fun h₃ tk₃ c₃ kk₃ hX₃ => hR h₃ tk₃ c₃ (fun b x h1 h2 e => kk₃ b x h1 h2 (kk b x h1 h2 e)) hX₃⟩)
      (by rw [List.size_toArray, hz]; omega) (by rw [Array.size_push, List.size_toArray, hz]; omega)
set_option maxHeartbeats 4000000 in
theorem collect_set {S : Addr} {es : Array (Int × Value)} {ep : Nat} {t : SetTable} {Q : List Value → Shared → Prop} (hh : A.handled = none) (hS : SetAt w s.heap S es ep t)
    (h : ∀ zs h' tk d, zs.Perm (es.toList.map (·.2)) → (∀ b o, s.heap.get? b = some o → h'.get? b = some o) → Q zs { s with heap := h', toks := tk, drawn := d }) : wpAny (MM w) A (collect (.ref S)) Q E s := by
  have hT : s.TypeIs (.ref S) "set" := ⟨_, hS.at', rfl⟩
  have hSlt : S < s.heap.objs.size := Heap.lt_size hS.at'
  unfold collect
  refine wpAny_bind (wpAny_runValue (codeAny_builtin PySem.F.entry_proto_collect ?_))
  rw [Around.under_plainId PySem.F.plain_proto_collect _]
  show wpAny _ A.in1 (newList [] >>= fun l => again (.builtin "list.__iadd__" ⟨[l, .ref S], []⟩)) _ _ s
  refine wpAny_bind (wpAny_newObj_type ?_)
  refine wpAny_pure ⟨plainId_quiet PySem.F.plain_list_iadd _, codeAny_builtin PySem.F.entry_list_iadd ?_⟩
  rw [Around.under_plainId PySem.F.plain_list_iadd _]
  show wpAny _ A.in1 (Builtin.List.listExtendWith (.ref s.heap.objs.size) (.ref S) (.ref s.heap.objs.size)) _ _ _
  unfold Builtin.List.listExtendWith
  have hX : (s.heap.push (listO [] 0)).get? s.heap.objs.size = some (listO [] 0) := Heap.get?_push_size _ rfl
  have hS1 : SetAt w (s.heap.push (listO [] 0)) S es ep t := { hS with at' := Heap.get?_push_of_some _ hS.at' }
  have hT1 : ({ s with heap := s.heap.push (listO [] 0) } : Shared).TypeIs (.ref S) "set" := ⟨_, hS1.at', rfl⟩
  show wpAny _ A.in1 _ _ _ { s with heap := s.heap.push (listO [] 0) }
  refine wpAny_bind (wpAny_typeOf hT1 ?_)
  have hXS : s.heap.objs.size ≠ S := Nat.ne_of_gt hSlt
  have h1 : Builtin.List.listSameRef (.ref s.heap.objs.size) (.ref S) = false := by simp [Builtin.List.listSameRef, hXS]
  rw [if_neg (by rw [h1]; decide)]
  refine wpAny_bind (set_iter hS1 fun I s' zs o Ok Aux G => ?_)
  obtain ⟨hS', tkS, dS, rfl⟩ := G.st
  have hT2 := G.kp _ _ hS1.at'
  refine wpAny_bind (wpAny_holding ?_)
  unfold Builtin.List.listLengthHint
  refine wpAny_bind (wpAny_specialOf ⟨_, hT2, rfl⟩ PySem.F.slot_set_len.lookup ?_)
  generalize hid : ("set.__len__" : String) = id0
  wp_delta
  rw [show splitId id0 = some ("set", "__len__") from by subst hid; decide +kernel]
  subst hid
  refine wpAny_bind (wpAny_isInstance (T := "set") (b := true) ⟨_, hT2, rfl⟩ sub_set_self ?_)
  refine wpAny_ite_split (fun hab => absurd hab (by decide)) (fun _ => ?_)
  refine wpAny_ite_split (fun _ => ?_) (fun hab => absurd (by decide +kernel) hab)
  refine wpAny_bind (wpAny_typeOf (T := "set") ⟨_, hT2, rfl⟩ ?_)
  refine wpAny_pure ?_
  refine wpAny_ite_split (fun _ => ?_) (fun hab => absurd (by decide +kernel) hab)
  refine wpAny_bind (wpAny_rule ?_)
  have hXS' := G.kp _ _ hX
  have hXI : s.heap.objs.size ≠ I := fun e => by have := G.new; rw [← e] at this; have this : (s.heap.push (listO [] 0)).get? s.heap.objs.size = none := this; rw [hX] at this; cases this
  have hIat := G.at'
  have hold : ∀ b o, s.heap.get? b = some o → b ≠ s.heap.objs.size ∧ b ≠ I ∧ hS'.get? b = some o := fun b o e => by
    have e1 : (s.heap.push (listO [] 0)).get? b = some o := Heap.get?_push_of_some _ e
    refine ⟨Nat.ne_of_lt (Heap.lt_size e), fun q => ?_, G.kp _ _ e1⟩
    have := G.new
    rw [← q] at this
    have this : (s.heap.push (listO [] 0)).get? b = none := this
    rw [e1] at this; cases this
  have hlen : zs.length = es.size := by rw [G.perm.length_eq]; simp
  have stay := G.stay _ _ hXS hX
  have W := G.walk A.in1 hh
  have hok := G.ok
  have hax := G.aux
  have hpm := G.perm
  clear G
  generalize s.heap.objs.size = X at *
  refine wpAny_bind ?_
  show wpAny _ A.in1 (updateSeq X (·.push .none) >>= fun _ => updateSeq X (·.pop)) _ _ _
  refine wpAny_bind (wpAny_updateSeq hXS' rfl ?_)
  have hS₂ := Heap.get?_update_self (Obj.mapSeq (·.push Value.none)) hXS' rfl
  refine wpAny_updateSeq hS₂ rfl ?_
  obtain ⟨c₃, hS₃⟩ : ∃ c, ((hS'.update X (Obj.mapSeq (·.push Value.none))).update X (Obj.mapSeq (·.pop))).get? X = some (listO (zs.take 0) c) := by
    have e1 := get?_update_seq (c := "list") (xs := #[]) hXS' (·.push Value.none)
    have e2 := get?_update_seq (c := "list") e1 (·.pop)
    exact ⟨_, e2⟩
  have oth : ∀ b o, b ≠ X → hS'.get? b = some o → ((hS'.update X (Obj.mapSeq (·.push Value.none))).update X (Obj.mapSeq (·.pop))).get? b = some o :=
    fun b o hb e => (Heap.get?_update_other _ _ (Ne.symm hb)).trans ((Heap.get?_update_other _ _ (Ne.symm hb)).trans e)
  refine wpAny_pure ⟨plainId_quiet PySem.F.plain_extend_loop _, extend_loop W hXI stay (by have := hS.small; omega) zs.length 0 _ o c₃ (by omega) (Nat.zero_le _) (oth _ _ (Ne.symm hXI) hIat) hok (stay _ _ hax fun b x h1 _ e => oth b x h1 e) hS₃ fun h' tk c' kk hX' => ?_⟩
  show wpAny _ A (load X >>= _) _ _ _
  refine wpAny_bind (wpAny_load hX' ?_)
  refine wpAny_pure (h zs h' tk dS hpm fun b o e => ?_)
  obtain ⟨h1, h2, h3⟩ := hold b o e
  exact kk b o h1 h2 (oth b o h1 h3)
theorem strs_of_set {es : Array (Int × Value)} {zs : List Value} (el : ElemsOf (skd w) es.toList) (hp : zs.Perm (es.toList.map (·.2))) : StrsAre zs ((zs.map kOf).map sOf) := by
  have all : ∀ v ∈ zs, ∃ x t, v = .str x t := fun v hv => by
    obtain ⟨e, he, rfl⟩ := List.mem_map.mp (hp.mem_iff.mp hv)
    exact el_str el e he
  clear hp
  induction zs with
  | nil => exact .nil
  | cons v zs ih =>
    obtain ⟨x, t, rfl⟩ := all v (.head _)
    have : x = sOf (kOf (.str x t)) := str_sOf x
    have r := StrsAre.cons x t (ih fun v hv => all v (.tail _ hv))
    show StrsAre _ (sOf (kOf (.str x t)) :: _)
    rw [← this]; exact r
set_option maxHeartbeats 4000000 in
/-- sorted(set) -/
theorem sorted_set {S : Addr} {es : Array (Int × Value)} {ep : Nat} {t : SetTable} {Q : Value → Shared → Prop} (hh : A.handled = none) (hS : SetAt w s.heap S es ep t) (hn : es.size ≤ 50)
    (h : ∀ D vs P e h' tk d, StrsAre vs (P.map sOf) → P.Perm (es.toList.map fun e => kOf e.2) → Up P → (∀ b o, s.heap.get? b = some o → h'.get? b = some o) → s.heap.get? D = none → h'.get? D = some (listO vs e) → Q (.ref D) { s with heap := h', toks := tk, drawn := d }) :
    wpAny (MM w) A (call (.builtin "sorted") [.ref S]) Q E s := by
  refine Calls.call_function_entry kind_sorted plain_sorted entry_sorted (args_sorted1 _) ?_
  unfold Builtin.«sorted»
  refine wpAny_bind (m := checkCount "sorted" 1 1 _) (wpAny_pure ?_)
  refine wpAny_bind (collect_set (A := A.in1) hh hS fun zs h₁ tk d hp kk => ?_)
  have hS₀ := strs_of_set hS.el hp
  have hlen : zs.length = es.size := by rw [hp.length_eq]; simp
  refine wpAny_bind (wpAny_newList ?_)
  have hoL : (h₁.push (seqObj "list" zs.toArray 0)).get? h₁.objs.size = some (seqObj "list" zs.toArray 0) := Heap.get?_push_size _ rfl
  show wpAny _ _ _ _ _ { s with heap := h₁.push (seqObj "list" zs.toArray 0), toks := tk, drawn := d }
  refine wpAny_bind (wpAny_holding (wpAny_call_entry slot_list_sort ⟨_, hoL, rfl⟩ entry_list_sort (list_sort_treeK strKind_oneLt hoL hS₀.keysOf (fun v₁ v₂ rest e => keyKind_strs (by rw [← e]; exact hS₀)) (by omega) fun st' hp' hs' => ⟨_, rfl, ?_⟩) (args_list_sort _)))
  obtain ⟨ss', a1, a2, a3⟩ := sorted_out_str hS₀ hp' hs'
  obtain ⟨P, rfl⟩ := strs_map (ss := ss')
  obtain ⟨e, he⟩ := sortedHeap_at (vs := zs) (out := (arrOf st').map (·.2)) hoL
  refine wpAny_pure ⟨_, rfl, ?_⟩
  have hD0 : s.heap.get? h₁.objs.size = none := by
    cases q : s.heap.get? h₁.objs.size with
    | none => rfl
    | some o => have := kk _ _ q; rw [none_at] at this; cases this
  refine h h₁.objs.size _ P e _ tk d a1 ?_ (sorted_up P a3) (fun b o q => ?_) hD0 he
  · have := a2.map (fun x : Str => x.cps.toList)
    have h1 : P.Perm (zs.map kOf) := by simpa [List.map_map, Function.comp_def, sOf_cps] using this
    exact h1.trans (by have := hp.map kOf; rw [List.map_map] at this; exact this)
  · have q' := kk b o q
    rw [sortedHeap_old (Nat.ne_of_lt (Heap.lt_size q')) (by rw [Heap.size_push]; exact Nat.lt_succ_of_lt (Heap.lt_size q'))]
    exact Heap.get?_push_of_some _ q'
end
end
section
--LINES
local macro_rules | `(tactic| walk_at "eval Name") => `(tactic| first
  | refine Rd.Nm (Rd.any (by assumption) (by rfl)) (by rfl) ?_
  | refine Rd.Gb (Rd.any (by assumption) (by rfl)) (by rfl) (by rfl) ?_
  | refine Rd.Bl (Rd.any (by assumption) (by rfl)) (by decide) (by first | exact boot_len | exact boot_range | exact boot_sum | exact boot_sorted | exact boot_enumerate | exact boot_zip | exact PyProof.Rows.boot_set | exact PyProof.Rows.boot_type | exact PyProof.Rows.boot_list | exact PyProof.Rows.boot_str) (by rfl) ?_)
local macro_rules | `(tactic| walk_at "side") => `(tactic| (refine ⟨rfl, rfl, by decide, ?_, ?_, fun C => .inl rfl, rfl⟩; ((repeat (refine And.intro ⟨⟨_, rfl⟩, rfl, rfl⟩ ?_)); exact trivial); (intro C; (repeat (refine And.intro ⟨rfl, rfl, ⟨_, rfl⟩, rfl⟩ ?_)); exact trivial)))
local macro_rules | `(tactic| walk_at "newTuple") => `(tactic| (refine newTuple_R (Rd.any (by assumption) (by rfl)) ?_ (by simp [sizeLine]); intro a s' R))
local macro_rules | `(tactic| walk_at "newList") => `(tactic| (refine newList_R (Rd.any (by assumption) (by rfl)) ?_ (by simp [sizeLine]); intro a s' R))
local macro_rules | `(tactic| walk_at "w") => `(tactic| (walk1; try dsimp only))
local macro_rules | `(tactic| walk_at "ww") => `(tactic| repeat ((with_reducible show wpAny _ _ _ _ _ _); walk_at "w"))
local macro_rules | `(tactic| walk_at "callWith ref") => `(tactic| refine callWith_K (Rd.gl' (by assumption)).k (by rfl) ?_)
--ENDLINES
/-! ## law: the frame, and its end -/
theorem Kp.redraw {s s' : Shared} (k : Kp s s') (d : Drawn) : Kp { s with drawn := d } { s' with drawn := d } := by
  obtain ⟨h, t, rfl, k⟩ := k
  exact ⟨h, t, rfl, k⟩
theorem St.redraw {w : World} {s₀ s : Shared} {env : Env} {V : VL} {led : LL} (S : St w s₀ env V led s) (d : Drawn) : St w { s₀ with drawn := d } env V led { s with drawn := d } :=
  ⟨S.kind, S.glob, S.blt, S.gl, S.keep.redraw d, S.new, S.vars, S.apart, S.has, S.nd⟩
theorem Rd.redraw {w : World} {b s : Shared} {env : Env} {V : VL} {nw : LL} (R : Rd w b env V nw s) (d : Drawn) : Rd w { b with drawn := d } env V nw { s with drawn := d } :=
  ⟨R.kind, R.glob, R.blt, R.gl, R.kp.redraw d, R.nm, R.has, R.nd⟩
def fdL (pm cd doc dV kV : Value) : FuncData := { PySem.Calls.docDef "law" (parO (stm 19)) (bodO (stm 19)) (scoO (stm 19)) pm cd doc with defaults := dV, kwdefaults := kV }
abbrev lawE (pm cd doc dV kV : Value) (L a : Addr) : Env := callEnvC (fdL pm cd doc dV kV) L a
def lawB (k : Nat) : List Stmt := (bodO (stm 19)).drop k
/-- what the law ends with -/
abbrev LawQ (s₀ : Shared) (Q : Flow → Shared → Prop) : Prop := ∀ s' d, Kp { s₀ with drawn := d } s' → Q (.ret (.bool true)) s'
theorem LawQ.redraw {s₀ : Shared} {Q : Flow → Shared → Prop} (h : LawQ s₀ Q) (d : Drawn) : LawQ { s₀ with drawn := d } Q := fun s' d' k => h s' d' k
theorem join_okR {rows : List (List Nat)} {ps : List Nat} (P : Parted ps) (h : ∀ r ∈ rows, okR r) {x : List Nat} (hx : x ∈ (joinN rows ps).1) : okR x := by
  have J := join_inv h ps
  have hs := ((J.mem x).mp hx).1
  refine ⟨hs.1, fun z hz => ?_⟩
  obtain ⟨c, hc⟩ := List.getElem?_of_mem hz
  have hc4 : c < 4 := by have := (List.getElem?_eq_some_iff.mp hc).1; have := hs.1; omega
  have := hs.2 c hc4
  obtain ⟨i, hi, hb⟩ := P.cov c hc4
  rw [if_pos (J.sub _ (msk_mem P.len hi) c hc4 hb), List.getD_eq_getElem?_getD, hc] at this
  exact this
theorem plain_okR {P : List (List Nat)} (h : ∀ x ∈ P, okR x) : Plain P := fun p hp => ⟨by rw [(h p hp).1]; decide, fun x hx => by have := (h p hp).2 x hx; omega⟩
theorem any_mem {P : List (List Nat)} {x : List Nat} : ((P.map sOf).any fun z => z == sOf x) = decide (x ∈ P) := by
  rw [List.any_map, Bool.eq_iff_iff, List.any_eq_true, decide_eq_true_eq]
  constructor
  · rintro ⟨y, hy, e⟩
    have : sOf y = sOf x := by simpa using e
    rw [← sOf_inj this]; exact hy
  · intro h
    exact ⟨x, h, by simp⟩
set_option maxHeartbeats 8000000 in
theorem law5 {w : World} {s₀ s : Shared} {A : Around} {E : Value → Shared → Prop} {Q : Flow → Shared → Prop} {pm cd doc dV kV : Value} {L a pa wa ka ra da : Addr} {pv wv kv rv dv : List Value} {n1 n2 n3 n4 n5 : Nat} {ps : List Nat} {W K R D : List (List Nat)} {rl : List (Nat × Nat)} {led : LL}
    (S : St w s₀ (lawE pm cd doc dV kV L a) [("parts", .ref pa), ("whole", .ref wa), ("kept", .ref ka), ("rows", .ref ra), ("due", .ref da)] led s) (hA : Rm 3 A)
    (mP : (pa, listO pv n1) ∈ led) (mW : (wa, listO wv n2) ∈ led) (mK : (ka, listO kv n3) ∈ led) (mR : (ra, listO rv n4) ∈ led) (mD : (da, listO dv n5) ∈ led)
    (hpv : NatsAre pv ps) (hwv : StrsAre wv (W.map sOf)) (hkv : StrsAre kv (K.map sOf)) (hrv : StrsAre rv (R.map sOf)) (hdv : StrsAre dv (D.map sOf))
    (P : Parted ps) (CW : Chased 1 rl (rowOf (planF ps)) W) (hrl : ∀ p ∈ rl, p.2 < 4) (GK : Grid K) (CK : Cl rl (Agr K))
    (hRu : Up R) (hRn : R.Nodup) (hRm : ∀ x, x ∈ R ↔ x ∈ K) (H : Due ps R D) (all : ∀ a ∈ R, ∀ b ∈ R, ∀ d ∈ R, Has ps D a b d) (hQ : LawQ s₀ Q) :
    wpAny (MM w) A (execs (lawB 14) (lawE pm cd doc dV kV L a)) Q E s := by
  have hKok := GK.okR
  have hWok := CW.grid.okR
  have hKn : (joinN K ps).1.Nodup := join_nd hKok
  have hWn : (joinN W ps).1.Nodup := join_nd hWok
  have hDj := due_join P hKok hRm H all
  have hDp : (joinN K ps).1.Perm D := (List.perm_ext_iff_of_nodup hKn H.nd).mpr hDj
  have hDl : D.length ≤ 27 := by
    rw [← hDp.length_eq]
    refine Nat.le_trans (join_inv hKok ps).few ?_
    rw [GK.len, P.len]; decide
  have R₀ := S.rd
  refine wpAny_execs_cons (wpAny_Assign_Name ?_)
  walk_at "ww"
  refine ⟨R₀.gl'.k, ?_⟩
  refine join_ok R₀.gl' hA (S.at mK) hkv hKok GK.len (S.at mP) hpv P.len fun ta tv T e s₁ k₁ hn₁ ht₁ htv hTp hTu => ?_
  refine (S.back (R₀.add k₁ hn₁ ht₁)).store (.inl rfl) fun s₂ S₂ => ?_
  clear R₀ S k₁
  have R₀ := S₂.rd
  refine wpAny_execs_cons (wpAny_If ?_)
  walk_at "ww"
  refine sorted_S R₀ (isList_of (S₂.at (.tail _ mD))) hdv (by omega) fun ba bv B e₂ s₃ hbv hBp hBu R₃ => ?_
  have hTB : T = B := up_uniq (hTp.trans (hDp.trans hBp.symm)) hTu hBu
  subst hTB
  have hTok : ∀ x ∈ T, okR x := fun x hx => join_okR P hKok (hTp.mem_iff.mp hx)
  refine ne_S (isList_of (R₃.kp.get (S₂.at (.head _)))) (isList_of (R₃.at (.head _))) htv hbv (plain_okR hTok) (plain_okR hTok) (hA.units' (by decide)) ?_
  clear R₀
  walk_at "ww"
  rw [if_neg (by simp)]
  refine wpAny_execs_nil ?_
  dsimp only
  have S₃ := S₂.back R₃
  clear S₂ R₃
  have mT : (ta, listO tv e) ∈ (ba, listO bv e₂) :: (ta, listO tv e) :: led := .tail _ (.head _)
  have R₀ := S₃.rd
  refine wpAny_execs_cons (wpAny_Assign_Name ?_)
  walk_at "ww"
  refine ⟨R₀.gl'.k, ?_⟩
  refine join_ok (R₀.any rfl).gl' hA (S₃.at (.tail _ (.tail _ mW))) hwv hWok CW.grid.len (S₃.at (.tail _ (.tail _ mP))) hpv P.len fun ea ev N e₄ s₄ k₄ hn₄ he₄ hev hNp hNu => ?_
  refine (S₃.back ((R₀.any rfl).add k₄ hn₄ he₄)).store (.inl rfl) fun s₅ S₅ => ?_
  clear R₀ S₃ k₄
  have R₀ := S₅.rd
  refine wpAny_execs_cons (wpAny_Assign_Name ?_)
  walk_at "ww"
  refine in_list_strs (isList_of (S₅.at (.tail _ (.tail _ (.tail _ mW))))) hwv ?_
  rw [show Str.ofString "abcd" = sOf abcdL from rfl, any_mem]
  refine (S₅.keeps (Kp.tok _ _)).store (.inl rfl) fun s₆ S₆ => ?_
  clear R₀ S₅
  have R₀ := S₆.rd
  have mE : (ea, listO ev e₄) ∈ (ea, listO ev e₄) :: (ba, listO bv e₂) :: (ta, listO tv e) :: led := .head _
  refine wpAny_execs_cons (wpAny_Return_some ?_)
  walk_at "ww"
  have hin : abcdL ∈ N := hNp.mem_iff.mpr (abcd_in P CW)
  refine in_list_strs (isList_of (S₆.at mE)) hev ?_
  rw [any_mem, decide_eq_true hin]
  walk_at "ww"
  rw [if_pos rfl]
  walk_at "ww"
  refine set_S hA.hh (isList_of (S₆.at (.tail _ (.tail _ (.tail _ mW))))) hwv (by rw [CW.grid.len]; decide) fun sa h₇ tk₇ es ep t kk₇ _ hSet hsz hmem => ?_
  rw [CW.grid.len] at hsz
  have k₇ : Kp s₆ { s₆ with heap := h₇, toks := tk₇ } := Kp.to kk₇
  have R₇ := R₀.keeps k₇
  clear R₀
  walk_at "ww"
  refine sorted_set (s := { s₆ with heap := h₇, toks := tk₇ }) hA.hh hSet (by omega) fun xa xv X e₈ h₈ tk₈ d hxv hXp hXu kk₈ hn₈ hx₈ => ?_
  have k₈ : Kp { s₆ with heap := h₇, toks := tk₇, drawn := d } { s₆ with heap := h₈, toks := tk₈, drawn := d } := Kp.to kk₈
  have R₈ := ((R₇.redraw d).keeps k₈)
  clear R₇
  have hXm : ∀ x, x ∈ X ↔ x ∈ W := fun x => by rw [hXp.mem_iff]; exact hmem x
  have hXn : X.Nodup := hXp.nodup_iff.mpr hSet.nd
  have hNm : ∀ x, x ∈ N ↔ x ∈ (joinN W ps).1 := fun x => hNp.mem_iff
  have hNn : N.Nodup := hNp.nodup_iff.mpr hWn
  refine eq_S (s := { s₆ with heap := h₈, toks := tk₈, drawn := d }) (isList_of (R₈.kp.get (S₆.at mE))) (isList_of hx₈) hev hxv (plain_okR fun x hx => join_okR P hWok ((hNm x).mp hx)) (plain_okR fun x hx => hWok x ((hXm x).mp hx)) (hA.units' (by decide)) ?_
  walk_at "ww"
  have key : decide (N = X) = decide (abcdL ∈ W) := by
    by_cases hW : abcdL ∈ W
    · rw [decide_eq_true hW]
      exact decide_eq_true (up_same hNu hXu hNn hXn fun x => by rw [hNm, hXm]; exact lossless P CW hW hrl CW.grid CW.cl x)
    · rw [decide_eq_false hW]
      exact decide_eq_false fun e => hW ((hXm _).mp (e ▸ hin))
  rw [if_pos (by rw [key]; simp)]
  have kEnd : Kp { s₀ with drawn := d } { s₆ with heap := h₈, toks := tk₈, drawn := d } := (S₆.keep.redraw d).trans R₈.kp
  walk_at "ww"
  by_cases hW : abcdL ∈ W
  · rw [if_neg (by simp [hW])]
    walk_at "ww"
    have hTn : T.Nodup := hTp.nodup_iff.mpr hKn
    have hTR : T = R := up_same hTu hRu hTn hRn fun x => by rw [hTp.mem_iff, hRm]; exact lossless P CW hW hrl GK CK x
    refine eq_S (s := { s₆ with heap := h₈, toks := tk₈, drawn := d }) (isList_of (R₈.kp.get (S₆.at (.tail _ (.tail _ (.head _)))))) (isList_of (R₈.kp.get (S₆.at (.tail _ (.tail _ (.tail _ mR)))))) htv hrv (plain_okR hTok) (plain_okR fun x hx => hKok x ((hRm x).mp hx)) (hA.units' (by decide)) ?_
    rw [decide_eq_true hTR]
    exact hQ _ d kEnd
  · rw [if_pos (by simp [hW])]
    rw [decide_eq_false hW]
    exact hQ _ d kEnd
end
section
--LINES
local macro_rules | `(tactic| walk_at "eval Name") => `(tactic| first
  | refine Rd.Nm (Rd.any (by assumption) (by rfl)) (by rfl) ?_
  | refine Rd.Gb (Rd.any (by assumption) (by rfl)) (by rfl) (by rfl) ?_
  | refine Rd.Bl (Rd.any (by assumption) (by rfl)) (by decide) (by first | exact boot_len | exact boot_range | exact boot_sum | exact boot_sorted | exact boot_enumerate | exact boot_zip | exact PyProof.Rows.boot_set | exact PyProof.Rows.boot_type | exact PyProof.Rows.boot_list | exact PyProof.Rows.boot_str) (by rfl) ?_)
local macro_rules | `(tactic| walk_at "side") => `(tactic| (refine ⟨rfl, rfl, by decide, ?_, ?_, fun C => .inl rfl, rfl⟩; ((repeat (refine And.intro ⟨⟨_, rfl⟩, rfl, rfl⟩ ?_)); exact trivial); (intro C; (repeat (refine And.intro ⟨rfl, rfl, ⟨_, rfl⟩, rfl⟩ ?_)); exact trivial)))
local macro_rules | `(tactic| walk_at "newTuple") => `(tactic| (refine newTuple_R (Rd.any (by assumption) (by rfl)) ?_ (by simp [sizeLine]); intro a s' R))
local macro_rules | `(tactic| walk_at "newList") => `(tactic| (refine newList_R (Rd.any (by assumption) (by rfl)) ?_ (by simp [sizeLine]); intro a s' R))
local macro_rules | `(tactic| walk_at "w") => `(tactic| (walk1; try dsimp only))
local macro_rules | `(tactic| walk_at "ww") => `(tactic| repeat ((with_reducible show wpAny _ _ _ _ _ _); walk_at "w"))
local macro_rules | `(tactic| walk_at "callWith ref") => `(tactic| refine callWith_K (Rd.gl' (by assumption)).k (by rfl) ?_)
--ENDLINES
/-! ## law: the due rows -/
def duB : List Stmt := forBody ((forBody ((forBody ((lawB 13).getD 0 noStm)).getD 0 noStm)).getD 0 noStm)
theorem Has.mono {ps : List Nat} {D D' : List (List Nat)} {a b d : List Nat} (h : ∀ x ∈ D, x ∈ D') (H : Has ps D a b d) : Has ps D' a b d := fun y hy => h y (H y hy)
set_option maxHeartbeats 8000000 in
theorem due_turn {w : World} {s₀ s : Shared} {A : Around} {E : Value → Shared → Prop} {Q : Flow → Shared → Prop} {pm cd doc dV kV : Value} {L a pa wa ka ra da : Addr} {pv dv : List Value} {n1 nd : Nat} {ps a1 a2 a3 : List Nat} {D : List (List Nat)} {rest : LL} {t1 t2 t3 : Tok}
    (S : St w s₀ (lawE pm cd doc dV kV L a) [("parts", .ref pa), ("whole", .ref wa), ("kept", .ref ka), ("rows", .ref ra), ("due", .ref da), ("one", .str (sOf a1) t1), ("two", .str (sOf a2) t2), ("three", .str (sOf a3) t3)] ((da, listO dv nd) :: rest) s) (hA : Rm 2 A)
    (mP : (pa, listO pv n1) ∈ rest) (hpv : NatsAre pv ps) (P : Parted ps) (h1 : okR a1) (h2 : okR a2) (h3 : okR a3) (hdv : StrsAre dv (D.map sOf)) (hDl : D.length ≤ 500) (hDn : D.Nodup)
    (h : ∀ s' dv' nd' D', StrsAre dv' (D'.map sOf) → (∀ x ∈ D, x ∈ D') → D'.Nodup → (∀ y ∈ D', y ∈ D ∨ Fits ps a1 a2 a3 y) → Has ps D' a1 a2 a3 → D'.length ≤ D.length + 1 →
      St w s₀ (lawE pm cd doc dV kV L a) [("parts", .ref pa), ("whole", .ref wa), ("kept", .ref ka), ("rows", .ref ra), ("due", .ref da), ("one", .str (sOf a1) t1), ("two", .str (sOf a2) t2)] ((da, listO dv' nd') :: rest) s' → Q .next s') :
    wpAny (MM w) A (execs duB (lawE pm cd doc dV kV L a)) Q E s := by
  have R := S.rd
  refine wpAny_execs_cons (wpAny_Assign_Name ?_)
  walk_at "ww"
  rename_i aT s₁ R₁
  refine ⟨R₁.gl'.k, ?_⟩
  refine fit_ok (rs := [a1, a2, a3]) R₁.gl' (hA.less (by decide)) (R₁.at (.head _)) (.cons _ _ (.cons _ _ (.cons _ _ .nil))) rfl ?_ ?_ (R₁.kp.get (S.at (.tail _ mP))) hpv P.len P.cov fun y ty s₂ k₂ hfit => ?_
  · intro x hx
    simp only [List.mem_cons, List.not_mem_nil, or_false] at hx
    rcases hx with rfl | rfl | rfl
    · exact h1.1
    · exact h2.1
    · exact h3.1
  · intro x hx z hz
    simp only [List.mem_cons, List.not_mem_nil, or_false] at hx
    rcases hx with rfl | rfl | rfl
    · have := h1.2 z hz; omega
    · have := h2.2 z hz; omega
    · have := h3.2 z hz; omega
  refine (S.keeps (R₁.kp.trans k₂)).store (.inl rfl) fun s₃ S₃ => ?_
  clear R R₁ S k₂
  have R := S₃.rd
  refine wpAny_execs_cons (wpAny_If ?_)
  walk_at "ww"
  rw [show (sOf y != Str.ofString "") = (y != []) from sOf_bne y []]
  have V3 : St w s₀ (lawE pm cd doc dV kV L a) [("parts", .ref pa), ("whole", .ref wa), ("kept", .ref ka), ("rows", .ref ra), ("due", .ref da), ("one", .str (sOf a1) t1), ("two", .str (sOf a2) t2)] ((da, listO dv nd) :: rest) s₃ := S₃.sub ⟨rfl, rfl, rfl, rfl, rfl, rfl, rfl, trivial⟩
  by_cases hy : y = []
  · rw [if_neg (by simp [hy])]
    rw [if_neg (by decide)]
    refine wpAny_execs_nil ?_
    dsimp only
    refine wpAny_execs_nil ?_
    refine h _ dv nd D hdv (fun _ hx => hx) hDn (fun y hy => .inl hy) (fun z hz => ?_) (Nat.le_succ _) (V3.keeps (Kp.tok _ _))
    exact absurd (fit_fits P hfit hz ▸ hy) (fits_nonempty hz)
  · have hfits := fit_ne hfit hy
    rw [if_pos (by simp [hy])]
    walk_at "ww"
    refine notin_list_strs (isList_of (S₃.at (.head _))) hdv ?_
    rw [any_mem]
    walk_at "ww"
    by_cases hin : y ∈ D
    · rw [if_neg (by simp [hin])]
      refine wpAny_execs_nil ?_
      dsimp only
      refine wpAny_execs_nil ?_
      exact h _ dv nd D hdv (fun _ hx => hx) hDn (fun y hy => .inl hy) (fun z hz => fits_uniq P hfits hz ▸ hin) (Nat.le_succ _) (V3.keeps (Kp.tok _ _))
    · rw [if_pos (by simp [hin])]
      walk_at "w"
      rw [if_pos rfl]
      refine wpAny_execs_cons (wpAny_Expr_any ?_)
      walk_at "ww"
      refine PySem.Calls.getMethod_list_append (S₃.at (.head _)) rfl rfl ?_
      walk_at "ww"
      refine append_L (s := { s₃ with toks := s₃.toks + 1 }) (S₃.at (.head _)) (by rw [StrsAre.len hdv, List.length_map]; omega) fun s₄ n₄ kb e₄ => ?_
      refine wpAny_execs_nil ?_
      dsimp only
      refine wpAny_execs_nil ?_
      refine h s₄ _ n₄ (D ++ [y]) ?_ (fun _ hx => List.mem_append_left _ hx) ?_ (fun z hz => ?_) (fun z hz => ?_) (by simp) ((V3.keeps (Kp.tok _ _)).mut1 kb e₄)
      · rw [List.map_append]; exact StrsAre.app hdv (.cons _ _ .nil)
      · exact List.nodup_append.mpr ⟨hDn, by simp, fun p hp q hq e => hin (by rw [List.mem_singleton.mp hq] at e; exact e ▸ hp)⟩
      · rcases List.mem_append.mp hz with q | q
        · exact .inl q
        · rw [List.mem_singleton.mp q]; exact .inr hfits
      · rw [← fits_uniq P hfits hz]; exact List.mem_append_right _ (.head _)
set_option maxHeartbeats 8000000 in
theorem law4 {w : World} {s₀ s : Shared} {A : Around} {E : Value → Shared → Prop} {Q : Flow → Shared → Prop} {pm cd doc dV kV : Value} {L a pa wa ka : Addr} {pv wv kv : List Value} {n1 n2 n3 : Nat} {ps : List Nat} {W K : List (List Nat)} {rl : List (Nat × Nat)} {led : LL}
    (S : St w s₀ (lawE pm cd doc dV kV L a) [("parts", .ref pa), ("whole", .ref wa), ("kept", .ref ka)] led s) (hA : Rm 3 A)
    (mP : (pa, listO pv n1) ∈ led) (mW : (wa, listO wv n2) ∈ led) (mK : (ka, listO kv n3) ∈ led)
    (hpv : NatsAre pv ps) (hwv : StrsAre wv (W.map sOf)) (hkv : StrsAre kv (K.map sOf))
    (P : Parted ps) (CW : Chased 1 rl (rowOf (planF ps)) W) (hrl : ∀ p ∈ rl, p.2 < 4) (GK : Grid K) (CK : Cl rl (Agr K)) (hQ : LawQ s₀ Q) :
    wpAny (MM w) A (execs (lawB 11) (lawE pm cd doc dV kV L a)) Q E s := by
  have hKok := GK.okR
  have R := S.rd
  refine wpAny_execs_cons (wpAny_Assign_Name ?_)
  walk_at "ww"
  refine set_S hA.hh (isList_of (S.at mK)) hkv (by rw [GK.len]; decide) fun sa h₁ tk₁ es ep t kk₁ _ hSet hsz hmem => ?_
  rw [GK.len] at hsz
  have S₁ := S.keeps (Kp.to (s := s) (h := h₁) (t := tk₁) kk₁)
  clear R S
  have R := S₁.rd
  walk_at "ww"
  refine sorted_set (s := { s with heap := h₁, toks := tk₁ }) hA.hh hSet (by omega) fun ra rv Rw e₂ h₂ tk₂ d hrv hRp hRu kk₂ hn₂ hr₂ => ?_
  have S₂ := S₁.redraw d
  have k₂ : Kp { s with heap := h₁, toks := tk₁, drawn := d } { s with heap := h₂, toks := tk₂, drawn := d } := Kp.to kk₂
  have S₃ := S₂.back (S₂.rd.add k₂ hn₂ hr₂)
  clear R S₁ S₂ k₂
  have hQ := hQ.redraw d
  have hRm : ∀ x, x ∈ Rw ↔ x ∈ K := fun x => by rw [hRp.mem_iff]; exact hmem x
  have hRn : Rw.Nodup := hRp.nodup_iff.mpr hSet.nd
  have hRl : Rw.length ≤ 3 := by rw [hRp.length_eq, List.length_map, Array.length_toList]; exact hsz
  have hRok : ∀ x ∈ Rw, okR x := fun x hx => hKok x ((hRm x).mp hx)
  have hrvl : rv.length = Rw.length := by rw [StrsAre.len hrv, List.length_map]
  refine S₃.store (.inl rfl) fun s₄ S₄ => ?_
  clear S₃
  have R := S₄.rd
  refine wpAny_execs_cons (wpAny_Assign_Name ?_)
  walk_at "ww"
  rename_i da s₅ R₅
  refine (S₄.back R₅).store (.inl rfl) fun s₆ S₆ => ?_
  clear R R₅ S₄
  have S₆ := S₆.sub (V' := [("parts", .ref pa), ("whole", .ref wa), ("kept", .ref ka), ("rows", .ref ra), ("due", .ref da)]) ⟨rfl, rfl, rfl, rfl, rfl, trivial⟩
  generalize hrest : ([(ra, listO rv e₂)] ++ led : LL) = rest at S₆
  have mP : (pa, listO pv n1) ∈ rest := by rw [← hrest]; exact .tail _ mP
  have mW : (wa, listO wv n2) ∈ rest := by rw [← hrest]; exact .tail _ mW
  have mK : (ka, listO kv n3) ∈ rest := by rw [← hrest]; exact .tail _ mK
  have mR : (ra, listO rv e₂) ∈ rest := by rw [← hrest]; exact .head _
  clear hrest
  refine wpAny_execs_cons ?_
  refine forList rv (fun i V led => ∃ (dv : List Value) (nd : Nat) (D : List (List Nat)), V = ([("parts", .ref pa), ("whole", .ref wa), ("kept", .ref ka), ("rows", .ref ra), ("due", .ref da)] : VL) ∧ led = ((da, listO dv nd) :: rest : LL) ∧ StrsAre dv (D.map sOf) ∧ Due ps Rw D ∧ D.length ≤ 9 * i ∧
    (∀ a ∈ Rw.take i, ∀ b ∈ Rw, ∀ d ∈ Rw, Has ps D a b d)) S₆ hA.hh (fun _ => rfl) (fun _ _ => own_name) ?_ ?_ ?_
  · have R := S₆.rd
    walk_at "ww"
    exact ⟨ra, [], rfl, R, isList_of (S₆.at (.tail _ mR)), ⟨[], 0, [], rfl, rfl, .nil, ⟨by simp, fun _ h => nomatch h⟩, by simp, fun a h => by simp at h⟩, by
      rintro i V led s ⟨dv, nd, D, rfl, rfl, -⟩ S
      exact isList_of (S.at (.tail _ mR))⟩
  · rintro I o i v V led₁ s₇ E' hv ⟨dv, nd, D, rfl, rfl, hdv, hDue, hDl, hD1⟩ S₇
    clear S₆
    have hi : i < rv.length := (List.getElem?_eq_some_iff.mp hv).1
    obtain ⟨a1, ha1⟩ : ∃ r, Rw[i]? = some r := ⟨Rw[i]'(hrvl ▸ hi), by simp⟩
    obtain ⟨t1, ht1⟩ := StrsAre.at hrv (i := i) (y := sOf a1) (by rw [List.getElem?_map, ha1]; rfl)
    rw [hv] at ht1; cases ht1
    have hm1 := List.mem_of_getElem? ha1
    refine PyProof.Rows.assign_Name (S₇.store (.inl rfl) fun s₈ S₈ => ?_)
    have S₈ := (S₈.sub (V' := [("parts", .ref pa), ("whole", .ref wa), ("kept", .ref ka), ("rows", .ref ra), ("due", .ref da), ("one", .str (sOf a1) t1)]) ⟨rfl, rfl, rfl, rfl, rfl, rfl, trivial⟩).perm (led' := (da, listO dv nd) :: (I, o) :: rest) (List.Perm.swap _ _ _)
    clear S₇
    refine wpAny_execs_cons ?_
    refine forList rv (fun j V led => ∃ (dv : List Value) (nd : Nat) (D : List (List Nat)), V = ([("parts", .ref pa), ("whole", .ref wa), ("kept", .ref ka), ("rows", .ref ra), ("due", .ref da), ("one", .str (sOf a1) t1)] : VL) ∧ led = ((da, listO dv nd) :: (I, o) :: rest : LL) ∧ StrsAre dv (D.map sOf) ∧ Due ps Rw D ∧ D.length ≤ 9 * i + 3 * j ∧
      (∀ a ∈ Rw.take i, ∀ b ∈ Rw, ∀ d ∈ Rw, Has ps D a b d) ∧ (∀ b ∈ Rw.take j, ∀ d ∈ Rw, Has ps D a1 b d)) S₈ hA.hh (fun _ => rfl) (fun _ _ => own_name) ?_ ?_ ?_
    · have R := S₈.rd
      walk_at "ww"
      exact ⟨ra, [], rfl, R, isList_of (S₈.at (.tail _ (.tail _ mR))), ⟨dv, nd, D, rfl, rfl, hdv, hDue, by omega, hD1, fun a h => by simp at h⟩, by
        rintro i V led s ⟨dv, nd, D, rfl, rfl, -⟩ S
        exact isList_of (S.at (.tail _ (.tail _ mR)))⟩
    · rintro I₂ o₂ j v V led₂ s₉ E₂ hv ⟨dv, nd, D, rfl, rfl, hdv, hDue, hDl, hD1, hD2⟩ S₉
      clear S₈
      have hj : j < rv.length := (List.getElem?_eq_some_iff.mp hv).1
      obtain ⟨a2, ha2⟩ : ∃ r, Rw[j]? = some r := ⟨Rw[j]'(hrvl ▸ hj), by simp⟩
      obtain ⟨t2, ht2⟩ := StrsAre.at hrv (i := j) (y := sOf a2) (by rw [List.getElem?_map, ha2]; rfl)
      rw [hv] at ht2; cases ht2
      have hm2 := List.mem_of_getElem? ha2
      refine PyProof.Rows.assign_Name (S₉.store (.inl rfl) fun s₁₀ S₁₀ => ?_)
      have S₁₀ := (S₁₀.sub (V' := [("parts", .ref pa), ("whole", .ref wa), ("kept", .ref ka), ("rows", .ref ra), ("due", .ref da), ("one", .str (sOf a1) t1), ("two", .str (sOf a2) t2)]) ⟨rfl, rfl, rfl, rfl, rfl, rfl, rfl, trivial⟩).perm (led' := (da, listO dv nd) :: (I₂, o₂) :: (I, o) :: rest) (List.Perm.swap _ _ _)
      clear S₉
      refine wpAny_execs_cons ?_
      refine forList rv (fun k V led => ∃ (dv : List Value) (nd : Nat) (D : List (List Nat)), V = ([("parts", .ref pa), ("whole", .ref wa), ("kept", .ref ka), ("rows", .ref ra), ("due", .ref da), ("one", .str (sOf a1) t1), ("two", .str (sOf a2) t2)] : VL) ∧ led = ((da, listO dv nd) :: (I₂, o₂) :: (I, o) :: rest : LL) ∧ StrsAre dv (D.map sOf) ∧ Due ps Rw D ∧ D.length ≤ 9 * i + 3 * j + k ∧
        (∀ a ∈ Rw.take i, ∀ b ∈ Rw, ∀ d ∈ Rw, Has ps D a b d) ∧ (∀ b ∈ Rw.take j, ∀ d ∈ Rw, Has ps D a1 b d) ∧ (∀ d ∈ Rw.take k, Has ps D a1 a2 d)) S₁₀ hA.hh (fun _ => rfl) (fun _ _ => own_name) ?_ ?_ ?_
      · have R := S₁₀.rd
        walk_at "ww"
        exact ⟨ra, [], rfl, R, isList_of (S₁₀.at (.tail _ (.tail _ (.tail _ mR)))), ⟨dv, nd, D, rfl, rfl, hdv, hDue, by omega, hD1, hD2, fun a h => by simp at h⟩, by
          rintro i V led s ⟨dv, nd, D, rfl, rfl, -⟩ S
          exact isList_of (S.at (.tail _ (.tail _ (.tail _ mR))))⟩
      · rintro I₃ o₃ k v V led₃ s₁₁ E₃ hv ⟨dv, nd, D, rfl, rfl, hdv, hDue, hDl, hD1, hD2, hD3⟩ S₁₁
        clear S₁₀
        have hk : k < rv.length := (List.getElem?_eq_some_iff.mp hv).1
        obtain ⟨a3, ha3⟩ : ∃ r, Rw[k]? = some r := ⟨Rw[k]'(hrvl ▸ hk), by simp⟩
        obtain ⟨t3, ht3⟩ := StrsAre.at hrv (i := k) (y := sOf a3) (by rw [List.getElem?_map, ha3]; rfl)
        rw [hv] at ht3; cases ht3
        have hm3 := List.mem_of_getElem? ha3
        refine PyProof.Rows.assign_Name (S₁₁.store (.inl rfl) fun s₁₂ S₁₂ => ?_)
        have S₁₂ := (S₁₂.sub (V' := [("parts", .ref pa), ("whole", .ref wa), ("kept", .ref ka), ("rows", .ref ra), ("due", .ref da), ("one", .str (sOf a1) t1), ("two", .str (sOf a2) t2), ("three", .str (sOf a3) t3)]) ⟨rfl, rfl, rfl, rfl, rfl, rfl, rfl, rfl, trivial⟩).perm (led' := (da, listO dv nd) :: (I₃, o₃) :: (I₂, o₂) :: (I, o) :: rest) (List.Perm.swap _ _ _)
        clear S₁₁
        refine due_turn S₁₂ (hA.less (by decide)) (.tail _ (.tail _ (.tail _ mP))) hpv P (hRok _ hm1) (hRok _ hm2) (hRok _ hm3) hdv (by omega) hDue.nd fun s₁₃ dv' nd' D' hdv' hsub hDn' hfrom hhas hlen S₁₃ => ?_
        refine ⟨_, [(da, listO dv' nd')], (I₂, o₂) :: (I, o) :: rest, ⟨dv', nd', D', rfl, rfl, hdv', ⟨hDn', fun y hy => ?_⟩, by omega, fun a ha b hb d hd => (hD1 a ha b hb d hd).mono hsub, fun b hb d hd => (hD2 b hb d hd).mono hsub, fun d hd => ?_⟩, S₁₃⟩
        · rcases hfrom y hy with q | q
          · exact hDue.from' y q
          · exact ⟨a1, hm1, a2, hm2, a3, hm3, q⟩
        · rw [List.take_add_one, ha3] at hd
          rcases List.mem_append.mp hd with q | q
          · exact (hD3 d q).mono hsub
          · have : d = a3 := by simpa using q
            subst this; exact hhas
      · rintro V led₃ s₁₁ ⟨dv, nd, D, rfl, rfl, hdv, hDue, hDl, hD1, hD2, hD3⟩ S₁₁
        rw [hrvl, List.take_length] at hD3
        refine wpAny_execs_nil ⟨_, [(da, listO dv nd)], (I, o) :: rest, ⟨dv, nd, D, rfl, rfl, hdv, hDue, by omega, hD1, fun b hb d hd => ?_⟩, S₁₁.sub ⟨rfl, rfl, rfl, rfl, rfl, rfl, trivial⟩⟩
        rw [List.take_add_one, ha2] at hb
        rcases List.mem_append.mp hb with q | q
        · exact hD2 b q d hd
        · have : b = a2 := by simpa using q
          subst this; exact hD3 d hd
    · rintro V led₂ s₉ ⟨dv, nd, D, rfl, rfl, hdv, hDue, hDl, hD1, hD2⟩ S₉
      rw [hrvl, List.take_length] at hD2
      refine wpAny_execs_nil ⟨_, [(da, listO dv nd)], rest, ⟨dv, nd, D, rfl, rfl, hdv, hDue, by omega, fun a ha b hb d hd => ?_⟩, S₉.sub ⟨rfl, rfl, rfl, rfl, rfl, trivial⟩⟩
      rw [List.take_add_one, ha1] at ha
      rcases List.mem_append.mp ha with q | q
      · exact hD1 a q b hb d hd
      · have : a = a1 := by simpa using q
        subst this; exact hD2 b hb d hd
  · rintro V led₁ s₇ ⟨dv, nd, D, rfl, rfl, hdv, hDue, hDl, hD1⟩ S₇
    rw [hrvl, List.take_length] at hD1
    exact law5 S₇ hA (.tail _ mP) (.tail _ mW) (.tail _ mK) (.tail _ mR) (.head _) hpv hwv hkv hrv hdv P CW hrl GK CK hRu hRn hRm hDue hD1 hQ
end
section
--LINES
local macro_rules | `(tactic| walk_at "eval Name") => `(tactic| first
  | refine Rd.Nm (Rd.any (by assumption) (by rfl)) (by rfl) ?_
  | refine Rd.Gb (Rd.any (by assumption) (by rfl)) (by rfl) (by rfl) ?_
  | refine Rd.Bl (Rd.any (by assumption) (by rfl)) (by decide) (by first | exact boot_len | exact boot_range | exact boot_sum | exact boot_sorted | exact boot_enumerate | exact boot_zip | exact PyProof.Rows.boot_set | exact PyProof.Rows.boot_type | exact PyProof.Rows.boot_list | exact PyProof.Rows.boot_str) (by rfl) ?_)
local macro_rules | `(tactic| walk_at "side") => `(tactic| (refine ⟨rfl, rfl, by decide, ?_, ?_, fun C => .inl rfl, rfl⟩; ((repeat (refine And.intro ⟨⟨_, rfl⟩, rfl, rfl⟩ ?_)); exact trivial); (intro C; (repeat (refine And.intro ⟨rfl, rfl, ⟨_, rfl⟩, rfl⟩ ?_)); exact trivial)))
local macro_rules | `(tactic| walk_at "newTuple") => `(tactic| (refine newTuple_R (Rd.any (by assumption) (by rfl)) ?_ (by simp [sizeLine]); intro a s' R))
local macro_rules | `(tactic| walk_at "newList") => `(tactic| (refine newList_R (Rd.any (by assumption) (by rfl)) ?_ (by simp [sizeLine]); intro a s' R))
local macro_rules | `(tactic| walk_at "w") => `(tactic| (walk1; try dsimp only))
local macro_rules | `(tactic| walk_at "ww") => `(tactic| repeat ((with_reducible show wpAny _ _ _ _ _ _); walk_at "w"))
local macro_rules | `(tactic| walk_at "callWith ref") => `(tactic| refine callWith_K (Rd.gl' (by assumption)).k (by rfl) ?_)
--ENDLINES
/-! ## law: the two chases -/
def RulesIn (led : LL) (vs : List Value) (rl : List (Nat × Nat)) : Prop := vs.length = rl.length ∧ ∀ (i : Nat) (p : Nat × Nat), rl[i]? = some p → ∃ T t u, vs[i]? = some (Value.ref T) ∧ (T, tupO [Value.int (p.1 : Nat) t, Value.int (p.2 : Nat) u]) ∈ led
theorem RulesIn.are {led : LL} {vs : List Value} {rl : List (Nat × Nat)} {h : Heap} (P : RulesIn led vs rl) (k : ∀ p ∈ led, h.get? p.1 = some p.2) : RulesAre h vs rl :=
  ⟨P.1, fun i c e => let ⟨T, t, u, a, b⟩ := P.2 i c e; ⟨T, t, u, a, k _ b⟩⟩
theorem RulesAre.keeps {h h' : Heap} {vs : List Value} {rl : List (Nat × Nat)} (P : RulesAre h vs rl) (k : ∀ b o, h.get? b = some o → h'.get? b = some o) : RulesAre h' vs rl :=
  ⟨P.1, fun i c e => let ⟨T, t, u, a, b⟩ := P.2 i c e; ⟨T, t, u, a, k _ _ b⟩⟩
set_option maxHeartbeats 8000000 in
theorem law3 {w : World} {s₀ s : Shared} {A : Around} {E : Value → Shared → Prop} {Q : Flow → Shared → Prop} {pm cd doc dV kV : Value} {L a pa ua xa qa : Addr} {pv uv xv qv : List Value} {n1 n2 n3 n4 : Nat} {ps : List Nat} {r : List (List Nat)} {rl : List (Nat × Nat)} {way : Int} {tw : Tok} {led : LL}
    (S : St w s₀ (lawE pm cd doc dV kV L a) [("parts", .ref pa), ("rules", .ref ua), ("way", .int way tw), ("drawn", .ref xa), ("plan", .ref qa)] led s) (hA : Rm 3 A)
    (mP : (pa, listO pv n1) ∈ led) (mU : (ua, listO uv n2) ∈ led) (mX : (xa, listO xv n3) ∈ led) (mQ : (qa, listO qv n4) ∈ led)
    (hpv : NatsAre pv ps) (huv : RulesIn led uv rl) (hrl : ∀ p ∈ rl, p.1 < 16 ∧ p.2 < 4) (hway : way = 1 ∨ way = -1) (hxv : StrsAre xv (r.map sOf)) (Gr : Grid r) (hqv : StrsAre qv ((rowOf (planF ps)).map sOf)) (P : Parted ps) (hQ : LawQ s₀ Q) :
    wpAny (MM w) A (execs (lawB 8) (lawE pm cd doc dV kV L a)) Q E s := by
  have Gq := plan_grid ps
  have R := S.rd
  refine wpAny_execs_cons (wpAny_Assign_Name ?_)
  walk_at "ww"
  refine ⟨R.gl'.k, ?_⟩
  refine chase_ok (way := 1) (R.any rfl).gl' hA (S.at mQ) hqv Gq (S.at mU) (huv.are fun p hp => S.at hp) hrl (.inl rfl) fun wa wv W s₁ k₁ hn₁ hw₁ hwv CW => ?_
  refine (S.back ((R.any rfl).add k₁ hn₁ hw₁)).store (.inl rfl) fun s₂ S₂ => ?_
  clear R S k₁
  have R := S₂.rd
  refine wpAny_execs_cons (wpAny_Assign_Name ?_)
  walk_at "ww"
  refine ⟨R.gl'.k, ?_⟩
  refine chase_ok (way := way) R.gl' hA (S₂.at (.tail _ mX)) hxv Gr (S₂.at (.tail _ mU)) (huv.are fun p hp => S₂.at (.tail _ hp)) hrl hway fun ka kv K s₃ k₃ hn₃ hk₃ hkv CK => ?_
  refine (S₂.back (R.add k₃ hn₃ hk₃)).store (.inl rfl) fun s₄ S₄ => ?_
  clear R S₂ k₃
  have R := S₄.rd
  have up : ∀ {p : Addr × Obj}, p ∈ led → p ∈ (ka, listO kv 0) :: (wa, listO wv 0) :: led := fun h => .tail _ (.tail _ h)
  refine wpAny_execs_cons (wpAny_If ?_)
  walk_at "ww"
  refine ⟨R.gl'.k, ?_⟩
  refine agree_ok (way := 1) (R.any rfl).gl' (hA.less (by decide)) (S₄.at (up mQ)) hqv Gq (S₄.at (up mU)) (huv.are fun p hp => S₄.at (up hp)) hrl (.inl rfl) fun ga gv W' s₅ k₅ hn₅ hg₅ hgv CW' => ?_
  have hWW := CW.uniq CW'
  subst hWW
  have S₅ := (S₄.keeps (Kp.tok _ (s₄.toks + 1))).keeps k₅
  clear R
  have hplW := plain_okR CW.grid.okR
  refine ne_S (isList_of (S₅.at (.tail _ (.head _)))) hg₅ hwv hgv hplW hplW (hA.units' (by decide)) ?_
  have R := S₅.rd
  walk_at "ww"
  rw [if_neg (by simp)]
  walk_at "ww"
  refine ⟨R.gl'.k, ?_⟩
  refine agree_ok (way := way) R.gl' (hA.less (by decide)) (S₅.at (up mX)) hxv Gr (S₅.at (up mU)) (huv.are fun p hp => S₅.at (up hp)) hrl hway fun ya yv K' s₆ k₆ hn₆ hy₆ hyv CK' => ?_
  have hKK := CK.uniq CK'
  subst hKK
  have S₆ := S₅.keeps k₆
  clear R
  have hplK := plain_okR CK.grid.okR
  refine ne_S (isList_of (S₆.at (.head _))) hy₆ hkv hyv hplK hplK (hA.units' (by decide)) ?_
  have R := S₆.rd
  walk_at "ww"
  rw [if_neg (by simp)]
  walk_at "w"
  rw [if_neg (by decide)]
  refine wpAny_execs_nil ?_
  dsimp only
  exact law4 (S₆.sub ⟨rfl, rfl, rfl, trivial⟩) hA (up mP) (.tail _ (.head _)) (.head _) hpv hwv hkv P CW (fun p hp => (hrl p hp).2) CK.grid CK.cl hQ
end
section
--LINES
local macro_rules | `(tactic| walk_at "eval Name") => `(tactic| first
  | refine Rd.Nm (Rd.any (by assumption) (by rfl)) (by rfl) ?_
  | refine Rd.Gb (Rd.any (by assumption) (by rfl)) (by rfl) (by rfl) ?_
  | refine Rd.Bl (Rd.any (by assumption) (by rfl)) (by decide) (by first | exact boot_len | exact boot_range | exact boot_sum | exact boot_sorted | exact boot_enumerate | exact boot_zip | exact PyProof.Rows.boot_set | exact PyProof.Rows.boot_type | exact PyProof.Rows.boot_list | exact PyProof.Rows.boot_str) (by rfl) ?_)
local macro_rules | `(tactic| walk_at "side") => `(tactic| (refine ⟨rfl, rfl, by decide, ?_, ?_, fun C => .inl rfl, rfl⟩; ((repeat (refine And.intro ⟨⟨_, rfl⟩, rfl, rfl⟩ ?_)); exact trivial); (intro C; (repeat (refine And.intro ⟨rfl, rfl, ⟨_, rfl⟩, rfl⟩ ?_)); exact trivial)))
local macro_rules | `(tactic| walk_at "newTuple") => `(tactic| (refine newTuple_R (Rd.any (by assumption) (by rfl)) ?_ (by simp [sizeLine]); intro a s' R))
local macro_rules | `(tactic| walk_at "newList") => `(tactic| (refine newList_R (Rd.any (by assumption) (by rfl)) ?_ (by simp [sizeLine]); intro a s' R))
local macro_rules | `(tactic| walk_at "w") => `(tactic| (walk1; try dsimp only))
local macro_rules | `(tactic| walk_at "ww") => `(tactic| repeat ((with_reducible show wpAny _ _ _ _ _ _); walk_at "w"))
local macro_rules | `(tactic| walk_at "callWith ref") => `(tactic| refine callWith_K (Rd.gl' (by assumption)).k (by rfl) ?_)
--ENDLINES
/-! ## law: the drawn table and the plan -/
def digit (hf : Int) (i c : Nat) : Nat := ((hf.fdiv (3 ^ (4 * i + c))).fmod 3).toNat
theorem digit_lt (hf : Int) (i c : Nat) : digit hf i c < 3 := by
  have h := Int.fmod_eq_emod_of_nonneg (hf.fdiv (3 ^ (4 * i + c))) (show (0 : Int) ≤ 3 by decide)
  unfold digit; omega
theorem digit_eq (hf : Int) (i c : Nat) : ((digit hf i c : Nat) : Int) = (hf.fdiv (3 ^ (4 * i + c))).fmod 3 := by
  have h := Int.fmod_eq_emod_of_nonneg (hf.fdiv (3 ^ (4 * i + c))) (show (0 : Int) ≤ 3 by decide)
  unfold digit; omega
def alphL (a n : Nat) : List Nat := (List.range n).map fun i => a + i
theorem alph_at {a n i : Nat} (h : i < n) : (alphL a n).getD i 0 = a + i := by
  unfold alphL
  rw [List.getD_eq_getElem?_getD, List.getElem?_map, List.getElem?_range h]; rfl
theorem alph_len (a n : Nat) : (alphL a n).length = n := by unfold alphL; simp
set_option maxHeartbeats 8000000 in
theorem law2a {w : World} {s₀ s : Shared} {A : Around} {E : Value → Shared → Prop} {Q : Flow → Shared → Prop} {pm cd doc dV kV : Value} {L a pa ua : Addr} {hf way : Int} {tw th : Tok} {led : LL}
    (S : St w s₀ (lawE pm cd doc dV kV L a) [("parts", .ref pa), ("rules", .ref ua), ("way", .int way tw), ("half", .int hf th)] led s) (hA : A.handled = none)
    (h : ∀ xa xv n s', StrsAre xv ((rowOf (drawF (digit hf))).map sOf) → St w s₀ (lawE pm cd doc dV kV L a) [("parts", .ref pa), ("rules", .ref ua), ("way", .int way tw), ("half", .int hf th), ("drawn", .ref xa)] ((xa, listO xv n) :: led) s' → wpAny (MM w) A (execs (lawB 7) (lawE pm cd doc dV kV L a)) Q E s') :
    wpAny (MM w) A (execs (lawB 6) (lawE pm cd doc dV kV L a)) Q E s := by
  refine wpAny_execs_cons ?_
  refine compRangeA (cl := [("half", L + 3)]) hA S [("half", .int hf th)] (fun i ys els => els = [] ∧ StrsAre ys (((List.range i).map fun i => (List.range 4).map fun c => drawF (digit hf) i c).map sOf))
    ?_ rfl (by decide) rfl rfl ⟨rfl, .nil⟩ ?_ ?_
  · refine ⟨rfl, rfl, by decide, ?_, ?_, fun C => .inr ⟨rfl, _, rfl, ?_⟩, rfl⟩
    · exact ⟨⟨⟨_, rfl⟩, rfl, rfl⟩, trivial⟩
    · exact fun C => ⟨⟨rfl, rfl, ⟨_, rfl⟩, rfl⟩, trivial⟩
    · exact Nat.lt_succ_self _
  · rintro C i ti hi ys els s₁ E' ⟨rfl, hys⟩ kp - R₁
    have hi : i < 3 := hi
    refine wpAny_tests_nil ?_
    rw [if_pos rfl]
    walk_at "ww"
    refine compRange (cl := [("i", C + 1), ("half", L + 3)]) hA (R₁.any rfl) [("i", .int (i : Nat) ti), ("half", .int hf th)]
      (fun n ys els => els = [] ∧ StrsAre ys ((List.range n).map fun c => sOf [drawF (digit hf) i c])) (by walk_at "side") rfl (by decide) ⟨rfl, .nil⟩ ?_ ?_
    · rintro C₂ c tc hc ys₂ els₂ s₂ E₂ ⟨rfl, hys₂⟩ kp₂ - R₂
      have hc : c < 4 := hc
      clear R₁
      refine wpAny_tests_nil ?_
      rw [if_pos rfl]
      have hne : (3 : Int) ^ (4 * (i : Int) + (c : Int)).toNat ≠ 0 := Int.pow_ne_zero (by decide)
      walk_at "ww"
      refine PyProof.Rows.floordiv_int hne ?_ (.inl (PyProof.noPylong_small ?_))
      rotate_left
      · rw [Int.natAbs_pow]
        exact Nat.lt_of_le_of_lt (Nat.pow_le_pow_right (by decide) (by omega : (4 * (i : Int) + (c : Int)).toNat ≤ 11)) (by decide)
      walk_at "ww"
      have e1 : 3 * (c : Int) + (hf.fdiv (3 ^ (4 * (i : Int) + (c : Int)).toNat)).fmod 3 = ((3 * c + digit hf i c : Nat) : Int) := by
        rw [show (4 * (i : Int) + (c : Int)).toNat = 4 * i + c by omega, ← digit_eq]; omega
      rw [e1]
      have hd := digit_lt hf i c
      refine item_S (l := alphL 97 12) (by rw [alph_len]; omega) (by rw [alph_len]; decide) ?_
      rw [alph_at (by omega), List.range_succ (n := c), List.map_append]
      exact ⟨[], R₂.any rfl, rfl, StrsAre.app hys₂ (.cons _ _ .nil)⟩
    · rintro D' k' ys' els s₂ ⟨rfl, hys'⟩ R₂
      walk_at "ww"
      refine join_list (isList_of (R₂.at (.head _))) hys' ?_ fun t'' k'' => ?_
      · rw [show (Str.ofString "").length = 0 from by decide]
        simp [sOf_len, List.range, List.range.loop]
      have ej : Txt.join (Str.ofString "") ((List.range 4).map fun c => sOf [drawF (digit hf) i c]) = sOf ((List.range 4).map fun c => drawF (digit hf) i c) := by
        have := join_sOf_nil ((List.range 4).map fun c => [drawF (digit hf) i c])
        rw [List.map_map] at this
        refine Eq.trans this ?_
        congr 1
      rw [ej, List.range_succ (n := i), List.map_append, List.map_append]
      exact ⟨[], (R₂.drop (List.nil_sublist _)).tok _, rfl, StrsAre.app hys (.cons _ _ .nil)⟩
  · rintro D k ys els s₁ ⟨rfl, hys⟩ S₁
    exact h D ys k s₁ hys (S₁.sub ⟨rfl, rfl, rfl, rfl, rfl, trivial⟩)
set_option maxHeartbeats 8000000 in
theorem law2 {w : World} {s₀ s : Shared} {A : Around} {E : Value → Shared → Prop} {Q : Flow → Shared → Prop} {pm cd doc dV kV : Value} {L a pa ua : Addr} {pv uv : List Value} {n1 n2 : Nat} {ps : List Nat} {rl : List (Nat × Nat)} {hf way : Int} {tw th : Tok} {led : LL}
    (S : St w s₀ (lawE pm cd doc dV kV L a) [("parts", .ref pa), ("rules", .ref ua), ("way", .int way tw), ("half", .int hf th)] led s) (hA : Rm 3 A)
    (mP : (pa, listO pv n1) ∈ led) (mU : (ua, listO uv n2) ∈ led) (hpv : NatsAre pv ps) (huv : RulesIn led uv rl) (hrl : ∀ p ∈ rl, p.1 < 16 ∧ p.2 < 4) (hway : way = 1 ∨ way = -1) (P : Parted ps) (hQ : LawQ s₀ Q) :
    wpAny (MM w) A (execs (lawB 6) (lawE pm cd doc dV kV L a)) Q E s := by
  refine law2a S hA.hh fun xa xv n s₁ hxv S₁ => ?_
  clear S
  have mP1 : (pa, listO pv n1) ∈ (xa, listO xv n) :: led := .tail _ mP
  refine wpAny_execs_cons ?_
  refine compRangeA (cl := [("parts", L + 2)]) hA.hh S₁ [("parts", .ref pa)] (fun i ys els => els = [] ∧ StrsAre ys (((List.range i).map fun i => (List.range 4).map fun c => planF ps i c).map sOf))
    ?_ rfl (by decide) rfl rfl ⟨rfl, .nil⟩ ?_ ?_
  · refine ⟨rfl, rfl, by decide, ?_, ?_, fun C => .inr ⟨rfl, _, rfl, ?_⟩, rfl⟩
    · exact ⟨⟨⟨_, rfl⟩, rfl, rfl⟩, trivial⟩
    · exact fun C => ⟨⟨rfl, rfl, ⟨_, rfl⟩, rfl⟩, trivial⟩
    · exact Nat.lt_succ_self _
  · rintro C i ti hi ys els s₂ E' ⟨rfl, hys⟩ kp - R₁
    have hi : i < 3 := hi
    have hpa := kp.get (S₁.at mP1)
    obtain ⟨tp, htp⟩ := nat_at hpv P.len hi
    refine wpAny_tests_nil ?_
    rw [if_pos rfl]
    walk_at "ww"
    refine compRange (cl := [("parts", L + 2), ("i", C + 1)]) hA.hh (R₁.any rfl) [("parts", .ref pa), ("i", .int (i : Nat) ti)]
      (fun n ys els => els = [] ∧ StrsAre ys ((List.range n).map fun c => sOf [planF ps i c])) (by walk_at "side") rfl (by decide) ⟨rfl, .nil⟩ ?_ ?_
    · rintro C₂ c tc hc ys₂ els₂ s₃ E₂ ⟨rfl, hys₂⟩ kp₂ - R₂
      have hc : c < 4 := hc
      have hpa₂ := kp₂.get hpa
      clear R₁
      refine wpAny_tests_nil ?_
      rw [if_pos rfl]
      walk_at "ww"
      refine item_LI (isList_of hpa₂) (by omega) htp ?_
      walk_at "ww"
      rw [bit_test, List.range_succ (n := c), List.map_append]
      cases hb : (msk ps i).testBit c with
      | true =>
        rw [if_pos rfl]
        walk_at "ww"
        refine item_S (l := alphL 97 4) (by rw [alph_len]; omega) (by rw [alph_len]; decide) ?_
        rw [alph_at (by omega)]
        refine ⟨[], R₂.any rfl, rfl, StrsAre.app hys₂ ?_⟩
        have e : planF ps i c = 97 + c := by unfold planF; rw [if_pos hb]
        simp only [List.map_cons, List.map_nil, e]
        exact .cons _ _ .nil
      | false =>
        rw [if_neg (by decide)]
        walk_at "ww"
        have e1 : 4 * (i : Int) + (c : Int) = ((4 * i + c : Nat) : Int) := by omega
        rw [e1]
        refine item_S (l := alphL 101 12) (by rw [alph_len]; omega) (by rw [alph_len]; decide) ?_
        rw [alph_at (by omega)]
        refine ⟨[], R₂.any rfl, rfl, StrsAre.app hys₂ ?_⟩
        have e : planF ps i c = 101 + (4 * i + c) := by unfold planF; rw [if_neg (by rw [hb]; decide)]
        simp only [List.map_cons, List.map_nil, e]
        exact .cons _ _ .nil
    · rintro D' k' ys' els s₃ ⟨rfl, hys'⟩ R₂
      clear R₁
      walk_at "ww"
      refine join_list (isList_of (R₂.at (.head _))) hys' ?_ fun t'' k'' => ?_
      · rw [show (Str.ofString "").length = 0 from by decide]
        simp [sOf_len, List.range, List.range.loop]
      have ej : Txt.join (Str.ofString "") ((List.range 4).map fun c => sOf [planF ps i c]) = sOf ((List.range 4).map fun c => planF ps i c) := by
        have := join_sOf_nil ((List.range 4).map fun c => [planF ps i c])
        rw [List.map_map] at this
        refine Eq.trans this ?_
        congr 1
      rw [ej, List.range_succ (n := i), List.map_append, List.map_append]
      exact ⟨[], (R₂.drop (List.nil_sublist _)).tok _, rfl, StrsAre.app hys (.cons _ _ .nil)⟩
  · rintro D k ys els s₂ ⟨rfl, hys⟩ S₂
    have up : ∀ {p : Addr × Obj}, p ∈ led → p ∈ (D, listO ys k) :: ([] ++ (xa, listO xv n) :: led) := fun h => .tail _ (.tail _ h)
    refine law3 (S₂.sub ⟨rfl, rfl, rfl, rfl, rfl, trivial⟩) hA (up mP) (up mU) (.tail _ (.head _)) (.head _) hpv ⟨huv.1, fun i c e => ?_⟩ hrl hway hxv (draw_grid fun i c _ _ => digit_lt hf i c) hys P hQ
    obtain ⟨T, t, u, h1, h2⟩ := huv.2 i c e
    exact ⟨T, t, u, h1, up h2⟩
end
section
--LINES
local macro_rules | `(tactic| walk_at "eval Name") => `(tactic| first
  | refine Rd.Nm (Rd.any (by assumption) (by rfl)) (by rfl) ?_
  | refine Rd.Gb (Rd.any (by assumption) (by rfl)) (by rfl) (by rfl) ?_
  | refine Rd.Bl (Rd.any (by assumption) (by rfl)) (by decide) (by first | exact boot_len | exact boot_range | exact boot_sum | exact boot_sorted | exact boot_enumerate | exact boot_zip | exact PyProof.Rows.boot_set | exact PyProof.Rows.boot_type | exact PyProof.Rows.boot_list | exact PyProof.Rows.boot_str) (by rfl) ?_)
local macro_rules | `(tactic| walk_at "side") => `(tactic| (refine ⟨rfl, rfl, by decide, ?_, ?_, fun C => .inl rfl, rfl⟩; ((repeat (refine And.intro ⟨⟨_, rfl⟩, rfl, rfl⟩ ?_)); exact trivial); (intro C; (repeat (refine And.intro ⟨rfl, rfl, ⟨_, rfl⟩, rfl⟩ ?_)); exact trivial)))
local macro_rules | `(tactic| walk_at "newTuple") => `(tactic| (refine newTuple_R (Rd.any (by assumption) (by rfl)) ?_ (by simp [sizeLine]); intro a s' R))
local macro_rules | `(tactic| walk_at "newList") => `(tactic| (refine newList_R (Rd.any (by assumption) (by rfl)) ?_ (by simp [sizeLine]); intro a s' R))
local macro_rules | `(tactic| walk_at "w") => `(tactic| (walk1; try dsimp only))
local macro_rules | `(tactic| walk_at "ww") => `(tactic| repeat ((with_reducible show wpAny _ _ _ _ _ _); walk_at "w"))
local macro_rules | `(tactic| walk_at "callWith ref") => `(tactic| refine callWith_K (Rd.gl' (by assumption)).k (by rfl) ?_)
--ENDLINES
/-! ## law: the numbers -/
theorem slice_L3 {w : World} {b s : Shared} {env : Env} {V : VL} {nw : LL} {A : Around} {E : Value → Shared → Prop} {value slice : Expr} {l : Addr} {vs : List Value} {vl vu vk : Value} {lo hi st : Option Int} {Q : Value → Shared → Prop} (R : Rd w b env V nw s) (hl : s.heap.IsList l vs.toArray) (pl : IsPart vl lo) (pu : IsPart vu hi) (pk : IsPart vk st) (h0 : st ≠ some 0) (hz : vs.length ≤ 1000)
    (h : ∀ a s', Rd w b env V ((a, listO (slicePick vs.toArray lo hi st).toList 0) :: nw) s' → Q (.ref a) s')
    (hs : subscripted slice false (.ref l) (.ref s.heap.objs.size) = operate [.ref l, .ref s.heap.objs.size] (getItem (.ref l) (.ref s.heap.objs.size)) := by with_unfolding_all rfl)
    (ht : ∀ r, letTemporaryGo value (.ref l) r = pure () := by intro _; with_unfolding_all rfl) :
    wpAny (MM w) A (subscriptTail value slice (.ref l) (.ref s.heap.objs.size)) Q E { s with heap := s.heap.push { cls := .type "slice", data := .fields #[vl, vu, vk] } } := by
  refine subscriptTail_ops (Heap.IsList.typeIs (s := { s with heap := s.heap.push { cls := .type "slice", data := .fields #[vl, vu, vk] } }) (hl.push _)) list_getitem_lookup
    (wpAny_getItem_list_slice (hl.push _) (Heap.IsSliceOf.new ..) pl pu pk h0 ?_ (by rw [List.size_toArray]; show vs.length ≤ 2 ^ 24; omega)) hs ht
  refine h _ _ ?_
  have := (R.keeps (Kp.push s { cls := .type "slice", data := .fields #[vl, vu, vk] })).push (listO (slicePick vs.toArray lo hi st).toList 0)
  simpa using this
set_option maxHeartbeats 8000000 in
theorem law1a {w : World} {s₀ s : Shared} {A : Around} {E : Value → Shared → Prop} {Q : Flow → Shared → Prop} {pm cd doc dV kV : Value} {L a la : Addr} {sv : List Value} {ns : List Int}
    (S : St w s₀ (lawE pm cd doc dV kV L a) [("script", .ref la)] [] s) (hA : A.handled = none) (hl : s₀.heap.IsList la sv.toArray) (hsv : IntsAre sv ns) (hn : sv.length ≤ 63)
    (h : ∀ na nv n ms s', IntsAre nv ms → ms.length = 7 → St w s₀ (lawE pm cd doc dV kV L a) [("script", .ref la), ("nums", .ref na)] [(na, listO nv n)] s' → wpAny (MM w) A (execs (lawB 1) (lawE pm cd doc dV kV L a)) Q E s') :
    wpAny (MM w) A (execs (lawB 0) (lawE pm cd doc dV kV L a)) Q E s := by
  have R := S.rd
  refine wpAny_execs_cons ?_
  refine compAssign2 (cl := [("script", L + 1)]) S (by rfl) (by rfl) (by rfl) (by rfl) (by decide) ⟨⟨⟨_, rfl⟩, rfl, rfl⟩, trivial⟩ (fun _ => rfl) ?_
  walk_at "ww"
  rename_i ea s₁ R₁
  generalize hits : ([_, _, _, _, _, _, _] : List Value) = its at R₁
  have hii : IntsAre its [2, 5, 11, 31, 15, 8, 885492] := by
    rw [← hits]
    exact .cons _ _ (.cons _ _ (.cons _ _ (.cons _ _ (.cons _ _ (.cons _ _ (.cons _ _ .nil))))))
  have hil : its.length = 7 := by rw [← hits]; rfl
  clear hits
  have hEa := R₁.at (.head _)
  refine call_enumerate_1 hEa fun h' he hit hsz kk => ?_
  refine wpAny_pyIter_enum he ?_
  have k₁ : Kp s₁ { s₁ with heap := h' } := Kp.to kk
  have hlt : ea < s₁.heap.objs.size := Heap.lt_size hEa
  have n0 := none_at s₁.heap
  have n1 : s₁.heap.get? (s₁.heap.objs.size + 1) = none := none_ge (Nat.le_succ _)
  have hne : s₁.heap.objs.size + 1 ≠ s₁.heap.objs.size := Nat.succ_ne_self _
  have hl1 : ea ≠ s₁.heap.objs.size + 1 := Nat.ne_of_lt (Nat.lt_succ_of_lt hlt)
  have hl0 : ea ≠ s₁.heap.objs.size := Nat.ne_of_lt hlt
  have hz1 : s₁.heap.objs.size + 1 < h'.objs.size := by rw [hsz]; exact Nat.lt_succ_self _
  have hz0 : s₁.heap.objs.size < h'.objs.size := Nat.lt_of_succ_lt hz1
  have hz2 : ea < h'.objs.size := Nat.lt_trans hlt hz0
  clear hsz
  generalize s₁.heap.objs.size + 1 = e at *
  generalize s₁.heap.objs.size = it at *
  refine ⟨e, _, _, its.toArray.size, _, _, _, [("script", .ref la)], (fun n ys els => els = [] ∧ ∃ ms : List Int, ms.length = n ∧ IntsAre ys ms), ⟨rfl, WalksT.enumerate hA e it ea hne hl1 hl0 its.toArray, hA, R₁.kp.trans k₁, ⟨⟨_, he⟩, hit, ⟨_, kk _ _ hEa, rfl, 0, rfl⟩⟩, ?_, ?_, ?_, ?_, ?_, ?_, ?_, rfl, rfl, ?_, ⟨rfl, [], rfl, .nil⟩, ?_⟩, ?_⟩
  · intro c hc
    simp only [List.mem_cons, List.not_mem_nil, or_false] at hc
    rcases hc with rfl | rfl | rfl
    · exact hz1
    · exact hz0
    · exact hz2
  · intro c hc
    simp only [List.mem_cons, List.not_mem_nil, or_false] at hc
    rcases hc with rfl | rfl
    · exact R₁.kp.none n1
    · exact R₁.kp.none n0
  · rintro i h ⟨⟨_, a1⟩, ⟨_, a2, _⟩, -⟩ c hc
    simp only [List.mem_cons, List.not_mem_nil, or_false] at hc
    rcases hc with rfl | rfl
    · exact ⟨_, a1⟩
    · exact ⟨_, a2⟩
  · rw [List.size_toArray, hil]; decide
  · exact fun C => ⟨⟨rfl, rfl, ⟨_, rfl⟩, rfl⟩, trivial⟩
  · exact fun C => rfl
  · exact fun C => rfl
  · rintro i vals ⟨t, x, -, rfl⟩
    exact ⟨_, _, rfl⟩
  · rintro C i kv nv ys els s₂ E₂ hi ⟨tk, x, hx, hab⟩ ⟨rfl, ms, hml, hys⟩ kp₂ - R₂
    have hab := congrArg Array.toList hab
    have ea' : kv = .int (i : Nat) tk := by simpa using congrArg (·.head?) hab
    have eb' : nv = x := by simpa using congrArg (·.getLast?) hab
    obtain ⟨tn, htn⟩ := IntsAre.int_at hii i x (by simpa using hx)
    subst ea' eb' htn
    obtain ⟨ol, hol, hrl⟩ := hl
    have hls : s₂.heap.IsList la sv.toArray := ⟨ol, kp₂.get (S.old hol), hrl⟩
    refine wpAny_tests_nil ?_
    rw [if_pos rfl]
    clear R
    walk_at "ww"
    refine slice_L3 (s := { s₂ with toks := s₂.toks + 1 }) (st := some 7) (R₂.tok _) hls (.int _ _) .none (.int _ _) (by decide) (by omega) fun aS s₃ R₃ => ?_
    have hpick := hsv.pick (some ((i : Nat) : Int)) none (some 7)
    generalize (slicePick sv.toArray (some ((i : Nat) : Int)) none (some 7)).toList = pv at R₃ hpick
    generalize pickNums ns (some ((i : Nat) : Int)) none (some 7) = pn at hpick
    clear R₂
    walk_at "ww"
    refine sum_S R₃ hA (isList_of (R₃.at (.head _))) hpick fun t s₄ R₄ => ?_
    clear R₃
    walk_at "ww"
    exact ⟨[], (R₄.drop (List.nil_sublist _)).any rfl, rfl, ms ++ [_], by simp [hml], IntsAre.app hys (.cons _ _ .nil)⟩
  · rintro D k ys els s₂ ⟨rfl, ms, hml, hys⟩ S₂
    rw [List.size_toArray, hil] at hml
    exact h D ys k ms s₂ hys hml (S₂.sub ⟨rfl, rfl, trivial⟩)
end
section
--LINES
local macro_rules | `(tactic| walk_at "eval Name") => `(tactic| first
  | refine Rd.Nm (Rd.any (by assumption) (by rfl)) (by rfl) ?_
  | refine Rd.Gb (Rd.any (by assumption) (by rfl)) (by rfl) (by rfl) ?_
  | refine Rd.Bl (Rd.any (by assumption) (by rfl)) (by decide) (by first | exact boot_len | exact boot_range | exact boot_sum | exact boot_sorted | exact boot_enumerate | exact boot_zip | exact PyProof.Rows.boot_set | exact PyProof.Rows.boot_type | exact PyProof.Rows.boot_list | exact PyProof.Rows.boot_str) (by rfl) ?_)
local macro_rules | `(tactic| walk_at "side") => `(tactic| (refine ⟨rfl, rfl, by decide, ?_, ?_, fun C => .inl rfl, rfl⟩; ((repeat (refine And.intro ⟨⟨_, rfl⟩, rfl, rfl⟩ ?_)); exact trivial); (intro C; (repeat (refine And.intro ⟨rfl, rfl, ⟨_, rfl⟩, rfl⟩ ?_)); exact trivial)))
local macro_rules | `(tactic| walk_at "newTuple") => `(tactic| (refine newTuple_R (Rd.any (by assumption) (by rfl)) ?_ (by simp [sizeLine]); intro a s' R))
local macro_rules | `(tactic| walk_at "newList") => `(tactic| (refine newList_R (Rd.any (by assumption) (by rfl)) ?_ (by simp [sizeLine]); intro a s' R))
local macro_rules | `(tactic| walk_at "w") => `(tactic| (walk1; try dsimp only))
local macro_rules | `(tactic| walk_at "ww") => `(tactic| repeat ((with_reducible show wpAny _ _ _ _ _ _); walk_at "w"))
local macro_rules | `(tactic| walk_at "callWith ref") => `(tactic| refine callWith_K (Rd.gl' (by assumption)).k (by rfl) ?_)
--ENDLINES
/-! ## law: parts, rules, way, half -/
theorem cov_or : ∀ a b c : Fin 16, ∀ d : Fin 4, (a.val.testBit d.val || b.val.testBit d.val || (c.val ||| (15 - (a.val ||| b.val))).testBit d.val) = true := by decide +kernel
theorem parted_of {a b c : Nat} (ha : a ≤ 15) (hb : b ≤ 15) (hc : c ≤ 15) : Parted [a, b, c ||| (15 - (a ||| b))] := by
  refine ⟨rfl, fun d hd => ?_⟩
  have := cov_or ⟨a, by omega⟩ ⟨b, by omega⟩ ⟨c, by omega⟩ ⟨d, hd⟩
  simp only [Bool.or_eq_true] at this
  rcases this with (h | h) | h
  · exact ⟨0, by decide, h⟩
  · exact ⟨1, by decide, h⟩
  · exact ⟨2, by decide, h⟩
theorem RulesIn.add {led els : LL} {vs : List Value} {rl : List (Nat × Nat)} {T : Addr} {a b : Nat} {t u : Tok} (P : RulesIn led vs rl) (hT : (T, tupO [Value.int (a : Nat) t, Value.int (b : Nat) u]) ∈ els) : RulesIn (els ++ led) (vs ++ [.ref T]) (rl ++ [(a, b)]) := by
  refine ⟨by simp [P.1], fun i d e => ?_⟩
  rcases Nat.lt_trichotomy i rl.length with q | q | q
  · rw [List.getElem?_append_left q] at e
    obtain ⟨T', t', u', a, b⟩ := P.2 i d e
    exact ⟨T', t', u', by rw [List.getElem?_append_left (by rw [P.1]; exact q)]; exact a, List.mem_append_right _ b⟩
  · subst q
    simp at e
    subst e
    exact ⟨T, t, u, by rw [← P.1]; simp, List.mem_append_left _ hT⟩
  · rw [List.getElem?_eq_none (by simp; omega)] at e; cases e
theorem ints_take {vs : List Value} {ms : List Int} (h : IntsAre vs ms) (n : Nat) : IntsAre (vs.take n) (ms.take n) := by
  induction h generalizing n with
  | nil => simp; exact .nil
  | cons y t r ih =>
    cases n with
    | zero => exact .nil
    | succ n => exact .cons y t (ih n)
theorem ints_drop {vs : List Value} {ms : List Int} (h : IntsAre vs ms) (n : Nat) : IntsAre (vs.drop n) (ms.drop n) := by
  induction h generalizing n with
  | nil => simp; exact .nil
  | cons y t r ih =>
    cases n with
    | zero => exact .cons y t r
    | succ n => exact ih n
set_option maxHeartbeats 8000000 in
theorem law1b {w : World} {s₀ s : Shared} {A : Around} {E : Value → Shared → Prop} {Q : Flow → Shared → Prop} {pm cd doc dV kV : Value} {L a la na : Addr} {nv : List Value} {ms : List Int} {n : Nat}
    (S : St w s₀ (lawE pm cd doc dV kV L a) [("script", .ref la), ("nums", .ref na)] [(na, listO nv n)] s) (hL : s₀.heap.objs.size ≤ L) (hA : Rm 3 A) (hnv : IntsAre nv ms) (hm : ms.length = 7) (hQ : LawQ s₀ Q) :
    wpAny (MM w) A (execs (lawB 1) (lawE pm cd doc dV kV L a)) Q E s := by
  have hnl : nv.length = 7 := by rw [hnv.length, hm]
  have hna := S.at (.head _)
  refine wpAny_execs_cons ?_
  refine compListA (vs := nv.take 3) (cl := []) hA.hh S [] (fun i ys els => els = [] ∧ ∃ sh : List Nat, sh.length = i ∧ NatsAre ys sh ∧ ∀ x ∈ sh, x ≤ 15) (by walk_at "side") (by rw [List.length_take]; omega) (fun _ => rfl) rfl rfl ?_ ⟨rfl, [], rfl, .nil, fun _ h => nomatch h⟩ ?_ ?_
  · have R := S.rd
    walk_at "ww"
    refine slice_L (s := { s with toks := s.toks + 1 }) (R.tok _) (isList_of hna) .none (.int _ _) (by omega) fun a₁ s₁ R₁ => ?_
    rw [show slicePick nv.toArray none (some 3) none = (nv.take 3).toArray from slicePick_upto' nv.toArray 3, List.toList_toArray] at R₁
    exact ⟨a₁, rfl, R₁.kp, isList_of (R₁.at (.head _))⟩
  · rintro C i v hvi ys els s₁ E' ⟨rfl, sh, hsl, hys, hsh⟩ kp - R₁
    have hti := ints_take hnv 3
    obtain ⟨t, rfl⟩ := IntsAre.int_at hti i v hvi
    generalize (ms.take 3).getD i 0 = m at R₁
    have hmod := Int.fmod_eq_emod_of_nonneg m (show (0 : Int) ≤ 15 by decide)
    obtain ⟨x, hx, hx2⟩ : ∃ x : Nat, 1 + m.fmod 15 = (x : Int) ∧ x ≤ 15 := ⟨(1 + m.fmod 15).toNat, by omega, by omega⟩
    refine wpAny_tests_nil ?_
    rw [if_pos rfl]
    walk_at "ww"
    rw [hx]
    refine ⟨[], R₁.any rfl, rfl, sh ++ [x], by simp [hsl], ?_, fun y hy => ?_⟩
    · rw [NatsAre, List.map_append]; exact IntsAre.app hys (.cons _ _ .nil)
    · rcases List.mem_append.mp hy with q | q
      · exact hsh y q
      · rw [List.mem_singleton.mp q]; exact hx2
  · rintro ha hv hk els s₁ ⟨rfl, sh, hsl, hsv, hsh⟩ S₁
    have hsl : sh.length = 3 := by rw [hsl, List.length_take]; omega
    obtain ⟨pa0, pb0, pc0, rfl⟩ : ∃ x y z, sh = [x, y, z] := by
      match sh, hsl with
      | [x, y, z], _ => exact ⟨x, y, z, rfl⟩
    have h0 := hsh pa0 (by simp)
    have h1 := hsh pb0 (by simp)
    have h2 := hsh pc0 (by simp)
    clear S hna
    have R := S₁.rd
    have hs := S₁.at (.head _)
    obtain ⟨t0, ht0⟩ := NatsAre.at hsv (i := 0) (y := pa0) rfl
    obtain ⟨t1, ht1⟩ := NatsAre.at hsv (i := 1) (y := pb0) rfl
    obtain ⟨t2, ht2⟩ := NatsAre.at hsv (i := 2) (y := pc0) rfl
    refine wpAny_execs_cons (wpAny_Assign_Name ?_)
    walk_at "ww"
    refine item_LI (k := 0) (isList_of hs) (by decide) ht0 ?_
    walk_at "ww"
    refine item_LI (k := 1) (isList_of hs) (by decide) ht1 ?_
    walk_at "ww"
    refine item_LI (k := 2) (isList_of hs) (by decide) ht2 ?_
    walk_at "ww"
    refine item_LI (k := 0) (isList_of hs) (by decide) ht0 ?_
    walk_at "ww"
    refine item_LI (k := 1) (isList_of hs) (by decide) ht1 ?_
    walk_at "ww"
    rename_i pa s₂ R₂
    have e3 : Builtin.bitOr (pc0 : Int) (15 - Builtin.bitOr (pa0 : Int) (pb0 : Int)) = ((pc0 ||| (15 - (pa0 ||| pb0)) : Nat) : Int) := by
      have : pa0 ||| pb0 ≤ 15 := Nat.le_of_lt_succ (or_lt16 (Nat.lt_succ_of_le h0) (Nat.lt_succ_of_le h1))
      rw [bitOr_nat, show (15 : Int) - ((pa0 ||| pb0 : Nat) : Int) = ((15 - (pa0 ||| pb0) : Nat) : Int) by omega, bitOr_nat]
    rw [e3] at R₂
    generalize hpvv : ([.int (pa0 : Nat) t0, .int (pb0 : Nat) t1, .int ((pc0 ||| (15 - (pa0 ||| pb0)) : Nat) : Int) _] : List Value) = pv at R₂
    have hpv : NatsAre pv [pa0, pb0, pc0 ||| (15 - (pa0 ||| pb0))] := by rw [← hpvv]; exact .cons _ _ (.cons _ _ (.cons _ _ .nil))
    clear hpvv e3
    have P := parted_of h0 h1 h2
    generalize ([pa0, pb0, pc0 ||| (15 - (pa0 ||| pb0))] : List Nat) = ps at hpv P
    refine (S₁.back R₂).store (.inr ⟨rfl, L + 2, rfl, none_ge (Nat.le_trans hL (Nat.le_add_right _ 2))⟩) fun s₃ S₃ => ?_
    clear R R₂ S₁ hs
    have S₃ := S₃.cut (V' := [("nums", .ref na), ("parts", .ref pa)]) (led' := [(pa, listO pv 0), (na, listO nv n)]) ⟨rfl, rfl, trivial⟩ (by simp)
    have hna := S₃.at (.tail _ (.head _))
    refine wpAny_execs_cons ?_
    refine compListA (vs := (nv.drop 3).take 3) (cl := []) hA.hh S₃ [] (fun i ys els => ∃ rl : List (Nat × Nat), rl.length = i ∧ RulesIn els ys rl ∧ ∀ p ∈ rl, p.1 < 16 ∧ p.2 < 4) (by walk_at "side") (by rw [List.length_take]; omega) (fun _ => rfl) rfl rfl ?_ ⟨[], rfl, ⟨rfl, fun i p e => by simp at e⟩, fun _ h => nomatch h⟩ ?_ ?_
    · have R := S₃.rd
      walk_at "ww"
      refine slice_L (s := { s₃ with toks := s₃.toks + 1 + 1 }) (R.tok _) (isList_of hna) (.int _ _) (.int _ _) (by omega) fun a₁ s₄ R₁ => ?_
      rw [show slicePick nv.toArray (some 3) (some 6) none = ((nv.drop 3).take 3).toArray from slicePick_run nv.toArray 3 6 (by rw [List.size_toArray, hnl]; decide) (by decide), List.toList_toArray] at R₁
      exact ⟨a₁, rfl, R₁.kp, isList_of (R₁.at (.head _))⟩
    · rintro C i v hvi ys els s₄ E' ⟨rl, hrl, hru, hrb⟩ kp - R₁
      have hti := ints_take (ints_drop hnv 3) 3
      obtain ⟨t, rfl⟩ := IntsAre.int_at hti i v hvi
      generalize ((ms.drop 3).take 3).getD i 0 = m at R₁
      refine wpAny_tests_nil ?_
      rw [if_pos rfl]
      walk_at "ww"
      refine ⟨R₁.gl'.k, ?_⟩
      refine rule_ok R₁.gl' (hA.less (by decide)) fun s₅ ra need goal u1 u2 k₅ hr hr0 hneed hgoal => ?_
      have R₅ := R₁.add k₅ hr0 hr
      refine ⟨[(ra, _)], R₅, rl ++ [(need, goal)], by simp [hrl], hru.add (.head _), fun p hp => ?_⟩
      rcases List.mem_append.mp hp with q | q
      · exact hrb p q
      · rw [List.mem_singleton.mp q]; exact ⟨hneed, hgoal⟩
    · rintro ua uk uv els s₄ ⟨rl, hrl, hru, hrb⟩ S₄
      clear S₃ hna
      generalize hled : ((ua, listO uv uk) :: els ++ [(pa, listO pv 0), (na, listO nv n)] : LL) = led at S₄
      have mU : (ua, listO uv uk) ∈ led := by rw [← hled]; simp
      have mP : (pa, listO pv 0) ∈ led := by rw [← hled]; simp
      have mN : (na, listO nv n) ∈ led := by rw [← hled]; simp
      have hru : RulesIn led uv rl := ⟨hru.1, fun i c e => by
        obtain ⟨T, t, u, x1, x2⟩ := hru.2 i c e
        exact ⟨T, t, u, x1, by rw [← hled]; simp [x2]⟩⟩
      clear hled hrl
      obtain ⟨m6, hm6⟩ : ∃ m, ms[6]? = some m := ⟨ms[6], List.getElem?_eq_getElem (by omega)⟩
      obtain ⟨t6, ht6⟩ := IntsAre.at hnv hm6
      have R := S₄.rd
      refine wpAny_execs_cons (wpAny_Assign_Name ?_)
      walk_at "ww"
      refine item_LI (k := 6) (isList_of (S₄.at mN)) (by decide) ht6 ?_
      walk_at "ww"
      have hmod := Int.fmod_eq_emod_of_nonneg m6 (show (0 : Int) ≤ 2 by decide)
      have hway : 1 - 2 * m6.fmod 2 = 1 ∨ 1 - 2 * m6.fmod 2 = -1 := by omega
      refine (S₄.keeps (Kp.tok _ _)).store (.inl rfl) fun s₅ S₅ => ?_
      clear R S₄
      have R := S₅.rd
      refine wpAny_execs_cons (wpAny_Assign_Name ?_)
      walk_at "ww"
      refine item_LI (k := 6) (isList_of (S₅.at mN)) (by decide) ht6 ?_
      walk_at "ww"
      refine (S₅.keeps (Kp.tok _ _)).store (.inr ⟨rfl, L + 3, rfl, none_ge (Nat.le_trans hL (Nat.le_add_right _ 3))⟩) fun s₆ S₆ => ?_
      exact law2 (S₆.sub ⟨rfl, rfl, rfl, rfl, trivial⟩) hA mP mU hpv hru hrb hway P hQ
end
section
/-! ## law is called -/
set_option maxHeartbeats 4000000 in
theorem law_ok {w : World} {s : Shared} {A : Around} {Q E : Value → Shared → Prop} {pm cd doc : Value} {a la : Addr} {o : Obj} {sv : List Value} {ns : List Int} (G : Gl w s.heap) (hA : Rm 4 A) (ho : s.heap.get? a = some o) (hd : o.data = .func (fdL pm cd doc .none .none)) (hcd : s.heap.CodeRec cd "law")
    (hl : s.heap.IsList la sv.toArray) (hsv : IntsAre sv ns) (hn : sv.length ≤ 63) (hQ : ∀ s' d, Kp { s with drawn := d } s' → Q (.bool true) s') :
    wpAny (MM w) A (call (.ref a) [.ref la]) Q E s := by
  refine wpAny_call ?_
  refine codeAny_call_function hA.room ho hd rfl rfl (show (fdL pm cd doc .none .none).body = .stmts (lawB 0) from rfl) hcd ((BindsTo.of_eq (binds := [("script", .ref la)]) rfl) _ _ _ _ ?_)
  rw [show (fdL pm cd doc .none .none).closure = [] from rfl]
  refine wpAny_newFunctionEnv_cells rfl ?_ fun env he s' x => ?_
  · intro x hx
    rw [List.mem_singleton] at hx; subst hx
    exact .inr ⟨rfl, rfl⟩
  · subst he
    refine ⟨G.lim.keeps x.toInCall.keep, codeAny_func ?_⟩
    have S : St w s (lawE pm cd doc .none .none s.heap.objs.size a) [("script", .ref la)] [] s' :=
      ⟨rfl, rfl, rfl, G, (let ⟨h, t, e, k⟩ := x.done; ⟨h, t, e, k⟩), none_at s.heap, ⟨_, _, x.toInCall.ns, x.cell, fun y v e => by
        have : AllV (VarOk (lawE pm cd doc .none .none s.heap.objs.size a) (bindL (lawE pm cd doc .none .none s.heap.objs.size a).kindOf [("script", .ref la)] fun _ => none) (bindC (lawE pm cd doc .none .none s.heap.objs.size a).kindOf [("script", .ref la)] fun _ => none)) [("script", .ref la)] := ⟨.inr ⟨rfl, rfl, rfl⟩, trivial⟩
        exact this.mem (y, v) (lookup_mem e)⟩, fun p q c hp hq _ => name_of_addr x.apart (mem_of_lookup hp) (mem_of_lookup hq), fun _ hp => (nomatch hp), List.nodup_nil⟩
    have hA' := hA.deeper (lawE pm cd doc .none .none s.heap.objs.size a)
    refine wpAny_mono (law1a (Q := fun fl s' => Q (match fl with | .ret v => v | _ => .none) s') (E := fun _ _ => False) S hA'.hh hl hsv hn fun na nv n ms s₁ hnv hm S₁ => law1b S₁ (Nat.le_refl _) hA' hnv hm fun s' d k => hQ s' d k) (fun _ _ z => z) fun _ _ z => z.elim
end
section
def YP (w : World) (h : Heap) : Prop := (KK w.params).In h ∧ (∀ p ∈ kCodes, h.CodeRec (.ref p.1) p.2) ∧
  ∃ o es ep, h.get? mainGlobals = some o ∧ o.data = .dict es ep ∧ (∀ p ∈ kGlobs, nsFind es p.1 = some (.ref p.2)) ∧ ∀ x ∈ kFree, nsFind es x = none
theorem code_of {h : Heap} {c : Addr} {q : Str} (e : codeSeen h c = some q) : h.CodeRec (.ref c) q := by
  unfold codeSeen at e
  split at e
  · rename_i cls dict vs slots ho
    split at e
    · rename_i a t rest q' hv
      cases e
      refine ⟨c, _, vs, rest, rfl, ho, rfl, ?_⟩
      rw [← Array.getElem?_toList, hv]; rfl
    · cases e
  · cases e
theorem map_eq_mem {α β : Type} {f g : α → β} : ∀ {l : List α}, l.map f = l.map g → ∀ x ∈ l, f x = g x
  | _ :: _, e, x, h => by
    simp only [List.map_cons, List.cons.injEq] at e
    rcases List.mem_cons.mp h with rfl | h
    · exact e.1
    · exact map_eq_mem e.2 x h
theorem yp_of (w : World) (s : Shared) (e : obsH s = valH w) : YP w s.heap := by
  unfold obsH valH at e
  obtain ⟨e1, e2, e3, e4⟩ := Seen.mk.inj e
  refine ⟨Frag.in_of (K := KK w.params) (as := kAs) (by rfl) e1, fun p hp => code_of (map_eq_mem e2 p hp), ?_⟩
  have e3 := map_eq_mem e3
  have e4 := map_eq_mem e4
  have h0 := e3 ("TupleComp", 62) (by decide)
  unfold Heap.nsMap at e3 e4 h0
  cases ho : s.heap.get? mainGlobals with
  | none => rw [ho] at h0; cases h0
  | some o =>
    rw [ho] at h0 e3 e4
    dsimp only at h0 e3 e4
    cases hd : o.data with
    | dict es ep =>
      rw [hd] at e3 e4
      exact ⟨o, es, ep, rfl, hd, e3, e4⟩
    | _ => rw [hd] at h0; cases h0
theorem yp_keeps (w : World) (h h' : Heap) (Y : YP w h) (k : ∀ b o, h.get? b = some o → h'.get? b = some o) : YP w h' :=
  let ⟨o, es, ep, a, b, c, d⟩ := Y.2.2
  ⟨Y.1.keeps k, fun p hp => (Y.2.1 p hp).keeps k, o, es, ep, k _ _ a, b, c, d⟩
theorem gl_of {w : World} {h : Heap} {mg mb : Str → Option Value} {loose : List Str} {p : Program} {mean : ExcName → Option Value} (Y : YP w h) (T : Top p loose mean mg mb h) : Gl w h where
  k := Y.1
  code := Y.2.1
  g := by
    obtain ⟨o, es, ep, a, b, c, d⟩ := Y.2.2
    obtain ⟨o', es', ep', a', b', sk, e⟩ := T.g
    rw [a] at a'; cases a'
    rw [b] at b'; cases b'
    exact ⟨mg, T.g, fun p hp => by rw [← e]; exact c p hp, fun x hx => by rw [← e]; exact d x hx⟩
  b := ⟨mb, T.b, T.builtins⟩
  lim := T.nolimit
set_option maxHeartbeats 0 in
theorem fin : PySem.Challenge.rw_qj0001_01.Holds := by
  w_on
  refine holds_law (by kernel_rfl) fun said => ?_
  refine holds_open (q := vw) (loose := lo) (Xt := fun s => xlAt vw [] s && recOk [] s) (XP := XL vw []) (Yf := obsH) (Ya := valH) (YP := YP) (N := 3162) left1 yp_of yp_keeps (fun s e => xl_of s (Bool.and_eq_true_iff.mp e).1) XL.keeps (by rfl) (by rfl) (by rfl) (fun s e => recFacts_of (Bool.and_eq_true_iff.mp e).2) (by rfl) (by first | assumption | decide +kernel) (by decide +kernel) ⟨rfl, rfl, rfl, rfl, rfl, by decide +kernel⟩ ?hw ?hc
  case hw => exact ⟨[.list [.int 3, .int 1]], by decide +kernel, by decide +kernel⟩
  case hc =>
    intro w s₀ s₁ mg mb G Y fa o pm cd doc dV kV ho hd hcd hD hmg hg args vals as hpre hlay hrd hwl hlo
    have GL := gl_of Y G.T
    have he := Dflts.none hD rfl
    subst he
    have he := Dflts.noKw hD
    subst he
    have hd' : o.data = .func (fdL pm cd doc .none .none) := hd
    have hcd' : s₁.heap.CodeRec cd "law" := hcd
    clear Y G hD hmg hd hcd
    wrow_args hpre hlay hrd hwl hlo
    rename Heap.IsList _ _ _ => hL
    rename IntsAre _ _ => hI
    rename ¬ _ < _ => hC
    refine law_ok GL ⟨rfl, by decide, by decide⟩ ho hd' hcd' hL hI (by rw [hI.length]; omega) fun s' d k => ?_
    obtain ⟨h', t', rfl, kk⟩ := k
    refine GoodW.toG ⟨.inl ⟨.bool true, .bool true, [], rfl, fun _ => rfl, .bool true, ?_, unshared_nil⟩, kk, rfl, hg⟩
    refine postW_of (by wrow_shape) (by wtm_val) rfl
end
end Mine
theorem PySem.Challenge.cw_qj0001_01_holds : PySem.Challenge.rw_qj0001_01.Holds := by
  exact Mine.fin
