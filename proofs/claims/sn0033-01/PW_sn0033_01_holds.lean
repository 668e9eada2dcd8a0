import PyProof.Rows.All
import Wide.All
import OpenK.KMore
import OpenK.KMake
import OpenK.KCls
import OpenK.KCall
import Open.Boot
import Open.Line
import Open.FastRun
import Open.FastT9
import Wide.FinOn
import KE.BitLaws
import PySem.Challenge.RW_sn0033_01
open PySem PySem.Calls PyProof.Rows PySem.W
set_option Elab.async false
set_option linter.unusedVariables false
set_option linter.unusedSimpArgs false
namespace Mine
/-! ## the objects that the law's run meets, told from the program's own lines -/
noncomputable def hTop (i : Nat) : Option Stmt := PySem.Challenge.pw_sn0033_01.main.body[i]?
/-- the i-th line of the class -/
noncomputable def hCls (i : Nat) : Option Stmt := match hTop 2 with
  | some (.ClassDef _ _ _ body ..) => body[i]?
  | _ => none
/-- the object of a def -/
noncomputable def hFn (st : Option Stmt) (qual : PySem.Str) (dfl kwd md : Value) (code : Addr) : Obj := match st with
  | some (.FunctionDef name args body _ _ _ scope ..) =>
    { cls := .type "function", data := .func { name := name, qualname := qual, params := args, body := .stmts body, scope := scope, globals := 3, closure := [], defaults := dfl, kwdefaults := kwd, pyModule := md, code := .ref code } }
  | _ => { cls := .none }
/-- the object of a def's code: its texts stand at the tokens t, t + 1, t + 2 and u, u + 1; its tuples begin at r -/
def hCode (name qual : PySem.Str) (t u : Tok) (line argc kwonly : Int) (r : Addr) (vars cells : Value) (last : Addr) : Obj :=
  { cls := .type "code", data := .fields #[.str name t, .str qual (t + 1), .str "/claim/cut.py" (t + 2), .int line 0, .int argc 0, .int 0 0, .int kwonly 0, .int 3 0, .ref r, .bool true, .int 181 0, .ref (r + 1), .none, vars, cells, .ref last, .int u 0, .int line 0, .str "/claim/cut.py" (u + 1)] }
def hEnt (P : Params) (k : PySem.Str) (t : Tok) (v : Value) : DictEntry := ⟨PyData.keyHash P k, .str k t, v⟩
def hFlag (k : Int) (t : Tok) (x : PySem.Str) : DictEntry := ⟨k, .int k t, .str x (t + 1)⟩
noncomputable def lawK (P : Params) : Frag := [
  (2, { cls := .none, data := .dict #[] }),
  (3, { cls := .type "dict", data := .dict #[hEnt P "__name__" 165 (.str "law_sn0033_01" 369), hEnt P "__doc__" 166 .none, hEnt P "__package__" 167 .none, hEnt P "__loader__" 168 (.builtin "__main__.__loader__#opaque"), hEnt P "__spec__" 169 .none, hEnt P "__annotations__" 170 (.ref 6), hEnt P "__builtins__" 171 (.ref 4), hEnt P "__file__" 173 (.str "/claim/cut.py" 172), hEnt P "__cached__" 174 .none,
    hEnt P "_wall" 193 (.ref 21), hEnt P "Whitespace" 296 (.ref 83), hEnt P "insort_left" 311 (.ref 96), hEnt P "bisect_left" 325 (.ref 105), hEnt P "COMPILER_FLAG_NAMES" 358 (.ref 106), hEnt P "pretty_flags" 368 (.ref 113), hEnt P "_law_word" 377 (.ref 120), hEnt P "_law_orders" 393 (.ref 127), hEnt P "law" 399 (.ref 132)] 18 }),
  (37, hCode "__init__" "Whitespace.__init__" 213 225 8 2 0 32 (.ref 34) (.ref 35) 36),
  (38, hFn (hCls 1) "Whitespace.__init__" .none .none (.str "cpy313.tabnanny" 194) 37),
  (44, hCode "longest_run_of_spaces" "Whitespace.longest_run_of_spaces" 228 234 31 1 0 39 (.ref 41) (.ref 42) 43),
  (45, hFn (hCls 2) "Whitespace.longest_run_of_spaces" .none .none (.str "cpy313.tabnanny" 194) 44),
  (51, hCode "indent_level" "Whitespace.indent_level" 237 246 35 2 0 46 (.ref 48) (.ref 49) 50),
  (52, hFn (hCls 3) "Whitespace.indent_level" .none .none (.str "cpy313.tabnanny" 194) 51),
  (65, hCode "not_equal_witness" "Whitespace.not_equal_witness" 257 265 45 2 0 60 (.ref 62) (.ref 63) 64),
  (66, hFn (hCls 5) "Whitespace.not_equal_witness" .none .none (.str "cpy313.tabnanny" 194) 65),
  (82, { cls := .type "dict", data := .dict #[hEnt P "__module__" 203 (.str "cpy313.tabnanny" 194), hEnt P "__firstlineno__" 207 (.int 5 206), hEnt P "S" 211 (.str " " 209), hEnt P "T" 212 (.str "\t" 210), hEnt P "__init__" 227 (.ref 38), hEnt P "longest_run_of_spaces" 236 (.ref 45), hEnt P "indent_level" 248 (.ref 52), hEnt P "equal" 256 (.ref 59),
    hEnt P "not_equal_witness" 267 (.ref 66), hEnt P "less" 275 (.ref 73), hEnt P "not_less_witness" 283 (.ref 80), hEnt P "__static_attributes__" 289 (.ref 81), hEnt P "__dict__" 291 (.ref 84), hEnt P "__weakref__" 293 (.ref 85), hEnt P "__doc__" 294 .none] 4 }),
  (83, { cls := .type "type", data := .cls { name := "Whitespace", bases := [.type "object"], mro := [.ref 83, .type "object"], ns := 82, qualname := "Whitespace" }, slots := #[none, none, some (.str "Whitespace" 196), some (.str "Whitespace" 204), some (.builtin "object.__new__"), some (.bool true)] }),
  (88, { cls := .type "tuple", data := .seq #[.int 0 299, .none] }),
  (89, { cls := .type "dict", data := .dict #[hEnt P "key" 300 .none] 1 }),
  (95, hCode "insort_left" "insort_left" 301 309 59 4 1 90 (.ref 92) (.ref 93) 94),
  (96, hFn (hTop 4) "insort_left" (.ref 88) (.ref 89) (.str "cpy313.bisect" 297) 95),
  (97, { cls := .type "tuple", data := .seq #[.int 0 312, .none] }),
  (98, { cls := .type "dict", data := .dict #[hEnt P "key" 313 .none] 1 }),
  (104, hCode "bisect_left" "bisect_left" 314 323 65 4 1 99 (.ref 101) (.ref 102) 103),
  (105, hFn (hTop 5) "bisect_left" (.ref 97) (.ref 98) (.str "cpy313.bisect" 297) 104),
  (106, { cls := .type "dict", data := .dict #[hFlag 1 328 "OPTIMIZED", hFlag 2 330 "NEWLOCALS", hFlag 4 332 "VARARGS", hFlag 8 334 "VARKEYWORDS", hFlag 16 336 "NESTED", hFlag 32 338 "GENERATOR", hFlag 64 340 "NOFREE", hFlag 128 342 "COROUTINE", hFlag 256 344 "ITERABLE_COROUTINE", hFlag 512 346 "ASYNC_GENERATOR"] 10 }),
  (112, hCode "pretty_flags" "pretty_flags" 359 366 87 1 0 107 (.ref 109) (.ref 110) 111),
  (113, hFn (hTop 8) "pretty_flags" .none .none (.str "cpy313.dis" 326) 112),
  (119, hCode "_law_word" "_law_word" 371 375 100 1 0 114 (.ref 116) (.ref 117) 118),
  (120, hFn (hTop 10) "_law_word" .none .none (.str "law_sn0033_01" 369) 119),
  (126, hCode "_law_orders" "_law_orders" 378 391 104 3 0 121 (.ref 123) (.ref 124) 125),
  (127, hFn (hTop 11) "_law_orders" .none .none (.str "law_sn0033_01" 369) 126),
  (131, hCode "law" "law" 394 397 119 1 0 128 .none .none 130),
  (132, hFn (hTop 12) "law" .none .none (.str "law_sn0033_01" 369) 131)]
def lawKAt : List Addr := [2, 3, 37, 38, 44, 45, 51, 52, 65, 66, 82, 83, 88, 89, 95, 96, 97, 98, 104, 105, 106, 112, 113, 119, 120, 126, 127, 131, 132]
theorem lawK_at (P : Params) : lawKAt = (lawK P).map (·.1) := rfl
end Mine

namespace Mine

/-! ## the abstract data -/
inductive DV where
  | none
  | bool (b : Bool)
  | int (i : Int)
  | str (s : PySem.Str)
  | list (xs : List DV)
  | tup (xs : List DV)
  | idict (kvs : List (Int × Int))

inductive AV where
  | dat (d : DV)
  | ref (i : Nat)
  | inst (fs : List (PySem.Str × DV))
  | slf
  | con (v : Value)
  | rng (a b : Int)

inductive AObj where
  | list (xs : List DV)
  | dict (kvs : List (Int × Int))
  | dead

def AObj.live : AObj → Bool
  | .dead => false
  | _ => true

structure AS where
  vars : List (PySem.Str × AV)
  heap : List AObj
  slf : List (PySem.Str × DV) := []

inductive IntVals : List (Int × Value) → List (Int × Int) → Prop
  | nil : IntVals [] []
  | cons (k n : Int) (t : Tok) {kvs : List (Int × Value)} {ys : List (Int × Int)} : IntVals kvs ys → IntVals ((k, .int n t) :: kvs) ((k, n) :: ys)

section
variable (prog : Program) (w : World)

mutual
inductive VR (h : Heap) (W : Addr → Prop) : Value → DV → Prop
  | none : VR h W .none .none
  | bool (b : Bool) : VR h W (.bool b) (.bool b)
  | int (i : Int) (t : Tok) : VR h W (.int i t) (.int i)
  | str (x : PySem.Str) (t : Tok) : VR h W (.str x t) (.str x)
  | list {a : Addr} {n : Nat} {vs : Array Value} {xs : List DV} : h.get? a = some { cls := .type "list", data := .seq vs n } → ¬ W a → VRs h W vs.toList xs → VR h W (.ref a) (.list xs)
  | tup {a : Addr} {n : Nat} {vs : Array Value} {xs : List DV} : h.get? a = some { cls := .type "tuple", data := .seq vs n } → ¬ W a → VRs h W vs.toList xs → VR h W (.ref a) (.tup xs)
  | idict {a : Addr} {ep : Nat} {kvs' : List (Int × Value)} {kvs : List (Int × Int)} : h.DictAt (intKind prog w) a kvs' ep → ¬ W a → (a == sysModules) = false → IntVals kvs' kvs → VR h W (.ref a) (.idict kvs)
inductive VRs (h : Heap) (W : Addr → Prop) : List Value → List DV → Prop
  | nil : VRs h W [] []
  | cons {v : Value} {vs : List Value} {d : DV} {ds : List DV} : VR h W v d → VRs h W vs ds → VRs h W (v :: vs) (d :: ds)
end

variable {prog w}
theorem dictAt_at {h h' : Heap} {a : Addr} {kvs : List (Int × Value)} {ep : Nat} (x : h.DictAt (intKind prog w) a kvs ep) (e : ∀ o, h.get? a = some o → h'.get? a = some o) : h'.DictAt (intKind prog w) a kvs ep :=
  let ⟨o, es, ho, r⟩ := x; ⟨o, es, e o ho, r⟩

mutual
theorem VR.ext {h h' : Heap} {W W' : Addr → Prop} (hk : ∀ b o, h.get? b = some o → ¬ W b → h'.get? b = some o ∧ ¬ W' b) : ∀ {v : Value} {d : DV}, VR prog w h W v d → VR prog w h' W' v d
  | _, _, .none => .none
  | _, _, .bool b => .bool b
  | _, _, .int i t => .int i t
  | _, _, .str x t => .str x t
  | _, _, .list ho hw r => .list (hk _ _ ho hw).1 (hk _ _ ho hw).2 (VRs.ext hk r)
  | _, _, .tup ho hw r => .tup (hk _ _ ho hw).1 (hk _ _ ho hw).2 (VRs.ext hk r)
  | _, _, .idict hd hw hs r => .idict (dictAt_at hd fun o e => (hk _ o e hw).1) (let ⟨_, _, ho, _⟩ := hd; (hk _ _ ho hw).2) hs r
theorem VRs.ext {h h' : Heap} {W W' : Addr → Prop} (hk : ∀ b o, h.get? b = some o → ¬ W b → h'.get? b = some o ∧ ¬ W' b) : ∀ {vs : List Value} {ds : List DV}, VRs prog w h W vs ds → VRs prog w h' W' vs ds
  | _, _, .nil => .nil
  | _, _, .cons a r => .cons (VR.ext hk a) (VRs.ext hk r)
end

theorem VRs.length {h : Heap} {W : Addr → Prop} : ∀ {vs : List Value} {ds : List DV}, VRs prog w h W vs ds → vs.length = ds.length
  | _, _, .nil => rfl
  | _, _, .cons _ r => by simp [VRs.length r]
theorem VRs.get {h : Heap} {W : Addr → Prop} : ∀ {vs : List Value} {ds : List DV} (_ : VRs prog w h W vs ds) {i : Nat} {d : DV}, ds[i]? = some d → ∃ v, vs[i]? = some v ∧ VR prog w h W v d
  | _, _, .nil, _, _, e => by simp at e
  | _, _, .cons a r, 0, _, e => by simp at e; subst e; exact ⟨_, rfl, a⟩
  | _, _, .cons a r, i + 1, _, e => by simpa using VRs.get r (by simpa using e)
theorem VRs.get' {h : Heap} {W : Addr → Prop} : ∀ {vs : List Value} {ds : List DV} (_ : VRs prog w h W vs ds) {i : Nat} {v : Value}, vs[i]? = some v → ∃ d, ds[i]? = some d ∧ VR prog w h W v d
  | _, _, .nil, _, _, e => by simp at e
  | _, _, .cons a r, 0, _, e => by simp at e; subst e; exact ⟨_, rfl, a⟩
  | _, _, .cons a r, i + 1, _, e => by simpa using VRs.get' r (by simpa using e)
theorem VRs.append {h : Heap} {W : Addr → Prop} : ∀ {vs vs' : List Value} {ds ds' : List DV}, VRs prog w h W vs ds → VRs prog w h W vs' ds' → VRs prog w h W (vs ++ vs') (ds ++ ds')
  | _, _, _, _, .nil, r => r
  | _, _, _, _, .cons a r, r' => .cons a (VRs.append r r')
theorem VRs.one {h : Heap} {W : Addr → Prop} {v : Value} {d : DV} (x : VR prog w h W v d) : VRs prog w h W [v] [d] := .cons x .nil
theorem VRs.take {h : Heap} {W : Addr → Prop} : ∀ {vs : List Value} {ds : List DV} (_ : VRs prog w h W vs ds) (i : Nat), VRs prog w h W (vs.take i) (ds.take i)
  | _, _, .nil, i => by simp; exact .nil
  | _, _, .cons a r, 0 => .nil
  | _, _, .cons a r, i + 1 => .cons a (VRs.take r i)
theorem VRs.drop {h : Heap} {W : Addr → Prop} : ∀ {vs : List Value} {ds : List DV} (_ : VRs prog w h W vs ds) (i : Nat), VRs prog w h W (vs.drop i) (ds.drop i)
  | _, _, .nil, i => by simp; exact .nil
  | _, _, .cons a r, 0 => .cons a r
  | _, _, .cons a r, i + 1 => VRs.drop r i
theorem VRs.set {h : Heap} {W : Addr → Prop} {v : Value} {d : DV} (x : VR prog w h W v d) : ∀ {vs : List Value} {ds : List DV} (_ : VRs prog w h W vs ds) (i : Nat), VRs prog w h W (vs.set i v) (ds.set i d)
  | _, _, .nil, i => by simp; exact .nil
  | _, _, .cons a r, 0 => .cons x r
  | _, _, .cons a r, i + 1 => .cons a (VRs.set x r i)
theorem VRs.ints {h : Heap} {W : Addr → Prop} : ∀ {vs : List Value} {ns : List Int}, VRs prog w h W vs (ns.map .int) → IntsAre vs ns
  | [], [], _ => .nil
  | _ :: _, [], x => by cases x
  | [], _ :: _, x => by cases x
  | v :: vs, n :: ns, x => by
    cases x with
    | cons a r => cases a; exact .cons _ _ (VRs.ints r)
theorem VRs.of_ints {h : Heap} {W : Addr → Prop} : ∀ {vs : List Value} {ns : List Int}, IntsAre vs ns → VRs prog w h W vs (ns.map .int)
  | _, _, .nil => .nil
  | _, _, .cons n t r => .cons (.int n t) (VRs.of_ints r)
end

/-! ## frames -/
structure Fm where
  sc : Scope
  L : Addr
  cl : List (PySem.Str × Addr)
  qual : PySem.Str
  func : Option Addr
  code : Value
  frame : Option Addr
  own : List Addr
  slf : Option (Addr × Addr)
  n₀ : Nat
def Fm.env (F : Fm) : Env := { scope := F.sc, locals := F.L, globals := mainGlobals, cells := F.cl, qual := F.qual, func := F.func, code := F.code, frame := F.frame, builtins := builtinsNs }

def Wr (φ : List Addr) (H : List AObj) (a : Addr) : Prop := ∃ (i : Nat) (o : AObj), φ[i]? = some a ∧ H[i]? = some o ∧ o.live = true

/-- what stands for a class of the program: its address and what the base heap must say of it comes later -/
structure Base where
  prog : Program
  w : World
  B : Heap
  C : Addr
  big : ∃ b o, B.get? b = some o ∧ @LT.lt Nat _ sysModules b

section
variable (G : Base)

inductive FldRel (h : Heap) (W : Addr → Prop) : List DictEntry → List (PySem.Str × DV) → Prop
  | nil : FldRel h W [] []
  | cons {hs : Int} {x : PySem.Str} {t : Tok} {v : Value} {d : DV} {es : List DictEntry} {fs : List (PySem.Str × DV)} : VR G.prog G.w h W v d → FldRel h W es fs → FldRel h W (⟨hs, .str x t, v⟩ :: es) ((x, d) :: fs)

def InstRel (h : Heap) (W : Addr → Prop) (x dx : Addr) (fs : List (PySem.Str × DV)) : Prop :=
  ∃ es n, h.get? x = some (instObj G.C dx) ∧ h.get? dx = some (dictOf es n) ∧ FldRel G h W es fs ∧ es.length ≤ 900

def ORel (h : Heap) (W : Addr → Prop) (a : Addr) : AObj → Prop
  | .list xs => ∃ n vs, h.get? a = some { cls := .type "list", data := .seq vs n } ∧ VRs G.prog G.w h W vs.toList xs
  | .dict kvs => ∃ ep kvs', h.DictAt (intKind G.prog G.w) a kvs' ep ∧ IntVals kvs' kvs
  | .dead => True

def AVR (σ : Option (Addr × Addr)) (φ : List Addr) (h : Heap) (W : Addr → Prop) : AV → Value → Prop
  | .dat d, v => VR G.prog G.w h W v d
  | .ref i, v => ∃ a, φ[i]? = some a ∧ v = .ref a
  | .inst fs, v => ∃ x dx, v = .ref x ∧ InstRel G h W x dx fs ∧ ¬ W x ∧ ¬ W dx
  | .slf, v => ∃ p, σ = some p ∧ v = .ref p.1
  | .con c, v => v = c
  | .rng a b, v => ∃ r t u q, v = .ref r ∧ IsRange h r a b 1 t u q ∧ ¬ W r

inductive AVRs (σ : Option (Addr × Addr)) (φ : List Addr) (h : Heap) (W : Addr → Prop) : List AV → List Value → Prop
  | nil : AVRs σ φ h W [] []
  | cons {x : AV} {v : Value} {xs : List AV} {vs : List Value} : AVR G σ φ h W x v → AVRs σ φ h W xs vs → AVRs σ φ h W (x :: xs) (v :: vs)

structure HRel (P : Addr → Prop) (φ : List Addr) (H : List AObj) (h : Heap) : Prop where
  base : ∀ b o, G.B.get? b = some o → h.get? b = some o
  len : φ.length = H.length
  inj : φ.Nodup
  nP : ∀ a ∈ φ, ¬ P a
  pB : ∀ a, P a → G.B.get? a = none
  φB : ∀ a ∈ φ, G.B.get? a = none ∧ a ≠ sysModules
  ex : ∀ a ∈ φ, ∃ o, h.get? a = some o
  pex : ∀ a, P a → ∃ o, h.get? a = some o
  obj : ∀ (i : Nat) (a : Addr) (o : AObj), φ[i]? = some a → H[i]? = some o → ORel G h (fun b => P b ∨ Wr φ H b) a o

def VarAt (F : Fm) (h : Heap) (m : PySem.Str → Option Value) (x : PySem.Str) (v : Value) : Prop :=
  (F.sc.names.lookup x = some .local ∧ m x = some v) ∨ (F.sc.names.lookup x = some .cell ∧ ∃ c, F.cl.lookup x = some c ∧ h.IsCell c (some v))

def Pv (F : Fm) (prv : Addr → Prop) (a : Addr) : Prop := a ∈ F.own ∨ prv a
def Wf (F : Fm) (prv : Addr → Prop) (φ : List Addr) (H : List AObj) (b : Addr) : Prop := Pv F prv b ∨ Wr φ H b

structure Rel (F : Fm) (prv : Addr → Prop) (φ : List Addr) (a : AS) (h : Heap) : Prop where
  kfun : F.sc.kind = .function
  hr : HRel G (Pv F prv) φ a.heap h
  own_prv : ∀ b ∈ F.own, ¬ prv b
  Lown : F.L ∈ F.own
  cown : ∀ x c, F.cl.lookup x = some c → (∃ v, h.IsCell c v) ∧ c ≠ F.L ∧ Pv F prv c
  cinj : ∀ x y c, F.cl.lookup x = some c → F.cl.lookup y = some c → x = y
  n0 : F.n₀ ≤ φ.length
  vars : ∃ m, h.Ns F.L m ∧ ∀ x v, a.vars.lookup x = some v → ∃ cv, AVR G F.slf φ h (Wf F prv φ a.heap) v cv ∧ VarAt F h m x cv
  slf : ∀ x dx, F.slf = some (x, dx) → x ∈ F.own ∧ dx ∈ F.own ∧ x ≠ dx ∧ x ≠ F.L ∧ dx ≠ F.L ∧ (∀ y c, F.cl.lookup y = some c → c ≠ x ∧ c ≠ dx) ∧ InstRel G h (Wf F prv φ a.heap) x dx a.slf

/-- from one state on: k references stand; what is not writable stands -/
structure Ext (own : List Addr) (k : Nat) (φ : List Addr) (H : List AObj) (h : Heap) (φ' : List Addr) (H' : List AObj) (h' : Heap) : Prop where
  pre : ∀ i : Nat, i < k → φ'[i]? = φ[i]?
  step : ∀ b o, h.get? b = some o → b ∉ own → ¬ Wr φ H b → h'.get? b = some o
  ex : ∀ b o, h.get? b = some o → ∃ o', h'.get? b = some o'
  wr : ∀ a, Wr φ' H' a → Wr φ H a ∨ h.get? a = none

theorem Ext.refl {own : List Addr} {k : Nat} {φ : List Addr} {H : List AObj} {h : Heap} : Ext own k φ H h φ H h :=
  ⟨fun _ _ => rfl, fun _ _ e _ _ => e, fun _ o e => ⟨o, e⟩, fun _ x => .inl x⟩
theorem Ext.trans {own : List Addr} {k k' : Nat} {φ φ' φ'' : List Addr} {H H' H'' : List AObj} {h h' h'' : Heap} (x : Ext own k φ H h φ' H' h') (y : Ext own k' φ' H' h' φ'' H'' h'') (hk : k ≤ k') : Ext own k φ H h φ'' H'' h'' := by
  refine ⟨fun i hi => (y.pre i (Nat.lt_of_lt_of_le hi hk)).trans (x.pre i hi), fun b o e h1 h2 => ?_, fun b o e => ?_, fun a ha => ?_⟩
  · refine y.step b o (x.step b o e h1 h2) h1 fun hw => ?_
    rcases x.wr b hw with hw | hw
    · exact h2 hw
    · rw [e] at hw; cases hw
  · obtain ⟨o', e'⟩ := x.ex b o e
    exact y.ex b o' e'
  · rcases y.wr a ha with ha | ha
    · exact x.wr a ha
    · right
      cases q : h.get? a with
      | none => rfl
      | some o => obtain ⟨o', e'⟩ := x.ex a o q; rw [e'] at ha; cases ha

variable {G}
theorem InstRel.ext {h h' : Heap} {W W' : Addr → Prop} {x dx : Addr} {fs : List (PySem.Str × DV)} (hk : ∀ b o, h.get? b = some o → ¬ W b → h'.get? b = some o ∧ ¬ W' b)
    (hx : ∀ o, h.get? x = some o → h'.get? x = some o) (hd : ∀ o, h.get? dx = some o → h'.get? dx = some o) (I : InstRel G h W x dx fs) : InstRel G h' W' x dx fs := by
  obtain ⟨es, n, h1, h2, h3, h4⟩ := I
  refine ⟨es, n, hx _ h1, hd _ h2, ?_, h4⟩
  clear h1 h2 hx hd h4
  induction h3 with
  | nil => exact .nil
  | cons a _ ih => exact .cons (a.ext hk) ih
theorem AVR.ext {σ : Option (Addr × Addr)} {φ φ' : List Addr} {h h' : Heap} {W W' : Addr → Prop} (hk : ∀ b o, h.get? b = some o → ¬ W b → h'.get? b = some o ∧ ¬ W' b) (hφ : ∀ (i : Nat) (a : Addr), φ[i]? = some a → φ'[i]? = some a) :
    ∀ {x : AV} {v : Value}, AVR G σ φ h W x v → AVR G σ φ' h' W' x v
  | .dat _, _, r => VR.ext hk r
  | .ref _, _, ⟨a, h1, h2⟩ => ⟨a, hφ _ _ h1, h2⟩
  | .inst _, _, ⟨x, dx, h1, h2, h3, h4⟩ => by
    have hx : ∃ o, h.get? x = some o := let ⟨_, _, q, _⟩ := h2; ⟨_, q⟩
    have hd : ∃ o, h.get? dx = some o := let ⟨_, _, _, q, _⟩ := h2; ⟨_, q⟩
    obtain ⟨ox, hx⟩ := hx
    obtain ⟨od, hd⟩ := hd
    exact ⟨x, dx, h1, h2.ext hk (fun o e => (hk x o e h3).1) (fun o e => (hk dx o e h4).1), (hk x ox hx h3).2, (hk dx od hd h4).2⟩
  | .slf, _, r => r
  | .con _, _, r => r
  | .rng _ _, _, ⟨r, t, u, q, h1, h2, h3⟩ => ⟨r, t, u, q, h1, (hk _ _ h2 h3).1, (hk _ _ h2 h3).2⟩
theorem AVRs.ext {σ : Option (Addr × Addr)} {φ φ' : List Addr} {h h' : Heap} {W W' : Addr → Prop} (hk : ∀ b o, h.get? b = some o → ¬ W b → h'.get? b = some o ∧ ¬ W' b) (hφ : ∀ (i : Nat) (a : Addr), φ[i]? = some a → φ'[i]? = some a)
    {xs : List AV} {vs : List Value} (r : AVRs G σ φ h W xs vs) : AVRs G σ φ' h' W' xs vs := by
  induction r with
  | nil => exact .nil
  | cons a _ ih => exact .cons (AVR.ext hk hφ a) ih

theorem Ext.keepW {F : Fm} {prv : Addr → Prop} {k : Nat} {φ φ' : List Addr} {H H' : List AObj} {h h' : Heap} (x : Ext F.own k φ H h φ' H' h') :
    ∀ b o, h.get? b = some o → ¬ Wf F prv φ H b → h'.get? b = some o ∧ ¬ Wf F prv φ' H' b := by
  intro b o e hw
  have h1 : ¬ Pv F prv b := fun q => hw (.inl q)
  have h2 : ¬ Wr φ H b := fun q => hw (.inr q)
  refine ⟨x.step b o e (fun q => h1 (.inl q)) h2, fun q => ?_⟩
  rcases q with q | q
  · exact h1 q
  · rcases x.wr b q with q | q
    · exact h2 q
    · rw [e] at q; cases q
theorem AVR.after {F : Fm} {prv : Addr → Prop} {k : Nat} {φ φ' : List Addr} {H H' : List AObj} {h h' : Heap} (x : Ext F.own k φ H h φ' H' h') (hk : φ.length ≤ k) {v : AV} {cv : Value}
    (r : AVR G F.slf φ h (Wf F prv φ H) v cv) : AVR G F.slf φ' h' (Wf F prv φ' H') v cv :=
  AVR.ext x.keepW (fun i a e => (x.pre i (Nat.lt_of_lt_of_le (by obtain ⟨q, _⟩ := List.getElem?_eq_some_iff.mp e; exact q) hk)).trans e) r

end
end Mine

namespace Mine
variable {G : Base}

theorem ORel.ext {h h' : Heap} {W W' : Addr → Prop} {a : Addr} {o : AObj} (hk : ∀ b o, h.get? b = some o → ¬ W b → h'.get? b = some o ∧ ¬ W' b) (ha : ∀ o, h.get? a = some o → h'.get? a = some o)
    (r : ORel G h W a o) : ORel G h' W' a o := by
  cases o with
  | list xs => obtain ⟨n, vs, h1, h2⟩ := r; exact ⟨n, vs, ha _ h1, h2.ext hk⟩
  | dict kvs => obtain ⟨ep, kvs', h1, h2⟩ := r; exact ⟨ep, kvs', dictAt_at h1 ha, h2⟩
  | dead => trivial

theorem HRel.step {P : Addr → Prop} {φ : List Addr} {H : List AObj} {h h' : Heap} (R : HRel G P φ H h) (X : Addr → Prop) (hk : ∀ b o, h.get? b = some o → ¬ X b → h'.get? b = some o)
    (hex : ∀ b o, h.get? b = some o → ∃ o', h'.get? b = some o') (hX : ∀ b, X b → P b) : HRel G P φ H h' where
  base := fun b o e => hk b o (R.base b o e) fun x => by have := R.pB b (hX b x); rw [this] at e; cases e
  len := R.len
  inj := R.inj
  nP := R.nP
  pB := R.pB
  φB := R.φB
  ex := fun a ha => let ⟨o, e⟩ := R.ex a ha; hex a o e
  pex := fun a ha => let ⟨o, e⟩ := R.pex a ha; hex a o e
  obj := fun i a o h1 h2 => ORel.ext (fun b o e hw => ⟨hk b o e fun x => hw (.inl (hX b x)), hw⟩) (fun o e => hk a o e fun x => R.nP a (List.mem_of_getElem? h1) (hX a x)) (R.obj i a o h1 h2)

theorem HRel.widen {P P' : Addr → Prop} {φ : List Addr} {H : List AObj} {h h' : Heap} (R : HRel G P φ H h) (hk : ∀ b o, h.get? b = some o → h'.get? b = some o)
    (hP : ∀ b, P b → P' b) (hn : ∀ b, P' b → P b ∨ h.get? b = none) (hpe : ∀ b, P' b → ∃ o, h'.get? b = some o) : HRel G P' φ H h' where
  base := fun b o e => hk b o (R.base b o e)
  len := R.len
  inj := R.inj
  nP := fun a ha q => by
    rcases hn a q with q | q
    · exact R.nP a ha q
    · obtain ⟨o, e⟩ := R.ex a ha; rw [e] at q; cases q
  pB := fun a ha => by
    rcases hn a ha with q | q
    · exact R.pB a q
    · cases e : G.B.get? a with
      | none => rfl
      | some o => have := R.base a o e; rw [this] at q; cases q
  φB := R.φB
  ex := fun a ha => let ⟨o, e⟩ := R.ex a ha; ⟨o, hk a o e⟩
  pex := hpe
  obj := fun i a o h1 h2 => by
    refine ORel.ext (fun b o e hw => ⟨hk b o e, fun q => ?_⟩) (fun o e => hk a o e) (R.obj i a o h1 h2)
    rcases q with q | q
    · rcases hn b q with q | q
      · exact hw (.inl q)
      · rw [e] at q; cases q
    · exact hw (.inr q)

/-- fewer private ones -/
theorem HRel.narrow {P P' : Addr → Prop} {φ : List Addr} {H : List AObj} {h : Heap} (R : HRel G P φ H h) (hP : ∀ b, P' b → P b) : HRel G P' φ H h where
  base := R.base
  len := R.len
  inj := R.inj
  nP := fun a ha q => R.nP a ha (hP a q)
  pB := fun a ha => R.pB a (hP a ha)
  φB := R.φB
  ex := R.ex
  pex := fun a ha => R.pex a (hP a ha)
  obj := fun i a o h1 h2 => ORel.ext (fun b o e hw => ⟨e, fun q => hw (q.elim (fun q => .inl (hP b q)) .inr)⟩) (fun o e => e) (R.obj i a o h1 h2)

def setV : List (PySem.Str × AV) → PySem.Str → AV → List (PySem.Str × AV)
  | [], x, v => [(x, v)]
  | (y, u) :: r, x, v => match x == y with
    | true => (y, v) :: r
    | false => (y, u) :: setV r x v
theorem setV_lookup (x : PySem.Str) (v : AV) (y : PySem.Str) : ∀ l : List (PySem.Str × AV), (setV l x v).lookup y = if y = x then some v else l.lookup y
  | [] => by
    by_cases h : y = x
    · subst h; simp [setV]
    · simp [setV, List.lookup_cons, beq_false_of_ne h, h]
  | (z, u) :: r => by
    unfold setV
    cases q : x == z with
    | true =>
      have q' : x = z := eq_of_beq q
      subst q'
      by_cases h : y = x
      · subst h; simp
      · simp [List.lookup_cons, beq_false_of_ne h, h]
    | false =>
      have q' : x ≠ z := by intro e; subst e; simp at q
      show List.lookup y ((z, u) :: setV r x v) = _
      rw [List.lookup_cons]
      by_cases h : y = x
      · subst h; rw [q]; simpa using setV_lookup y v y r
      · cases e : y == z with
        | true => simp [List.lookup_cons, e, h]
        | false => simp [List.lookup_cons, e, h, setV_lookup x v y r]

section
variable {F : Fm} {prv : Addr → Prop} {φ : List Addr} {a : AS} {h h' : Heap}

theorem Rel.Lp (R : Rel G F prv φ a h) : Pv F prv F.L := .inl R.Lown

/-- growth alone -/
theorem Rel.keeps (R : Rel G F prv φ a h) (hk : ∀ b o, h.get? b = some o → h'.get? b = some o) : Rel G F prv φ a h' where
  kfun := R.kfun
  hr := R.hr.step (fun _ => False) (fun b o e _ => hk b o e) (fun b o e => ⟨o, hk b o e⟩) (fun _ x => x.elim)
  own_prv := R.own_prv
  Lown := R.Lown
  cown := fun x c e => let ⟨⟨v, o, ho, hd⟩, r⟩ := R.cown x c e; ⟨⟨v, o, hk _ _ ho, hd⟩, r⟩
  cinj := R.cinj
  n0 := R.n0
  vars := by
    obtain ⟨m, hn, hv⟩ := R.vars
    refine ⟨m, hn.keeps hk, fun x v e => ?_⟩
    obtain ⟨cv, h1, h2⟩ := hv x v e
    refine ⟨cv, AVR.ext (fun b o e hw => ⟨hk b o e, hw⟩) (fun _ _ e => e) h1, ?_⟩
    rcases h2 with h2 | ⟨h2, c, h3, o, h4, h5⟩
    · exact .inl h2
    · exact .inr ⟨h2, c, h3, o, hk _ _ h4, h5⟩
  slf := fun x dx e => by
    obtain ⟨h1, h2, h3, h4, h5, h6, h7⟩ := R.slf x dx e
    exact ⟨h1, h2, h3, h4, h5, h6, h7.ext (fun b o e hw => ⟨hk b o e, hw⟩) (fun o e => hk _ o e) (fun o e => hk _ o e)⟩

/-- a private thing that is not the frame's own turns (an iterator) -/
theorem Rel.turned (R : Rel G F prv φ a h) (it : Addr) (hp : prv it) (hc : ∀ x c, F.cl.lookup x = some c → c ≠ it) (hk : ∀ b o, b ≠ it → h.get? b = some o → h'.get? b = some o) (hi : ∃ o, h'.get? it = some o) : Rel G F prv φ a h' := by
  have hno : ∀ b ∈ F.own, b ≠ it := fun b hb e => R.own_prv b hb (e ▸ hp)
  have hex : ∀ b o, h.get? b = some o → ∃ o', h'.get? b = some o' := fun b o e => by
    by_cases q : b = it
    · subst q; exact hi
    · exact ⟨o, hk b o q e⟩
  have hkW : ∀ b o, h.get? b = some o → ¬ Wf F prv φ a.heap b → h'.get? b = some o ∧ ¬ Wf F prv φ a.heap b := fun b o e hw => ⟨hk b o (fun q => hw (.inl (.inr (q ▸ hp)))) e, hw⟩
  refine ⟨R.kfun, R.hr.step (fun b => b = it) (fun b o e x => hk b o x e) hex (fun b x => .inr (x ▸ hp)), R.own_prv, R.Lown, fun x c e => ?_, R.cinj, R.n0, ?_, fun x dx e => ?_⟩
  · obtain ⟨⟨v, o, ho, hd⟩, r⟩ := R.cown x c e
    exact ⟨⟨v, o, hk _ _ (hc x c e) ho, hd⟩, r⟩
  · obtain ⟨m, hn, hv⟩ := R.vars
    refine ⟨m, hn.at' fun o e => hk _ o (hno _ R.Lown) e, fun x v e => ?_⟩
    obtain ⟨cv, h1, h2⟩ := hv x v e
    refine ⟨cv, AVR.ext hkW (fun _ _ e => e) h1, ?_⟩
    rcases h2 with h2 | ⟨h2, c, h3, o, h4, h5⟩
    · exact .inl h2
    · exact .inr ⟨h2, c, h3, o, hk _ _ (hc _ _ h3) h4, h5⟩
  · obtain ⟨h1, h2, h3, h4, h5, h6, h7⟩ := R.slf x dx e
    exact ⟨h1, h2, h3, h4, h5, h6, h7.ext hkW (fun o e => hk _ o (hno _ h1) e) (fun o e => hk _ o (hno _ h2) e)⟩

theorem Rel.storeLocal (R : Rel G F prv φ a h) {x : PySem.Str} {v : AV} {cv : Value} (hx : F.sc.names.lookup x = some .local) (hv : AVR G F.slf φ h (Wf F prv φ a.heap) v cv)
    (hn' : ∀ m, h.Ns F.L m → h'.Ns F.L (fun y => if y = x then some cv else m y)) (hs : Heap.SameBut F.L h h') : Rel G F prv φ { a with vars := setV a.vars x v } h' := by
  have hk : ∀ b o, b ≠ F.L → h.get? b = some o → h'.get? b = some o := fun b o q e => (hs.2 b q).trans e
  have hkW : ∀ b o, h.get? b = some o → ¬ Wf F prv φ a.heap b → h'.get? b = some o ∧ ¬ Wf F prv φ a.heap b := fun b o e hw => ⟨hk b o (fun q => hw (.inl (.inl (q ▸ R.Lown)))) e, hw⟩
  obtain ⟨m, hn, hvs⟩ := R.vars
  have hn₁ := hn' m hn
  have hex : ∀ b o, h.get? b = some o → ∃ o', h'.get? b = some o' := fun b o e => by
    by_cases q : b = F.L
    · subst q; obtain ⟨o, _, _, e, _⟩ := hn₁; exact ⟨o, e⟩
    · exact ⟨o, hk b o q e⟩
  refine ⟨R.kfun, R.hr.step (fun b => b = F.L) (fun b o e x => hk b o x e) hex (fun b x => .inl (x ▸ R.Lown)), R.own_prv, R.Lown, fun x c e => ?_, R.cinj, R.n0, ⟨_, hn₁, fun y u e => ?_⟩, fun x dx e => ?_⟩
  · obtain ⟨⟨v, o, ho, hd⟩, r⟩ := R.cown x c e
    exact ⟨⟨v, o, hk _ _ r.1 ho, hd⟩, r⟩
  · rw [setV_lookup] at e
    by_cases q : y = x
    · subst q
      rw [if_pos rfl] at e; cases e
      exact ⟨cv, AVR.ext hkW (fun _ _ e => e) hv, .inl ⟨hx, by simp⟩⟩
    · rw [if_neg q] at e
      obtain ⟨cu, h1, h2⟩ := hvs y u e
      refine ⟨cu, AVR.ext hkW (fun _ _ e => e) h1, ?_⟩
      rcases h2 with ⟨h2, h3⟩ | ⟨h2, c, h3, o, h4, h5⟩
      · exact .inl ⟨h2, by simpa [q] using h3⟩
      · exact .inr ⟨h2, c, h3, o, hk _ _ (R.cown _ _ h3).2.1 h4, h5⟩
  · obtain ⟨h1, h2, h3, h4, h5, h6, h7⟩ := R.slf x dx e
    exact ⟨h1, h2, h3, h4, h5, h6, h7.ext hkW (fun o e => hk _ o h4 e) (fun o e => hk _ o h5 e)⟩

theorem Rel.storeCell (R : Rel G F prv φ a h) {x : PySem.Str} {v : AV} {cv : Value} {c : Addr} (hx : F.sc.names.lookup x = some .cell) (hc : F.cl.lookup x = some c) (ho : c ∈ F.own) (hv : AVR G F.slf φ h (Wf F prv φ a.heap) v cv)
    (hc' : h'.IsCell c (some cv)) (hs : Heap.SameBut c h h') : Rel G F prv φ { a with vars := setV a.vars x v } h' := by
  have hk : ∀ b o, b ≠ c → h.get? b = some o → h'.get? b = some o := fun b o q e => (hs.2 b q).trans e
  have hkW : ∀ b o, h.get? b = some o → ¬ Wf F prv φ a.heap b → h'.get? b = some o ∧ ¬ Wf F prv φ a.heap b := fun b o e hw => ⟨hk b o (fun q => hw (.inl (.inl (q ▸ ho)))) e, hw⟩
  obtain ⟨m, hn, hvs⟩ := R.vars
  have hcL : c ≠ F.L := (R.cown _ _ hc).2.1
  have hex : ∀ b o, h.get? b = some o → ∃ o', h'.get? b = some o' := fun b o e => by
    by_cases q : b = c
    · subst q; obtain ⟨o, e, _⟩ := hc'; exact ⟨o, e⟩
    · exact ⟨o, hk b o q e⟩
  refine ⟨R.kfun, R.hr.step (fun b => b = c) (fun b o e x => hk b o x e) hex (fun b x => .inl (x ▸ ho)), R.own_prv, R.Lown, fun y c' e => ?_, R.cinj, R.n0, ⟨m, hn.sameBut hs (Ne.symm hcL), fun y u e => ?_⟩, fun x dx e => ?_⟩
  · obtain ⟨⟨v, o, ho, hd⟩, r⟩ := R.cown y c' e
    by_cases q : c' = c
    · subst q; exact ⟨⟨_, hc'⟩, r⟩
    · exact ⟨⟨v, o, hk _ _ q ho, hd⟩, r⟩
  · rw [setV_lookup] at e
    by_cases q : y = x
    · subst q
      rw [if_pos rfl] at e; cases e
      exact ⟨cv, AVR.ext hkW (fun _ _ e => e) hv, .inr ⟨hx, c, hc, hc'⟩⟩
    · rw [if_neg q] at e
      obtain ⟨cu, h1, h2⟩ := hvs y u e
      refine ⟨cu, AVR.ext hkW (fun _ _ e => e) h1, ?_⟩
      rcases h2 with h2 | ⟨h2, c', h3, o, h4, h5⟩
      · exact .inl h2
      · exact .inr ⟨h2, c', h3, o, hk _ _ (fun z => q (R.cinj _ _ _ h3 (z ▸ hc))) h4, h5⟩
  · obtain ⟨h1, h2, h3, h4, h5, h6, h7⟩ := R.slf x dx e
    exact ⟨h1, h2, h3, h4, h5, h6, h7.ext hkW (fun o e => hk _ o (Ne.symm (h6 _ _ hc).1) e) (fun o e => hk _ o (Ne.symm (h6 _ _ hc).2) e)⟩

/-- fewer names known -/
theorem Rel.forget (R : Rel G F prv φ a h) {vars : List (PySem.Str × AV)} (hv : ∀ x v, vars.lookup x = some v → a.vars.lookup x = some v) : Rel G F prv φ { a with vars := vars } h :=
  ⟨R.kfun, R.hr, R.own_prv, R.Lown, R.cown, R.cinj, R.n0, (let ⟨m, hn, hvs⟩ := R.vars; ⟨m, hn, fun x v e => hvs x v (hv x v e)⟩), R.slf⟩

theorem wr_append {φ : List Addr} {H : List AObj} {x : Addr} {o : AObj} (hl : φ.length = H.length) {b : Addr} (hb : Wr (φ ++ [x]) (H ++ [o]) b) : Wr φ H b ∨ b = x := by
  obtain ⟨i, o', h1, h2, h3⟩ := hb
  by_cases q : i < φ.length
  · rw [List.getElem?_append_left q] at h1
    rw [List.getElem?_append_left (hl ▸ q)] at h2
    exact .inl ⟨i, o', h1, h2, h3⟩
  · rw [List.getElem?_append_right (Nat.le_of_not_lt q)] at h1
    cases j : i - φ.length with
    | zero => rw [j] at h1; simp at h1; exact .inr h1.symm
    | succ j => rw [j] at h1; simp at h1
theorem wr_append_left {φ : List Addr} {H : List AObj} {x : Addr} {o : AObj} {b : Addr} (hb : Wr φ H b) : Wr (φ ++ [x]) (H ++ [o]) b := by
  obtain ⟨i, o', h1, h2, h3⟩ := hb
  exact ⟨i, o', by rw [List.getElem?_append_left (List.getElem?_eq_some_iff.mp h1).1]; exact h1, by rw [List.getElem?_append_left (List.getElem?_eq_some_iff.mp h2).1]; exact h2, h3⟩

/-- a new writable thing -/
theorem Rel.alloc (R : Rel G F prv φ a h) {x : Addr} {o : AObj} (hk : ∀ (b : Addr) (o : Obj), h.get? b = some o → h'.get? b = some o) (hf : h.get? x = none) (hxs : x ≠ sysModules) (hx : ∃ ox, h'.get? x = some ox)
    (ho : ∀ W' : Addr → Prop, (∀ (b : Addr) (o : Obj), h.get? b = some o → ¬ Wf F prv φ a.heap b → ¬ W' b) → ORel G h' W' x o) :
    Rel G F prv (φ ++ [x]) { a with heap := a.heap ++ [o] } h' ∧ Ext F.own φ.length φ a.heap h (φ ++ [x]) (a.heap ++ [o]) h' := by
  have hl := R.hr.len
  have nex : ∀ b o, h.get? b = some o → b ≠ x := fun b o e q => by rw [q, hf] at e; cases e
  have hkW : ∀ b o₁, h.get? b = some o₁ → ¬ Wf F prv φ a.heap b → h'.get? b = some o₁ ∧ ¬ Wf F prv (φ ++ [x]) (a.heap ++ [o]) b := fun b o₁ e hw => by
    refine ⟨hk b o₁ e, fun q => ?_⟩
    rcases q with q | q
    · exact hw (.inl q)
    · rcases wr_append hl q with q | q
      · exact hw (.inr q)
      · exact nex b _ e q
  have xφ : x ∉ φ := fun q => by obtain ⟨o, e⟩ := R.hr.ex x q; rw [e] at hf; cases hf
  have xP : ¬ Pv F prv x := fun q => by obtain ⟨o, e⟩ := R.hr.pex x q; rw [e] at hf; cases hf
  have hφ : ∀ (i : Nat) (b : Addr), φ[i]? = some b → (φ ++ [x])[i]? = some b := fun i b e => by rw [List.getElem?_append_left (List.getElem?_eq_some_iff.mp e).1]; exact e
  refine ⟨⟨R.kfun, ?_, R.own_prv, R.Lown, fun y c e => ?_, R.cinj, ?_, ?_, fun y dx e => ?_⟩, ?_⟩
  · refine ⟨fun b o e => hk b o (R.hr.base b o e), by simp [hl], ?_, ?_, R.hr.pB, ?_, ?_, fun b hb => let ⟨o, e⟩ := R.hr.pex b hb; ⟨o, hk b o e⟩, ?_⟩
    · rw [List.nodup_append]
      refine ⟨R.hr.inj, by simp, fun p hp q hq => ?_⟩
      rw [List.mem_singleton] at hq; subst hq
      exact fun z => xφ (z ▸ hp)
    · intro b hb
      rcases List.mem_append.mp hb with hb | hb
      · exact R.hr.nP b hb
      · rw [List.mem_singleton] at hb; subst hb; exact xP
    · intro b hb
      rcases List.mem_append.mp hb with hb | hb
      · exact R.hr.φB b hb
      · rw [List.mem_singleton] at hb; subst hb
        refine ⟨?_, hxs⟩
        cases e : G.B.get? b with
        | none => rfl
        | some o => have := R.hr.base _ _ e; rw [this] at hf; cases hf
    · intro b hb
      rcases List.mem_append.mp hb with hb | hb
      · obtain ⟨o, e⟩ := R.hr.ex b hb; exact ⟨o, hk b o e⟩
      · rw [List.mem_singleton] at hb; subst hb; exact hx
    · intro i b o₁ h1 h2
      by_cases q : i < φ.length
      · rw [List.getElem?_append_left q] at h1
        rw [List.getElem?_append_left (hl ▸ q)] at h2
        exact ORel.ext hkW (fun o e => hk _ o e) (R.hr.obj i b o₁ h1 h2)
      · rw [List.getElem?_append_right (Nat.le_of_not_lt q)] at h1
        rw [List.getElem?_append_right (hl ▸ Nat.le_of_not_lt q), ← hl] at h2
        cases j : i - φ.length with
        | zero =>
          rw [j] at h1 h2; simp at h1 h2; subst h1 h2
          exact ho _ fun b o e hw => (hkW b o e hw).2
        | succ j => rw [j] at h1; simp at h1
  · obtain ⟨⟨v, o, ho, hd⟩, r⟩ := R.cown y c e
    exact ⟨⟨v, o, hk _ _ ho, hd⟩, r⟩
  · have := R.n0; simp; omega
  · obtain ⟨m, hn, hv⟩ := R.vars
    refine ⟨m, hn.keeps hk, fun y v e => ?_⟩
    obtain ⟨cv, h1, h2⟩ := hv y v e
    refine ⟨cv, AVR.ext hkW hφ h1, ?_⟩
    rcases h2 with h2 | ⟨h2, c, h3, o, h4, h5⟩
    · exact .inl h2
    · exact .inr ⟨h2, c, h3, o, hk _ _ h4, h5⟩
  · obtain ⟨h1, h2, h3, h4, h5, h6, h7⟩ := R.slf y dx e
    exact ⟨h1, h2, h3, h4, h5, h6, h7.ext hkW (fun o e => hk _ o e) (fun o e => hk _ o e)⟩
  · refine ⟨fun i hi => List.getElem?_append_left hi, fun b o e _ _ => hk b o e, fun b o e => ⟨o, hk b o e⟩, fun b hb => ?_⟩
    rcases wr_append hl hb with q | q
    · exact .inl q
    · exact .inr (q ▸ hf)

theorem wr_set {φ : List Addr} {H : List AObj} {i : Nat} {o o₀ : AObj} (h0 : H[i]? = some o₀) (hl : o₀.live = true) {b : Addr} (hb : Wr φ (H.set i o) b) : Wr φ H b := by
  obtain ⟨j, o', h1, h2, h3⟩ := hb
  by_cases q : i = j
  · subst q; exact ⟨i, o₀, h1, h0, hl⟩
  · rw [List.getElem?_set_ne q] at h2; exact ⟨j, o', h1, h2, h3⟩
theorem wr_set' {φ : List Addr} {H : List AObj} {i : Nat} {o : AObj} (hl : o.live = true) {b : Addr} (hb : Wr φ H b) : Wr φ (H.set i o) b := by
  obtain ⟨j, o', h1, h2, h3⟩ := hb
  by_cases q : i = j
  · subst q; exact ⟨i, o, h1, by rw [List.getElem?_set_self (List.getElem?_eq_some_iff.mp h2).1], hl⟩
  · exact ⟨j, o', h1, by rw [List.getElem?_set_ne q]; exact h2, h3⟩

/-- a writable thing turns -/
theorem Rel.mutate (R : Rel G F prv φ a h) {i : Nat} {x : Addr} {o o₀ : AObj} (hφ : φ[i]? = some x) (h0 : a.heap[i]? = some o₀) (hl₀ : o₀.live = true) (hl : o.live = true)
    (hs : Heap.SameBut x h h') (ho : ORel G h' (Wf F prv φ a.heap) x o) (hx : ∃ ox, h'.get? x = some ox) :
    Rel G F prv φ { a with heap := a.heap.set i o } h' ∧ Ext F.own φ.length φ a.heap h φ (a.heap.set i o) h' := by
  have hk : ∀ b o, b ≠ x → h.get? b = some o → h'.get? b = some o := fun b o q e => (hs.2 b q).trans e
  have xW : Wr φ a.heap x := ⟨i, o₀, hφ, h0, hl₀⟩
  have xP : ¬ Pv F prv x := R.hr.nP x (List.mem_of_getElem? hφ)
  have hWW : ∀ b, Wf F prv φ (a.heap.set i o) b ↔ Wf F prv φ a.heap b := fun b => ⟨fun q => q.elim .inl fun q => .inr (wr_set h0 hl₀ q), fun q => q.elim .inl fun q => .inr (wr_set' hl q)⟩
  have hkW : ∀ b o₁, h.get? b = some o₁ → ¬ Wf F prv φ a.heap b → h'.get? b = some o₁ ∧ ¬ Wf F prv φ (a.heap.set i o) b := fun b o₁ e hw => ⟨hk b o₁ (fun q => hw (.inr (q ▸ xW))) e, fun q => hw ((hWW b).mp q)⟩
  have hex : ∀ b o, h.get? b = some o → ∃ o', h'.get? b = some o' := fun b o e => by
    by_cases q : b = x
    · subst q; exact hx
    · exact ⟨o, hk b o q e⟩
  have nx : ∀ b, Pv F prv b → b ≠ x := fun b hb q => xP (q ▸ hb)
  refine ⟨⟨R.kfun, ?_, R.own_prv, R.Lown, fun y c e => ?_, R.cinj, R.n0, ?_, fun y dx e => ?_⟩, ?_⟩
  · refine ⟨fun b o e => hk b o (fun q => ?_) (R.hr.base b o e), by simp [R.hr.len], R.hr.inj, R.hr.nP, R.hr.pB, R.hr.φB, fun b hb => let ⟨o, e⟩ := R.hr.ex b hb; hex b o e, fun b hb => let ⟨o, e⟩ := R.hr.pex b hb; hex b o e, ?_⟩
    · have := (R.hr.φB x (List.mem_of_getElem? hφ)).1; rw [q, this] at e; cases e
    · intro j b o₁ h1 h2
      by_cases q : i = j
      · subst q
        rw [hφ] at h1; cases h1
        rw [List.getElem?_set_self (List.getElem?_eq_some_iff.mp h0).1] at h2; cases h2
        exact ORel.ext (fun b o e hw => ⟨e, fun q => hw ((hWW b).mp q)⟩) (fun o e => e) ho
      · rw [List.getElem?_set_ne q] at h2
        refine ORel.ext hkW (fun o e => hk _ o (fun z => q ?_) e) (R.hr.obj j b o₁ h1 h2)
        subst z
        exact List.getElem?_inj (List.getElem?_eq_some_iff.mp hφ).1 R.hr.inj |>.mp (hφ.trans h1.symm)
  · obtain ⟨⟨v, o, ho, hd⟩, r⟩ := R.cown y c e
    exact ⟨⟨v, o, hk _ _ (nx _ r.2) ho, hd⟩, r⟩
  · obtain ⟨m, hn, hv⟩ := R.vars
    refine ⟨m, hn.at' fun o e => hk _ o (nx _ R.Lp) e, fun y v e => ?_⟩
    obtain ⟨cv, h1, h2⟩ := hv y v e
    refine ⟨cv, AVR.ext hkW (fun _ _ e => e) h1, ?_⟩
    rcases h2 with h2 | ⟨h2, c, h3, o, h4, h5⟩
    · exact .inl h2
    · exact .inr ⟨h2, c, h3, o, hk _ _ (nx _ (R.cown _ _ h3).2.2) h4, h5⟩
  · obtain ⟨h1, h2, h3, h4, h5, h6, h7⟩ := R.slf y dx e
    exact ⟨h1, h2, h3, h4, h5, h6, h7.ext hkW (fun o e => hk _ o (nx _ (.inl h1)) e) (fun o e => hk _ o (nx _ (.inl h2)) e)⟩
  · refine ⟨fun _ _ => rfl, fun b o e _ hw => hk b o (fun q => hw (q ▸ xW)) e, hex, fun b hb => .inl (wr_set h0 hl₀ hb)⟩

/-- a writable thing is written no more -/
theorem Rel.freeze (R : Rel G F prv φ a h) {i : Nat} {x : Addr} {o : AObj} (hφ : φ[i]? = some x) (h0 : a.heap[i]? = some o) (hl₀ : o.live = true) :
    Rel G F prv φ { a with heap := a.heap.set i .dead } h ∧ Ext F.own φ.length φ a.heap h φ (a.heap.set i .dead) h ∧ ORel G h (Wf F prv φ (a.heap.set i .dead)) x o ∧ ¬ Wf F prv φ (a.heap.set i .dead) x := by
  have hW : ∀ b, Wf F prv φ (a.heap.set i .dead) b → Wf F prv φ a.heap b := fun b q => q.elim .inl fun q => .inr (wr_set h0 hl₀ q)
  have hkW : ∀ b o₁, h.get? b = some o₁ → ¬ Wf F prv φ a.heap b → h.get? b = some o₁ ∧ ¬ Wf F prv φ (a.heap.set i .dead) b := fun b o₁ e hw => ⟨e, fun q => hw (hW b q)⟩
  refine ⟨⟨R.kfun, ?_, R.own_prv, R.Lown, R.cown, R.cinj, R.n0, ?_, fun y dx e => ?_⟩, ⟨fun _ _ => rfl, fun b o e _ _ => e, fun b o e => ⟨o, e⟩, fun b hb => .inl (wr_set h0 hl₀ hb)⟩, ?_, ?_⟩
  · refine ⟨R.hr.base, by simp [R.hr.len], R.hr.inj, R.hr.nP, R.hr.pB, R.hr.φB, R.hr.ex, R.hr.pex, fun j b o₁ h1 h2 => ?_⟩
    by_cases q : i = j
    · subst q
      rw [List.getElem?_set_self (List.getElem?_eq_some_iff.mp h0).1] at h2; cases h2
      trivial
    · rw [List.getElem?_set_ne q] at h2
      exact ORel.ext hkW (fun o e => e) (R.hr.obj j b o₁ h1 h2)
  · obtain ⟨m, hn, hv⟩ := R.vars
    refine ⟨m, hn, fun y v e => ?_⟩
    obtain ⟨cv, h1, h2⟩ := hv y v e
    exact ⟨cv, AVR.ext hkW (fun _ _ e => e) h1, h2⟩
  · obtain ⟨h1, h2, h3, h4, h5, h6, h7⟩ := R.slf y dx e
    exact ⟨h1, h2, h3, h4, h5, h6, h7.ext hkW (fun o e => e) (fun o e => e)⟩
  · exact ORel.ext hkW (fun o e => e) (R.hr.obj i x o hφ h0)
  · rintro (q | ⟨j, o', h1, h2, h3⟩)
    · exact R.hr.nP x (List.mem_of_getElem? hφ) q
    · have : i = j := List.getElem?_inj (List.getElem?_eq_some_iff.mp hφ).1 R.hr.inj |>.mp (hφ.trans h1.symm)
      subst this
      rw [List.getElem?_set_self (List.getElem?_eq_some_iff.mp h0).1] at h2; cases h2; cases h3

/-- the last things are dropped -/
theorem HRel.pop {P : Addr → Prop} {φ : List Addr} {H : List AObj} {h : Heap} (R : HRel G P φ H h) (k : Nat) : HRel G P (φ.take k) (H.take k) h ∧ ∀ b, Wr (φ.take k) (H.take k) b → Wr φ H b := by
  have hw : ∀ b, Wr (φ.take k) (H.take k) b → Wr φ H b := fun b ⟨j, o', h1, h2, h3⟩ => by
    rw [List.getElem?_take] at h1 h2
    split at h1
    · rename_i q; rw [if_pos q] at h2; exact ⟨j, o', h1, h2, h3⟩
    · cases h1
  refine ⟨⟨R.base, by simp [R.len], R.inj.sublist (List.take_sublist _ _), fun b hb => R.nP b (List.mem_of_mem_take hb), R.pB, fun b hb => R.φB b (List.mem_of_mem_take hb), fun b hb => R.ex b (List.mem_of_mem_take hb), R.pex, fun j b o h1 h2 => ?_⟩, hw⟩
  rw [List.getElem?_take] at h1 h2
  split at h1
  · rename_i q
    rw [if_pos q] at h2
    exact ORel.ext (fun b o e hn => ⟨e, fun q => hn (q.elim .inl fun q => .inr (hw b q))⟩) (fun o e => e) (R.obj j b o h1 h2)
  · cases h1
end
end Mine

namespace Mine
variable {G : Base}

structure AOk (n : Nat) (A : Around) : Prop where
  hh : A.handled = none
  dep : A.depth + 4 * n + 8 < recursionLimit
  un : A.units + 40 * n + 200 < cLine

def Same (s s' : Shared) : Prop := ∃ h t, s' = { s with heap := h, toks := t }
theorem Same.refl (s : Shared) : Same s s := ⟨s.heap, s.toks, rfl⟩
theorem Same.trans {s s' s'' : Shared} (x : Same s s') (y : Same s' s'') : Same s s'' := by
  obtain ⟨h, t, rfl⟩ := x; obtain ⟨h', t', rfl⟩ := y; exact ⟨h', t', rfl⟩
theorem Same.mk' (s : Shared) (h : Heap) (t : Nat) : Same s { s with heap := h, toks := t } := ⟨h, t, rfl⟩

abbrev NoE : Value → Shared → Prop := fun _ _ => False

structure Ok (G : Base) where
  mg : PySem.Str → Option Value
  mb : PySem.Str → Option Value
  g : G.B.Ns mainGlobals mg
  b : G.B.Ns builtinsNs mb
  lim : G.B.NoLimit

section
variable (F : Fm) (prv : Addr → Prop) (φ : List Addr) (a : AS) (s : Shared)
def Post (P : AV → AS → Prop) (Q : Value → Shared → Prop) : Prop :=
  ∀ v H' φ' cv s', P v { a with heap := H' } → Rel G F prv φ' { a with heap := H' } s'.heap → AVR G F.slf φ' s'.heap (Wf F prv φ' H') v cv → Ext F.own φ.length φ a.heap s.heap φ' H' s'.heap → Same s s' → Q cv s'
def PostB (P : Bool → AS → Prop) (Q : Bool → Shared → Prop) : Prop :=
  ∀ b H' φ' s', P b { a with heap := H' } → Rel G F prv φ' { a with heap := H' } s'.heap → Ext F.own φ.length φ a.heap s.heap φ' H' s'.heap → Same s s' → Q b s'
def PostU (P : AS → Prop) (Q : Unit → Shared → Prop) : Prop :=
  ∀ a' φ' s', P a' → Rel G F prv φ' a' s'.heap → Ext F.own φ.length φ a.heap s.heap φ' a'.heap s'.heap → Same s s' → Q () s'
end
inductive AFlow where
  | next
  | brk
  | ret (v : AV)
def FR (F : Fm) (prv : Addr → Prop) (φ : List Addr) (H : List AObj) (h : Heap) : AFlow → Flow → Prop
  | .next, f => f = .next
  | .brk, f => f = .brk
  | .ret v, f => ∃ cv, f = .ret cv ∧ AVR G F.slf φ h (Wf F prv φ H) v cv
def PostF (F : Fm) (prv : Addr → Prop) (φ : List Addr) (a : AS) (s : Shared) (P : AFlow → AS → Prop) (Q : Flow → Shared → Prop) : Prop :=
  ∀ f a' φ' cf s', P f a' → Rel G F prv φ' a' s'.heap → FR (G := G) F prv φ' a'.heap s'.heap f cf → Ext F.own F.n₀ φ a.heap s.heap φ' a'.heap s'.heap → Same s s' → Q cf s'

structure EV (G : Base) (n : Nat) (F : Fm) (a : AS) (e : Expr) (P : AV → AS → Prop) : Prop where
  go : ∀ A prv φ s Q, AOk n A → Rel G F prv φ a s.heap → Post (G := G) F prv φ a s P Q → wpAny (model G.prog G.w) A (eval e F.env) Q NoE s
structure BT (G : Base) (n : Nat) (F : Fm) (a : AS) (e : Expr) (P : Bool → AS → Prop) : Prop where
  go : ∀ A prv φ s Q, AOk n A → Rel G F prv φ a s.heap → PostB (G := G) F prv φ a s P Q → wpAny (model G.prog G.w) A (isTrue e F.env (eval e F.env)) Q NoE s
structure EX (G : Base) (n : Nat) (F : Fm) (a : AS) (ss : List Stmt) (P : AFlow → AS → Prop) : Prop where
  go : ∀ A prv φ s Q, AOk n A → Rel G F prv φ a s.heap → PostF (G := G) F prv φ a s P Q → wpAny (model G.prog G.w) A (execs ss F.env) Q NoE s
structure EX1 (G : Base) (n : Nat) (F : Fm) (a : AS) (st : Stmt) (P : AFlow → AS → Prop) : Prop where
  go : ∀ A prv φ s Q, AOk n A → Rel G F prv φ a s.heap → PostF (G := G) F prv φ a s P Q → wpAny (model G.prog G.w) A (exec st F.env) Q NoE s

section
variable {F : Fm} {prv : Addr → Prop} {φ φ' : List Addr} {a a' : AS} {s s' : Shared}

theorem Post.step {P : AV → AS → Prop} {Q : Value → Shared → Prop} {H' : List AObj} (hQ : Post (G := G) F prv φ a s P Q) (E : Ext F.own φ.length φ a.heap s.heap φ' H' s'.heap) (S : Same s s') (hl : φ.length ≤ φ'.length) : Post (G := G) F prv φ' { a with heap := H' } s' P Q :=
  fun v H'' φ'' cv s'' hP R V E' S' => hQ v H'' φ'' cv s'' hP R V (E.trans E' hl) (S.trans S')
theorem PostB.step {P : Bool → AS → Prop} {Q : Bool → Shared → Prop} {H' : List AObj} (hQ : PostB (G := G) F prv φ a s P Q) (E : Ext F.own φ.length φ a.heap s.heap φ' H' s'.heap) (S : Same s s') (hl : φ.length ≤ φ'.length) : PostB (G := G) F prv φ' { a with heap := H' } s' P Q :=
  fun v H'' φ'' s'' hP R E' S' => hQ v H'' φ'' s'' hP R (E.trans E' hl) (S.trans S')
theorem PostU.step {P : AS → Prop} {Q : Unit → Shared → Prop} (hQ : PostU (G := G) F prv φ a s P Q) (E : Ext F.own φ.length φ a.heap s.heap φ' a'.heap s'.heap) (S : Same s s') (hl : φ.length ≤ φ'.length) : PostU (G := G) F prv φ' a' s' P Q :=
  fun a'' φ'' s'' hP R E' S' => hQ a'' φ'' s'' hP R (E.trans E' hl) (S.trans S')
theorem PostF.step {P : AFlow → AS → Prop} {Q : Flow → Shared → Prop} (hQ : PostF (G := G) F prv φ a s P Q) {k : Nat} {a' : AS} (E : Ext F.own k φ a.heap s.heap φ' a'.heap s'.heap) (S : Same s s') (hk : F.n₀ ≤ k) : PostF (G := G) F prv φ' a' s' P Q :=
  fun v a'' φ'' cv s'' hP R V E' S' => hQ v a'' φ'' cv s'' hP R V ((Ext.trans ⟨fun i hi => E.pre i (Nat.lt_of_lt_of_le hi hk), E.step, E.ex, E.wr⟩ E' (Nat.le_refl _))) (S.trans S')
theorem Ext.len {own : List Addr} {φ φ' : List Addr} {H H' : List AObj} {h h' : Heap} (x : Ext own φ.length φ H h φ' H' h') : φ.length ≤ φ'.length := by
  by_cases q : φ.length = 0
  · omega
  · have e := x.pre (φ.length - 1) (by omega)
    have : φ[φ.length - 1]? ≠ none := by rw [Ne, List.getElem?_eq_none_iff]; omega
    rw [← e, Ne, List.getElem?_eq_none_iff] at this
    omega

theorem Ext.keeps {own : List Addr} {φ : List Addr} {H : List AObj} {h h' : Heap} (hk : ∀ b o, h.get? b = some o → h'.get? b = some o) {k : Nat} : Ext own k φ H h φ H h' :=
  ⟨fun _ _ => rfl, fun b o e _ _ => hk b o e, fun b o e => ⟨o, hk b o e⟩, fun _ x => .inl x⟩

/-- the value is there, the heap has grown at most -/
theorem Post.grown {P : AV → AS → Prop} {Q : Value → Shared → Prop} (hQ : Post (G := G) F prv φ a s P Q) (R : Rel G F prv φ a s.heap) {v : AV} {cv : Value} {h' : Heap} (hP : P v a)
    (hk : ∀ b o, s.heap.get? b = some o → h'.get? b = some o) (V : AVR G F.slf φ h' (Wf F prv φ a.heap) v cv) (t : Nat) : Q cv { s with heap := h', toks := t } :=
  hQ v a.heap φ cv _ hP (R.keeps hk) V (Ext.keeps hk) (.mk' ..)
theorem Post.now {P : AV → AS → Prop} {Q : Value → Shared → Prop} (hQ : Post (G := G) F prv φ a s P Q) (R : Rel G F prv φ a s.heap) {v : AV} {cv : Value} (hP : P v a)
    (V : AVR G F.slf φ s.heap (Wf F prv φ a.heap) v cv) (t : Nat) : Q cv { s with toks := t } := hQ.grown R hP (fun _ _ e => e) V t
theorem Post.now' {P : AV → AS → Prop} {Q : Value → Shared → Prop} (hQ : Post (G := G) F prv φ a s P Q) (R : Rel G F prv φ a s.heap) {v : AV} {cv : Value} (hP : P v a)
    (V : AVR G F.slf φ s.heap (Wf F prv φ a.heap) v cv) : Q cv s := hQ.grown (h' := s.heap) R hP (fun _ _ e => e) V s.toks
theorem PostB.now {P : Bool → AS → Prop} {Q : Bool → Shared → Prop} (hQ : PostB (G := G) F prv φ a s P Q) (R : Rel G F prv φ a s.heap) {v : Bool} (hP : P v a) (t : Nat) : Q v { s with toks := t } :=
  hQ v a.heap φ { s with toks := t } hP R Ext.refl (.mk' s s.heap t)
theorem PostB.now' {P : Bool → AS → Prop} {Q : Bool → Shared → Prop} (hQ : PostB (G := G) F prv φ a s P Q) (R : Rel G F prv φ a s.heap) {v : Bool} (hP : P v a) : Q v s :=
  hQ v a.heap φ s hP R Ext.refl (.refl s)
theorem PostF.now' {P : AFlow → AS → Prop} {Q : Flow → Shared → Prop} (hQ : PostF (G := G) F prv φ a s P Q) (R : Rel G F prv φ a s.heap) {f : AFlow} {cf : Flow} (hP : P f a) (hf : FR (G := G) F prv φ a.heap s.heap f cf) : Q cf s :=
  hQ f a φ cf s hP R hf Ext.refl (.refl s)
end

section
variable {n : Nat} {F : Fm} {a : AS}

theorem EV.mono {e : Expr} {P P' : AV → AS → Prop} (h : EV G n F a e P) (hP : ∀ v a', P v a' → P' v a') : EV G n F a e P' :=
  ⟨fun A prv φ s Q hA R hQ => h.go A prv φ s Q hA R fun v a' φ' cv s' hp => hQ v a' φ' cv s' (hP _ _ hp)⟩
theorem BT.mono {e : Expr} {P P' : Bool → AS → Prop} (h : BT G n F a e P) (hP : ∀ v a', P v a' → P' v a') : BT G n F a e P' :=
  ⟨fun A prv φ s Q hA R hQ => h.go A prv φ s Q hA R fun v a' φ' s' hp => hQ v a' φ' s' (hP _ _ hp)⟩
theorem EX.mono {e : List Stmt} {P P' : AFlow → AS → Prop} (h : EX G n F a e P) (hP : ∀ v a', P v a' → P' v a') : EX G n F a e P' :=
  ⟨fun A prv φ s Q hA R hQ => h.go A prv φ s Q hA R fun v a' φ' cv s' hp => hQ v a' φ' cv s' (hP _ _ hp)⟩

theorem noE {α : Type} {M : Model} {A : Around} {t : Sem α} {Q : α → Shared → Prop} {E : Value → Shared → Prop} {s : Shared} (h : wpAny M A t Q NoE s) : wpAny M A t Q E s :=
  wpAny_mono h (fun _ _ x => x) fun _ _ x => x.elim

/-! ### literals, names -/
theorem EV.int {i : Int} {k : Nat} {pos : Pos} {P : AV → AS → Prop} (hP : P (.dat (.int i)) a) : EV G n F a (.Constant (.int i) k pos) P :=
  ⟨fun A prv φ s Q hA R hQ => wpAny_Constant_int (hQ.now R hP (.int _ _) _)⟩
theorem EV.str {x : PySem.Str} {k : Nat} {pos : Pos} {P : AV → AS → Prop} (hP : P (.dat (.str x)) a) : EV G n F a (.Constant (.str x) k pos) P :=
  ⟨fun A prv φ s Q hA R hQ => PySem.Calls.Constant_str (hQ.now R hP (.str _ _) _)⟩
theorem EV.none {k : Nat} {pos : Pos} {P : AV → AS → Prop} (hP : P (.dat .none) a) : EV G n F a (.Constant .none k pos) P :=
  ⟨fun A prv φ s Q hA R hQ => wpAny_Constant_none (hQ.now' R hP .none)⟩
theorem EV.bool {b : Bool} {k : Nat} {pos : Pos} {P : AV → AS → Prop} (hP : P (.dat (.bool b)) a) : EV G n F a (.Constant (.bool b) k pos) P :=
  ⟨fun A prv φ s Q hA R hQ => PyProof.Rows.Constant_bool (hQ.now' R hP (.bool b))⟩

theorem kindOf_env (F : Fm) (x : PySem.Str) : F.env.kindOf x = F.sc.names.lookup x := rfl

theorem load_var {M : Model} {A : Around} {E : Value → Shared → Prop} {prv : Addr → Prop} {φ : List Addr} {s : Shared} {x : PySem.Str} {v : AV} {Q : Value → Shared → Prop} (R : Rel G F prv φ a s.heap) (hx : a.vars.lookup x = some v)
    (h : ∀ cv, AVR G F.slf φ s.heap (Wf F prv φ a.heap) v cv → Q cv s) : wpAny M A (loadName F.env x) Q E s := by
  obtain ⟨m, hn, hv⟩ := R.vars
  obtain ⟨cv, h1, h2⟩ := hv x v hx
  rcases h2 with ⟨h2, h3⟩ | ⟨h2, c, h3, h4⟩
  · exact wpAny_loadName_local R.kfun h2 hn h3 (h cv h1)
  · exact wpAny_loadName_cell R.kfun h2 h3 h4 (h cv h1)
theorem EV.var {x : PySem.Str} {pos : Pos} {v : AV} {P : AV → AS → Prop} (hx : a.vars.lookup x = some v) (hP : P v a) (hd : (x == ("__debug__" : PySem.Str)) = false := by rfl) : EV G n F a (.Name x pos) P :=
  ⟨fun A prv φ s Q hA R hQ => wpAny_Name (load_var R hx fun cv V => hQ.now' R hP V) hd⟩

theorem Rel.base {prv : Addr → Prop} {φ : List Addr} {h : Heap} (R : Rel G F prv φ a h) : ∀ b o, G.B.get? b = some o → h.get? b = some o := R.hr.base
theorem EV.globG (O : Ok G) {x : PySem.Str} {pos : Pos} {v : Value} {P : AV → AS → Prop} (hk : F.sc.names.lookup x = some .globalImplicit) (hv : O.mg x = some v) (hP : P (.con v) a) (hd : (x == ("__debug__" : PySem.Str)) = false := by rfl) : EV G n F a (.Name x pos) P :=
  ⟨fun A prv φ s Q hA R hQ => Name_function_global R.kfun hk (loadGlobal_global (env := F.env) (O.g.keeps R.base) hv (hQ.now' R hP rfl)) hd⟩
theorem EV.globB (O : Ok G) {x : PySem.Str} {pos : Pos} {v : Value} {P : AV → AS → Prop} (hk : F.sc.names.lookup x = some .globalImplicit) (hm : O.mg x = .none) (hv : O.mb x = some v) (hP : P (.con v) a) (hd : (x == ("__debug__" : PySem.Str)) = false := by rfl) : EV G n F a (.Name x pos) P :=
  ⟨fun A prv φ s Q hA R hQ => Name_function_global R.kfun hk (loadGlobal_builtin (env := F.env) (O.g.keeps R.base) hm (O.b.keeps R.base) hv (hQ.now' R hP rfl)) hd⟩

/-! ### two operands -/
/-- what a step on two values gives, at a state -/
structure OP2 (G : Base) (n : Nat) (F : Fm) (a : AS) (t : Value → Value → Sem Value) (x y : AV) (P : AV → AS → Prop) : Prop where
  go : ∀ A prv φ s Q cx cy, AOk n A → Rel G F prv φ a s.heap → AVR G F.slf φ s.heap (Wf F prv φ a.heap) x cx → AVR G F.slf φ s.heap (Wf F prv φ a.heap) y cy → Post (G := G) F prv φ a s P Q → wpAny (model G.prog G.w) A (t cx cy) Q NoE s

theorem EV.bop {op : Operator} {l r : Expr} {pos : Pos} {P : AV → AS → Prop} (h : EV G n F a l fun x a1 => EV G n F a1 r fun y a2 => OP2 G n F a2 (binaryOp op) x y P) : EV G n F a (.BinOp l op r pos) P := by
  refine ⟨fun A prv φ s Q hA R hQ => ?_⟩
  refine wpAny_BinOp (h.go A prv φ s _ hA R fun x a1 φ1 cx s1 hx R1 V1 E1 S1 => hx.go A prv φ1 s1 _ hA R1 fun y a2 φ2 cy s2 hy R2 V2 E2 S2 => ?_)
  exact hy.go A prv φ2 s2 Q cx cy hA R2 (V1.after E2 (Nat.le_refl _)) V2 ((hQ.step E1 S1 E1.len).step E2 S2 E2.len)

theorem OP2.ints {t : Value → Value → Sem Value} {i j k : Int} {P : AV → AS → Prop} (hP : P (.dat (.int k)) a)
    (h : ∀ {A : Around} {s : Shared} {t1 t2 : Tok} {Q : Value → Shared → Prop}, A.handled = none → Q (.int k s.toks) { s with toks := s.toks + 1 } → wpAny (model G.prog G.w) A (t (.int i t1) (.int j t2)) Q NoE s) : OP2 G n F a t (.dat (.int i)) (.dat (.int j)) P := by
  refine ⟨fun A prv φ s Q cx cy hA R V1 V2 hQ => ?_⟩
  cases V1; cases V2
  exact h hA.hh (hQ.now R hP (.int _ _) _)
variable {P : AV → AS → Prop}
theorem OP2.add {i j : Int} (hP : P (.dat (.int (i + j))) a) : OP2 G n F a (binaryOp .Add) (.dat (.int i)) (.dat (.int j)) P := OP2.ints hP fun _ h => PyProof.Rows.add_int h
theorem OP2.sub {i j : Int} (hP : P (.dat (.int (i - j))) a) : OP2 G n F a (binaryOp .Sub) (.dat (.int i)) (.dat (.int j)) P := OP2.ints hP fun _ h => PyProof.Rows.sub_int h
theorem intBits_small {i : Int} (hi : i.natAbs < 2 ^ 64) : Builtin.Int.intBits i ≤ 64 := intBits_le_64 (by omega) (by omega)
theorem OP2.mul {i j : Int} (hi : i.natAbs < 2 ^ 64) (hP : P (.dat (.int (i * j))) a) : OP2 G n F a (binaryOp .Mult) (.dat (.int i)) (.dat (.int j)) P :=
  OP2.ints hP fun _ h => PyProof.Rows.mul_int h (by
    unfold IntMulOk
    have := intBits_small hi
    intro q
    simp only [Bool.and_eq_true, decide_eq_true_eq] at q
    have e : shortFactorBits = 64 := rfl
    omega)
theorem OP2.fdiv {i j : Int} (h0 : j ≠ 0) (hj : j.natAbs < 1073741824) (hP : P (.dat (.int (i.fdiv j))) a) : OP2 G n F a (binaryOp .FloorDiv) (.dat (.int i)) (.dat (.int j)) P :=
  OP2.ints hP fun _ h => PyProof.Rows.floordiv_int h0 h (.inl (PyProof.noPylong_small hj))
theorem OP2.fmod {i j : Int} (h0 : j ≠ 0) (hP : P (.dat (.int (i.fmod j))) a) : OP2 G n F a (binaryOp .Mod) (.dat (.int i)) (.dat (.int j)) P :=
  OP2.ints hP fun _ h => PyProof.Rows.mod_int' h0 h
theorem OP2.pow {i j : Int} (hi : i.natAbs < 2 ^ 64) (h0 : 0 ≤ j) (hj : j ≤ 100000) (hP : P (.dat (.int (i ^ j.toNat))) a) : OP2 G n F a (binaryOp .Pow) (.dat (.int i)) (.dat (.int j)) P :=
  OP2.ints hP fun _ h => PyProof.Rows.pow_int h0 (by
    have h1 := intBits_small hi
    have h2 : (Builtin.Int.intBits i : Int) * j ≤ 64 * 100000 := Int.mul_le_mul (by omega) hj h0 (by omega)
    omega) h
theorem OP2.shl {i j : Int} (hi : i.natAbs < 2 ^ 64) (h0 : 0 ≤ j) (hj : j ≤ 100000) (hP : P (.dat (.int (i * 2 ^ j.toNat))) a) : OP2 G n F a (binaryOp .LShift) (.dat (.int i)) (.dat (.int j)) P :=
  OP2.ints hP fun _ h => PyProof.Rows.lshift_int h0 (by have h1 := intBits_small hi; omega) h
theorem OP2.shr {i j : Int} (h0 : 0 ≤ j) (hP : P (.dat (.int (i.fdiv (2 ^ j.toNat)))) a) : OP2 G n F a (binaryOp .RShift) (.dat (.int i)) (.dat (.int j)) P :=
  OP2.ints hP fun _ h => PyProof.Rows.rshift_int h0 h
theorem OP2.and {i j : Int} (hP : P (.dat (.int (Builtin.bitAnd i j))) a) : OP2 G n F a (binaryOp .BitAnd) (.dat (.int i)) (.dat (.int j)) P := OP2.ints hP fun _ h => PyProof.Rows.and_int h
theorem OP2.addS {x y : PySem.Str} (hs : x.length + y.length ≤ sizeLine) (hP : P (.dat (.str (x ++ y))) a) : OP2 G n F a (binaryOp .Add) (.dat (.str x)) (.dat (.str y)) P := by
  refine ⟨fun A prv φ s Q cx cy hA R V1 V2 hQ => ?_⟩
  cases V1; cases V2
  exact PyProof.Rows.add_str (fun t' tk => hQ.now R hP (.str _ _) _) hs

/-! ### comparisons -/
theorem EV.cmp {op : CmpOp} {l r : Expr} {pos : Pos} (h : EV G n F a l fun x a1 => EV G n F a1 r fun y a2 => OP2 G n F a2 (compareOp op) x y P) (hm : behindInMarks op r = false := by with_unfolding_all rfl) : EV G n F a (.Compare l [op] [r] pos) P := by
  refine ⟨fun A prv φ s Q hA R hQ => ?_⟩
  refine wpAny_Compare1 (h.go A prv φ s _ hA R fun x a1 φ1 cx s1 hx R1 V1 E1 S1 => hx.go A prv φ1 s1 _ hA R1 fun y a2 φ2 cy s2 hy R2 V2 E2 S2 => ?_) hm
  exact hy.go A prv φ2 s2 Q cx cy hA R2 (V1.after E2 (Nat.le_refl _)) V2 ((hQ.step E1 S1 E1.len).step E2 S2 E2.len)
theorem BT.cmp {op : CmpOp} {l r : Expr} {pos : Pos} {P : Bool → AS → Prop} (h : EV G n F a l fun x a1 => EV G n F a1 r fun y a2 => OP2 G n F a2 (compareOp op) x y fun v a3 => ∃ b, v = .dat (.bool b) ∧ P b a3) (hm : behindInMarks op r = false := by with_unfolding_all rfl) : BT G n F a (.Compare l [op] [r] pos) P := by
  refine ⟨fun A prv φ s Q hA R hQ => ?_⟩
  refine wpAny_isTrue_Compare1 (h.go A prv φ s _ hA R fun x a1 φ1 cx s1 hx R1 V1 E1 S1 => hx.go A prv φ1 s1 _ hA R1 fun y a2 φ2 cy s2 hy R2 V2 E2 S2 => ?_) hm
  refine hy.go A prv φ2 s2 _ cx cy hA R2 (V1.after E2 (Nat.le_refl _)) V2 fun v a3 φ3 cv s3 hP R3 V3 E3 S3 => ?_
  obtain ⟨b, rfl, hP⟩ := hP
  cases V3
  exact wpAny_truthy_bool ((((hQ.step E1 S1 E1.len).step E2 S2 E2.len).step E3 S3 E3.len).now' R3 hP)
theorem OP2.bools {t : Value → Value → Sem Value} {x y : AV} {k : Bool} (hP : P (.dat (.bool k)) a)
    (h : ∀ {A : Around} {prv : Addr → Prop} {φ : List Addr} {s : Shared} {cx cy : Value} {Q : Value → Shared → Prop}, AOk n A → Rel G F prv φ a s.heap → AVR G F.slf φ s.heap (Wf F prv φ a.heap) x cx → AVR G F.slf φ s.heap (Wf F prv φ a.heap) y cy → (∀ t, Q (.bool k) { s with toks := t }) → wpAny (model G.prog G.w) A (t cx cy) Q NoE s) : OP2 G n F a t x y P :=
  ⟨fun A prv φ s Q cx cy hA R V1 V2 hQ => h hA R V1 V2 fun t => hQ.now R hP (.bool k) _⟩
theorem OP2.lt {i j : Int} (hP : P (.dat (.bool (decide (i < j)))) a) : OP2 G n F a (compareOp .Lt) (.dat (.int i)) (.dat (.int j)) P :=
  OP2.bools hP fun _ _ V1 V2 h => by cases V1; cases V2; exact PyProof.Rows.lt_int (h _)
theorem OP2.le {i j : Int} (hP : P (.dat (.bool (decide (i ≤ j)))) a) : OP2 G n F a (compareOp .LtE) (.dat (.int i)) (.dat (.int j)) P :=
  OP2.bools hP fun _ _ V1 V2 h => by cases V1; cases V2; exact PyProof.Rows.le_int (h _)
theorem OP2.ge {i j : Int} (hP : P (.dat (.bool (decide (j ≤ i)))) a) : OP2 G n F a (compareOp .GtE) (.dat (.int i)) (.dat (.int j)) P :=
  OP2.bools hP fun _ _ V1 V2 h => by cases V1; cases V2; exact PyProof.Rows.ge_int (h _)
theorem OP2.eq {i j : Int} (hP : P (.dat (.bool (i == j))) a) : OP2 G n F a (compareOp .Eq) (.dat (.int i)) (.dat (.int j)) P :=
  OP2.bools hP fun _ _ V1 V2 h => by cases V1; cases V2; exact PyProof.Rows.eq_int (h _)
theorem OP2.ne {i j : Int} (hP : P (.dat (.bool (i != j))) a) : OP2 G n F a (compareOp .NotEq) (.dat (.int i)) (.dat (.int j)) P :=
  OP2.bools hP fun _ _ V1 V2 h => by cases V1; cases V2; exact PyProof.Rows.ne_int (h _)
theorem OP2.eqS {x y : PySem.Str} (hP : P (.dat (.bool (x == y))) a) : OP2 G n F a (compareOp .Eq) (.dat (.str x)) (.dat (.str y)) P :=
  OP2.bools hP fun _ _ V1 V2 h => by cases V1; cases V2; exact PyProof.Rows.eq_str (h _)
theorem OP2.isNone (hP : P (.dat (.bool true)) a) : OP2 G n F a (compareOp .Is) (.dat .none) (.dat .none) P :=
  OP2.bools hP fun _ _ V1 V2 h => by cases V1; cases V2; exact wpAny_is_plain rfl (h _)

/-! ### tests -/
section
variable {P : Bool → AS → Prop}
theorem BT.not {x : Expr} {pos : Pos} (h : BT G n F a x fun b a1 => P (!b) a1) : BT G n F a (.UnaryOp .Not x pos) P :=
  ⟨fun A prv φ s Q hA R hQ => wpAny_isTrue_Not (h.go A prv φ s _ hA R fun b a' φ' s' hp R' E' S' => hQ (!b) a' φ' s' hp R' E' S')⟩
theorem BT.and2 {x y : Expr} {pos : Pos} (h : BT G n F a x fun b a1 => if b then BT G n F a1 y P else P false a1) : BT G n F a (.BoolOp .And [x, y] pos) P := by
  refine ⟨fun A prv φ s Q hA R hQ => ?_⟩
  refine isTrue_and (h.go A prv φ s _ hA R fun b a' φ' s' hp R' E' S' => ?_)
  cases b with
  | false => exact (hQ.step E' S' E'.len).now' R' hp
  | true =>
    refine isTrue_and (noE (hp.go A prv φ' s' _ hA R' fun b a'' φ'' s'' hp R'' E'' S'' => ?_))
    have hq := ((hQ.step E' S' E'.len).step E'' S'' E''.len).now' R'' hp
    cases b with
    | false => exact hq
    | true => exact isTrue_and_nil hq
theorem BT.and3 {x y z : Expr} {pos : Pos} (h : BT G n F a x fun b a1 => if b then BT G n F a1 y (fun b a2 => if b then BT G n F a2 z P else P false a2) else P false a1) : BT G n F a (.BoolOp .And [x, y, z] pos) P := by
  refine ⟨fun A prv φ s Q hA R hQ => ?_⟩
  refine isTrue_and (h.go A prv φ s _ hA R fun b a' φ' s' hp R' E' S' => ?_)
  cases b with
  | false => exact (hQ.step E' S' E'.len).now' R' hp
  | true =>
    refine isTrue_and (noE (hp.go A prv φ' s' _ hA R' fun b a'' φ'' s'' hp R'' E'' S'' => ?_))
    have hq := (hQ.step E' S' E'.len).step E'' S'' E''.len
    cases b with
    | false => exact hq.now' R'' hp
    | true =>
      refine isTrue_and (noE (hp.go A prv φ'' s'' _ hA R'' fun b a3 φ3 s3 hp R3 E3 S3 => ?_))
      have hq := (hq.step E3 S3 E3.len).now' R3 hp
      cases b with
      | false => exact hq
      | true => exact isTrue_and_nil hq
/-- any other test -/
theorem BT.plain {e : Expr} (h : EV G n F a e fun v a1 => ∃ i, v = .dat (.int i) ∧ P (i != 0) a1) (he : ∀ whole, isTrue e F.env whole = (do let v ← whole; standAt e.pos; holding [v] (truthy v)) := by intro _; rfl) : BT G n F a e P := by
  refine ⟨fun A prv φ s Q hA R hQ => ?_⟩
  refine isTrue_plain (h.go A prv φ s _ hA R fun v a' φ' cv s' hp R' V' E' S' => ?_) (he _)
  obtain ⟨i, rfl, hp⟩ := hp
  cases V'
  exact PyProof.Rows.truthy_int ((hQ.step E' S' E'.len).now' R' hp)
end
theorem EV.ifexp {t x y : Expr} {pos : Pos} (h : BT G n F a t fun b a1 => if b then EV G n F a1 x P else EV G n F a1 y P) : EV G n F a (.IfExp t x y pos) P := by
  refine ⟨fun A prv φ s Q hA R hQ => ?_⟩
  refine wpAny_IfExp (h.go A prv φ s _ hA R fun b a' φ' s' hp R' E' S' => ?_)
  cases b with
  | false => exact hp.go A prv φ' s' Q hA R' (hQ.step E' S' E'.len)
  | true => exact hp.go A prv φ' s' Q hA R' (hQ.step E' S' E'.len)

/-! ### statements -/
section
variable {P : AFlow → AS → Prop}
theorem EX.nil (hP : P .next a) : EX G n F a [] P := ⟨fun A prv φ s Q hA R hQ => wpAny_execs_nil (hQ.now' R hP rfl)⟩
theorem EX.cons {st : Stmt} {rest : List Stmt} (h : EX1 G n F a st fun f a1 => match f with | .next => EX G n F a1 rest P | f => P f a1) : EX G n F a (st :: rest) P := by
  refine ⟨fun A prv φ s Q hA R hQ => ?_⟩
  refine wpAny_execs_cons (h.go A prv φ s _ hA R fun f a' φ' cf s' hp R' V' E' S' => ?_)
  cases f with
  | next => cases V'; exact hp.go A prv φ' s' Q hA R' (hQ.step E' S' (Nat.le_refl _))
  | brk => cases V'; exact (hQ.step E' S' (Nat.le_refl _)).now' R' hp rfl
  | ret v => obtain ⟨cv, rfl, V⟩ := V'; exact (hQ.step E' S' (Nat.le_refl _)).now' R' hp ⟨cv, rfl, V⟩
theorem EX1.ret {e : Expr} {pos : Pos} (h : EV G n F a e fun v a1 => P (.ret v) a1) : EX1 G n F a (.Return (some e) pos) P := by
  refine ⟨fun A prv φ s Q hA R hQ => ?_⟩
  refine wpAny_Return_some (h.go A prv φ s _ hA R fun v a' φ' cv s' hp R' V' E' S' => ?_)
  exact (hQ.step E' S' R.n0).now' R' hp ⟨cv, rfl, V'⟩
theorem EX1.brk {pos : Pos} (hP : P .brk a) : EX1 G n F a (.Break pos) P := ⟨fun A prv φ s Q hA R hQ => wpAny_Break (hQ.now' R hP rfl)⟩
theorem EX1.iff {t : Expr} {x y : List Stmt} {pos : Pos} (h : BT G n F a t fun b a1 => if b then EX G n F a1 x P else EX G n F a1 y P) : EX1 G n F a (.If t x y pos) P := by
  refine ⟨fun A prv φ s Q hA R hQ => ?_⟩
  refine wpAny_If (h.go A prv φ s _ hA R fun b a' φ' s' hp R' E' S' => ?_)
  cases b with
  | false => exact hp.go A prv φ' s' Q hA R' (hQ.step E' S' R.n0)
  | true => exact hp.go A prv φ' s' Q hA R' (hQ.step E' S' R.n0)
theorem EX1.expr {e : Expr} {pos : Pos} (h : EV G n F a e fun v a1 => P .next a1) (hs : swapsWith e .none pos.line F.env = pure false := by rfl) : EX1 G n F a (.Expr e pos) P := by
  refine ⟨fun A prv φ s Q hA R hQ => ?_⟩
  refine wpAny_Expr_any (h.go A prv φ s _ hA R fun v a' φ' cv s' hp R' V' E' S' => ?_) (by unfold interactive; rw [show F.env.scope.kind = F.sc.kind from rfl, R.kfun]; rfl) hs
  exact (hQ.step E' S' R.n0).now' R' hp rfl

theorem Rel.hp {prv : Addr → Prop} {φ : List Addr} {h : Heap} (R : Rel G F prv φ a h) : (F.env.scope.kind == .class || (F.env.scope.kind == .module && F.env.locals != F.env.globals)) = false := by
  rw [show F.env.scope.kind = F.sc.kind from rfl, R.kfun]; rfl

/-- a name of the frame's own: a local one, or a captured one whose cell is the frame's -/
def Stores (F : Fm) (x : PySem.Str) : Prop := F.sc.names.lookup x = some .local ∨ (F.sc.names.lookup x = some .cell ∧ ∃ c, F.cl.lookup x = some c ∧ c ∈ F.own)

theorem store_var {M : Model} {A : Around} {E : Value → Shared → Prop} {prv : Addr → Prop} {φ : List Addr} {s : Shared} {x : PySem.Str} {v : AV} {cv : Value} {Q : Unit → Shared → Prop} (hx : Stores F x) (R : Rel G F prv φ a s.heap) (V : AVR G F.slf φ s.heap (Wf F prv φ a.heap) v cv)
    (h : ∀ h' t, Rel G F prv φ { a with vars := setV a.vars x v } h' → Ext F.own φ.length φ a.heap s.heap φ a.heap h' → Q () { s with heap := h', toks := t }) : wpAny M A (storeName F.env x cv) Q E s := by
  rcases hx with hx | ⟨hx, c, hc, ho⟩
  · obtain ⟨m, hn, -⟩ := R.vars
    refine wpAny_storeName_local hx hn (fun h' hn' hs => h h' _ (R.storeLocal hx V (fun m' hm' => ?_) hs) ?_) R.hp
    · have : m' = m := funext fun y => by
        obtain ⟨o, es, ep, h1, h2, h3, h4⟩ := hm'
        obtain ⟨o', es', ep', h1', h2', h3', h4'⟩ := hn
        rw [← h4 y, ← h4' y]
        have : o = o' := Option.some.inj (h1.symm.trans h1')
        subst this
        rw [h2] at h2'; cases h2'; rfl
      subst this; exact hn'
    · refine ⟨fun _ _ => rfl, fun b o e h1 _ => (hs.2 b fun q => h1 (q ▸ R.Lown)).trans e, fun b o e => ?_, fun _ q => .inl q⟩
      by_cases q : b = F.L
      · subst q; obtain ⟨o, _, _, e, _⟩ := hn'; exact ⟨o, e⟩
      · exact ⟨o, (hs.2 b q).trans e⟩
  · obtain ⟨⟨v₀, hv₀⟩, -⟩ := R.cown x c hc
    refine wpAny_storeName_cell R.kfun hx hc hv₀ fun h' hc' hs => h h' s.toks (R.storeCell hx hc ho V hc' hs) ?_
    refine ⟨fun _ _ => rfl, fun b o e h1 _ => (hs.2 b fun q => h1 (q ▸ ho)).trans e, fun b o e => ?_, fun _ q => .inl q⟩
    by_cases q : b = c
    · subst q; obtain ⟨o, e, _⟩ := hc'; exact ⟨o, e⟩
    · exact ⟨o, (hs.2 b q).trans e⟩

theorem EX1.set {x : PySem.Str} {p1 pos : Pos} {e : Expr} {vs : List (PySem.Str × AV)} (hx : Stores F x) (h : EV G n F a e fun v a1 => P .next { a1 with vars := setV a1.vars x v }) (hs : swapsWith e (some (.Name x p1)) pos.line F.env = pure false := by rfl) :
    EX1 G n F a (.Assign [.Name x p1] e pos) P := by
  refine ⟨fun A prv φ s Q hA R hQ => ?_⟩
  refine wpAny_Assign_Name (h.go A prv φ s _ hA R fun v a' φ' cv s' hp R' V' E' S' => ?_) hs
  exact store_var hx R' V' fun h' t R'' E'' => ((hQ.step (a' := { a with heap := a' }) E' S' R.n0).step (φ' := φ') (a' := { a with heap := a', vars := setV a.vars x v }) (s' := { s' with heap := h', toks := t }) E'' (.mk' ..) R'.n0).now' R'' hp rfl
theorem EX1.aug {x : PySem.Str} {p1 pos : Pos} {op : Operator} {e : Expr} {u : AV} (hx : Stores F x) (hu : a.vars.lookup x = some u) (h : EV G n F a e fun v a1 => OP2 G n F a1 (inplaceOp op) u v fun v a2 => P .next { a2 with vars := setV a2.vars x v }) :
    EX1 G n F a (.AugAssign (.Name x p1) op e pos) P := by
  refine ⟨fun A prv φ s Q hA R hQ => ?_⟩
  refine wpAny_AugAssign_Name (load_var R hu fun cu Vu => h.go A prv φ s _ hA R fun v a1 φ1 cv s1 hy R1 V1 E1 S1 => ?_)
  refine hy.go A prv φ1 s1 _ cu cv hA R1 (Vu.after E1 (Nat.le_refl _)) V1 fun v a2 φ2 cv s2 hp R2 V2 E2 S2 => ?_
  have hq := (hQ.step (a' := { a with heap := a1 }) E1 S1 R.n0).step (a' := { a with heap := a2 }) E2 S2 R1.n0
  exact store_var hx R2 V2 fun h' t R'' E'' => (hq.step (φ' := φ2) (a' := { a with heap := a2, vars := setV a.vars x v }) (s' := { s2 with heap := h', toks := t }) E'' (.mk' ..) R2.n0).now' R'' hp rfl
end
end
end Mine

namespace Mine
variable {G : Base}

/-! ## lists of arguments -/
variable (G) in
def EVs (n : Nat) (F : Fm) : AS → List Expr → (List AV → AS → Prop) → Prop
  | a, [], P => P [] a
  | a, e :: es, P => EV G n F a e fun v a1 => EVs n F a1 es fun vs a2 => P (v :: vs) a2
def PostL (F : Fm) (prv : Addr → Prop) (φ : List Addr) (a : AS) (s : Shared) (P : List AV → AS → Prop) (Q : List Value → Shared → Prop) : Prop :=
  ∀ v H' φ' cv s', P v { a with heap := H' } → Rel G F prv φ' { a with heap := H' } s'.heap → AVRs G F.slf φ' s'.heap (Wf F prv φ' H') v cv → Ext F.own φ.length φ a.heap s.heap φ' H' s'.heap → Same s s' → Q cv s'
def plainArgs (env : Env) (es : List Expr) : List (Bool × Sem Value) := es.map fun e => (false, eval e env)

def noStar : List Expr → Bool
  | [] => true
  | .Starred _ _ :: _ => false
  | _ :: r => noStar r
theorem starEach_plain (e : Expr) (rest : List Expr) (env : Env) (h : noStar (e :: rest) = true) : starEach (e :: rest) env = (false, eval e env) :: starEach rest env ∧ noStar rest = true := by
  cases e <;> first | exact ⟨rfl, h⟩ | cases h
theorem star_of : ∀ {es : List Expr}, noStar es = true → ∀ env pos, backTo pos (starEach es env) = plainArgs env es
  | [], _, _, _ => rfl
  | e :: es, h, env, pos => by
    obtain ⟨h1, h2⟩ := starEach_plain e es env h
    rw [h1]
    show (false, eval e env) :: backTo pos (starEach es env) = _
    rw [star_of h2 env pos]
    rfl

theorem AVRs.after {F : Fm} {prv : Addr → Prop} {k : Nat} {φ φ' : List Addr} {H H' : List AObj} {h h' : Heap} (x : Ext F.own k φ H h φ' H' h') (hk : φ.length ≤ k) {v : List AV} {cv : List Value}
    (r : AVRs G F.slf φ h (Wf F prv φ H) v cv) : AVRs G F.slf φ' h' (Wf F prv φ' H') v cv :=
  AVRs.ext x.keepW (fun i a e => (x.pre i (Nat.lt_of_lt_of_le (by obtain ⟨q, _⟩ := List.getElem?_eq_some_iff.mp e; exact q) hk)).trans e) r

theorem evs_sound {n : Nat} {F : Fm} {A : Around} {prv : Addr → Prop} (hA : AOk n A) : ∀ (es : List Expr) (a : AS) (φ : List Addr) (s : Shared) (P : List AV → AS → Prop) (Q : List Value → Shared → Prop), EVs G n F a es P → Rel G F prv φ a s.heap → PostL (G := G) F prv φ a s P Q →
    wpAny (model G.prog G.w) A (spliced (plainArgs F.env es)) Q NoE s
  | [], a, φ, s, P, Q, h, R, hQ => PySem.Calls.spliced_nil (hQ [] a.heap φ [] s h R .nil Ext.refl (.refl s))
  | e :: es, a, φ, s, P, Q, h, R, hQ => by
    refine PySem.Calls.spliced_cons (h.go A prv φ s _ hA R fun v a1 φ1 cv s1 h1 R1 V1 E1 S1 => ?_)
    refine evs_sound hA es { a with heap := a1 } φ1 s1 _ _ h1 R1 fun vs a2 φ2 cvs s2 h2 R2 V2 E2 S2 => ?_
    exact hQ (v :: vs) a2 φ2 (cv :: cvs) s2 h2 R2 (.cons (V1.after E2 (Nat.le_refl _)) V2) (E1.trans E2 E1.len) (S1.trans S2)

/-! ## calls -/
def Wp (P : Addr → Prop) (φ : List Addr) (H : List AObj) (b : Addr) : Prop := P b ∨ Wr φ H b
variable (G) in
def CALL (n : Nat) (f : Value) (args : List AV) (H : List AObj) (P : AV → List AObj → Prop) : Prop :=
  ∀ A pr φ s cargs R, AOk n A → HRel G pr φ H s.heap → AVRs G none φ s.heap (Wp pr φ H) args cargs →
    (∀ v H' φ' cv s', P v H' → HRel G pr φ' H' s'.heap → AVR G none φ' s'.heap (Wp pr φ' H') v cv → Ext [] φ.length φ H s.heap φ' H' s'.heap → Same s s' → R (.ok (.ret cv)) s') →
    codeAny (model G.prog G.w) A (.call f ⟨cargs, []⟩) R s

theorem CALL.mono {n : Nat} {f : Value} {args : List AV} {H : List AObj} {P P' : AV → List AObj → Prop} (h : CALL G n f args H P) (hP : ∀ v H', P v H' → P' v H') : CALL G n f args H P' :=
  fun A pr φ s cargs R hA hr V hR => h A pr φ s cargs R hA hr V fun v H' φ' cv s' hp => hR v H' φ' cv s' (hP _ _ hp)

def AV.plain : AV → Bool
  | .slf => false
  | _ => true
theorem AVR.noslf {σ σ' : Option (Addr × Addr)} {φ : List Addr} {h : Heap} {W : Addr → Prop} : ∀ {x : AV} {v : Value}, x.plain = true → AVR G σ φ h W x v → AVR G σ' φ h W x v
  | .dat _, _, _, r => r
  | .ref _, _, _, r => r
  | .inst _, _, _, r => r
  | .con _, _, _, r => r
  | .rng _ _, _, _, r => r
theorem AVR.ofNone {σ' : Option (Addr × Addr)} {φ : List Addr} {h : Heap} {W : Addr → Prop} : ∀ {x : AV} {v : Value}, AVR G none φ h W x v → AVR G σ' φ h W x v
  | .dat _, _, r => r
  | .ref _, _, r => r
  | .inst _, _, r => r
  | .con _, _, r => r
  | .rng _ _, _, r => r
  | .slf, _, ⟨_, h, _⟩ => nomatch h
theorem AVRs.noslf {σ σ' : Option (Addr × Addr)} {φ : List Addr} {h : Heap} {W : Addr → Prop} {xs : List AV} {vs : List Value} (r : AVRs G σ φ h W xs vs) (hx : xs.all AV.plain = true) : AVRs G σ' φ h W xs vs := by
  induction r with
  | nil => exact .nil
  | cons a _ ih =>
    rw [List.all_cons, Bool.and_eq_true] at hx
    exact .cons (a.noslf hx.1) (ih hx.2)

section
variable {F : Fm} {prv : Addr → Prop} {φ φ' : List Addr} {a : AS} {h h' : Heap}
theorem Rel.called (R : Rel G F prv φ a h) {H' : List AObj} (HR : HRel G (Pv F prv) φ' H' h') (E : Ext [] φ.length φ a.heap h φ' H' h') :
    Rel G F prv φ' { a with heap := H' } h' ∧ Ext F.own φ.length φ a.heap h φ' H' h' := by
  have E' : Ext F.own φ.length φ a.heap h φ' H' h' := ⟨E.pre, fun b o e _ h2 => E.step b o e (by simp) h2, E.ex, E.wr⟩
  have nw : ∀ b, Pv F prv b → ¬ Wr φ a.heap b := fun b hb ⟨i, o, h1, _, _⟩ => R.hr.nP b (List.mem_of_getElem? h1) hb
  have hk : ∀ b o, Pv F prv b → h.get? b = some o → h'.get? b = some o := fun b o hb e => E.step b o e (by simp) (nw b hb)
  refine ⟨⟨R.kfun, HR, R.own_prv, R.Lown, fun x c e => ?_, R.cinj, Nat.le_trans R.n0 E.len, ?_, fun x dx e => ?_⟩, E'⟩
  · obtain ⟨⟨v, o, ho, hd⟩, r⟩ := R.cown x c e
    exact ⟨⟨v, o, hk _ _ r.2 ho, hd⟩, r⟩
  · obtain ⟨m, hn, hv⟩ := R.vars
    refine ⟨m, hn.at' fun o e => hk _ o R.Lp e, fun x v e => ?_⟩
    obtain ⟨cv, h1, h2⟩ := hv x v e
    refine ⟨cv, h1.after E' (Nat.le_refl _), ?_⟩
    rcases h2 with h2 | ⟨h2, c, h3, o, h4, h5⟩
    · exact .inl h2
    · exact .inr ⟨h2, c, h3, o, hk _ _ (R.cown _ _ h3).2.2 h4, h5⟩
  · obtain ⟨h1, h2, h3, h4, h5, h6, h7⟩ := R.slf x dx e
    exact ⟨h1, h2, h3, h4, h5, h6, h7.ext E'.keepW (fun o e => hk _ o (.inl h1) e) (fun o e => hk _ o (.inl h2) e)⟩
end

/-- what keeps a callee while it is called -/
def KeepOk (G : Base) (f : Value) : Prop := ∀ h, (∀ b o, G.B.get? b = some o → h.get? b = some o) → ∃ k, (k = Keeper.frame ∨ k = Keeper.machine ∨ k = Keeper.boundFrame) ∧ Looks (model G.prog G.w) h (keeperOf f) k

section
variable {n : Nat} {F : Fm} {a : AS} {P : AV → AS → Prop}
theorem argsTree {es : List Expr} {pos : Pos} (hes : ∀ env pos, backTo pos (starEach es env) = plainArgs env es) (env : Env) : (((backTo pos (starEach es env)).any (·.1) || (backToKw pos (keywordEach [] env)).any (·.1.isNone))) = false := by
  rw [hes]
  have : (plainArgs env es).any (·.1) = false := by
    induction es with
    | nil => rfl
    | cons e es ih => simp [plainArgs]
  rw [this]; rfl
theorem evalArgs_plainArgs {M : Model} {A : Around} {E : Value → Shared → Prop} {s : Shared} {f : Value} {env : Env} {es : List Expr} {Q : Args → Shared → Prop} (h : wpAny M A (spliced (plainArgs env es)) (fun vs s' => Q ⟨vs, []⟩ s') E s) :
    wpAny M A (evalArgs f true (plainArgs env es) []) Q E s := by
  cases es with
  | nil =>
    have : wpAny M A (spliced []) (fun vs s' => Q ⟨vs, []⟩ s') E s := h
    unfold evalArgs
    show wpAny M A (spliced [] >>= _) Q E s
    refine wpAny_bind (wpAny_mono this (fun vs s' h' => ?_) fun _ _ x => x)
    refine wpAny_holding ?_
    exact wpAny_bind (wpAny_pure (wpAny_bind (wpAny_pure (wpAny_pure h'))))
  | cons e es => exact PySem.Calls.evalArgs_plain h

/-- the rows of a call's end -/
theorem Post.called {prv : Addr → Prop} {φ : List Addr} {s : Shared} {Q : Value → Shared → Prop} (hQ : Post (G := G) F prv φ a s P Q) (R : Rel G F prv φ a s.heap) {v : AV} {H' : List AObj} {φ' : List Addr} {cv : Value} {s' : Shared} (hP : P v { a with heap := H' })
    (HR : HRel G (Pv F prv) φ' H' s'.heap) (V : AVR G none φ' s'.heap (Wp (Pv F prv) φ' H') v cv) (E : Ext [] φ.length φ a.heap s.heap φ' H' s'.heap) (S : Same s s') : Q cv s' := by
  obtain ⟨R', E'⟩ := R.called HR E
  exact hQ v _ φ' cv s' hP R' V.ofNone E' S

/-- a call of a thing of the base by its name -/
theorem EV.call {f : PySem.Str} {p1 pos : Pos} {es : List Expr} (h : EV G n F a (.Name f p1) fun c a1 => ∃ fv, c = .con fv ∧ KeepOk G fv ∧ EVs G n F a1 es fun vs a2 => vs.all AV.plain = true ∧ CALL G n fv vs a2.heap fun r H' => P r { a2 with heap := H' })
    (hes : ∀ env pos, backTo pos (starEach es env) = plainArgs env es := by exact star_of rfl) : EV G n F a (.Call (.Name f p1) es [] pos) P := by
  refine ⟨fun A prv φ s Q hA R hQ => ?_⟩
  refine wpAny_Call_Name_kw (h.go A prv φ s _ hA R fun c a1 φ1 cf s1 hc R1 V1 E1 S1 => ?_)
  obtain ⟨fv, rfl, hkeep, hargs⟩ := hc
  have : cf = fv := V1
  subst this
  refine callWith_of (P := fun h => ∀ b o, G.B.get? b = some o → h.get? b = some o) (argsTree hes F.env) hkeep ?_
  rw [hes]
  refine evalArgs_plainArgs (evs_sound hA es { a with heap := a1 } φ1 s1 _ _ hargs R1 fun vs a2 φ2 cvs s2 h2 R2 V2 E2 S2 => ?_)
  refine ⟨R2.base, wpAny_call ?_⟩
  show codeAny _ A (.call cf ⟨[] ++ cvs, []⟩) _ s2
  refine h2.2 A (Pv F prv) φ2 s2 cvs _ hA R2.hr (V2.noslf h2.1) fun v H' φ' cv s' hp HR V E S => ?_
  exact ((hQ.step E1 S1 E1.len).step E2 S2 E2.len).called R2 hp HR V E S

/-! ## a def of the program, by its body -/
structure FnAt (G : Base) (fa : Addr) (fd : FuncData) : Prop where
  at_ : ∃ o, G.B.get? fa = some o ∧ o.data = .func fd
  code : G.B.CodeRec fd.code fd.qualname
  glob : fd.globals = mainGlobals
  clo : fd.closure = []
  blt : fd.builtins = builtinsNs
  co : fd.scope.isCoroutine = false
  gen : fd.scope.isGenerator = false
  fn : fd.scope.kind = .function
def fmOf (fd : FuncData) (L fa : Addr) (k : Nat) : Fm :=
  { sc := fd.scope, L := L, cl := [], qual := fd.qualname ++ ".<locals>.", func := some fa, code := fd.code, frame := some L, own := [L], slf := none, n₀ := k }
theorem fmOf_env {fd : FuncData} (hg : fd.globals = mainGlobals) (hc : fd.closure = []) (hb : fd.builtins = builtinsNs) (L fa : Addr) (k : Nat) : (fmOf fd L fa k).env = callEnv fd L fa := by
  unfold Fm.env fmOf callEnv newEnv
  simp only [hg, hc, hb]

theorem AOk.deeper {n : Nat} {A : Around} (h : AOk (n + 1) A) (env : Env) : AOk n (A.deeper env) where
  hh := h.hh
  dep := by have := h.dep; show A.depth + 1 + 4 * n + 8 < _; omega
  un := by have := h.un; show A.units + 3 + 40 * n + 200 < _; omega

def retOf : AFlow → AV
  | .ret v => v
  | _ => .dat .none
/-- a value that leans on nothing behind the k-th thing -/
def AV.below (k : Nat) : AV → Bool
  | .ref i => decide (i < k)
  | .slf => false
  | _ => true
theorem AVR.pop {σ : Option (Addr × Addr)} {φ : List Addr} {h : Heap} {W W' : Addr → Prop} {k : Nat} (hk : ∀ b, W' b → W b) : ∀ {x : AV} {v : Value}, x.below k = true → AVR G σ φ h W x v → AVR G none (φ.take k) h W' x v := by
  intro x v hx r
  have r' : AVR G σ φ h W' x v := AVR.ext (fun b o e hw => ⟨e, fun q => hw (hk b q)⟩) (fun _ _ e => e) r
  cases x with
  | ref i =>
    obtain ⟨a, h1, h2⟩ := r'
    refine ⟨a, ?_, h2⟩
    rw [List.getElem?_take, if_pos (of_decide_eq_true hx)]; exact h1
  | slf => cases hx
  | _ => exact r'

inductive BindRel (G : Base) (φ : List Addr) (h : Heap) (W : Addr → Prop) : List (PySem.Str × Value) → List (PySem.Str × AV) → Prop
  | nil : BindRel G φ h W [] []
  | cons {x : PySem.Str} {v : Value} {d : AV} {bs : List (PySem.Str × Value)} {vs : List (PySem.Str × AV)} : AVR G none φ h W d v → BindRel G φ h W bs vs → BindRel G φ h W ((x, v) :: bs) ((x, d) :: vs)

theorem CALL.body {fa : Addr} {fd : FuncData} {args : List AV} {H : List AObj} {P : AV → List AObj → Prop} {body : List Stmt} {vars : List (PySem.Str × AV)} (X : FnAt G fa fd) (O : Ok G) (hbody : fd.body = .stmts body)
    (hbind : ∀ (s : Shared) (φ : List Addr) (W : Addr → Prop) (cargs : List Value), (∀ b o, G.B.get? b = some o → s.heap.get? b = some o) → AVRs G none φ s.heap W args cargs →
      ∃ binds, BindsTo s fd ⟨cargs, []⟩ binds ∧ (binds.map (·.1)).Nodup ∧ (∀ x ∈ binds, fd.scope.names.lookup x.1 = some .local) ∧ BindRel G φ s.heap W binds vars)
    (hcell : ∀ x ∈ fd.scope.names, x.2 ≠ .cell)
    (h : ∀ L, EX G n (fmOf fd L fa H.length) ⟨vars, H, []⟩ body fun f a' => (retOf f).below H.length = true ∧ P (retOf f) (a'.heap.take H.length)) : CALL G (n + 1) (.ref fa) args H P := by
  intro A pr φ s cargs R hA HR V hR
  obtain ⟨o, ho, hd⟩ := X.at_
  obtain ⟨binds, hb, hnd, hloc, hbr⟩ := hbind s φ _ cargs HR.base V
  refine codeAny_call_def (fd := fd) (Nat.lt_of_le_of_lt (by omega) hA.dep) (HR.base _ _ ho) hd (O.lim.keeps HR.base) (X.code.keeps HR.base) hbody hb hcell hloc (fun h₀ hns hk => ?_) X.co X.gen X.fn
  rw [← fmOf_env X.glob X.clo X.blt s.heap.objs.size fa H.length]
  have nex : s.heap.get? s.heap.objs.size = none := by
    cases q : s.heap.get? s.heap.objs.size with
    | none => rfl
    | some o => exact absurd (Heap.lt_size q) (Nat.lt_irrefl _)
  have Lex : ∃ o, h₀.get? s.heap.objs.size = some o := let ⟨o, _, _, e, _⟩ := hns; ⟨o, e⟩
  have HR₀ : HRel G (Pv (fmOf fd s.heap.objs.size fa H.length) pr) φ H h₀ := by
    refine HR.widen hk (fun b hb => .inr hb) (fun b hb => ?_) (fun b hb => ?_)
    · rcases hb with hb | hb
      · have : b = s.heap.objs.size := by simpa [fmOf] using hb
        subst this; exact .inr nex
      · exact .inl hb
    · rcases hb with hb | hb
      · have : b = s.heap.objs.size := by simpa [fmOf] using hb
        subst this; exact Lex
      · obtain ⟨o, e⟩ := HR.pex b hb; exact ⟨o, hk _ _ e⟩
  have hkW : ∀ b o, s.heap.get? b = some o → ¬ Wp pr φ H b → h₀.get? b = some o ∧ ¬ Wf (fmOf fd s.heap.objs.size fa H.length) pr φ H b := fun b o e hw => by
    refine ⟨hk b o e, fun q => ?_⟩
    rcases q with (q | q) | q
    · have : b = s.heap.objs.size := by simpa [fmOf] using q
      subst this; rw [nex] at e; cases e
    · exact hw (.inl q)
    · exact hw (.inr q)
  have lookups : ∀ (bs : List (PySem.Str × Value)) (vs : List (PySem.Str × AV)), BindRel G φ s.heap (Wp pr φ H) bs vs → (bs.map (·.1)).Nodup → (∀ x ∈ bs, fd.scope.names.lookup x.1 = some .local) → ∀ x v, vs.lookup x = some v → fd.scope.names.lookup x = some .local ∧ ∃ cv, (x, cv) ∈ bs ∧ AVR G none φ s.heap (Wp pr φ H) v cv := by
    intro bs vs r
    induction r with
    | nil => intro _ _ x v e; cases e
    | @cons y u d bs vs a _ ih =>
      intro hn hl x v e
      rw [List.lookup_cons] at e
      cases q : x == y with
      | true =>
        rw [q] at e; cases e
        have : x = y := eq_of_beq q
        subst this
        exact ⟨hl _ (.head _), u, .head _, a⟩
      | false =>
        rw [q] at e
        obtain ⟨h1, cv, h2, h3⟩ := ih (List.nodup_cons.mp hn).2 (fun z hz => hl z (.tail _ hz)) x v e
        exact ⟨h1, cv, .tail _ h2, h3⟩
  have R₀ : Rel G (fmOf fd s.heap.objs.size fa H.length) pr φ ⟨vars, H, []⟩ h₀ := by
    refine ⟨X.fn, HR₀, fun b hb q => ?_, List.mem_singleton.mpr rfl, fun x c e => (nomatch e), fun x y c e => (nomatch e), by show H.length ≤ φ.length; rw [HR.len]; exact Nat.le_refl _, ⟨_, hns, fun x v e => ?_⟩, fun x dx e => (nomatch e)⟩
    · have : b = s.heap.objs.size := by simpa [fmOf] using hb
      subst this
      obtain ⟨o, e⟩ := HR.pex _ q; rw [nex] at e; cases e
    · obtain ⟨h1, cv, h2, h3⟩ := lookups binds vars hbr hnd hloc x v e
      refine ⟨cv, (AVR.ext hkW (fun _ _ e => e) h3).ofNone, .inl ⟨h1, ?_⟩⟩
      show binds.reverse.lookup x = some cv
      have hn' : (binds.reverse.map (·.1)).Nodup := by rw [List.map_reverse]; exact List.pairwise_reverse.mpr (List.Pairwise.imp (fun h => Ne.symm h) hnd)
      have mem' : (x, cv) ∈ binds.reverse := List.mem_reverse.mpr h2
      clear hns hbr
      generalize binds.reverse = l at hn' mem'
      induction l with
      | nil => cases mem'
      | cons p l ih =>
        rw [List.lookup_cons]
        cases q : x == p.1 with
        | true =>
          rcases List.mem_cons.mp mem' with e | e
          · rw [← e]
          · have : x = p.1 := eq_of_beq q
            exact absurd (List.mem_map_of_mem (f := Prod.fst) e) (by rw [show (x, cv).1 = p.1 from this]; exact (List.nodup_cons.mp hn').1)
        | false =>
          rcases List.mem_cons.mp mem' with e | e
          · rw [← e] at q; simp at q
          · exact ih (List.nodup_cons.mp hn').2 e
  refine noE ((h _).go _ pr φ _ _ (hA.deeper _) R₀ fun f a' φ' cf s' hp R' V' E' S' => ?_)
  obtain ⟨hp1, hp2⟩ := hp
  obtain ⟨HR', hw'⟩ := R'.hr.pop H.length
  have n0 : H.length ≤ φ'.length := R'.n0
  have hlen : φ.length = H.length := HR.len
  have HR'' : HRel G pr (φ'.take H.length) (a'.heap.take H.length) s'.heap := HR'.narrow fun b hb => .inr hb
  have hWW : ∀ b, Wp pr (φ'.take H.length) (a'.heap.take H.length) b → Wf (fmOf fd s.heap.objs.size fa H.length) pr φ' a'.heap b := fun b hb => hb.elim (fun q => .inl (.inr q)) fun q => .inr (hw' b q)
  have Efin : Ext [] φ.length φ H s.heap (φ'.take H.length) (a'.heap.take H.length) s'.heap := by
    refine ⟨fun i hi => ?_, fun b o e _ h2 => ?_, fun b o e => E'.ex b o (hk b o e), fun b hb => ?_⟩
    · rw [List.getElem?_take, if_pos (hlen ▸ hi)]
      exact E'.pre i (hlen ▸ hi)
    · refine E'.step b o (hk b o e) (fun q => ?_) h2
      have : b = s.heap.objs.size := by simpa [fmOf] using q
      subst this; rw [nex] at e; cases e
    · rcases E'.wr b (hw' b hb) with q | q
      · exact .inl q
      · right
        cases z : s.heap.get? b with
        | none => rfl
        | some o => have : h₀.get? b = some o := hk b o z; rw [show ({ s with heap := h₀, toks := s.toks + binds.length } : Shared).heap = h₀ from rfl, this] at q; cases q
  have Sfin : Same s s' := (Same.mk' s h₀ _).trans S'
  cases f with
  | next =>
    have : cf = .next := V'
    subst this
    exact hR _ _ _ _ s' hp2 HR'' .none Efin Sfin
  | brk =>
    have : cf = .brk := V'
    subst this
    exact hR _ _ _ _ s' hp2 HR'' .none Efin Sfin
  | ret v =>
    obtain ⟨cv, rfl, V⟩ := V'
    exact hR v _ _ cv s' hp2 HR'' (V.pop hWW hp1) Efin Sfin
end
end Mine

namespace Mine
variable {G : Base}

/-! ## targets -/
structure ASG (G : Base) (n : Nat) (F : Fm) (a : AS) (tgt : Expr) (v : AV) (P : AS → Prop) : Prop where
  go : ∀ A prv φ s Q cv, AOk n A → Rel G F prv φ a s.heap → AVR G F.slf φ s.heap (Wf F prv φ a.heap) v cv → PostU (G := G) F prv φ a s P Q → wpAny (model G.prog G.w) A (assign tgt F.env cv) Q NoE s

section
variable {n : Nat} {F : Fm} {a : AS}
theorem ASG.name {x : PySem.Str} {p : Pos} {v : AV} {P : AS → Prop} (hx : Stores F x) (hP : P { a with vars := setV a.vars x v }) : ASG G n F a (.Name x p) v P :=
  ⟨fun A prv φ s Q cv hA R V hQ => wpAny_assign_Name (store_var hx R V fun h' t R' E' => hQ { a with vars := setV a.vars x v } φ _ hP R' E' (.mk' ..))⟩

/-- names bound one behind the other -/
def setAll : List (PySem.Str × AV) → List PySem.Str → List DV → List (PySem.Str × AV)
  | vs, x :: xs, d :: ds => setAll (setV vs x (.dat d)) xs ds
  | vs, _, _ => vs
theorem asg_all {A : Around} {prv : Addr → Prop} (hA : AOk n A) : ∀ (ts : List (PySem.Str × Pos)) (ds : List DV) (cvs : List Value) (a : AS) (φ : List Addr) (s : Shared) (P : AS → Prop) (Q : Unit → Shared → Prop), (∀ t ∈ ts, Stores F t.1) → ts.length = ds.length → Rel G F prv φ a s.heap → VRs G.prog G.w s.heap (Wf F prv φ a.heap) cvs ds →
    P { a with vars := setAll a.vars (ts.map (·.1)) ds } → PostU (G := G) F prv φ a s P Q → wpAny (model G.prog G.w) A (assignInOrder (ts.map fun t => assign (.Name t.1 t.2) F.env) cvs) Q NoE s
  | [], ds, cvs, a, φ, s, P, Q, hx, hl, R, V, hP, hQ => by
    have : ds = [] := by simpa using hl.symm
    subst this
    have z : Q () s := hQ a φ s hP R Ext.refl (.refl s)
    cases cvs <;> exact wpAny_pure z
  | t :: ts, [], cvs, a, φ, s, P, Q, hx, hl, R, V, hP, hQ => by cases hl
  | t :: ts, d :: ds, cvs, a, φ, s, P, Q, hx, hl, R, V, hP, hQ => by
    cases V with
    | @cons cv cvs _ _ V Vs =>
      show wpAny _ A (holding cvs (assign (.Name t.1 t.2) F.env cv) >>= fun _ => assignInOrder (ts.map fun t => assign (.Name t.1 t.2) F.env) cvs) Q NoE s
      refine wpAny_bind (wpAny_holding (wpAny_assign_Name (store_var (v := .dat d) (hx t (.head _)) R V fun h' k R' E' => ?_)))
      have hW := Ext.keepW (F := F) (prv := prv) E'
      refine asg_all hA ts ds cvs _ φ _ P Q (fun t ht => hx t (.tail _ ht)) (by simpa using hl) R' (VRs.ext hW Vs) hP (hQ.step (a' := { a with vars := setV a.vars t.1 (.dat d) }) (s' := { s with heap := h', toks := k }) E' (.mk' ..) (Nat.le_refl _))

theorem ASG.tuple {elts : List Expr} {k : Nat} {p : Pos} {ds : List DV} {P : AS → Prop} {ts : List (PySem.Str × Pos)} (hes : elts = ts.map fun t => .Name t.1 t.2) (hx : ∀ t ∈ ts, Stores F t.1) (hl : ts.length = ds.length) (hP : P { a with vars := setAll a.vars (ts.map (·.1)) ds }) :
    ASG G n F a (.Tuple elts k p) (.dat (.tup ds)) P := by
  refine ⟨fun A prv φ s Q cv hA R V hQ => ?_⟩
  subst hes
  rw [PyProof.Rows.assign_Tuple]
  refine wpAny_bind (wpAny_standAt ?_)
  cases V with
  | @tup ad m vs _ ho hw hvs =>
    have e1 : ∀ ts : List (PySem.Str × Pos), assignEach (ts.map fun t => Expr.Name t.1 t.2) F.env = ts.map fun t => (false, assign (.Name t.1 t.2) F.env) := by
      intro ts
      induction ts with
      | nil => rfl
      | cons t ts ih => show (false, assign (.Name t.1 t.2) F.env) :: assignEach (ts.map fun t => Expr.Name t.1 t.2) F.env = _; rw [ih]; rfl
    rw [e1]
    refine unpack_tuple hA.hh ⟨_, ho, rfl, m, rfl⟩ (by rw [List.length_map, hl, ← hvs.length]; simp) (by
      rw [List.findIdx?_eq_none_iff]
      intro x hx
      obtain ⟨t, _, rfl⟩ := List.mem_map.mp hx
      rfl) fun h' he => ?_
    have hk : ∀ b o, s.heap.get? b = some o → h'.get? b = some o := fun b o e => he b o (Nat.ne_of_lt (Heap.lt_size e)) e
    rw [show (ts.map fun t => (false, assign (.Name t.1 t.2) F.env)).map (·.2) = ts.map fun t => assign (.Name t.1 t.2) F.env by rw [List.map_map]; rfl]
    exact asg_all hA ts ds vs.toList a φ _ P Q hx hl (R.keeps hk) (hvs.ext fun b o e hw => ⟨hk b o e, hw⟩) hP (hQ.step (a' := a) (s' := { s with heap := h' }) (Ext.keeps hk) (.mk' s h' s.toks) (Nat.le_refl _))
end

/-! ## iterators -/
structure Iter (G : Base) (A : Around) (h1 : Heap) (W1 : Addr → Prop) (tgt : Expr) (items : List DV) (I : Addr) (h2 : Heap) where
  fp : List Addr
  Pk : Nat → Value → Prop
  St : Nat → Heap → Prop
  walks : Walks G.prog G.w A I fp [I] items.length Pk St
  st : St 0 h2
  fpok : ∀ b ∈ fp, b = I ∨ (¬ W1 b ∧ ∃ o, h1.get? b = some o)
  ex : ∀ k h, St k h → ∃ o, h.get? I = some o
  val : ∀ k v, Pk k v → k < items.length → ∃ d, items[k]? = some d ∧ ∀ h' W', (∀ b o, h1.get? b = some o → ¬ W1 b → h'.get? b = some o ∧ ¬ W' b) → VR G.prog G.w h' W' v d
  letgo : ∀ k (s : Shared) v (Q : Unit → Shared → Prop), St k s.heap → Q () s → wpAny (model G.prog G.w) A (letOwnedTupleGo tgt (.ref I) v) Q NoE s

theorem Iter.mk' {G : Base} {A : Around} {h1 : Heap} {W1 : Addr → Prop} {tgt : Expr} {items : List DV} {I : Addr} {h2 : Heap} {fp : List Addr} {n : Nat} {Pk : Nat → Value → Prop} {St : Nat → Heap → Prop}
    (W : Walks G.prog G.w A I fp [I] n Pk St) (hn : n = items.length) (st : St 0 h2) (fpok : ∀ b ∈ fp, b = I ∨ (¬ W1 b ∧ ∃ o, h1.get? b = some o)) (ex : ∀ k h, St k h → ∃ o, h.get? I = some o)
    (val : ∀ k v, Pk k v → k < items.length → ∃ d, items[k]? = some d ∧ ∀ h' W', (∀ b o, h1.get? b = some o → ¬ W1 b → h'.get? b = some o ∧ ¬ W' b) → VR G.prog G.w h' W' v d)
    (letgo : ∀ k (s : Shared) v (Q : Unit → Shared → Prop), St k s.heap → Q () s → wpAny (model G.prog G.w) A (letOwnedTupleGo tgt (.ref I) v) Q NoE s) : Nonempty (Iter G A h1 W1 tgt items I h2) :=
  ⟨⟨fp, Pk, St, hn ▸ W, st, fpok, ex, val, letgo⟩⟩
theorem letgo_of {M : Model} {A : Around} {s : Shared} {tgt : Expr} {I : Addr} {v : Value} {Q : Unit → Shared → Prop} {o : Obj} {T : String} {vs : Array Value} (ho : s.heap.get? I = some o) (hc : o.cls = .type T) (hd : o.data = .fields vs)
    (hT : ["enumerate", "zip", "dict_itemiterator", "dict_reverseitemiterator", "odict_iterator", "itertools.zip_longest", "itertools.pairwise"].contains T = false) (h : Q () s) : wpAny M A (letOwnedTupleGo tgt (.ref I) v) Q NoE s := by
  unfold letOwnedTupleGo
  split
  all_goals first
    | exact wpAny_pure h
    | (cases v with
       | ref b =>
         refine wpAny_bind (wpAny_load ho ?_)
         simp only [hc, hd, hT, Bool.false_and, Bool.false_eq_true, if_false]
         exact wpAny_pure h
       | _ => exact wpAny_pure h)

/-- the items that a walk over a value gives, for a target -/
inductive ItemsOf : AV → Expr → List DV → Prop
  | list (xs : List DV) (t : Expr) : ItemsOf (.dat (.list xs)) t xs
  | tup (xs : List DV) (t : Expr) : ItemsOf (.dat (.tup xs)) t xs
  | str (x : PySem.Str) (y : PySem.Str) (p : Pos) : ItemsOf (.dat (.str x)) (.Name y p) (x.cps.toList.map fun c => .str ⟨#[c]⟩)
  | idict (kvs : List (Int × Int)) (t : Expr) : ItemsOf (.dat (.idict kvs)) t (kvs.map fun p => .int p.1)
  | rng (i j : Int) (t : Expr) (hi : -(2 ^ 62) < i) (hi' : i < 2 ^ 62) (hj : -(2 ^ 62) < j) (hj' : j < 2 ^ 62) : ItemsOf (.rng i j) t ((List.range (j - i).toNat).map fun (k : Nat) => .int (i + (k : Int)))

theorem IntVals.length : ∀ {kvs : List (Int × Value)} {ys : List (Int × Int)}, IntVals kvs ys → kvs.length = ys.length
  | _, _, .nil => rfl
  | _, _, .cons _ _ _ r => by simp [IntVals.length r]
theorem IntVals.get : ∀ {kvs : List (Int × Value)} {ys : List (Int × Int)}, IntVals kvs ys → ∀ {i : Nat} {k : Int} {v : Value}, kvs[i]? = some (k, v) → ∃ n t, v = .int n t ∧ ys[i]? = some (k, n)
  | _, _, .nil, i, _, _, e => by simp at e
  | _, _, .cons k n t r, 0, _, _, e => by simp at e; obtain ⟨rfl, rfl⟩ := e; exact ⟨n, t, rfl, rfl⟩
  | _, _, .cons k n t r, i + 1, _, _, e => by simpa using IntVals.get r (by simpa using e)

theorem rangeSize_eq (i j : Int) : Builtin.Range.rangeSize i j 1 = ((j - i).toNat : Int) := by
  unfold Builtin.Range.rangeSize
  simp only [show (1 : Int) > 0 from by decide, if_true, Int.ediv_one]
  split <;> omega
theorem fitsLong_of {x : Int} (h1 : -(2 ^ 63) ≤ x) (h2 : x < 2 ^ 63) : Builtin.Range.rangeFitsLong x = true := by
  unfold Builtin.Range.rangeFitsLong
  simp only [Bool.and_eq_true, decide_eq_true_eq]
  exact ⟨h1, h2⟩

theorem iter_ok {n : Nat} {F : Fm} {a : AS} {A : Around} {prv : Addr → Prop} {φ : List Addr} {s : Shared} {v : AV} {cv : Value} {tgt : Expr} {items : List DV} {Q : Value → Shared → Prop} (I : ItemsOf v tgt items) (hA : AOk n A) (R : Rel G F prv φ a s.heap) (V : AVR G F.slf φ s.heap (Wf F prv φ a.heap) v cv)
    (hQ : ∀ I h2, s.heap.get? I = none → (∀ b o, s.heap.get? b = some o → h2.get? b = some o) → Nonempty (Iter G A s.heap (Wf F prv φ a.heap) tgt items I h2) → Q (.ref I) { s with heap := h2 }) :
    wpAny (model G.prog G.w) A (pyIter cv) Q NoE s := by
  have hnew : s.heap.get? s.heap.objs.size = none := by
    cases q : s.heap.get? s.heap.objs.size with
    | none => rfl
    | some o => exact absurd (Heap.lt_size q) (Nat.lt_irrefl _)
  have hpush : ∀ (o : Obj) b o', s.heap.get? b = some o' → (s.heap.push o).get? b = some o' := fun o b o' e => Heap.get?_push_of_some _ e
  cases I with
  | list xs =>
    cases V with
    | @list ad m vs _ ho hw hvs =>
      have hne : ad ≠ s.heap.objs.size := Nat.ne_of_lt (Heap.lt_size ho)
      refine wpAny_pyIter_list ⟨_, ho, rfl, m, rfl⟩ (hQ _ _ hnew (hpush _) ?_)
      refine Iter.mk' (Walks.list hA.hh s.heap.objs.size ad hne vs) (by rw [← hvs.length]; simp) ⟨⟨_, Heap.get?_push_size _ rfl, rfl, rfl⟩, _, hpush _ _ _ ho, rfl, m, rfl⟩ (fun b hb => ?_) (fun k h ⟨⟨o, e, _⟩, _⟩ => ⟨o, e⟩) (fun k v e hk => ?_) (fun k s v Q ⟨⟨o, h1, h2, h3⟩, _⟩ q => letgo_of h1 h2 h3 (by decide +kernel) q)
      · rcases List.mem_cons.mp hb with rfl | hb
        · exact .inl rfl
        · rw [List.mem_singleton] at hb; subst hb; exact .inr ⟨hw, _, ho⟩
      · obtain ⟨d, h1, h2⟩ := hvs.get' (i := k) (v := v) (by simpa using e)
        exact ⟨d, h1, fun h' W' hk => h2.ext hk⟩
  | tup xs =>
    cases V with
    | @tup ad m vs _ ho hw hvs =>
      have hne : ad ≠ s.heap.objs.size := Nat.ne_of_lt (Heap.lt_size ho)
      refine wpAny_pyIter_tuple ⟨_, ho, rfl, m, rfl⟩ (hQ _ _ hnew (hpush _) ?_)
      refine Iter.mk' (Walks.tuple hA.hh s.heap.objs.size ad hne vs) (by rw [← hvs.length]; simp) ⟨⟨_, Heap.get?_push_size _ rfl, rfl, rfl⟩, _, hpush _ _ _ ho, rfl, m, rfl⟩ (fun b hb => ?_) (fun k h ⟨⟨o, e, _⟩, _⟩ => ⟨o, e⟩) (fun k v e hk => ?_) (fun k s v Q ⟨⟨o, h1, h2, h3⟩, _⟩ q => letgo_of h1 h2 h3 (by decide +kernel) q)
      · rcases List.mem_cons.mp hb with rfl | hb
        · exact .inl rfl
        · rw [List.mem_singleton] at hb; subst hb; exact .inr ⟨hw, _, ho⟩
      · obtain ⟨d, h1, h2⟩ := hvs.get' (i := k) (v := v) (by simpa using e)
        exact ⟨d, h1, fun h' W' hk => h2.ext hk⟩
  | str x y p =>
    cases V with
    | str _ t =>
      have val : ∀ k v, SignAt x k v → k < (x.cps.toList.map fun c => DV.str ⟨#[c]⟩).length → ∃ d, (x.cps.toList.map fun c => DV.str ⟨#[c]⟩)[k]? = some d ∧ ∀ h' W', (∀ b o, s.heap.get? b = some o → ¬ Wf F prv φ a.heap b → h'.get? b = some o ∧ ¬ W' b) → VR G.prog G.w h' W' v d := by
        rintro k v ⟨c, u, h1, rfl⟩ _
        refine ⟨_, ?_, fun h' W' _ => .str _ u⟩
        rw [List.getElem?_map]
        have : x.cps.toList[k]? = some c := by simpa using h1
        rw [this]; rfl
      cases ha : x.cps.all (· < 128)
      · refine wpAny_pyIter_wide ha (hQ _ _ hnew (hpush _) ?_)
        exact Iter.mk' (Walks.strWide hA.hh s.heap.objs.size x t) (by simp) ⟨_, Heap.get?_push_size _ rfl, rfl, rfl⟩ (fun b hb => .inl (List.mem_singleton.mp hb)) (fun k h ⟨o, e, _⟩ => ⟨o, e⟩) val (fun k s v Q st q => wpAny_pure q)
      · refine wpAny_pyIter_ascii ha (hQ _ _ hnew (hpush _) ?_)
        exact Iter.mk' (Walks.strAscii hA.hh s.heap.objs.size x t) (by simp) ⟨_, Heap.get?_push_size _ rfl, rfl, rfl⟩ (fun b hb => .inl (List.mem_singleton.mp hb)) (fun k h ⟨o, e, _⟩ => ⟨o, e⟩) val (fun k s v Q st q => wpAny_pure q)
  | idict kvs =>
    cases V with
    | @idict ad ep kvs' _ hd hw hsys hv =>
      have hex : ∃ o, s.heap.get? ad = some o := let ⟨o, _, e, _⟩ := hd; ⟨o, e⟩
      obtain ⟨od, hod⟩ := hex
      have hne : ad ≠ s.heap.objs.size := Nat.ne_of_lt (Heap.lt_size hod)
      refine wpAny_pyIter_dict hsys hd (hQ _ _ hnew (hpush _) ?_)
      refine Iter.mk' (Walks.dictKeys hA.hh s.heap.objs.size ad hne kvs' ep) (by simp [hv.length]) ⟨⟨_, Heap.get?_push_size _ rfl, rfl, rfl⟩, dictAt_at hd fun o e => hpush _ _ _ e⟩ (fun b hb => ?_) (fun k h ⟨⟨o, e, _⟩, _⟩ => ⟨o, e⟩) (fun k v e hk => ?_) (fun k s v Q ⟨⟨o, h1, h2, h3⟩, _⟩ q => letgo_of h1 h2 h3 (by decide +kernel) q)
      · rcases List.mem_cons.mp hb with rfl | hb
        · exact .inl rfl
        · rw [List.mem_singleton] at hb; subst hb; exact .inr ⟨hw, _, hod⟩
      · obtain ⟨key, x, h1, h2⟩ := e
        obtain ⟨m, t, rfl, h3⟩ := hv.get h1
        obtain ⟨t', rfl⟩ := Value.isInt_shape h2
        exact ⟨.int key, by rw [List.getElem?_map, h3]; rfl, fun h' W' _ => .int _ _⟩
  | rng i j _ hi hi' hj hj' =>
    obtain ⟨r, t, u, q, rfl, hr, hw⟩ := V
    refine wpAny_pyIter_range hr ?_ (hQ _ _ hnew (hpush _) ?_)
    · unfold Builtin.Range.small
      rw [rangeSize_eq, fitsLong_of (by omega) (by omega), fitsLong_of (by omega) (by omega), fitsLong_of (by decide) (by decide), fitsLong_of (by omega) (by omega)]
      simp only [Bool.and_self, Bool.true_and, Bool.or_eq_true]
      right
      rw [if_pos (by decide)]
      exact fitsLong_of (by omega) (by omega)
    · refine Iter.mk' (Walks.range hA.hh s.heap.objs.size i 1 (j - i).toNat) (by simp) ?_ (fun b hb => .inl (List.mem_singleton.mp hb)) (fun k h st => ⟨_, st⟩) (fun k v e hk => ?_) (fun k s v Q st q => letgo_of st rfl rfl (by decide +kernel) q)
      · have := Heap.get?_push_size (o := { cls := .type "range_iterator", data := .fields #[rawInt i, rawInt (Builtin.Range.rangeSize i j 1), rawInt 1] }) s.heap rfl
        rw [rangeSize_eq] at this ⊢
        simpa using this
      · obtain ⟨t, rfl⟩ := e
        rw [List.length_map, List.length_range] at hk
        refine ⟨.int (i + (k : Int)), by rw [List.getElem?_map, List.getElem?_range hk]; rfl, fun h' W' _ => ?_⟩
        rw [Int.mul_one]
        exact .int _ _
end Mine

namespace Mine
variable {G : Base}

/-- the private ones with one more -/
def And1 (prv : Addr → Prop) (I : Addr) (b : Addr) : Prop := prv b ∨ b = I

section
variable {F : Fm} {prv : Addr → Prop} {φ φ' : List Addr} {a : AS} {h h' : Heap} {I : Addr}
theorem Rel.fresh_not (R : Rel G F prv φ a h) (hn : h.get? I = none) : ¬ Pv F prv I := fun q => by obtain ⟨o, e⟩ := R.hr.pex I q; rw [e] at hn; cases hn
theorem Rel.cells_ne (R : Rel G F prv φ a h) (hn : h.get? I = none) : ∀ x c, F.cl.lookup x = some c → c ≠ I := fun x c e q => by
  obtain ⟨⟨_, o, e', _⟩, _⟩ := R.cown x c e
  rw [q, hn] at e'; cases e'
theorem Rel.widenIt (R : Rel G F prv φ a h) (hn : h.get? I = none) (hk : ∀ b o, h.get? b = some o → h'.get? b = some o) (hx : ∃ o, h'.get? I = some o) : Rel G F (And1 prv I) φ a h' := by
  have hP : ∀ b, Pv F (And1 prv I) b → Pv F prv b ∨ b = I := fun b hb => by
    rcases hb with hb | hb | hb
    · exact .inl (.inl hb)
    · exact .inl (.inr hb)
    · exact .inr hb
  have hP' : ∀ b, Pv F prv b → Pv F (And1 prv I) b := fun b hb => hb.elim .inl fun q => .inr (.inl q)
  have hkW : ∀ b o, h.get? b = some o → ¬ Wf F prv φ a.heap b → h'.get? b = some o ∧ ¬ Wf F (And1 prv I) φ a.heap b := fun b o e hw => by
    refine ⟨hk b o e, fun q => ?_⟩
    rcases q with q | q
    · rcases hP b q with q | q
      · exact hw (.inl q)
      · rw [q, hn] at e; cases e
    · exact hw (.inr q)
  refine ⟨R.kfun, R.hr.widen hk hP' (fun b hb => (hP b hb).elim .inl fun q => .inr (q ▸ hn)) (fun b hb => ?_), fun b hb q => ?_, R.Lown, fun x c e => ?_, R.cinj, R.n0, ?_, fun x dx e => ?_⟩
  · rcases hP b hb with q | q
    · obtain ⟨o, e⟩ := R.hr.pex b q; exact ⟨o, hk _ _ e⟩
    · exact q ▸ hx
  · rcases q with q | q
    · exact R.own_prv b hb q
    · exact R.fresh_not hn (.inl (q ▸ hb))
  · obtain ⟨⟨v, o, ho, hd⟩, r1, r2⟩ := R.cown x c e
    exact ⟨⟨v, o, hk _ _ ho, hd⟩, r1, hP' _ r2⟩
  · obtain ⟨m, hm, hv⟩ := R.vars
    refine ⟨m, hm.keeps hk, fun x v e => ?_⟩
    obtain ⟨cv, h1, h2⟩ := hv x v e
    refine ⟨cv, AVR.ext hkW (fun _ _ e => e) h1, ?_⟩
    rcases h2 with h2 | ⟨h2, c, h3, o, h4, h5⟩
    · exact .inl h2
    · exact .inr ⟨h2, c, h3, o, hk _ _ h4, h5⟩
  · obtain ⟨h1, h2, h3, h4, h5, h6, h7⟩ := R.slf x dx e
    exact ⟨h1, h2, h3, h4, h5, h6, h7.ext hkW (fun o e => hk _ o e) (fun o e => hk _ o e)⟩

theorem wf_narrow {H : List AObj} {b : Addr} (hb : Wf F prv φ H b) : Wf F (And1 prv I) φ H b := by
  rcases hb with (hb | hb) | hb
  · exact .inl (.inl hb)
  · exact .inl (.inr (.inl hb))
  · exact .inr hb
/-- the one more is gone; it may have turned -/
theorem Rel.dropIt (R : Rel G F (And1 prv I) φ a h) (hn : ¬ Pv F prv I) (hc : ∀ x c, F.cl.lookup x = some c → c ≠ I) (hcP : ∀ x c, F.cl.lookup x = some c → Pv F prv c) (hk : ∀ b o, b ≠ I → h.get? b = some o → h'.get? b = some o) : Rel G F prv φ a h' := by
  have hP' : ∀ b, Pv F prv b → Pv F (And1 prv I) b := fun b hb => hb.elim .inl fun q => .inr (.inl q)
  have Ip : Pv F (And1 prv I) I := .inr (.inr rfl)
  have hkW : ∀ b o, h.get? b = some o → ¬ Wf F (And1 prv I) φ a.heap b → h'.get? b = some o ∧ ¬ Wf F prv φ a.heap b := fun b o e hw => ⟨hk b o (fun q => hw (.inl (q ▸ Ip))) e, fun q => hw (wf_narrow q)⟩
  have nI : ∀ b, Pv F prv b → b ≠ I := fun b hb q => hn (q ▸ hb)
  refine ⟨R.kfun, ⟨fun b o e => hk b o (fun q => ?_) (R.hr.base b o e), R.hr.len, R.hr.inj, fun b hb q => R.hr.nP b hb (hP' b q), fun b hb => R.hr.pB b (hP' b hb), R.hr.φB, fun b hb => ?_, fun b hb => ?_, fun i b o h1 h2 => ?_⟩, fun b hb q => R.own_prv b hb (.inl q), R.Lown, fun x c e => ?_, R.cinj, R.n0, ?_, fun x dx e => ?_⟩
  · have := R.hr.pB I Ip; rw [q, this] at e; cases e
  · obtain ⟨o, e⟩ := R.hr.ex b hb; exact ⟨o, hk b o (fun q => R.hr.nP b hb (q ▸ Ip)) e⟩
  · obtain ⟨o, e⟩ := R.hr.pex b (hP' b hb); exact ⟨o, hk b o (nI b hb) e⟩
  · exact ORel.ext hkW (fun o e => hk _ o (fun q => R.hr.nP b (List.mem_of_getElem? h1) (q ▸ Ip)) e) (R.hr.obj i b o h1 h2)
  · obtain ⟨⟨v, o, ho, hd⟩, r1, r2⟩ := R.cown x c e
    exact ⟨⟨v, o, hk _ _ (hc x c e) ho, hd⟩, r1, hcP x c e⟩
  · obtain ⟨m, hm, hv⟩ := R.vars
    refine ⟨m, hm.at' fun o e => hk _ o (nI _ (.inl R.Lown)) e, fun x v e => ?_⟩
    obtain ⟨cv, h1, h2⟩ := hv x v e
    refine ⟨cv, AVR.ext hkW (fun _ _ e => e) h1, ?_⟩
    rcases h2 with h2 | ⟨h2, c, h3, o, h4, h5⟩
    · exact .inl h2
    · exact .inr ⟨h2, c, h3, o, hk _ _ (hc _ _ h3) h4, h5⟩
  · obtain ⟨h1, h2, h3, h4, h5, h6, h7⟩ := R.slf x dx e
    exact ⟨h1, h2, h3, h4, h5, h6, h7.ext hkW (fun o e => hk _ o (nI _ (.inl h1)) e) (fun o e => hk _ o (nI _ (.inl h2)) e)⟩
theorem AVR.narrowIt {H : List AObj} {v : AV} {cv : Value} (V : AVR G F.slf φ h (Wf F (And1 prv I) φ H) v cv) : AVR G F.slf φ h (Wf F prv φ H) v cv :=
  AVR.ext (fun b o e hw => ⟨e, fun q => hw (wf_narrow q)⟩) (fun _ _ e => e) V
theorem Ext.turned {own : List Addr} {k : Nat} {H H' : List AObj} {h'' : Heap} (E : Ext own k φ H h φ' H' h') (hn : h.get? I = none) (hk : ∀ b o, b ≠ I → h'.get? b = some o → h''.get? b = some o) : Ext own k φ H h φ' H' h'' :=
  ⟨E.pre, fun b o e h1 h2 => hk b o (fun q => by rw [q, hn] at e; cases e) (E.step b o e h1 h2), fun b o e => let ⟨o', e'⟩ := E.ex b o e; ⟨o', hk b o' (fun q => by rw [q, hn] at e; cases e) e'⟩, E.wr⟩
end

theorem Ext.cut {own : List Addr} {k k' : Nat} {φ φ' : List Addr} {H H' : List AObj} {h h' : Heap} (E : Ext own k φ H h φ' H' h') (hk : k' ≤ k) : Ext own k' φ H h φ' H' h' :=
  ⟨fun i hi => E.pre i (Nat.lt_of_lt_of_le hi hk), E.step, E.ex, E.wr⟩

section
variable {n : Nat} {F : Fm} {a : AS} {P : AFlow → AS → Prop}
theorem EX1.for_ {tgt iter : Expr} {body orelse : List Stmt} {pos : Pos}
    (h : EV G n F a iter fun v a1 => ∃ items, ItemsOf v tgt items ∧ ∃ Inv : Nat → AS → Prop, Inv 0 a1 ∧
      (∀ k d a2, items[k]? = some d → Inv k a2 → ASG G n F a2 tgt (.dat d) fun a3 => EX G n F a3 body fun f a4 => match f with | .next => Inv (k + 1) a4 | .brk => P .next a4 | .ret v => P (.ret v) a4) ∧
      (∀ a2, Inv items.length a2 → EX G n F a2 orelse P))
    (hs : ∀ x, foldedSetIterable iter F.env x = pure x := by intro _; rfl) : EX1 G n F a (.For tgt iter body orelse pos) P := by
  refine ⟨fun A prv φ s Q hA R hQ => ?_⟩
  refine wpAny_For (h.go A prv φ s _ hA R fun v H1 φ1 cv s1 hv R1 V1 E1 S1 => ?_) hs
  obtain ⟨items, hI, Inv, h0, turn, fin⟩ := hv
  refine iter_ok hI hA R1 V1 fun I h2 hnew hk ⟨it⟩ => ?_
  have hQ1 := hQ.step (a' := { a with heap := H1 }) E1 S1 R.n0
  have hcI := R1.cells_ne hnew
  have hnI := R1.fresh_not hnew
  have hcP : ∀ x c, F.cl.lookup x = some c → Pv F prv c := fun x c e => (R1.cown x c e).2.2
  refine codeAny_forLoop_any (fun m s' => ∃ k a' φ', m = items.length - k ∧ k ≤ items.length ∧ Inv k a' ∧ Rel G F (And1 prv I) φ' a' s'.heap ∧ Ext F.own F.n₀ φ1 H1 s1.heap φ' a'.heap s'.heap ∧ Same s1 s' ∧ it.St k s'.heap) ?_ items.length
    ⟨0, _, φ1, by omega, Nat.zero_le _, h0, R1.widenIt hnew hk (it.ex _ _ it.st), Ext.keeps hk, .mk' s1 h2 s1.toks, it.st⟩
  rintro m s' ⟨k, a', φ', rfl, hk', hInv, R', E', S', st⟩
  by_cases hlt : k < items.length
  · refine it.walks.item k s' _ _ hlt st fun v h3 tk hv st3 hk3 => ?_
    have hk3' : ∀ b o, b ≠ I → s'.heap.get? b = some o → h3.get? b = some o := fun b o q e => hk3 b o (by simpa using q) e
    obtain ⟨d, hd, hval⟩ := it.val k v hv hlt
    refine noE (it.letgo (k + 1) _ v _ st3 ?_)
    have R3 := R'.turned I (.inr rfl) hcI hk3' (it.ex _ _ st3)
    have E3 := E'.turned hnew hk3'
    have V := hval h3 (Wf F (And1 prv I) φ' a'.heap) fun b o e hw => by
      have z := Ext.keepW (F := F) (prv := prv) E3 b o e hw
      refine ⟨z.1, fun q => ?_⟩
      rcases q with (q | q | q) | q
      · exact z.2 (.inl (.inl q))
      · exact z.2 (.inl (.inr q))
      · rw [q, hnew] at e; cases e
      · exact z.2 (.inr q)
    refine noE ((turn k d a' hd hInv).go A (And1 prv I) φ' { s' with heap := h3, toks := tk } _ v hA R3 V fun a3 φ3 s3 hP R4 E4 S4 => ?_)
    refine noE (hP.go A (And1 prv I) φ3 s3 _ hA R4 fun f a4 φ4 cf s4 hf R5 F5 E5 S5 => ?_)
    have E45 := Ext.trans (E4.cut R'.n0) E5 (Nat.le_refl _)
    have E15 := E3.trans E45 (Nat.le_refl _)
    have S15 : Same s1 s4 := (S'.trans (.mk' s' h3 tk)).trans (S4.trans S5)
    have R5' : Rel G F prv φ4 a4 s4.heap := R5.dropIt hnI hcI hcP fun _ _ _ e => e
    cases f with
    | next =>
      cases F5
      refine ⟨items.length - (k + 1), by omega, k + 1, a4, φ4, rfl, hlt, hf, R5, E15, S15, it.walks.frame _ _ _ st3 fun b hb o e => ?_⟩
      have nw : b ∉ F.own ∧ ¬ Wr φ' a'.heap b := by
        rcases it.fpok b hb with rfl | ⟨hw, o', e'⟩
        · exact ⟨fun q => R'.own_prv _ q (.inr rfl), fun ⟨i, o, h1, _, _⟩ => R'.hr.nP _ (List.mem_of_getElem? h1) (.inr (.inr rfl))⟩
        · have z := Ext.keepW (F := F) (prv := prv) E3 b o' e' hw
          exact ⟨fun q => z.2 (.inl (.inl q)), fun q => z.2 (.inr q)⟩
      exact E45.step b o e nw.1 nw.2
    | brk =>
      cases F5
      exact (hQ1.step E15 S15 (Nat.le_refl _)).now' R5' hf rfl
    | ret v =>
      obtain ⟨cv, rfl, V5⟩ := F5
      exact (hQ1.step E15 S15 (Nat.le_refl _)).now' R5' hf ⟨cv, rfl, V5.narrowIt⟩
  · have hkl : k = items.length := by omega
    subst hkl
    refine it.walks.done s' _ _ st fun h3 tk hk3 => ?_
    have hk3' : ∀ b o, b ≠ I → s'.heap.get? b = some o → h3.get? b = some o := fun b o q e => hk3 b o (by simpa using q) e
    have R3 := R'.dropIt hnI hcI hcP hk3'
    exact noE ((fin a' hInv).go A prv φ' { s' with heap := h3, toks := tk } _ hA R3 (hQ1.step (s' := { s' with heap := h3, toks := tk }) (E'.turned hnew hk3') (S'.trans (.mk' s' h3 tk)) (Nat.le_refl _)))

theorem EX1.while_ {test : Expr} {body orelse : List Stmt} {pos : Pos} (Inv : Nat → AS → Prop) {m : Nat} (h0 : Inv m a)
    (turn : ∀ k a2, Inv k a2 → BT G n F a2 test fun b a3 => if b then EX G n F a3 body (fun f a4 => match f with | .next => ∃ k', k' < k ∧ Inv k' a4 | .brk => P .next a4 | .ret v => P (.ret v) a4) else EX G n F a3 orelse P) : EX1 G n F a (.While test body orelse pos) P := by
  refine ⟨fun A prv φ s Q hA R hQ => ?_⟩
  refine wpAny_While (codeAny_whileLoop (fun k s' => ∃ a' φ', Inv k a' ∧ Rel G F prv φ' a' s'.heap ∧ Ext F.own F.n₀ φ a.heap s.heap φ' a'.heap s'.heap ∧ Same s s') ?_ m ⟨a, φ, h0, R, Ext.refl, .refl s⟩)
  rintro k s' ⟨a', φ', hInv, R', E', S'⟩
  refine noE ((turn k a' hInv).go A prv φ' s' _ hA R' fun b H2 φ2 s2 hb R2 E2 S2 => ?_)
  have E02 := E'.trans (E2.cut R'.n0) (Nat.le_refl _)
  have S02 := S'.trans S2
  cases b with
  | true =>
    refine noE (hb.go A prv φ2 s2 _ hA R2 fun f a4 φ4 cf s4 hf R5 F5 E5 S5 => ?_)
    have E05 := E02.trans E5 (Nat.le_refl _)
    have S05 := S02.trans S5
    cases f with
    | next =>
      cases F5
      obtain ⟨k', hlt, hi⟩ := hf
      exact ⟨k', hlt, a4, φ4, hi, R5, E05, S05⟩
    | brk => cases F5; exact (hQ.step E05 S05 (Nat.le_refl _)).now' R5 hf rfl
    | ret v =>
      obtain ⟨cv, rfl, V5⟩ := F5
      exact (hQ.step E05 S05 (Nat.le_refl _)).now' R5 hf ⟨cv, rfl, V5⟩
  | false => exact noE (hb.go A prv φ2 s2 _ hA R2 (hQ.step (a' := { a' with heap := H2 }) E02 S02 (Nat.le_refl _)))
end
end Mine

namespace Mine
variable {G : Base}

/-! ## the frame of a comprehension -/
def closOf (cl : List (PySem.Str × Addr)) : List (PySem.Str × NameKind) → List (PySem.Str × Addr) → Option (List (PySem.Str × Addr))
  | [], acc => some acc
  | (x, k) :: r, acc => match k == .free with
    | true => match cl.lookup x with
      | some c => closOf cl r ((x, c) :: acc)
      | none => none
    | false => closOf cl r acc
theorem closureFor_eq {scope : Scope} {env : Env} {cl' : List (PySem.Str × Addr)} (h : closOf env.cells scope.names [] = some cl') : closureFor scope env = pure cl' := by
  unfold closureFor
  have key : ∀ (names : List (PySem.Str × NameKind)) (acc cl' : List (PySem.Str × Addr)), closOf env.cells names acc = some cl' →
      (forIn names acc fun (x : PySem.Str × NameKind) (r : List (PySem.Str × Addr)) => (if x.2 == NameKind.free then do let y ← cellOf env x.1; pure (ForInStep.yield ((x.1, y) :: r)) else pure (ForInStep.yield r) : Sem (ForInStep (List (PySem.Str × Addr))))) = (pure cl' : Sem _) := by
    intro names
    induction names with
    | nil => intro acc cl' h; rw [List.forIn_nil]; cases h; rfl
    | cons p r ih =>
      obtain ⟨x, k⟩ := p
      intro acc cl' h
      unfold closOf at h
      rw [List.forIn_cons]
      cases q : k == NameKind.free with
      | true =>
        rw [q] at h
        cases e : env.cells.lookup x with
        | none => rw [e] at h; cases h
        | some c =>
          rw [e] at h
          have : cellOf env x = pure c := by unfold cellOf; rw [e]
          simp only [q, if_true, this, pure_bind]
          exact ih _ _ h
      | false =>
        rw [q] at h
        simp only [q, Bool.false_eq_true, if_false, pure_bind]
        exact ih _ _ h
  have := key scope.names [] cl' h
  simp only [bind_pure]
  exact this

theorem closOf_mem {cl : List (PySem.Str × Addr)} : ∀ (names : List (PySem.Str × NameKind)) (acc cl' : List (PySem.Str × Addr)), closOf cl names acc = some cl' → (∀ p ∈ acc, cl.lookup p.1 = some p.2) → ∀ p ∈ cl', cl.lookup p.1 = some p.2
  | [], acc, cl', h, ha => by cases h; exact ha
  | (x, k) :: r, acc, cl', h, ha => by
    unfold closOf at h
    split at h
    · split at h
      · rename_i c e
        refine closOf_mem r _ _ h fun p hp => ?_
        rcases List.mem_cons.mp hp with rfl | hp
        · exact e
        · exact ha p hp
      · cases h
    · exact closOf_mem r _ _ h ha

theorem cellsFrom_acc : ∀ (names : List (PySem.Str × NameKind)) (n : Nat) (acc : List (PySem.Str × Addr)), cellsFrom n names acc = cellsFrom n names [] ++ acc
  | [], _, _ => rfl
  | (x, k) :: r, n, acc => by
    unfold cellsFrom
    split
    · rw [cellsFrom_acc r (n + 1) ((x, n) :: acc), cellsFrom_acc r (n + 1) [(x, n)], List.append_assoc]; rfl
    · exact cellsFrom_acc r n acc

def cmFm (F : Fm) (scope : Scope) (cl' : List (PySem.Str × Addr)) (C : Addr) : Fm :=
  { sc := relabel scope F.env, L := C, cl := cellsFrom (C + 1) scope.names [] ++ cl', qual := F.qual, func := none, code := F.code, frame := F.frame, own := C :: (cellsFrom (C + 1) scope.names []).map (·.2), slf := none, n₀ := 0 }

structure CapOne (F F' : Fm) (a : AS) (x : PySem.Str) (v : AV) : Prop where
  val : a.vars.lookup x = some v
  plain : v.plain = true
  kin : F'.sc.names.lookup x = some .cell
  kout : F.sc.names.lookup x = some .cell
  cell : ∃ c, F'.cl.lookup x = some c ∧ F.cl.lookup x = some c
def Caps (F F' : Fm) (a : AS) (vars : List (PySem.Str × AV)) : Prop := ∀ x v, vars.lookup x = some v → CapOne F F' a x v
theorem Caps.nil {F F' : Fm} {a : AS} : Caps F F' a [] := fun _ _ e => nomatch e
theorem Caps.cons {F F' : Fm} {a : AS} {x : PySem.Str} {v : AV} {vs : List (PySem.Str × AV)} (h : CapOne F F' a x v) (r : Caps F F' a vs) : Caps F F' a ((x, v) :: vs) := fun y u e => by
  rw [List.lookup_cons] at e
  cases q : y == x with
  | true => rw [q] at e; cases e; exact eq_of_beq q ▸ h
  | false => rw [q] at e; exact r y u e

theorem name_of_pair : ∀ {cs : List (PySem.Str × Addr)} {x : PySem.Str} {c : Addr}, cs.lookup x = some c → (x, c) ∈ cs := fun h => mem_of_lookup h

theorem newEnv_comp {M : Model} {A : Around} {E : Value → Shared → Prop} {s : Shared} {scope : Scope} {env : Env} {cl' : List (PySem.Str × Addr)} {Q : Env → Shared → Prop}
    (h : Q { scope, locals := s.heap.objs.size, globals := env.globals, cells := cellsFrom (s.heap.objs.size + 1) scope.names [] ++ cl', qual := env.qual, func := none, code := env.code, frame := env.frame, builtins := env.builtins }
      { s with heap := pushCells (s.heap.push { cls := .type "dict", data := .dict #[] }) scope.names }) : wpAny M A (newFunctionEnv scope env.globals cl' [] env.qual none .none (some env)) Q E s := by
  simp only [newFunctionEnv, Option.isSome_some, if_true]
  refine wpAny_bind (wpAny_alloc ?_)
  refine wpAny_bind (wpAny_layCells _ (fun name kind cells => by cases hkc : kind == NameKind.cell <;> simp [hkc]) _ _ _ _ ?_)
  rw [List.forIn_nil]
  refine wpAny_bind (wpAny_pure (wpAny_pure ?_))
  rw [cellsFrom_acc, show ({ s with heap := s.heap.push { cls := .type "dict", data := .dict #[] } } : Shared).heap.objs.size = s.heap.objs.size + 1 from Heap.size_push ..]
  exact h

/-- the frame is there -/
theorem comp_rel {F : Fm} {prv : Addr → Prop} {φ : List Addr} {a : AS} {h1 h : Heap} {scope : Scope} {cl' : List (PySem.Str × Addr)} {vars : List (PySem.Str × AV)} {X : List Addr}
    (R : Rel G F prv φ a h1) (hk1 : ∀ b o, h1.get? b = some o → h.get? b = some o) (hX : ∀ b ∈ X, h1.get? b = none ∧ ∃ o, h.get? b = some o)
    (hcl : closOf F.cl scope.names [] = some cl') (hnd : (scope.names.map (·.1)).Nodup) (hkind : scope.kind = .function) (hcap : Caps F (cmFm F scope cl' h.objs.size) a vars) :
    Rel G (cmFm F scope cl' h.objs.size) (fun b => Pv F prv b ∨ b ∈ X) φ ⟨vars, a.heap, []⟩ (pushCells (h.push { cls := .type "dict", data := .dict #[] }) scope.names) := by
  have ok := cellsFrom_ok scope.names (h.push { cls := .type "dict", data := .dict #[] }) (h.objs.size + 1) [] ⟨fun _ _ hm => (nomatch hm), List.Pairwise.nil⟩ (by rw [Heap.size_push]; exact Nat.le_refl _)
  rw [Heap.size_push] at ok
  have hk2 : ∀ b o, h.get? b = some o → (pushCells (h.push { cls := .type "dict", data := .dict #[] }) scope.names).get? b = some o := fun b o e => pushCells_keeps _ _ b o (Heap.get?_push_of_some _ e)
  have hk : ∀ b o, h1.get? b = some o → (pushCells (h.push { cls := .type "dict", data := .dict #[] }) scope.names).get? b = some o := fun b o e => hk2 b o (hk1 b o e)
  have newC : h.get? h.objs.size = none := by
    cases q : h.get? h.objs.size with
    | none => rfl
    | some o => exact absurd (Heap.lt_size q) (Nat.lt_irrefl _)
  have above : ∀ b, h.objs.size ≤ b → h.get? b = none := fun b hb => by
    cases q : h.get? b with
    | none => rfl
    | some o => exact absurd (Heap.lt_size q) (Nat.not_lt.mpr hb)
  have above1 : ∀ b, h.objs.size ≤ b → h1.get? b = none := fun b hb => by
    cases q : h1.get? b with
    | none => rfl
    | some o => have := hk1 b o q; rw [above b hb] at this; cases this
  generalize hH : pushCells (h.push { cls := .type "dict", data := .dict #[] }) scope.names = H at ok hk hk2
  have hNs : H.Ns h.objs.size fun _ => none := by rw [← hH]; exact (Heap.Ns.new h (.type "dict")).keeps (pushCells_keeps _ _)
  have hCex : ∃ o, H.get? h.objs.size = some o := let ⟨o, _, _, e, _⟩ := hNs; ⟨o, e⟩
  have ownGe : ∀ b ∈ (cmFm F scope cl' h.objs.size).own, h.objs.size ≤ b ∧ ∃ o, H.get? b = some o := by
    intro b hb
    rcases List.mem_cons.mp hb with rfl | hb
    · exact ⟨Nat.le_refl _, hCex⟩
    · obtain ⟨⟨y, c⟩, hp, rfl⟩ := List.mem_map.mp hb
      obtain ⟨⟨o, e, _⟩, hle⟩ := ok.empty y c hp
      exact ⟨by show h.objs.size ≤ c; omega, o, e⟩
  have hcl' := closOf_mem scope.names [] cl' hcl (fun _ h => nomatch h)
  have lkp : ∀ x c, (cmFm F scope cl' h.objs.size).cl.lookup x = some c → ((x, c) ∈ cellsFrom (h.objs.size + 1) scope.names [] ∨ F.cl.lookup x = some c) := by
    intro x c e
    have e' : (cellsFrom (h.objs.size + 1) scope.names [] ++ cl').lookup x = some c := e
    have m := mem_of_lookup e'
    rcases List.mem_append.mp m with m | m
    · exact .inl m
    · exact .inr (hcl' _ m)
  have PvX : ∀ b, Pv (cmFm F scope cl' h.objs.size) (fun b => Pv F prv b ∨ b ∈ X) b → Pv F prv b ∨ h1.get? b = none := fun b hb => by
    rcases hb with hb | hb | hb
    · exact .inr (above1 b (ownGe b hb).1)
    · exact .inl hb
    · exact .inr (hX b hb).1
  have hkW : ∀ b o, h1.get? b = some o → ¬ Wf F prv φ a.heap b → H.get? b = some o ∧ ¬ Wf (cmFm F scope cl' h.objs.size) (fun b => Pv F prv b ∨ b ∈ X) φ a.heap b := fun b o e hw => by
    refine ⟨hk b o e, fun q => ?_⟩
    rcases q with q | q
    · rcases PvX b q with q | q
      · exact hw (.inl q)
      · rw [e] at q; cases q
    · exact hw (.inr q)
  refine ⟨hkind, R.hr.widen hk (fun b hb => .inr (.inl hb)) PvX (fun b hb => ?_), fun b hb q => ?_, .head _, fun x c e => ?_, fun x y c e1 e2 => ?_, Nat.zero_le _, ⟨_, hNs, fun x v e => ?_⟩, fun x dx e => (nomatch e)⟩
  · rcases hb with hb | hb | hb
    · exact (ownGe b hb).2
    · obtain ⟨o, e⟩ := R.hr.pex b hb; exact ⟨o, hk _ _ e⟩
    · obtain ⟨_, o, e⟩ := hX b hb; exact ⟨o, hk2 _ _ e⟩
  · have hge := (ownGe b hb).1
    rcases q with q | q
    · obtain ⟨o, e⟩ := R.hr.pex b q; rw [above1 b hge] at e; cases e
    · obtain ⟨_, o, e⟩ := hX b q; rw [above b hge] at e; cases e
  · rcases lkp x c e with m | m
    · obtain ⟨hc, hle⟩ := ok.empty x c m
      exact ⟨⟨_, hc⟩, fun q => by rw [q] at hle; exact absurd (show h.objs.size + 1 ≤ h.objs.size from hle) (by omega), .inl (.tail _ (List.mem_map.mpr ⟨_, m, rfl⟩))⟩
    · obtain ⟨⟨v, o, ho, hd⟩, r1, r2⟩ := R.cown x c m
      refine ⟨⟨v, o, hk _ _ ho, hd⟩, fun q => ?_, .inr (.inl r2)⟩
      have := above1 h.objs.size (Nat.le_refl _)
      rw [← show c = h.objs.size from q, ho] at this; cases this
  · have ne : ∀ x c, (x, c) ∈ cellsFrom (h.objs.size + 1) scope.names [] → ∀ y, F.cl.lookup y ≠ some c := fun x c m y e => by
      obtain ⟨⟨_, o, ho, _⟩, _⟩ := R.cown y c e
      have hle := (ok.empty x c m).2
      rw [above1 c (by omega)] at ho; cases ho
    rcases lkp x c e1 with m1 | m1 <;> rcases lkp y c e2 with m2 | m2
    · exact name_of_addr ok.apart m1 m2
    · exact absurd m2 (ne _ _ m1 _)
    · exact absurd m1 (ne _ _ m2 _)
    · exact R.cinj x y c m1 m2
  · have hc := hcap x v e
    obtain ⟨m, hn, hv⟩ := R.vars
    obtain ⟨cv, h1, h2⟩ := hv x v hc.val
    refine ⟨cv, (AVR.ext hkW (fun _ _ e => e) h1).noslf hc.plain, ?_⟩
    rcases h2 with ⟨h2, _⟩ | ⟨h2, c, h3, o, h4, h5⟩
    · rw [hc.kout] at h2; cases h2
    · obtain ⟨c', e1, e2⟩ := hc.cell
      rw [h3] at e2; cases e2
      exact .inr ⟨hc.kin, c, e1, o, hk _ _ h4, h5⟩
end Mine

namespace Mine
variable {G : Base}

def Sub (vs us : List (PySem.Str × AV)) : Prop := ∀ x v, vs.lookup x = some v → us.lookup x = some v
theorem Sub.refl (vs : List (PySem.Str × AV)) : Sub vs vs := fun _ _ e => e
theorem Sub.trans {vs us ts : List (PySem.Str × AV)} (x : Sub vs us) (y : Sub us ts) : Sub vs ts := fun _ _ e => y _ _ (x _ _ e)
theorem Sub.set {vs us : List (PySem.Str × AV)} {x : PySem.Str} {v : AV} (h : Sub vs us) (hx : vs.lookup x = none) : Sub vs (setV us x v) := fun y u e => by
  rw [setV_lookup]
  split
  · rename_i q; rw [q, hx] at e; cases e
  · exact h y u e

theorem Ext.transOwn {own : List Addr} {k k' : Nat} {φB φ φ' : List Addr} {HB H H' : List AObj} {hB h h' : Heap} (E : Ext [] k φB HB hB φ H h) (E2 : Ext own k' φ H h φ' H' h') (hf : ∀ b ∈ own, hB.get? b = none) (hk : k ≤ k') : Ext [] k φB HB hB φ' H' h' := by
  refine ⟨fun i hi => (E2.pre i (Nat.lt_of_lt_of_le hi hk)).trans (E.pre i hi), fun b o e h1 h2 => ?_, fun b o e => ?_, fun a ha => ?_⟩
  · refine E2.step b o (E.step b o e h1 h2) (fun q => by rw [hf b q] at e; cases e) fun q => ?_
    rcases E.wr b q with q | q
    · exact h2 q
    · rw [e] at q; cases q
  · obtain ⟨o', e'⟩ := E.ex b o e; exact E2.ex b o' e'
  · rcases E2.wr a ha with ha | ha
    · exact E.wr a ha
    · right
      cases q : hB.get? a with
      | none => rfl
      | some o => obtain ⟨o', e'⟩ := E.ex a o q; rw [e'] at ha; cases ha

theorem Rel.reset {F : Fm} {prv : Addr → Prop} {φ : List Addr} {a : AS} {h : Heap} {vars : List (PySem.Str × AV)} {H : List AObj} (R : Rel G F prv φ a h) (hs : F.slf = none) (hH : a.heap = H) (hv : Sub vars a.vars) : Rel G F prv φ ⟨vars, H, []⟩ h := by
  subst hH
  exact ⟨R.kfun, R.hr, R.own_prv, R.Lown, R.cown, R.cinj, R.n0, (let ⟨m, hn, hvs⟩ := R.vars; ⟨m, hn, fun x v e => hvs x v (hv x v e)⟩), fun x dx e => by rw [hs] at e; cases e⟩

variable (G) in
def TST (n : Nat) (F : Fm) (a : AS) : List Expr → (Bool → AS → Prop) → Prop
  | [], P => P true a
  | [c], P => BT G n F a c P
  | _, _ => False
theorem tst_sound {n : Nat} {F : Fm} {a : AS} {A : Around} {prv : Addr → Prop} {φ : List Addr} {s : Shared} {ifs : List Expr} {P : Bool → AS → Prop} {Q : Bool → Shared → Prop} (h : TST G n F a ifs P) (hA : AOk n A) (R : Rel G F prv φ a s.heap) (hQ : PostB (G := G) F prv φ a s P Q) :
    wpAny (model G.prog G.w) A (forIn ifs true fun c r => if r = true then do let ok ← isTrue c F.env (eval c F.env); pure (ForInStep.yield ok) else pure (ForInStep.yield r)) Q NoE s := by
  match ifs, h with
  | [], h => exact wpAny_tests_nil (hQ.now' R h)
  | [c], h => exact wpAny_tests_one (h.go A prv φ s Q hA R hQ)

/-- one turn that ends in a new item -/
def EmitTree (tgt iter : Expr) (ifs : List Expr) (elt : Expr) (c : Code) (I D : Value) (env : Env) : Sem Fin := do
  standAt iter.pos
  match ← pyNext I with
  | none => pure (.done .next)
  | some v =>
    letOwnedTupleGo tgt I v
    assign tgt env v
    let mut ok := true
    for c in ifs do
      if ok then ok ← isTrue c env (eval c env)
    if ok then
      (do let _ ← call (.builtin "list.append") [D, ← eval elt env])
    again c

theorem items_snoc {α β : Type} (f : α → Option β) (xs : List α) (k : Nat) (x : α) (h : xs[k]? = some x) : (xs.take (k + 1)).filterMap f = (xs.take k).filterMap f ++ (f x).toList := by
  rw [List.take_add_one, h, List.filterMap_append]
  cases e : f x <;> simp [List.filterMap, e]

/-- the state of a comprehension: its frame, the list it fills, what lies behind -/
structure CS (G : Base) (F : Fm) (prv : Addr → Prop) (vars : List (PySem.Str × AV)) (H : List AObj) (D : Addr) (φB : List Addr) (HB : List AObj) (sB : Shared) (ds : List DV) (φ : List Addr) (s : Shared) : Prop where
  rel : Rel G F prv φ ⟨vars, H, []⟩ s.heap
  acc : ∃ ys, s.heap.PlainList D ys ∧ VRs G.prog G.w s.heap (Wf F prv φ H) ys.toList ds
  ext : Ext [] φB.length φB HB sB.heap φ H s.heap
  same : Same sB s

structure CB (F : Fm) (prv : Addr → Prop) (D : Addr) (φB : List Addr) (H : List AObj) (sB : Shared) : Prop where
  slf : F.slf = none
  pD : prv D
  cD : ∀ x c, F.cl.lookup x = some c → c ≠ D
  fD : sB.heap.get? D = none
  fo : ∀ b ∈ F.own, sB.heap.get? b = none
  lB : φB.length = H.length

section
variable {n : Nat} {F : Fm} {A : Around} {prv : Addr → Prop} {vars : List (PySem.Str × AV)} {H : List AObj} {D : Addr} {φB : List Addr} {HB : List AObj} {sB : Shared} {ds : List DV} {φ : List Addr} {s : Shared}

theorem CS.moved (C : CS G F prv vars H D φB HB sB ds φ s) (B : CB F prv D φB H sB) {φ' : List Addr} {a' : AS} {s' : Shared} (R' : Rel G F prv φ' a' s'.heap) (E : Ext F.own φ.length φ H s.heap φ' a'.heap s'.heap) (S : Same s s') (hv : Sub vars a'.vars) (hH : a'.heap = H) : CS G F prv vars H D φB HB sB ds φ' s' := by
  obtain ⟨ys, h1, h2⟩ := C.acc
  have nD : D ∉ F.own ∧ ¬ Wr φ H D := ⟨fun q => C.rel.own_prv D q B.pD, fun ⟨i, o, h1, _, _⟩ => C.rel.hr.nP D (List.mem_of_getElem? h1) (.inr B.pD)⟩
  have lφ : φ.length = H.length := C.rel.hr.len
  subst hH
  refine ⟨R'.reset B.slf rfl hv, ⟨ys, let ⟨m, e⟩ := h1; ⟨m, E.step _ _ e nD.1 nD.2⟩, h2.ext (Ext.keepW E)⟩, C.ext.transOwn E B.fo (by rw [B.lB, lφ]; exact Nat.le_refl _), C.same.trans S⟩

theorem append_item (hA : AOk n A) (C : CS G F prv vars H D φB HB sB ds φ s) (B : CB F prv D φB H sB) (hlen : ds.length ≤ 10000) {y : Value} {e : DV} (V : VR G.prog G.w s.heap (Wf F prv φ H) y e) {Q : Value → Shared → Prop}
    (hQ : ∀ s', CS G F prv vars H D φB HB sB (ds ++ [e]) φ s' → (∀ b o, b ≠ D → s.heap.get? b = some o → s'.heap.get? b = some o) → Q .none s') : wpAny (model G.prog G.w) A (call (.builtin "list.append") [.ref D, y]) Q NoE s := by
  obtain ⟨ys, h1, h2⟩ := C.acc
  refine wpAny_list_append_plain h1 (fun h' h1' hs => ?_) (by
    rw [sizeLine_eq]
    have := h2.length
    have e : ys.toList.length = ys.size := by simp
    omega)
  have hk : ∀ b o, b ≠ D → s.heap.get? b = some o → h'.get? b = some o := fun b o q e => (hs.2 b q).trans e
  have hkW : ∀ b o, s.heap.get? b = some o → ¬ Wf F prv φ H b → h'.get? b = some o ∧ ¬ Wf F prv φ H b := fun b o e hw => ⟨hk b o (fun q => hw (.inl (.inr (q ▸ B.pD)))) e, hw⟩
  refine hQ { s with heap := h' } ⟨C.rel.turned D B.pD B.cD hk (let ⟨m, e⟩ := h1'; ⟨_, e⟩), ⟨_, h1', ?_⟩, C.ext.turned B.fD hk, C.same.trans (.mk' s h' s.toks)⟩ hk
  rw [Array.toList_push]
  exact (h2.ext hkW).append (.one (V.ext hkW))

/-- what is written out of the iterator's things stands -/
def KeptW (F : Fm) (prv : Addr → Prop) (H : List AObj) (h1 : Heap) (W1 : Addr → Prop) (φ : List Addr) (h : Heap) : Prop := ∀ b o, h1.get? b = some o → ¬ W1 b → h.get? b = some o ∧ ¬ Wf F prv φ H b

/-- neither the frame's own, nor the list, nor the iterator: it stands -/
def Pres (F : Fm) (H : List AObj) (D I : Addr) (φ : List Addr) (h : Heap) (φ' : List Addr) (h' : Heap) : Prop := ∀ b o, h.get? b = some o → b ∉ F.own → ¬ Wr φ H b → b ≠ D → b ≠ I → h'.get? b = some o ∧ ¬ Wr φ' H b
theorem Pres.refl {I : Addr} {h : Heap} : Pres F H D I φ h φ h := fun b o e _ h2 _ _ => ⟨e, h2⟩
theorem Pres.ext {I : Addr} {φ' φ'' : List Addr} {h h' h'' : Heap} {k : Nat} (x : Pres F H D I φ h φ' h') (E : Ext F.own k φ' H h' φ'' H h'') : Pres F H D I φ h φ'' h'' := fun b o e h1 h2 h3 h4 => by
  obtain ⟨e', w'⟩ := x b o e h1 h2 h3 h4
  refine ⟨E.step b o e' h1 w', fun q => ?_⟩
  rcases E.wr b q with q | q
  · exact w' q
  · rw [e'] at q; cases q
theorem Pres.keep {I : Addr} {φ' : List Addr} {h h' h'' : Heap} (x : Pres F H D I φ h φ' h') (hk : ∀ b o, b ≠ D → b ≠ I → h'.get? b = some o → h''.get? b = some o) : Pres F H D I φ h φ' h'' := fun b o e h1 h2 h3 h4 =>
  ⟨hk b o h3 h4 (x b o e h1 h2 h3 h4).1, (x b o e h1 h2 h3 h4).2⟩
theorem emit_loop {prv₀ : Addr → Prop} {tgt iter elt : Expr} {ifs : List Expr} {c : Code} {I : Addr} {items : List DV} {h1 : Heap} {W1 : Addr → Prop} {g : DV → Option DV} {R : Result → Shared → Prop} (hA : AOk n A) (B : CB F prv₀ D φB H sB)
    (hq : c.quiet = true) (hden : ∀ (Q : Fin → Shared → Prop) (E : Value → Shared → Prop) s, wpAny (model G.prog G.w) A (EmitTree tgt iter ifs elt c (.ref I) (.ref D) F.env) Q NoE s → wpAny (model G.prog G.w) (A.under c) ((model G.prog G.w).den c) Q E s)
    (it : Iter G A h1 W1 tgt items I s.heap) (nI₀ : ¬ Pv F prv₀ I) (cI : ∀ x c, F.cl.lookup x = some c → c ≠ I ∧ Pv F prv₀ c) (fI : sB.heap.get? I = none) (hDI : D ≠ I)
    (hlen : ds.length + items.length ≤ 10000)
    (turn : ∀ (k : Nat) (d : DV), items[k]? = some d → ASG G n F ⟨vars, H, []⟩ tgt (.dat d) fun a3 => Sub vars a3.vars ∧ a3.heap = H ∧ TST G n F a3 ifs fun b a4 => a4.heap = H ∧ if b then EV G n F a4 elt fun y a5 => ∃ e, y = .dat e ∧ g d = some e ∧ a5.heap = H else g d = none)
    (hW1 : ∀ b o, h1.get? b = some o → ¬ W1 b → b ≠ I ∧ b ≠ D)
    (C : CS G F (And1 prv₀ I) vars H D φB HB sB ds φ s) (K : KeptW F (And1 prv₀ I) H h1 W1 φ s.heap)
    (hR : ∀ φ' s', CS G F prv₀ vars H D φB HB sB (ds ++ items.filterMap g) φ' s' → Pres F H D I φ s.heap φ' s'.heap → R (.ok .next) s') : codeAny (model G.prog G.w) A c R s := by
  have B' : CB F (And1 prv₀ I) D φB H sB := ⟨B.slf, .inl B.pD, B.cD, B.fD, B.fo, B.lB⟩
  have nI : ∀ {φ : List Addr} {a : AS} {h : Heap}, Rel G F (And1 prv₀ I) φ a h → I ∉ F.own ∧ ¬ Wr φ a.heap I := fun R => ⟨fun q => R.own_prv I q (.inr rfl), fun ⟨i, o, h1, _, _⟩ => R.hr.nP I (List.mem_of_getElem? h1) (.inr (.inr rfl))⟩
  refine codeAny_loop hq (fun m s' => ∃ k φ', m = items.length - k ∧ k ≤ items.length ∧ CS G F (And1 prv₀ I) vars H D φB HB sB (ds ++ (items.take k).filterMap g) φ' s' ∧ KeptW F (And1 prv₀ I) H h1 W1 φ' s'.heap ∧ it.St k s'.heap ∧ Pres F H D I φ s.heap φ' s'.heap) ?_ items.length
    ⟨0, φ, by omega, Nat.zero_le _, by simpa using C, K, it.st, Pres.refl⟩
  rintro m s' ⟨k, φ', rfl, hk', C', K', st, P'⟩
  refine hden _ _ _ ?_
  unfold EmitTree
  refine wpAny_bind (wpAny_standAt (wpAny_bind ?_))
  by_cases hlt : k < items.length
  · refine it.walks.item k s' _ _ hlt st fun v h3 tk hv st3 hk3 => ?_
    have hk3' : ∀ b o, b ≠ I → s'.heap.get? b = some o → h3.get? b = some o := fun b o q e => hk3 b o (by simpa using q) e
    obtain ⟨d, hd, hval⟩ := it.val k v hv hlt
    dsimp only
    refine wpAny_bind (it.letgo (k + 1) _ v _ st3 ?_)
    have R3 := C'.rel.turned I (.inr rfl) (fun x c e => (cI x c e).1) hk3' (it.ex _ _ st3)
    have C3 : CS G F (And1 prv₀ I) vars H D φB HB sB (ds ++ (items.take k).filterMap g) φ' { s' with heap := h3, toks := tk } := by
      obtain ⟨ys, a1, a2⟩ := C'.acc
      refine ⟨R3, ⟨ys, let ⟨m, e⟩ := a1; ⟨m, hk3' _ _ hDI e⟩, a2.ext fun b o e hw => ⟨hk3' b o (fun q => hw (.inl (.inr (q ▸ .inr rfl)))) e, hw⟩⟩, C'.ext.turned fI hk3', C'.same.trans (.mk' s' h3 tk)⟩
    have K3 : KeptW F (And1 prv₀ I) H h1 W1 φ' h3 := fun b o e hw => ⟨hk3' b o (hW1 b o e hw).1 (K' b o e hw).1, (K' b o e hw).2⟩
    have V := hval h3 (Wf F (And1 prv₀ I) φ' H) K3
    have P3 := P'.keep fun b o _ q e => hk3' b o q e
    refine wpAny_bind (ASG.go (turn k d hd) A (And1 prv₀ I) φ' { s' with heap := h3, toks := tk } _ v hA R3 V fun a3 φ4 s4 hP R4 E4 S4 => ?_)
    obtain ⟨hsub, hheap, hP⟩ := hP
    have C4 := C3.moved B' R4 E4 S4 hsub hheap
    have P4 : Pres F H D I φ s.heap φ4 s4.heap := P3.ext (by rw [hheap] at E4; exact E4)
    have K4 : KeptW F (And1 prv₀ I) H h1 W1 φ4 s4.heap := fun b o e hw => by have := Ext.keepW (prv := And1 prv₀ I) E4 b o (K3 b o e hw).1 (K3 b o e hw).2; rw [hheap] at this; exact this
    have st4 : it.St (k + 1) s4.heap := it.walks.frame _ _ _ st3 fun b hb o e => by
      rcases it.fpok b hb with rfl | ⟨hw, o', e'⟩
      · exact E4.step _ o e (nI R3).1 (nI R3).2
      · have z := K3 b o' e' hw
        exact E4.step b o e (fun q => z.2 (.inl (.inl q))) (fun q => z.2 (.inr q))
    refine wpAny_bind (tst_sound hP hA R4 fun b H5 φ5 s5 hP R5 E5 S5 => ?_)
    obtain ⟨hH5, hP⟩ := hP
    have hH5 : H5 = H := hH5
    have C5 := C4.moved B' R5 (by rw [← hheap]; exact E5) S5 (Sub.trans hsub (Sub.refl _)) hH5
    have P5 : Pres F H D I φ s.heap φ5 s5.heap := P4.ext (by rw [hheap, hH5] at E5; exact E5)
    have K5 : KeptW F (And1 prv₀ I) H h1 W1 φ5 s5.heap := fun b o e hw => by have := Ext.keepW (prv := And1 prv₀ I) E5 b o (K4 b o e hw).1 (by rw [hheap]; exact (K4 b o e hw).2); rw [hH5] at this; exact this
    have st5 : it.St (k + 1) s5.heap := it.walks.frame _ _ _ st4 fun b hb o e => by
      rcases it.fpok b hb with rfl | ⟨hw, o', e'⟩
      · exact E5.step _ o e (nI R4).1 (nI R4).2
      · have z := K4 b o' e' hw
        exact E5.step b o e (fun q => z.2 (.inl (.inl q))) (fun q => z.2 (.inr (by rw [← hheap]; exact q)))
    have hlen' : (items.take k).length ≤ k := by simp; omega
    have hfl : ((items.take k).filterMap g).length ≤ k := Nat.le_trans (List.length_filterMap_le _ _) hlen'
    have again : ∀ (φ6 : List Addr) (s6 : Shared), CS G F (And1 prv₀ I) vars H D φB HB sB (ds ++ (items.take (k + 1)).filterMap g) φ6 s6 → KeptW F (And1 prv₀ I) H h1 W1 φ6 s6.heap → it.St (k + 1) s6.heap → Pres F H D I φ s.heap φ6 s6.heap →
        c = c ∧ ∃ m, m < items.length - k ∧ ∃ k φ', m = items.length - k ∧ k ≤ items.length ∧ CS G F (And1 prv₀ I) vars H D φB HB sB (ds ++ (items.take k).filterMap g) φ' s6 ∧ KeptW F (And1 prv₀ I) H h1 W1 φ' s6.heap ∧ it.St k s6.heap ∧ Pres F H D I φ s.heap φ' s6.heap :=
      fun φ6 s6 C6 K6 st6 P6 => ⟨rfl, items.length - (k + 1), by omega, k + 1, φ6, rfl, hlt, C6, K6, st6, P6⟩
    cases b with
    | false =>
      simp only [Bool.false_eq_true, if_false] at hP ⊢
      refine wpAny_pure (again φ5 s5 ?_ K5 st5 P5)
      rw [items_snoc g items k d hd, hP]
      simpa using C5
    | true =>
      simp only [if_true] at hP ⊢
      refine wpAny_bind (wpAny_bind (hP.go A (And1 prv₀ I) φ5 s5 _ hA R5 fun y H6 φ6 cy s6 hP6 R6 V6 E6 S6 => ?_))
      obtain ⟨e, rfl, hg, hH6⟩ := hP6
      have hH6 : H6 = H := hH6
      have C6 := C5.moved B' R6 (by rw [← hH5]; exact E6) S6 (Sub.trans hsub (Sub.refl _)) hH6
      have P6 : Pres F H D I φ s.heap φ6 s6.heap := P5.ext (by rw [hH6] at E6; rw [← hH5] at *; exact E6)
      have K6 : KeptW F (And1 prv₀ I) H h1 W1 φ6 s6.heap := fun b o e hw => by have := Ext.keepW (prv := And1 prv₀ I) E6 b o (K5 b o e hw).1 (by show ¬ Wf F (And1 prv₀ I) φ5 H5 b; rw [hH5]; exact (K5 b o e hw).2); rw [hH6] at this; exact this
      have st6 : it.St (k + 1) s6.heap := it.walks.frame _ _ _ st5 fun b hb o e => by
        rcases it.fpok b hb with rfl | ⟨hw, o', e'⟩
        · exact E6.step _ o e (nI R5).1 (nI R5).2
        · have z := K5 b o' e' hw
          exact E6.step b o e (fun q => z.2 (.inl (.inl q))) (fun q => z.2 (.inr (by rw [← hH5]; exact q)))
      refine wpAny_bind (append_item hA C6 B' (by rw [List.length_append]; omega) (by rw [← hH6]; exact V6) fun s7 C7 hk7 => ?_)
      refine wpAny_pure (wpAny_pure (again φ6 s7 ?_ (fun b o e hw => ⟨hk7 b o (hW1 b o e hw).2 (K6 b o e hw).1, (K6 b o e hw).2⟩) (it.walks.frame _ _ _ st6 fun b hb o e => hk7 b o ?_ e) (P6.keep fun b o q _ e => hk7 b o q e)))
      · rw [items_snoc g items k d hd, hg]
        simpa using C7
      · rcases it.fpok b hb with rfl | ⟨hw, o', e'⟩
        · exact Ne.symm hDI
        · exact (hW1 b o' e' hw).2
  · have hkl : k = items.length := by omega
    subst hkl
    refine it.walks.done s' _ _ st fun h3 tk hk3 => ?_
    have hk3' : ∀ b o, b ≠ I → s'.heap.get? b = some o → h3.get? b = some o := fun b o q e => hk3 b o (by simpa using q) e
    dsimp only
    refine wpAny_pure (hR φ' _ ?_ (P'.keep fun b o _ q e => hk3' b o q e))
    obtain ⟨ys, a1, a2⟩ := C'.acc
    rw [List.take_length] at a2
    refine ⟨C'.rel.dropIt nI₀ (fun x c e => (cI x c e).1) (fun x c e => (cI x c e).2) hk3', ⟨ys, let ⟨m, e⟩ := a1; ⟨m, hk3' _ _ hDI e⟩, a2.ext fun b o e hw => ⟨hk3' b o (fun q => hw (.inl (q ▸ .inr (.inr rfl)))) e, fun q => hw (wf_narrow q)⟩⟩, C'.ext.turned fI hk3', C'.same.trans (.mk' s' h3 tk)⟩
end
end Mine

namespace Mine
variable {G : Base}

theorem ltS {h : Heap} {a : Nat} {o : Obj} (e : h.get? a = some o) : @LT.lt Nat _ a h.objs.size := Heap.lt_size e
theorem Rel.calledIt {F : Fm} {prv : Addr → Prop} {φ φ' : List Addr} {a : AS} {h h' : Heap} {C : Addr} {H' : List AObj} (R : Rel G F prv φ a h) (hn : h.get? C = none) (HR : HRel G (Pv F (And1 prv C)) φ' H' h') (E : Ext [] φ.length φ a.heap h φ' H' h') :
    Rel G F (And1 prv C) φ' { a with heap := H' } h' ∧ Ext F.own φ.length φ a.heap h φ' H' h' := by
  have E' : Ext F.own φ.length φ a.heap h φ' H' h' := ⟨E.pre, fun b o e _ h2 => E.step b o e (by simp) h2, E.ex, E.wr⟩
  have nw : ∀ b, Pv F prv b → ¬ Wr φ a.heap b := fun b hb ⟨i, o, h1, _, _⟩ => R.hr.nP b (List.mem_of_getElem? h1) hb
  have hk : ∀ b o, Pv F prv b → h.get? b = some o → h'.get? b = some o := fun b o hb e => E.step b o e (by simp) (nw b hb)
  have hkW : ∀ b o, h.get? b = some o → ¬ Wf F prv φ a.heap b → h'.get? b = some o ∧ ¬ Wf F (And1 prv C) φ' H' b := fun b o e hw => by
    have z := Ext.keepW (F := F) (prv := prv) E' b o e hw
    refine ⟨z.1, fun q => ?_⟩
    rcases q with (q | q | q) | q
    · exact z.2 (.inl (.inl q))
    · exact z.2 (.inl (.inr q))
    · rw [q, hn] at e; cases e
    · exact z.2 (.inr q)
  refine ⟨⟨R.kfun, HR, fun b hb q => ?_, R.Lown, fun x c e => ?_, R.cinj, Nat.le_trans R.n0 E.len, ?_, fun x dx e => ?_⟩, E'⟩
  · rcases q with q | q
    · exact R.own_prv b hb q
    · exact R.fresh_not hn (.inl (q ▸ hb))
  · obtain ⟨⟨v, o, ho, hd⟩, r1, r2⟩ := R.cown x c e
    exact ⟨⟨v, o, hk _ _ r2 ho, hd⟩, r1, r2.elim .inl fun q => .inr (.inl q)⟩
  · obtain ⟨m, hm, hv⟩ := R.vars
    refine ⟨m, hm.at' fun o e => hk _ o R.Lp e, fun x v e => ?_⟩
    obtain ⟨cv, h1, h2⟩ := hv x v e
    refine ⟨cv, AVR.ext hkW (fun i a e => (E'.pre i (by obtain ⟨q, _⟩ := List.getElem?_eq_some_iff.mp e; exact q)).trans e) h1, ?_⟩
    rcases h2 with h2 | ⟨h2, c, h3, o, h4, h5⟩
    · exact .inl h2
    · exact .inr ⟨h2, c, h3, o, hk _ _ (R.cown _ _ h3).2.2 h4, h5⟩
  · obtain ⟨h1, h2, h3, h4, h5, h6, h7⟩ := R.slf x dx e
    exact ⟨h1, h2, h3, h4, h5, h6, h7.ext hkW (fun o e => hk _ o (.inl h1) e) (fun o e => hk _ o (.inl h2) e)⟩

/-- what a comprehension leaves: the list, the frame with C private still -/
def CompDone (G : Base) (F : Fm) (prv : Addr → Prop) (φ1 : List Addr) (a : AS) (s1 : Shared) (ds : List DV) (H : List AObj) (D C : Addr) (φ' : List Addr) (s' : Shared) : Prop :=
  Rel G F (And1 prv C) φ' { a with heap := H } s'.heap ∧ VR G.prog G.w s'.heap (Wf F (And1 prv C) φ' H) (.ref D) (.list ds) ∧ Ext F.own φ1.length φ1 a.heap s1.heap φ' H s'.heap ∧ Same s1 s' ∧ (∃ m, s'.heap.Ns C m) ∧ s1.heap.get? C = none

section
variable {n : Nat} {F : Fm} {A : Around} {prv : Addr → Prop} {φ1 : List Addr} {a : AS} {s1 : Shared} {scope : Scope} {cl' : List (PySem.Str × Addr)} {vars : List (PySem.Str × AV)}

theorem comp_done {D C : Addr} {ds : List DV} {φ' : List Addr} {s' : Shared} (R : Rel G F prv φ1 a s1.heap) (hC : s1.heap.get? C = none) (hD : s1.heap.get? D = none)
    (Y : CS G (cmFm F scope cl' C) (fun b => Pv F prv b ∨ b ∈ [D]) vars a.heap D φ1 a.heap s1 ds φ' s') : CompDone G F prv φ1 a s1 ds a.heap D C φ' s' := by
  have hsub : ∀ b, Pv F (And1 prv C) b → Pv (cmFm F scope cl' C) (fun b => Pv F prv b ∨ b ∈ [D]) b := fun b hb => by
    rcases hb with hb | hb | hb
    · exact .inr (.inl (.inl hb))
    · exact .inr (.inl (.inr hb))
    · exact .inl (hb ▸ .head _)
  have HR := Y.rel.hr.narrow hsub
  obtain ⟨R', E'⟩ := R.calledIt hC HR Y.ext
  refine ⟨R', ?_, E', Y.same, (let ⟨m, hm, _⟩ := Y.rel.vars; ⟨m, hm⟩), hC⟩
  obtain ⟨ys, ⟨k, e⟩, h2⟩ := Y.acc
  refine .list e (fun q => ?_) (h2.ext fun b o e hw => ⟨e, fun q => hw (q.elim (fun q => .inl (hsub b q)) .inr)⟩)
  rcases q with (q | q | q) | q
  · exact R.fresh_not hD (.inl q)
  · exact R.fresh_not hD (.inr q)
  · subst q
    obtain ⟨m, ⟨o, es, ep, ho, hd, _⟩, _⟩ := Y.rel.vars
    have : s'.heap.get? D = some o := ho
    rw [e] at this; cases this; cases hd
  · obtain ⟨i, o, h1, _, _⟩ := q
    exact Y.rel.hr.nP D (List.mem_of_getElem? h1) (.inr (.inr (.head _)))

/-- the frame of the comprehension stands, the walk begins -/
theorem comp_frame {v : AV} {cv : Value} {tgt iter elt : Expr} {ifs : List Expr} {rest : List Comprehension} {pos : Pos} {items : List DV} {RR : Value → Addr → Result → Shared → Prop}
    (hI : ItemsOf v tgt items) (hA : AOk n A) (R : Rel G F prv φ1 a s1.heap) (V : AVR G F.slf φ1 s1.heap (Wf F prv φ1 a.heap) v cv)
    (hcl : closOf F.cl scope.names [] = some cl') (hnd : (scope.names.map (·.1)).Nodup) (hkind : scope.kind = .function) (hcap : ∀ C, Caps F (cmFm F scope cl' C) a vars)
    (h : ∀ (C D I : Addr) (s : Shared), s1.heap.get? C = none → s1.heap.get? D = none → Nonempty (Iter G A s1.heap (Wf F prv φ1 a.heap) tgt items I s.heap) → ¬ Pv (cmFm F scope cl' C) (fun b => Pv F prv b ∨ b ∈ [D]) I → (∀ x c, (cmFm F scope cl' C).cl.lookup x = some c → c ≠ I ∧ Pv (cmFm F scope cl' C) (fun b => Pv F prv b ∨ b ∈ [D]) c) → s1.heap.get? I = none → D ≠ I →
      CB (cmFm F scope cl' C) (fun b => Pv F prv b ∨ b ∈ [D]) D φ1 a.heap s1 →
      CS G (cmFm F scope cl' C) (And1 (fun b => Pv F prv b ∨ b ∈ [D]) I) vars a.heap D φ1 a.heap s1 [] φ1 s → KeptW (cmFm F scope cl' C) (And1 (fun b => Pv F prv b ∨ b ∈ [D]) I) a.heap s1.heap (Wf F prv φ1 a.heap) φ1 s.heap →
      codeAny (model G.prog G.w) A (.compLoop (.ListComp elt (⟨tgt, iter, ifs, 0⟩ :: rest) scope pos) 0 (.ref I) (.ref D) (cmFm F scope cl' C).env) (RR (.ref D) C) s) :
    wpAny (model G.prog G.w) A (pyIter cv) (fun it s₂ => wpAny (model G.prog G.w) A (newList []) (fun acc s₃ => wpAny (model G.prog G.w) A (newFunctionEnv scope F.env.globals cl' [] F.env.qual none .none (some F.env)) (fun cenv s₄ =>
      codeAny (model G.prog G.w) A (.compStart (.ListComp elt (⟨tgt, iter, ifs, 0⟩ :: rest) scope pos) 0 it acc { cenv with scope := relabel scope F.env }) (RR acc cenv.locals) s₄) NoE s₃) NoE s₂) NoE s1 := by
  refine iter_ok hI hA R V fun I h2 hnew hk ⟨it⟩ => ?_
  refine wpAny_newObj_type (newEnv_comp ?_)
  dsimp only
  have hD : s1.heap.get? h2.objs.size = none := by
    cases q : s1.heap.get? h2.objs.size with
    | none => rfl
    | some o => exact absurd (Heap.lt_size (hk _ _ q)) (Nat.lt_irrefl _)
  generalize hh3 : h2.push { cls := .type "list", dict := none, data := .seq ([] : List Value).toArray } = h3
  have hk3 : ∀ b o, h2.get? b = some o → h3.get? b = some o := fun b o e => hh3 ▸ Heap.get?_push_of_some _ e
  have hsz3 : h3.objs.size = h2.objs.size + 1 := by rw [← hh3, Heap.size_push]
  have hDp : h3.get? h2.objs.size = some { cls := .type "list", data := .seq #[] } := hh3 ▸ Heap.get?_push_size _ rfl
  have hC : s1.heap.get? h3.objs.size = none := by
    cases q : s1.heap.get? h3.objs.size with
    | none => rfl
    | some o => have := ltS (hk _ _ q); omega
  have Iex := it.ex _ _ it.st
  have ID : h2.objs.size ≠ I := fun q => by obtain ⟨o, e⟩ := Iex; rw [← q] at e; exact absurd (Heap.lt_size e) (Nat.lt_irrefl _)
  have IC : @LT.lt Nat _ I h3.objs.size := by obtain ⟨o, e⟩ := Iex; have := ltS e; omega
  have R4 := comp_rel (X := [h2.objs.size, I]) (h := h3) R (fun b o e => hk3 b o (hk b o e)) (fun b hb => by
    rcases List.mem_cons.mp hb with rfl | hb
    · exact ⟨hD, _, hDp⟩
    · rw [List.mem_singleton] at hb; subst hb
      obtain ⟨o, e⟩ := Iex
      exact ⟨hnew, o, hk3 _ _ e⟩) hcl hnd hkind (hcap _)
  have hprv : (fun b => Pv F prv b ∨ b ∈ [h2.objs.size, I]) = And1 (fun b => Pv F prv b ∨ b ∈ [h2.objs.size]) I := by
    funext b
    unfold And1
    simp [or_assoc]
  rw [hprv] at R4
  have ok := cellsFrom_ok scope.names (h3.push { cls := .type "dict", data := .dict #[] }) (h3.objs.size + 1) [] ⟨fun _ _ hm => (nomatch hm), List.Pairwise.nil⟩ (by rw [Heap.size_push]; exact Nat.le_refl _)
  rw [Heap.size_push] at ok
  have hk4 : ∀ b o, h3.get? b = some o → (pushCells (h3.push { cls := .type "dict", data := .dict #[] }) scope.names).get? b = some o := fun b o e => pushCells_keeps _ _ b o (Heap.get?_push_of_some _ e)
  generalize hh4 : pushCells (h3.push { cls := .type "dict", data := .dict #[] }) scope.names = h4 at R4 hk4 ok
  have it4 : Iter G A s1.heap (Wf F prv φ1 a.heap) tgt items I h4 := ⟨it.fp, it.Pk, it.St, it.walks, it.walks.frame _ _ _ it.st fun b _ o e => hk4 b o (hk3 b o e), it.fpok, it.ex, it.val, it.letgo⟩
  have ownGe : ∀ b ∈ (cmFm F scope cl' h3.objs.size).own, @LE.le Nat _ h3.objs.size b := by
    intro b hb
    rcases List.mem_cons.mp hb with rfl | hb
    · exact Nat.le_refl _
    · obtain ⟨⟨y, c⟩, hp, rfl⟩ := List.mem_map.mp hb
      have := (ok.empty y c hp).2
      show @LE.le Nat _ h3.objs.size c
      exact Nat.le_of_succ_le this
  have fo : ∀ b ∈ (cmFm F scope cl' h3.objs.size).own, s1.heap.get? b = none := fun b hb => by
    have := ownGe b hb
    cases q : s1.heap.get? b with
    | none => rfl
    | some o => have := ltS (hk _ _ q); omega
  have hcl' := closOf_mem scope.names [] cl' hcl (fun _ h => nomatch h)
  have cl_split : ∀ x c, (cmFm F scope cl' h3.objs.size).cl.lookup x = some c → c ∈ (cmFm F scope cl' h3.objs.size).own ∨ (Pv F prv c ∧ ∃ o, s1.heap.get? c = some o) := fun x c e => by
    have m := mem_of_lookup (show (cellsFrom (h3.objs.size + 1) scope.names [] ++ cl').lookup x = some c from e)
    rcases List.mem_append.mp m with m | m
    · exact .inl (.tail _ (List.mem_map.mpr ⟨_, m, rfl⟩))
    · obtain ⟨⟨_, o, ho, _⟩, _, r⟩ := R.cown x c (hcl' _ m)
      exact .inr ⟨r, o, ho⟩
  have nI₀ : ¬ Pv (cmFm F scope cl' h3.objs.size) (fun b => Pv F prv b ∨ b ∈ [h2.objs.size]) I := fun q => by
    rcases q with q | q | q
    · have := ownGe I q; omega
    · exact R.fresh_not hnew q
    · exact ID (List.mem_singleton.mp q).symm
  have cI : ∀ x c, (cmFm F scope cl' h3.objs.size).cl.lookup x = some c → c ≠ I ∧ Pv (cmFm F scope cl' h3.objs.size) (fun b => Pv F prv b ∨ b ∈ [h2.objs.size]) c := fun x c e => by
    rcases cl_split x c e with m | ⟨m, o, ho⟩
    · exact ⟨fun q => by have := ownGe c m; rw [q] at this; omega, .inl m⟩
    · exact ⟨fun q => (by rw [q, hnew] at ho; cases ho), .inr (.inl m)⟩
  have cD : ∀ x c, (cmFm F scope cl' h3.objs.size).cl.lookup x = some c → c ≠ h2.objs.size := fun x c e => by
    rcases cl_split x c e with m | ⟨m, o, ho⟩
    · exact fun q => by have := ownGe c m; rw [q] at this; omega
    · exact fun q => by rw [q, hD] at ho; cases ho
  have lB : φ1.length = a.heap.length := R.hr.len
  have hk14 : ∀ b o, s1.heap.get? b = some o → h4.get? b = some o := fun b o e => hk4 b o (hk3 b o (hk b o e))
  have hrun : ∀ s : Shared, s = { s1 with heap := h4 } → codeAny (model G.prog G.w) A (.compLoop (.ListComp elt (⟨tgt, iter, ifs, 0⟩ :: rest) scope pos) 0 (.ref I) (.ref h2.objs.size) (cmFm F scope cl' h3.objs.size).env) (RR (.ref h2.objs.size) h3.objs.size) s := by
    rintro s rfl
    refine h h3.objs.size h2.objs.size I _ hC hD ⟨it4⟩ nI₀ cI hnew ID ⟨rfl, .inr (.head _), cD, hD, fo, lB⟩ ⟨R4, ⟨#[], ⟨0, hk4 _ _ hDp⟩, .nil⟩, Ext.keeps hk14, .mk' s1 h4 s1.toks⟩ fun b o e hw => ?_
    refine ⟨hk14 b o e, fun q => ?_⟩
    rcases q with (q | (q | q) | q) | q
    · rw [fo b q] at e; cases e
    · exact hw (.inl q)
    · rw [List.mem_singleton.mp q, hD] at e; cases e
    · rw [q, hnew] at e; cases e
    · exact hw (.inr q)
  exact codeAny_compStart_list (hrun _ rfl) (it4.walks.self 0 _ _ _ it4.st (hrun _ rfl))
end
end Mine

namespace Mine
variable {G : Base}

variable (G) in
/-- what one item becomes -/
def Turn (n : Nat) (F : Fm) (vars : List (PySem.Str × AV)) (H : List AObj) (tgt : Expr) (ifs : List Expr) (elt : Expr) (g : DV → Option DV) (d : DV) : Prop :=
  ASG G n F ⟨vars, H, []⟩ tgt (.dat d) fun a3 => Sub vars a3.vars ∧ a3.heap = H ∧ TST G n F a3 ifs fun b a4 => a4.heap = H ∧ if b then EV G n F a4 elt fun y a5 => ∃ e, y = .dat e ∧ g d = some e ∧ a5.heap = H else g d = Option.none

variable (G) in
/-- a comprehension's clauses and item, from a source's value on -/
def CompRuns (n : Nat) (F : Fm) (a : AS) (v : AV) (elt : Expr) (gens : List Comprehension) (scope : Scope) (pos : Pos) (cl' : List (PySem.Str × Addr)) (ds : List DV) : Prop :=
  ∀ (A : Around) (prv : Addr → Prop) (φ1 : List Addr) (s1 : Shared) (cv : Value) (RR : Value → Addr → Result → Shared → Prop), AOk n A → Rel G F prv φ1 a s1.heap → AVR G F.slf φ1 s1.heap (Wf F prv φ1 a.heap) v cv → (∀ D C φ' s', CompDone G F prv φ1 a s1 ds a.heap D C φ' s' → RR (.ref D) C (.ok .next) s') →
    wpAny (model G.prog G.w) A (pyIter cv) (fun it s₂ => wpAny (model G.prog G.w) A (newList []) (fun acc s₃ => wpAny (model G.prog G.w) A (newFunctionEnv scope F.env.globals cl' [] F.env.qual Option.none .none (some F.env)) (fun cenv s₄ =>
      codeAny (model G.prog G.w) A (.compStart (.ListComp elt gens scope pos) 0 it acc { cenv with scope := relabel scope F.env }) (RR acc cenv.locals) s₄) NoE s₃) NoE s₂) NoE s1

theorem names_local {names : List (PySem.Str × NameKind)} (hnd : (names.map (·.1)).Nodup) : ∀ x ∈ names, x.2 = .local → names.lookup x.1 = some .local := by
  intro x hx e
  induction names with
  | nil => cases hx
  | cons p r ih =>
    rw [List.lookup_cons]
    rcases List.mem_cons.mp hx with rfl | hx
    · simp [e]
    · have hne : (x.1 == p.1) = false := beq_eq_false_iff_ne.mpr fun q => (List.nodup_cons.mp hnd).1 (List.mem_map.mpr ⟨x, hx, q⟩)
      rw [hne]
      exact ih (List.nodup_cons.mp hnd).2 hx

structure CompSt (F : Fm) (scope : Scope) (cl' : List (PySem.Str × Addr)) : Prop where
  cl : closOf F.cl scope.names [] = some cl'
  nd : (scope.names.map (·.1)).Nodup
  kind : scope.kind = .function

section
variable {n : Nat} {F : Fm} {a : AS}

theorem compRuns1 {v : AV} {elt tgt iter : Expr} {ifs : List Expr} {scope : Scope} {pos : Pos} {items : List DV} {g : DV → Option DV} {cl' : List (PySem.Str × Addr)} {vars : List (PySem.Str × AV)} (hI : ItemsOf v tgt items) (hlen : items.length ≤ 10000)
    (K : CompSt F scope cl') (hcap : ∀ C, Caps F (cmFm F scope cl' C) a vars)
    (turn : ∀ (C : Addr) (k : Nat) (d : DV), items[k]? = some d → Turn G n (cmFm F scope cl' C) vars a.heap tgt ifs elt g d) : CompRuns G n F a v elt [⟨tgt, iter, ifs, 0⟩] scope pos cl' (items.filterMap g) := by
  intro A prv φ1 s1 cv RR hA R V hRR
  refine comp_frame hI hA R V K.cl K.nd K.kind hcap fun C D I s hC hD ⟨it⟩ nI₀ cI fI hDI B CS0 K0 => ?_
  refine emit_loop (iter := iter) hA B rfl (fun Q E s h => ?_) it nI₀ cI fI hDI (by simpa using hlen) (turn C) (fun b o e hw => ⟨fun q => (by rw [q, fI] at e; cases e), fun q => (by rw [q, hD] at e; cases e)⟩) CS0 K0 fun φ' s' Y _ => ?_
  · show wpAny _ A ((compTurn (.ListComp elt [⟨tgt, iter, ifs, 0⟩] scope pos) 0 (.ref I) (.ref D) (cmFm F scope cl' C).env).onRaise (fun x => do noteFrame x (cmFm F scope cl' C).env; theTreesLotGoes x)) Q E s
    refine wpAny_noted (noE ?_)
    rw [compTurn_list]
    exact h
  · rw [List.nil_append] at Y
    exact hRR D C φ' s' (comp_done R hC hD Y)

/-- the value of a comprehension -/
theorem EV.comp {P : AV → AS → Prop} {elt iter tgt : Expr} {ifs : List Expr} {rest : List Comprehension} {scope : Scope} {pos : Pos} {cl' : List (PySem.Str × Addr)} (K : CompSt F scope cl')
    (h : EV G n F a iter fun v a1 => ∃ ds, CompRuns G n F a1 v elt (⟨tgt, iter, ifs, 0⟩ :: rest) scope pos cl' ds ∧ P (.dat (.list ds)) a1)
    (hs : ∀ x, foldedSetIterable iter F.env x = pure x := by intro _; rfl) : EV G n F a (.ListComp elt (⟨tgt, iter, ifs, 0⟩ :: rest) scope pos) P := by
  refine ⟨fun A prv φ s Q hA R hQ => ?_⟩
  rw [eval_ListComp]
  refine wpAny_comprehension_free (use := Option.none) rfl hs (closureFor_eq K.cl) K.kind (names_local K.nd) ?_
  refine h.go A prv φ s _ hA R fun v H1 φ1 cv s1 hv R1 V1 E1 S1 => ?_
  obtain ⟨ds, hrun, hP⟩ := hv
  refine hrun A prv φ1 s1 cv (fun acc C r s' => compPost (model G.prog G.w) A NoE Option.none Q acc C r s') hA R1 V1 fun D C φ' s' hd => ?_
  obtain ⟨R', V', E', S', ⟨m, hm⟩, hC⟩ := hd
  refine ⟨m, hm, fun h' hs' => ?_⟩
  have hk : ∀ b o, b ≠ C → s'.heap.get? b = some o → h'.get? b = some o := fun b o q e => (hs'.2 b q).trans e
  have R'' := R'.dropIt (R1.fresh_not hC) (R1.cells_ne hC) (fun x c e => (R1.cown x c e).2.2) hk
  have hCp : Pv F (And1 prv C) C := .inr (.inr rfl)
  refine (hQ.step E1 S1 E1.len) _ H1 φ' (.ref D) { s' with heap := h' } hP R'' ?_ (E'.turned hC hk) (S'.trans (.mk' s' h' s'.toks))
  exact V'.ext fun b o e hw => ⟨hk b o (fun q => hw (.inl (q ▸ hCp))) e, fun q => hw (wf_narrow q)⟩

/-- a comprehension bound to a local name on its line -/
theorem EX1.setComp {P : AFlow → AS → Prop} {x : PySem.Str} {p1 spos : Pos} {elt iter tgt : Expr} {ifs : List Expr} {rest : List Comprehension} {scope : Scope} {pos : Pos} {cl' : List (PySem.Str × Addr)} (K : CompSt F scope cl')
    (hsw : swapsWith (.ListComp elt (⟨tgt, iter, ifs, 0⟩ :: rest) scope pos) (some (.Name x p1)) spos.line F.env = pure true) (hx : Stores F x)
    (h : EV G n F a iter fun v a1 => ∃ ds, CompRuns G n F a1 v elt (⟨tgt, iter, ifs, 0⟩ :: rest) scope pos cl' ds ∧ P .next { a1 with vars := setV a1.vars x (.dat (.list ds)) })
    (hs : ∀ x, foldedSetIterable iter F.env x = pure x := by intro _; rfl) : EX1 G n F a (.Assign [.Name x p1] (.ListComp elt (⟨tgt, iter, ifs, 0⟩ :: rest) scope pos) spos) P := by
  refine ⟨fun A prv φ s Q hA R hQ => ?_⟩
  rw [exec_Assign_Name_used _ _ _ _ hsw]
  refine wpAny_bind (wpAny_standAt (wpAny_bind ?_))
  show wpAny _ A (do let _ ← comprehension (.ListComp elt (⟨tgt, iter, ifs, 0⟩ :: rest) scope pos) scope F.env _ (newList []) false (eval iter F.env) (some (assign (.Name x p1) F.env))) _ _ s
  refine wpAny_bind (wpAny_mono (wpAny_comprehension_free (use := some (assign (.Name x p1) F.env)) (Q := fun _ s' => Q .next s') rfl hs (closureFor_eq K.cl) K.kind (names_local K.nd) ?_) (fun _ _ q => wpAny_pure (wpAny_pure q)) fun _ _ e => e)
  refine h.go A prv φ s _ hA R fun v H1 φ1 cv s1 hv R1 V1 E1 S1 => ?_
  obtain ⟨ds, hrun, hP⟩ := hv
  refine hrun A prv φ1 s1 cv (fun acc C r s' => compPost (model G.prog G.w) A NoE (some (assign (.Name x p1) F.env)) (fun _ s' => Q .next s') acc C r s') hA R1 V1 fun D C φ' s' hd => ?_
  obtain ⟨R', V', E', S', ⟨m, hm⟩, hC⟩ := hd
  have hCp : Pv F (And1 prv C) C := .inr (.inr rfl)
  have hCo : ¬ C ∈ F.own := fun q => R1.fresh_not hC (.inl q)
  refine wpAny_assign_Name (store_var (v := .dat (.list ds)) hx R' V' fun h2 t R2 E2 => ?_)
  have hCW : ¬ Wr φ' H1 C := fun ⟨i, o, h1, _, _⟩ => R'.hr.nP C (List.mem_of_getElem? h1) hCp
  refine ⟨m, hm.at' fun o e => E2.step C o e hCo hCW, fun h3 hs3 => ?_⟩
  have hk : ∀ b o, b ≠ C → h2.get? b = some o → h3.get? b = some o := fun b o q e => (hs3.2 b q).trans e
  have R3 := R2.dropIt (R1.fresh_not hC) (R1.cells_ne hC) (fun x c e => (R1.cown x c e).2.2) hk
  have E3 := (Ext.trans E' E2 E'.len).turned hC hk
  exact ((hQ.step (a' := { a with heap := H1 }) E1 S1 R.n0).step (φ' := φ') (a' := { a with heap := H1, vars := setV a.vars x (.dat (.list ds)) }) (s' := { s' with heap := h3, toks := t }) E3 (S'.trans (.mk' s' h3 t)) R1.n0).now' R3 hP rfl
end
end Mine

namespace Mine
variable {G : Base}

/-! ## the library's ledger rules over everything that stands -/
abbrev H0 : Heap := {}
theorem h0_get (b : Addr) : H0.get? b = none := by
  unfold Heap.get?; simp [H0]
def allNews (h : Heap) (L : Addr) : List (Addr × Obj) := (List.range h.objs.size).filterMap fun a => if a = L then none else (h.get? a).map fun o => (a, o)
theorem allNews_mem {h : Heap} {L b : Addr} {o : Obj} (hb : b ≠ L) (e : h.get? b = some o) : (b, o) ∈ allNews h L := by
  unfold allNews
  rw [List.mem_filterMap]
  exact ⟨b, List.mem_range.mpr (Heap.lt_size e), by rw [if_neg hb, e]; rfl⟩
theorem allNews_of {h : Heap} {L : Addr} {p : Addr × Obj} (hp : p ∈ allNews h L) : h.get? p.1 = some p.2 ∧ p.1 ≠ L := by
  unfold allNews at hp
  rw [List.mem_filterMap] at hp
  obtain ⟨b, _, e⟩ := hp
  split at e
  · cases e
  · rename_i hb
    cases q : h.get? b with
    | none => rw [q] at e; cases e
    | some o => rw [q] at e; cases e; exact ⟨q, hb⟩
theorem ledN (h : Heap) (L : Addr) : News H0 L h (allNews h L) := fun p hp => ⟨(allNews_of hp).1, (allNews_of hp).2, h0_get _⟩

section
variable {F : Fm} {prv : Addr → Prop} {φ : List Addr} {a : AS} {s : Shared}
theorem Rel.fr (R : Rel G F prv φ a s.heap) : ∃ m, Fr H0 F.L s.heap m := let ⟨m, hn, _⟩ := R.vars; ⟨m, hn, fun b o e => by rw [h0_get] at e; (cases e), Nat.zero_le _⟩

/-- all but the frame's names stands to the sign, these by what they say -/
structure Led (L : Addr) (h h' : Heap) : Prop where
  keep : ∀ b o, b ≠ L → h.get? b = some o → h'.get? b = some o
  ns : ∀ m, h.Ns L m → h'.Ns L m
theorem Heap.Ns.unique {h : Heap} {L : Addr} {m m' : PySem.Str → Option Value} (x : h.Ns L m) (y : h.Ns L m') : m = m' := funext fun n => by
  obtain ⟨o, es, ep, h1, h2, h3, h4⟩ := x
  obtain ⟨o', es', ep', h1', h2', h3', h4'⟩ := y
  rw [← h4 n, ← h4' n]
  have : o = o' := Option.some.inj (h1.symm.trans h1')
  subst this
  rw [h2] at h2'; cases h2'; rfl
theorem led_of {L : Addr} {h h' : Heap} {m : PySem.Str → Option Value} {news : List (Addr × Obj)} (F₀ : Fr H0 L h m) (F' : Fr H0 L h' m) (N' : News H0 L h' news) (hs : ∀ p ∈ allNews h L, p ∈ news) : Led L h h' :=
  ⟨fun b o hb e => (N' _ (hs _ (allNews_mem hb e))).1, fun m' hm => by rw [Heap.Ns.unique hm F₀.ns]; exact F'.ns⟩
theorem led_keeps {L : Addr} {h h' : Heap} (hk : ∀ b o, h.get? b = some o → h'.get? b = some o) : Led L h h' := ⟨fun b o _ e => hk b o e, fun m hm => hm.keeps hk⟩

theorem Rel.led (R : Rel G F prv φ a s.heap) {h' : Heap} (X : Led F.L s.heap h') : Rel G F prv φ a h' ∧ (∀ k, Ext F.own k φ a.heap s.heap φ a.heap h') ∧ (∀ b o, s.heap.get? b = some o → ¬ Wf F prv φ a.heap b → h'.get? b = some o ∧ ¬ Wf F prv φ a.heap b) := by
  obtain ⟨m, hn, hv⟩ := R.vars
  have hex : ∀ b o, s.heap.get? b = some o → ∃ o', h'.get? b = some o' := fun b o e => by
    by_cases q : b = F.L
    · subst q; obtain ⟨o, _, _, e, _⟩ := X.ns m hn; exact ⟨o, e⟩
    · exact ⟨o, X.keep b o q e⟩
  have hkW : ∀ b o, s.heap.get? b = some o → ¬ Wf F prv φ a.heap b → h'.get? b = some o ∧ ¬ Wf F prv φ a.heap b := fun b o e hw => ⟨X.keep b o (fun q => hw (.inl (q ▸ R.Lp))) e, hw⟩
  have nL : ∀ b, b ∈ φ → b ≠ F.L := fun b hb q => R.hr.nP b hb (q ▸ R.Lp)
  refine ⟨⟨R.kfun, R.hr.step (fun b => b = F.L) (fun b o e x => X.keep b o x e) hex (fun b x => x ▸ R.Lp), R.own_prv, R.Lown, fun x c e => ?_, R.cinj, R.n0, ⟨m, X.ns m hn, fun x v e => ?_⟩, fun x dx e => ?_⟩, fun k => ⟨fun _ _ => rfl, fun b o e h1 _ => X.keep b o (fun q => h1 (q ▸ R.Lown)) e, hex, fun _ x => .inl x⟩, hkW⟩
  · obtain ⟨⟨v, o, ho, hd⟩, r⟩ := R.cown x c e
    exact ⟨⟨v, o, X.keep _ _ r.1 ho, hd⟩, r⟩
  · obtain ⟨cv, h1, h2⟩ := hv x v e
    refine ⟨cv, AVR.ext hkW (fun _ _ e => e) h1, ?_⟩
    rcases h2 with h2 | ⟨h2, c, h3, o, h4, h5⟩
    · exact .inl h2
    · exact .inr ⟨h2, c, h3, o, X.keep _ _ (R.cown _ _ h3).2.1 h4, h5⟩
  · obtain ⟨h1, h2, h3, h4, h5, h6, h7⟩ := R.slf x dx e
    exact ⟨h1, h2, h3, h4, h5, h6, h7.ext hkW (fun o e => X.keep _ o h4 e) (fun o e => X.keep _ o h5 e)⟩

theorem Post.led {P : AV → AS → Prop} {Q : Value → Shared → Prop} (hQ : Post (G := G) F prv φ a s P Q) (R : Rel G F prv φ a s.heap) {v : AV} {cv : Value} {h' : Heap} (hP : P v a) (X : Led F.L s.heap h') (V : AVR G F.slf φ h' (Wf F prv φ a.heap) v cv) (t : Nat) :
    Q cv { s with heap := h', toks := t } :=
  hQ v a.heap φ cv _ hP (R.led X).1 V ((R.led X).2.1 _) (.mk' ..)

/-- a value that is new is not written -/
theorem Rel.new_not (R : Rel G F prv φ a s.heap) {x : Addr} (hn : s.heap.get? x = none) : ¬ Wf F prv φ a.heap x := fun q => by
  rcases q with q | ⟨i, o, h1, _, _⟩
  · exact R.fresh_not hn q
  · obtain ⟨o, e⟩ := R.hr.ex x (List.mem_of_getElem? h1); rw [e] at hn; cases hn
theorem size_none (h : Heap) : h.get? h.objs.size = none := by
  cases q : h.get? h.objs.size with
  | none => rfl
  | some o => exact absurd (Heap.lt_size q) (Nat.lt_irrefl _)

/-- a new list, written no more -/
theorem Post.newList {P : AV → AS → Prop} {Q : Value → Shared → Prop} (hQ : Post (G := G) F prv φ a s P Q) (R : Rel G F prv φ a s.heap) {vs : List Value} {ds : List DV} {h' : Heap} (hP : P (.dat (.list ds)) a) (X : Led F.L s.heap h') {k : Nat}
    (e : h'.get? s.heap.objs.size = some { cls := .type "list", data := .seq vs.toArray k }) (V : VRs G.prog G.w s.heap (Wf F prv φ a.heap) vs ds) (t : Nat) : Q (.ref s.heap.objs.size) { s with heap := h', toks := t } :=
  hQ.led R hP X (.list e (R.new_not (size_none _)) (by simpa using V.ext (R.led X).2.2)) t
theorem Post.newTup {P : AV → AS → Prop} {Q : Value → Shared → Prop} (hQ : Post (G := G) F prv φ a s P Q) (R : Rel G F prv φ a s.heap) {vs : List Value} {ds : List DV} {h' : Heap} (hP : P (.dat (.tup ds)) a) (X : Led F.L s.heap h') {k : Nat}
    (e : h'.get? s.heap.objs.size = some { cls := .type "tuple", data := .seq vs.toArray k }) (V : VRs G.prog G.w s.heap (Wf F prv φ a.heap) vs ds) (t : Nat) : Q (.ref s.heap.objs.size) { s with heap := h', toks := t } :=
  hQ.led R hP X (.tup e (R.new_not (size_none _)) (by simpa using V.ext (R.led X).2.2)) t
/-- a new writable thing -/
theorem Rel.allocL {h h' : Heap} (R : Rel G F prv φ a h) {x : Addr} {o : AObj} (X : Led F.L h h') (hf : h.get? x = none) (hxs : x ≠ sysModules) (hx : ∃ ox, h'.get? x = some ox)
    (ho : ∀ W' : Addr → Prop, (∀ (b : Addr) (o : Obj), h.get? b = some o → ¬ Wf F prv φ a.heap b → ¬ W' b) → ORel G h' W' x o) :
    Rel G F prv (φ ++ [x]) { a with heap := a.heap ++ [o] } h' ∧ Ext F.own φ.length φ a.heap h (φ ++ [x]) (a.heap ++ [o]) h' := by
  have hl := R.hr.len
  have hk := X.keep
  have exL : ∀ b o, h.get? b = some o → ∃ o', h'.get? b = some o' := fun b o e => by
    by_cases q : b = F.L
    · subst q; obtain ⟨m, hn, _⟩ := R.vars; obtain ⟨o, _, _, e, _⟩ := X.ns m hn; exact ⟨o, e⟩
    · exact ⟨o, hk b o q e⟩
  have nW : ∀ b, ¬ Wf F prv φ a.heap b → b ≠ F.L := fun b hw q => hw (.inl (q ▸ R.Lp))
  have nφ : ∀ b, b ∈ φ → b ≠ F.L := fun b hb q => R.hr.nP b hb (q ▸ R.Lp)
  have nex : ∀ b o, h.get? b = some o → b ≠ x := fun b o e q => by rw [q, hf] at e; cases e
  have hkW : ∀ b o₁, h.get? b = some o₁ → ¬ Wf F prv φ a.heap b → h'.get? b = some o₁ ∧ ¬ Wf F prv (φ ++ [x]) (a.heap ++ [o]) b := fun b o₁ e hw => by
    refine ⟨hk b o₁ (nW b hw) e, fun q => ?_⟩
    rcases q with q | q
    · exact hw (.inl q)
    · rcases wr_append hl q with q | q
      · exact hw (.inr q)
      · exact nex b _ e q
  have xφ : x ∉ φ := fun q => by obtain ⟨o, e⟩ := R.hr.ex x q; rw [e] at hf; cases hf
  have xP : ¬ Pv F prv x := fun q => by obtain ⟨o, e⟩ := R.hr.pex x q; rw [e] at hf; cases hf
  have hφ : ∀ (i : Nat) (b : Addr), φ[i]? = some b → (φ ++ [x])[i]? = some b := fun i b e => by rw [List.getElem?_append_left (List.getElem?_eq_some_iff.mp e).1]; exact e
  refine ⟨⟨R.kfun, ?_, R.own_prv, R.Lown, fun y c e => ?_, R.cinj, ?_, ?_, fun y dx e => ?_⟩, ?_⟩
  · refine ⟨fun b o e => hk b o (fun q => by rw [q, R.hr.pB _ R.Lp] at e; cases e) (R.hr.base b o e), by simp [hl], ?_, ?_, R.hr.pB, ?_, ?_, fun b hb => let ⟨o, e⟩ := R.hr.pex b hb; exL b o e, ?_⟩
    · rw [List.nodup_append]
      refine ⟨R.hr.inj, by simp, fun p hp q hq => ?_⟩
      rw [List.mem_singleton] at hq; subst hq
      exact fun z => xφ (z ▸ hp)
    · intro b hb
      rcases List.mem_append.mp hb with hb | hb
      · exact R.hr.nP b hb
      · rw [List.mem_singleton] at hb; subst hb; exact xP
    · intro b hb
      rcases List.mem_append.mp hb with hb | hb
      · exact R.hr.φB b hb
      · rw [List.mem_singleton] at hb; subst hb
        refine ⟨?_, hxs⟩
        cases e : G.B.get? b with
        | none => rfl
        | some o => have := R.hr.base _ _ e; rw [this] at hf; cases hf
    · intro b hb
      rcases List.mem_append.mp hb with hb | hb
      · obtain ⟨o, e⟩ := R.hr.ex b hb; exact exL b o e
      · rw [List.mem_singleton] at hb; subst hb; exact hx
    · intro i b o₁ h1 h2
      by_cases q : i < φ.length
      · rw [List.getElem?_append_left q] at h1
        rw [List.getElem?_append_left (hl ▸ q)] at h2
        exact ORel.ext hkW (fun o e => hk _ o (nφ _ (List.mem_of_getElem? h1)) e) (R.hr.obj i b o₁ h1 h2)
      · rw [List.getElem?_append_right (Nat.le_of_not_lt q)] at h1
        rw [List.getElem?_append_right (hl ▸ Nat.le_of_not_lt q), ← hl] at h2
        cases j : i - φ.length with
        | zero =>
          rw [j] at h1 h2; simp at h1 h2; subst h1 h2
          exact ho _ fun b o e hw => (hkW b o e hw).2
        | succ j => rw [j] at h1; simp at h1
  · obtain ⟨⟨v, o, ho, hd⟩, r⟩ := R.cown y c e
    exact ⟨⟨v, o, hk _ _ r.1 ho, hd⟩, r⟩
  · have := R.n0; simp; omega
  · obtain ⟨m, hn, hv⟩ := R.vars
    refine ⟨m, X.ns m hn, fun y v e => ?_⟩
    obtain ⟨cv, h1, h2⟩ := hv y v e
    refine ⟨cv, AVR.ext hkW hφ h1, ?_⟩
    rcases h2 with h2 | ⟨h2, c, h3, o, h4, h5⟩
    · exact .inl h2
    · exact .inr ⟨h2, c, h3, o, hk _ _ (R.cown _ _ h3).2.1 h4, h5⟩
  · obtain ⟨h1, h2, h3, h4, h5, h6, h7⟩ := R.slf y dx e
    exact ⟨h1, h2, h3, h4, h5, h6, h7.ext hkW (fun o e => hk _ o h4 e) (fun o e => hk _ o h5 e)⟩
  · refine ⟨fun i hi => List.getElem?_append_left hi, fun b o e h1 _ => hk b o (fun q => h1 (q ▸ R.Lown)) e, exL, fun b hb => ?_⟩
    rcases wr_append hl hb with q | q
    · exact .inl q
    · exact .inr (q ▸ hf)

theorem Rel.size_sys (R : Rel G F prv φ a s.heap) : s.heap.objs.size ≠ sysModules := fun q => by
  obtain ⟨b, o, e, lt⟩ := G.big
  have := ltS (R.hr.base b o e)
  rw [q] at this
  exact absurd (Nat.lt_trans lt this) (Nat.lt_irrefl _)
/-- a new list that may be written -/
theorem Post.newRef {P : AV → AS → Prop} {Q : Value → Shared → Prop} (hQ : Post (G := G) F prv φ a s P Q) (R : Rel G F prv φ a s.heap) {vs : List Value} {ds : List DV} {h' : Heap} (hP : P (.ref a.heap.length) { a with heap := a.heap ++ [.list ds] }) (X : Led F.L s.heap h') {k : Nat}
    (e : h'.get? s.heap.objs.size = some { cls := .type "list", data := .seq vs.toArray k }) (V : VRs G.prog G.w s.heap (Wf F prv φ a.heap) vs ds) (t : Nat) : Q (.ref s.heap.objs.size) { s with heap := h', toks := t } := by
  have nW : ∀ b, ¬ Wf F prv φ a.heap b → b ≠ F.L := fun b hw q => hw (.inl (q ▸ R.Lp))
  obtain ⟨R', E'⟩ := R.allocL (x := s.heap.objs.size) (o := .list ds) X (size_none _) R.size_sys ⟨_, e⟩ fun W' hW => ⟨k, vs.toArray, e, by simpa using V.ext fun b o eb hw => ⟨X.keep b o (nW b hw) eb, hW b o eb hw⟩⟩
  refine hQ (.ref a.heap.length) _ _ _ _ hP R' ⟨s.heap.objs.size, ?_, rfl⟩ E' (.mk' ..)
  rw [← R.hr.len]; simp
theorem Post.newDict {P : AV → AS → Prop} {Q : Value → Shared → Prop} (hQ : Post (G := G) F prv φ a s P Q) (R : Rel G F prv φ a s.heap) {kvs : List (Int × Int)} {kvs' : List (Int × Value)} {ep : Nat} {h' : Heap} (hP : P (.ref a.heap.length) { a with heap := a.heap ++ [.dict kvs] }) (X : Led F.L s.heap h')
    (e : h'.DictAt (intKind G.prog G.w) s.heap.objs.size kvs' ep) (V : IntVals kvs' kvs) (t : Nat) : Q (.ref s.heap.objs.size) { s with heap := h', toks := t } := by
  obtain ⟨R', E'⟩ := R.allocL (x := s.heap.objs.size) (o := .dict kvs) X (size_none _) R.size_sys (let ⟨o, _, eo, _⟩ := e; ⟨o, eo⟩) fun W' hW => ⟨ep, kvs', e, V⟩
  refine hQ (.ref a.heap.length) _ _ _ _ hP R' ⟨s.heap.objs.size, ?_, rfl⟩ E' (.mk' ..)
  rw [← R.hr.len]; simp
end
end Mine

namespace Mine
variable {G : Base}

/-- what a step on values gives, at a state -/
structure OPL (G : Base) (n : Nat) (F : Fm) (a : AS) (t : List Value → Sem Value) (xs : List AV) (P : AV → AS → Prop) : Prop where
  go : ∀ A prv φ s Q cxs, AOk n A → Rel G F prv φ a s.heap → AVRs G F.slf φ s.heap (Wf F prv φ a.heap) xs cxs → Post (G := G) F prv φ a s P Q → wpAny (model G.prog G.w) A (t cxs) Q NoE s

/-- what kind a value has -/
def ATy (a : AS) : AV → String → Prop
  | .dat (.list _), T => T = "list"
  | .dat (.tup _), T => T = "tuple"
  | .dat (.str _), T => T = "str"
  | .dat (.int _), T => T = "int"
  | .dat (.idict _), T => T = "dict"
  | .ref i, T => (∃ xs, a.heap[i]? = some (.list xs) ∧ T = "list") ∨ (∃ kvs, a.heap[i]? = some (.dict kvs) ∧ T = "dict")
  | _, _ => False

/-- a list, held or written -/
def LsOf (a : AS) (x : AV) (xs : List DV) : Prop := x = .dat (.list xs) ∨ ∃ i, x = .ref i ∧ a.heap[i]? = some (.list xs)
def DcOf (a : AS) (x : AV) (kvs : List (Int × Int)) : Prop := x = .dat (.idict kvs) ∨ ∃ i, x = .ref i ∧ a.heap[i]? = some (.dict kvs)

section
variable {n : Nat} {F : Fm} {prv : Addr → Prop} {φ : List Addr} {a : AS} {h : Heap} {P : AV → AS → Prop}

theorem ls_of (R : Rel G F prv φ a h) {x : AV} {cx : Value} {xs : List DV} (V : AVR G F.slf φ h (Wf F prv φ a.heap) x cx) (L : LsOf a x xs) :
    ∃ ad k vs, cx = .ref ad ∧ h.get? ad = some { cls := .type "list", data := .seq vs k } ∧ VRs G.prog G.w h (Wf F prv φ a.heap) vs.toList xs := by
  rcases L with rfl | ⟨i, rfl, e⟩
  · cases V with | list h1 _ h3 => exact ⟨_, _, _, rfl, h1, h3⟩
  · obtain ⟨ad, h1, rfl⟩ := V
    obtain ⟨k, vs, h2, h3⟩ := R.hr.obj i ad _ h1 e
    exact ⟨ad, k, vs, rfl, h2, h3⟩
theorem isList_of {ad : Addr} {k : Nat} {vs : Array Value} (e : h.get? ad = some { cls := .type "list", data := .seq vs k }) : h.IsList ad vs := ⟨_, e, rfl, k, rfl⟩
theorem dc_of (O : Ok G) (R : Rel G F prv φ a h) {x : AV} {cx : Value} {kvs : List (Int × Int)} (V : AVR G F.slf φ h (Wf F prv φ a.heap) x cx) (L : DcOf a x kvs) :
    ∃ ad ep kvs', cx = .ref ad ∧ h.DictAt (intKind G.prog G.w) ad kvs' ep ∧ (ad == sysModules) = false ∧ IntVals kvs' kvs := by
  rcases L with rfl | ⟨i, rfl, e⟩
  · cases V with | idict h1 _ h3 h4 => exact ⟨_, _, _, rfl, h1, h3, h4⟩
  · obtain ⟨ad, h1, rfl⟩ := V
    obtain ⟨ep, kvs', h2, h3⟩ := R.hr.obj i ad _ h1 e
    refine ⟨ad, ep, kvs', rfl, h2, ?_, h3⟩
    simpa using (R.hr.φB ad (List.mem_of_getElem? h1)).2
theorem dictOf_at {hh : Heap} {ad : Addr} {kvs : List (Int × Value)} {ep : Nat} (x : hh.DictAt (intKind G.prog G.w) ad kvs ep) : hh.DictOf (intKind G.prog G.w) ad kvs := let ⟨o, es, r⟩ := x; ⟨o, es, ep, r⟩
theorem dictAt_of {hh : Heap} {ad : Addr} {kvs : List (Int × Value)} (x : hh.DictOf (intKind G.prog G.w) ad kvs) : ∃ ep, hh.DictAt (intKind G.prog G.w) ad kvs ep := let ⟨o, es, ep, r⟩ := x; ⟨ep, o, es, r⟩

theorem aty_of {s : Shared} (R : Rel G F prv φ a s.heap) {x : AV} {cx : Value} {T : String} (V : AVR G F.slf φ s.heap (Wf F prv φ a.heap) x cx) (hT : ATy a x T) :
    s.TypeIs cx T ∧ ∀ b, cx = .ref b → ∃ ob, s.heap.get? b = some ob ∧ ob.dict = none := by
  have two : ∀ {ad : Addr} {o : Obj}, s.heap.get? ad = some o → o.cls = .type T → o.dict = none → s.TypeIs (.ref ad) T ∧ ∀ b, Value.ref ad = .ref b → ∃ ob, s.heap.get? b = some ob ∧ ob.dict = none :=
    fun {ad o} e hc hd => ⟨⟨o, e, hc⟩, fun b hb => by cases hb; exact ⟨o, e, hd⟩⟩
  cases x with
  | dat d =>
    cases V with
    | str => cases (show T = "str" from hT); exact ⟨rfl, fun b hb => nomatch hb⟩
    | int => cases (show T = "int" from hT); exact ⟨rfl, fun b hb => nomatch hb⟩
    | list h1 => cases (show T = "list" from hT); exact two h1 rfl rfl
    | tup h1 => cases (show T = "tuple" from hT); exact two h1 rfl rfl
    | idict h1 => cases (show T = "dict" from hT); obtain ⟨o, _, e, ⟨hc, hd, _⟩, _⟩ := h1; exact two e hc hd
    | none => exact hT.elim
    | bool => exact hT.elim
  | ref i =>
    obtain ⟨ad, h1, rfl⟩ := V
    rcases hT with ⟨xs, e, rfl⟩ | ⟨kvs, e, rfl⟩
    · obtain ⟨k, vs, h2, h3⟩ := R.hr.obj i ad _ h1 e
      exact two h2 rfl rfl
    · obtain ⟨ep, kvs', ⟨o, _, e, ⟨hc, hd, _⟩, _⟩, _⟩ := R.hr.obj i ad _ h1 e
      exact two e hc hd
  | inst => exact hT.elim
  | slf => exact hT.elim
  | con => exact hT.elim
  | rng => exact hT.elim

/-! ### calls of builtins -/
/-- a call by a name -/
theorem EV.fn {f : PySem.Str} {p1 pos : Pos} {es : List Expr} (h : EV G n F a (.Name f p1) fun c a1 => ∃ fv, c = .con fv ∧ KeepOk G fv ∧ EVs G n F a1 es fun vs a2 => OPL G n F a2 (fun cvs => PySem.call fv cvs) vs P)
    (hes : ∀ env pos, backTo pos (starEach es env) = plainArgs env es := by exact star_of rfl) : EV G n F a (.Call (.Name f p1) es [] pos) P := by
  refine ⟨fun A prv φ s Q hA R hQ => ?_⟩
  refine wpAny_Call_Name_kw (h.go A prv φ s _ hA R fun c a1 φ1 cf s1 hc R1 V1 E1 S1 => ?_)
  obtain ⟨fv, rfl, hkeep, hargs⟩ := hc
  have : cf = fv := V1
  subst this
  refine callWith_of (P := fun h => ∀ b o, G.B.get? b = some o → h.get? b = some o) (argsTree hes F.env) hkeep ?_
  rw [hes]
  refine evalArgs_plainArgs (evs_sound hA es { a with heap := a1 } φ1 s1 _ _ hargs R1 fun vs a2 φ2 cvs s2 h2 R2 V2 E2 S2 => ?_)
  exact ⟨R2.base, h2.go A prv φ2 s2 Q cvs hA R2 V2 ((hQ.step E1 S1 E1.len).step E2 S2 E2.len)⟩
theorem keep_builtin (id : String) : KeepOk G (.builtin id) := fun h _ => ⟨.machine, .inr (.inl rfl), Looks.now⟩
theorem keep_type (id : String) : KeepOk G (.type id) := fun h _ => ⟨.machine, .inr (.inl rfl), Looks.now⟩

/-- a method of a builtin kind -/
theorem EV.meth {o : Expr} {name : PySem.Str} {apos pos : Pos} {es : List Expr} {T id : String} (pa : PlainAttrs T) (slot : Slot T name id) (hty : typeOf (.builtin id) = pure (.type "method_descriptor"))
    (h : EV G n F a o fun x a1 => ATy a1 x T ∧ EVs G n F a1 es fun vs a2 => OPL G n F a2 (fun cvs => PySem.call (Value.builtin id) cvs) (x :: vs) P)
    (hbase : ∀ env, attributeBase o name env (eval o env) = eval o env := by intro _; rfl)
    (hline : (apos.endLine == pos.line) = true := by rfl) (hn : decide (es.length < 30) = true := by rfl)
    (hes : ∀ env pos, backTo pos (starEach es env) = plainArgs env es := by exact star_of rfl) : EV G n F a (.Call (.Attribute o name apos) es [] pos) P := by
  refine ⟨fun A prv φ s Q hA R hQ => ?_⟩
  refine wpAny_Call_method (hbase _) ?_ hline pa slot hty (h.go A prv φ s _ hA R fun x a1 φ1 cx s1 hx R1 V1 E1 S1 => ?_)
  · rw [hes]
    have h1 : (plainArgs F.env es).all (fun x => !x.1) = true := by
      rw [List.all_eq_true]; intro x hx
      obtain ⟨e, _, rfl⟩ := List.mem_map.mp hx
      rfl
    rw [h1]
    simpa [keywordEach, backToKw] using hn
  · obtain ⟨hT, hargs⟩ := hx
    obtain ⟨t1, t2⟩ := aty_of (a := { a with heap := a1 }) R1 V1 hT
    refine ⟨t1, t2, ?_⟩
    refine callWith_of (P := fun h => ∀ b o, G.B.get? b = some o → h.get? b = some o) (argsTree hes F.env) (keep_builtin id) ?_
    rw [hes]
    refine evalArgs_plainArgs (evs_sound hA es { a with heap := a1 } φ1 s1 _ _ hargs R1 fun vs a2 φ2 cvs s2 h2 R2 V2 E2 S2 => ?_)
    exact ⟨R2.base, h2.go A prv φ2 s2 Q (cx :: cvs) hA R2 (.cons (V1.after E2 (Nat.le_refl _)) V2) ((hQ.step E1 S1 E1.len).step E2 S2 E2.len)⟩

/-! ### displays -/
theorem avrs_dat {σ : Option (Addr × Addr)} {W : Addr → Prop} : ∀ {ds : List DV} {cvs : List Value}, AVRs G σ φ h W (ds.map .dat) cvs → VRs G.prog G.w h W cvs ds
  | [], _, .nil => .nil
  | _ :: _, _, .cons a r => .cons a (avrs_dat r)
theorem star_plain {es : List Expr} {pos : Pos} (hes : ∀ env pos, backTo pos (starEach es env) = plainArgs env es) (env : Env) : backTo pos (starEach es env) = plainArgs env es := hes env pos

theorem EV.list {es : List Expr} {pos : Pos} (h : EVs G n F a es fun vs a1 => ∃ ds, vs = ds.map .dat ∧ ds.length ≤ 1000 ∧ (P (.dat (.list ds)) a1 ∨ P (.ref a1.heap.length) { a1 with heap := a1.heap ++ [.list ds] }))
    (hes : ∀ env pos, backTo pos (starEach es env) = plainArgs env es := by exact star_of rfl) : EV G n F a (.List es pos) P := by
  refine ⟨fun A prv φ s Q hA R hQ => ?_⟩
  refine List_ ?_
  rw [hes]
  refine evs_sound hA es a φ s _ _ h R fun vs a1 φ1 cvs s1 hv R1 V1 E1 S1 => ?_
  obtain ⟨ds, rfl, hl, hP⟩ := hv
  have VV := avrs_dat V1
  have hz : cvs.length ≤ 1000 := by rw [VV.length]; exact hl
  refine wpAny_newList ?_ (by rw [sizeLine_eq]; omega)
  have X : Led F.L s1.heap (s1.heap.push { cls := .type "list", data := .seq cvs.toArray }) := led_keeps fun b o e => Heap.get?_push_of_some _ e
  rcases hP with hP | hP
  · exact (hQ.step E1 S1 E1.len).newList R1 hP X (Heap.get?_push_size _ rfl) VV s1.toks
  · exact (hQ.step E1 S1 E1.len).newRef R1 hP X (Heap.get?_push_size _ rfl) VV s1.toks
theorem EV.tuple {es : List Expr} {k : Nat} {pos : Pos} (h : EVs G n F a es fun vs a1 => ∃ ds, vs = ds.map .dat ∧ ds.length ≤ 1000 ∧ P (.dat (.tup ds)) a1)
    (hes : ∀ env pos, backTo pos (starEach es env) = plainArgs env es := by exact star_of rfl) : EV G n F a (.Tuple es k pos) P := by
  refine ⟨fun A prv φ s Q hA R hQ => ?_⟩
  refine Tuple_ ?_
  rw [hes]
  refine evs_sound hA es a φ s _ _ h R fun vs a1 φ1 cvs s1 hv R1 V1 E1 S1 => ?_
  obtain ⟨ds, rfl, hl, hP⟩ := hv
  have VV := avrs_dat V1
  have hz : cvs.length ≤ 1000 := by rw [VV.length]; exact hl
  refine wpAny_newObj_type ?_ (by show cvs.toArray.size ≤ sizeLine; rw [List.size_toArray, sizeLine_eq]; omega)
  exact (hQ.step E1 S1 E1.len).newTup R1 hP (led_keeps fun b o e => Heap.get?_push_of_some _ e) (Heap.get?_push_size _ rfl) VV s1.toks
theorem EV.dict0 {pos : Pos} (hP : P (.ref a.heap.length) { a with heap := a.heap ++ [.dict []] }) : EV G n F a (.Dict [] [] pos) P := by
  refine ⟨fun A prv φ s Q hA R hQ => ?_⟩
  refine wpAny_Dict_empty ?_
  refine hQ.newDict (kvs := []) (kvs' := []) (ep := 0) R hP (led_keeps fun b o e => Heap.get?_push_of_some _ e) ?_ .nil s.toks
  refine ⟨_, _, Heap.get?_push_size _ rfl, ⟨rfl, rfl, rfl⟩, rfl, ?_, ?_, .nil⟩
  · first | exact KeysOf.nil | exact ⟨fun _ h => (nomatch h)⟩ | (intro e he; simp at he) | skip
  · first | exact .nil | rfl | skip
end
end Mine

namespace Mine
variable {G : Base}

theorem upd_self {h : Heap} {l : Addr} {items : Array Value} {k : Nat} (f : Array Value → Array Value) (e : h.get? l = some { cls := .type "list", data := .seq items k }) :
    ∃ k', (h.update l (Obj.mapSeq f)).get? l = some { cls := .type "list", data := .seq (f items) k' } := ⟨_, PySem.IsL.update e f⟩

def pickL {α : Type} (xs : List α) (lo hi st : Option Int) : List α :=
  (PySem.sliceRange (sliceBounds lo hi st xs.length).1 (sliceBounds lo hi st xs.length).2.1 (sliceBounds lo hi st xs.length).2.2).filterMap (xs[·]?)
theorem VRs.filterMap {prog : Program} {w : World} {h : Heap} {W : Addr → Prop} {vs : List Value} {ds : List DV} (r : VRs prog w h W vs ds) : ∀ is : List Nat, VRs prog w h W (is.filterMap (vs[·]?)) (is.filterMap (ds[·]?))
  | [] => .nil
  | i :: is => by
    rw [List.filterMap_cons, List.filterMap_cons]
    cases e : vs[i]? with
    | none =>
      have : ds[i]? = none := by rw [List.getElem?_eq_none_iff] at e ⊢; rw [← r.length]; exact e
      rw [this]; exact VRs.filterMap r is
    | some v =>
      obtain ⟨d, e', x⟩ := r.get' e
      rw [e']
      exact .cons x (VRs.filterMap r is)
theorem VRs.pick {prog : Program} {w : World} {h : Heap} {W : Addr → Prop} {vs : Array Value} {ds : List DV} (r : VRs prog w h W vs.toList ds) (lo hi st : Option Int) : VRs prog w h W (slicePick vs lo hi st).toList (pickL ds lo hi st) := by
  have hl : ds.length = vs.size := by rw [← r.length]; simp
  unfold slicePick pickL
  rw [hl]
  have : (fun i : Nat => vs[i]?) = fun i : Nat => vs.toList[i]? := by funext i; simp
  rw [List.toList_toArray, this]
  exact r.filterMap _
theorem VRs.replicate {prog : Program} {w : World} {h : Heap} {W : Addr → Prop} {vs : List Value} {ds : List DV} (r : VRs prog w h W vs ds) : ∀ k : Nat, VRs prog w h W (List.replicate k vs).flatten (List.replicate k ds).flatten
  | 0 => .nil
  | k + 1 => by rw [List.replicate_succ, List.replicate_succ, List.flatten_cons, List.flatten_cons]; exact r.append (VRs.replicate r k)
theorem foldl_flat (k : Nat) (items acc : Array Value) : (List.foldl (fun x1 x2 => x1 ++ x2) acc (List.replicate k items)).toList = acc.toList ++ (List.replicate k items.toList).flatten := by
  induction k generalizing acc with
  | zero => simp
  | succ k ih => rw [List.replicate_succ, List.foldl_cons, ih]; simp [List.replicate_succ]

section
variable {n : Nat} {F : Fm} {prv : Addr → Prop} {φ : List Addr} {a : AS} {P : AV → AS → Prop}

/-! ### subscripts -/
theorem EV.sub {value slice : Expr} {pos : Pos} (h : EV G n F a value fun x a1 => EV G n F a1 slice fun y a2 => OP2 G n F a2 (subscriptTail value slice) x y P) : EV G n F a (.Subscript value slice pos) P := by
  refine ⟨fun A prv φ s Q hA R hQ => ?_⟩
  refine Subscript_ (h.go A prv φ s _ hA R fun x a1 φ1 cx s1 hx R1 V1 E1 S1 => hx.go A prv φ1 s1 _ hA R1 fun y a2 φ2 cy s2 hy R2 V2 E2 S2 => ?_)
  exact hy.go A prv φ2 s2 Q cx cy hA R2 (V1.after E2 (Nat.le_refl _)) V2 ((hQ.step E1 S1 E1.len).step E2 S2 E2.len)
theorem OP2.itemL {value slice : Expr} {x : AV} {xs : List DV} {i : Int} {d : DV} (L : LsOf a x xs) (h0 : 0 ≤ i) (hi : i < 2 ^ 63) (hx : xs[i.toNat]? = some d) (hP : P (.dat d) a)
    (hs : ∀ o i, subscripted slice false o i = operate [o, i] (getItem o i) := by intro _ _; rfl) : OP2 G n F a (subscriptTail value slice) x (.dat (.int i)) P := by
  refine ⟨fun A prv φ s Q cx cy hA R V1 V2 hQ => ?_⟩
  obtain ⟨ad, k, vs, rfl, e, r⟩ := ls_of R V1 L
  cases V2
  obtain ⟨v, hv, V⟩ := r.get hx
  exact tail_any (isList_of e).typeIs slot_list_getitem.lookup (wpAny_getItem_list (isList_of e) h0 hi (by simpa using hv) (hQ.now' R hP V)) (hs _ _)
theorem OP2.itemS {value slice : Expr} {x : PySem.Str} {i : Int} {c : Nat} (h0 : 0 ≤ i) (hi : i < 2 ^ 63) (hx : x.cps[i.toNat]? = some c) (hP : P (.dat (.str ⟨#[c]⟩)) a)
    (hs : ∀ o i, subscripted slice false o i = operate [o, i] (getItem o i) := by intro _ _; rfl) : OP2 G n F a (subscriptTail value slice) (.dat (.str x)) (.dat (.int i)) P := by
  refine ⟨fun A prv φ s Q cx cy hA R V1 V2 hQ => ?_⟩
  cases V1; cases V2
  have hlt : i.toNat < x.cps.size := (Array.getElem?_eq_some_iff.mp hx).1
  refine tail_any (T := "str") (typeIs_str s _ _) PySem.F.slot_str_getitem.lookup (PyProof.Rows.getItem_str (c := c) ?_ ?_ (hQ.now R hP (.str _ _) _)) (hs _ _)
  · rw [Bool.or_eq_false_iff]; constructor <;> rw [decide_eq_false_iff_not] <;> omega
  · have hlt' : i < (x.length : Int) := by show i < ((x.cps.size : Nat) : Int); omega
    unfold seqIndex?
    simp only [h0, hlt', not_true, Bool.and_self, if_true, decide_true, true_and, and_self, Int.not_lt.mpr h0, if_false, Option.bind_some]
    first | exact hx | simpa using hx
theorem ivals_at : ∀ {kvs' : List (Int × Value)} {kvs : List (Int × Int)}, IntVals kvs' kvs → ∀ k, (∃ m t, kvs.lookup k = some m ∧ valueAt kvs' k = some (.int m t)) ∨ (kvs.lookup k = none ∧ valueAt kvs' k = none)
  | _, _, .nil, k => .inr ⟨rfl, rfl⟩
  | _, _, .cons k₀ n₀ t r, k => by
    rw [List.lookup_cons]
    unfold valueAt
    rw [List.find?_cons]
    by_cases q : k₀ = k
    · subst q; exact .inl ⟨n₀, t, by simp, by simp⟩
    · have : (k == k₀) = false := by simpa using fun z : k = k₀ => q z.symm
      simp only [this, q, decide_false]
      exact ivals_at r k
theorem OP2.itemD (O : Ok G) {value slice : Expr} {x : AV} {kvs : List (Int × Int)} {i v : Int} (L : DcOf a x kvs) (hx : kvs.lookup i = some v) (hP : P (.dat (.int v)) a)
    (hs : ∀ o i, subscripted slice false o i = operate [o, i] (getItem o i) := by intro _ _; rfl) : OP2 G n F a (subscriptTail value slice) x (.dat (.int i)) P := by
  refine ⟨fun A prv φ s Q cx cy hA R V1 V2 hQ => ?_⟩
  obtain ⟨ad, ep, kvs', rfl, e, _, r⟩ := dc_of O R V1 L
  cases V2
  have M := (dictOf_at e).mapOf
  rcases ivals_at r i with ⟨m, t, h1, h2⟩ | ⟨h1, _⟩
  · rw [hx] at h1; cases h1
    exact tail_any M.typeIs PySem.F.slot_dict_getitem.lookup (wpAny_getItem_of (k := i) (by simp [intKind, Value.isInt]) M h2 (hQ.now R hP (.int _ t) _)) (hs _ _)
  · rw [hx] at h1; cases h1

/-! ### slices -/
variable (G) in
def EVP (n : Nat) (F : Fm) (a : AS) : Option Expr → (Option Int → AS → Prop) → Prop
  | none, P => P none a
  | some e, P => EV G n F a e fun v a1 => ∃ i, v = .dat (.int i) ∧ P (some i) a1
def PostP (F : Fm) (prv : Addr → Prop) (φ : List Addr) (a : AS) (s : Shared) (P : Option Int → AS → Prop) (Q : Value → Shared → Prop) : Prop :=
  ∀ v H' φ' cv s', P v { a with heap := H' } → Rel G F prv φ' { a with heap := H' } s'.heap → IsPart cv v → Ext F.own φ.length φ a.heap s.heap φ' H' s'.heap → Same s s' → Q cv s'
theorem evp_sound {A : Around} {s : Shared} {P : Option Int → AS → Prop} {Q : Value → Shared → Prop} (hA : AOk n A) : ∀ (e : Option Expr), EVP G n F a e P → Rel G F prv φ a s.heap → PostP (G := G) F prv φ a s P Q → wpAny (model G.prog G.w) A (evalPart e F.env) Q NoE s
  | none, h, R, hQ => wpAny_pure (hQ none a.heap φ .none s h R .none Ext.refl (.refl s))
  | some e, h, R, hQ => h.go A prv φ s Q hA R fun v H' φ' cv s' hv R' V' E' S' => by
    obtain ⟨i, rfl, hp⟩ := hv
    cases V'
    exact hQ (some i) H' φ' _ s' hp R' (.int i _) E' S'

theorem EV.slice {value : Expr} {lower upper step : Option Expr} {p pos : Pos} (h : EV G n F a value fun x a1 => EVP G n F a1 lower fun l a2 => EVP G n F a2 upper fun u a3 => EVP G n F a3 step fun st a4 =>
      ∃ xs, LsOf a4 x xs ∧ xs.length ≤ 10000 ∧ st ≠ some 0 ∧ P (.dat (.list (pickL xs l u st))) a4) : EV G n F a (.Subscript value (.Slice lower upper step p) pos) P := by
  refine ⟨fun A prv φ s Q hA R hQ => ?_⟩
  refine Subscript_ (h.go A prv φ s _ hA R fun x a1 φ1 cx s1 hx R1 V1 E1 S1 => ?_)
  refine wpAny_Slice (evp_sound hA lower hx R1 fun l a2 φ2 cl s2 h2 R2 V2 E2 S2 => evp_sound hA upper h2 R2 fun u a3 φ3 cu s3 h3 R3 V3 E3 S3 => evp_sound hA step h3 R3 fun st a4 φ4 cst s4 h4 R4 V4 E4 S4 => ?_)
  obtain ⟨xs, L, hlen, h0, hP⟩ := h4
  obtain ⟨ad, k, vs, rfl, e, r⟩ := ls_of R4 (((V1.after E2 (Nat.le_refl _)).after E3 (Nat.le_refl _)).after E4 (Nat.le_refl _)) L
  have hl := isList_of e
  have hq := (((hQ.step E1 S1 E1.len).step E2 S2 E2.len).step E3 S3 E3.len).step E4 S4 E4.len
  have hsz : vs.size ≤ sizeLine := by rw [sizeLine_eq]; have := r.length; simp at this; omega
  have hs : ∃ ops, subscripted (.Slice lower upper step p) false (.ref ad) (.ref s4.heap.objs.size) = operate ops (getItem (.ref ad) (.ref s4.heap.objs.size)) := by
    cases step
    · exact ⟨_, rfl⟩
    · exact ⟨_, rfl⟩
  obtain ⟨ops, hs⟩ := hs
  refine tail_any (Heap.IsList.typeIs (s := { s4 with heap := s4.heap.push { cls := .type "slice", data := .fields #[cl, cu, cst] } }) (hl.push _)) slot_list_getitem.lookup
    (wpAny_getItem_list_slice (hl.push _) (Heap.IsSliceOf.new ..) V2 V3 V4 h0 ?_ hsz) hs
  have X : Led F.L s4.heap ((s4.heap.push { cls := .type "slice", data := .fields #[cl, cu, cst] }).push { cls := .type "list", data := .seq (slicePick vs l u st) }) :=
    led_keeps fun b o e => Heap.get?_push_of_some _ (Heap.get?_push_of_some _ e)
  have hn : s4.heap.get? (s4.heap.push { cls := .type "slice", data := .fields #[cl, cu, cst] }).objs.size = Option.none := by
    cases q : s4.heap.get? (s4.heap.push { cls := .type "slice", data := .fields #[cl, cu, cst] }).objs.size with
    | none => rfl
    | some o => have := ltS q; rw [Heap.size_push] at this; omega
  exact hq.led R4 hP X (.list (Heap.get?_push_size _ rfl) (R4.new_not hn) ((r.pick l u st).ext (R4.led X).2.2)) s4.toks

/-! ### two operands -/
theorem OP2.addL {x y : AV} {xs ys : List DV} (L1 : LsOf a x xs) (L2 : LsOf a y ys) (hl : xs.length + ys.length ≤ 10000) (hP : P (.dat (.list (xs ++ ys))) a ∨ P (.ref a.heap.length) { a with heap := a.heap ++ [.list (xs ++ ys)] }) :
    OP2 G n F a (binaryOp .Add) x y P := by
  refine ⟨fun A prv φ s Q cx cy hA R V1 V2 hQ => ?_⟩
  obtain ⟨ad, k, vs, rfl, e, r⟩ := ls_of R V1 L1
  obtain ⟨ad2, k2, vs2, rfl, e2, r2⟩ := ls_of R V2 L2
  obtain ⟨m, F0⟩ := R.fr
  have h1 := r.length
  have h2 := r2.length
  simp at h1 h2
  refine add_arrays F0 (ledN s.heap F.L) (isList_of e) (isList_of e2) (fun h' F' N' => ?_) (by rw [sizeLine_eq]; omega)
  have X : Led F.L s.heap h' := led_of F0 F' N' fun p hp => .tail _ hp
  rcases hP with hP | hP
  · exact hQ.newList R hP X (N' _ (.head _)).1 (r.append r2) s.toks
  · exact hQ.newRef R hP X (N' _ (.head _)).1 (r.append r2) s.toks
theorem OP2.mulL {x : AV} {xs : List DV} {k : Int} (L : LsOf a x xs) (hlo : -(2 ^ 62) ≤ k) (hhi : k < 2 ^ 62) (hl : xs.length * k.toNat ≤ 2 ^ 24) (hP : P (.dat (.list (List.replicate k.toNat xs).flatten)) a) :
    OP2 G n F a (binaryOp .Mult) x (.dat (.int k)) P := by
  refine ⟨fun A prv φ s Q cx cy hA R V1 V2 hQ => ?_⟩
  obtain ⟨ad, kk, vs, rfl, e, r⟩ := ls_of R V1 L
  cases V2
  obtain ⟨m, F0⟩ := R.fr
  have h1 := r.length
  simp at h1
  refine mul_list F0 (ledN s.heap F.L) e (by omega) (by omega) (by rw [h1]; exact hl) fun h' F' N' => ?_
  have X : Led F.L s.heap h' := led_of F0 F' N' fun p hp => .tail _ hp
  have e1 := (N' _ (.head _)).1
  have : (List.foldl (fun x1 x2 => x1 ++ x2) #[] (List.replicate (if vs.isEmpty = true then 0 else k.toNat) vs)) = ((List.replicate k.toNat vs.toList).flatten).toArray := by
    rw [← Array.toArray_toList (xs := List.foldl _ _ _), foldl_flat]
    congr 1
    split
    · rename_i q; have : vs = #[] := by simpa using q
      subst this; simp
    · simp
  rw [this] at e1
  exact hQ.newList R hP X e1 (r.replicate k.toNat) s.toks
theorem mulOk_of {x : PySem.Str} {k : Int} (h1 : -(2 ^ 62) ≤ k) (h2 : k ≤ 10000) (h3 : x.length ≤ 100) : MulOk x k := by
  refine ⟨?_, fun h0 h => ?_, fun h0 h => ?_⟩
  · rw [Bool.or_eq_false_iff]; constructor <;> rw [decide_eq_false_iff_not] <;> omega
  · have hk : 0 < k := by omega
    rw [Int.not_lt, Int.le_ediv_iff_mul_le hk]
    have : (x.length : Int) * k ≤ 100 * 10000 := Int.mul_le_mul (by omega) h2 (by omega) (by omega)
    omega
  · unfold Builtin.Str.tooLong
    have : x.length * k.toNat ≤ 100 * 10000 := Nat.mul_le_mul h3 (by omega)
    generalize x.length * k.toNat = z at *
    rw [decide_eq_false_iff_not, sizeLine_eq]; omega
theorem OP2.mulS {x : PySem.Str} {k : Int} (h1 : -(2 ^ 62) ≤ k) (h2 : k ≤ 10000) (h3 : x.length ≤ 100) (hP : P (.dat (.str (Txt.mul x k))) a) : OP2 G n F a (binaryOp .Mult) (.dat (.str x)) (.dat (.int k)) P := by
  refine ⟨fun A prv φ s Q cx cy hA R V1 V2 hQ => ?_⟩
  cases V1; cases V2
  exact SB.mul (mulOk_of h1 h2 h3) fun t' k => hQ.now R hP (.str _ _) _
theorem OP2.ixor {i j : Int} (hP : P (.dat (.int (Builtin.bitXor i j))) a) : OP2 G n F a (inplaceOp .BitXor) (.dat (.int i)) (.dat (.int j)) P := OP2.ints hP fun _ h => PyProof.Rows.ixor_int h
end
end Mine

namespace Mine
set_option maxRecDepth 20000 in
/-- a place of a list is written: the object keeps its shape -/
theorem set_place {prog : Program} {w : World} {A : Around} {E : Value → Shared → Prop} {s : Shared} {Q : Unit → Shared → Prop} {l : Addr} {vs : Array Value} {n j : Nat} {k : Int} {t : Tok} {v : Value}
    (e : s.heap.get? l = some { cls := .type "list", data := .seq vs n }) (hk : k = (j : Int)) (hj : j < vs.size) (hb : k < 2 ^ 63) (hQ : Q () { s with heap := s.heap.update l (Obj.mapSeq (·.setIfInBounds j v)) }) :
    wpAny (model prog w) A (setItem (.ref l) (.int k t) v) Q E s := by
  have L : s.heap.IsList l vs := ⟨_, e, rfl, n, rfl⟩
  have got : vs[j]? = some vs[j] := Array.getElem?_eq_getElem hj
  rw [setItem]
  refine wpAny_holding ?_
  refine wpAny_bind (wpAny_sequenceKey L.typeIs (by decide) ?_)
  refine wpAny_bind (wpAny_callSpecial?_slot (name := Str.ofString "__setitem__") L.typeIs slot_list_setitem
    (wpAny_call_entry slot_list_setitem L.typeIs entry_list_setitem ?_ (args_list_setitem _ _ _)))
  show wpAny _ _ (Builtin.List.listSubscript? (.int k t) >>= _) _ _ s
  refine wpAny_bind (wpAny_listSubscript_int (fitsIndex_of (hk ▸ Int.natCast_nonneg j) hb) ?_)
  clear hb
  subst hk
  show wpAny _ _ ((seqItemAt l j >>= fun r => pure (r.map (j, ·))) >>= _) _ _ s
  refine wpAny_bind (wpAny_bind (wpAny_seqItemAt e rfl (wpAny_pure ?_)))
  rw [got]
  show wpAny _ _ (setSeqItemAt l j v >>= _) _ _ s
  exact wpAny_bind (wpAny_setSeqItemAt e rfl (wpAny_bind (wpAny_pure (wpAny_pure ⟨.none, rfl, wpAny_pure hQ⟩))))
variable {G : Base}

section
variable {n : Nat} {F : Fm} {prv : Addr → Prop} {φ : List Addr} {a : AS} {s : Shared} {P : AV → AS → Prop}

/-! ### things that are written -/
theorem Rel.mutL (R : Rel G F prv φ a s.heap) {i : Nat} {ad : Addr} {xs ds : List DV} {vs : Array Value} {k : Nat} {h' : Heap} (hi : φ[i]? = some ad) (h0 : a.heap[i]? = some (.list xs))
    (hs : Heap.SameBut ad s.heap h') (e : h'.get? ad = some { cls := .type "list", data := .seq vs k }) (V : VRs G.prog G.w s.heap (Wf F prv φ a.heap) vs.toList ds) :
    Rel G F prv φ { a with heap := a.heap.set i (.list ds) } h' ∧ Ext F.own φ.length φ a.heap s.heap φ (a.heap.set i (.list ds)) h' := by
  refine R.mutate hi h0 rfl rfl hs ⟨k, vs, e, V.ext fun b o eb hw => ⟨(hs.2 b fun q => hw (.inr ⟨i, _, q ▸ hi, h0, rfl⟩)).trans eb, hw⟩⟩ ⟨_, e⟩
theorem Rel.mutD (R : Rel G F prv φ a s.heap) {i : Nat} {ad : Addr} {kvs ds : List (Int × Int)} {vs : List (Int × Value)} {k : Nat} {h' : Heap} (hi : φ[i]? = some ad) (h0 : a.heap[i]? = some (.dict kvs))
    (hs : Heap.SameBut ad s.heap h') (e : h'.DictAt (intKind G.prog G.w) ad vs k) (V : IntVals vs ds) :
    Rel G F prv φ { a with heap := a.heap.set i (.dict ds) } h' ∧ Ext F.own φ.length φ a.heap s.heap φ (a.heap.set i (.dict ds)) h' := by
  refine R.mutate hi h0 rfl rfl hs ⟨k, vs, e, V⟩ (let ⟨o, _, eo, _⟩ := e; ⟨o, eo⟩)

theorem ref_of (R : Rel G F prv φ a s.heap) {i : Nat} {xs : List DV} {cx : Value} (V : AVR G F.slf φ s.heap (Wf F prv φ a.heap) (.ref i) cx) (h0 : a.heap[i]? = some (.list xs)) :
    ∃ ad k vs, φ[i]? = some ad ∧ cx = .ref ad ∧ s.heap.get? ad = some { cls := .type "list", data := .seq vs k } ∧ VRs G.prog G.w s.heap (Wf F prv φ a.heap) vs.toList xs := by
  obtain ⟨ad, h1, rfl⟩ := V
  obtain ⟨k, vs, h2, h3⟩ := R.hr.obj i ad _ h1 h0
  exact ⟨ad, k, vs, h1, rfl, h2, h3⟩

/-- o[i] = v -/
theorem EX1.setItem {PF : AFlow → AS → Prop} {o i value : Expr} {p1 pos : Pos}
    (h : EV G n F a value fun v a1 => EV G n F a1 o fun x a2 => EV G n F a2 i fun y a3 => ∃ r k, x = .ref r ∧ y = .dat (.int k) ∧
      ((∃ xs d, v = .dat d ∧ a3.heap[r]? = some (.list xs) ∧ 0 ≤ k ∧ k < (xs.length : Int) ∧ xs.length ≤ 10000 ∧ PF .next { a3 with heap := a3.heap.set r (.list (xs.set k.toNat d)) }) ∨
       (∃ kvs m, v = .dat (.int m) ∧ a3.heap[r]? = some (.dict kvs) ∧ kvs.length ≤ 10000 ∧ PF .next { a3 with heap := a3.heap.set r (.dict (if kvs.any (fun kv => kv.1 = k) then kvs.map (fun kv => if kv.1 = k then (kv.1, m) else kv) else kvs ++ [(k, m)])) })))
    (hs : swapsWith value (some (.Subscript o i p1)) pos.line F.env = pure false := by rfl) : EX1 G n F a (.Assign [.Subscript o i p1] value pos) PF := by
  refine ⟨fun A prv φ s Q hA R hQ => ?_⟩
  refine wpAny_Assign_Subscript (h.go A prv φ s _ hA R fun v a1 φ1 cv s1 h1 R1 V1 E1 S1 => h1.go A prv φ1 s1 _ hA R1 fun x a2 φ2 cx s2 h2 R2 V2 E2 S2 => h2.go A prv φ2 s2 _ hA R2 fun y a3 φ3 cy s3 h3 R3 V3 E3 S3 => ?_) hs
  obtain ⟨r, k, rfl, rfl, h3⟩ := h3
  have Vv := (V1.after E2 (Nat.le_refl _)).after E3 (Nat.le_refl _)
  have Vx := V2.after E3 (Nat.le_refl _)
  cases V3
  have hq := ((hQ.step (a' := { a with heap := a1 }) E1 S1 R.n0).step (a' := { a with heap := a2 }) E2 S2 R1.n0).step (a' := { a with heap := a3 }) E3 S3 R2.n0
  rcases h3 with ⟨xs, d, rfl, h0, hk0, hk1, hl, hP⟩ | ⟨kvs, m, rfl, h0, hl, hP⟩
  · obtain ⟨ad, kk, vs, hi, rfl, e, r'⟩ := ref_of R3 Vx h0
    have hz := r'.length
    simp at hz
    refine set_place (j := k.toNat) e (by omega) (by omega) (by omega) ?_
    obtain ⟨k', e'⟩ := upd_self (·.setIfInBounds k.toNat cv) e
    obtain ⟨R4, E4⟩ := R3.mutL (ds := xs.set k.toNat d) hi h0 (Heap.SameBut.update ..) e' (by simpa using VRs.set Vv r' k.toNat)
    exact (hq.step E4 (.mk' s3 _ s3.toks) R3.n0).now' (s := { s3 with heap := _ }) R4 hP rfl
  · cases Vv with | int _ tv =>
    obtain ⟨ad, hi, rfl⟩ := Vx
    obtain ⟨ep, kvs', e, iv⟩ := R3.hr.obj r ad _ hi h0
    refine wpAny_setItem_pairs (knd := intKind G.prog G.w) (k := k) (by simp [intKind, Value.isInt]) (dictOf_at e) (fun h' e' hs' => ?_) (by rw [sizeLine_eq, iv.length]; omega)
    obtain ⟨ep', e''⟩ := dictAt_of e'
    have iv' : IntVals (stored kvs' k (.int m tv)) (if kvs.any (fun kv => kv.1 = k) then kvs.map (fun kv => if kv.1 = k then (kv.1, m) else kv) else kvs ++ [(k, m)]) := by
      unfold stored
      have h1 : kvs'.any (fun kv => kv.1 = k) = kvs.any (fun kv => kv.1 = k) := by
        clear e e' e'' hP h0 hl
        induction iv with
        | nil => rfl
        | cons _ _ _ _ ih => simp only [List.any_cons, ih]
      have h2 : IntVals (kvs'.map (fun kv => if kv.1 = k then (kv.1, .int m tv) else kv)) (kvs.map (fun kv => if kv.1 = k then (kv.1, m) else kv)) := by
        clear e e' e'' hP h0 hl h1
        induction iv with
        | nil => exact .nil
        | cons k₀ n₀ t _ ih =>
          simp only [List.map_cons]
          by_cases q : k₀ = k
          · simp only [q, if_true]; exact .cons _ _ _ ih
          · simp only [q, if_false]; exact .cons _ _ _ ih
      have h3 : IntVals (kvs' ++ [(k, .int m tv)]) (kvs ++ [(k, m)]) := by
        clear e e' e'' hP h0 hl h1 h2
        induction iv with
        | nil => exact .cons _ _ _ .nil
        | cons k₀ n₀ t _ ih => exact .cons _ _ _ ih
      rw [h1]
      split
      · exact h2
      · exact h3
    obtain ⟨R4, E4⟩ := R3.mutD hi h0 hs' e'' iv'
    exact (hq.step (s' := { s3 with heap := h', toks := s3.toks + 1 }) E4 (.mk' s3 _ _) R3.n0).now' R4 hP rfl

/-! ### methods of lists -/
theorem OPL.append {i : Nat} {xs : List DV} {d : DV} (h0 : a.heap[i]? = some (.list xs)) (hl : xs.length ≤ 10000) (hP : P (.dat .none) { a with heap := a.heap.set i (.list (xs ++ [d])) }) :
    OPL G n F a (fun cvs => PySem.call (Value.builtin "list.append") cvs) [.ref i, .dat d] P := by
  refine ⟨fun A prv φ s Q cxs hA R V hQ => ?_⟩
  obtain _ | ⟨V1, V2⟩ := V
  obtain _ | ⟨V2, V3⟩ := V2
  cases V3
  obtain ⟨ad, k, vs, hi, rfl, e, r⟩ := ref_of R V1 h0
  have hz := r.length
  simp at hz
  refine wpAny_list_append_plain ⟨k, e⟩ (fun h' hp hs => ?_) (by rw [sizeLine_eq]; omega)
  obtain ⟨k', e'⟩ := hp
  obtain ⟨R4, E4⟩ := R.mutL (ds := xs ++ [d]) hi h0 hs e' (by rw [Array.toList_push]; exact r.append (VRs.one V2))
  exact hQ _ _ φ .none _ hP R4 .none E4 (.mk' ..)
theorem OPL.insert {i : Nat} {xs : List DV} {k : Int} {d : DV} (h0 : a.heap[i]? = some (.list xs)) (hl : xs.length ≤ 10000) (hk : 0 ≤ k) (hk' : k ≤ 10000) (hP : P (.dat .none) { a with heap := a.heap.set i (.list (xs.take k.toNat ++ d :: xs.drop k.toNat)) }) :
    OPL G n F a (fun cvs => PySem.call (Value.builtin "list.insert") cvs) [.ref i, .dat (.int k), .dat d] P := by
  refine ⟨fun A prv φ s Q cxs hA R V hQ => ?_⟩
  obtain _ | ⟨V1, V2⟩ := V
  obtain _ | ⟨V2, V3⟩ := V2
  obtain _ | ⟨V3, V4⟩ := V3
  cases V4
  cases V2
  obtain ⟨ad, kk, vs, hi, rfl, e, r⟩ := ref_of R V1 h0
  have hz := r.length
  simp at hz
  refine call_meets PySem.F.slot_list_insert (isList_of e).typeIs PySem.F.entry_list_insert (PySem.F.args_list_insert_3 _ _ _) (AutoListH.list_insert_list_int_val_1 ad vs kk k _ _ ?_ (by rw [sizeLine_eq]; omega)) ⟨e, ?_⟩
  · have : Builtin.List.listFitsIndex k = true := by
      unfold Builtin.List.listFitsIndex
      simp only [Bool.and_eq_true, decide_eq_true_eq]
      first | exact ⟨by omega, by omega⟩ | (simp; omega)
    rw [this]; decide
  · obtain ⟨k', e'⟩ := upd_self (fun xs => have k := if k < 0 then (k + ((xs.size : Nat) : Int)).toNat else min k.toNat xs.size; (xs.extract 0 k).push _ ++ xs.extract k) e
    refine hQ _ _ φ .none _ hP (R.mutL (ds := xs.take k.toNat ++ d :: xs.drop k.toNat) hi h0 (Heap.SameBut.update ..) e' ?_).1 .none (R.mutL (ds := xs.take k.toNat ++ d :: xs.drop k.toNat) hi h0 (Heap.SameBut.update ..) e' ?_).2 (.mk' ..)
    all_goals
      have e1 : ∀ v : Value, ((have m := if k < 0 then (k + ((vs.size : Nat) : Int)).toNat else min k.toNat vs.size; (vs.extract 0 m).push v ++ vs.extract m) : Array Value).toList = vs.toList.take k.toNat ++ v :: vs.toList.drop k.toNat := by
        intro v
        have hm : ¬ k < 0 := by omega
        simp only [hm, if_false]
        have ht : vs.toList.take (min k.toNat vs.size) = vs.toList.take k.toNat := by
          rcases Nat.le_total k.toNat vs.size with q | q
          · rw [Nat.min_eq_left q]
          · rw [Nat.min_eq_right q, List.take_of_length_le (by simp), List.take_of_length_le (by simpa using q)]
        have hd : vs.toList.drop (min k.toNat vs.size) = vs.toList.drop k.toNat := by
          rcases Nat.le_total k.toNat vs.size with q | q
          · rw [Nat.min_eq_left q]
          · rw [Nat.min_eq_right q, List.drop_of_length_le (by simp), List.drop_of_length_le (by simpa using q)]
        simp [ht, hd]
        exact List.take_of_length_le (by simp; omega)
      rw [e1]
      exact (r.take _).append (.cons V3 (r.drop _))
end
end Mine

namespace Mine
variable {G : Base}

theorem VRs.strs {prog : Program} {w : World} {h : Heap} {W : Addr → Prop} : ∀ {vs : List Value} {ys : List PySem.Str}, VRs prog w h W vs (ys.map .str) → StrsAre vs ys
  | [], [], _ => .nil
  | _ :: _, [], x => by cases x
  | [], _ :: _, x => by cases x
  | v :: vs, y :: ys, x => by
    cases x with
    | cons a r => cases a; exact .cons _ _ (VRs.strs r)
theorem VRs.of_strs {prog : Program} {w : World} {h : Heap} {W : Addr → Prop} : ∀ {vs : List Value} {ys : List PySem.Str}, StrsAre vs ys → VRs prog w h W vs (ys.map .str)
  | _, _, .nil => .nil
  | _, _, .cons y t r => .cons (.str y t) (VRs.of_strs r)

section
variable {n : Nat} {F : Fm} {prv : Addr → Prop} {φ : List Addr} {a : AS} {s : Shared} {P : AV → AS → Prop}

/-! ### calls of builtins: what they give -/
theorem OPL.one {t : List Value → Sem Value} {x : AV} (h : ∀ A prv φ s Q cx, AOk n A → Rel G F prv φ a s.heap → AVR G F.slf φ s.heap (Wf F prv φ a.heap) x cx → Post (G := G) F prv φ a s P Q → wpAny (model G.prog G.w) A (t [cx]) Q NoE s) : OPL G n F a t [x] P := by
  refine ⟨fun A prv φ s Q cxs hA R V hQ => ?_⟩
  obtain _ | ⟨V1, V2⟩ := V
  cases V2
  exact h A prv φ s Q _ hA R V1 hQ
theorem OPL.two {t : List Value → Sem Value} {x y : AV} (h : ∀ A prv φ s Q cx cy, AOk n A → Rel G F prv φ a s.heap → AVR G F.slf φ s.heap (Wf F prv φ a.heap) x cx → AVR G F.slf φ s.heap (Wf F prv φ a.heap) y cy → Post (G := G) F prv φ a s P Q → wpAny (model G.prog G.w) A (t [cx, cy]) Q NoE s) : OPL G n F a t [x, y] P := by
  refine ⟨fun A prv φ s Q cxs hA R V hQ => ?_⟩
  obtain _ | ⟨V1, V2⟩ := V
  obtain _ | ⟨V2, V3⟩ := V2
  cases V3
  exact h A prv φ s Q _ _ hA R V1 V2 hQ

theorem OPL.lenL {x : AV} {xs : List DV} (L : LsOf a x xs) (hl : xs.length ≤ 100000) (hP : P (.dat (.int xs.length)) a) : OPL G n F a (fun cvs => PySem.call (Value.builtin "len") cvs) [x] P :=
  .one fun A prv φ s Q cx hA R V hQ => by
    obtain ⟨ad, k, vs, rfl, e, r⟩ := ls_of R V L
    have hz := r.length
    simp at hz
    refine PyProof.Rows.len_list (isList_of e) (by omega) ?_
    rw [hz]
    exact hQ.now R hP (.int _ _) _
theorem OPL.lenT {xs : List DV} (hl : xs.length ≤ 100000) (hP : P (.dat (.int xs.length)) a) : OPL G n F a (fun cvs => PySem.call (Value.builtin "len") cvs) [.dat (.tup xs)] P :=
  .one fun A prv φ s Q cx hA R V hQ => by
    cases V with | tup h1 h2 r =>
    have hz := r.length
    simp at hz
    refine PyProof.Rows.len_tuple ⟨_, h1, rfl, _, rfl⟩ (by omega) ?_
    rw [hz]
    exact hQ.now R hP (.int _ _) _
theorem OPL.lenD (O : Ok G) {x : AV} {kvs : List (Int × Int)} (L : DcOf a x kvs) (hl : kvs.length ≤ 100000) (hP : P (.dat (.int kvs.length)) a) : OPL G n F a (fun cvs => PySem.call (Value.builtin "len") cvs) [x] P :=
  .one fun A prv φ s Q cx hA R V hQ => by
    obtain ⟨ad, ep, kvs', rfl, e, hsys, r⟩ := dc_of O R V L
    have hz := r.length
    refine call_len_dict hsys (dictOf_at e) (by omega) ?_
    rw [hz]
    exact hQ.now R hP (.int _ _) _
theorem OPL.sum {x : AV} {ns : List Int} (L : LsOf a x (ns.map .int)) (hf : PySem.SumFits ns) (hP : P (.dat (.int ns.sum)) a) : OPL G n F a (fun cvs => PySem.call (Value.builtin "sum") cvs) [x] P :=
  .one fun A prv φ s Q cx hA R V hQ => by
    obtain ⟨ad, k, vs, rfl, e, r⟩ := ls_of R V L
    have hi := r.ints
    have hall := hi.allInts
    rw [Array.toArray_toList] at hall
    obtain ⟨xs', rfl⟩ := hall.items
    have hn := hi.numsOf
    rw [nums_intItems] at hn
    refine sum_intList hA.hh (isList_of e) (fun j hj => ?_) fun h' tk t' hk => ?_
    · rw [numAt_eq, preSum_eq, hn]; exact hf j (by rw [← hn]; simpa using hj)
    · rw [preSum_eq, List.take_of_length_le (by simp), hn]
      exact hQ.grown R hP hk (.int _ _) tk
theorem OPL.max2 {i j : Int} (hP : P (.dat (.int (if j > i then j else i))) a) : OPL G n F a (fun cvs => PySem.call (Value.builtin "max") cvs) [.dat (.int i), .dat (.int j)] P :=
  .two fun A prv φ s Q cx cy hA R V1 V2 hQ => by
    cases V1; cases V2
    refine max_two_ints hA.hh fun h' tk hk => ?_
    have : ∀ (c : Prop) [Decidable c] (p q : Int) (t u : Tok), (if c then Value.int p t else Value.int q u) = Value.int (if c then p else q) (if c then t else u) := fun c _ p q t u => by split <;> rfl
    rw [this]
    exact hQ.grown R hP hk (.int _ _) tk
theorem OPL.hex {i : Int} (hz : (baseText "0x" 16 i).length ≤ 10000) (hP : P (.dat (.str (baseText "0x" 16 i))) a) : OPL G n F a (fun cvs => PySem.call (Value.builtin "hex") cvs) [.dat (.int i)] P :=
  .one fun A prv φ s Q cx hA R V hQ => by
    cases V
    exact PySem.P.hex_of_int (hQ.now R hP (.str _ _) _) (by rw [sizeLine_eq]; omega)
theorem OPL.range1 {i : Int} (hP : P (.rng 0 i) a) : OPL G n F a (fun cvs => PySem.call (Value.type "range") cvs) [.dat (.int i)] P :=
  .one fun A prv φ s Q cx hA R V hQ => by
    cases V
    exact call_range_1 (hQ.grown R hP (fun b o e => Heap.get?_push_of_some _ e) ⟨_, _, _, _, rfl, IsRange.new .., R.new_not (size_none _)⟩ _)
theorem OPL.range2 {i j : Int} (hP : P (.rng i j) a) : OPL G n F a (fun cvs => PySem.call (Value.type "range") cvs) [.dat (.int i), .dat (.int j)] P :=
  .two fun A prv φ s Q cx cy hA R V1 V2 hQ => by
    cases V1; cases V2
    exact call_range_2 (hQ.grown R hP (fun b o e => Heap.get?_push_of_some _ e) ⟨_, _, _, _, rfl, IsRange.new .., R.new_not (size_none _)⟩ _)
theorem OPL.tuple {x : AV} {xs : List DV} (L : LsOf a x xs) (hl : xs.length ≤ 10000) (hP : P (.dat (.tup xs)) a) : OPL G n F a (fun cvs => PySem.call (Value.type "tuple") cvs) [x] P :=
  .one fun A prv φ s Q cx hA R V hQ => by
    obtain ⟨ad, k, vs, rfl, e, r⟩ := ls_of R V L
    have hz := r.length
    simp at hz
    refine call_tuple_list (isList_of e) (fun h' hk => ?_) (by rw [sizeLine_eq]; omega)
    have hk2 : ∀ b o, s.heap.get? b = some o → (h'.push { cls := .type "tuple", data := .seq vs }).get? b = some o := fun b o e => Heap.get?_push_of_some _ (hk b o e)
    have hn : s.heap.get? h'.objs.size = none := by
      cases q : s.heap.get? h'.objs.size with
      | none => rfl
      | some o => exact absurd (Heap.lt_size (hk _ _ q)) (Nat.lt_irrefl _)
    exact hQ.grown R hP hk2 (.tup (Heap.get?_push_size _ rfl) (R.new_not hn) (r.ext fun b o e hw => ⟨hk2 b o e, hw⟩)) s.toks

/-! ### methods that only look -/
theorem OPL.split {x y : PySem.Str} (hy : (y.length == 0) = false) (hx : x.length ≤ 10000) (hP : P (.dat (.list ((Txt.split x y).map .str))) a) : OPL G n F a (fun cvs => PySem.call (Value.builtin "str.split") cvs) [.dat (.str x), .dat (.str y)] P :=
  .two fun A prv φ s Q cx cy hA R V1 V2 hQ => by
    cases V1; cases V2
    obtain ⟨m, F0⟩ := R.fr
    refine splitN1A F0 (ledN s.heap F.L) hy (fun l h' k hl hs _ _ F' N' => ?_) (by rw [sizeLine_eq]; omega)
    have X : Led F.L s.heap h' := led_of F0 F' N' fun p hp => .tail _ hp
    rw [← hl] at hP
    exact hQ.newList R hP X (N' _ (.head _)).1 (VRs.of_strs hs) k
theorem OPL.join {x : PySem.Str} {v : AV} {ys : List PySem.Str} (L : LsOf a v (ys.map .str)) (hok : (ys.map (·.length)).sum + ys.length * x.length ≤ 16777216) (hP : P (.dat (.str (Txt.join x ys))) a) : OPL G n F a (fun cvs => PySem.call (Value.builtin "str.join") cvs) [.dat (.str x), v] P :=
  .two fun A prv φ s Q cx cy hA R V1 V2 hQ => by
    cases V1
    obtain ⟨ad, k, vs, rfl, e, r⟩ := ls_of R V2 L
    exact join_list (isList_of e) r.strs hok fun t' k => hQ.now R hP (.str _ _) _
theorem OPL.index {v : AV} {ys : List PySem.Str} {x : PySem.Str} {j : Nat} (L : LsOf a v (ys.map .str)) (hj : ys[j]? = some x) (hno : ∀ m, m < j → ys[m]? ≠ some x) (hl : ys.length ≤ 10000) (hP : P (.dat (.int j)) a) : OPL G n F a (fun cvs => PySem.call (Value.builtin "list.index") cvs) [v, .dat (.str x)] P :=
  .two fun A prv φ s Q cx cy hA R V1 V2 hQ => by
    cases V2 with | str _ t =>
    obtain ⟨ad, k, vs, rfl, e, r⟩ := ls_of R V1 L
    have hs := r.strs
    have hz := r.length
    simp at hz
    have hjl : j < ys.length := (List.getElem?_eq_some_iff.mp hj).1
    have at' : ∀ m (hm : m < vs.size), ∃ y t', vs[m] = .str y t' ∧ ys[m]? = some y := by
      intro m hm
      obtain ⟨d, h1, h2⟩ := r.get' (i := m) (v := vs[m]) (by simp [hm])
      rw [List.getElem?_map] at h1
      cases q : ys[m]? with
      | none => rw [q] at h1; cases h1
      | some y => rw [q] at h1; cases h1; generalize vs[m] = z at h2 ⊢; cases h2; exact ⟨y, _, rfl, rfl⟩
    refine call_meets PySem.F.slot_list_index (isList_of e).typeIs PySem.F.entry_list_index (PySem.F.args_list_index_2 _ _) (MeetsSeq.list_index ad vs k (.str x t) (fun v => match v with | .str y _ => y == x | _ => false) (fun y hy => ?_) j (by omega) (by omega) ?_ (fun m hm hmj => ?_)) ⟨e, hQ.now R hP (.int _ _) _⟩
    · obtain ⟨m, hm, rfl⟩ := Array.mem_iff_getElem.mp hy
      obtain ⟨y', t', h1, _⟩ := at' m hm
      rw [h1]
      exact eqGives_str y' x t' t
    · obtain ⟨y', t', h1, h2⟩ := at' j (by omega)
      rw [h1]
      rw [hj] at h2; cases h2
      simp
    · obtain ⟨y', t', h1, h2⟩ := at' m hm
      rw [h1]
      have : y' ≠ x := fun q => hno m hmj (q ▸ h2)
      simpa using this
theorem OPL.getI (O : Ok G) {x : AV} {kvs : List (Int × Int)} {k m : Int} (L : DcOf a x kvs) (hP : P (.dat (.int ((kvs.lookup k).getD m))) a) : OPL G n F a (fun cvs => PySem.call (Value.builtin "dict.get") cvs) [x, .dat (.int k), .dat (.int m)] P := by
  refine ⟨fun A prv φ s Q cxs hA R V hQ => ?_⟩
  obtain _ | ⟨V1, V2⟩ := V
  obtain _ | ⟨V2, V3⟩ := V2
  obtain _ | ⟨V3, V4⟩ := V3
  cases V4; cases V2; cases V3
  obtain ⟨ad, ep, kvs', rfl, e, hsys, r⟩ := dc_of O R V1 L
  have M := (dictOf_at e).mapOf
  refine call_meetsIn PySem.F.slot_dict_get M.typeIs PySem.F.entry_dict_get (PySem.F.args_dict_get_3 _ _ _) (meets_dict_get_default (intKind G.prog G.w) ad (k := k) (by simp [intKind, Value.isInt]) hsys _) ⟨_, M, ?_⟩
  rcases ivals_at r k with ⟨m', t, h1, h2⟩ | ⟨h1, h2⟩
  · rw [h2]; rw [h1] at hP; exact hQ.now R hP (.int _ _) _
  · rw [h2]; rw [h1] at hP; exact hQ.now R hP (.int _ _) _

/-! ### in -/
theorem OP2.inS {x : PySem.Str} {v : AV} {ys : List PySem.Str} (L : LsOf a v (ys.map .str)) (hP : P (.dat (.bool (ys.any (· == x)))) a) : OP2 G n F a (compareOp .In) (.dat (.str x)) v P := by
  refine ⟨fun A prv φ s Q cx cy hA R V1 V2 hQ => ?_⟩
  cases V1
  obtain ⟨ad, k, vs, rfl, e, r⟩ := ls_of R V2 L
  exact in_list_strs (isList_of e) r.strs (hQ.now R hP (.bool _) s.toks)
theorem OP2.notinI {i : Int} {v : AV} {ns : List Int} (L : LsOf a v (ns.map .int)) (hP : P (.dat (.bool (!(ns.any (· == i))))) a) : OP2 G n F a (compareOp .NotIn) (.dat (.int i)) v P := by
  refine ⟨fun A prv φ s Q cx cy hA R V1 V2 hQ => ?_⟩
  cases V1
  obtain ⟨ad, k, vs, rfl, e, r⟩ := ls_of R V2 L
  exact notin_list_ints (isList_of e) r.ints (hQ.now R hP (.bool _) s.toks)
end
end Mine

namespace Mine
variable {G : Base}

mutual
def DV.pd : DV → PyData
  | .none => .none
  | .bool b => .bool b
  | .int i => .int i
  | .str x => .str x
  | .list xs => .list (DV.pds xs)
  | .tup xs => .tuple (DV.pds xs)
  | .idict _ => .dict []
def DV.pds : List DV → List PyData
  | [] => []
  | x :: xs => x.pd :: DV.pds xs
end
mutual
theorem VR.reads {prog : Program} {w : World} {h : Heap} {W : Addr → Prop} : ∀ {v : Value} {d : DV}, VR prog w h W v d → d.pd.canLay0 = true → ∃ as, Reads h v d.pd as
  | _, _, .none, _ => ⟨_, .none⟩
  | _, _, .bool b, _ => ⟨_, .bool b⟩
  | _, _, .int i t, _ => ⟨_, .int i t⟩
  | _, _, .str x t, _ => ⟨_, .str x t⟩
  | _, _, .list h1 h2 r, q => by
    obtain ⟨as, x⟩ := VRs.reads r (by simpa [DV.pd, PyData.canLay0] using q)
    exact ⟨_, .list h1 rfl rfl x⟩
  | _, _, .tup h1 h2 r, q => by
    obtain ⟨as, x⟩ := VRs.reads r (by simpa [DV.pd, PyData.canLay0] using q)
    exact ⟨_, .tuple h1 rfl rfl x⟩
  | _, _, .idict _ _ _ _, q => by simp [DV.pd, PyData.canLay0] at q
theorem VRs.reads {prog : Program} {w : World} {h : Heap} {W : Addr → Prop} : ∀ {vs : List Value} {ds : List DV}, VRs prog w h W vs ds → PyData.canLayAll0 (DV.pds ds) = true → ∃ as, ReadsAll h vs (DV.pds ds) as
  | _, _, .nil, _ => ⟨_, .nil⟩
  | _, d :: ds, .cons a r, q => by
    have q' : d.pd.canLay0 = true ∧ PyData.canLayAll0 (DV.pds ds) = true := by simpa [DV.pds, PyData.canLayAll0] using q
    obtain ⟨as, x⟩ := VR.reads a q'.1
    obtain ⟨bs, y⟩ := VRs.reads r q'.2
    exact ⟨_, .cons x y⟩
end

section
variable {n : Nat} {F : Fm} {prv : Addr → Prop} {φ : List Addr} {a : AS} {s : Shared} {P : AV → AS → Prop}

theorem OP2.eqD {x y : DV} (hx : x.pd.canLay0 = true) (hy : y.pd.canLay0 = true) (hd : x.pd.depth ≤ 50) (hP : P (.dat (.bool (PyData.eqv x.pd y.pd))) a) : OP2 G n F a (compareOp .Eq) (.dat x) (.dat y) P := by
  refine ⟨fun A prv φ s Q cx cy hA R V1 V2 hQ => ?_⟩
  obtain ⟨as, r1⟩ := VR.reads V1 hx
  obtain ⟨bs, r2⟩ := VR.reads V2 hy
  have hm : min x.pd.depth y.pd.depth ≤ x.pd.depth := Nat.min_le_left _ _
  refine PySem.SeqAt.compareEq_reads r1 r2 hx hy (by have := hA.un; omega) (hQ.now R hP (.bool _) s.toks)
theorem OP2.neD {x y : DV} (hx : x.pd.canLay0 = true) (hy : y.pd.canLay0 = true) (hd : x.pd.depth ≤ 50) (hP : P (.dat (.bool (!PyData.eqv x.pd y.pd))) a) : OP2 G n F a (compareOp .NotEq) (.dat x) (.dat y) P := by
  refine ⟨fun A prv φ s Q cx cy hA R V1 V2 hQ => ?_⟩
  obtain ⟨as, r1⟩ := VR.reads V1 hx
  obtain ⟨bs, r2⟩ := VR.reads V2 hy
  have hm : min x.pd.depth y.pd.depth ≤ x.pd.depth := Nat.min_le_left _ _
  refine PySem.SeqAt.compareNe_reads r1 r2 hx hy (by have := hA.un; omega) (hQ.now R hP (.bool _) s.toks)

/-! ### and, or, as values -/
theorem EV.and2 {x y : Expr} {pos : Pos} (h : EV G n F a x fun v a1 => ∃ b, v = .dat (.bool b) ∧ if b then EV G n F a1 y P else P (.dat (.bool false)) a1) : EV G n F a (.BoolOp .And [x, y] pos) P := by
  refine ⟨fun A prv φ s Q hA R hQ => ?_⟩
  refine wpAny_And2 (h.go A prv φ s _ hA R fun v a1 φ1 cv s1 h1 R1 V1 E1 S1 => ?_)
  obtain ⟨b, rfl, h1⟩ := h1
  cases V1
  refine wpAny_truthy_bool ?_
  cases b with
  | false => exact (hQ.step E1 S1 E1.len).now' R1 h1 (.bool _)
  | true => exact h1.go A prv φ1 s1 Q hA R1 (hQ.step E1 S1 E1.len)
theorem EV.or2S {x y : Expr} {pos : Pos} (h : EV G n F a x fun v a1 => ∃ z : PySem.Str, v = .dat (.str z) ∧ z.length ≤ 1000000 ∧ if (z.length : Int) != 0 then P (.dat (.str z)) a1 else EV G n F a1 y P) : EV G n F a (.BoolOp .Or [x, y] pos) P := by
  refine ⟨fun A prv φ s Q hA R hQ => ?_⟩
  refine wpAny_Or2 (h.go A prv φ s _ hA R fun v a1 φ1 cv s1 h1 R1 V1 E1 S1 => ?_)
  obtain ⟨z, rfl, hz, h1⟩ := h1
  cases V1
  refine PySem.P.truthy_str (by have := hz; omega) ?_
  cases q : ((z.length : Int) != 0) with
  | false => rw [q] at h1; exact h1.go A prv φ1 { s1 with toks := s1.toks + 1 + 1 } Q hA R1 (hQ.step (s' := { s1 with toks := s1.toks + 1 + 1 }) E1 (S1.trans (.mk' s1 s1.heap _)) E1.len)
  | true => rw [q] at h1; exact (hQ.step E1 S1 E1.len).now R1 h1 (.str _ _) _

/-! ### more assignments -/
theorem EX1.setTup {PF : AFlow → AS → Prop} {elts : List Expr} {k : Nat} {p1 pos : Pos} {value : Expr} (h : EV G n F a value fun v a1 => ASG G n F a1 (.Tuple elts k p1) v fun a2 => PF .next a2)
    (hs : swapsWithSole [.Tuple elts k p1] value pos.line F.env = pure false := by rfl) (hw : swappedStores [.Tuple elts k p1] value F.env = pure none := by rfl) : EX1 G n F a (.Assign [.Tuple elts k p1] value pos) PF := by
  refine ⟨fun A prv φ s Q hA R hQ => ?_⟩
  refine Assign_Tuple (h.go A prv φ s _ hA R fun v a1 φ1 cv s1 h1 R1 V1 E1 S1 => ?_) hs hw
  refine h1.go A prv φ1 s1 _ cv hA R1 V1 fun a2 φ2 s2 h2 R2 E2 S2 => ?_
  exact ((hQ.step (a' := { a with heap := a1 }) E1 S1 R.n0).step E2 S2 R1.n0).now' R2 h2 rfl
theorem EX1.set3 {PF : AFlow → AS → Prop} {x y z : PySem.Str} {p1 p2 p3 pos : Pos} {value : Expr} (hx : Stores F x) (hy : Stores F y) (hz : Stores F z) (h : EV G n F a value fun v a1 => PF .next { a1 with vars := setV (setV (setV a1.vars x v) y v) z v })
    (hw : swappedStores [.Name x p1, .Name y p2, .Name z p3] value F.env = pure none := by rfl) : EX1 G n F a (.Assign [.Name x p1, .Name y p2, .Name z p3] value pos) PF := by
  refine ⟨fun A prv φ s Q hA R hQ => ?_⟩
  refine wpAny_Assign_three (h.go A prv φ s _ hA R fun v a1 φ1 cv s1 h1 R1 V1 E1 S1 => ?_) rfl hw
  have hq := hQ.step (a' := { a with heap := a1 }) E1 S1 R.n0
  refine wpAny_assign_Name (store_var hx R1 V1 fun h2 t2 R2 E2 => ?_)
  have V2 := V1.after E2 (Nat.le_refl _)
  refine wpAny_assign_Name (store_var (s := { s1 with heap := h2, toks := t2 }) hy R2 V2 fun h3 t3 R3 E3 => ?_)
  have V3 := V2.after E3 (Nat.le_refl _)
  refine wpAny_assign_Name (store_var (s := { s1 with heap := h3, toks := t3 }) hz R3 V3 fun h4 t4 R4 E4 => ?_)
  have hq2 := hq.step (φ' := φ1) (a' := { a with heap := a1, vars := setV a.vars x v }) (s' := { s1 with heap := h2, toks := t2 }) E2 (.mk' ..) R1.n0
  have hq3 := hq2.step (φ' := φ1) (a' := { a with heap := a1, vars := setV (setV a.vars x v) y v }) (s' := { s1 with heap := h3, toks := t3 }) E3 (.mk' ..) R1.n0
  exact (hq3.step (φ' := φ1) (a' := { a with heap := a1, vars := setV (setV (setV a.vars x v) y v) z v }) (s' := { s1 with heap := h4, toks := t4 }) E4 (.mk' ..) R1.n0).now' R4 h1 rfl

/-! ### writing ends -/
/-- a list is written no more: the names that knew it hold it -/
theorem EX.freezeL {PF : AFlow → AS → Prop} {ss : List Stmt} {i : Nat} {xs : List DV} {vars : List (PySem.Str × AV)} (h0 : a.heap[i]? = some (.list xs))
    (hv : ∀ x v, vars.lookup x = some v → a.vars.lookup x = some v ∨ (v = .dat (.list xs) ∧ a.vars.lookup x = some (.ref i)))
    (h : EX G n F { a with vars := vars, heap := a.heap.set i .dead } ss PF) : EX G n F a ss PF := by
  refine ⟨fun A prv φ s Q hA R hQ => ?_⟩
  have hi : ∃ ad, φ[i]? = some ad := by
    have : i < a.heap.length := (List.getElem?_eq_some_iff.mp h0).1
    rw [← R.hr.len] at this
    exact ⟨_, List.getElem?_eq_getElem this⟩
  obtain ⟨ad, hi⟩ := hi
  obtain ⟨R1, E1, ⟨k, vs, e, r⟩, nW⟩ := R.freeze hi h0 rfl
  refine h.go A prv φ s Q hA ?_ (hQ.step (a' := { a with vars := vars, heap := a.heap.set i .dead }) E1 (.refl s) R.n0)
  refine ⟨R1.kfun, R1.hr, R1.own_prv, R1.Lown, R1.cown, R1.cinj, R1.n0, ?_, R1.slf⟩
  obtain ⟨m, hn, hvs⟩ := R1.vars
  refine ⟨m, hn, fun x v ex => ?_⟩
  rcases hv x v ex with q | ⟨rfl, q⟩
  · exact hvs x v q
  · obtain ⟨cv, ⟨ad', h1, rfl⟩, h2⟩ := hvs x _ q
    rw [hi] at h1; cases h1
    exact ⟨_, .list e nW r, h2⟩
theorem EX.freezeD (O : Ok G) {PF : AFlow → AS → Prop} {ss : List Stmt} {i : Nat} {xs : List (Int × Int)} {vars : List (PySem.Str × AV)} (h0 : a.heap[i]? = some (.dict xs))
    (hv : ∀ x v, vars.lookup x = some v → a.vars.lookup x = some v ∨ (v = .dat (.idict xs) ∧ a.vars.lookup x = some (.ref i)))
    (h : EX G n F { a with vars := vars, heap := a.heap.set i .dead } ss PF) : EX G n F a ss PF := by
  refine ⟨fun A prv φ s Q hA R hQ => ?_⟩
  have hi : ∃ ad, φ[i]? = some ad := by
    have : i < a.heap.length := (List.getElem?_eq_some_iff.mp h0).1
    rw [← R.hr.len] at this
    exact ⟨_, List.getElem?_eq_getElem this⟩
  obtain ⟨ad, hi⟩ := hi
  have hsys : (ad == sysModules) = false := by
    simpa using (R.hr.φB ad (List.mem_of_getElem? hi)).2
  obtain ⟨R1, E1, ⟨ep, kvs', e, r⟩, nW⟩ := R.freeze hi h0 rfl
  refine h.go A prv φ s Q hA ?_ (hQ.step (a' := { a with vars := vars, heap := a.heap.set i .dead }) E1 (.refl s) R.n0)
  refine ⟨R1.kfun, R1.hr, R1.own_prv, R1.Lown, R1.cown, R1.cinj, R1.n0, ?_, R1.slf⟩
  obtain ⟨m, hn, hvs⟩ := R1.vars
  refine ⟨m, hn, fun x v ex => ?_⟩
  rcases hv x v ex with q | ⟨rfl, q⟩
  · exact hvs x v q
  · obtain ⟨cv, ⟨ad', h1, rfl⟩, h2⟩ := hvs x _ q
    rw [hi] at h1; cases h1
    exact ⟨_, .idict e nW hsys r, h2⟩
/-- the last things are forgotten -/
theorem EX.pop {PF : AFlow → AS → Prop} {ss : List Stmt} {k : Nat} (hk : F.n₀ ≤ k) (hkl : k ≤ a.heap.length) (hv : ∀ x i, a.vars.lookup x = some (.ref i) → i < k)
    (h : EX G n F { a with heap := a.heap.take k } ss PF) : EX G n F a ss PF := by
  refine ⟨fun A prv φ s Q hA R hQ => ?_⟩
  obtain ⟨HR, hw⟩ := R.hr.pop k
  have hW : ∀ b, Wf F prv (φ.take k) (a.heap.take k) b → Wf F prv φ a.heap b := fun b q => q.elim .inl fun q => .inr (hw b q)
  have hlen : (φ.take k).length = k := by rw [List.length_take, R.hr.len]; omega
  have E : Ext F.own k φ a.heap s.heap (φ.take k) (a.heap.take k) s.heap := ⟨fun i hi => by rw [List.getElem?_take, if_pos hi], fun b o e _ _ => e, fun b o e => ⟨o, e⟩, fun b hb => .inl (hw b hb)⟩
  refine h.go A prv (φ.take k) s Q hA ⟨R.kfun, HR, R.own_prv, R.Lown, R.cown, R.cinj, by rw [hlen]; exact hk, ?_, fun x dx e => ?_⟩ (hQ.step (a' := { a with heap := a.heap.take k }) E (.refl s) hk)
  · obtain ⟨m, hn, hvs⟩ := R.vars
    refine ⟨m, hn, fun x v ex => ?_⟩
    obtain ⟨cv, h1, h2⟩ := hvs x v ex
    refine ⟨cv, ?_, h2⟩
    have h1' : AVR G F.slf φ s.heap (Wf F prv (φ.take k) (a.heap.take k)) v cv := AVR.ext (fun b o e hb => ⟨e, fun q => hb (hW b q)⟩) (fun _ _ e => e) h1
    cases v with
    | ref i =>
      obtain ⟨ad, h3, h4⟩ := h1'
      exact ⟨ad, by rw [List.getElem?_take, if_pos (hv x i ex)]; exact h3, h4⟩
    | _ => exact h1'
  · obtain ⟨h1, h2, h3, h4, h5, h6, h7⟩ := R.slf x dx e
    exact ⟨h1, h2, h3, h4, h5, h6, h7.ext (fun b o e hb => ⟨e, fun q => hb (hW b q)⟩) (fun o e => e) (fun o e => e)⟩
/-- fewer names known -/
theorem EX.forget {PF : AFlow → AS → Prop} {ss : List Stmt} {vars : List (PySem.Str × AV)} (hv : ∀ x v, vars.lookup x = some v → a.vars.lookup x = some v) (h : EX G n F { a with vars := vars } ss PF) : EX G n F a ss PF :=
  ⟨fun A prv φ s Q hA R hQ => h.go A prv φ s Q hA (R.forget hv) fun f a' φ' cf s' hp => hQ f a' φ' cf s' hp⟩
end
end Mine

set_option maxRecDepth 100000
namespace Mine
def fdIn : Option Obj → Option FuncData
  | some o => match o.data with | .func fd => some fd | _ => none
  | none => none
noncomputable def fdAt (p : Params) (i : Addr) : Option FuncData := fdIn ((lawK p).lookup i)
noncomputable def fdWord (p : Params) : FuncData := (fdAt p 120).get rfl
noncomputable def fdFlags (p : Params) : FuncData := (fdAt p 113).get rfl
noncomputable def fdBis (p : Params) : FuncData := (fdAt p 105).get rfl
noncomputable def fdIns (p : Params) : FuncData := (fdAt p 96).get rfl
noncomputable def fdOrd (p : Params) : FuncData := (fdAt p 127).get rfl
noncomputable def fdLaw (p : Params) : FuncData := (fdAt p 132).get rfl
noncomputable def fdInit (p : Params) : FuncData := (fdAt p 38).get rfl
noncomputable def fdLong (p : Params) : FuncData := (fdAt p 45).get rfl
noncomputable def fdIndent (p : Params) : FuncData := (fdAt p 52).get rfl
noncomputable def fdNew (p : Params) : FuncData := (fdAt p 66).get rfl
def bodyIn (fd : FuncData) : List Stmt := match fd.body with | .stmts b => b | _ => []

def isStmts : FuncBody → Bool
  | .stmts _ => true
  | _ => false
theorem body_in {fd : FuncData} (h : isStmts fd.body = true) : fd.body = .stmts (bodyIn fd) := by
  unfold bodyIn
  cases e : fd.body with
  | stmts b => rfl
  | _ => rw [e] at h; cases h

/-- names of the program -/
def gTab : List (PySem.Str × Value) := [("COMPILER_FLAG_NAMES", .ref 106), ("Whitespace", .ref 83), ("insort_left", .ref 96), ("bisect_left", .ref 105), ("pretty_flags", .ref 113), ("_law_word", .ref 120), ("_law_orders", .ref 127)]
/-- names of the language -/
def bTab : List (PySem.Str × Value) := [("len", .builtin "len"), ("sum", .builtin "sum"), ("max", .builtin "max"), ("hex", .builtin "hex"), ("range", .type "range"), ("tuple", .type "tuple")]

/-- what stands below the call -/
structure Facts (p : Params) (G : Base) extends Ok G where
  gl : ∀ x v, gTab.lookup x = some v → toOk.mg x = some v
  bl : ∀ x v, bTab.lookup x = some v → toOk.mg x = none ∧ toOk.mb x = some v
  KX : (lawK p).In G.B
  par : G.w.params = p
  cls : G.C = 83
  word : FnAt G 120 (fdWord p)
  flags : FnAt G 113 (fdFlags p)
  bis : FnAt G 105 (fdBis p)
  ins : FnAt G 96 (fdIns p)
  ord : FnAt G 127 (fdOrd p)
  init : FnAt G 38 (fdInit p)
  long : FnAt G 45 (fdLong p)
  indent : FnAt G 52 (fdIndent p)
  new : FnAt G 66 (fdNew p)

section
variable {p : Params} {G : Base} {n : Nat} {F : Fm} {a : AS} {P : AV → AS → Prop}
theorem EV.glob (X : Facts p G) {x : PySem.Str} {pos : Pos} {v : Value} (hk : F.sc.names.lookup x = some .globalImplicit) (hv : gTab.lookup x = some v) (hP : P (.con v) a) (hd : (x == ("__debug__" : PySem.Str)) = false := by rfl) : EV G n F a (.Name x pos) P :=
  EV.globG X.toOk hk (X.gl x v hv) hP hd
theorem EV.blt (X : Facts p G) {x : PySem.Str} {pos : Pos} {v : Value} (hk : F.sc.names.lookup x = some .globalImplicit) (hv : bTab.lookup x = some v) (hP : P (.con v) a) (hd : (x == ("__debug__" : PySem.Str)) = false := by rfl) : EV G n F a (.Name x pos) P :=
  EV.globB X.toOk hk (X.bl x v hv).1 (X.bl x v hv).2 hP hd
/-- a call of a builtin by its name -/
theorem EV.bfn (X : Facts p G) {f : PySem.Str} {p1 pos : Pos} {es : List Expr} {id : String} (hk : F.sc.names.lookup f = some .globalImplicit) (hv : bTab.lookup f = some (.builtin id))
    (h : EVs G n F a es fun vs a2 => OPL G n F a2 (fun cvs => PySem.call (Value.builtin id) cvs) vs P)
    (hes : ∀ env pos, backTo pos (starEach es env) = plainArgs env es := by exact star_of rfl) (hd : (f == ("__debug__" : PySem.Str)) = false := by rfl) : EV G n F a (.Call (.Name f p1) es [] pos) P :=
  EV.fn (EV.blt X hk hv ⟨_, rfl, keep_builtin id, h⟩ hd) hes
theorem EV.tfn (X : Facts p G) {f : PySem.Str} {p1 pos : Pos} {es : List Expr} {id : String} (hk : F.sc.names.lookup f = some .globalImplicit) (hv : bTab.lookup f = some (.type id))
    (h : EVs G n F a es fun vs a2 => OPL G n F a2 (fun cvs => PySem.call (Value.type id) cvs) vs P)
    (hes : ∀ env pos, backTo pos (starEach es env) = plainArgs env es := by exact star_of rfl) (hd : (f == ("__debug__" : PySem.Str)) = false := by rfl) : EV G n F a (.Call (.Name f p1) es [] pos) P :=
  EV.fn (EV.blt X hk hv ⟨_, rfl, keep_type id, h⟩ hd) hes
theorem keep_fn {fa : Addr} {fd : FuncData} (X : FnAt G fa fd) : KeepOk G (.ref fa) := fun h hb => by
  obtain ⟨o, ho, hd⟩ := X.at_
  refine ⟨.frame, .inl rfl, (Looks.ld (part := none) (hb _ _ ho)).andThen ?_⟩
  rw [hd]; exact .now
/-- a call of a def by its name -/
theorem EV.dfn (X : Facts p G) {f : PySem.Str} {p1 pos : Pos} {es : List Expr} {fa : Addr} {fd : FuncData} (hk : F.sc.names.lookup f = some .globalImplicit) (hv : gTab.lookup f = some (.ref fa)) (hf : FnAt G fa fd)
    (h : EVs G n F a es fun vs a2 => vs.all AV.plain = true ∧ CALL G n (.ref fa) vs a2.heap fun r H' => P r { a2 with heap := H' })
    (hes : ∀ env pos, backTo pos (starEach es env) = plainArgs env es := by exact star_of rfl) (hd : (f == ("__debug__" : PySem.Str)) = false := by rfl) : EV G n F a (.Call (.Name f p1) es [] pos) P :=
  EV.call (EV.glob X hk hv ⟨_, rfl, keep_fn hf, h⟩ hd) hes
end

section
variable {G : Base} {n : Nat} {F : Fm}
theorem EVs.nil {a : AS} {P : List AV → AS → Prop} (h : P [] a) : EVs G n F a [] P := h
theorem EVs.cons {a : AS} {e : Expr} {es : List Expr} {P : List AV → AS → Prop} (h : EV G n F a e fun v a1 => EVs G n F a1 es fun vs a2 => P (v :: vs) a2) : EVs G n F a (e :: es) P := h
theorem EVs.one {a : AS} {e : Expr} {P : List AV → AS → Prop} (h : EV G n F a e fun v a1 => P [v] a1) : EVs G n F a [e] P := h
theorem EVs.two {a : AS} {e e2 : Expr} {P : List AV → AS → Prop} (h : EV G n F a e fun v a1 => EV G n F a1 e2 fun v2 a2 => P [v, v2] a2) : EVs G n F a [e, e2] P := h
theorem EVs.three {a : AS} {e e2 e3 : Expr} {P : List AV → AS → Prop} (h : EV G n F a e fun v a1 => EV G n F a1 e2 fun v2 a2 => EV G n F a2 e3 fun v3 a3 => P [v, v2, v3] a3) : EVs G n F a [e, e2, e3] P := h
/-- constants -/
def constOf : Expr → Option DV
  | .Constant (.str x) _ _ => some (.str x)
  | .Constant (.int i) _ _ => some (.int i)
  | _ => none
def constsOf : List Expr → Option (List DV)
  | [] => some []
  | e :: es => match constOf e, constsOf es with | some d, some ds => some (d :: ds) | _, _ => none
theorem EVs.consts : ∀ {es : List Expr} {ds : List DV} {a : AS} {P : List AV → AS → Prop}, constsOf es = some ds → P (ds.map .dat) a → EVs G n F a es P
  | [], ds, a, P, h, hP => by cases h; exact hP
  | e :: es, ds, a, P, h, hP => by
    unfold constsOf at h
    split at h
    · rename_i d ds' h1 h2
      cases h
      have : EV G n F a e fun v a1 => v = .dat d ∧ a1 = a := by
        unfold constOf at h1
        split at h1
        · cases h1; exact EV.str ⟨rfl, rfl⟩
        · cases h1; exact EV.int ⟨rfl, rfl⟩
        · cases h1
      refine EVs.cons (this.mono ?_)
      rintro v a1 ⟨rfl, rfl⟩
      exact EVs.consts h2 hP
    · cases h
/-- a display of constants -/
theorem EV.listC {a : AS} {P : AV → AS → Prop} {es : List Expr} {pos : Pos} {ds : List DV} (h : constsOf es = some ds) (hl : ds.length ≤ 1000) (hs : noStar es = true) (hP : P (.dat (.list ds)) a) : EV G n F a (.List es pos) P :=
  EV.list (EVs.consts h ⟨ds, rfl, hl, .inl hP⟩) (star_of hs)
end

theorem all_ne_cell {names : List (PySem.Str × NameKind)} (h : names.all (fun x => x.2 != .cell) = true) : ∀ x ∈ names, x.2 ≠ .cell := fun x hx q => by
  have := List.all_eq_true.mp h x hx
  rw [q] at this; exact absurd this (by decide)
/-- binding by order alone -/
theorem bind_of {G : Base} {fd : FuncData} {args : List AV} {vars : List (PySem.Str × AV)} (xs : List PySem.Str) (hb : ∀ vs : List Value, vs.length = args.length → bindArgs fd ⟨vs, []⟩ = pure (xs.zip vs)) (hn : xs.Nodup) (hl : ∀ x ∈ xs, fd.scope.names.lookup x = some .local) (hv : vars = xs.zip args) (hlen : xs.length = args.length) :
    ∀ (s : Shared) (φ : List Addr) (W : Addr → Prop) (cargs : List Value), (∀ b o, G.B.get? b = some o → s.heap.get? b = some o) → AVRs G none φ s.heap W args cargs →
      ∃ binds, BindsTo s fd ⟨cargs, []⟩ binds ∧ (binds.map (·.1)).Nodup ∧ (∀ x ∈ binds, fd.scope.names.lookup x.1 = some .local) ∧ BindRel G φ s.heap W binds vars := by
  intro s φ W cargs _ V
  have hl2 : cargs.length = args.length := by
    clear hv hb hlen
    induction V with
    | nil => rfl
    | cons _ _ ih => simp [ih]
  refine ⟨xs.zip cargs, .of_eq (hb _ hl2), ?_, fun x hx => hl _ (List.of_mem_zip (a := x.1) (b := x.2) hx).1, ?_⟩
  · rw [List.map_fst_zip (by omega)]; exact hn
  · subst hv
    clear hb hn hl hl2
    induction V generalizing xs with
    | nil => cases xs <;> exact .nil
    | cons v _ ih =>
      cases xs with
      | nil => cases hlen
      | cons x xs => exact .cons v (ih xs (by simpa using hlen))

end Mine

namespace Mine
variable {G : Base}

variable (G) in
/-- what stands behind a line: the rest of the lines, or the way out -/
def Aft (n : Nat) (F : Fm) (rest : List Stmt) (P : AFlow → AS → Prop) : AFlow → AS → Prop
  | .next, a => EX G n F a rest P
  | .brk, a => P .brk a
  | .ret v, a => P (.ret v) a
/-- what a turn of a for leaves -/
def LP (I : AS → Prop) (Q : AFlow → AS → Prop) : AFlow → AS → Prop
  | .next, a => I a
  | .brk, a => Q .next a
  | .ret v, a => Q (.ret v) a

section
variable {n : Nat} {F : Fm} {a : AS} {P : AFlow → AS → Prop} {rest : List Stmt} {pos : Pos}
theorem EX.st {st : Stmt} (h : EX1 G n F a st (Aft G n F rest P)) : EX G n F a (st :: rest) P :=
  EX.cons ⟨fun A prv φ s Q hA R hQ => h.go A prv φ s Q hA R fun f a' φ' cf s' hp => hQ f a' φ' cf s' (by cases f <;> exact hp)⟩
theorem EX.ret {e : Expr} (h : EV G n F a e fun v a1 => P (.ret v) a1) : EX G n F a (.Return (some e) pos :: rest) P := EX.st (EX1.ret (h.mono fun _ _ x => x))
theorem EX.brk (h : P .brk a) : EX G n F a (.Break pos :: rest) P := EX.st (EX1.brk h)
theorem EX.iff {t : Expr} {x y : List Stmt} (h : BT G n F a t fun b a1 => (b = true → EX G n F a1 x (Aft G n F rest P)) ∧ (b = false → EX G n F a1 y (Aft G n F rest P))) : EX G n F a (.If t x y pos :: rest) P :=
  EX.st (EX1.iff (h.mono fun b a1 q => by cases b with | true => exact q.1 rfl | false => exact q.2 rfl))
theorem EX.nilA {rest' : List Stmt} (h : EX G n F a rest' P) : EX G n F a [] (Aft G n F rest' P) := EX.nil h
theorem EX.expr {e : Expr} (h : EV G n F a e fun v a1 => EX G n F a1 rest P) (hs : swapsWith e .none pos.line F.env = pure false := by rfl) : EX G n F a (.Expr e pos :: rest) P := EX.st (EX1.expr h hs)
theorem EX.set {x : PySem.Str} {p1 : Pos} {e : Expr} (hx : Stores F x) (h : EV G n F a e fun v a1 => EX G n F { a1 with vars := setV a1.vars x v } rest P) (hs : swapsWith e (some (.Name x p1)) pos.line F.env = pure false := by rfl) :
    EX G n F a (.Assign [.Name x p1] e pos :: rest) P := EX.st (EX1.set (vs := []) hx h hs)
theorem EX.aug {x : PySem.Str} {p1 : Pos} {op : Operator} {e : Expr} {u : AV} (hx : Stores F x) (hu : a.vars.lookup x = some u) (h : EV G n F a e fun v a1 => OP2 G n F a1 (inplaceOp op) u v fun v a2 => EX G n F { a2 with vars := setV a2.vars x v } rest P) :
    EX G n F a (.AugAssign (.Name x p1) op e pos :: rest) P := EX.st (EX1.aug hx hu h)
theorem EX.set3 {x y z : PySem.Str} {p1 p2 p3 : Pos} {value : Expr} (hx : Stores F x) (hy : Stores F y) (hz : Stores F z) (h : EV G n F a value fun v a1 => EX G n F { a1 with vars := setV (setV (setV a1.vars x v) y v) z v } rest P)
    (hw : swappedStores [.Name x p1, .Name y p2, .Name z p3] value F.env = pure none := by rfl) : EX G n F a (.Assign [.Name x p1, .Name y p2, .Name z p3] value pos :: rest) P := EX.st (EX1.set3 hx hy hz h hw)
theorem EX.setTup {elts : List Expr} {k : Nat} {p1 : Pos} {value : Expr} (h : EV G n F a value fun v a1 => ASG G n F a1 (.Tuple elts k p1) v fun a2 => EX G n F a2 rest P)
    (hs : swapsWithSole [.Tuple elts k p1] value pos.line F.env = pure false := by rfl) (hw : swappedStores [.Tuple elts k p1] value F.env = pure none := by rfl) : EX G n F a (.Assign [.Tuple elts k p1] value pos :: rest) P := EX.st (EX1.setTup h hs hw)
theorem EX.setItem {o i value : Expr} {p1 : Pos}
    (h : EV G n F a value fun v a1 => EV G n F a1 o fun x a2 => EV G n F a2 i fun y a3 => ∃ r k, x = .ref r ∧ y = .dat (.int k) ∧
      ((∃ xs d, v = .dat d ∧ a3.heap[r]? = some (.list xs) ∧ 0 ≤ k ∧ k < (xs.length : Int) ∧ xs.length ≤ 10000 ∧ EX G n F { a3 with heap := a3.heap.set r (.list (xs.set k.toNat d)) } rest P) ∨
       (∃ kvs m, v = .dat (.int m) ∧ a3.heap[r]? = some (.dict kvs) ∧ kvs.length ≤ 10000 ∧ EX G n F { a3 with heap := a3.heap.set r (.dict (if kvs.any (fun kv => kv.1 = k) then kvs.map (fun kv => if kv.1 = k then (kv.1, m) else kv) else kvs ++ [(k, m)])) } rest P)))
    (hs : swapsWith value (some (.Subscript o i p1)) pos.line F.env = pure false := by rfl) : EX G n F a (.Assign [.Subscript o i p1] value pos :: rest) P := EX.st (EX1.setItem h hs)
theorem EX.for_ {tgt iter : Expr} {body orelse : List Stmt}
    (h : EV G n F a iter fun v a1 => ∃ items, ItemsOf v tgt items ∧ ∃ Inv : Nat → AS → Prop, Inv 0 a1 ∧
      (∀ k d a2, items[k]? = some d → Inv k a2 → ASG G n F a2 tgt (.dat d) fun a3 => EX G n F a3 body (LP (Inv (k + 1)) (Aft G n F rest P))) ∧
      (∀ N a2, items.length = N → Inv N a2 → EX G n F a2 orelse (Aft G n F rest P)))
    (hs : ∀ x, foldedSetIterable iter F.env x = pure x := by intro _; rfl) : EX G n F a (.For tgt iter body orelse pos :: rest) P := by
  refine EX.st (EX1.for_ (h.mono fun v a1 q => ?_) hs)
  obtain ⟨items, hI, Inv, h0, turn, fin⟩ := q
  refine ⟨items, hI, Inv, h0, fun k d a2 hd hi => ?_, fun a2 => fin _ a2 rfl⟩
  refine ⟨fun A prv φ s Q cv hA R V hQ => ?_⟩
  refine (turn k d a2 hd hi).go A prv φ s Q cv hA R V fun a3 φ3 s3 h3 => hQ a3 φ3 s3 (h3.mono fun f a4 q => ?_)
  cases f <;> exact q
theorem EX.while_ {test : Expr} {body orelse : List Stmt} (Inv : Nat → AS → Prop) {m : Nat} (h0 : Inv m a)
    (turn : ∀ k a2, Inv k a2 → BT G n F a2 test fun b a3 => (b = true → EX G n F a3 body (LP (fun a4 => ∃ k', k' < k ∧ Inv k' a4) (Aft G n F rest P))) ∧ (b = false → EX G n F a3 orelse (Aft G n F rest P))) : EX G n F a (.While test body orelse pos :: rest) P := by
  refine EX.st (EX1.while_ Inv h0 fun k a2 hi => (turn k a2 hi).mono fun b a3 q => ?_)
  cases b with
  | true => exact (q.1 rfl).mono fun f a4 z => by cases f <;> exact z
  | false => exact q.2 rfl
/-- a comprehension bound to a local name on its line -/
theorem EX.setComp {x : PySem.Str} {p1 spos cpos : Pos} {elt iter tgt : Expr} {ifs : List Expr} {gens : List Comprehension} {scope : Scope} {cl' : List (PySem.Str × Addr)} (K : CompSt F scope cl')
    (hx : Stores F x)
    (h : EV G n F a iter fun v a1 => ∃ ds, CompRuns G n F a1 v elt (⟨tgt, iter, ifs, 0⟩ :: gens) scope cpos cl' ds ∧ EX G n F { a1 with vars := setV a1.vars x (.dat (.list ds)) } rest P)
    (hsw : swapsWith (.ListComp elt (⟨tgt, iter, ifs, 0⟩ :: gens) scope cpos) (some (.Name x p1)) spos.line F.env = pure true := by rfl)
    (hs : ∀ x, foldedSetIterable iter F.env x = pure x := by intro _; rfl) : EX G n F a (.Assign [.Name x p1] (.ListComp elt (⟨tgt, iter, ifs, 0⟩ :: gens) scope cpos) spos :: rest) P := EX.st (EX1.setComp K hsw hx h hs)
/-- the names, told anew -/
def SubA (vs : List (PySem.Str × AV)) (us : List (PySem.Str × AV)) : Prop := ∀ x v, vs.lookup x = some v → us.lookup x = some v
theorem SubA.nil {us : List (PySem.Str × AV)} : SubA [] us := fun _ _ e => nomatch e
theorem SubA.cons {x : PySem.Str} {v : AV} {vs us : List (PySem.Str × AV)} (h : us.lookup x = some v) (r : SubA vs us) : SubA ((x, v) :: vs) us := fun y u e => by
  rw [List.lookup_cons] at e
  cases q : y == x with
  | true => rw [q] at e; cases e; exact eq_of_beq q ▸ h
  | false => rw [q] at e; exact r y u e
theorem EX.names (vars : List (PySem.Str × AV)) (hv : SubA vars a.vars) (h : EX G n F { a with vars := vars } rest P) : EX G n F a rest P := EX.forget hv h
theorem SubA.trans {vs us ts : List (PySem.Str × AV)} (h : SubA vs us) (r : SubA us ts) : SubA vs ts := fun x v e => r x v (h x v e)
theorem SubA.refl {vs : List (PySem.Str × AV)} : SubA vs vs := fun _ _ e => e
/-- one more name is known -/
theorem SubA.put {vs us : List (PySem.Str × AV)} {x : PySem.Str} {v : AV} (h : SubA vs us) : SubA ((x, v) :: vs) (setV us x v) := fun y u e => by
  rw [setV_lookup]
  rw [List.lookup_cons] at e
  cases q : y == x with
  | true => rw [q] at e; cases e; rw [if_pos (eq_of_beq q)]
  | false => rw [q] at e; rw [if_neg (by simpa using q)]; exact h y u e
theorem ASG.nameP {x : PySem.Str} {p : Pos} {v : AV} {P : AS → Prop} {vars : List (PySem.Str × AV)} (hx : Stores F x) (hs : SubA vars a.vars) (hP : P { a with vars := setV a.vars x v }) : ASG G n F a (.Name x p) v P := ASG.name hx hP
/-- a method of a thing of the base -/
theorem EV.methB {P : AV → AS → Prop} {o : Expr} {name : PySem.Str} {apos pos : Pos} {es : List Expr} {T id : String} {v : Value} (pa : PlainAttrs T) (slot : Slot T name id) (hty : typeOf (.builtin id) = pure (.type "method_descriptor"))
    (hv : ∀ s : Shared, (∀ b o, G.B.get? b = some o → s.heap.get? b = some o) → s.TypeIs v T ∧ ∀ b, v = .ref b → ∃ ob, s.heap.get? b = some ob ∧ ob.dict = Option.none)
    (h : EV G n F a o fun x a1 => x = .con v ∧ EVs G n F a1 es fun vs a2 => OPL G n F a2 (fun cvs => PySem.call (Value.builtin id) cvs) (.con v :: vs) P)
    (hbase : ∀ env, attributeBase o name env (eval o env) = eval o env := by intro _; rfl)
    (hline : (apos.endLine == pos.line) = true := by rfl) (hn : decide (es.length < 30) = true := by rfl)
    (hes : ∀ env pos, backTo pos (starEach es env) = plainArgs env es := by exact star_of rfl) : EV G n F a (.Call (.Attribute o name apos) es [] pos) P := by
  refine ⟨fun A prv φ s Q hA R hQ => ?_⟩
  refine wpAny_Call_method (hbase _) ?_ hline pa slot hty (h.go A prv φ s _ hA R fun x a1 φ1 cx s1 hx R1 V1 E1 S1 => ?_)
  · rw [hes]
    have h1 : (plainArgs F.env es).all (fun x => !x.1) = true := by
      rw [List.all_eq_true]; intro x hx
      obtain ⟨e, _, rfl⟩ := List.mem_map.mp hx
      rfl
    rw [h1]
    simpa [keywordEach, backToKw] using hn
  · obtain ⟨rfl, hargs⟩ := hx
    have : cx = v := V1
    subst this
    obtain ⟨t1, t2⟩ := hv s1 R1.base
    refine ⟨t1, t2, ?_⟩
    refine callWith_of (P := fun h => ∀ b o, G.B.get? b = some o → h.get? b = some o) (argsTree hes F.env) (keep_builtin id) ?_
    rw [hes]
    refine evalArgs_plainArgs (evs_sound hA es { a with heap := a1 } φ1 s1 _ _ hargs R1 fun vs a2 φ2 cvs s2 h2 R2 V2 E2 S2 => ?_)
    exact ⟨R2.base, h2.go A prv φ2 s2 Q (cx :: cvs) hA R2 (.cons rfl V2) ((hQ.step E1 S1 E1.len).step E2 S2 E2.len)⟩
end
end Mine

namespace Mine
/-! ## _law_word -/
def flagWords : List PySem.Str := ["OPTIMIZED", "NEWLOCALS", "VARARGS", "VARKEYWORDS", "NESTED", "GENERATOR", "NOFREE", "COROUTINE", "ITERABLE_COROUTINE", "ASYNC_GENERATOR"]
def digitOf (k : Nat) : Nat := [49, 50, 52, 56].getD (k % 4) 0
def wordOf (k : Nat) : PySem.Str := if k < 10 then flagWords.getD k "" else (("0x" : PySem.Str) ++ ⟨#[digitOf k]⟩) ++ Txt.mul "0" ((k / 4 : Nat) : Int)

theorem getD_some {α : Type} {xs : List α} {k : Nat} (h : k < xs.length) (d : α) : xs[k]? = some (xs.getD k d) := by
  rw [List.getD_eq_getElem?_getD, List.getElem?_eq_getElem h]; rfl
section
variable {p : Params} {G : Base} {n : Nat}
theorem law_word (X : Facts p G) {k : Nat} (hk : k ≤ 1000) (H : List AObj) : CALL G (n + 1) (.ref 120) [.dat (.int k)] H fun v H' => v = .dat (.str (wordOf k)) ∧ H' = H := by
  refine CALL.body (vars := [("place", .dat (.int k))]) X.word X.toOk (body_in rfl) (bind_of ["place"] (fun vs h => ?_) ?_ ?_ rfl rfl) (all_ne_cell rfl) fun L => ?_
  · match vs, h with
    | [v], _ => kernel_rfl
  · decide
  · intro x hx; rw [List.mem_singleton] at hx; subst hx; rfl
  have fin : ∀ v, v = wordOf k → AV.below H.length (.dat (.str v)) = true ∧ AV.dat (.str v) = .dat (.str (wordOf k)) ∧ H.take H.length = H := fun v h => ⟨rfl, by rw [h], List.take_length⟩
  refine EX.iff (BT.cmp (EV.var rfl (EV.int (OP2.lt ⟨_, rfl, fun q => ?_, fun q => ?_⟩))))
  · have hk10 : k < 10 := by have := of_decide_eq_true q; omega
    refine EX.ret (EV.sub (EV.listC (ds := flagWords.map .str) rfl (by decide) rfl (EV.var rfl ?_)))
    refine OP2.itemL (d := .str (flagWords.getD k "")) (.inl rfl) (by omega) (by omega) ?_ ?_
    · rw [List.getElem?_map, Int.toNat_natCast, getD_some (show k < flagWords.length from hk10) ""]; rfl
    · exact fin _ (by rw [wordOf, if_pos hk10])
  · have hk10 : ¬ k < 10 := by have := of_decide_eq_false q; omega
    refine EX.nilA (EX.ret (EV.bop (EV.bop (EV.str (EV.sub (EV.str (EV.bop (EV.var rfl (EV.int (OP2.fmod (by decide) ?_))))))))))
    refine OP2.itemS (c := digitOf k) (Int.fmod_nonneg_of_pos _ (by decide)) (by have := Int.fmod_lt_of_pos k (show (0 : Int) < 4 by decide); omega) ?_ ?_
    · have e : (Int.fmod (k : Int) 4).toNat = k % 4 := by rw [Int.fmod_eq_emod_of_nonneg _ (by decide)]; omega
      rw [e]
      unfold digitOf
      have : k % 4 < 4 := Nat.mod_lt _ (by decide)
      generalize k % 4 = m at this
      match m, this with
      | 0, _ => rfl
      | 1, _ => rfl
      | 2, _ => rfl
      | 3, _ => rfl
    · refine OP2.addS (by show 2 + 1 ≤ sizeLine; decide) (EV.bop (EV.str (EV.bop (EV.var rfl (EV.int (OP2.fdiv (by decide) (by decide) ?_))))))
      have e : Int.fdiv (k : Int) 4 = ((k / 4 : Nat) : Int) := by rw [Int.fdiv_eq_ediv_of_nonneg _ (by decide)]; omega
      rw [e]
      refine OP2.mulS (by omega) (by omega) (by decide) (OP2.addS ?_ (fin _ (by rw [wordOf, if_neg hk10])))
      have h1 : (Txt.mul "0" ((k / 4 : Nat) : Int)).length ≤ 1 * 1000 := len_mul_leN (x := "0") (by decide) (by omega)
      have h2 : ((("0x" : PySem.Str) ++ (⟨#[digitOf k]⟩ : PySem.Str))).length = 3 := rfl
      rw [h2, sizeLine_eq]
      omega

/-! ## pretty_flags -/
noncomputable def o106 (p : Params) : Option Obj := (lawK p).lookup 106
def dictIn : Option Obj → Array DictEntry
  | some ⟨_, _, .dict es _, _⟩ => es
  | _ => #[]
noncomputable def flagEs (p : Params) : Array DictEntry := dictIn (o106 p)
def flagOk (es : Array DictEntry) (k : Nat) : Bool := match findBy Value.isInt es ((2 ^ k : Nat) : Int) with
  | some (.str x _) => x == wordOf k
  | none => baseText "0x" 16 ((2 ^ k : Nat) : Int) == wordOf k
  | _ => false
theorem flag_words (p : Params) : (List.range 32).all (flagOk (flagEs p)) = true := by kernel_rfl
def litKeys (es : Array DictEntry) : Bool := es.toList.all fun e => match e.key with | .int k _ => e.hash == hashInt k | _ => false
theorem flag_map (X : Facts p G) : G.B.MapOf (intKind G.prog G.w) 106 (fun k => findBy Value.isInt (flagEs p) k) := by
  have h : ∃ n, (lawK p).lookup 106 = some ⟨.type "dict", Option.none, .dict (flagEs p) n, #[]⟩ := ⟨10, by kernel_rfl⟩
  obtain ⟨n, h⟩ := h
  have hk : litKeys (flagEs p) = true := by kernel_rfl
  refine ⟨_, _, n, X.KX _ _ h, ⟨rfl, rfl, rfl⟩, rfl, fun e he => ?_, fun _ => rfl⟩
  have := List.all_eq_true.mp hk e (Array.mem_toList_iff.mpr he)
  split at this
  · rename_i k t q
    exact ⟨k, by rw [q]; simp [intKind, Value.isInt], by rw [eq_of_beq this]; rfl⟩
  · cases this
theorem hex_len : (List.range 32).all (fun k => decide ((baseText "0x" 16 ((2 ^ k : Nat) : Int)).length ≤ 100)) = true := by decide +kernel

/-- the words of a mask's set places below k -/
def bitWords (m k : Nat) : List PySem.Str := ((List.range k).filter m.testBit).map wordOf
/-- the mask without its places below k -/
def hi (m k : Nat) : Nat := 2 ^ k * (m / 2 ^ k)
theorem hi_zero (m : Nat) : hi m 0 = m := by simp [hi]
theorem hi_bit (m k : Nat) : (hi m k).testBit k = m.testBit k := by
  unfold hi
  rw [Nat.testBit_two_pow_mul, Nat.testBit_div_two_pow]
  simp
theorem hi_and (m k : Nat) : hi m k &&& 2 ^ k = if m.testBit k then 2 ^ k else 0 := by
  apply Nat.eq_of_testBit_eq
  intro i
  rw [Nat.testBit_and, Nat.testBit_two_pow]
  by_cases q : k = i
  · subst q
    rw [hi_bit]
    cases m.testBit k <;> simp
  · rw [decide_eq_false q, Bool.and_false]
    split
    · rw [Nat.testBit_two_pow, decide_eq_false q]
    · simp
theorem hi_succ (m k : Nat) : hi m (k + 1) = if m.testBit k then hi m k - 2 ^ k else hi m k := by
  unfold hi
  have h2 : m.testBit k = decide (m / 2 ^ k % 2 = 1) := Nat.testBit_eq_decide_div_mod_eq
  rw [h2, Nat.pow_succ, ← Nat.div_div_eq_div_mul, Nat.mul_assoc]
  generalize m / 2 ^ k = q
  have h3 := Nat.div_add_mod q 2
  rcases Nat.mod_two_eq_zero_or_one q with z | z
  · rw [z] at h3; rw [if_neg (by simp [z])]
    rw [show 2 * (q / 2) = q by omega]
  · rw [z] at h3; rw [if_pos (by simp [z])]
    rw [show 2 * (q / 2) = q - 1 by omega, Nat.mul_sub, Nat.mul_one]
theorem hi_le (m k : Nat) (h : m.testBit k = true) : 2 ^ k ≤ hi m k := by
  have := hi_bit m k
  rw [h] at this
  exact Nat.ge_two_pow_of_testBit this
theorem hi_none (m k : Nat) (h : hi m k = 0) : ∀ j, k ≤ j → m.testBit j = false := by
  intro j hj
  have : (hi m k).testBit j = false := by rw [h]; simp
  unfold hi at this
  rw [Nat.testBit_two_pow_mul, Nat.testBit_div_two_pow] at this
  simpa [hj, Nat.add_sub_cancel' hj] using this
theorem hi_end (m k : Nat) (h : m < 2 ^ k) : hi m k = 0 := by unfold hi; rw [Nat.div_eq_of_lt h]; simp
theorem bitWords_succ (m k : Nat) : bitWords m (k + 1) = if m.testBit k then bitWords m k ++ [wordOf k] else bitWords m k := by
  unfold bitWords
  rw [List.range_succ, List.filter_append]
  cases h : m.testBit k <;> simp [h]
theorem bitWords_none (m k : Nat) (h : ∀ j, k ≤ j → m.testBit j = false) : ∀ l, bitWords m (k + l) = bitWords m k
  | 0 => rfl
  | l + 1 => by rw [← Nat.add_assoc, bitWords_succ, h _ (by omega), bitWords_none m k h l]; rfl
theorem bitWords_len (m k : Nat) : (bitWords m k).length ≤ k := by
  unfold bitWords
  rw [List.length_map]
  exact Nat.le_trans (List.length_filter_le _ _) (by simp)
theorem last_get {α : Type} (H : List α) (o : α) : (H ++ [o])[H.length]? = some o := by simp
theorem last_set {α : Type} (H : List α) (o o' : α) : (H ++ [o]).set H.length o' = H ++ [o'] := by simp
theorem last_take {α : Type} (H : List α) (o : α) : (H ++ [o]).take H.length = H := by simp
theorem OPL.flagGet {p : Params} {G : Base} {n : Nat} {F : Fm} {a : AS} {P : AV → AS → Prop} (X : Facts p G) {k : Nat} (hk : k < 32) (hP : P (.dat (.str (wordOf k))) a) :
    OPL G n F a (fun cvs => PySem.call (Value.builtin "dict.get") cvs) [.con (.ref 106), .dat (.int ((2 ^ k : Nat) : Int)), .dat (.str (baseText "0x" 16 ((2 ^ k : Nat) : Int)))] P := by
  refine ⟨fun A prv φ s Q cxs hA R V hQ => ?_⟩
  obtain _ | ⟨V1, V2⟩ := V
  obtain _ | ⟨V2, V3⟩ := V2
  obtain _ | ⟨V3, V4⟩ := V3
  cases V4; cases V2; cases V3; cases V1
  obtain ⟨o, es, ep, ho, he, hd, h1, h2⟩ := flag_map X
  have M : s.heap.MapOf (intKind G.prog G.w) 106 (fun k => findBy Value.isInt (flagEs p) k) := ⟨o, es, ep, R.base _ _ ho, he, hd, h1, h2⟩
  have hsys : ((106 : Addr) == sysModules) = false := by decide
  refine call_meetsIn PySem.F.slot_dict_get M.typeIs PySem.F.entry_dict_get (PySem.F.args_dict_get_3 _ _ _) (meets_dict_get_default (intKind G.prog G.w) 106 (k := ((2 ^ k : Nat) : Int)) (by simp [intKind, Value.isInt]) hsys _) ⟨_, M, ?_⟩
  have hw := List.all_eq_true.mp (flag_words p) k (List.mem_range.mpr hk)
  unfold flagOk at hw
  split at hw
  · rename_i x t q
    simp only [q, Option.getD_some]
    have := eq_of_beq hw
    subst this
    exact hQ.now R hP (.str _ _) _
  · rename_i q
    simp only [q, Option.getD_none]
    have := eq_of_beq hw
    rw [← this] at hP
    exact hQ.now R hP (.str _ _) _
  · cases hw

/-- what pretty_flags gives -/
def flagText (m : Nat) : PySem.Str := Txt.join ", " (if m = 0 then [baseText "0x" 16 0] else bitWords m 32)

theorem bAnd (x y : Nat) : Builtin.bitAnd (x : Int) (y : Int) = ((x &&& y : Nat) : Int) := by
  unfold Builtin.bitAnd
  simp only [show (0 : Int) ≤ x from Int.natCast_nonneg x, show (0 : Int) ≤ y from Int.natCast_nonneg y, decide_true, Int.toNat_natCast]
theorem word_len {k : Nat} (h : k < 32) : (wordOf k).length ≤ 100 := by
  have : (List.range 32).all (fun k => decide ((wordOf k).length ≤ 100)) = true := by decide +kernel
  have := List.all_eq_true.mp this k (List.mem_range.mpr h)
  exact of_decide_eq_true this
theorem words_sum (m : Nat) : ∀ k, k ≤ 32 → ((bitWords m k).map (·.length)).sum ≤ 100 * k
  | 0, _ => by simp [bitWords]
  | k + 1, h => by
    have := words_sum m k (by omega)
    have h2 := word_len (k := k) (by omega)
    rw [bitWords_succ]
    split
    · rw [List.map_append, List.sum_append]; simp; omega
    · omega

theorem pretty_flags (X : Facts p G) {m : Nat} (hm : m < 2 ^ 32) (H : List AObj) : CALL G (n + 1) (.ref 113) [.dat (.int m)] H fun v H' => v = .dat (.str (flagText m)) ∧ H' = H := by
  refine CALL.body (vars := [("flags", .dat (.int m))]) X.flags X.toOk (body_in rfl) (bind_of ["flags"] (fun vs h => ?_) ?_ ?_ rfl rfl) (all_ne_cell rfl) fun L => ?_
  · match vs, h with
    | [v], _ => kernel_rfl
  · decide
  · intro x hx; rw [List.mem_singleton] at hx; subst hx; rfl
  refine EX.set (.inl rfl) (EV.list (EVs.nil ⟨[], rfl, by decide, .inr ?_⟩))
  refine EX.for_ (EV.tfn X rfl rfl (EVs.one (EV.int (OPL.range1 ?_))))
  refine ⟨_, .rng 0 32 _ (by decide) (by decide) (by decide) (by decide), fun k a => ∃ vars, a = ⟨vars, H ++ [.list ((bitWords m k).map .str)], []⟩ ∧ SubA [("flags", .dat (.int (hi m k))), ("names", .ref H.length)] vars ∧ (m ≠ 0 → hi m k ≠ 0), ?_, ?_, ?_⟩
  · exact ⟨_, rfl, SubA.cons (by rw [hi_zero]; rfl) (SubA.cons rfl .nil), by rw [hi_zero]; exact id⟩
  · rintro k d a2 hd ⟨vars, rfl, hv, hne⟩
    have hk : k < 32 := by
      have := (List.getElem?_eq_some_iff.mp hd).1
      simpa using this
    have hd' : d = .int k := by
      rw [List.getElem?_map, List.getElem?_range (by simpa using hk)] at hd
      simpa using hd.symm
    subst hd'
    refine ASG.name (.inl rfl) (EX.names _ (SubA.put hv) ?_)
    refine EX.set (.inl rfl) (EV.bop (EV.int (EV.var rfl (OP2.shl (by decide) (by omega) (by omega) ?_))))
    have e1 : (1 : Int) * 2 ^ (k : Int).toNat = ((2 ^ k : Nat) : Int) := by simp
    rw [e1]
    refine EX.iff (BT.plain (EV.bop (EV.var rfl (EV.var rfl (OP2.and ⟨_, rfl, fun q => ?_, fun q => ?_⟩)))))
    all_goals rw [bAnd, hi_and] at q
    · have hb : m.testBit k = true := by
        cases z : m.testBit k with
        | true => rfl
        | false => rw [z] at q; simp at q
      refine EX.expr (EV.meth PySem.F.plainAttrs_list PySem.F.slot_list_append PySem.F.type_list_append (EV.var rfl ⟨.inl ⟨_, last_get _ _, rfl⟩, EVs.one ?_⟩))
      refine EV.methB PySem.F.plainAttrs_dict PySem.F.slot_dict_get PySem.F.type_dict_get (fun s hb => ?_) (EV.glob X rfl rfl ⟨rfl, EVs.two (EV.var rfl (EV.bfn X rfl rfl (EVs.one (EV.var rfl (OPL.hex ?_ ?_)))))⟩)
      · obtain ⟨o, es, ep, ho, he, hd, h1, h2⟩ := flag_map X
        exact ⟨⟨o, hb _ _ ho, he.1⟩, fun b e => by cases e; exact ⟨o, hb _ _ ho, he.2.1⟩⟩
      · have := of_decide_eq_true (List.all_eq_true.mp hex_len k (List.mem_range.mpr hk))
        omega
      refine OPL.flagGet X hk (OPL.append (last_get _ _) (by have := bitWords_len m k; simp; omega) ?_)
      rw [last_set]
      refine EX.aug (.inl rfl) rfl (EV.var rfl (OP2.ixor ?_))
      have e2 : Builtin.bitXor ((hi m k : Nat) : Int) ((2 ^ k : Nat) : Int) = ((hi m (k + 1) : Nat) : Int) := by
        rw [bitXor_and, bAnd, hi_and, hi_succ, hb, if_pos rfl, if_pos rfl]
        have := hi_le m k hb
        omega
      have e3 : (bitWords m k).map DV.str ++ [.str (wordOf k)] = (bitWords m (k + 1)).map DV.str := by rw [bitWords_succ, hb]; simp
      rw [e2, e3]
      refine EX.iff (BT.not (BT.plain (EV.var rfl ⟨_, rfl, fun q => ?_, fun q => ?_⟩)))
      · have h0 : hi m (k + 1) = 0 := by simpa using q
        have hm0 : m ≠ 0 := fun z => by rw [z] at hb; simp at hb
        have hw : bitWords m (k + 1) = bitWords m 32 := by
          have := bitWords_none m (k + 1) (hi_none m (k + 1) h0) (32 - (k + 1))
          rw [show k + 1 + (32 - (k + 1)) = 32 by omega] at this
          exact this.symm
        rw [hw]
        refine EX.brk (EX.ret (EV.meth PySem.F.plainAttrs_str PySem.F.slot_str_join PySem.F.type_str_join (EV.str ⟨rfl, EVs.one (EV.var rfl (OPL.join (.inr ⟨_, rfl, last_get _ _⟩) ?_ ?_))⟩)))
        · have h1 := words_sum m 32 (by omega)
          have h2 := bitWords_len m 32
          have h3 : (", " : PySem.Str).length = 2 := rfl
          rw [h3]; omega
        · exact ⟨rfl, by rw [flagText, if_neg hm0]; rfl, last_take _ _⟩
      · have h0 : hi m (k + 1) ≠ 0 := by simpa using q
        refine EX.nilA (EX.nilA (EX.nil ?_))
        exact ⟨_, rfl, SubA.cons rfl (SubA.cons rfl .nil), fun _ => h0⟩
    · have hb : m.testBit k = false := by
        cases z : m.testBit k with
        | false => rfl
        | true => rw [z, if_pos rfl] at q; have h2 := Nat.two_pow_pos k; generalize 2 ^ k = w at q h2; simp at q; omega
      refine EX.nilA (EX.nil ?_)
      refine ⟨_, by rw [bitWords_succ, hb]; rfl, ?_, ?_⟩
      · rw [hi_succ, hb]
        exact SubA.cons rfl (SubA.cons rfl .nil)
      · rw [hi_succ, hb]; exact hne
  · rintro N a2 hN ⟨vars, rfl, hv, hne⟩
    have hN : N = 32 := by rw [← hN]; simp
    subst hN
    have h0 : hi m 32 = 0 := hi_end m 32 hm
    have hm0 : m = 0 := by
      by_cases z : m = 0
      · exact z
      · exact absurd h0 (hne z)
    subst hm0
    rw [h0] at hv
    refine EX.names _ hv ?_
    refine EX.expr (EV.meth PySem.F.plainAttrs_list PySem.F.slot_list_append PySem.F.type_list_append (EV.var rfl ⟨.inl ⟨_, last_get _ _, rfl⟩, EVs.one (EV.bfn X rfl rfl (EVs.one (EV.var rfl (OPL.hex (by decide +kernel) ?_))))⟩))
    refine OPL.append (last_get _ _) (by have := bitWords_len 0 32; simp; omega) ?_
    rw [last_set]
    have e : (bitWords 0 32).map DV.str ++ [.str (baseText "0x" 16 ((0 : Nat) : Int))] = [baseText "0x" 16 0].map DV.str := by
      rw [show bitWords 0 32 = [] by simp [bitWords]]; rfl
    rw [e]
    refine EX.nilA (EX.ret (EV.meth PySem.F.plainAttrs_str PySem.F.slot_str_join PySem.F.type_str_join (EV.str ⟨rfl, EVs.one (EV.var rfl (OPL.join (.inr ⟨_, rfl, last_get _ _⟩) (by decide +kernel) ?_))⟩)))
    exact ⟨rfl, rfl, last_take _ _⟩
end
end Mine

namespace Mine
theorem binds_peek {K : Frag} {s : Shared} {fd : FuncData} {args : Args} {binds : List (PySem.Str × Value)} (X : K.In s.heap) (e : ∀ S, peek K S (bindArgs fd args) = some binds) : BindsTo s fd args binds :=
  fun _ _ _ _ hq => Looks.here (Looks.of_peek X (e _)) hq
/-! ## bisect_left, insort_left -/
def bisF (xs : List Int) (x : Int) : Nat → Nat → Nat → Nat
  | 0, lo, _ => lo
  | f + 1, lo, hi => if lo < hi then (if xs.getD ((lo + hi) / 2) 0 < x then bisF xs x f ((lo + hi) / 2 + 1) hi else bisF xs x f lo ((lo + hi) / 2)) else lo
def bis (xs : List Int) (x : Int) : Nat := bisF xs x xs.length 0 xs.length
theorem bisF_stop (xs : List Int) (x : Int) (f lo hi : Nat) (h : ¬ lo < hi) : bisF xs x f lo hi = lo := by
  cases f with
  | zero => rfl
  | succ f => rw [bisF, if_neg h]

theorem rel_kin {p : Params} {G : Base} (X : Facts p G) {h : Heap} (hb : ∀ b o, G.B.get? b = some o → h.get? b = some o) : (lawK p).In h := fun a o e => hb a o (X.KX a o e)
section
variable {p : Params} {G : Base} {n : Nat}
theorem bis_vars (X : Facts p G) {args : List AV} {f2 : Bool} {A Xv : AV} (hargs : args = if f2 then [A, Xv] else [A, Xv, .dat (.int 0), .dat .none]) :
    ∀ (s : Shared) (φ : List Addr) (W : Addr → Prop) (cargs : List Value), (∀ b o, G.B.get? b = some o → s.heap.get? b = some o) → AVRs G none φ s.heap W args cargs →
      ∃ binds, BindsTo s (fdBis p) ⟨cargs, []⟩ binds ∧ (binds.map (·.1)).Nodup ∧ (∀ x ∈ binds, (fdBis p).scope.names.lookup x.1 = some .local) ∧ BindRel G φ s.heap W binds [("a", A), ("x", Xv), ("lo", .dat (.int 0)), ("hi", .dat .none), ("key", .dat .none)] := by
  intro s φ W cargs hb V
  have KX := rel_kin X hb
  have loc : ∀ va vx vl : Value, ∀ y ∈ [(("a" : PySem.Str), va), ("x", vx), ("lo", vl), ("hi", Value.none), ("key", Value.none)], (fdBis p).scope.names.lookup y.1 = some .local := by
    intro va vx vl y hy
    simp only [List.mem_cons, List.not_mem_nil, or_false] at hy
    rcases hy with rfl | rfl | rfl | rfl | rfl <;> kernel_rfl
  have nd : (["a", "x", "lo", "hi", "key"] : List PySem.Str).Nodup := by decide
  cases f2 with
  | true =>
    subst hargs
    obtain _ | ⟨V1, V2⟩ := V
    obtain _ | ⟨V2, V3⟩ := V2
    cases V3
    exact ⟨[("a", _), ("x", _), ("lo", .int 0 312), ("hi", .none), ("key", .none)], binds_peek KX (fun S => by kernel_rfl), nd, loc _ _ _, .cons V1 (.cons V2 (.cons (.int _ _) (.cons .none (.cons .none .nil))))⟩
  | false =>
    subst hargs
    obtain _ | ⟨V1, V2⟩ := V
    obtain _ | ⟨V2, V3⟩ := V2
    obtain _ | ⟨V3, V4⟩ := V3
    obtain _ | ⟨V4, V5⟩ := V4
    cases V5
    cases V3 with | int _ t3 =>
    cases V4
    exact ⟨[("a", _), ("x", _), ("lo", .int 0 t3), ("hi", .none), ("key", .none)], binds_peek KX (fun S => by kernel_rfl), nd, loc _ _ _, .cons V1 (.cons V2 (.cons (.int _ _) (.cons .none (.cons .none .nil))))⟩

theorem bisect_left (X : Facts p G) (f2 : Bool) {A : AV} {xs : List Int} {x : Int} {H : List AObj} (L : LsOf ⟨[], H, []⟩ A (xs.map .int)) (hl : xs.length ≤ 10000) :
    CALL G (n + 1) (.ref 105) (if f2 then [A, .dat (.int x)] else [A, .dat (.int x), .dat (.int 0), .dat .none]) H fun v H' => v = .dat (.int (bis xs x)) ∧ H' = H := by
  refine CALL.body X.bis X.toOk (body_in rfl) (bis_vars X (f2 := f2) (A := A) (Xv := .dat (.int x)) rfl) (all_ne_cell rfl) fun L' => ?_
  refine EX.iff (BT.cmp (EV.var rfl (EV.int (OP2.lt ⟨_, rfl, fun q => ?_, fun q => ?_⟩))))
  · exact absurd q (by decide)
  refine EX.nilA (EX.iff (BT.cmp (EV.var rfl (EV.none (OP2.isNone ⟨_, rfl, fun q => ?_, fun q => ?_⟩)))))
  · refine EX.set (.inl rfl) (EV.bfn X rfl rfl (EVs.one (EV.var rfl (OPL.lenL L (by simp; omega) ?_))))
    rw [List.length_map]
    refine EX.nilA (EX.iff (BT.cmp (EV.var rfl (EV.none (OP2.isNone ⟨_, rfl, fun q => ?_, fun q => ?_⟩)))))
    · refine EX.while_ (fun k a => ∃ (lo hi : Nat) (vars : List (PySem.Str × AV)), a = ⟨vars, H, []⟩ ∧ SubA [("a", A), ("x", .dat (.int x)), ("lo", .dat (.int lo)), ("hi", .dat (.int hi))] vars ∧ hi - lo ≤ k ∧ hi ≤ xs.length ∧ bisF xs x k lo hi = bis xs x) (m := xs.length) ?_ ?_
      · exact ⟨0, xs.length, _, rfl, SubA.cons rfl (SubA.cons rfl (SubA.cons rfl (SubA.cons rfl .nil))), Nat.le_refl _, Nat.le_refl _, rfl⟩
      · rintro k a2 ⟨lo, hi, vars, rfl, hv, h1, h2, h3⟩
        refine BT.cmp (EV.var (hv _ _ rfl) (EV.var (hv _ _ rfl) (OP2.lt ⟨_, rfl, fun q => ?_, fun q => ?_⟩)))
        · have q : lo < hi := by have := of_decide_eq_true q; omega
          obtain ⟨k, rfl⟩ : ∃ k', k = k' + 1 := ⟨k - 1, by omega⟩
          refine EX.names _ hv ?_
          refine EX.set (.inl rfl) (EV.bop (EV.bop (EV.var rfl (EV.var rfl (OP2.add (EV.int (OP2.fdiv (by decide) (by decide) ?_)))))))
          have em : Int.fdiv ((lo : Int) + (hi : Int)) 2 = (((lo + hi) / 2 : Nat) : Int) := by rw [Int.fdiv_eq_ediv_of_nonneg _ (by decide)]; omega
          rw [em]
          have hm : (lo + hi) / 2 < xs.length := by omega
          rw [bisF, if_pos q] at h3
          refine EX.iff (BT.cmp (EV.sub (EV.var rfl (EV.var rfl (OP2.itemL (d := .int (xs.getD ((lo + hi) / 2) 0)) L (by omega) (by omega) ?_ (EV.var rfl (OP2.lt ⟨_, rfl, fun q' => ?_, fun q' => ?_⟩)))))))
          · rw [Int.toNat_natCast, List.getElem?_map, getD_some hm 0]; rfl
          · have q' := of_decide_eq_true q'
            rw [if_pos q'] at h3
            refine EX.set (.inl rfl) (EV.bop (EV.var rfl (EV.int (OP2.add (EX.nilA (EX.nil ?_))))))
            exact ⟨k, Nat.lt_succ_self k, (lo + hi) / 2 + 1, hi, _, rfl, SubA.cons rfl (SubA.cons rfl (SubA.cons rfl (SubA.cons rfl .nil))), by omega, h2, h3⟩
          · have q' := of_decide_eq_false q'
            rw [if_neg q'] at h3
            refine EX.set (.inl rfl) (EV.var rfl (EX.nilA (EX.nil ?_)))
            exact ⟨k, Nat.lt_succ_self k, lo, (lo + hi) / 2, _, rfl, SubA.cons rfl (SubA.cons rfl (SubA.cons rfl (SubA.cons rfl .nil))), by omega, by omega, h3⟩
        · have q : ¬ lo < hi := by have := of_decide_eq_false q; omega
          rw [bisF_stop _ _ _ _ _ q] at h3
          refine EX.nilA (EX.nilA (EX.ret (EV.var (hv _ _ rfl) ?_)))
          exact ⟨rfl, by rw [← h3]; rfl, List.take_length⟩
    · cases q
  · cases q

/-- put in its place -/
def ins (xs : List Int) (x : Int) : List Int := xs.take (bis xs x) ++ x :: xs.drop (bis xs x)
theorem ins_vars (X : Facts p G) {A Xv : AV} :
    ∀ (s : Shared) (φ : List Addr) (W : Addr → Prop) (cargs : List Value), (∀ b o, G.B.get? b = some o → s.heap.get? b = some o) → AVRs G none φ s.heap W [A, Xv] cargs →
      ∃ binds, BindsTo s (fdIns p) ⟨cargs, []⟩ binds ∧ (binds.map (·.1)).Nodup ∧ (∀ x ∈ binds, (fdIns p).scope.names.lookup x.1 = some .local) ∧ BindRel G φ s.heap W binds [("a", A), ("x", Xv), ("lo", .dat (.int 0)), ("hi", .dat .none), ("key", .dat .none)] := by
  intro s φ W cargs hb V
  have KX := rel_kin X hb
  have loc : ∀ va vx vl : Value, ∀ y ∈ [(("a" : PySem.Str), va), ("x", vx), ("lo", vl), ("hi", Value.none), ("key", Value.none)], (fdIns p).scope.names.lookup y.1 = some .local := by
    intro va vx vl y hy
    simp only [List.mem_cons, List.not_mem_nil, or_false] at hy
    rcases hy with rfl | rfl | rfl | rfl | rfl <;> kernel_rfl
  have nd : (["a", "x", "lo", "hi", "key"] : List PySem.Str).Nodup := by decide
  obtain _ | ⟨V1, V2⟩ := V
  obtain _ | ⟨V2, V3⟩ := V2
  cases V3
  exact ⟨[("a", _), ("x", _), ("lo", .int 0 299), ("hi", .none), ("key", .none)], binds_peek KX (fun S => by kernel_rfl), nd, loc _ _ _, .cons V1 (.cons V2 (.cons (.int _ _) (.cons .none (.cons .none .nil))))⟩
theorem bis_le (xs : List Int) (x : Int) : bis xs x ≤ xs.length := by
  have : ∀ f lo hi, lo ≤ hi → hi ≤ xs.length → bisF xs x f lo hi ≤ xs.length := by
    intro f
    induction f with
    | zero => intro lo hi h1 h2; exact Nat.le_trans h1 h2
    | succ f ih =>
      intro lo hi h1 h2
      rw [bisF]
      split
      · split
        · exact ih _ _ (by omega) h2
        · exact ih _ _ (by omega) (by omega)
      · omega
  exact this _ _ _ (Nat.zero_le _) (Nat.le_refl _)
theorem insort_left (X : Facts p G) {i : Nat} {xs : List Int} {x : Int} {H : List AObj} (h0 : H[i]? = some (.list (xs.map .int))) (hl : xs.length ≤ 9000) :
    CALL G (n + 2) (.ref 96) [.ref i, .dat (.int x)] H fun v H' => v = .dat .none ∧ H' = H.set i (.list ((ins xs x).map .int)) := by
  refine CALL.body X.ins X.toOk (body_in rfl) (ins_vars X (A := .ref i) (Xv := .dat (.int x))) (all_ne_cell rfl) fun L' => ?_
  refine EX.iff (BT.cmp (EV.var rfl (EV.none (OP2.isNone ⟨_, rfl, fun q => ?_, fun q => ?_⟩))))
  · refine EX.set (.inl rfl) (EV.dfn X rfl rfl X.bis (EVs.cons (EV.var rfl (EVs.three (EV.var rfl (EV.var rfl (EV.var rfl ⟨rfl, (bisect_left X false (.inr ⟨i, rfl, h0⟩) (by omega)).mono ?_⟩)))))))
    rintro v H' ⟨rfl, rfl⟩
    have hb := bis_le xs x
    refine EX.nilA (EX.expr (EV.meth PySem.F.plainAttrs_list PySem.F.slot_list_insert PySem.F.type_list_insert (EV.var rfl ⟨.inl ⟨_, h0, rfl⟩, EVs.two (EV.var rfl (EV.var rfl (OPL.insert h0 (by simp; omega) (by omega) (by omega) (EX.nil ?_))))⟩)))
    refine ⟨rfl, rfl, ?_⟩
    show List.take H'.length (H'.set i _) = _
    rw [List.take_of_length_le (by simp)]
    congr 2
    unfold ins
    simp
  · cases q
end
end Mine

namespace Mine
theorem tcall_weight (C : Addr) (rest : List Value) : (Code.builtin "type.__call__" ⟨.ref C :: rest, []⟩).weight = 1 := by kernel_rfl
theorem tcall_units (C : Addr) (rest : List Value) : (Code.builtin "type.__call__" ⟨.ref C :: rest, []⟩).cUnits ≤ 3 := by
  have : (Code.builtin "type.__call__" ⟨.ref C :: rest, []⟩).cUnits = (Code.builtin "type.__call__" ⟨[], []⟩).cUnits := by kernel_rfl
  rw [this]; decide +kernel
theorem AOk.under {n : Nat} {A : Around} (h : AOk (n + 2) A) (C : Addr) (rest : List Value) : AOk (n + 1) (A.under (.builtin "type.__call__" ⟨.ref C :: rest, []⟩)) where
  hh := h.hh
  dep := by have := h.dep; show A.depth + (Code.builtin "type.__call__" ⟨.ref C :: rest, []⟩).weight + 4 * (n + 1) + 8 < _; rw [tcall_weight]; omega
  un := by have := h.un; have := tcall_units C rest; show A.units + (Code.builtin "type.__call__" ⟨.ref C :: rest, []⟩).cUnits + 40 * (n + 1) + 200 < _; omega

/-- the frame of the maker -/
def fmInit (fd : FuncData) (L fa x dx : Addr) (k : Nat) : Fm :=
  { sc := fd.scope, L := L, cl := [], qual := fd.qualname ++ ".<locals>.", func := some fa, code := fd.code, frame := some L, own := [L, x, dx], slf := some (x, dx), n₀ := k }
theorem fmInit_env {fd : FuncData} (hg : fd.globals = mainGlobals) (hc : fd.closure = []) (hb : fd.builtins = builtinsNs) (L fa x dx : Addr) (k : Nat) : (fmInit fd L fa x dx k).env = callEnv fd L fa := by
  unfold Fm.env fmInit callEnv newEnv
  simp only [hg, hc, hb]

section
variable {p : Params} {G : Base} {n : Nat}
theorem cls_makes (p : Params) : makesIn (lawK p) 83 = true := by kernel_rfl
theorem cls_init (p : Params) : findIn (lawK p) (.ref 83) "__init__" = some (some (.ref 38)) := by kernel_rfl
theorem cls_initF (p : Params) : typeIn (lawK p) (.ref 38) = some (.type "function") := by kernel_rfl
theorem cls_keep (p : Params) : keepIn (lawK p) (.ref 83) = true := by kernel_rfl
theorem keep_cls (X : Facts p G) : KeepOk G (.ref 83) := fun h hb => keeps_K (cls_keep p) h (rel_kin X hb)

theorem CALL.make (X : Facts p G) {ws : PySem.Str} {H : List AObj} {P : AV → List AObj → Prop}
    (h : ∀ L x dx, EX G n (fmInit (fdInit p) L 38 x dx H.length) ⟨[("self", .slf), ("ws", .dat (.str ws))], H, []⟩ (bodyIn (fdInit p)) fun f a' => f = .next ∧ P (.inst a'.slf) (a'.heap.take H.length)) : CALL G (n + 2) (.ref 83) [.dat (.str ws)] H P := by
  intro A pr φ s cargs R hA HR V hR
  obtain _ | ⟨V1, V2⟩ := V
  cases V2
  cases V1 with | str _ t =>
  obtain ⟨hh, g, d, tk, os⟩ := s
  have KX := rel_kin X HR.base
  refine make_core (makes_of KX (cls_makes p)) (looks_findIn KX (cls_init p)) (fun self => bind_fn KX self (cls_initF p)) (.inl rfl) ?_
  have hCC : G.C = 83 := X.cls
  generalize hA2 : A.under (.builtin "type.__call__" ⟨.ref 83 :: [.str ws t], []⟩) = A2
  have hA2' : AOk (n + 1) A2 := hA2 ▸ hA.under 83 _
  -- the new thing
  have hp1 : ∀ b o, hh.get? b = some o → ((hh.push emptyDict).push (instObj 83 hh.objs.size)).get? b = some o := fun b o e => Heap.get?_push_of_some _ (Heap.get?_push_of_some _ e)
  have hdx : ((hh.push emptyDict).push (instObj 83 hh.objs.size)).get? hh.objs.size = some emptyDict := Heap.get?_push_of_some _ (Heap.get?_push_size _ rfl)
  have hx : ((hh.push emptyDict).push (instObj 83 hh.objs.size)).get? (hh.objs.size + 1) = some (instObj 83 hh.objs.size) := by
    have := Heap.get?_push_size (o := instObj 83 hh.objs.size) (hh.push emptyDict) rfl
    rwa [Heap.size_push] at this
  have hsz : ((hh.push emptyDict).push (instObj 83 hh.objs.size)).objs.size = hh.objs.size + 2 := by rw [Heap.size_push, Heap.size_push]
  generalize hh2 : (hh.push emptyDict).push (instObj 83 hh.objs.size) = h2 at hp1 hdx hx hsz ⊢
  have none_of : ∀ b : Nat, hh.objs.size ≤ b → hh.get? b = Option.none := fun b hb => by
    cases q : hh.get? b with
    | none => rfl
    | some o => have := ltS q; omega
  obtain ⟨o, ho, hdat⟩ := X.init.at_
  refine codeAny_call_def (fd := fdInit p) (binds := [("self", .ref (hh.objs.size + 1)), ("ws", .str ws t)]) (s := ⟨h2, g, d, tk, os⟩) (Nat.lt_of_le_of_lt (by omega) hA2'.dep) (hp1 _ _ (HR.base _ _ ho)) hdat (X.lim.keeps fun b o e => hp1 b o (HR.base b o e)) (X.init.code.keeps fun b o e => hp1 b o (HR.base b o e)) (body_in rfl) (.of_eq (by kernel_rfl)) (all_ne_cell (by kernel_rfl)) (fun y hy => ?_) (fun h₀ hns hk => ?_) X.init.co X.init.gen X.init.fn
  · simp only [List.mem_cons, List.not_mem_nil, or_false] at hy
    rcases hy with rfl | rfl <;> kernel_rfl
  show wpAny _ _ (execs (bodyIn (fdInit p)) (callEnv (fdInit p) h2.objs.size 38)) _ _ _
  have hk2 : ∀ b o, hh.get? b = some o → h₀.get? b = some o := fun b o e => hk b o (hp1 b o e)
  have hdx' := hk _ _ hdx
  have hx' := hk _ _ hx
  change h₀.Ns h2.objs.size _ at hns
  rw [hsz] at hns ⊢
  rw [← fmInit_env X.init.glob X.init.clo X.init.blt (hh.objs.size + 2) 38 (hh.objs.size + 1) hh.objs.size H.length]
  have mo : ∀ b, b ∈ (fmInit (fdInit p) (hh.objs.size + 2) 38 (hh.objs.size + 1) hh.objs.size H.length).own ↔ b = hh.objs.size + 2 ∨ b = hh.objs.size + 1 ∨ b = hh.objs.size := fun b => by simp [fmInit]
  have mge : ∀ b : Nat, b ∈ (fmInit (fdInit p) (hh.objs.size + 2) 38 (hh.objs.size + 1) hh.objs.size H.length).own → hh.get? b = Option.none := fun b hb => none_of b (by
    rcases (mo b).mp hb with q | q | q
    · have q : (b : Nat) = hh.objs.size + 2 := q
      omega
    · have q : (b : Nat) = hh.objs.size + 1 := q
      omega
    · have q : (b : Nat) = hh.objs.size := q
      omega)
  generalize hF : fmInit (fdInit p) (hh.objs.size + 2) 38 (hh.objs.size + 1) hh.objs.size H.length = F at mo mge ⊢
  have FL : F.L = hh.objs.size + 2 := by rw [← hF]; rfl
  have Fslf : F.slf = some (hh.objs.size + 1, hh.objs.size) := by rw [← hF]; rfl
  have Fn : F.n₀ = H.length := by rw [← hF]; rfl
  have Fcl : F.cl = [] := by rw [← hF]; rfl
  have Fsc : F.sc = (fdInit p).scope := by rw [← hF]; rfl
  have HR₀ : HRel G (Pv F pr) φ H h₀ := by
    refine HR.widen hk2 (fun b hb => .inr hb) (fun b hb => ?_) (fun b hb => ?_)
    · rcases hb with hb | hb
      · exact .inr (mge b hb)
      · exact .inl hb
    · rcases hb with hb | hb
      · rcases (mo b).mp hb with rfl | rfl | rfl
        · obtain ⟨o, _, _, e, _⟩ := hns; exact ⟨o, e⟩
        · exact ⟨_, hx'⟩
        · exact ⟨_, hdx'⟩
      · obtain ⟨o, e⟩ := HR.pex b hb; exact ⟨o, hk2 _ _ e⟩
  have ne1 : ¬ ((hh.objs.size + 1 : Nat) = hh.objs.size) := by omega
  have ne2 : ¬ ((hh.objs.size + 1 : Nat) = hh.objs.size + 2) := by omega
  have ne3 : ¬ ((hh.objs.size : Nat) = hh.objs.size + 2) := by omega
  have R₀ : Rel G F pr φ ⟨[("self", .slf), ("ws", .dat (.str ws))], H, []⟩ h₀ := by
    refine ⟨by rw [Fsc]; exact X.init.fn, HR₀, fun b hb q => ?_, by rw [FL]; exact (mo _).mpr (.inl rfl), fun x c e => (by rw [Fcl] at e; cases e), fun x y c e => (by rw [Fcl] at e; cases e), by rw [Fn]; show H.length ≤ φ.length; rw [HR.len]; exact Nat.le_refl _, ⟨_, by rw [FL]; exact hns, fun x v e => ?_⟩, fun x dx e => ?_⟩
    · obtain ⟨o, e⟩ := HR.pex _ q; rw [mge b hb] at e; cases e
    · unfold VarAt
      rw [Fsc, Fslf]
      rw [List.lookup_cons] at e
      cases q : x == ("self" : PySem.Str) with
      | true =>
        rw [q] at e; cases e
        have : x = "self" := eq_of_beq q
        subst this
        exact ⟨.ref (hh.objs.size + 1), ⟨_, rfl, rfl⟩, .inl ⟨by kernel_rfl, by kernel_rfl⟩⟩
      | false =>
        rw [q] at e
        rw [List.lookup_cons] at e
        cases q2 : x == ("ws" : PySem.Str) with
        | true =>
          rw [q2] at e; cases e
          have : x = "ws" := eq_of_beq q2
          subst this
          exact ⟨.str ws t, .str ws t, .inl ⟨by kernel_rfl, by kernel_rfl⟩⟩
        | false => rw [q2] at e; cases e
    · rw [Fslf] at e; cases e
      refine ⟨(mo _).mpr (.inr (.inl rfl)), (mo _).mpr (.inr (.inr rfl)), ne1, by rw [FL]; exact ne2, by rw [FL]; exact ne3, fun y c e => (by rw [Fcl] at e; cases e), [], 0, by rw [hCC]; exact hx', hdx', .nil, by simp⟩
  subst hF
  refine noE ((h _ _ _).go _ pr φ _ _ (hA2'.deeper _) R₀ fun f a' φ' cf s' hp R' V' E' S' => ?_)
  obtain ⟨rfl, hp2⟩ := hp
  have : cf = .next := V'
  subst this
  obtain ⟨HR', hw'⟩ := R'.hr.pop H.length
  have hlen : φ.length = H.length := HR.len
  have HR'' : HRel G pr (φ'.take H.length) (a'.heap.take H.length) s'.heap := HR'.narrow fun b hb => .inr hb
  have hWW : ∀ b, Wp pr (φ'.take H.length) (a'.heap.take H.length) b → Wf (fmInit (fdInit p) (hh.objs.size + 2) 38 (hh.objs.size + 1) hh.objs.size H.length) pr φ' a'.heap b := fun b hb => hb.elim (fun q => .inl (.inr q)) fun q => .inr (hw' b q)
  have nown : ∀ b, b ∈ (fmInit (fdInit p) (hh.objs.size + 2) 38 (hh.objs.size + 1) hh.objs.size H.length).own → ¬ Wp pr (φ'.take H.length) (a'.heap.take H.length) b := fun b hb q => by
    rcases q with q | q
    · exact R'.own_prv b hb q
    · obtain ⟨i, o, h1, _, _⟩ := hw' b q
      exact R'.hr.nP b (List.mem_of_getElem? h1) (.inl hb)
  obtain ⟨s1, s2, _, _, _, _, I⟩ := R'.slf _ _ rfl
  refine ⟨rfl, hR (.inst a'.slf) _ _ _ s' hp2 HR'' ⟨_, _, rfl, I.ext (fun b o e hb => ⟨e, fun q => hb (hWW b q)⟩) (fun o e => e) (fun o e => e), nown _ s1, nown _ s2⟩ ?_ ((Same.mk' ⟨hh, g, d, tk, os⟩ h₀ _).trans S')⟩
  refine ⟨fun i hi => ?_, fun b o e _ h2 => ?_, fun b o e => E'.ex b o (hk2 b o e), fun b hb => ?_⟩
  · rw [List.getElem?_take, if_pos (hlen ▸ hi)]
    exact E'.pre i (hlen ▸ hi)
  · refine E'.step b o (hk2 b o e) (fun q => ?_) h2
    rw [mge b q] at e; cases e
  · rcases E'.wr b (hw' b hb) with q | q
    · exact .inl q
    · right
      cases z : hh.get? b with
      | none => rfl
      | some o => have : h₀.get? b = some o := hk2 b o z; rw [show (Shared.heap ⟨h₀, g, d, _, os⟩) = h₀ from rfl, this] at q; cases q
end
end Mine

namespace Mine
theorem plain83 (p : Params) (name : PySem.Str) : plainGet (lawK p) 83 name = true := by kernel_rfl
theorem dict83 (p : Params) : hasDictIn (lawK p) 83 = true := by kernel_rfl

theorem isStr_beq (x y : PySem.Str) (t : Tok) : (Value.str x t).isStr y = (x == y) := rfl
theorem fld_get {G : Base} {h : Heap} {W : Addr → Prop} {es : List DictEntry} {fs : List (PySem.Str × DV)} (r : FldRel G h W es fs) {name : PySem.Str} : (∀ d, fs.lookup name = some d → ∃ v, getL name es = some (some v) ∧ VR G.prog G.w h W v d) ∧ (fs.lookup name = none → getL name es = some none) := by
  have nr : es.any (·.refKey) = false := by
    induction r with
    | nil => rfl
    | cons _ _ ih => rw [List.any_cons, ih]; rfl
  unfold getL
  rw [nr]
  clear nr
  induction r with
  | nil => exact ⟨fun d e => (nomatch e), fun _ => rfl⟩
  | @cons hs x t v d es fs a _ ih =>
    rw [List.lookup_cons, List.find?_cons]
    show (∀ d', (match name == x with | true => some d | false => fs.lookup name) = some d' → _) ∧ _
    by_cases q : x = name
    · subst q
      simp only [isStr_beq, beq_self_eq_true]
      exact ⟨fun d' e => by cases e; exact ⟨v, rfl, a⟩, fun e => by cases e⟩
    · have q1 : (x == name) = false := by simpa using q
      have q2 : (name == x) = false := by simpa using fun z : name = x => q z.symm
      simp only [isStr_beq, q1, q2]
      exact ih
theorem vr_handed {prog : Program} {w : World} {h : Heap} {W : Addr → Prop} {v : Value} {d : DV} (r : VR prog w h W v d) : handedIn v = true := by cases r <;> rfl
theorem inst_at {p : Params} {G : Base} (X : Facts p G) {h : Heap} {x dx : Addr} {es : List DictEntry} {k : Nat} (h1 : h.get? x = some (instObj G.C dx)) (h2 : h.get? dx = some (dictOf es k)) : InstAt h x (instObj 83 dx) 83 (some (dictOf es k)) := by
  rw [X.cls] at h1
  exact ⟨h1, rfl, rfl, h2⟩

section
variable {p : Params} {G : Base} {n : Nat} {F : Fm} {a : AS} {P : AV → AS → Prop}

theorem get_fld (X : Facts p G) {A : Around} {s : Shared} {W : Addr → Prop} {x dx : Addr} {fs : List (PySem.Str × DV)} {name : PySem.Str} {d : DV} {expr : Bool} {Q : Value → Shared → Prop} (hb : ∀ b o, G.B.get? b = some o → s.heap.get? b = some o) (I : InstRel G s.heap W x dx fs)
    (hf : findIn (lawK p) (.ref 83) name = some none) (hl : fs.lookup name = some d) (hQ : ∀ v, VR G.prog G.w s.heap W v d → Q v { s with toks := s.toks + 1 }) : wpAny (model G.prog G.w) A (getAttr (.ref x) name expr) Q NoE s := by
  obtain ⟨es, k, h1, h2, h3, h4⟩ := I
  obtain ⟨v, g1, g2⟩ := (fld_get h3).1 d hl
  exact get_value (rel_kin X hb) (inst_at X h1 h2) (plainGet_of (plain83 p name)).1 (findObj_own (dict83 p) hf rfl g1) (vr_handed g2) (hQ v g2)

theorem attr_eval (x attr : PySem.Str) (xp pos : Pos) (env : Env) : eval (.Attribute (.Name x xp) attr pos) env = (do
      let o ← eval (.Name x xp) env
      standAt pos.atName
      let r ← holding [o] (getAttr o attr true)
      letTemporaryGo (.Name x xp) o r
      pure r) := by with_unfolding_all rfl

/-- a field of an object -/
theorem EV.attrI (X : Facts p G) {x attr : PySem.Str} {xp pos : Pos} (h : EV G n F a (.Name x xp) fun v a1 => ∃ fs d, v = .inst fs ∧ fs.lookup attr = some d ∧ P (.dat d) a1) (hf : findIn (lawK p) (.ref 83) attr = some Option.none := by kernel_rfl) :
    EV G n F a (.Attribute (.Name x xp) attr pos) P := by
  refine ⟨fun A prv φ s Q hA R hQ => ?_⟩
  refine Attribute_Name_ (h.go A prv φ s _ hA R fun v a1 φ1 cv s1 hv R1 V1 E1 S1 => ?_) (attr_eval ..)
  obtain ⟨fs, d, rfl, hl, hP⟩ := hv
  obtain ⟨x, dx, rfl, I, w1, w2⟩ := V1
  exact get_fld X R1.base I hf hl fun v V => (hQ.step E1 S1 E1.len).now R1 hP V _
theorem EV.attrS (X : Facts p G) {x attr : PySem.Str} {xp pos : Pos} (h : EV G n F a (.Name x xp) fun v a1 => ∃ d, v = .slf ∧ a1.slf.lookup attr = some d ∧ P (.dat d) a1) (hf : findIn (lawK p) (.ref 83) attr = some Option.none := by kernel_rfl) :
    EV G n F a (.Attribute (.Name x xp) attr pos) P := by
  refine ⟨fun A prv φ s Q hA R hQ => ?_⟩
  refine Attribute_Name_ (h.go A prv φ s _ hA R fun v a1 φ1 cv s1 hv R1 V1 E1 S1 => ?_) (attr_eval ..)
  obtain ⟨d, rfl, hl, hP⟩ := hv
  obtain ⟨⟨x, dx⟩, e, rfl⟩ := V1
  obtain ⟨_, _, _, _, _, _, I⟩ := R1.slf x dx e
  exact get_fld X R1.base I hf hl fun v V => (hQ.step E1 S1 E1.len).now R1 hP V _
/-- a constant of the class -/
theorem cls_reads (p : Params) : readsIn (lawK p) 83 (.type "type") = true := by kernel_rfl
theorem EV.attrC (X : Facts p G) {x attr : PySem.Str} {xp pos : Pos} {y : PySem.Str} {t : Tok} (h : EV G n F a (.Name x xp) fun v a1 => v = .con (.ref 83) ∧ P (.dat (.str y)) a1) (hf : findCls (lawK p) (.ref 83) (.type "type") attr = some (.val (.str y t))) :
    EV G n F a (.Attribute (.Name x xp) attr pos) P := by
  refine ⟨fun A prv φ s Q hA R hQ => ?_⟩
  refine Attribute_Name_ (h.go A prv φ s _ hA R fun v a1 φ1 cv s1 hv R1 V1 E1 S1 => ?_) (attr_eval ..)
  obtain ⟨rfl, hP⟩ := hv
  have : cv = .ref 83 := V1
  subst this
  exact cls_value (rel_kin X R1.base) (cls_reads p) hf rfl ((hQ.step E1 S1 E1.len).now R1 hP (.str _ _) _)

/-- a method of an object -/
theorem EV.methI (X : Facts p G) {o : Expr} {name : PySem.Str} {apos pos : Pos} {es : List Expr} {f : Addr} {fd : FuncData} (hf : findIn (lawK p) (.ref 83) name = some (some (.ref f))) (ht : typeIn (lawK p) (.ref f) = some (.type "function")) (hfn : FnAt G f fd)
    (h : EV G n F a o fun v a1 => ∃ fs, v = .inst fs ∧ fs.lookup name = Option.none ∧ EVs G n F a1 es fun vs a2 => vs.all AV.plain = true ∧ CALL G n (.ref f) (.inst fs :: vs) a2.heap fun r H' => P r { a2 with heap := H' })
    (he : ∀ env, ∃ pl : Sem Bool, eval (.Call (.Attribute o name apos) es [] pos) env = (do
      let ov ← eval o env
      standAt apos.atName
      let (f, first) ← holding [ov] (getMethod ov name pl)
      callWith pos f first (backTo pos (starEach es env)) (backToKw pos (keywordEach [] env))) := by exact fun env => ⟨_, rfl⟩)
    (hes : ∀ env pos, backTo pos (starEach es env) = plainArgs env es := by exact star_of rfl) : EV G n F a (.Call (.Attribute o name apos) es [] pos) P := by
  refine ⟨fun A prv φ s Q hA R hQ => ?_⟩
  obtain ⟨pl, he⟩ := he F.env
  refine methodCall_KW (pl := pl) (h.go A prv φ s _ hA R fun v a1 φ1 cv s1 hv R1 V1 E1 S1 => ?_) he
  obtain ⟨fs, rfl, hl, hargs⟩ := hv
  have V1' := V1
  obtain ⟨x, dx, rfl, I, w1, w2⟩ := V1
  obtain ⟨eS, k, h1, h2, h3, h4⟩ := I
  refine method_fn (rel_kin X R1.base) (inst_at X h1 h2) (plainGet_of (plain83 p name)).1 (plainGet_of (plain83 p name)).2 hf ht (by show (lookIn name (dictOf eS k)).map _ = _; rw [lookIn_dict, (fld_get h3).2 hl]; rfl) ?_
  show wpAny _ _ (callWith pos (.ref f) [.ref x] _ []) _ _ _
  refine callWith_of (P := fun h => ∀ b o, G.B.get? b = some o → h.get? b = some o) (argsTree hes F.env) (keep_fn hfn) ?_
  rw [hes]
  refine evalArgs_plainArgs (evs_sound hA es { a with heap := a1 } φ1 s1 _ _ hargs R1 fun vs a2 φ2 cvs s2 h2 R2 V2 E2 S2 => ?_)
  refine ⟨R2.base, wpAny_call ?_⟩
  show codeAny _ A (.call (.ref f) ⟨.ref x :: cvs, []⟩) _ s2
  refine h2.2 A (Pv F prv) φ2 s2 (.ref x :: cvs) _ hA R2.hr (.cons ((V1'.after E2 (Nat.le_refl _)).noslf (σ' := Option.none) rfl) (V2.noslf h2.1)) fun v H' φ' cv s' hp HR V E S => ?_
  exact ((hQ.step E1 S1 E1.len).step E2 S2 E2.len).called R2 hp HR V E S
end
end Mine

namespace Mine
section
variable {G : Base} {F : Fm} {prv : Addr → Prop} {φ : List Addr} {a : AS} {h h' : Heap}
theorem FldRel.ext {W W' : Addr → Prop} (hk : ∀ b o, h.get? b = some o → ¬ W b → h'.get? b = some o ∧ ¬ W' b) {es : List DictEntry} {fs : List (PySem.Str × DV)} (r : FldRel G h W es fs) : FldRel G h' W' es fs := by
  induction r with
  | nil => exact .nil
  | cons a _ ih => exact .cons (a.ext hk) ih
theorem FldRel.length {W : Addr → Prop} {es : List DictEntry} {fs : List (PySem.Str × DV)} (r : FldRel G h W es fs) : es.length = fs.length := by
  induction r with
  | nil => rfl
  | cons _ _ ih => simp [ih]
/-- one more field -/
theorem fld_put {W : Addr → Prop} {es : List DictEntry} {fs : List (PySem.Str × DV)} (r : FldRel G h W es fs) {name : PySem.Str} {hsh : Int} {t : Tok} {v : Value} {d : DV} (V : VR G.prog G.w h W v d) (hl : fs.lookup name = none) :
    FldRel G h W (putL name hsh (.str name t) v es) (fs ++ [(name, d)]) ∧ (putL name hsh (.str name t) v es).length = es.length + 1 := by
  induction r with
  | nil => exact ⟨.cons V .nil, rfl⟩
  | @cons hs x t' v' d' es fs a _ ih =>
    rw [List.lookup_cons] at hl
    cases q : name == x with
    | true => rw [q] at hl; cases hl
    | false =>
      rw [q] at hl
      have q1 : (x == name) = false := by
        have : ¬ name = x := by simpa using q
        simpa using fun z : x = name => this z.symm
      unfold putL
      simp only [isStr_beq, q1, Bool.false_eq_true, if_false]
      obtain ⟨h1, h2⟩ := ih hl
      exact ⟨.cons a h1, by simp [h2]⟩

theorem Rel.setSlf (R : Rel G F prv φ a h) {x dx : Addr} (hs : F.slf = some (x, dx)) {es : List DictEntry} {k : Nat} {fs : List (PySem.Str × DV)} (hb : Heap.SameBut dx h h') (e : h'.get? dx = some (dictOf es k)) (f : FldRel G h (Wf F prv φ a.heap) es fs) (hl : es.length ≤ 900) :
    Rel G F prv φ { a with slf := fs } h' ∧ ∀ m, Ext F.own m φ a.heap h φ a.heap h' := by
  obtain ⟨s1, s2, s3, s4, s5, s6, s7⟩ := R.slf x dx hs
  have hk : ∀ b o, b ≠ dx → h.get? b = some o → h'.get? b = some o := fun b o q e => (hb.2 b q).trans e
  have hkW : ∀ b o, h.get? b = some o → ¬ Wf F prv φ a.heap b → h'.get? b = some o ∧ ¬ Wf F prv φ a.heap b := fun b o e hw => ⟨hk b o (fun q => hw (.inl (.inl (q ▸ s2)))) e, hw⟩
  have hex : ∀ b o, h.get? b = some o → ∃ o', h'.get? b = some o' := fun b o e' => by
    by_cases q : b = dx
    · subst q; exact ⟨_, e⟩
    · exact ⟨o, hk b o q e'⟩
  obtain ⟨m, hn, hvs⟩ := R.vars
  refine ⟨⟨R.kfun, R.hr.step (fun b => b = dx) (fun b o e x => hk b o x e) hex (fun b x => .inl (x ▸ s2)), R.own_prv, R.Lown, fun y c e' => ?_, R.cinj, R.n0, ⟨m, hn.sameBut hb (Ne.symm s5), fun y u e' => ?_⟩, fun x' dx' e' => ?_⟩, fun m => ⟨fun _ _ => rfl, fun b o e' h1 _ => hk b o (fun q => h1 (q ▸ s2)) e', hex, fun _ q => .inl q⟩⟩
  · obtain ⟨⟨v, o, ho, hd⟩, r⟩ := R.cown y c e'
    exact ⟨⟨v, o, hk _ _ (s6 y c e').2 ho, hd⟩, r⟩
  · obtain ⟨cu, h1, h2⟩ := hvs y u e'
    refine ⟨cu, AVR.ext hkW (fun _ _ e => e) h1, ?_⟩
    rcases h2 with h2 | ⟨h2, c', h3, o, h4, h5⟩
    · exact .inl h2
    · exact .inr ⟨h2, c', h3, o, hk _ _ (s6 y c' h3).2 h4, h5⟩
  · rw [hs] at e'; cases e'
    obtain ⟨es0, k0, g1, g2, g3, g4⟩ := s7
    exact ⟨s1, s2, s3, s4, s5, s6, es, k, hk _ _ s3 g1, e, f.ext hkW, hl⟩
end

section
variable {p : Params} {G : Base} {n : Nat} {F : Fm} {a : AS}
theorem set83 (p : Params) : findIn (lawK p) (.ref 83) "__setattr__" = some (some (.builtin "object.__setattr__")) := by kernel_rfl
theorem over83 (p : Params) : plainOver (lawK p) 83 = true := by kernel_rfl

/-- self.name = v -/
theorem EX.setAttr (X : Facts p G) {P : AFlow → AS → Prop} {o name : PySem.Str} {p1 p2 pos : Pos} {value : Expr} {rest : List Stmt} (hso : F.slf.isSome = true)
    (h : EV G n F a value fun v a1 => ∃ d, v = .dat d ∧ EV G n F a1 (.Name o p1) fun y a2 => y = .slf ∧ a2.slf.lookup name = none ∧ a2.slf.length ≤ 800 ∧ EX G n F { a2 with slf := a2.slf ++ [(name, d)] } rest P)
    (ht : takerIn (lawK p) 83 name = some Option.none := by kernel_rfl)
    (hs : swapsWith value (some (.Attribute (.Name o p1) name p2)) pos.line F.env = pure false := by rfl) : EX G n F a (.Assign [.Attribute (.Name o p1) name p2] value pos :: rest) P := by
  refine EX.st ⟨fun A prv φ s Q hA R hQ => ?_⟩
  refine plainObj_wpAny_Assign_Attribute (h.go A prv φ s _ hA R fun v a1 φ1 cv s1 h1 R1 V1 E1 S1 => ?_) hs
  obtain ⟨d, rfl, h1⟩ := h1
  refine h1.go A prv φ1 s1 _ hA R1 fun y a2 φ2 cy s2 h2 R2 V2 E2 S2 => ?_
  obtain ⟨rfl, hl, hlen, hX⟩ := h2
  have V1' := V1.after E2 (Nat.le_refl _)
  obtain ⟨⟨x, dx⟩, hsl, rfl⟩ := V2
  obtain ⟨q1, q2, q3, q4, q5, q6, q7⟩ := R2.slf x dx hsl
  obtain ⟨es, k, g1, g2, g3, g4⟩ := q7
  have KX := rel_kin X R2.base
  have I := inst_at X g1 g2
  obtain ⟨m, F0⟩ := R2.fr
  have N : News H0 F.L s2.heap ((dx, dictOf es k) :: (allNews s2.heap F.L).filter fun q => q.1 != dx) := by
    intro q hq
    rcases List.mem_cons.mp hq with rfl | hq
    · exact ⟨g2, q5, h0_get _⟩
    · exact ledN s2.heap F.L q (List.mem_filter.mp hq).1
  have gl : getL name es = some none := (fld_get g3).2 hl
  have esl : es.length = a.slf.length := g3.length
  obtain ⟨f1, f2⟩ := fld_put (hsh := PyData.keyHash G.w.params name) (t := s2.toks + 1) g3 V1' hl
  have ens : (dictOf es k) = (dictOf es k) := rfl
  refine set_plain KX I (set83 p) ?_
  refine osa_dict (s := { s2 with toks := s2.toks + 1 }) (pre := []) (es := putL name (PyData.keyHash G.w.params name) (.str name (s2.toks + 1)) cv es) (n := putN name es k) F0 N KX I rfl (over83 p) ht (dict83 p) (by rw [lookIn_dict, gl]; rfl) (fun _ hq => (nomatch hq)) (fun q hq => by simpa using (List.mem_filter.mp hq).2) (putName_dict ..) rfl (by rw [f2]; omega) fun h' F' N' => ?_
  have e2 : ({ s2 with toks := s2.toks + 1 } : Shared).heap = s2.heap := rfl
  -- the heap where the fields alone have turned
  have u1 := Heap.get?_update_self (fun _ => dictOf (putL name (PyData.keyHash G.w.params name) (.str name (s2.toks + 1)) cv es) (putN name es k)) g2 rfl
  have u2 : Heap.SameBut dx s2.heap (s2.heap.update dx fun _ => dictOf (putL name (PyData.keyHash G.w.params name) (.str name (s2.toks + 1)) cv es) (putN name es k)) := Heap.SameBut.update ..
  generalize s2.heap.update dx (fun _ => dictOf (putL name (PyData.keyHash G.w.params name) (.str name (s2.toks + 1)) cv es) (putN name es k)) = h3 at u1 u2
  have hlen' : a.slf.length ≤ 800 := hlen
  obtain ⟨R3, E3⟩ := R2.setSlf (fs := a.slf ++ [(name, d)]) hsl u2 u1 f1 (by rw [f2]; omega)
  have X3 : Led F.L h3 h' := by
    refine ⟨fun b o hb e => ?_, fun m' hm' => ?_⟩
    · by_cases q : b = dx
      · subst q
        rw [u1] at e; cases e
        exact (N' _ (List.mem_append_right _ (.head _))).1
      · have e' : s2.heap.get? b = some o := (u2.2 b q).symm.trans e
        exact (N' (b, o) (List.mem_append_right _ (.tail _ (List.mem_filter.mpr ⟨allNews_mem hb e', by simpa using q⟩)))).1
    · have := F0.ns.sameBut u2 (Ne.symm q5)
      rw [Heap.Ns.unique hm' this]
      exact F'.ns
  obtain ⟨R4, E4, _⟩ := Rel.led (s := { s2 with heap := h3 }) R3 X3
  have E34 := Ext.trans (E3 φ2.length) (E4 φ2.length) (Nat.le_refl _)
  have hq := ((hQ.step (a' := { a with heap := a1 }) E1 S1 R.n0).step (a' := { a with heap := a2 }) E2 S2 R1.n0).step (φ' := φ2) (a' := { a with heap := a2, slf := a.slf ++ [(name, d)] }) (s' := { s2 with heap := h', toks := s2.toks + 1 + 1 }) E34 (.mk' s2 h' _) R2.n0
  have fin : Q Flow.next { s2 with heap := h', toks := s2.toks + 1 + 1 } := hq.now' (f := .next) R4 hX rfl
  exact fin
end
end Mine

namespace Mine
section
variable {G : Base} {n : Nat} {F : Fm} {a : AS} {P : AFlow → AS → Prop} {rest : List Stmt} {pos : Pos}
/-- two names at once, the last one first -/
theorem EX.setSwap {elts : List Expr} {k : Nat} {p1 : Pos} {value : Expr} {x y : PySem.Str} (hx : Stores F x) (hy : Stores F y)
    (h : EV G n F a value fun v a1 => ∃ d1 d2, v = .dat (.tup [d1, d2]) ∧ EX G n F { a1 with vars := setV (setV a1.vars y (.dat d2)) x (.dat d1) } rest P)
    (hw : swappedStores [.Tuple elts k p1] value F.env = pure (some [x, y])) (hs : swapsWithSole [.Tuple elts k p1] value pos.line F.env = pure false := by rfl) : EX G n F a (.Assign [.Tuple elts k p1] value pos :: rest) P := by
  refine EX.st ⟨fun A prv φ s Q hA R hQ => ?_⟩
  refine Assign_Tuple_swapped (names := [x, y]) (h.go A prv φ s _ hA R fun v a1 φ1 cv s1 h1 R1 V1 E1 S1 => ?_) hs hw
  obtain ⟨d1, d2, rfl, hP⟩ := h1
  cases V1 with
  | @tup ad m vs _ ho hw hvs =>
    have hz := hvs.length
    simp at hz
    have : ([x, y] : List PySem.Str).length = vs.size := by rw [hz]; rfl
    rw [this]
    refine unpackItems_tuple hA.hh ⟨_, ho, rfl, m, rfl⟩ fun h' he => ?_
    have hk : ∀ b o, s1.heap.get? b = some o → h'.get? b = some o := fun b o e => he b o (Nat.ne_of_lt (Heap.lt_size e)) e
    have R2 := R1.keeps hk
    have hq := (hQ.step (a' := { a with heap := a1 }) E1 S1 R.n0).step (a' := { a with heap := a1 }) (s' := { s1 with heap := h' }) (Ext.keeps (φ := φ1) hk (k := φ1.length)) (.mk' s1 h' s1.toks) R1.n0
    generalize hl : vs.toList = l at hvs
    match l, hvs with
    | [c1, c2], .cons v1 (.cons v2 .nil) =>
    show wpAny _ A (holding [c1] (bindName F.env y c2) >>= fun _ => (holding [] (bindName F.env x c1) >>= fun _ => assignInOrder [] [])) _ _ _
    have V2 : AVR G F.slf φ1 h' (Wf F prv φ1 a1) (.dat d2) c2 := v2.ext fun b o e hb => ⟨hk b o e, hb⟩
    have V1 : AVR G F.slf φ1 h' (Wf F prv φ1 a1) (.dat d1) c1 := v1.ext fun b o e hb => ⟨hk b o e, hb⟩
    refine wpAny_bind (wpAny_holding (wpAny_bindName (store_var (s := { s1 with heap := h' }) hy R2 V2 fun h3 t3 R3 E3 => ?_)))
    have V1' := V1.after E3 (Nat.le_refl _)
    refine wpAny_bind (wpAny_holding (wpAny_bindName (store_var (s := { s1 with heap := h3, toks := t3 }) hx R3 V1' fun h4 t4 R4 E4 => ?_)))
    have hq2 := hq.step (φ' := φ1) (a' := { a with heap := a1, vars := setV a.vars y (.dat d2) }) (s' := { s1 with heap := h3, toks := t3 }) E3 (.mk' ..) R1.n0
    have hq3 := hq2.step (φ' := φ1) (a' := { a with heap := a1, vars := setV (setV a.vars y (.dat d2)) x (.dat d1) }) (s' := { s1 with heap := h4, toks := t4 }) E4 (.mk' ..) R1.n0
    exact wpAny_pure (hq3.now' (f := .next) R4 hP rfl)
end

/-! ## Whitespace -/
structure WS where
  cs : List Nat
  b : Nat
  n : Nat
  nt : Nat
def wsC (st : WS) : List Nat := if st.cs.length ≤ st.b then st.cs ++ List.replicate (st.b - st.cs.length + 1) 0 else st.cs
def wsT (st : WS) : WS := ⟨(wsC st).set st.b ((wsC st).getD st.b 0 + 1), 0, st.n + 1, st.nt + 1⟩
def wsRun : WS → List Nat → WS
  | st, [] => st
  | st, c :: r => if c = 32 then wsRun ⟨st.cs, st.b + 1, st.n + 1, st.nt⟩ r else if c = 9 then wsRun (wsT st) r else st
def dInts (xs : List Nat) : List DV := xs.map fun (k : Nat) => .int k
def fieldsOf (ws : PySem.Str) (st : WS) : List (PySem.Str × DV) := [("raw", .str ws), ("n", .int st.n), ("nt", .int st.nt), ("norm", .tup [.tup (dInts st.cs), .int st.b]), ("is_simple", .bool (decide ((st.cs.length : Int) ≤ 1)))]
def wsOf (ws : PySem.Str) : List (PySem.Str × DV) := fieldsOf ws (wsRun ⟨[], 0, 0, 0⟩ ws.cps.toList)

theorem wsC_len (st : WS) : st.b < (wsC st).length ∧ (wsC st).length ≤ max st.cs.length (st.b + 1) := by
  unfold wsC
  split
  · rw [List.length_append, List.length_replicate]; omega
  · omega
section
variable {p : Params} {G : Base} {n : Nat}
theorem cls_S (p : Params) : findCls (lawK p) (.ref 83) (.type "type") "S" = some (.val (.str " " 209)) := by kernel_rfl
theorem cls_T (p : Params) : findCls (lawK p) (.ref 83) (.type "type") "T" = some (.val (.str "\t" 210)) := by kernel_rfl
theorem ws_make (X : Facts p G) {ws : PySem.Str} (hl : ws.cps.toList.length ≤ 1000) (H : List AObj) : CALL G (n + 2) (.ref 83) [.dat (.str ws)] H fun v H' => v = .inst (wsOf ws) ∧ H' = H := by
  refine CALL.make X fun L x dx => ?_
  refine EX.setAttr X rfl (EV.var rfl ⟨_, rfl, EV.var rfl ⟨rfl, rfl, Nat.zero_le _, ?_⟩⟩)
  refine EX.setSwap (x := "S") (y := "T") (.inl rfl) (.inl rfl) (EV.tuple (EVs.two (EV.attrC X (EV.glob X rfl rfl ⟨rfl, ?_⟩) (cls_S p)))) rfl
  refine EV.attrC X (EV.glob X rfl rfl ⟨rfl, ⟨[.str " ", .str "\t"], rfl, by decide, _, _, rfl, ?_⟩⟩) (cls_T p)
  refine EX.set (.inl rfl) (EV.list (EVs.nil ⟨[], rfl, by decide, .inr ?_⟩))
  refine EX.set3 (.inl rfl) (.inl rfl) (.inl rfl) (EV.int ?_)
  have fin : ∀ (H1 : List AObj) (vars : List (PySem.Str × AV)) (st : WS), H1.take H.length = H → SubA [("self", .slf), ("count", .ref H1.length), ("b", .dat (.int st.b)), ("n", .dat (.int st.n)), ("nt", .dat (.int st.nt))] vars → st.cs.length ≤ 1000 → wsRun ⟨[], 0, 0, 0⟩ ws.cps.toList = st →
      EX G (n + 0) (fmInit (fdInit p) L 38 x dx H.length) ⟨vars, H1 ++ [.list (dInts st.cs)], [("raw", .str ws)]⟩ ((bodyIn (fdInit p)).drop 5) fun f a' => f = .next ∧ (AV.inst a'.slf = .inst (wsOf ws) ∧ a'.heap.take H.length = H) := by
    intro H1 vars st hH hv hlen hst
    refine EX.names _ hv ?_
    refine EX.setAttr X rfl (EV.var rfl ⟨_, rfl, EV.var rfl ⟨rfl, rfl, by simp, ?_⟩⟩)
    refine EX.setAttr X rfl (EV.var rfl ⟨_, rfl, EV.var rfl ⟨rfl, rfl, by simp, ?_⟩⟩)
    refine EX.setAttr X rfl ?_
    refine EV.tuple (EVs.two (EV.tfn X rfl rfl (EVs.one (EV.var rfl (OPL.tuple (.inr ⟨_, rfl, last_get _ _⟩) (by simp [dInts]; omega) (EV.var rfl ⟨[.tup (dInts st.cs), .int st.b], rfl, by simp, _, rfl, EV.var rfl ⟨rfl, rfl, by simp, ?_⟩⟩))))))
    refine EX.setAttr X rfl (EV.cmp (EV.bfn X rfl rfl (EVs.one (EV.var rfl (OPL.lenL (.inr ⟨_, rfl, last_get _ _⟩) (by simp [dInts]; omega) (EV.int (OP2.le ⟨_, rfl, EV.var rfl ⟨rfl, rfl, by simp, EX.nil ?_⟩⟩)))))))
    refine ⟨rfl, ?_, ?_⟩
    · show AV.inst (_ ++ _) = _
      have : (dInts st.cs).length = st.cs.length := by simp [dInts]
      rw [this]
      unfold wsOf fieldsOf
      rw [hst]
      rfl
    · show List.take H.length (H1 ++ _) = H
      have h1 : H.length ≤ H1.length := by rw [← hH, List.length_take]; omega
      rw [List.take_append_of_le_length h1]; exact hH
  refine EX.for_ (EV.attrS X (EV.var rfl ⟨.str ws, rfl, rfl, ?_⟩))
  refine ⟨_, .str ws _ _, fun k a => ∃ (H1 : List AObj) (vars : List (PySem.Str × AV)) (st : WS), a = ⟨vars, H1 ++ [.list (dInts st.cs)], [("raw", .str ws)]⟩ ∧ H1.take H.length = H ∧ SubA [("self", .slf), ("S", .dat (.str " ")), ("T", .dat (.str "\t")), ("count", .ref H1.length), ("b", .dat (.int st.b)), ("n", .dat (.int st.n)), ("nt", .dat (.int st.nt))] vars ∧ st.cs.length ≤ k ∧ st.b ≤ k ∧ wsRun ⟨[], 0, 0, 0⟩ ws.cps.toList = wsRun st (ws.cps.toList.drop k), ?_, ?_, ?_⟩
  · exact ⟨H, _, ⟨[], 0, 0, 0⟩, rfl, List.take_length, SubA.cons rfl (SubA.cons rfl (SubA.cons rfl (SubA.cons rfl (SubA.cons rfl (SubA.cons rfl (SubA.cons rfl .nil)))))), Nat.zero_le _, Nat.zero_le _, rfl⟩
  · rintro k d a2 hd ⟨H1, vars, st, rfl, hH, hv, h1, h2, h3⟩
    have hk : k < ws.cps.toList.length := by
      have := (List.getElem?_eq_some_iff.mp hd).1
      simpa using this
    obtain ⟨c, hc⟩ : ∃ c, ws.cps.toList[k]? = some c := ⟨_, List.getElem?_eq_getElem hk⟩
    have hd' : d = .str ⟨#[c]⟩ := by
      rw [List.getElem?_map, hc] at hd
      simpa using hd.symm
    subst hd'
    have hdrop : ws.cps.toList.drop k = c :: ws.cps.toList.drop (k + 1) := by
      rw [List.drop_eq_getElem_cons hk]
      congr 1
      rw [List.getElem?_eq_getElem hk] at hc
      simpa using hc
    rw [hdrop, wsRun] at h3
    have eqc : ∀ e : Nat, ((⟨#[c]⟩ : PySem.Str) == ⟨#[e]⟩) = decide (c = e) := fun e => by
      by_cases q : c = e
      · subst q; simp
      · have : (⟨#[c]⟩ : PySem.Str) ≠ ⟨#[e]⟩ := fun z => q (by simpa using z)
        rw [decide_eq_false q]; exact beq_false_of_ne this
    refine ASG.name (.inl rfl) (EX.names _ (SubA.put hv) ?_)
    refine EX.iff (BT.cmp (EV.var rfl (EV.var rfl (OP2.eqS ⟨_, rfl, fun q => ?_, fun q => ?_⟩))))
    all_goals rw [show (" " : PySem.Str) = ⟨#[32]⟩ from rfl, eqc] at q
    · have q := of_decide_eq_true q
      rw [if_pos q] at h3
      refine EX.set (.inl rfl) (EV.bop (EV.var rfl (EV.int (OP2.add ?_))))
      refine EX.set (.inl rfl) (EV.bop (EV.var rfl (EV.int (OP2.add (EX.nilA (EX.nil ?_))))))
      exact ⟨H1, _, ⟨st.cs, st.b + 1, st.n + 1, st.nt⟩, rfl, hH, SubA.cons rfl (SubA.cons rfl (SubA.cons rfl (SubA.cons rfl (SubA.cons rfl (SubA.cons rfl (SubA.cons rfl .nil)))))), Nat.le_succ_of_le h1, Nat.succ_le_succ h2, h3⟩
    · have q := of_decide_eq_false q
      rw [if_neg q] at h3
      refine EX.iff (BT.cmp (EV.var rfl (EV.var rfl (OP2.eqS ⟨_, rfl, fun q2 => ?_, fun q2 => ?_⟩))))
      all_goals rw [show ("\t" : PySem.Str) = ⟨#[9]⟩ from rfl, eqc] at q2
      · have q2 := of_decide_eq_true q2
        rw [if_pos q2] at h3
        refine EX.set (.inl rfl) (EV.bop (EV.var rfl (EV.int (OP2.add ?_))))
        refine EX.set (.inl rfl) (EV.bop (EV.var rfl (EV.int (OP2.add ?_))))
        have dl : (dInts st.cs).length = st.cs.length := by simp [dInts]
        have hwl := wsC_len st
        have dw : (dInts (wsC st)).length = (wsC st).length := by simp [dInts]
        have hHA : (H1 ++ [AObj.list (dInts st.cs)]).take H.length = H := by
          have h1 : H.length ≤ H1.length := by rw [← hH, List.length_take]; omega
          rw [List.take_append_of_le_length h1]; exact hH
        have eset : (dInts (wsC st)).set ((st.b : Int)).toNat (.int (((wsC st).getD st.b 0 : Nat) + 1)) = dInts (wsT st).cs := by
          unfold wsT dInts
          rw [Int.toNat_natCast, List.map_set]
          rfl
        have eget : (dInts (wsC st))[((st.b : Int)).toNat]? = some (.int ((wsC st).getD st.b 0 : Nat)) := by
          unfold dInts
          rw [Int.toNat_natCast, List.getElem?_map, getD_some hwl.1 0]; rfl
        refine EX.iff (BT.cmp (EV.var rfl (EV.bfn X rfl rfl (EVs.one (EV.var rfl (OPL.lenL (.inr ⟨_, rfl, last_get _ _⟩) (by rw [dl]; omega) (OP2.ge ⟨_, rfl, fun q3 => ?_, fun q3 => ?_⟩)))))))
        all_goals rw [dl] at q3
        · have q3 := of_decide_eq_true q3
          have eC : wsC st = st.cs ++ List.replicate (st.b - st.cs.length + 1) 0 := by unfold wsC; rw [if_pos (by omega)]
          refine EX.set (.inl rfl) (EV.bop (EV.var rfl (EV.bop ?_)))
          refine EV.listC (ds := [.int 0]) rfl (by decide) rfl (EV.bop (EV.bop (EV.var rfl (EV.bfn X rfl rfl (EVs.one (EV.var rfl (OPL.lenL (.inr ⟨_, rfl, last_get _ _⟩) (by rw [dl]; omega) (OP2.sub (EV.int (OP2.add ?_))))))))))
          rw [dl]
          have ek : ((st.b : Int) - (st.cs.length : Int) + 1).toNat = st.b - st.cs.length + 1 := by omega
          refine OP2.mulL (.inl rfl) (by omega) (by omega) (by rw [ek]; simp; omega) ?_
          rw [ek]
          have er : (List.replicate (st.b - st.cs.length + 1) [DV.int 0]).flatten = List.replicate (st.b - st.cs.length + 1) (DV.int 0) := by
            generalize st.b - st.cs.length + 1 = m
            induction m with
            | zero => rfl
            | succ m ih => rw [List.replicate_succ, List.flatten_cons, ih]; rfl
          have ea : dInts st.cs ++ (List.replicate (st.b - st.cs.length + 1) [DV.int 0]).flatten = dInts (wsC st) := by
            rw [er, eC]; unfold dInts; rw [List.map_append, List.map_replicate]; rfl
          refine OP2.addL (.inr ⟨_, rfl, last_get _ _⟩) (.inl rfl) (by rw [← List.length_append, ea, dw]; omega) (.inr ?_)
          rw [ea]
          refine EX.nilA ?_
          refine EX.setItem (EV.bop (EV.sub (EV.var rfl (EV.var rfl (OP2.itemL (.inr ⟨_, rfl, last_get _ _⟩) (by omega) (by omega) eget (EV.int (OP2.add (EV.var rfl (EV.var rfl ⟨_, _, rfl, rfl, .inl ⟨_, _, rfl, last_get _ _, by omega, by rw [dw]; omega, by rw [dw]; omega, ?_⟩⟩)))))))))
          rw [last_set, eset]
          refine EX.set (.inl rfl) (EV.int (EX.nilA (EX.nilA (EX.nil ?_))))
          refine ⟨_, _, wsT st, rfl, hHA, SubA.cons rfl (SubA.cons rfl (SubA.cons rfl (SubA.cons rfl (SubA.cons rfl (SubA.cons rfl (SubA.cons rfl .nil)))))), ?_, Nat.zero_le _, h3⟩
          show ((wsC st).set _ _).length ≤ k + 1
          rw [List.length_set]; omega
        · have q3 := of_decide_eq_false q3
          have eC : st.cs = wsC st := by unfold wsC; rw [if_neg (by omega)]
          refine EX.nilA ?_
          rw [show dInts st.cs = dInts (wsC st) by rw [← eC]]
          refine EX.setItem (EV.bop (EV.sub (EV.var rfl (EV.var rfl (OP2.itemL (.inr ⟨_, rfl, last_get _ _⟩) (by omega) (by omega) eget (EV.int (OP2.add (EV.var rfl (EV.var rfl ⟨_, _, rfl, rfl, .inl ⟨_, _, rfl, last_get _ _, by omega, by rw [dw]; omega, by rw [dw]; omega, ?_⟩⟩)))))))))
          rw [last_set, eset]
          refine EX.set (.inl rfl) (EV.int (EX.nilA (EX.nilA (EX.nil ?_))))
          refine ⟨_, _, wsT st, rfl, hH, SubA.cons rfl (SubA.cons rfl (SubA.cons rfl (SubA.cons rfl (SubA.cons rfl (SubA.cons rfl (SubA.cons rfl .nil)))))), ?_, Nat.zero_le _, h3⟩
          show ((wsC st).set _ _).length ≤ k + 1
          rw [List.length_set]; omega
      · have q2 := of_decide_eq_false q2
        rw [if_neg q2] at h3
        refine EX.brk (fin H1 _ st hH ?_ (by omega) h3)
        exact SubA.cons rfl (SubA.cons rfl (SubA.cons rfl (SubA.cons rfl (SubA.cons rfl .nil))))
  · rintro N a2 hN ⟨H1, vars, st, rfl, hH, hv, h1, h2, h3⟩
    have hN : N = ws.cps.toList.length := by rw [← hN]; simp
    subst hN
    rw [List.drop_length] at h3
    refine EX.nilA (fin H1 vars st hH (SubA.trans ?_ hv) (by omega) h3)
    exact SubA.cons rfl (SubA.cons rfl (SubA.cons rfl (SubA.cons rfl (SubA.cons rfl .nil))))
end
end Mine

namespace Mine
theorem OP2.itemT {G : Base} {n : Nat} {F : Fm} {a : AS} {P : AV → AS → Prop} {value slice : Expr} {xs : List DV} {i : Int} {d : DV} (h0 : 0 ≤ i) (hi : i < 2 ^ 63) (hx : xs[i.toNat]? = some d) (hP : P (.dat d) a)
    (hs : ∀ o i, subscripted slice false o i = operate [o, i] (getItem o i) := by intro _ _; rfl) : OP2 G n F a (subscriptTail value slice) (.dat (.tup xs)) (.dat (.int i)) P := by
  refine ⟨fun A prv φ s Q cx cy hA R V1 V2 hQ => ?_⟩
  cases V2
  cases V1 with
  | @tup ad m vs _ ho hw r =>
    obtain ⟨v, hv, V⟩ := r.get hx
    have hlt : i.toNat < xs.length := (List.getElem?_eq_some_iff.mp hx).1
    have hz := r.length
    refine item_tupleT (l := vs.toList) (j := i.toNat) ⟨_, ho, rfl, m, by rw [Array.toArray_toList]⟩ (by omega) hi ?_ hv (hQ.now' R hP V) (hs _ _)
    unfold seqIndex?
    have h1 : i < (vs.toList.length : Int) := by rw [hz]; omega
    simp only [h0, h1, Int.not_lt.mpr h0, if_false, decide_true, Bool.and_self, if_true, true_and, and_self]

def wsLong (st : WS) : Nat := max (st.cs.length - 1) st.b
def ilTo (st : WS) (t : Nat) : Nat → Nat
  | 0 => 0
  | k + 1 => ilTo st t k + (t + k) / t * st.cs.getD (t + k) 0
def wsIndent (st : WS) (t : Nat) : Nat := st.b + t * (ilTo st t (st.cs.length - t) + st.nt)

theorem loc_of {fd : FuncData} {xs : List PySem.Str} (h : xs.all (fun x => fd.scope.names.lookup x == some NameKind.local) = true) : ∀ x ∈ xs, fd.scope.names.lookup x = some .local := fun x hx => by
  simpa using List.all_eq_true.mp h x hx
section
variable {p : Params} {G : Base} {n : Nat}
theorem ws_long (X : Facts p G) {ws : PySem.Str} {st : WS} (hl : st.cs.length ≤ 1000) (H : List AObj) : CALL G (n + 1) (.ref 45) [.inst (fieldsOf ws st)] H fun v H' => v = .dat (.int (wsLong st)) ∧ H' = H := by
  refine CALL.body (vars := [("self", .inst (fieldsOf ws st))]) X.long X.toOk (body_in rfl) (bind_of ["self"] (fun vs h => ?_) (by decide) (loc_of (by kernel_rfl)) rfl rfl) (all_ne_cell rfl) fun L => ?_
  · match vs, h with
    | [v], _ => kernel_rfl
  refine EX.setTup (EV.attrI X (EV.var rfl ⟨_, _, rfl, rfl, ?_⟩))
  refine ASG.tuple (ts := [("count", _), ("trailing", _)]) rfl ?_ rfl ?_
  · intro t ht
    simp only [List.mem_cons, List.not_mem_nil, or_false] at ht
    rcases ht with rfl | rfl <;> exact .inl rfl
  have dl : (dInts st.cs).length = st.cs.length := by simp [dInts]
  refine EX.ret (EV.bfn X rfl rfl (EVs.two (EV.bop (EV.bfn X rfl rfl (EVs.one (EV.var rfl (OPL.lenT (by rw [dl]; omega) (EV.int (OP2.sub (EV.var rfl (OPL.max2 ?_)))))))))))
  refine ⟨rfl, ?_, List.take_length⟩
  rw [dl]
  show AV.dat (.int _) = _
  congr 2
  unfold wsLong
  split <;> omega

theorem ws_indent (X : Facts p G) {ws : PySem.Str} {st : WS} {t : Nat} (hl : st.cs.length ≤ 1000) (ht : 0 < t) (ht' : t ≤ 1000) (H : List AObj) : CALL G (n + 1) (.ref 52) [.inst (fieldsOf ws st), .dat (.int t)] H fun v H' => v = .dat (.int (wsIndent st t)) ∧ H' = H := by
  refine CALL.body (vars := [("self", .inst (fieldsOf ws st)), ("tabsize", .dat (.int t))]) X.indent X.toOk (body_in rfl) (bind_of ["self", "tabsize"] (fun vs h => ?_) (by decide) (loc_of (by kernel_rfl)) rfl rfl) (all_ne_cell rfl) fun L => ?_
  · match vs, h with
    | [v, u], _ => kernel_rfl
  refine EX.setTup (EV.attrI X (EV.var rfl ⟨_, _, rfl, rfl, ?_⟩))
  refine ASG.tuple (ts := [("count", _), ("trailing", _)]) rfl ?_ rfl ?_
  · intro t ht
    simp only [List.mem_cons, List.not_mem_nil, or_false] at ht
    rcases ht with rfl | rfl <;> exact .inl rfl
  have dl : (dInts st.cs).length = st.cs.length := by simp [dInts]
  refine EX.set (.inl rfl) (EV.int ?_)
  refine EX.for_ (EV.tfn X rfl rfl (EVs.two (EV.var rfl (EV.bfn X rfl rfl (EVs.one (EV.var rfl (OPL.lenT (by rw [dl]; omega) (OPL.range2 ?_))))))))
  rw [dl]
  refine ⟨_, .rng t st.cs.length _ (by omega) (by omega) (by omega) (by omega), fun k a => ∃ vars, a = ⟨vars, H, []⟩ ∧ SubA [("self", .inst (fieldsOf ws st)), ("tabsize", .dat (.int t)), ("count", .dat (.tup (dInts st.cs))), ("trailing", .dat (.int st.b)), ("il", .dat (.int (ilTo st t k)))] vars, ?_, ?_, ?_⟩
  · exact ⟨_, rfl, SubA.cons rfl (SubA.cons rfl (SubA.cons rfl (SubA.cons rfl (SubA.cons rfl .nil))))⟩
  · rintro k d a2 hd ⟨vars, rfl, hv⟩
    have hk : k < ((st.cs.length : Int) - t).toNat := by
      have := (List.getElem?_eq_some_iff.mp hd).1
      simpa using this
    have hd' : d = .int ((t : Int) + k) := by
      rw [List.getElem?_map, List.getElem?_range hk] at hd
      simpa using hd.symm
    subst hd'
    refine ASG.name (.inl rfl) (EX.names _ (SubA.put hv) ?_)
    have ed : Int.fdiv ((t : Int) + (k : Int)) (t : Int) = (((t + k) / t : Nat) : Int) := by rw [Int.fdiv_eq_ediv_of_nonneg _ (by omega)]; simp
    have hlt : t + k < st.cs.length := by omega
    refine EX.set (.inl rfl) (EV.bop (EV.var rfl (EV.bop (EV.bop (EV.var rfl (EV.var rfl (OP2.fdiv (by omega) (by omega) ?_)))))))
    rw [ed]
    refine EV.sub (EV.var rfl (EV.var rfl (OP2.itemT (d := .int (st.cs.getD (t + k) 0 : Nat)) (by omega) (by omega) ?_ (OP2.mul ?_ (OP2.add (EX.nil ?_))))))
    · have : ((t : Int) + (k : Int)).toNat = t + k := by omega
      rw [this]
      unfold dInts
      rw [List.getElem?_map, getD_some hlt 0]; rfl
    · have : (t + k) / t ≤ t + k := Nat.div_le_self _ _
      rw [Int.natAbs_natCast]
      omega
    · refine ⟨_, rfl, SubA.cons rfl (SubA.cons rfl (SubA.cons rfl (SubA.cons rfl (SubA.cons ?_ .nil))))⟩
      show some (AV.dat (.int _)) = some (AV.dat (.int _))
      congr 2
  · rintro N a2 hN ⟨vars, rfl, hv⟩
    have hN : N = st.cs.length - t := by rw [← hN]; simp
    subst hN
    refine EX.nilA (EX.names _ hv ?_)
    refine EX.ret (EV.bop (EV.var rfl (EV.bop (EV.var rfl (EV.bop (EV.var rfl (EV.attrI X (EV.var rfl ⟨_, _, rfl, rfl, OP2.add (OP2.mul (by omega) (OP2.add ?_))⟩))))))))
    refine ⟨rfl, ?_, List.take_length⟩
    rfl

/-- the rows of a comparison -/
def rowsOf (s1 s2 : WS) : List (Nat × Nat × Nat) := ((List.range (max (wsLong s1) (wsLong s2) + 1)).filter fun k => wsIndent s1 (k + 1) != wsIndent s2 (k + 1)).map fun k => (k + 1, wsIndent s1 (k + 1), wsIndent s2 (k + 1))
def dRow (r : Nat × Nat × Nat) : DV := .tup [.int r.1, .int r.2.1, .int r.2.2]
def rowsTo (s1 s2 : WS) (k : Nat) : List (Nat × Nat × Nat) := ((List.range k).filter fun k => wsIndent s1 (k + 1) != wsIndent s2 (k + 1)).map fun k => (k + 1, wsIndent s1 (k + 1), wsIndent s2 (k + 1))
theorem rowsTo_succ (s1 s2 : WS) (k : Nat) : rowsTo s1 s2 (k + 1) = if wsIndent s1 (k + 1) != wsIndent s2 (k + 1) then rowsTo s1 s2 k ++ [(k + 1, wsIndent s1 (k + 1), wsIndent s2 (k + 1))] else rowsTo s1 s2 k := by
  unfold rowsTo
  rw [List.range_succ, List.filter_append]
  cases h : (wsIndent s1 (k + 1) != wsIndent s2 (k + 1)) <;> simp [h]
theorem rowsTo_len (s1 s2 : WS) (k : Nat) : (rowsTo s1 s2 k).length ≤ k := by
  unfold rowsTo
  rw [List.length_map]
  exact Nat.le_trans (List.length_filter_le _ _) (by simp)
theorem new_find (p : Params) : findIn (lawK p) (.ref 83) "longest_run_of_spaces" = some (some (.ref 45)) ∧ findIn (lawK p) (.ref 83) "indent_level" = some (some (.ref 52)) ∧ findIn (lawK p) (.ref 83) "not_equal_witness" = some (some (.ref 66)) := ⟨by kernel_rfl, by kernel_rfl, by kernel_rfl⟩
theorem new_type (p : Params) : typeIn (lawK p) (.ref 45) = some (.type "function") ∧ typeIn (lawK p) (.ref 52) = some (.type "function") ∧ typeIn (lawK p) (.ref 66) = some (.type "function") := ⟨by kernel_rfl, by kernel_rfl, by kernel_rfl⟩
theorem ws_new (X : Facts p G) {w1 w2 : PySem.Str} {s1 s2 : WS} (h1 : s1.cs.length ≤ 900) (h2 : s2.cs.length ≤ 900) (h3 : s1.b ≤ 900) (h4 : s2.b ≤ 900) (H : List AObj) :
    CALL G (n + 2) (.ref 66) [.inst (fieldsOf w1 s1), .inst (fieldsOf w2 s2)] H fun v H' => v = .dat (.list ((rowsOf s1 s2).map dRow)) ∧ H' = H := by
  refine CALL.body (vars := [("self", .inst (fieldsOf w1 s1)), ("other", .inst (fieldsOf w2 s2))]) X.new X.toOk (body_in rfl) (bind_of ["self", "other"] (fun vs h => ?_) (by decide) (loc_of (by kernel_rfl)) rfl rfl) (all_ne_cell rfl) fun L => ?_
  · match vs, h with
    | [v, u], _ => kernel_rfl
  have hN : max (wsLong s1) (wsLong s2) + 1 ≤ 901 := by unfold wsLong; omega
  have nf := new_find p
  have nt := new_type p
  refine EX.set (.inl rfl) (EV.bop (EV.bfn X rfl rfl (EVs.two (EV.methI X nf.1 nt.1 X.long (EV.var rfl ⟨_, rfl, rfl, EVs.nil ⟨rfl, (ws_long X (by omega) H).mono ?_⟩⟩)))))
  rintro v H' ⟨rfl, rfl⟩
  refine EV.methI X nf.1 nt.1 X.long (EV.var rfl ⟨_, rfl, rfl, EVs.nil ⟨rfl, (ws_long X (by omega) H').mono ?_⟩⟩)
  rintro v H ⟨rfl, rfl⟩
  refine OPL.max2 (EV.int (OP2.add ?_))
  have em : (if (wsLong s2 : Int) > (wsLong s1 : Int) then (wsLong s2 : Int) else (wsLong s1 : Int)) + 1 = ((max (wsLong s1) (wsLong s2) + 1 : Nat) : Int) := by split <;> omega
  rw [em]
  have hRows : rowsOf s1 s2 = rowsTo s1 s2 (max (wsLong s1) (wsLong s2) + 1) := rfl
  rw [hRows]
  clear em hRows
  generalize max (wsLong s1) (wsLong s2) + 1 = M at hN ⊢
  refine EX.set (.inl rfl) (EV.list (EVs.nil ⟨[], rfl, by decide, .inr ?_⟩))
  refine EX.for_ (EV.tfn X rfl rfl (EVs.two (EV.int (EV.bop (EV.var rfl (EV.int (OP2.add (OPL.range2 ?_))))))))
  refine ⟨_, .rng 1 _ _ (by omega) (by omega) (by omega) (by omega), fun k a => ∃ vars, a = ⟨vars, H ++ [.list ((rowsTo s1 s2 k).map dRow)], []⟩ ∧ SubA [("self", .inst (fieldsOf w1 s1)), ("other", .inst (fieldsOf w2 s2)), ("a", .ref H.length)] vars, ?_, ?_, ?_⟩
  · exact ⟨_, rfl, SubA.cons rfl (SubA.cons rfl (SubA.cons rfl .nil))⟩
  · rintro k d a2 hd ⟨vars, rfl, hv⟩
    have hk : k < M := by
      have := (List.getElem?_eq_some_iff.mp hd).1
      rw [List.length_map, List.length_range] at this
      omega
    have hd' : d = .int ((k + 1 : Nat) : Int) := by
      rw [List.getElem?_map, List.getElem?_range (show k < ((M : Int) + 1 - 1).toNat by omega)] at hd
      have := (Option.some.inj hd).symm
      rw [this]
      show DV.int ((1 : Int) + (k : Int)) = _
      rw [show ((1 : Int) + (k : Int)) = ((k + 1 : Nat) : Int) by omega]
    subst hd'
    refine ASG.name (.inl rfl) (EX.names _ (SubA.put hv) ?_)
    refine EX.iff (BT.cmp ?_)
    refine EV.methI X nf.2.1 nt.2.1 X.indent (EV.var rfl ⟨_, rfl, rfl, EVs.one (EV.var rfl ⟨rfl, (ws_indent X (by omega) (by omega) (by omega) _).mono ?_⟩)⟩)
    rintro v H' ⟨rfl, rfl⟩
    refine EV.methI X nf.2.1 nt.2.1 X.indent (EV.var rfl ⟨_, rfl, rfl, EVs.one (EV.var rfl ⟨rfl, (ws_indent X (by omega) (by omega) (by omega) _).mono ?_⟩)⟩)
    rintro v H' ⟨rfl, rfl⟩
    refine OP2.ne ⟨_, rfl, fun q => ?_, fun q => ?_⟩
    all_goals rw [show (((wsIndent s1 (k + 1) : Nat) : Int) != ((wsIndent s2 (k + 1) : Nat) : Int)) = (wsIndent s1 (k + 1) != wsIndent s2 (k + 1)) from by
      by_cases z : wsIndent s1 (k + 1) = wsIndent s2 (k + 1)
      · rw [z]; simp
      · have : ¬ ((wsIndent s1 (k + 1) : Nat) : Int) = ((wsIndent s2 (k + 1) : Nat) : Int) := by omega
        show (!(_ == _)) = !(_ == _)
        rw [beq_false_of_ne this, beq_false_of_ne z]] at q
    · refine EX.expr (EV.meth PySem.F.plainAttrs_list PySem.F.slot_list_append PySem.F.type_list_append (EV.var rfl ⟨.inl ⟨_, last_get _ _, rfl⟩, EVs.one (EV.tuple (EVs.three (EV.var rfl ?_)))⟩))
      refine EV.methI X nf.2.1 nt.2.1 X.indent (EV.var rfl ⟨_, rfl, rfl, EVs.one (EV.var rfl ⟨rfl, (ws_indent X (by omega) (by omega) (by omega) _).mono ?_⟩)⟩)
      rintro v H' ⟨rfl, rfl⟩
      refine EV.methI X nf.2.1 nt.2.1 X.indent (EV.var rfl ⟨_, rfl, rfl, EVs.one (EV.var rfl ⟨rfl, (ws_indent X (by omega) (by omega) (by omega) _).mono ?_⟩)⟩)
      rintro v H' ⟨rfl, rfl⟩
      refine ⟨[.int ((k + 1 : Nat) : Int), .int (wsIndent s1 (k + 1) : Nat), .int (wsIndent s2 (k + 1) : Nat)], rfl, by simp, OPL.append (last_get _ _) (by have := rowsTo_len s1 s2 k; simp; omega) ?_⟩
      rw [last_set]
      have e : (rowsTo s1 s2 k).map dRow ++ [DV.tup [.int ((k + 1 : Nat) : Int), .int (wsIndent s1 (k + 1) : Nat), .int (wsIndent s2 (k + 1) : Nat)]] = (rowsTo s1 s2 (k + 1)).map dRow := by
        rw [rowsTo_succ, if_pos q, List.map_append]; rfl
      rw [e]
      exact EX.nilA (EX.nil ⟨_, rfl, SubA.cons rfl (SubA.cons rfl (SubA.cons rfl .nil))⟩)
    · have e : rowsTo s1 s2 k = rowsTo s1 s2 (k + 1) := by rw [rowsTo_succ, if_neg (by rw [q]; decide)]
      rw [e]
      exact EX.nilA (EX.nil ⟨_, rfl, SubA.cons rfl (SubA.cons rfl (SubA.cons rfl .nil))⟩)
  · rintro N a2 hN' ⟨vars, rfl, hv⟩
    have hN' : N = M := by rw [← hN', List.length_map, List.length_range]; omega
    subst hN'
    refine EX.nilA (EX.freezeL (vars := [("a", .dat (.list ((rowsTo s1 s2 N).map dRow)))]) (last_get _ _) (fun x v e => .inr ?_) ?_)
    · rw [List.lookup_cons] at e
      cases q : x == ("a" : PySem.Str) with
      | true =>
        rw [q] at e; cases e
        rw [eq_of_beq q]
        exact ⟨rfl, hv _ _ rfl⟩
      | false => rw [q] at e; cases e
    · refine EX.ret (EV.var rfl ⟨rfl, rfl, ?_⟩)
      show List.take H.length ((H ++ _).set H.length _) = H
      rw [last_set, last_take]
end
end Mine

namespace Mine
theorem EV.dict1 {G : Base} {n : Nat} {F : Fm} {a : AS} {P : AV → AS → Prop} {x : PySem.Str} {i k : Int} {c : Nat} {p1 p2 pos : Pos} (hx : a.vars.lookup x = some (.dat (.int k))) (hP : P (.ref a.heap.length) { a with heap := a.heap ++ [.dict [(k, i)]] }) (hd : (x == ("__debug__" : PySem.Str)) = false := by rfl) :
    EV G n F a (.Dict [some (.Name x p1)] [.Constant (.int i) c p2] pos) P := by
  refine ⟨fun A prv φ s Q hA R hQ => ?_⟩
  refine wpAny_Dict_pairs (knd := intKind G.prog G.w) (pairs := [(eval (.Name x p1) F.env, do let x ← eval (.Constant (.int i) c p2) F.env; standAt pos; pure x)]) rfl (by simp) (by simp) ?_
  have hk : ∀ b o, s.heap.get? b = some o → (s.heap.push { cls := .type "dict", data := .dict #[] }).get? b = some o := fun b o e => Heap.get?_push_of_some _ e
  have R1 := R.keeps hk
  refine evalPairs_cons (wpAny_Name (load_var (s := { s with heap := s.heap.push { cls := .type "dict", data := .dict #[] } }) R1 hx fun cv V => ?_) hd)
  cases V
  refine wpAny_bind (wpAny_Constant_int (wpAny_bind (wpAny_standAt (wpAny_pure ?_))))
  refine evalPairs_nil ⟨[(k, .int i _)], ⟨by simp [intKind, Value.isInt], rfl, trivial⟩, Heap.DictOf.new _, fun h' hm hs => ?_⟩
  obtain ⟨ep, hm'⟩ := dictAt_of hm
  have hk' : ∀ b o, s.heap.get? b = some o → h'.get? b = some o := fun b o e => (hs.2 b (Nat.ne_of_lt (Heap.lt_size e))).trans (hk b o e)
  exact hQ.newDict R hP (led_keeps hk') hm' (.cons k i _ .nil) _

/-! ## _law_orders -/
def cnd (one pl step : Nat) : Bool := (one >>> pl) % 2 == 1 && (one >>> (pl - step)) % 2 == 0
def low (one pl step : Nat) : Nat := one - 2 ^ pl + 2 ^ (pl - step)
def putN (kvs : List (Nat × Nat)) (k m : Nat) : List (Nat × Nat) := if kvs.any (fun kv => kv.1 == k) then kvs.map (fun kv => if kv.1 == k then (kv.1, m) else kv) else kvs ++ [(k, m)]
def getN (kvs : List (Nat × Nat)) (k : Nat) : Nat := (kvs.lookup k).getD 0
def plF (one v step : Nat) : List Nat → List (Nat × Nat) → List (Nat × Nat)
  | [], l => l
  | pl :: r, l => plF one v step r (if cnd one pl step then putN l (low one pl step) (getN l (low one pl step) + v) else l)
def onesF (step : Nat) (pls : List Nat) : List (Nat × Nat) → List (Nat × Nat) → List (Nat × Nat)
  | [], l => l
  | (o, v) :: r, l => onesF step pls r (plF o v step pls l)
/-- the places of a turn -/
def plsOf (step places : Nat) : List Nat := (List.range (places - step)).map (step + ·)
/-- the turns; none where a table outgrows the rules -/
def runF (step places : Nat) : Nat → List (Nat × Nat) → Nat → Option (List (Nat × Nat) × Nat)
  | 0, l, k => some (l, k)
  | f + 1, l, k =>
    let l' := onesF step (plsOf step places) l []
    if l'.length ≤ 9000 then (if l' = [] then some (l, k) else runF step places f l' (k + 1)) else none

def toI (kvs : List (Nat × Nat)) : List (Int × Int) := kvs.map fun kv => ((kv.1 : Int), (kv.2 : Int))
theorem toI_put (kvs : List (Nat × Nat)) (k m : Nat) : (if (toI kvs).any (fun kv => kv.1 = (k : Int)) then (toI kvs).map (fun kv => if kv.1 = (k : Int) then (kv.1, (m : Int)) else kv) else toI kvs ++ [((k : Int), (m : Int))]) = toI (putN kvs k m) := by
  have h1 : (toI kvs).any (fun kv => kv.1 = (k : Int)) = kvs.any (fun kv => kv.1 == k) := by
    unfold toI
    rw [List.any_map]
    congr 1
    funext kv
    by_cases q : kv.1 = k
    · simp [q]
    · have : ¬ (kv.1 : Int) = (k : Int) := by omega
      simp [q, this]
  have h2 : (toI kvs).map (fun kv => if kv.1 = (k : Int) then (kv.1, (m : Int)) else kv) = toI (kvs.map (fun kv => if kv.1 == k then (kv.1, m) else kv)) := by
    unfold toI
    rw [List.map_map, List.map_map]
    congr 1
    funext kv
    by_cases q : kv.1 = k
    · simp [q]
    · have : ¬ (kv.1 : Int) = (k : Int) := by omega
      simp [q, this]
  unfold putN
  rw [h1, h2]
  split
  · rfl
  · simp [toI]
theorem toI_get (kvs : List (Nat × Nat)) (k : Nat) : (toI kvs).lookup (k : Int) = (kvs.lookup k).map fun (m : Nat) => (m : Int) := by
  induction kvs with
  | nil => rfl
  | cons kv r ih =>
    show List.lookup (k : Int) (((kv.1 : Int), (kv.2 : Int)) :: toI r) = _
    rw [List.lookup_cons, List.lookup_cons, ih]
    by_cases q : k = kv.1
    · subst q; simp
    · have h1 : (k == kv.1) = false := by simpa using q
      have h2 : ((k : Int) == (kv.1 : Int)) = false := by
        have : ¬ (k : Int) = (kv.1 : Int) := by omega
        simpa using this
      rw [h1, h2]
theorem put_nd {kvs : List (Nat × Nat)} {k m : Nat} (h : (kvs.map (·.1)).Nodup) : ((putN kvs k m).map (·.1)).Nodup := by
  unfold putN
  split
  · have : (kvs.map (fun kv => if kv.1 == k then (kv.1, m) else kv)).map (·.1) = kvs.map (·.1) := by
      rw [List.map_map]; congr 1; funext kv; simp only [Function.comp]; split <;> rfl
    rw [this]; exact h
  · rename_i q
    rw [List.map_append, List.nodup_append]
    refine ⟨h, by simp, fun a ha b hb => ?_⟩
    have : b = k := by simpa using hb
    subst this
    intro z
    subst z
    obtain ⟨kv, h1, h2⟩ := List.mem_map.mp ha
    exact q (List.any_eq_true.mpr ⟨kv, h1, by simpa using h2⟩)
theorem put_len (kvs : List (Nat × Nat)) (k m : Nat) : kvs.length ≤ (putN kvs k m).length := by
  unfold putN; split <;> simp
theorem plF_len (one v step : Nat) : ∀ (pls : List Nat) (l : List (Nat × Nat)), l.length ≤ (plF one v step pls l).length
  | [], l => Nat.le_refl _
  | pl :: r, l => by
    rw [plF]
    refine Nat.le_trans ?_ (plF_len one v step r _)
    split
    · exact put_len ..
    · exact Nat.le_refl _
theorem plF_nd (one v step : Nat) : ∀ (pls : List Nat) (l : List (Nat × Nat)), (l.map (·.1)).Nodup → ((plF one v step pls l).map (·.1)).Nodup
  | [], l, h => h
  | pl :: r, l, h => by
    rw [plF]
    refine plF_nd one v step r _ ?_
    split
    · exact put_nd h
    · exact h
theorem onesF_len (step : Nat) (pls : List Nat) : ∀ (os l : List (Nat × Nat)), l.length ≤ (onesF step pls os l).length
  | [], l => Nat.le_refl _
  | (o, v) :: r, l => Nat.le_trans (plF_len o v step pls l) (onesF_len step pls r _)
theorem onesF_nd (step : Nat) (pls : List Nat) : ∀ (os l : List (Nat × Nat)), (l.map (·.1)).Nodup → ((onesF step pls os l).map (·.1)).Nodup
  | [], l, h => h
  | (o, v) :: r, l, h => onesF_nd step pls r _ (plF_nd o v step pls l h)
theorem lookup_nd : ∀ {kvs : List (Nat × Nat)} {k v : Nat}, (kvs.map (·.1)).Nodup → (k, v) ∈ kvs → kvs.lookup k = some v
  | [], _, _, _, h => by cases h
  | kv :: r, k, v, hn, h => by
    rw [List.lookup_cons]
    rcases List.mem_cons.mp h with h | h
    · rw [← h]; simp
    · have hne : (k == kv.1) = false := by
        have := (List.nodup_cons.mp hn).1
        have : ¬ k = kv.1 := fun z => this (List.mem_map.mpr ⟨(k, v), h, z⟩)
        simpa using this
      rw [hne]
      exact lookup_nd (List.nodup_cons.mp hn).2 h

theorem shr_and (one pl : Nat) : Builtin.bitAnd (Int.fdiv (one : Int) (2 ^ ((pl : Int)).toNat)) 1 = (((one >>> pl) % 2 : Nat) : Int) := by
  rw [Int.toNat_natCast, Int.fdiv_eq_ediv_of_nonneg _ (by have := Nat.two_pow_pos pl; have : (0 : Int) ≤ ((2 ^ pl : Nat) : Int) := Int.natCast_nonneg _; simpa using this)]
  have : (one : Int) / 2 ^ pl = ((one >>> pl : Nat) : Int) := by rw [Nat.shiftRight_eq_div_pow]; simp
  rw [this]
  have := bAnd (one >>> pl) 1
  rw [Nat.and_one_is_mod] at this
  simpa using this
theorem low_int {one pl step : Nat} (h : (one >>> pl) % 2 = 1) : (one : Int) - 1 * 2 ^ ((pl : Int)).toNat + 1 * 2 ^ ((pl - step : Nat) : Int).toNat = ((low one pl step : Nat) : Int) := by
  have h1 : 2 ^ pl ≤ one := by
    rw [Nat.shiftRight_eq_div_pow] at h
    rcases Nat.lt_or_ge one (2 ^ pl) with q | q
    · rw [Nat.div_eq_of_lt q] at h; simp at h
    · exact q
  unfold low
  rw [Int.toNat_natCast, Int.toNat_natCast]
  have e1 : ((2 : Int) ^ pl) = ((2 ^ pl : Nat) : Int) := by simp
  have e2 : ((2 : Int) ^ (pl - step)) = ((2 ^ (pl - step) : Nat) : Int) := by simp
  rw [e1, e2]
  omega

section
variable {p : Params} {G : Base} {n : Nat}
theorem law_orders (X : Facts p G) {mask step places : Nat} (hs : step ≤ 1000) (hp : places ≤ 1000) {os : List (Nat × Nat)} {pu : Nat} (hrun : runF step places 20 [(mask, 1)] 0 = some (os, pu)) (H : List AObj) :
    CALL G (n + 1) (.ref 127) [.dat (.int mask), .dat (.int step), .dat (.int places)] H fun v H' => v = .dat (.tup [.idict (toI os), .int pu]) ∧ H' = H := by
  refine CALL.body (vars := [("mask", .dat (.int mask)), ("step", .dat (.int step)), ("places", .dat (.int places))]) X.ord X.toOk (body_in rfl) (bind_of ["mask", "step", "places"] (fun vs h => ?_) (by decide) (loc_of (by kernel_rfl)) rfl rfl) (all_ne_cell rfl) fun L => ?_
  · match vs, h with
    | [v, u, w], _ => kernel_rfl
  refine EX.set (.inl rfl) (EV.dict1 rfl ?_)
  refine EX.set (.inl rfl) (EV.int ?_)
  refine EX.names [("orders", .ref H.length), ("step", .dat (.int step)), ("places", .dat (.int places)), ("pushes", .dat (.int 0))] (SubA.cons rfl (SubA.cons rfl (SubA.cons rfl (SubA.cons rfl .nil)))) ?_
  refine EX.freezeD X.toOk (vars := [("orders", .dat (.idict (toI [(mask, 1)]))), ("step", .dat (.int step)), ("places", .dat (.int places)), ("pushes", .dat (.int ((0 : Nat) : Int)))]) (last_get _ _) (fun x v e => ?_) ?_
  · rw [List.lookup_cons] at e
    cases q : x == ("orders" : PySem.Str) with
    | true => rw [q] at e; cases e; rw [eq_of_beq q]; exact .inr ⟨rfl, rfl⟩
    | false => rw [q] at e; left; show List.lookup x (_ :: _) = _; rw [List.lookup_cons, q]; exact e
  refine EX.pop (k := H.length) (Nat.le_refl _) (by simp) (fun x i e => ?_) ?_
  · exfalso
    change List.lookup x [("orders", _), ("step", _), ("places", _), ("pushes", _)] = _ at e
    simp only [List.lookup_cons] at e
    repeat' split at e
    all_goals cases e
  have eH : ((H ++ [AObj.dict [((mask : Int), 1)]]).set H.length .dead).take H.length = H := by rw [last_set, last_take]
  show EX G n _ ⟨_, ((H ++ [AObj.dict [((mask : Int), 1)]]).set H.length .dead).take H.length, []⟩ _ _
  rw [eH]
  refine EX.for_ (EV.tfn X rfl rfl (EVs.one (EV.int (OPL.range1 ?_))))
  refine ⟨_, .rng 0 20 _ (by decide) (by decide) (by decide) (by decide), fun t a => ∃ (vars : List (PySem.Str × AV)) (l : List (Nat × Nat)) (k : Nat), a = ⟨vars, H, []⟩ ∧ SubA [("orders", .dat (.idict (toI l))), ("step", .dat (.int step)), ("places", .dat (.int places)), ("pushes", .dat (.int k))] vars ∧ (l.map (·.1)).Nodup ∧ runF step places (20 - t) l k = some (os, pu), ?_, ?_, ?_⟩
  · exact ⟨_, [(mask, 1)], 0, rfl, SubA.cons rfl (SubA.cons rfl (SubA.cons rfl (SubA.cons rfl .nil))), by simp, hrun⟩
  · rintro t d a2 hd ⟨vars, l, k, rfl, hv, hnd, hr⟩
    have ht : t < 20 := by
      have := (List.getElem?_eq_some_iff.mp hd).1
      simpa using this
    obtain ⟨f, hf⟩ : ∃ f, 20 - t = f + 1 := ⟨20 - t - 1, by omega⟩
    rw [hf, runF] at hr
    have hr' : (onesF step (plsOf step places) l []).length ≤ 9000 := by
      by_cases q : (onesF step (plsOf step places) l []).length ≤ 9000
      · exact q
      · simp [q] at hr
    simp only [hr', if_true] at hr
    refine ASG.name (.inl rfl) (EX.names _ (SubA.put hv) ?_)
    refine EX.set (.inl rfl) (EV.dict0 ?_)
    generalize hL' : onesF step (plsOf step places) l [] = l' at hr hr'
    have hnd' : (l'.map (·.1)).Nodup := by rw [← hL']; exact onesF_nd _ _ _ _ (by simp)
    refine EX.for_ (EV.var rfl ⟨_, .idict _ _, fun j a => ∃ (vars : List (PySem.Str × AV)) (lt : List (Nat × Nat)), a = ⟨vars, H ++ [.dict (toI lt)], []⟩ ∧ SubA [("orders", .dat (.idict (toI l))), ("step", .dat (.int step)), ("places", .dat (.int places)), ("pushes", .dat (.int k)), ("later", .ref H.length)] vars ∧ onesF step (plsOf step places) (l.drop j) lt = l', ?_, ?_, ?_⟩)
    · exact ⟨_, [], rfl, SubA.cons rfl (SubA.cons rfl (SubA.cons rfl (SubA.cons rfl (SubA.cons rfl .nil)))), hL'⟩
    · rintro j d a2 hd ⟨vars, lt, rfl, hv, hlt⟩
      have hj : j < l.length := by
        have := (List.getElem?_eq_some_iff.mp hd).1
        simpa [toI] using this
      obtain ⟨⟨one, v⟩, hov⟩ : ∃ ov, l[j]? = some ov := ⟨_, List.getElem?_eq_getElem hj⟩
      have hd' : d = .int (one : Nat) := by
        rw [List.getElem?_map] at hd
        unfold toI at hd
        rw [List.getElem?_map, hov] at hd
        simpa using hd.symm
      subst hd'
      have hdrop : l.drop j = (one, v) :: l.drop (j + 1) := by
        rw [List.drop_eq_getElem_cons hj]
        congr 1
        rw [List.getElem?_eq_getElem hj] at hov
        simpa using hov
      have hlook : (toI l).lookup (one : Int) = some (v : Int) := by rw [toI_get, lookup_nd hnd (List.mem_of_getElem? hov)]; rfl
      rw [hdrop, onesF] at hlt
      generalize hl1 : plF one v step (plsOf step places) lt = lt1 at hlt
      have hl1' : lt1.length ≤ 9000 := by
        have := onesF_len step (plsOf step places) (l.drop (j + 1)) lt1
        rw [hlt] at this; omega
      refine ASG.name (.inl rfl) (EX.names _ (SubA.put hv) ?_)
      refine EX.for_ (EV.tfn X rfl rfl (EVs.two (EV.var rfl (EV.var rfl (OPL.range2 ?_)))))
      refine ⟨_, .rng step places _ (by omega) (by omega) (by omega) (by omega), fun i a => ∃ (vars : List (PySem.Str × AV)) (lm : List (Nat × Nat)), a = ⟨vars, H ++ [.dict (toI lm)], []⟩ ∧ SubA [("one", .dat (.int one)), ("orders", .dat (.idict (toI l))), ("step", .dat (.int step)), ("places", .dat (.int places)), ("pushes", .dat (.int k)), ("later", .ref H.length)] vars ∧ plF one v step ((plsOf step places).drop i) lm = lt1, ?_, ?_, ?_⟩
      · exact ⟨_, lt, rfl, SubA.cons rfl (SubA.cons rfl (SubA.cons rfl (SubA.cons rfl (SubA.cons rfl (SubA.cons rfl .nil))))), hl1⟩
      · rintro i d a2 hd ⟨vars, lm, rfl, hv, hlm⟩
        have hi : i < places - step := by
          have := (List.getElem?_eq_some_iff.mp hd).1
          rw [List.length_map, List.length_range] at this
          omega
        have hd' : d = .int ((step + i : Nat) : Int) := by
          rw [List.getElem?_map, List.getElem?_range (show i < ((places : Int) - step).toNat by omega)] at hd
          have := (Option.some.inj hd).symm
          rw [this]
          show DV.int ((step : Int) + (i : Int)) = _
          rw [show ((step : Int) + (i : Int)) = ((step + i : Nat) : Int) by omega]
        subst hd'
        have hpl : (plsOf step places).drop i = (step + i) :: (plsOf step places).drop (i + 1) := by
          have hlen : i < (plsOf step places).length := by simp [plsOf, hi]
          rw [List.drop_eq_getElem_cons hlen]
          congr 1
          simp [plsOf]
        rw [hpl, plF] at hlm
        generalize hpg : step + i = pl at hlm ⊢
        have hps : step ≤ pl := by omega
        have hpb : pl ≤ 1000 := by omega
        refine ASG.name (.inl rfl) (EX.names _ (SubA.put hv) ?_)
        have esub : (pl : Int) - (step : Int) = ((pl - step : Nat) : Int) := by omega
        refine EX.iff (BT.and2 (BT.cmp (EV.bop (EV.bop (EV.var rfl (EV.var rfl (OP2.shr (by omega) (EV.int (OP2.and (EV.int (OP2.eq ⟨_, rfl, ?_⟩)))))))))))
        rw [shr_and]
        have e1 : (((((one >>> pl) % 2 : Nat) : Int)) == 1) = ((one >>> pl) % 2 == 1) := by
          rcases Nat.mod_two_eq_zero_or_one (one >>> pl) with q | q <;> rw [q] <;> rfl
        rw [e1]
        have skip : cnd one pl step = false → ∀ vars', SubA [("one", .dat (.int one)), ("orders", .dat (.idict (toI l))), ("step", .dat (.int step)), ("places", .dat (.int places)), ("pushes", .dat (.int k)), ("later", .ref H.length)] vars' → ∃ (vars : List (PySem.Str × AV)) (lm2 : List (Nat × Nat)), (⟨vars', H ++ [.dict (toI lm)], []⟩ : AS) = ⟨vars, H ++ [.dict (toI lm2)], []⟩ ∧ SubA [("one", .dat (.int one)), ("orders", .dat (.idict (toI l))), ("step", .dat (.int step)), ("places", .dat (.int places)), ("pushes", .dat (.int k)), ("later", .ref H.length)] vars ∧ plF one v step ((plsOf step places).drop (i + 1)) lm2 = lt1 := by
          intro hc vars' hv'
          rw [hc] at hlm
          exact ⟨vars', lm, rfl, hv', hlm⟩
        cases hb1 : ((one >>> pl) % 2 == 1) with
        | false =>
          show (false = true → _) ∧ (false = false → _)
          refine ⟨fun z => (nomatch z), fun _ => EX.nilA (EX.nil (skip (by unfold cnd; rw [hb1]; rfl) _ ?_))⟩
          exact SubA.cons rfl (SubA.cons rfl (SubA.cons rfl (SubA.cons rfl (SubA.cons rfl (SubA.cons rfl .nil)))))
        | true =>
          show BT G n _ _ _ _
          refine BT.cmp (EV.bop (EV.bop (EV.var rfl (EV.bop (EV.var rfl (EV.var rfl (OP2.sub ?_)))))))
          rw [esub]
          refine OP2.shr (by omega) (EV.int (OP2.and (EV.int (OP2.eq ⟨_, rfl, ?_⟩))))
          rw [shr_and]
          have e2 : (((((one >>> (pl - step)) % 2 : Nat) : Int)) == 0) = ((one >>> (pl - step)) % 2 == 0) := by
            rcases Nat.mod_two_eq_zero_or_one (one >>> (pl - step)) with q | q <;> rw [q] <;> rfl
          rw [e2]
          refine ⟨fun q => ?_, fun q => ?_⟩
          · have hc : cnd one pl step = true := by unfold cnd; rw [hb1, q]; rfl
            rw [hc] at hlm
            have hone : (one >>> pl) % 2 = 1 := by simpa using hb1
            refine EX.set (.inl rfl) (EV.bop (EV.bop (EV.var rfl (EV.bop (EV.int (EV.var rfl (OP2.shl (by decide) (by omega) (by omega) (OP2.sub (EV.bop (EV.int (EV.bop (EV.var rfl (EV.var rfl (OP2.sub ?_))))))))))))))
            rw [esub]
            refine OP2.shl (by decide) (by omega) (by omega) (OP2.add ?_)
            rw [low_int hone]
            generalize hlow : low one pl step = lwr at hlm ⊢
            have hlm9 : lm.length ≤ 9000 := by
              have h1 := put_len lm lwr (getN lm lwr + v)
              have h2 := plF_len one v step ((plsOf step places).drop (i + 1)) (putN lm lwr (getN lm lwr + v))
              rw [if_pos rfl] at hlm
              rw [hlm] at h2; omega
            refine EX.setItem (EV.bop (EV.meth PySem.F.plainAttrs_dict PySem.F.slot_dict_get PySem.F.type_dict_get (EV.var rfl ⟨.inr ⟨_, last_get _ _, rfl⟩, EVs.two (EV.var rfl (EV.int (OPL.getI X.toOk (.inr ⟨_, rfl, last_get _ _⟩) ?_)))⟩)))
            have eg : ((toI lm).lookup (lwr : Int)).getD 0 = ((getN lm lwr : Nat) : Int) := by
              rw [toI_get]; unfold getN
              cases lm.lookup lwr <;> rfl
            rw [eg]
            refine EV.sub (EV.var rfl (EV.var rfl (OP2.itemD X.toOk (.inl rfl) hlook (OP2.add (EV.var rfl (EV.var rfl ⟨_, _, rfl, rfl, .inr ⟨_, _, rfl, last_get _ _, by simp [toI]; omega, ?_⟩⟩))))))
            have ea : ((getN lm lwr : Nat) : Int) + (v : Int) = ((getN lm lwr + v : Nat) : Int) := by omega
            rw [last_set, ea, toI_put]
            refine EX.nilA (EX.nil ⟨_, _, rfl, ?_, hlm⟩)
            exact SubA.cons rfl (SubA.cons rfl (SubA.cons rfl (SubA.cons rfl (SubA.cons rfl (SubA.cons rfl .nil)))))
          · refine EX.nilA (EX.nil (skip (by unfold cnd; rw [hb1, q]; rfl) _ ?_))
            exact SubA.cons rfl (SubA.cons rfl (SubA.cons rfl (SubA.cons rfl (SubA.cons rfl (SubA.cons rfl .nil)))))
      · rintro N a2 hN ⟨vars, lm, rfl, hv, hlm⟩
        have hN : N = (plsOf step places).length := by rw [← hN]; simp [plsOf]
        subst hN
        rw [List.drop_length, plF] at hlm
        subst hlm
        refine EX.nilA (EX.nil ⟨vars, lm, rfl, ?_, hlt⟩)
        exact SubA.trans (SubA.cons rfl (SubA.cons rfl (SubA.cons rfl (SubA.cons rfl (SubA.cons rfl .nil))))) hv
    · rintro N a2 hN ⟨vars, lt, rfl, hv, hlt⟩
      have hN : N = l.length := by rw [← hN]; simp [toI]
      subst hN
      rw [List.drop_length, onesF] at hlt
      subst hlt
      refine EX.nilA (EX.names _ hv ?_)
      refine EX.iff (BT.cmp (EV.bfn X rfl rfl (EVs.one (EV.var rfl (OPL.lenD X.toOk (.inr ⟨_, rfl, last_get _ _⟩) (by simp [toI]; omega) (EV.int (OP2.eq ⟨_, rfl, fun q => ?_, fun q => ?_⟩)))))))
      · have h0 : lt = [] := by simpa [toI] using q
        subst h0
        have hr : some (l, k) = some (os, pu) := by simpa using hr
        obtain ⟨rfl, rfl⟩ : l = os ∧ k = pu := by simpa using hr
        refine EX.brk (EX.ret (EV.tuple (EVs.two (EV.var rfl (EV.var rfl ⟨[.idict (toI l), .int k], rfl, by simp, ?_⟩)))))
        exact ⟨rfl, rfl, last_take _ _⟩
      · have h0 : lt ≠ [] := fun z => by subst z; simp [toI] at q
        simp only [h0, if_false] at hr
        refine EX.nilA (EX.set (.inl rfl) (EV.var rfl ?_))
        refine EX.set (.inl rfl) (EV.bop (EV.var rfl (EV.int (OP2.add ?_))))
        refine EX.names [("orders", .ref H.length), ("step", .dat (.int step)), ("places", .dat (.int places)), ("pushes", .dat (.int ((k : Int) + 1)))] (SubA.cons rfl (SubA.cons rfl (SubA.cons rfl (SubA.cons rfl .nil)))) ?_
        refine EX.freezeD X.toOk (vars := [("orders", .dat (.idict (toI lt))), ("step", .dat (.int step)), ("places", .dat (.int places)), ("pushes", .dat (.int ((k : Int) + 1)))]) (last_get _ _) (fun x v e => ?_) ?_
        · rw [List.lookup_cons] at e
          cases q : x == ("orders" : PySem.Str) with
          | true => rw [q] at e; cases e; rw [eq_of_beq q]; exact .inr ⟨rfl, rfl⟩
          | false => rw [q] at e; left; show List.lookup x (_ :: _) = _; rw [List.lookup_cons, q]; exact e
        refine EX.pop (k := H.length) (Nat.le_refl _) (by simp) (fun x i e => ?_) ?_
        · exfalso
          change List.lookup x [("orders", _), ("step", _), ("places", _), ("pushes", _)] = _ at e
          simp only [List.lookup_cons] at e
          repeat' split at e
          all_goals cases e
        have eH : ((H ++ [AObj.dict (toI lt)]).set H.length .dead).take H.length = H := by rw [last_set, last_take]
        show EX G n _ ⟨_, ((H ++ [AObj.dict (toI lt)]).set H.length .dead).take H.length, []⟩ _ _
        rw [eH]
        refine EX.nil ⟨_, lt, k + 1, rfl, SubA.cons rfl (SubA.cons rfl (SubA.cons rfl (SubA.cons rfl .nil))), hnd', ?_⟩
        rw [show 20 - (t + 1) = f by omega]
        exact hr
  · rintro N a2 hN ⟨vars, l, k, rfl, hv, hnd, hr⟩
    have hN : N = 20 := by rw [← hN]; simp
    subst hN
    have hr : some (l, k) = some (os, pu) := hr
    obtain ⟨rfl, rfl⟩ : l = os ∧ k = pu := by simpa using hr
    refine EX.nilA (EX.names _ hv ?_)
    refine EX.ret (EV.tuple (EVs.two (EV.var rfl (EV.var rfl ⟨[.idict (toI l), .int k], rfl, by simp, ?_⟩))))
    exact ⟨rfl, rfl, List.take_length⟩
end
end Mine

namespace Mine
variable {G : Base}
def OuterTree (tgt iter iter1 : Expr) (e : Expr) (I D : Value) (env : Env) : Sem Fin := do
  standAt iter.pos
  match ← pyNext I with
  | none => pure (.done .next)
  | some v =>
    letOwnedTupleGo tgt I v
    assign tgt env v
    let x ← eval iter1 env
    standAt iter1.pos
    let x ← foldedSetIterable iter1 env x
    let _ ← runOwn (.compStart e 1 (← holding [x] (pyIter x)) D env) env
    again (.compLoop e 0 I D env)
theorem compTurn_outer (elt tgt iter tgt1 iter1 : Expr) (ifs1 : List Expr) (scope : Scope) (pos : Pos) (I D : Value) (env : Env) :
    compTurn (.ListComp elt [⟨tgt, iter, [], 0⟩, ⟨tgt1, iter1, ifs1, 0⟩] scope pos) 0 I D env = OuterTree tgt iter iter1 (.ListComp elt [⟨tgt, iter, [], 0⟩, ⟨tgt1, iter1, ifs1, 0⟩] scope pos) I D env := by rfl
theorem compTurn_inner (elt tgt iter tgt1 iter1 : Expr) (ifs1 : List Expr) (scope : Scope) (pos : Pos) (I D : Value) (env : Env) :
    compTurn (.ListComp elt [⟨tgt, iter, [], 0⟩, ⟨tgt1, iter1, ifs1, 0⟩] scope pos) 1 I D env = EmitTree tgt1 iter1 ifs1 elt (.compLoop (.ListComp elt [⟨tgt, iter, [], 0⟩, ⟨tgt1, iter1, ifs1, 0⟩] scope pos) 1 I D env) I D env := by rfl

theorem start_inner {prog : Program} {w : World} {A : Around} {R : Result → Shared → Prop} {s : Shared} {elt tgt iter tgt1 iter1 : Expr} {ifs1 : List Expr} {scope : Scope} {pos : Pos} {it acc : Value} {env : Env}
    (h0 : codeAny (model prog w) A (.compLoop (.ListComp elt [⟨tgt, iter, [], 0⟩, ⟨tgt1, iter1, ifs1, 0⟩] scope pos) 1 it acc env) R s)
    (h : wpAny (model prog w) A (pyIter it) (fun it' s' => codeAny (model prog w) A (.compLoop (.ListComp elt [⟨tgt, iter, [], 0⟩, ⟨tgt1, iter1, ifs1, 0⟩] scope pos) 1 it' acc env) R s') (notedBy (model prog w) A env fun x s' => R (.error x) s') s) :
    codeAny (model prog w) A (.compStart (.ListComp elt [⟨tgt, iter, [], 0⟩, ⟨tgt1, iter1, ifs1, 0⟩] scope pos) 1 it acc env) R s := by
  refine codeAny_of_tree ?_
  show wpAny _ _ ((compStart (.ListComp elt [⟨tgt, iter, [], 0⟩, ⟨tgt1, iter1, ifs1, 0⟩] scope pos) 1 it acc env).onRaise (fun x => do noteFrame x env; standAt theWindowsPlace)) _ _ s
  refine wpAny_notedAt ?_
  unfold compStart
  show wpAny _ _ (ask >>= _) _ _ s
  refine wpAny_bind (wpAny_askSetting (wpAny_ite ?_))
  split
  · first
      | exact wpAny_bind (wpAny_pure (wpAny_pure (And.intro rfl h0)))
      | exact wpAny_pure (And.intro rfl h0)
  · refine wpAny_bind (wpAny_rule ?_)
    show wpAny _ _ (standAt iter1.pos >>= _) _ _ s
    exact wpAny_bind (wpAny_standAt (wpAny_bind (wpAny_mono h (fun it' s' h' => wpAny_pure (And.intro rfl h')) fun _ _ x => x)))

variable (G) in
/-- what one item of the first clause becomes -/
def Turn2 (n : Nat) (F : Fm) (vars : List (PySem.Str × AV)) (H : List AObj) (tgt tgt1 iter1 : Expr) (ifs1 : List Expr) (elt : Expr) (g : DV → List DV) (d : DV) : Prop :=
  ASG G n F ⟨vars, H, []⟩ tgt (.dat d) fun a3 => Sub vars a3.vars ∧ a3.heap = H ∧ EV G n F a3 iter1 fun v1 a4 => a4.heap = H ∧ ∃ (items1 : List DV) (vars1 : List (PySem.Str × AV)) (g1 : DV → Option DV), Sub vars vars1 ∧ Sub vars1 a4.vars ∧ ItemsOf v1 tgt1 items1 ∧ items1.length ≤ 1000 ∧ g d = items1.filterMap g1 ∧
    ∀ (k : Nat) (d1 : DV), items1[k]? = some d1 → Turn G n F vars1 H tgt1 ifs1 elt g1 d1

theorem flat_snoc {α β : Type} (f : α → List β) (xs : List α) (k : Nat) (x : α) (h : xs[k]? = some x) : (xs.take (k + 1)).flatMap f = (xs.take k).flatMap f ++ f x := by
  rw [List.take_add_one, h, List.flatMap_append]
  simp
theorem flat_take_le {α β : Type} (f : α → List β) (xs : List α) (k : Nat) : ((xs.take k).flatMap f).length ≤ (xs.flatMap f).length := by
  have : xs.flatMap f = (xs.take k).flatMap f ++ (xs.drop k).flatMap f := by rw [← List.flatMap_append, List.take_append_drop]
  rw [this, List.length_append]; omega

section
variable {n : Nat} {F : Fm} {A : Around} {prv : Addr → Prop} {vars : List (PySem.Str × AV)} {H : List AObj} {D : Addr} {φB : List Addr} {HB : List AObj} {sB : Shared} {ds : List DV} {φ : List Addr} {s : Shared}
theorem outer_loop {prv₀ : Addr → Prop} {tgt iter tgt1 iter1 elt : Expr} {ifs1 : List Expr} {scope : Scope} {pos : Pos} {I : Addr} {items : List DV} {h1 : Heap} {W1 : Addr → Prop} {g : DV → List DV} {R : Result → Shared → Prop} (hA : AOk n A) (B : CB F prv₀ D φB H sB)
    (it : Iter G A h1 W1 tgt items I s.heap) (nI₀ : ¬ Pv F prv₀ I) (cI : ∀ x c, F.cl.lookup x = some c → c ≠ I ∧ Pv F prv₀ c) (fI : sB.heap.get? I = none) (hDI : D ≠ I)
    (hlen : (items.flatMap g).length ≤ 9000) (hfs : ∀ x, foldedSetIterable iter1 F.env x = pure x)
    (turn : ∀ (k : Nat) (d : DV), items[k]? = some d → Turn2 G n F vars H tgt tgt1 iter1 ifs1 elt g d)
    (hW1 : ∀ b o, h1.get? b = some o → ¬ W1 b → b ≠ I ∧ b ≠ D)
    (C : CS G F (And1 prv₀ I) vars H D φB HB sB [] φ s) (K : KeptW F (And1 prv₀ I) H h1 W1 φ s.heap)
    (hR : ∀ φ' s', CS G F prv₀ vars H D φB HB sB (items.flatMap g) φ' s' → R (.ok .next) s') : codeAny (model G.prog G.w) A (.compLoop (.ListComp elt [⟨tgt, iter, [], 0⟩, ⟨tgt1, iter1, ifs1, 0⟩] scope pos) 0 (.ref I) (.ref D) F.env) R s := by
  have B' : CB F (And1 prv₀ I) D φB H sB := ⟨B.slf, .inl B.pD, B.cD, B.fD, B.fo, B.lB⟩
  have nI : ∀ {φ : List Addr} {a : AS} {h : Heap}, Rel G F (And1 prv₀ I) φ a h → I ∉ F.own ∧ ¬ Wr φ a.heap I := fun R => ⟨fun q => R.own_prv I q (.inr rfl), fun ⟨i, o, h1, _, _⟩ => R.hr.nP I (List.mem_of_getElem? h1) (.inr (.inr rfl))⟩
  refine codeAny_loop rfl (fun m s' => ∃ k φ', m = items.length - k ∧ k ≤ items.length ∧ CS G F (And1 prv₀ I) vars H D φB HB sB ((items.take k).flatMap g) φ' s' ∧ KeptW F (And1 prv₀ I) H h1 W1 φ' s'.heap ∧ it.St k s'.heap) ?_ items.length
    ⟨0, φ, by omega, Nat.zero_le _, by simpa using C, K, it.st⟩
  rintro m s' ⟨k, φ', rfl, hk', C', K', st⟩
  show wpAny _ A ((compTurn (.ListComp elt [⟨tgt, iter, [], 0⟩, ⟨tgt1, iter1, ifs1, 0⟩] scope pos) 0 (.ref I) (.ref D) F.env).onRaise (fun x => do noteFrame x F.env; theTreesLotGoes x)) _ _ s'
  refine wpAny_noted (noE ?_)
  rw [compTurn_outer]
  unfold OuterTree
  refine wpAny_bind (wpAny_standAt (wpAny_bind ?_))
  by_cases hlt : k < items.length
  · refine it.walks.item k s' _ _ hlt st fun v h3 tk hv st3 hk3 => ?_
    have hk3' : ∀ b o, b ≠ I → s'.heap.get? b = some o → h3.get? b = some o := fun b o q e => hk3 b o (by simpa using q) e
    obtain ⟨d, hd, hval⟩ := it.val k v hv hlt
    dsimp only
    refine wpAny_bind (it.letgo (k + 1) _ v _ st3 ?_)
    have R3 := C'.rel.turned I (.inr rfl) (fun x c e => (cI x c e).1) hk3' (it.ex _ _ st3)
    have C3 : CS G F (And1 prv₀ I) vars H D φB HB sB ((items.take k).flatMap g) φ' { s' with heap := h3, toks := tk } := by
      obtain ⟨ys, a1, a2⟩ := C'.acc
      refine ⟨R3, ⟨ys, let ⟨m, e⟩ := a1; ⟨m, hk3' _ _ hDI e⟩, a2.ext fun b o e hw => ⟨hk3' b o (fun q => hw (.inl (.inr (q ▸ .inr rfl)))) e, hw⟩⟩, C'.ext.turned fI hk3', C'.same.trans (.mk' s' h3 tk)⟩
    have K3 : KeptW F (And1 prv₀ I) H h1 W1 φ' h3 := fun b o e hw => ⟨hk3' b o (hW1 b o e hw).1 (K' b o e hw).1, (K' b o e hw).2⟩
    have V := hval h3 (Wf F (And1 prv₀ I) φ' H) K3
    refine wpAny_bind (ASG.go (turn k d hd) A (And1 prv₀ I) φ' { s' with heap := h3, toks := tk } _ v hA R3 V fun a3 φ4 s4 hP R4 E4 S4 => ?_)
    obtain ⟨hsub, hheap, hP⟩ := hP
    have C4 := C3.moved B' R4 E4 S4 hsub hheap
    have K4 : KeptW F (And1 prv₀ I) H h1 W1 φ4 s4.heap := fun b o e hw => by have := Ext.keepW (prv := And1 prv₀ I) E4 b o (K3 b o e hw).1 (K3 b o e hw).2; rw [hheap] at this; exact this
    have st4 : it.St (k + 1) s4.heap := it.walks.frame _ _ _ st3 fun b hb o e => by
      rcases it.fpok b hb with rfl | ⟨hw, o', e'⟩
      · exact E4.step _ o e (nI R3).1 (nI R3).2
      · have z := K3 b o' e' hw
        exact E4.step b o e (fun q => z.2 (.inl (.inl q))) (fun q => z.2 (.inr q))
    refine wpAny_bind (hP.go A (And1 prv₀ I) φ4 s4 _ hA R4 fun v1 H5 φ5 cv1 s5 hP R5 V5 E5 S5 => ?_)
    obtain ⟨hH5, items1, vars1, g1, hs1, hs2, hI1, hl1, hg, turn1⟩ := hP
    have hH5 : H5 = H := hH5
    have C5 := C4.moved B' R5 (by rw [← hheap]; exact E5) S5 (Sub.trans hsub (Sub.refl _)) hH5
    have K5 : KeptW F (And1 prv₀ I) H h1 W1 φ5 s5.heap := fun b o e hw => by have := Ext.keepW (prv := And1 prv₀ I) E5 b o (K4 b o e hw).1 (by rw [hheap]; exact (K4 b o e hw).2); rw [hH5] at this; exact this
    have st5 : it.St (k + 1) s5.heap := it.walks.frame _ _ _ st4 fun b hb o e => by
      rcases it.fpok b hb with rfl | ⟨hw, o', e'⟩
      · exact E5.step _ o e (nI R4).1 (nI R4).2
      · have z := K4 b o' e' hw
        exact E5.step b o e (fun q => z.2 (.inl (.inl q))) (fun q => z.2 (.inr (by rw [← hheap]; exact q)))
    -- the second clause
    have R5v : Rel G F (And1 prv₀ I) φ5 ⟨vars1, H, []⟩ s5.heap := R5.reset B.slf hH5 hs2
    have V5v : AVR G F.slf φ5 s5.heap (Wf F (And1 prv₀ I) φ5 (⟨vars1, H, []⟩ : AS).heap) v1 cv1 := by rw [← hH5]; exact V5
    refine wpAny_bind (wpAny_standAt ?_)
    rw [hfs]
    refine wpAny_bind (wpAny_pure (wpAny_bind (wpAny_holding (iter_ok hI1 hA R5v V5v fun I2 h6 hnew hk6 ⟨it2⟩ => ?_))))
    refine wpAny_bind (wpAny_runOwn ?_)
    have D5 : ∃ o, s5.heap.get? D = some o := let ⟨ys, ⟨m, e⟩, _⟩ := C5.acc; ⟨_, e⟩
    have hDI2 : D ≠ I2 := fun q => by obtain ⟨o, e⟩ := D5; rw [q, hnew] at e; cases e
    have fI2 : sB.heap.get? I2 = none := by
      cases q : sB.heap.get? I2 with
      | none => rfl
      | some o => obtain ⟨o', e'⟩ := C5.ext.ex I2 o q; rw [hnew] at e'; cases e'
    have nI2 : ¬ Pv F (And1 prv₀ I) I2 := R5v.fresh_not hnew
    have cI2 : ∀ x c, F.cl.lookup x = some c → c ≠ I2 ∧ Pv F (And1 prv₀ I) c := fun x c e => ⟨R5v.cells_ne hnew x c e, (R5v.cown x c e).2.2⟩
    have R6 := R5v.widenIt hnew hk6 (it2.ex _ _ it2.st)
    have C6 : CS G F (And1 (And1 prv₀ I) I2) vars1 H D φB HB sB ((items.take k).flatMap g) φ5 { s5 with heap := h6 } := by
      obtain ⟨ys, a1, a2⟩ := C5.acc
      refine ⟨R6, ⟨ys, let ⟨m, e⟩ := a1; ⟨m, hk6 _ _ e⟩, a2.ext fun b o e hw => ⟨hk6 b o e, fun q => ?_⟩⟩, C5.ext.trans (Ext.keeps (k := φB.length) hk6) (Nat.le_refl _), C5.same.trans (.mk' s5 h6 s5.toks)⟩
      rcases q with (q | q | q) | q
      · exact hw (.inl (.inl q))
      · exact hw (.inl (.inr q))
      · rw [q, hnew] at e; cases e
      · exact hw (.inr q)
    have K6 : KeptW F (And1 (And1 prv₀ I) I2) H s5.heap (Wf F (And1 prv₀ I) φ5 H) φ5 h6 := fun b o e hw => ⟨hk6 b o e, fun q => by
      rcases q with (q | q | q) | q
      · exact hw (.inl (.inl q))
      · exact hw (.inl (.inr q))
      · rw [q, hnew] at e; cases e
      · exact hw (.inr q)⟩
    have hW2 : ∀ b o, s5.heap.get? b = some o → ¬ Wf F (And1 prv₀ I) φ5 H b → b ≠ I2 ∧ b ≠ D := fun b o e hw => ⟨fun q => (by rw [q, hnew] at e; cases e), fun q => hw (.inl (.inr (q ▸ .inl B.pD)))⟩
    have hfl := flat_take_le g items k
    have loop : ∀ s6 : Shared, s6 = { s5 with heap := h6 } → codeAny (model G.prog G.w) A (.compLoop (.ListComp elt [⟨tgt, iter, [], 0⟩, ⟨tgt1, iter1, ifs1, 0⟩] scope pos) 1 (.ref I2) (.ref D) F.env) (fun r s' => match r with
        | .ok f => wpAny (model G.prog G.w) A (again (.compLoop (.ListComp elt [⟨tgt, iter, [], 0⟩, ⟨tgt1, iter1, ifs1, 0⟩] scope pos) 0 (.ref I) (.ref D) F.env)) (fun fin s' => match fin with
            | .done f => R (.ok f) s'
            | .again c' => c' = .compLoop (.ListComp elt [⟨tgt, iter, [], 0⟩, ⟨tgt1, iter1, ifs1, 0⟩] scope pos) 0 (.ref I) (.ref D) F.env ∧ ∃ m, m < items.length - k ∧ ∃ k φ', m = items.length - k ∧ k ≤ items.length ∧ CS G F (And1 prv₀ I) vars H D φB HB sB ((items.take k).flatMap g) φ' s' ∧ KeptW F (And1 prv₀ I) H h1 W1 φ' s'.heap ∧ it.St k s'.heap) NoE s'
        | .error e => cameBackBy (model G.prog G.w) A F.env NoE e s') s6 := by
      rintro s6 rfl
      refine emit_loop (iter := iter1) (c := .compLoop (.ListComp elt [⟨tgt, iter, [], 0⟩, ⟨tgt1, iter1, ifs1, 0⟩] scope pos) 1 (.ref I2) (.ref D) F.env) (g := g1) hA B' rfl (fun Q E s h => ?_) it2 nI2 cI2 fI2 hDI2 (by omega) turn1 hW2 C6 K6 fun φ7 s7 C7 P7 => ?_
      · show wpAny _ A ((compTurn (.ListComp elt [⟨tgt, iter, [], 0⟩, ⟨tgt1, iter1, ifs1, 0⟩] scope pos) 1 (.ref I2) (.ref D) F.env).onRaise (fun x => do noteFrame x F.env; theTreesLotGoes x)) Q E s
        refine wpAny_noted (noE ?_)
        rw [compTurn_inner]
        exact h
      · refine wpAny_pure ⟨rfl, items.length - (k + 1), by omega, k + 1, φ7, rfl, hlt, ?_, ?_, ?_⟩
        · rw [flat_snoc g items k d hd, hg]
          obtain ⟨b1, b2, b3, b4⟩ := C7
          exact ⟨b1.reset B.slf rfl hs1, b2, b3, b4⟩
        · intro b o e hw
          have z := K5 b o e hw
          have x1 := hW1 b o e hw
          have nw : ¬ Wr φ5 H b := fun q => z.2 (.inr q)
          have no : b ∉ F.own := fun q => z.2 (.inl (.inl q))
          have ni : b ≠ I2 := fun q => by rw [q, hnew] at z; cases z.1
          obtain ⟨y1, y2⟩ := P7 b o (hk6 b o z.1) no nw x1.2 ni
          exact ⟨y1, fun q => q.elim (fun q => z.2 (.inl q)) y2⟩
        · refine it.walks.frame _ _ _ st5 fun b hb o e => ?_
          rcases it.fpok b hb with rfl | ⟨hw, o', e'⟩
          · exact (P7 _ o (hk6 _ o e) (nI R5v).1 (nI R5v).2 (Ne.symm hDI) (fun q => by rw [q, hnew] at e; cases e)).1
          · have z := K5 b o' e' hw
            exact (P7 b o (hk6 b o e) (fun q => z.2 (.inl (.inl q))) (fun q => z.2 (.inr q)) (hW1 b o' e' hw).2 (fun q => by rw [q, hnew] at e; cases e)).1
    exact start_inner (loop _ rfl) (it2.walks.self 0 _ _ _ it2.st (loop _ rfl))
  · have hkl : k = items.length := by omega
    subst hkl
    refine it.walks.done s' _ _ st fun h3 tk hk3 => ?_
    have hk3' : ∀ b o, b ≠ I → s'.heap.get? b = some o → h3.get? b = some o := fun b o q e => hk3 b o (by simpa using q) e
    dsimp only
    refine wpAny_pure (hR φ' _ ?_)
    obtain ⟨ys, a1, a2⟩ := C'.acc
    rw [List.take_length] at a2
    refine ⟨C'.rel.dropIt nI₀ (fun x c e => (cI x c e).1) (fun x c e => (cI x c e).2) hk3', ⟨ys, let ⟨m, e⟩ := a1; ⟨m, hk3' _ _ hDI e⟩, a2.ext fun b o e hw => ⟨hk3' b o (fun q => hw (.inl (q ▸ .inr (.inr rfl)))) e, fun q => hw (wf_narrow q)⟩⟩, C'.ext.turned fI hk3', C'.same.trans (.mk' s' h3 tk)⟩
end

section
variable {n : Nat} {F : Fm} {a : AS}
theorem compRuns2 {v : AV} {elt tgt iter tgt1 iter1 : Expr} {ifs1 : List Expr} {scope : Scope} {pos : Pos} {items : List DV} {g : DV → List DV} {cl' : List (PySem.Str × Addr)} {vars : List (PySem.Str × AV)} (hI : ItemsOf v tgt items) (hlen : (items.flatMap g).length ≤ 9000)
    (K : CompSt F scope cl') (hcap : ∀ C, Caps F (cmFm F scope cl' C) a vars) (hfs : ∀ C x, foldedSetIterable iter1 (cmFm F scope cl' C).env x = pure x)
    (turn : ∀ (C : Addr) (k : Nat) (d : DV), items[k]? = some d → Turn2 G n (cmFm F scope cl' C) vars a.heap tgt tgt1 iter1 ifs1 elt g d) : CompRuns G n F a v elt [⟨tgt, iter, [], 0⟩, ⟨tgt1, iter1, ifs1, 0⟩] scope pos cl' (items.flatMap g) := by
  intro A prv φ1 s1 cv RR hA R V hRR
  refine comp_frame hI hA R V K.cl K.nd K.kind hcap fun C D I s hC hD ⟨it⟩ nI₀ cI fI hDI B CS0 K0 => ?_
  exact outer_loop hA B it nI₀ cI fI hDI hlen (hfs C) (turn C) (fun b o e hw => ⟨fun q => (by rw [q, fI] at e; cases e), fun q => (by rw [q, hD] at e; cases e)⟩) CS0 K0 fun φ' s' Y => hRR D C φ' s' (comp_done R hC hD Y)
end
end Mine

namespace Mine
theorem OPL.sumG {G : Base} {n : Nat} {F : Fm} {a : AS} {P : AV → AS → Prop} {x : AV} {ns : List Int} (L : LsOf a x (ns.map .int)) (hP : P (.dat (.int ns.sum)) a) : OPL G n F a (fun cvs => PySem.call (Value.builtin "sum") cvs) [x] P :=
  .one fun A prv φ s Q cx hA R V hQ => by
    obtain ⟨ad, k, vs, rfl, e, r⟩ := ls_of R V L
    have hi := r.ints
    have hall := hi.allInts
    rw [Array.toArray_toList] at hall
    obtain ⟨xs', rfl⟩ := hall.items
    have hn := hi.numsOf
    rw [nums_intItems] at hn
    refine sum_intListG hA.hh (isList_of e) fun h' tk t' hk => ?_
    rw [preSum_eq, List.take_of_length_le (by simp), hn]
    exact hQ.grown R hP hk (.int _ _) tk

/-! ## the law's frame -/
def fmLaw (fd : FuncData) (L fa : Addr) : Fm :=
  { sc := fd.scope, L := L, cl := cellsFrom (L + 1) fd.scope.names [], qual := fd.qualname ++ ".<locals>.", func := some fa, code := fd.code, frame := some L, own := L :: (cellsFrom (L + 1) fd.scope.names []).map (·.2), slf := none, n₀ := 0 }
theorem fmLaw_st {fd : FuncData} {L fa : Addr} {x : PySem.Str} (h1 : fd.scope.names.lookup x = some .cell) (h2 : ((cellsFrom (L + 1) fd.scope.names []).lookup x).isSome = true) : Stores (fmLaw fd L fa) x := by
  obtain ⟨c, hc⟩ := Option.isSome_iff_exists.mp h2
  exact .inr ⟨h1, c, hc, .tail _ (List.mem_map.mpr ⟨_, mem_of_lookup hc, rfl⟩)⟩
theorem cmFm_st {F : Fm} {scope : Scope} {cl' : List (PySem.Str × Addr)} {C : Addr} {x : PySem.Str} (h1 : (relabel scope F.env).names.lookup x = some .cell) (h2 : ((cellsFrom (C + 1) scope.names []).lookup x).isSome = true) : Stores (cmFm F scope cl' C) x := by
  obtain ⟨c, hc⟩ := Option.isSome_iff_exists.mp h2
  refine .inr ⟨h1, c, ?_, .tail _ (List.mem_map.mpr ⟨_, mem_of_lookup hc, rfl⟩)⟩
  show (cellsFrom (C + 1) scope.names [] ++ cl').lookup x = some c
  rw [List.lookup_append, hc]; rfl

section
variable {p : Params} {G : Base}
/-- the numbers out of the script -/
structure Nums (ns : List Int) (st pl num b bl : Nat) : Prop where
  hst : ((1 : Int) + ((ns.length : Int) + Int.fdiv (46668 + ns.sum) 512).fmod 3) = st
  hst1 : 1 ≤ st ∧ st ≤ 3
  hpl : pl = if st = 1 then 8 else 9
  hnum : (46668 + ns.sum).fmod (2 ^ pl) = num
  hnum1 : num < 2 ^ pl
  hb : (Int.fdiv (46668 + ns.sum) 1536).fmod 24 = b
  hb1 : b < 24
  hbl : (Int.fdiv (46668 + ns.sum) 36864).fmod 3 = bl
  hbl1 : bl < 3
theorem nums_ex (ns : List Int) : ∃ st pl num b bl, Nums ns st pl num b bl := by
  have f : ∀ (x m : Int), 0 < m → ∃ k : Nat, x.fmod m = k ∧ (k : Int) < m := fun x m hm => by
    refine ⟨(x.fmod m).toNat, ?_, ?_⟩
    · have := Int.fmod_nonneg_of_pos x hm; omega
    · have := Int.fmod_nonneg_of_pos x hm; have := Int.fmod_lt_of_pos x hm; omega
  obtain ⟨k, h1, h2⟩ := f ((ns.length : Int) + Int.fdiv (46668 + ns.sum) 512) 3 (by decide)
  obtain ⟨b, h3, h4⟩ := f (Int.fdiv (46668 + ns.sum) 1536) 24 (by decide)
  obtain ⟨bl, h5, h6⟩ := f (Int.fdiv (46668 + ns.sum) 36864) 3 (by decide)
  obtain ⟨num, h7, h8⟩ := f (46668 + ns.sum) (2 ^ (if k + 1 = 1 then 8 else 9)) (by split <;> decide)
  refine ⟨k + 1, _, num, b, bl, by rw [h1]; omega, by omega, rfl, h7, ?_, h3, by omega, h5, by omega⟩
  split at h8 <;> rename_i q
  · rw [if_pos q]; omega
  · rw [if_neg q]; omega

/-- the first names -/
def vars1 (st pl num b bl : Nat) : List (PySem.Str × AV) := [("step", .dat (.int st)), ("places", .dat (.int pl)), ("number", .dat (.int num)), ("base", .dat (.int b)), ("blanks", .dat (.int bl))]
theorem law_one (X : Facts p G) {n : Nat} {ns : List Int} {st pl num b bl : Nat} (N : Nums ns st pl num b bl) (hl : ns.length ≤ 63) {L : Addr} {P : AFlow → AS → Prop}
    (h : EX G n (fmLaw (fdLaw p) L 132) ⟨vars1 st pl num b bl, [], []⟩ ((bodyIn (fdLaw p)).drop 6) P) : EX G n (fmLaw (fdLaw p) L 132) ⟨[("script", .dat (.list (ns.map .int)))], [], []⟩ (bodyIn (fdLaw p)) P := by
  refine EX.set (.inl rfl) (EV.bop (EV.int (EV.bfn X rfl rfl (EVs.one (EV.var rfl (OPL.sumG (.inl rfl) (OP2.add ?_)))))))
  refine EX.set (fmLaw_st rfl rfl) (EV.bop (EV.int (EV.bop (EV.bop ?_))))
  refine EV.bfn X rfl rfl (EVs.one (EV.var rfl (OPL.lenL (.inl rfl) (by simp; omega) ?_)))
  refine EV.bop (EV.var rfl (EV.int (OP2.fdiv (by decide) (by decide) (OP2.add ?_))))
  refine EV.int (OP2.fmod (by decide) (OP2.add ?_))
  rw [List.length_map, N.hst]
  refine EX.set (.inl rfl) (EV.ifexp (BT.cmp (EV.var rfl (EV.int (OP2.eq ⟨_, rfl, ?_⟩)))))
  have tail : EX G n (fmLaw (fdLaw p) L 132) ⟨setV (setV (setV [("script", AV.dat (.list (ns.map .int)))] "total" (.dat (.int (46668 + ns.sum)))) "step" (.dat (.int st))) "places" (.dat (.int pl)), [], []⟩ ((bodyIn (fdLaw p)).drop 3) P := by
    refine EX.set (fmLaw_st rfl rfl) (EV.bop (EV.var rfl (EV.bop (EV.int (EV.var rfl (OP2.pow (by decide) (by omega) ?_ (OP2.fmod ?_ ?_)))))))
    · have := N.hpl; split at this <;> omega
    · have := Nat.two_pow_pos pl
      rw [Int.toNat_natCast]
      have e : ((2 : Int) ^ pl) = ((2 ^ pl : Nat) : Int) := by simp
      rw [e]; omega
    rw [Int.toNat_natCast, N.hnum]
    refine EX.set (fmLaw_st rfl rfl) (EV.bop (EV.bop (EV.var rfl (EV.int (OP2.fdiv (by decide) (by decide) (EV.int (OP2.fmod (by decide) ?_)))))))
    rw [N.hb]
    refine EX.set (.inl rfl) (EV.bop (EV.bop (EV.var rfl (EV.int (OP2.fdiv (by decide) (by decide) (EV.int (OP2.fmod (by decide) ?_)))))))
    rw [N.hbl]
    exact EX.names (vars1 st pl num b bl) (SubA.cons rfl (SubA.cons rfl (SubA.cons rfl (SubA.cons rfl (SubA.cons rfl .nil))))) h
  have hpl := N.hpl
  by_cases q : st = 1
  · rw [if_pos q] at hpl
    subst hpl
    rw [show ((st : Int) == 1) = true by rw [q]; rfl]
    exact EV.int tail
  · rw [if_neg q] at hpl
    subst hpl
    rw [show ((st : Int) == 1) = false by simpa using (show ¬ (st : Int) = 1 by omega)]
    exact EV.int tail
end
end Mine

namespace Mine
theorem TST.nil {G : Base} {n : Nat} {F : Fm} {a : AS} {P : Bool → AS → Prop} (h : P true a) : TST (G := G) n F a [] P := h
theorem TST.one {G : Base} {n : Nat} {F : Fm} {a : AS} {c : Expr} {P : Bool → AS → Prop} (h : BT G n F a c P) : TST (G := G) n F a [c] P := h
/-- one item, no test -/
theorem Turn.plain {G : Base} {n : Nat} {F : Fm} {vars : List (PySem.Str × AV)} {H : List AObj} {x : PySem.Str} {p : Pos} {elt : Expr} {g : DV → Option DV} {d e : DV} (hx : Stores F x) (hv : vars.lookup x = none) (hg : g d = some e)
    (h : EV G n F ⟨setV vars x (.dat d), H, []⟩ elt fun y a5 => y = .dat e ∧ a5.heap = H) : Turn G n F vars H (.Name x p) [] elt g d :=
  ASG.name hx ⟨Sub.set (Sub.refl _) hv, rfl, TST.nil ⟨rfl, h.mono fun y a5 q => ⟨e, q.1, hg, q.2⟩⟩⟩
/-- one item, one test -/
theorem Turn.test {G : Base} {n : Nat} {F : Fm} {vars : List (PySem.Str × AV)} {H : List AObj} {x : PySem.Str} {p : Pos} {c elt : Expr} {g : DV → Option DV} {d e : DV} (t : Bool) (hx : Stores F x) (hv : vars.lookup x = none) (hg : g d = if t then some e else none)
    (h : BT G n F ⟨setV vars x (.dat d), H, []⟩ c fun b a4 => b = t ∧ a4.heap = H ∧ (t = true → EV G n F a4 elt fun y a5 => y = .dat e ∧ a5.heap = H)) : Turn G n F vars H (.Name x p) [c] elt g d :=
  ASG.name hx ⟨Sub.set (Sub.refl _) hv, rfl, TST.one (h.mono fun b a4 q => by
    obtain ⟨rfl, h1, h2⟩ := q
    refine ⟨h1, ?_⟩
    cases b with
    | true => exact (h2 rfl).mono fun y a5 q => ⟨e, q.1, by rw [hg]; rfl, q.2⟩
    | false => exact hg)⟩
theorem rng_items (n : Nat) : (List.range ((n : Int) - 0).toNat).map (fun k => DV.int (0 + ((k : Nat) : Int))) = (List.range n).map fun (k : Nat) => DV.int (k : Int) := by simp
theorem ItemsOf.range (n : Nat) (t : Expr) (h : n ≤ 100000) : ItemsOf (.rng 0 (n : Int)) t ((List.range n).map fun (k : Nat) => DV.int (k : Int)) := by
  have := ItemsOf.rng 0 (n : Int) t (by decide) (by decide) (by omega) (by omega)
  rwa [rng_items] at this
theorem range_at {n k : Nat} {d : DV} (h : ((List.range n).map fun (k : Nat) => DV.int (k : Int))[k]? = some d) : k < n ∧ d = .int (k : Int) := by
  have hk : k < n := by
    have := (List.getElem?_eq_some_iff.mp h).1
    simpa using this
  rw [List.getElem?_map, List.getElem?_range hk] at h
  exact ⟨hk, by simpa using h.symm⟩
def onNat {α : Type} (f : Nat → Option α) : DV → Option α
  | .int i => f i.toNat
  | _ => none
theorem filterMap_nats {α : Type} (f : Nat → Option α) (xs : List Nat) : (xs.map fun (k : Nat) => DV.int (k : Int)).filterMap (onNat f) = xs.filterMap f := by
  rw [List.filterMap_map]
  congr 1

def namesOf (b pl : Nat) : List PySem.Str := (List.range pl).map fun k => wordOf (b + k)
section
variable {p : Params} {G : Base}
def vars2 (st pl num b bl : Nat) : List (PySem.Str × AV) := ("names", .dat (.list ((namesOf b pl).map .str))) :: vars1 st pl num b bl
theorem law_two (X : Facts p G) {n : Nat} {st pl num b bl : Nat} (hb : b < 24) (hpl : pl ≤ 9) {L : Addr} {P : AFlow → AS → Prop}
    (h : EX G (n + 1) (fmLaw (fdLaw p) L 132) ⟨vars2 st pl num b bl, [], []⟩ ((bodyIn (fdLaw p)).drop 7) P) : EX G (n + 1) (fmLaw (fdLaw p) L 132) ⟨vars1 st pl num b bl, [], []⟩ ((bodyIn (fdLaw p)).drop 6) P := by
  refine EX.set (fmLaw_st rfl rfl) (EV.comp ⟨rfl, by decide, rfl⟩ ?_)
  refine EV.tfn X rfl rfl (EVs.one (EV.var rfl (OPL.range1 ?_)))
  refine ⟨_, compRuns1 (ItemsOf.range pl _ (by omega)) (by simp; omega) ⟨rfl, by decide, rfl⟩ (vars := [("base", .dat (.int b))]) (g := onNat fun k => some (.str (wordOf (b + k)))) (fun C => Caps.cons ⟨rfl, rfl, rfl, rfl, ⟨_, rfl, rfl⟩⟩ Caps.nil) (fun C k d hd => ?_), ?_⟩
  · obtain ⟨hk, rfl⟩ := range_at hd
    refine Turn.plain (.inl rfl) rfl (by simp [onNat]; rfl) ?_
    refine EV.dfn X rfl rfl X.word (EVs.one (EV.bop (EV.var rfl (EV.var rfl (OP2.add ⟨rfl, ?_⟩)))))
    rw [show (b : Int) + (k : Int) = ((b + k : Nat) : Int) by omega]
    refine (law_word X (by omega) []).mono ?_
    rintro v H' ⟨rfl, rfl⟩
    exact ⟨rfl, rfl⟩
  · rw [filterMap_nats]
    have e : (List.range pl).filterMap (fun k => some (DV.str (wordOf (b + k)))) = (namesOf b pl).map .str := by
      unfold namesOf
      rw [List.map_map]
      exact congrFun List.filterMap_eq_map' _
    rw [e]
    exact EX.names (vars2 st pl num b bl) (SubA.cons rfl (SubA.cons rfl (SubA.cons rfl (SubA.cons rfl (SubA.cons rfl (SubA.cons rfl .nil)))))) h
end
end Mine

namespace Mine
theorem EVP.none {G : Base} {n : Nat} {F : Fm} {a : AS} {P : Option Int → AS → Prop} (h : P Option.none a) : EVP (G := G) n F a Option.none P := h
theorem EVP.int {G : Base} {n : Nat} {F : Fm} {a : AS} {i : Int} {c : Nat} {pos : Pos} {P : Option Int → AS → Prop} (h : P (some i) a) : EVP (G := G) n F a (some (.Constant (.int i) c pos)) P :=
  show EV G n F a _ _ from EV.int ⟨i, rfl, h⟩
theorem EVP.ev {G : Base} {n : Nat} {F : Fm} {a : AS} {e : Expr} {P : Option Int → AS → Prop} (h : EV G n F a e fun v a1 => ∃ i, v = .dat (.int i) ∧ P (some i) a1) : EVP (G := G) n F a (some e) P := h
theorem pickL_map {α β : Type} (f : α → β) (xs : List α) (lo hi st : Option Int) : pickL (xs.map f) lo hi st = (pickL xs lo hi st).map f := by
  unfold pickL
  rw [List.length_map, List.map_filterMap]
  congr 1
  funext i
  rw [List.getElem?_map]
theorem pickL_len {α : Type} (xs : List α) (lo hi st : Option Int) : (pickL xs lo hi st).length ≤ (PySem.sliceRange (sliceBounds lo hi st xs.length).1 (sliceBounds lo hi st xs.length).2.1 (sliceBounds lo hi st xs.length).2.2).length := List.length_filterMap_le ..

theorem pick_len {α : Type} (xs : List α) (i : Int) (h0 : 0 ≤ i) : (pickL xs (some i) none (some 2)).length ≤ xs.length + 1 := by
  refine Nat.le_trans (pickL_len ..) ?_
  unfold PySem.sliceRange sliceBounds
  rw [List.length_map, List.length_range]
  simp only [Option.getD_some, show (2 : Int) > 0 by decide, if_true, if_neg (show ¬ i < 0 by omega)]
  split <;> omega
theorem filterMap_if {α β : Type} (c : α → Bool) (f : α → β) (xs : List α) : (xs.filterMap fun k => if c k = true then some (f k) else none) = (xs.filter c).map f := by
  induction xs with
  | nil => rfl
  | cons x xs ih =>
    rw [List.filterMap_cons, List.filter_cons]
    by_cases q : c x = true
    · simp [q, ih]
    · simp [q, ih]

/-! ### lists of ints, compared -/
theorem pds_ints : ∀ (xs : List Int), DV.pds (xs.map .int) = xs.map PyData.int
  | [] => rfl
  | x :: xs => by show DV.pd _ :: DV.pds _ = _; rw [pds_ints xs]; rfl
theorem pds_strs : ∀ (xs : List PySem.Str), DV.pds (xs.map .str) = xs.map PyData.str
  | [] => rfl
  | x :: xs => by show DV.pd _ :: DV.pds _ = _; rw [pds_strs xs]; rfl
theorem lay_ints (xs : List Int) : (DV.list (xs.map .int)).pd.canLay0 = true := by
  show PyData.canLay0 (.list _) = true
  rw [PyData.canLay0, pds_ints]
  induction xs with
  | nil => rfl
  | cons x xs ih => rw [List.map_cons, PyData.canLayAll0, ih]; rfl
theorem lay_strs (xs : List PySem.Str) (h : xs.all PyData.strOk = true) : (DV.list (xs.map .str)).pd.canLay0 = true := by
  show PyData.canLay0 (.list _) = true
  rw [PyData.canLay0, pds_strs]
  induction xs with
  | nil => rfl
  | cons x xs ih =>
    rw [List.all_cons, Bool.and_eq_true] at h
    rw [List.map_cons, PyData.canLayAll0, ih h.2, PyData.canLay0, h.1]; rfl
theorem depthAll_le {xs : List PyData} {k : Nat} (h : ∀ x ∈ xs, x.depth ≤ k) : PyData.depthAll xs ≤ k := by
  induction xs with
  | nil => simp [PyData.depthAll]
  | cons x xs ih =>
    rw [PyData.depthAll]
    have := h x (.head _)
    have := ih fun y hy => h y (.tail _ hy)
    omega
theorem depth_ints (xs : List Int) : (DV.list (xs.map .int)).pd.depth ≤ 50 := by
  show PyData.depth (.list _) ≤ 50
  rw [PyData.depth, pds_ints]
  have := depthAll_le (xs := xs.map PyData.int) (k := 0) fun x hx => by obtain ⟨i, _, rfl⟩ := List.mem_map.mp hx; simp [PyData.depth]
  omega
theorem depth_strs (xs : List PySem.Str) : (DV.list (xs.map .str)).pd.depth ≤ 50 := by
  show PyData.depth (.list _) ≤ 50
  rw [PyData.depth, pds_strs]
  have := depthAll_le (xs := xs.map PyData.str) (k := 0) fun x hx => by obtain ⟨i, _, rfl⟩ := List.mem_map.mp hx; simp [PyData.depth]
  omega
theorem eqv_ints (xs ys : List Int) : PyData.eqv (DV.list (xs.map .int)).pd (DV.list (ys.map .int)).pd = decide (xs = ys) := by
  show PyData.eqv (.list _) (.list _) = _
  rw [PyData.eqv, pds_ints, pds_ints]
  induction xs generalizing ys with
  | nil => cases ys <;> simp [PyData.eqvAll]
  | cons x xs ih =>
    cases ys with
    | nil => simp [PyData.eqvAll]
    | cons y ys =>
      rw [List.map_cons, List.map_cons, PyData.eqvAll, ih, PyData.eqv]
      by_cases q : x = y <;> by_cases r : xs = ys <;> simp [q, r]
theorem eqv_strs (xs ys : List PySem.Str) : PyData.eqv (DV.list (xs.map .str)).pd (DV.list (ys.map .str)).pd = decide (xs = ys) := by
  show PyData.eqv (.list _) (.list _) = _
  rw [PyData.eqv, pds_strs, pds_strs]
  induction xs generalizing ys with
  | nil => cases ys <;> simp [PyData.eqvAll]
  | cons x xs ih =>
    cases ys with
    | nil => simp [PyData.eqvAll]
    | cons y ys =>
      rw [List.map_cons, List.map_cons, PyData.eqvAll, ih, PyData.eqv]
      by_cases q : x = y
      · subst q; by_cases r : xs = ys <;> simp [r]
      · have : (x == y) = false := by simpa using q
        rw [this]; simp [q]

/-! ### the words, the beads -/
def wordsOf (m : Nat) : List PySem.Str := if m = 0 then [baseText "0x" 16 0] else bitWords m 32
def ordL {α : Type} (xs : List α) : List α := pickL xs (some 1) none (some 2) ++ pickL xs (some 0) none (some 2)
def beadsF (names : List PySem.Str) : List PySem.Str → List Int → List Int
  | [], bs => bs
  | w :: r, bs => if names.any (· == w) then beadsF names r (ins bs ((names.findIdx (· == w) : Nat) : Int)) else beadsF names r bs
def bitsOf (num pl : Nat) : List Nat := (List.range pl).filter fun k => (num >>> k) % 2 == 1
def iInts (xs : List Nat) : List Int := xs.map fun (k : Nat) => (k : Int)
theorem ins_len (xs : List Int) (x : Int) : (ins xs x).length = xs.length + 1 := by
  unfold ins
  have := bis_le xs x
  simp
  omega
theorem flagText_len {m : Nat} : (flagText m).length ≤ 10000 := by
  unfold flagText
  have h1 := words_sum m 32 (by omega)
  have h2 := bitWords_len m 32
  have e : ∀ ws : List PySem.Str, (Txt.join ", " ws).length ≤ (ws.map (·.length)).sum + ws.length * 2 := fun ws => by
    have := StrLaws.join_length_le ", " ws
    rw [show (", " : PySem.Str).length = 2 from rfl] at this
    rw [show Txt.join ", " ws = Str.join ", " ws from ?_]
    · exact this
    · exact StrLaws.glued_eq_join ..
  split
  · have := e [baseText "0x" 16 0]
    have h3 : (([baseText "0x" 16 0] : List PySem.Str).map (·.length)).sum = 3 := by decide +kernel
    rw [h3] at this
    simp at this
    omega
  · have := e (bitWords m 32)
    omega

section
variable {p : Params} {G : Base}
def vars3 (st pl num b bl : Nat) : List (PySem.Str × AV) := ("beads", .dat (.list ((iInts (bitsOf num pl)).map .int))) :: vars2 st pl num b bl
theorem law_three (X : Facts p G) {n : Nat} {st pl num b bl : Nat} (hb : b < 24) (hpl : pl ≤ 9) (hnum : num < 2 ^ pl) (hsplit : Txt.split (flagText (num * 2 ^ b)) ", " = wordsOf (num * 2 ^ b)) (hbeads : beadsF (namesOf b pl) (ordL (wordsOf (num * 2 ^ b))) [] = iInts (bitsOf num pl)) (hw : (wordsOf (num * 2 ^ b)).length ≤ 40) {L : Addr} {P : AFlow → AS → Prop}
    (h : EX G (n + 2) (fmLaw (fdLaw p) L 132) ⟨vars3 st pl num b bl, [.dead], []⟩ ((bodyIn (fdLaw p)).drop 11) P) : EX G (n + 2) (fmLaw (fdLaw p) L 132) ⟨vars2 st pl num b bl, [], []⟩ ((bodyIn (fdLaw p)).drop 7) P := by
  have hm : num * 2 ^ b < 2 ^ 32 := by
    have h1 : 2 ^ pl * 2 ^ b ≤ 2 ^ 32 := by rw [← Nat.pow_add]; exact Nat.pow_le_pow_right (by decide) (by omega)
    have h2 : num * 2 ^ b < 2 ^ pl * 2 ^ b := Nat.mul_lt_mul_of_pos_right hnum (Nat.two_pow_pos b)
    omega
  have hnb : num < 2 ^ 9 := Nat.lt_of_lt_of_le hnum (Nat.pow_le_pow_right (by decide) hpl)
  refine EX.set (.inl rfl) ?_
  refine EV.meth PySem.F.plainAttrs_str PySem.F.slot_str_split PySem.F.type_str_split ?_
  refine EV.dfn X rfl rfl X.flags (EVs.one (EV.bop (EV.var rfl (EV.var rfl (OP2.shl (by omega) (by omega) (by omega) ⟨rfl, ?_⟩)))))
  have e0 : (num : Int) * 2 ^ ((b : Int)).toNat = ((num * 2 ^ b : Nat) : Int) := by simp
  rw [e0]
  refine (pretty_flags X hm []).mono ?_
  rintro v H' ⟨rfl, rfl⟩
  refine ⟨rfl, EVs.one (EV.str (OPL.split (by decide) flagText_len ?_))⟩
  rw [hsplit]
  refine EX.set (fmLaw_st rfl rfl) (EV.list (EVs.nil ⟨[], rfl, by decide, .inr ?_⟩))
  refine EX.for_ (EV.bop (EV.slice (EV.var rfl (EVP.int (EVP.none (EVP.int ⟨_, .inl rfl, by simp; omega, by decide, EV.slice (EV.var rfl (EVP.int (EVP.none (EVP.int ⟨_, .inl rfl, by simp; omega, by decide, ?_⟩))))⟩))))))
  rw [pickL_map, pickL_map]
  generalize hws : wordsOf (num * 2 ^ b) = ws at hbeads hw ⊢
  have hl1 : (pickL ws (some 1) none (some 2)).length ≤ 100 := by have := pick_len ws 1 (by decide); omega
  have hl2 : (pickL ws (some 0) none (some 2)).length ≤ 100 := by have := pick_len ws 0 (by decide); omega
  refine OP2.addL (.inl rfl) (.inl rfl) (by simp; omega) (.inl ?_)
  rw [← List.map_append]
  have hord : pickL ws (some 1) none (some 2) ++ pickL ws (some 0) none (some 2) = ordL ws := rfl
  rw [hord]
  have hol : (ordL ws).length ≤ 200 := by rw [← hord]; simp; omega
  refine ⟨_, .list _ _, fun k a => ∃ (vars : List (PySem.Str × AV)) (bs : List Int), a = ⟨vars, [.list (bs.map .int)], []⟩ ∧ SubA (("beads", .ref 0) :: vars2 st pl num b bl) vars ∧ beadsF (namesOf b pl) ((ordL ws).drop k) bs = iInts (bitsOf num pl) ∧ bs.length ≤ k, ?_, ?_, ?_⟩
  · exact ⟨_, [], rfl, SubA.cons rfl (SubA.cons rfl (SubA.cons rfl (SubA.cons rfl (SubA.cons rfl (SubA.cons rfl (SubA.cons rfl .nil)))))), hbeads, Nat.zero_le _⟩
  · rintro k d a2 hd ⟨vars, bs, rfl, hv, hbs, hlen⟩
    have hk : k < (ordL ws).length := by
      have := (List.getElem?_eq_some_iff.mp hd).1
      simpa using this
    obtain ⟨w, hwk⟩ : ∃ w, (ordL ws)[k]? = some w := ⟨_, List.getElem?_eq_getElem hk⟩
    have hd' : d = .str w := by
      rw [List.getElem?_map, hwk] at hd
      simpa using hd.symm
    subst hd'
    have hdrop : (ordL ws).drop k = w :: (ordL ws).drop (k + 1) := by
      rw [List.drop_eq_getElem_cons hk]
      congr 1
      rw [List.getElem?_eq_getElem hk] at hwk
      simpa using hwk
    rw [hdrop, beadsF] at hbs
    refine ASG.name (.inl rfl) (EX.names _ (SubA.put hv) ?_)
    refine EX.iff (BT.cmp (EV.var rfl (EV.var rfl (OP2.inS (.inl rfl) ⟨_, rfl, fun q => ?_, fun q => ?_⟩))))
    · rw [if_pos q] at hbs
      have hj : (namesOf b pl).findIdx (· == w) < (namesOf b pl).length := List.findIdx_lt_length.mpr (by
        obtain ⟨y, h1, h2⟩ := List.any_eq_true.mp q
        exact ⟨y, h1, h2⟩)
      have hnl : (namesOf b pl).length ≤ 9 := by simp [namesOf]; omega
      refine EX.expr (EV.dfn X rfl rfl X.ins (EVs.two (EV.var rfl (EV.meth PySem.F.plainAttrs_list PySem.F.slot_list_index PySem.F.type_list_index (EV.var rfl ⟨rfl, EVs.one (EV.var rfl (OPL.index (j := (namesOf b pl).findIdx (· == w)) (.inl rfl) ?_ ?_ (by omega) ⟨rfl, ?_⟩))⟩)))))
      · have h1 := List.findIdx_getElem (w := hj)
        rw [List.getElem?_eq_getElem hj]
        congr 1
        simpa using h1
      · intro m hm' e
        have h1 := List.not_of_lt_findIdx hm'
        have h2 : m < (namesOf b pl).length := (List.getElem?_eq_some_iff.mp e).1
        rw [List.getElem?_eq_getElem h2] at e
        have e := Option.some.inj e
        rw [e] at h1
        simp at h1
      refine (insort_left X (i := 0) (xs := bs) rfl (by omega)).mono ?_
      rintro v H' ⟨rfl, rfl⟩
      refine EX.nilA (EX.nil ⟨_, _, rfl, ?_, hbs, by rw [ins_len]; omega⟩)
      exact SubA.cons rfl (SubA.cons rfl (SubA.cons rfl (SubA.cons rfl (SubA.cons rfl (SubA.cons rfl (SubA.cons rfl .nil))))))
    · rw [if_neg (by rw [q]; decide)] at hbs
      refine EX.nilA (EX.nil ⟨_, _, rfl, ?_, hbs, by omega⟩)
      exact SubA.cons rfl (SubA.cons rfl (SubA.cons rfl (SubA.cons rfl (SubA.cons rfl (SubA.cons rfl (SubA.cons rfl .nil))))))
  · rintro N a2 hN ⟨vars, bs, rfl, hv, hbs, hlen⟩
    have hN : N = (ordL ws).length := by rw [← hN]; simp
    subst hN
    rw [List.drop_length, beadsF] at hbs
    subst hbs
    refine EX.nilA (EX.names _ hv ?_)
    refine EX.freezeL (vars := vars3 st pl num b bl) (i := 0) rfl (fun x v e => ?_) ?_
    · unfold vars3 at e
      rw [List.lookup_cons] at e
      cases q : x == ("beads" : PySem.Str) with
      | true => rw [q] at e; cases e; rw [eq_of_beq q]; exact .inr ⟨rfl, rfl⟩
      | false => rw [q] at e; left; show List.lookup x (_ :: _) = _; rw [List.lookup_cons, q]; exact e
    show EX G (n + 2) _ ⟨vars3 st pl num b bl, [.dead], []⟩ _ _
    refine EX.iff (BT.cmp (EV.var rfl (EV.comp ⟨rfl, by decide, rfl⟩ ?_)))
    refine EV.tfn X rfl rfl (EVs.one (EV.var rfl (OPL.range1 ?_)))
    refine ⟨_, compRuns1 (ItemsOf.range pl _ (by omega)) (by simp; omega) ⟨rfl, by decide, rfl⟩ (vars := [("number", .dat (.int num))]) (g := onNat fun k => if (num >>> k) % 2 == 1 then some (.int (k : Int)) else none) (fun C => Caps.cons ⟨rfl, rfl, rfl, rfl, ⟨_, rfl, rfl⟩⟩ Caps.nil) (fun C k d hd => ?_), ?_⟩
    · obtain ⟨hk, rfl⟩ := range_at hd
      refine Turn.test ((num >>> k) % 2 == 1) (.inl rfl) rfl (by simp [onNat]; rfl) ?_
      refine BT.cmp (EV.bop (EV.bop (EV.var rfl (EV.var rfl (OP2.shr (by omega) (EV.int (OP2.and (EV.int (OP2.eq ⟨_, rfl, ?_⟩)))))))))
      rw [shr_and]
      refine ⟨?_, rfl, fun _ => EV.var rfl ⟨rfl, rfl⟩⟩
      rcases Nat.mod_two_eq_zero_or_one (num >>> k) with q | q <;> rw [q] <;> rfl
    · rw [filterMap_nats]
      have e : (List.range pl).filterMap (fun k => if ((num >>> k) % 2 == 1) = true then some (DV.int (k : Int)) else none) = (iInts (bitsOf num pl)).map .int := by
        unfold iInts bitsOf
        rw [List.map_map, filterMap_if (fun k => (num >>> k) % 2 == 1) (fun k => DV.int (k : Int))]
        rfl
      rw [e]
      refine OP2.neD (lay_ints _) (lay_ints _) (depth_ints _) ⟨_, rfl, fun q => ?_, fun q => ?_⟩
      · rw [eqv_ints] at q; simp at q
      · exact EX.nilA h
end
end Mine

namespace Mine
def gapsOf (num pl : Nat) : List Nat := (List.range pl).filter fun k => !((iInts (bitsOf num pl)).any (· == (k : Int)))
def hooksI (num pl : Nat) : List Int := (iInts (bitsOf num pl)).flatMap fun bd => (pickL (iInts (gapsOf num pl)) none (some ((bis (iInts (gapsOf num pl)) bd : Nat) : Int)) none).map fun gp => bd - gp
def onInt {α : Type} (f : Int → α) (d0 : α) : DV → α
  | .int i => f i
  | _ => d0
theorem int_at {xs : List Int} {k : Nat} {d : DV} (h : (xs.map DV.int)[k]? = some d) : ∃ i, xs[k]? = some i ∧ d = .int i := by
  rw [List.getElem?_map] at h
  cases q : xs[k]? with
  | none => rw [q] at h; cases h
  | some i => rw [q] at h; exact ⟨i, rfl, by simpa using h.symm⟩
theorem filterMap_ints {α : Type} (f : Int → α) (xs : List Int) : (xs.map DV.int).filterMap (onInt (fun i => some (f i)) none) = xs.map f := by
  rw [List.filterMap_map]
  exact congrFun List.filterMap_eq_map' _
theorem flatMap_ints {α : Type} (f : Int → List α) (xs : List Int) : (xs.map DV.int).flatMap (onInt f []) = xs.flatMap f := by
  rw [List.flatMap_map]; rfl
section
variable {p : Params} {G : Base}
def vars4 (st pl num b bl : Nat) : List (PySem.Str × AV) := ("gaps", .dat (.list ((iInts (gapsOf num pl)).map .int))) :: ("hooks", .dat (.list ((hooksI num pl).map .int))) :: ("tail", .dat (.str (Txt.mul " " bl ++ "x\t"))) :: vars3 st pl num b bl
theorem law_four (X : Facts p G) {n : Nat} {st pl num b bl : Nat} (hpl : pl ≤ 9) (hbl : bl < 3) (hh : (hooksI num pl).length ≤ 100) {L : Addr} {P : AFlow → AS → Prop}
    (h : EX G (n + 1) (fmLaw (fdLaw p) L 132) ⟨vars4 st pl num b bl, [.dead], []⟩ ((bodyIn (fdLaw p)).drop 14) P) : EX G (n + 1) (fmLaw (fdLaw p) L 132) ⟨vars3 st pl num b bl, [.dead], []⟩ ((bodyIn (fdLaw p)).drop 11) P := by
  have hbn : (bitsOf num pl).length ≤ 9 := by
    unfold bitsOf
    have := List.length_filter_le (fun k => (num >>> k) % 2 == 1) (List.range pl)
    simp at this ⊢; omega
  have hgn : (gapsOf num pl).length ≤ 9 := by
    unfold gapsOf
    have := List.length_filter_le (fun k => !((iInts (bitsOf num pl)).any (· == ((k : Nat) : Int)))) (List.range pl)
    simp at this ⊢; omega
  have hil : ∀ xs : List Nat, (iInts xs).length = xs.length := fun xs => by simp [iInts]
  refine EX.set (fmLaw_st rfl rfl) (EV.comp ⟨rfl, by decide, rfl⟩ ?_)
  refine EV.tfn X rfl rfl (EVs.one (EV.var rfl (OPL.range1 ?_)))
  refine ⟨_, compRuns1 (ItemsOf.range pl _ (by omega)) (by simp; omega) ⟨rfl, by decide, rfl⟩ (vars := [("beads", .dat (.list ((iInts (bitsOf num pl)).map .int)))]) (g := onNat fun k => if (!((iInts (bitsOf num pl)).any (· == (k : Int)))) then some (.int (k : Int)) else none) (fun C => Caps.cons ⟨rfl, rfl, rfl, rfl, ⟨_, rfl, rfl⟩⟩ Caps.nil) (fun C k d hd => ?_), ?_⟩
  · obtain ⟨hk, rfl⟩ := range_at hd
    refine Turn.test (!((iInts (bitsOf num pl)).any (· == (k : Int)))) (.inl rfl) rfl (by simp only [onNat, Int.toNat_natCast]; rfl) ?_
    refine BT.cmp (EV.var rfl (EV.var rfl (OP2.notinI (.inl rfl) ⟨_, rfl, ?_⟩)))
    exact ⟨rfl, rfl, fun _ => EV.var rfl ⟨rfl, rfl⟩⟩
  rw [filterMap_nats]
  have e : (List.range pl).filterMap (fun k => if (!((iInts (bitsOf num pl)).any (· == ((k : Nat) : Int)))) = true then some (DV.int (k : Int)) else none) = (iInts (gapsOf num pl)).map .int := by
    unfold gapsOf
    rw [filterMap_if (fun k => !((iInts (bitsOf num pl)).any (· == ((k : Nat) : Int)))) (fun k => DV.int (k : Int))]
    unfold iInts
    rw [List.map_map]
    rfl
  rw [e]
  -- hooks
  refine EX.setComp ⟨rfl, by decide, rfl⟩ (.inl rfl) (EV.var rfl ?_)
  refine ⟨_, compRuns2 (g := onInt (fun bd => (pickL (iInts (gapsOf num pl)) none (some ((bis (iInts (gapsOf num pl)) bd : Nat) : Int)) none).map fun gp => DV.int (bd - gp)) []) (.list _ _) ?_ ⟨rfl, by decide, rfl⟩ (vars := [("gaps", .dat (.list ((iInts (gapsOf num pl)).map .int)))]) (fun C => Caps.cons ⟨rfl, rfl, rfl, rfl, ⟨_, rfl, rfl⟩⟩ Caps.nil) (fun C x => rfl) (fun C k d hd => ?_), ?_⟩
  · rw [flatMap_ints]
    have : (iInts (bitsOf num pl)).flatMap (fun bd => (pickL (iInts (gapsOf num pl)) none (some ((bis (iInts (gapsOf num pl)) bd : Nat) : Int)) none).map fun gp => DV.int (bd - gp)) = (hooksI num pl).map .int := by
      unfold hooksI
      rw [List.map_flatMap]
      congr 1
      funext bd
      rw [List.map_map]; rfl
    rw [this, List.length_map]; omega
  · obtain ⟨bd, hbd, rfl⟩ := int_at hd
    refine ASG.name (.inl rfl) ⟨Sub.set (Sub.refl _) rfl, rfl, ?_⟩
    refine EV.slice (EV.var rfl (EVP.none (EVP.ev (EV.dfn X rfl rfl X.bis (EVs.two (EV.var rfl (EV.var rfl ⟨rfl, ?_⟩)))))))
    refine (bisect_left X true (A := .dat (.list ((iInts (gapsOf num pl)).map .int))) (xs := iInts (gapsOf num pl)) (x := bd) (H := [.dead]) (.inl rfl) (by rw [hil]; omega)).mono ?_
    rintro v H' ⟨rfl, rfl⟩
    refine ⟨_, rfl, EVP.none ⟨_, .inl rfl, by rw [List.length_map, hil]; omega, by decide, ?_⟩⟩
    rw [pickL_map]
    have hpk : (pickL (iInts (gapsOf num pl)) none (some ((bis (iInts (gapsOf num pl)) bd : Nat) : Int)) none).length ≤ 20 := by
      refine Nat.le_trans (pickL_len ..) ?_
      have hb := bis_le (iInts (gapsOf num pl)) bd
      rw [hil] at hb
      unfold PySem.sliceRange sliceBounds
      rw [List.length_map, List.length_range]
      simp only [Option.getD_none, show (1 : Int) > 0 by decide, if_true, if_neg (show ¬ ((bis (iInts (gapsOf num pl)) bd : Nat) : Int) < 0 by omega)]
      split <;> omega
    refine ⟨rfl, _, [("bead", .dat (.int bd)), ("gaps", .dat (.list ((iInts (gapsOf num pl)).map .int)))], onInt (fun gp => some (DV.int (bd - gp))) none, SubA.cons rfl SubA.nil, SubA.cons rfl (SubA.cons rfl SubA.nil), .list _ _, by rw [List.length_map]; omega, ?_, fun k1 d1 hd1 => ?_⟩
    · rw [filterMap_ints]; rfl
    · obtain ⟨gp, hgp, rfl⟩ := int_at hd1
      refine Turn.plain (.inl rfl) rfl rfl ?_
      exact EV.bop (EV.var rfl (EV.var rfl (OP2.sub ⟨rfl, rfl⟩)))
  rw [flatMap_ints]
  have eh : (iInts (bitsOf num pl)).flatMap (fun bd => (pickL (iInts (gapsOf num pl)) none (some ((bis (iInts (gapsOf num pl)) bd : Nat) : Int)) none).map fun gp => DV.int (bd - gp)) = (hooksI num pl).map .int := by
    unfold hooksI
    rw [List.map_flatMap]
    congr 1
    funext bd
    rw [List.map_map]; rfl
  rw [eh]
  refine EX.set (.inl rfl) (EV.bop (EV.bop (EV.str (EV.var rfl (OP2.mulS (by omega) (by omega) (by decide) (EV.str (OP2.addS ?_ ?_)))))))
  · have h1 : (Txt.mul " " ((bl : Nat) : Int)).length ≤ 1 * 3 := len_mul_leN (x := " ") (by decide) (by omega)
    have h2 : ("x\t" : PySem.Str).length = 2 := rfl
    rw [h2, sizeLine_eq]
    omega
  exact EX.names (vars4 st pl num b bl) (SubA.cons rfl (SubA.cons rfl (SubA.cons rfl (SubA.cons rfl (SubA.cons rfl (SubA.cons rfl (SubA.cons rfl (SubA.cons rfl (SubA.cons rfl (SubA.cons rfl .nil)))))))))) h
end
end Mine

namespace Mine
/-! ### rows -/
def rowI (r : Int × Int × Int) : DV := .tup [.int r.1, .int r.2.1, .int r.2.2]
def castR (r : Nat × Nat × Nat) : Int × Int × Int := (r.1, r.2.1, r.2.2)
theorem dRow_cast (xs : List (Nat × Nat × Nat)) : xs.map dRow = (xs.map castR).map rowI := by rw [List.map_map]; rfl
def rowP (r : Int × Int × Int) : PyData := .tuple [.int r.1, .int r.2.1, .int r.2.2]
theorem pds_rows : ∀ (xs : List (Int × Int × Int)), DV.pds (xs.map rowI) = xs.map rowP
  | [] => rfl
  | x :: xs => by show DV.pd _ :: DV.pds _ = _; rw [pds_rows xs]; rfl
theorem lay_rows (xs : List (Int × Int × Int)) : (DV.list (xs.map rowI)).pd.canLay0 = true := by
  show PyData.canLay0 (.list _) = true
  rw [PyData.canLay0, pds_rows]
  induction xs with
  | nil => rfl
  | cons x xs ih => rw [List.map_cons, PyData.canLayAll0, ih]; rfl
theorem depth_rows (xs : List (Int × Int × Int)) : (DV.list (xs.map rowI)).pd.depth ≤ 50 := by
  show PyData.depth (.list _) ≤ 50
  rw [PyData.depth, pds_rows]
  have := depthAll_le (xs := xs.map rowP) (k := 1) fun x hx => by
    obtain ⟨i, _, rfl⟩ := List.mem_map.mp hx
    simp [rowP, PyData.depth, PyData.depthAll]
  omega
theorem eqv_rows (xs ys : List (Int × Int × Int)) : PyData.eqv (DV.list (xs.map rowI)).pd (DV.list (ys.map rowI)).pd = decide (xs = ys) := by
  show PyData.eqv (.list _) (.list _) = _
  rw [PyData.eqv, pds_rows, pds_rows]
  induction xs generalizing ys with
  | nil => cases ys <;> simp [PyData.eqvAll]
  | cons x xs ih =>
    cases ys with
    | nil => simp [PyData.eqvAll]
    | cons y ys =>
      rw [List.map_cons, List.map_cons, PyData.eqvAll, ih]
      have e : PyData.eqv (rowP x) (rowP y) = decide (x = y) := by
        obtain ⟨a, b, c⟩ := x
        obtain ⟨a', b', c'⟩ := y
        simp only [rowP, PyData.eqv, PyData.eqvAll, Bool.and_true]
        by_cases h1 : a = a' <;> by_cases h2 : b = b' <;> by_cases h3 : c = c' <;> simp [h1, h2, h3]
      rw [e]
      by_cases q : x = y <;> by_cases r : xs = ys <;> simp [q, r]

/-! ### the two texts -/
def textOf (hk : List Nat) (bl : Nat) : PySem.Str := Txt.join "" (hk.map fun (h : Nat) => Txt.mul " " (h : Int) ++ "\t") ++ (Txt.mul " " (bl : Int) ++ "x\t")
def stOf (hk : List Nat) (bl : Nat) : WS :=
  let s := hk.foldl (fun st h => wsT ⟨st.cs, st.b + h, st.n + h, st.nt⟩) ⟨[], 0, 0, 0⟩
  ⟨s.cs, s.b + bl, s.n + bl, s.nt⟩
theorem wsRun_spaces (r : List Nat) : ∀ (h : Nat) (st : WS), wsRun st (List.replicate h 32 ++ r) = wsRun ⟨st.cs, st.b + h, st.n + h, st.nt⟩ r
  | 0, st => by simp
  | h + 1, st => by
    rw [List.replicate_succ, List.cons_append, wsRun, if_pos rfl, wsRun_spaces r h]
    simp only [Nat.add_assoc, Nat.add_comm 1 h]
theorem wsRun_hooks (r : List Nat) : ∀ (hk : List Nat) (st : WS), wsRun st ((hk.map fun h => List.replicate h 32 ++ [9]).flatten ++ r) = wsRun (hk.foldl (fun st h => wsT ⟨st.cs, st.b + h, st.n + h, st.nt⟩) st) r
  | [], st => rfl
  | h :: hk, st => by
    rw [List.map_cons, List.flatten_cons, List.append_assoc, List.append_assoc, wsRun_spaces, List.cons_append, wsRun, if_neg (by decide), if_pos rfl]
    exact wsRun_hooks r hk _
theorem str_app (x y : PySem.Str) : (x ++ y).cps.toList = x.cps.toList ++ y.cps.toList := by
  show (x.cps ++ y.cps).toList = _
  simp
theorem join_nil_list (ys : List PySem.Str) : (Txt.join "" ys).cps.toList = (ys.map fun y => y.cps.toList).flatten := by
  have e : Txt.join "" ys = Str.join "" ys := StrLaws.glued_eq_join ..
  rw [e]
  induction ys with
  | nil => rfl
  | cons y ys ih =>
    cases ys with
    | nil => simp [Str.join]
    | cons z zs =>
      show (y ++ "" ++ Str.join "" (z :: zs)).cps.toList = _
      rw [str_app, str_app, ih (StrLaws.glued_eq_join ..), show ((Str.ofString "" : PySem.Str)).cps.toList = [] from rfl]
      simp
theorem text_chars (hk : List Nat) (bl : Nat) : (textOf hk bl).cps.toList = (hk.map fun h => List.replicate h 32 ++ [9]).flatten ++ (List.replicate bl 32 ++ [120, 9]) := by
  unfold textOf
  rw [str_app, str_app, join_nil_list, List.map_map]
  have e : ∀ k : Nat, (Txt.mul " " (k : Int)).cps.toList = List.replicate k 32 := fun k => by
    have := mul_one_list 32 (k : Int)
    rw [Int.toNat_natCast] at this
    exact this
  rw [e]
  congr 2
  congr 1
  funext h
  show (Txt.mul " " (h : Int) ++ "\t").cps.toList = _
  rw [str_app, e]; rfl
theorem ws_text (hk : List Nat) (bl : Nat) : wsOf (textOf hk bl) = fieldsOf (textOf hk bl) (stOf hk bl) := by
  unfold wsOf
  congr 1
  rw [text_chars, wsRun_hooks, wsRun_spaces]
  rw [wsRun, if_neg (by decide), if_neg (by decide)]
  rfl
theorem text_len (hk : List Nat) (bl : Nat) (h1 : ∀ h ∈ hk, h ≤ 9) (h2 : hk.length ≤ 90) (h3 : bl ≤ 9) : (textOf hk bl).cps.toList.length ≤ 1000 := by
  rw [text_chars]
  have : ((hk.map fun h => List.replicate h 32 ++ [9]).flatten).length ≤ 10 * hk.length := by
    clear h2
    induction hk with
    | nil => simp
    | cons h hk ih =>
      have := ih fun x hx => h1 x (.tail _ hx)
      have := h1 h (.head _)
      simp at *
      omega
  simp at this ⊢
  omega
theorem words_len (hk : List Nat) (h1 : ∀ h ∈ hk, h ≤ 9) : (((hk.map fun (h : Nat) => Txt.mul " " (h : Int) ++ "\t")).map (·.length)).sum ≤ 10 * hk.length := by
  induction hk with
  | nil => simp
  | cons h hk ih =>
    have := ih fun x hx => h1 x (.tail _ hx)
    have h9 := h1 h (.head _)
    rw [List.map_cons, List.map_cons, List.sum_cons, List.length_cons]
    have : (Txt.mul " " (h : Int) ++ "\t").length ≤ 10 := by
      have h1 : (Txt.mul " " ((h : Nat) : Int)).length ≤ 1 * 9 := len_mul_leN (x := " ") (by decide) (by omega)
      have h2 : ("\t" : PySem.Str).length = 1 := rfl
      rw [Str.length_append, h2]; omega
    omega

section
variable {p : Params} {G : Base}
/-- what the plain law says of the hooks -/
structure Hk (num pl bl : Nat) (hk : List Nat) : Prop where
  eq : hooksI num pl = iInts hk
  ge : ∀ h ∈ hk, 1 ≤ h
  le : ∀ h ∈ hk, h ≤ 9
  len : hk.length ≤ 90
  c1 : (stOf hk bl).cs.length ≤ 900 ∧ (stOf hk bl).b ≤ 900
  c2 : (stOf (hk.map (· - 1)) bl).cs.length ≤ 900 ∧ (stOf (hk.map (· - 1)) bl).b ≤ 900
def vars5 (st pl num b bl : Nat) (hk : List Nat) : List (PySem.Str × AV) :=
  ("longer", .inst (fieldsOf (textOf hk bl) (stOf hk bl))) :: ("shorter", .inst (fieldsOf (textOf (hk.map (· - 1)) bl) (stOf (hk.map (· - 1)) bl))) :: ("rows", .dat (.list ((rowsOf (stOf hk bl) (stOf (hk.map (· - 1)) bl)).map dRow))) :: vars4 st pl num b bl
theorem law_five (X : Facts p G) {n : Nat} {st pl num b bl : Nat} (hbl : bl < 3) {hk : List Nat} (K : Hk num pl bl hk) {L : Addr} {P : AFlow → AS → Prop}
    (h : EX G (n + 2) (fmLaw (fdLaw p) L 132) ⟨vars5 st pl num b bl hk, [.dead], []⟩ ((bodyIn (fdLaw p)).drop 17) P) : EX G (n + 2) (fmLaw (fdLaw p) L 132) ⟨vars4 st pl num b bl, [.dead], []⟩ ((bodyIn (fdLaw p)).drop 14) P := by
  have hh : hooksI num pl = iInts hk := K.eq
  have hil : (iInts hk).length = hk.length := by simp [iInts]
  have hklen := K.len
  have tl : (Txt.mul " " ((bl : Nat) : Int) ++ "x\t").length ≤ 10 := by
    have h1 : (Txt.mul " " ((bl : Nat) : Int)).length ≤ 1 * 3 := len_mul_leN (x := " ") (by decide) (by omega)
    have h2 : ("x\t" : PySem.Str).length = 2 := rfl
    rw [Str.length_append, h2]; omega
  have jl : ∀ hk : List Nat, (∀ h ∈ hk, h ≤ 9) → hk.length ≤ 90 → (Txt.join "" (hk.map fun (h : Nat) => Txt.mul " " (h : Int) ++ "\t")).length ≤ 1000 := fun hk h1 h2 => by
    have := StrLaws.join_length_le "" (hk.map fun (h : Nat) => Txt.mul " " (h : Int) ++ "\t")
    rw [← StrLaws.glued_eq_join] at this
    have h3 := words_len hk h1
    rw [show ("" : PySem.Str).length = 0 from rfl] at this
    show (Builtin.Str.glued "" _).length ≤ 1000
    omega
  have le2 : ∀ h ∈ hk.map (· - 1), h ≤ 9 := fun h hm => by
    obtain ⟨x, hx, rfl⟩ := List.mem_map.mp hm
    have := K.le x hx; omega
  have elt_len : ∀ (i : Int), 0 ≤ i → i ≤ 9 → (Txt.mul " " i).length + ("\t" : PySem.Str).length ≤ sizeLine := fun i h0 h9 => by
    have h1 : (Txt.mul " " i).length ≤ 1 * 9 := len_mul_leN (x := " ") (by decide) (by omega)
    have h2 : ("\t" : PySem.Str).length = 1 := rfl
    rw [h2, sizeLine_eq]; omega
  -- longer
  refine EX.set (.inl rfl) (EV.call (EV.glob X rfl rfl ⟨.ref 83, rfl, keep_cls X, EVs.one (EV.bop (EV.meth PySem.F.plainAttrs_str PySem.F.slot_str_join PySem.F.type_str_join (EV.str ⟨rfl, EVs.one (EV.comp ⟨rfl, by decide, rfl⟩ (EV.var rfl ?_))⟩)))⟩))
  refine ⟨_, compRuns1 (.list _ _) (by rw [List.length_map, hh, hil]; omega) ⟨rfl, by decide, rfl⟩ (vars := []) (g := onInt (fun i => some (.str (Txt.mul " " i ++ "\t"))) none) (fun C => Caps.nil) (fun C k d hd => ?_), ?_⟩
  · obtain ⟨i, hi, rfl⟩ := int_at hd
    have him : i ∈ iInts hk := by rw [hh] at hi; exact List.mem_of_getElem? hi
    obtain ⟨x, hx, rfl⟩ := List.mem_map.mp him
    have := K.le x hx
    refine Turn.plain (.inl rfl) rfl rfl ?_
    exact EV.bop (EV.bop (EV.str (EV.var rfl (OP2.mulS (by omega) (by omega) (by decide) (EV.str (OP2.addS (elt_len _ (by omega) (by omega)) ⟨rfl, rfl⟩))))))
  rw [filterMap_ints, hh]
  have e1 : (iInts hk).map (fun i => DV.str (Txt.mul " " i ++ "\t")) = (hk.map fun (h : Nat) => Txt.mul " " (h : Int) ++ "\t").map .str := by
    unfold iInts; rw [List.map_map, List.map_map]; rfl
  rw [e1]
  refine OPL.join (.inl rfl) (by have := words_len hk K.le; rw [show ("" : PySem.Str).length = 0 from rfl]; omega) (EV.var rfl (OP2.addS (by have := jl hk K.le K.len; rw [sizeLine_eq]; omega) ⟨rfl, ?_⟩))
  refine (ws_make X (ws := textOf hk bl) (text_len hk bl K.le K.len (by omega)) _).mono ?_
  rintro v H' ⟨rfl, rfl⟩
  rw [ws_text]
  -- shorter
  refine EX.set (.inl rfl) (EV.call (EV.glob X rfl rfl ⟨.ref 83, rfl, keep_cls X, EVs.one (EV.bop (EV.meth PySem.F.plainAttrs_str PySem.F.slot_str_join PySem.F.type_str_join (EV.str ⟨rfl, EVs.one (EV.comp ⟨rfl, by decide, rfl⟩ (EV.var rfl ?_))⟩)))⟩))
  refine ⟨_, compRuns1 (.list _ _) (by rw [List.length_map, hh, hil]; omega) ⟨rfl, by decide, rfl⟩ (vars := []) (g := onInt (fun i => some (.str (Txt.mul " " (i - 1) ++ "\t"))) none) (fun C => Caps.nil) (fun C k d hd => ?_), ?_⟩
  · obtain ⟨i, hi, rfl⟩ := int_at hd
    have him : i ∈ iInts hk := by rw [hh] at hi; exact List.mem_of_getElem? hi
    obtain ⟨x, hx, rfl⟩ := List.mem_map.mp him
    have := K.le x hx
    have := K.ge x hx
    refine Turn.plain (.inl rfl) rfl rfl ?_
    exact EV.bop (EV.bop (EV.str (EV.bop (EV.var rfl (EV.int (OP2.sub (OP2.mulS (by omega) (by omega) (by decide) (EV.str (OP2.addS (elt_len _ (by omega) (by omega)) ⟨rfl, rfl⟩)))))))))
  rw [filterMap_ints, hh]
  have e2 : (iInts hk).map (fun i => DV.str (Txt.mul " " (i - 1) ++ "\t")) = ((hk.map (· - 1)).map fun (h : Nat) => Txt.mul " " (h : Int) ++ "\t").map .str := by
    unfold iInts
    rw [List.map_map, List.map_map, List.map_map]
    refine List.map_congr_left fun x hx => ?_
    have := K.ge x hx
    show DV.str (Txt.mul " " ((x : Int) - 1) ++ "\t") = DV.str (Txt.mul " " ((x - 1 : Nat) : Int) ++ "\t")
    rw [show (x : Int) - 1 = ((x - 1 : Nat) : Int) by omega]
  rw [e2]
  have l2 : (hk.map (· - 1)).length ≤ 90 := by simpa using K.len
  refine OPL.join (.inl rfl) (by have := words_len _ le2; rw [show ("" : PySem.Str).length = 0 from rfl]; omega) (EV.var rfl (OP2.addS (by have := jl _ le2 l2; rw [sizeLine_eq]; omega) ⟨rfl, ?_⟩))
  refine (ws_make X (ws := textOf (hk.map (· - 1)) bl) (text_len _ bl le2 l2 (by omega)) _).mono ?_
  rintro v H' ⟨rfl, rfl⟩
  rw [ws_text]
  -- rows
  refine EX.set (.inl rfl) (EV.methI X (new_find p).2.2 (new_type p).2.2 X.new (EV.var rfl ⟨_, rfl, rfl, EVs.one (EV.var rfl ⟨rfl, ?_⟩)⟩))
  refine (ws_new X K.c1.1 K.c2.1 K.c1.2 K.c2.2 _).mono ?_
  rintro v H' ⟨rfl, rfl⟩
  exact EX.names (vars5 st pl num b bl hk) (SubA.cons rfl (SubA.cons rfl (SubA.cons rfl (SubA.cons rfl (SubA.cons rfl (SubA.cons rfl (SubA.cons rfl (SubA.cons rfl (SubA.cons rfl (SubA.cons rfl (SubA.cons rfl (SubA.cons rfl (SubA.cons rfl .nil))))))))))))) h
end
end Mine

namespace Mine
def dueTo (hk : List Nat) (bl k : Nat) : List (Nat × Nat × Nat) := ((List.range k).filter fun k => hk.any (· % (k + 1) == 0)).map fun k => (k + 1, bl + (k + 1) * (hk.map (· / (k + 1) + 1)).sum, 0)
theorem dueTo_succ (hk : List Nat) (bl k : Nat) : dueTo hk bl (k + 1) = if hk.any (· % (k + 1) == 0) then dueTo hk bl k ++ [(k + 1, bl + (k + 1) * (hk.map (· / (k + 1) + 1)).sum, 0)] else dueTo hk bl k := by
  unfold dueTo
  rw [List.range_succ, List.filter_append]
  cases h : (hk.any (· % (k + 1) == 0)) <;> simp [h]
theorem dueTo_len (hk : List Nat) (bl k : Nat) : (dueTo hk bl k).length ≤ k := by
  unfold dueTo
  rw [List.length_map]
  exact Nat.le_trans (List.length_filter_le _ _) (by simp)
def farRow (r : Nat × Nat × Nat) : Int × Int × Int := (r.1, r.2.1, Int.fmod ((r.2.1 : Int) - r.2.2) r.1)
def swapRow (r : Nat × Nat × Nat) : Int × Int × Int := (r.1, r.2.2, r.2.1)
/-- what the plain law says of the rows -/
structure Rk (pl bl : Nat) (hk : List Nat) : Prop where
  far : (rowsOf (stOf hk bl) (stOf (hk.map (· - 1)) bl)).map farRow = (dueTo hk bl (pl - 1)).map castR
  swap : (rowsOf (stOf (hk.map (· - 1)) bl) (stOf hk bl)).map castR = (rowsOf (stOf hk bl) (stOf (hk.map (· - 1)) bl)).map swapRow

theorem SubA.skip {vs : List (PySem.Str × AV)} {x : PySem.Str} {v : AV} (h : vs.lookup x = none) : SubA vs ((x, v) :: vs) := fun y u e => by
  rw [List.lookup_cons]
  cases q : y == x with
  | true => rw [eq_of_beq q, h] at e; cases e
  | false => exact e
theorem iany (hk : List Nat) (k : Nat) : ((iInts hk).filter fun i => Int.fmod i ((k + 1 : Nat) : Int) == 0) = iInts (hk.filter (· % (k + 1) == 0)) := by
  unfold iInts
  rw [List.filter_map]
  congr 1
  refine List.filter_congr fun x _ => ?_
  show (Int.fmod (x : Int) ((k + 1 : Nat) : Int) == 0) = _
  rw [Int.fmod_eq_emod_of_nonneg _ (by omega)]
  have : ((x : Int) % ((k + 1 : Nat) : Int)) = ((x % (k + 1) : Nat) : Int) := by simp
  rw [this]
  cases q : x % (k + 1) with
  | zero => rfl
  | succ m => exact (beq_false_of_ne (by omega)).trans (beq_false_of_ne (by omega)).symm
theorem isum (hk : List Nat) (k : Nat) : ((iInts hk).map fun i => Int.fdiv i ((k + 1 : Nat) : Int) + 1).sum = (((hk.map (· / (k + 1) + 1)).sum : Nat) : Int) := by
  unfold iInts
  induction hk with
  | nil => rfl
  | cons x hk ih =>
    simp only [List.map_cons, List.sum_cons] at ih ⊢
    rw [ih, Int.fdiv_eq_ediv_of_nonneg _ (by omega)]
    simp
section
variable {p : Params} {G : Base}
theorem law_six (X : Facts p G) {n : Nat} {st pl num b bl : Nat} (hbl : bl < 3) (hpl : pl ≤ 9) (hpl2 : 2 ≤ pl) {hk : List Nat} (K : Hk num pl bl hk) (RK : Rk pl bl hk) {L : Addr} {P : AFlow → AS → Prop}
    (h : EX G (n + 2) (fmLaw (fdLaw p) L 132) ⟨vars5 st pl num b bl hk, [.dead, .dead], []⟩ ((bodyIn (fdLaw p)).drop 21) P) : EX G (n + 2) (fmLaw (fdLaw p) L 132) ⟨vars5 st pl num b bl hk, [.dead], []⟩ ((bodyIn (fdLaw p)).drop 17) P := by
  have hh : hooksI num pl = iInts hk := K.eq
  have hil : (iInts hk).length = hk.length := by simp [iInts]
  have hklen := K.len
  refine EX.set (.inl rfl) (EV.list (EVs.nil ⟨[], rfl, by decide, .inr ?_⟩))
  refine EX.for_ (EV.tfn X rfl rfl (EVs.two (EV.int (EV.var rfl (OPL.range2 ?_)))))
  refine ⟨_, .rng 1 pl _ (by omega) (by omega) (by omega) (by omega), fun k a => ∃ vars, a = ⟨vars, [.dead, .list ((dueTo hk bl k).map dRow)], []⟩ ∧ SubA (("due", .ref 1) :: vars5 st pl num b bl hk) vars, ?_, ?_, ?_⟩
  · exact ⟨_, rfl, fun x v e => SubA.put (SubA.refl (vs := vars5 st pl num b bl hk)) x v e⟩
  · rintro k d a2 hd ⟨vars, rfl, hv⟩
    have hk' : k < pl - 1 := by
      have := (List.getElem?_eq_some_iff.mp hd).1
      rw [List.length_map, List.length_range] at this
      omega
    have hd' : d = .int ((k + 1 : Nat) : Int) := by
      rw [List.getElem?_map, List.getElem?_range (show k < ((pl : Int) - 1).toNat by omega)] at hd
      have := (Option.some.inj hd).symm
      rw [this]
      show DV.int ((1 : Int) + (k : Int)) = _
      rw [show ((1 : Int) + (k : Int)) = ((k + 1 : Nat) : Int) by omega]
    subst hd'
    refine ASG.name (fmLaw_st rfl rfl) (EX.names _ (SubA.put hv) ?_)
    refine EX.iff (BT.cmp (EV.comp ⟨rfl, by decide, rfl⟩ (EV.var rfl ?_)))
    rw [hh]
    refine ⟨_, compRuns1 (.list _ _) (by rw [List.length_map, hil]; omega) ⟨rfl, by decide, rfl⟩ (vars := [("size", .dat (.int ((k + 1 : Nat) : Int)))]) (g := onInt (fun i => if (Int.fmod i ((k + 1 : Nat) : Int) == 0) = true then some (.int i) else none) none) (fun C => Caps.cons ⟨rfl, rfl, rfl, rfl, ⟨_, rfl, rfl⟩⟩ Caps.nil) (fun C k1 d hd => ?_), ?_⟩
    · obtain ⟨i, hi, rfl⟩ := int_at hd
      refine Turn.test (Int.fmod i ((k + 1 : Nat) : Int) == 0) (.inl rfl) rfl rfl ?_
      refine BT.cmp (EV.bop (EV.var rfl (EV.var rfl (OP2.fmod (by omega) (EV.int (OP2.eq ⟨_, rfl, ?_⟩))))))
      exact ⟨rfl, rfl, fun _ => EV.var rfl ⟨rfl, rfl⟩⟩
    have ef : ((iInts hk).map DV.int).filterMap (onInt (fun i => if (Int.fmod i ((k + 1 : Nat) : Int) == 0) = true then some (DV.int i) else none) none) = (iInts (hk.filter (· % (k + 1) == 0))).map .int := by
      rw [List.filterMap_map, ← iany, ← filterMap_if (fun i => Int.fmod i ((k + 1 : Nat) : Int) == 0) DV.int]
      rfl
    rw [ef]
    refine EV.list (EVs.nil ⟨[], rfl, by decide, .inl ?_⟩)
    refine OP2.neD (lay_ints _) (lay_ints []) (depth_ints _) ⟨_, rfl, ?_⟩
    have eq0 : (!PyData.eqv (DV.list ((iInts (hk.filter (· % (k + 1) == 0))).map .int)).pd (DV.list []).pd) = hk.any (· % (k + 1) == 0) := by
      have := eqv_ints (iInts (hk.filter (· % (k + 1) == 0))) []
      rw [show (DV.list []) = DV.list (([] : List Int).map .int) from rfl, this]
      cases q : hk.any (· % (k + 1) == 0) with
      | true =>
        obtain ⟨x, h1, h2⟩ := List.any_eq_true.mp q
        have : x ∈ hk.filter (· % (k + 1) == 0) := List.mem_filter.mpr ⟨h1, h2⟩
        have ne : iInts (hk.filter (· % (k + 1) == 0)) ≠ [] := fun z => by
          have : (x : Int) ∈ iInts (hk.filter (· % (k + 1) == 0)) := List.mem_map.mpr ⟨x, this, rfl⟩
          rw [z] at this; cases this
        rw [decide_eq_false ne]; rfl
      | false =>
        have : hk.filter (· % (k + 1) == 0) = [] := List.filter_eq_nil_iff.mpr fun x hx z => by
          have := List.any_eq_false.mp q x hx
          exact this z
        rw [this]; rfl
    rw [eq0]
    refine ⟨fun q => ?_, fun q => ?_⟩
    · refine EX.expr (EV.meth PySem.F.plainAttrs_list PySem.F.slot_list_append PySem.F.type_list_append (EV.var rfl ⟨.inl ⟨_, rfl, rfl⟩, EVs.one (EV.tuple (EVs.three (EV.var rfl (EV.bop (EV.var rfl (EV.bop (EV.var rfl (EV.bfn X rfl rfl (EVs.one (EV.comp ⟨rfl, by decide, rfl⟩ (EV.var rfl ?_)))))))))))⟩))
      rw [hh]
      refine ⟨_, compRuns1 (.list _ _) (by rw [List.length_map, hil]; omega) ⟨rfl, by decide, rfl⟩ (vars := [("size", .dat (.int ((k + 1 : Nat) : Int)))]) (g := onInt (fun i => some (.int (Int.fdiv i ((k + 1 : Nat) : Int) + 1))) none) (fun C => Caps.cons ⟨rfl, rfl, rfl, rfl, ⟨_, rfl, rfl⟩⟩ Caps.nil) (fun C k1 d hd => ?_), ?_⟩
      · obtain ⟨i, hi, rfl⟩ := int_at hd
        refine Turn.plain (.inl rfl) rfl rfl ?_
        exact EV.bop (EV.bop (EV.var rfl (EV.var rfl (OP2.fdiv (by omega) (by omega) (EV.int (OP2.add ⟨rfl, rfl⟩))))))
      rw [filterMap_ints]
      have es : (iInts hk).map (fun i => DV.int (Int.fdiv i ((k + 1 : Nat) : Int) + 1)) = ((iInts hk).map fun i => Int.fdiv i ((k + 1 : Nat) : Int) + 1).map .int := by rw [List.map_map]; rfl
      rw [es]
      refine OPL.sumG (.inl rfl) (OP2.mul (by omega) (OP2.add (EV.int ⟨[.int ((k + 1 : Nat) : Int), _, .int 0], rfl, by simp, OPL.append rfl (by have := dueTo_len hk bl k; simp; omega) ?_⟩)))
      rw [isum]
      have ed : (dueTo hk bl k).map dRow ++ [DV.tup [.int ((k + 1 : Nat) : Int), .int ((bl : Int) + ((k + 1 : Nat) : Int) * (((hk.map (· / (k + 1) + 1)).sum : Nat) : Int)), .int 0]] = (dueTo hk bl (k + 1)).map dRow := by
        rw [dueTo_succ, if_pos q, List.map_append]
        congr 2
      rw [ed]
      exact EX.nilA (EX.nil ⟨_, rfl, SubA.skip rfl⟩)
    · have ed : dueTo hk bl k = dueTo hk bl (k + 1) := by rw [dueTo_succ, if_neg (by rw [q]; decide)]
      rw [ed]
      exact EX.nilA (EX.nil ⟨_, rfl, SubA.skip rfl⟩)
  · rintro N a2 hN ⟨vars, rfl, hv⟩
    have hN : N = pl - 1 := by rw [← hN, List.length_map, List.length_range]; omega
    subst hN
    refine EX.nilA (EX.names _ hv ?_)
    refine EX.freezeL (vars := ("due", .dat (.list ((dueTo hk bl (pl - 1)).map dRow))) :: vars5 st pl num b bl hk) (i := 1) rfl (fun x v e => ?_) ?_
    · rw [List.lookup_cons] at e
      cases q : x == ("due" : PySem.Str) with
      | true => rw [q] at e; cases e; rw [eq_of_beq q]; exact .inr ⟨rfl, rfl⟩
      | false => rw [q] at e; left; show List.lookup x (_ :: _) = _; rw [List.lookup_cons, q]; exact e
    show EX G (n + 2) _ ⟨_, [.dead, .dead], []⟩ _ _
    generalize hrows : rowsOf (stOf hk bl) (stOf (hk.map (· - 1)) bl) = rows at *
    have hrl : rows.length ≤ 1000 := by
      rw [← hrows]
      have h1 := rowsTo_len (stOf hk bl) (stOf (hk.map (· - 1)) bl) (max (wsLong (stOf hk bl)) (wsLong (stOf (hk.map (· - 1)) bl)) + 1)
      have h2 := K.c1
      have h3 := K.c2
      show (rowsTo _ _ _).length ≤ 1000
      unfold wsLong at h1 ⊢
      omega
    have hpos : ∀ r ∈ rows, r.1 ≠ 0 := fun r hr => by
      rw [← hrows] at hr
      unfold rowsOf at hr
      obtain ⟨k, _, rfl⟩ := List.mem_map.mp hr
      exact Nat.succ_ne_zero k
    have row_at : ∀ {k : Nat} {d : DV}, (rows.map dRow)[k]? = some d → ∃ r, r ∈ rows ∧ d = dRow r := fun {k d} hd => by
      rw [List.getElem?_map] at hd
      cases q : rows[k]? with
      | none => rw [q] at hd; cases hd
      | some r => rw [q] at hd; exact ⟨r, List.mem_of_getElem? q, by simpa using hd.symm⟩
    have onRow : ∀ (f : Nat × Nat × Nat → Int × Int × Int) (g : DV → Option DV), (∀ r, g (dRow r) = some (rowI (f r))) → (rows.map dRow).filterMap g = (rows.map f).map rowI := fun f g hg => by
      rw [List.filterMap_map, List.map_map]
      have : (g ∘ dRow) = fun r => some ((rowI ∘ f) r) := funext hg
      rw [this]
      exact congrFun List.filterMap_eq_map' _
    -- the far ones
    refine EX.iff (BT.cmp (EV.comp ⟨rfl, by decide, rfl⟩ (EV.var rfl ?_)))
    refine ⟨_, compRuns1 (.list _ _) (by rw [List.length_map]; rw [hrows]; omega) ⟨rfl, by decide, rfl⟩ (vars := []) (g := fun d => match d with | .tup [.int a, .int b, .int c] => some (.tup [.int a, .int b, .int (Int.fmod (b - c) a)]) | _ => none) (fun C => Caps.nil) (fun C k1 d hd => ?_), ?_⟩
    · obtain ⟨r, hr, rfl⟩ := row_at (by rw [hrows] at hd; exact hd)
      refine ASG.tuple (ts := [("size", _), ("far", _), ("near", _)]) rfl ?_ rfl ⟨fun _ _ e => (nomatch e), rfl, TST.nil ⟨rfl, ?_⟩⟩
      · intro t ht
        simp only [List.mem_cons, List.not_mem_nil, or_false] at ht
        rcases ht with rfl | rfl | rfl <;> exact .inl rfl
      have := hpos r hr
      refine EV.tuple (EVs.three (EV.var rfl (EV.var rfl (EV.bop (EV.bop (EV.var rfl (EV.var rfl (OP2.sub (EV.var rfl (OP2.fmod (by omega) ⟨[.int r.1, .int r.2.1, _], rfl, by simp, _, rfl, rfl, rfl⟩))))))))))
    rw [hrows, onRow farRow _ (fun r => rfl)]
    refine EV.var rfl ?_
    rw [dRow_cast]
    refine OP2.neD (lay_rows _) (lay_rows _) (depth_rows _) ⟨_, rfl, fun q => ?_, fun q => ?_⟩
    · have hf := RK.far
      rw [hrows] at hf
      rw [eqv_rows, hf] at q; simp at q
    -- the other way round
    refine EX.nilA (EX.iff (BT.cmp (EV.methI X (new_find p).2.2 (new_type p).2.2 X.new (EV.var rfl ⟨_, rfl, rfl, EVs.one (EV.var rfl ⟨rfl, ?_⟩)⟩))))
    refine (ws_new X K.c2.1 K.c1.1 K.c2.2 K.c1.2 _).mono ?_
    rintro v H' ⟨rfl, rfl⟩
    refine EV.comp ⟨rfl, by decide, rfl⟩ (EV.var rfl ?_)
    refine ⟨_, compRuns1 (.list _ _) (by rw [List.length_map]; rw [hrows]; omega) ⟨rfl, by decide, rfl⟩ (vars := []) (g := fun d => match d with | .tup [.int a, .int b, .int c] => some (.tup [.int a, .int c, .int b]) | _ => none) (fun C => Caps.nil) (fun C k1 d hd => ?_), ?_⟩
    · obtain ⟨r, hr, rfl⟩ := row_at (by rw [hrows] at hd; exact hd)
      refine ASG.tuple (ts := [("size", _), ("far", _), ("near", _)]) rfl ?_ rfl ⟨fun _ _ e => (nomatch e), rfl, TST.nil ⟨rfl, ?_⟩⟩
      · intro t ht
        simp only [List.mem_cons, List.not_mem_nil, or_false] at ht
        rcases ht with rfl | rfl | rfl <;> exact .inl rfl
      refine EV.tuple (EVs.three (EV.var rfl (EV.var rfl (EV.var rfl ⟨[.int r.1, .int r.2.2, .int r.2.1], rfl, by simp, _, rfl, rfl, rfl⟩))))
    rw [hrows, onRow swapRow _ (fun r => rfl), dRow_cast]
    refine OP2.neD (lay_rows _) (lay_rows _) (depth_rows _) ⟨_, rfl, fun q => ?_, fun q => ?_⟩
    · have hf := RK.swap
      rw [hrows] at hf
      rw [eqv_rows, hf] at q; simp at q
    · refine EX.nilA (EX.names _ ?_ h)
      exact SubA.skip rfl
end
end Mine

namespace Mine
def powersN : List Nat := [2, 3, 4, 5, 7]
def primesN : List Nat := [2, 3, 2, 5, 7]
def eN (r : Nat × Nat × Nat) : Nat := (r.2.1 - r.2.2) / r.1
def hitF (st : Nat) (r : Nat × Nat × Nat) : Bool := r.1 % st == 0 && (decide (bis (iInts powersN) ((r.1 / st : Nat) : Int) < 5) && (powersN.getD (bis (iInts powersN) ((r.1 / st : Nat) : Int)) 0 == r.1 / st))
def nextP (st : Nat) (r : Nat × Nat × Nat) (p : Nat) : Nat := if hitF st r then p * primesN.getD (bis (iInts powersN) ((r.1 / st : Nat) : Int)) 0 ^ eN r else p
def nextT (st : Nat) (r : Nat × Nat × Nat) (t : Nat) : Nat := if r.1 = st then eN r else t
def loopF (st : Nat) : List (Nat × Nat × Nat) → Nat → Nat → Option (Nat × Nat)
  | [], t, p => some (t, p)
  | r :: rs, t, p => if r.2.2 ≤ r.2.1 ∧ eN r ≤ 1000 ∧ r.1 ≤ 1000 ∧ p < 2 ^ 62 then loopF st rs (nextT st r t) (nextP st r p) else none
section
variable {p : Params} {G : Base}
def vars6 (st pl num b bl : Nat) (hk : List Nat) (t pr : Nat) : List (PySem.Str × AV) :=
  ("powers", .dat (.list ((iInts powersN).map .int))) :: ("primes", .dat (.list ((iInts primesN).map .int))) :: ("product", .dat (.int pr)) :: ("told", .dat (.int t)) :: vars5 st pl num b bl hk
def forBody (ss : List Stmt) (k : Nat) : List Stmt := match ss[k]? with | some (.For _ _ b _ _) => b | _ => []
def rowVars (r : Nat × Nat × Nat) (vs : List (PySem.Str × AV)) : List (PySem.Str × AV) := (("near" : PySem.Str), AV.dat (.int (r.2.2 : Nat))) :: (("far" : PySem.Str), AV.dat (.int (r.2.1 : Nat))) :: (("size" : PySem.Str), AV.dat (.int (r.1 : Nat))) :: vs
theorem law_seven_tail (X : Facts p G) {n : Nat} {st pl num b bl : Nat} (hst : 1 ≤ st ∧ st ≤ 3) {hk : List Nat} {r : Nat × Nat × Nat} {t1 p' : Nat} (hrp : r.1 ≠ 0) (hcnd : r.2.2 ≤ r.2.1 ∧ eN r ≤ 1000 ∧ r.1 ≤ 1000 ∧ p' < 2 ^ 62) {L : Addr} {H : List AObj} {Q : AFlow → AS → Prop}
    (h : ∀ vars, SubA (vars6 st pl num b bl hk t1 (nextP st r p')) vars → Q .next ⟨vars, H, []⟩) : EX G (n + 2) (fmLaw (fdLaw p) L 132) ⟨rowVars r (vars6 st pl num b bl hk t1 p'), H, []⟩ ((forBody (bodyIn (fdLaw p)) 25).drop 1) Q := by
  have ee : Int.fdiv ((r.2.1 : Int) - (r.2.2 : Int)) (r.1 : Int) = ((eN r : Nat) : Int) := by
    rw [Int.fdiv_eq_ediv_of_nonneg _ (by omega), show (r.2.1 : Int) - (r.2.2 : Int) = ((r.2.1 - r.2.2 : Nat) : Int) by omega]
    unfold eN; simp
  have eq' : Int.fdiv (r.1 : Int) (st : Int) = ((r.1 / st : Nat) : Int) := by rw [Int.fdiv_eq_ediv_of_nonneg _ (by omega)]; simp
  have em : Int.fmod (r.1 : Int) (st : Int) = ((r.1 % st : Nat) : Int) := by rw [Int.fmod_eq_emod_of_nonneg _ (by omega)]; simp
  have hb5 : bis (iInts powersN) ((r.1 / st : Nat) : Int) ≤ 5 := bis_le (iInts powersN) _
  refine EX.set (.inl rfl) (EV.dfn X rfl rfl X.bis (EVs.two (EV.var rfl (EV.bop (EV.var rfl (EV.var rfl (OP2.fdiv (by omega) (by omega) ⟨rfl, ?_⟩)))))))
  rw [eq']
  refine (bisect_left X true (A := .dat (.list ((iInts powersN).map .int))) (xs := iInts powersN) (x := ((r.1 / st : Nat) : Int)) (H := H) (.inl rfl) (by decide)).mono ?_
  rintro v H' ⟨rfl, rfl⟩
  generalize hpc : bis (iInts powersN) ((r.1 / st : Nat) : Int) = pc at hb5
  have hh : hitF st r = (r.1 % st == 0 && (decide (pc < 5) && (powersN.getD pc 0 == r.1 / st))) := by unfold hitF; rw [hpc]
  have skip : hitF st r = false → ∀ vars, SubA (vars6 st pl num b bl hk t1 p') vars → Q .next ⟨vars, H', []⟩ := fun q vars hv => h vars (by unfold nextP; rw [q]; exact hv)
  have hsk : SubA (vars6 st pl num b bl hk t1 p') (setV (rowVars r (vars6 st pl num b bl hk t1 p')) "place" (.dat (.int (pc : Nat)))) := SubA.cons rfl (SubA.cons rfl (SubA.cons rfl (SubA.cons rfl (SubA.cons rfl (SubA.cons rfl (SubA.cons rfl (SubA.cons rfl (SubA.cons rfl (SubA.cons rfl (SubA.cons rfl (SubA.cons rfl (SubA.cons rfl (SubA.cons rfl (SubA.cons rfl (SubA.cons rfl (SubA.cons rfl (.nil)))))))))))))))))
  refine EX.iff (BT.and3 (BT.cmp (EV.bop (EV.var rfl (EV.var rfl (OP2.fmod (by omega) (EV.int (OP2.eq ⟨_, rfl, ?_⟩))))))))
  rw [em]
  have e1 : (((r.1 % st : Nat) : Int) == 0) = (r.1 % st == 0) := by
    cases q : r.1 % st with
    | zero => rfl
    | succ m => exact (beq_false_of_ne (by omega)).trans (beq_false_of_ne (by omega)).symm
  rw [e1]
  cases hb1 : (r.1 % st == 0) with
  | false =>
    show (false = true → _) ∧ (false = false → _)
    exact ⟨fun z => (nomatch z), fun _ => EX.nilA (EX.nil (skip (by rw [hh, hb1]; rfl) _ hsk))⟩
  | true =>
    show BT G _ _ _ _ _
    refine BT.cmp (EV.var rfl (EV.int (OP2.lt ⟨_, rfl, ?_⟩)))
    have e2 : decide (((pc : Nat) : Int) < 5) = decide (pc < 5) := by
      by_cases q : pc < 5
      · rw [decide_eq_true q, decide_eq_true (by omega)]
      · rw [decide_eq_false q, decide_eq_false (by omega)]
    rw [e2]
    cases hb2 : decide (pc < 5) with
    | false =>
      show (false = true → _) ∧ (false = false → _)
      exact ⟨fun z => (nomatch z), fun _ => EX.nilA (EX.nil (skip (by rw [hh, hb2]; simp) _ hsk))⟩
    | true =>
      have hp5 : pc < 5 := of_decide_eq_true hb2
      show BT G _ _ _ _ _
      refine BT.cmp (EV.sub (EV.var rfl (EV.var rfl (OP2.itemL (d := .int (powersN.getD pc 0 : Nat)) (.inl rfl) (by omega) (by omega) ?_ (EV.bop (EV.var rfl (EV.var rfl (OP2.fdiv (by omega) (by omega) ?_))))))))
      · rw [Int.toNat_natCast, List.getElem?_map]
        unfold iInts
        rw [List.getElem?_map, getD_some (show pc < powersN.length from hp5) 0]; rfl
      rw [eq']
      refine OP2.eq ⟨_, rfl, ?_⟩
      have e3 : (((powersN.getD pc 0 : Nat) : Int) == ((r.1 / st : Nat) : Int)) = (powersN.getD pc 0 == r.1 / st) := by
        by_cases q : powersN.getD pc 0 = r.1 / st
        · rw [q]; simp
        · exact (beq_false_of_ne (by omega)).trans (beq_false_of_ne q).symm
      rw [e3]
      refine ⟨fun q => ?_, fun q => ?_⟩
      · have hit : hitF st r = true := by rw [hh, hb1, hb2, q]; rfl
        refine EX.set (fmLaw_st rfl rfl) (EV.bop (EV.var rfl (EV.bop (EV.sub (EV.var rfl (EV.var rfl (OP2.itemL (d := .int (primesN.getD pc 0 : Nat)) (.inl rfl) (by omega) (by omega) ?_ ?_)))))))
        · rw [Int.toNat_natCast, List.getElem?_map]
          unfold iInts
          rw [List.getElem?_map, getD_some (show pc < primesN.length from hp5) 0]; rfl
        refine EV.bop (EV.bop (EV.var rfl (EV.var rfl (OP2.sub (EV.var rfl (OP2.fdiv (by omega) (by omega) ?_))))))
        rw [ee]
        refine OP2.pow ?_ (by omega) (by omega) (OP2.mul (by omega) (EX.nilA (EX.nil ?_)))
        · have : primesN.getD pc 0 ≤ 7 := by
            match pc, hp5 with
            | 0, _ | 1, _ | 2, _ | 3, _ | 4, _ => decide
          omega
        rw [Int.toNat_natCast]
        have ep : ((p' : Nat) : Int) * ((primesN.getD pc 0 : Nat) : Int) ^ eN r = ((nextP st r p' : Nat) : Int) := by
          unfold nextP
          rw [if_pos hit, hpc]
          simp
        rw [ep]
        refine h _ ?_
        exact SubA.cons rfl (SubA.cons rfl (SubA.cons rfl (SubA.cons rfl (SubA.cons rfl (SubA.cons rfl (SubA.cons rfl (SubA.cons rfl (SubA.cons rfl (SubA.cons rfl (SubA.cons rfl (SubA.cons rfl (SubA.cons rfl (SubA.cons rfl (SubA.cons rfl (SubA.cons rfl (SubA.cons rfl (.nil)))))))))))))))))
      · exact EX.nilA (EX.nil (skip (by rw [hh, q]; simp) _ hsk))
theorem law_seven (X : Facts p G) {n : Nat} {st pl num b bl : Nat} (hst : 1 ≤ st ∧ st ≤ 3) {hk : List Nat} {t pr : Nat} (hloop : loopF st (rowsOf (stOf hk bl) (stOf (hk.map (· - 1)) bl)) 0 1 = some (t, pr)) {L : Addr} {H : List AObj} {P : AFlow → AS → Prop}
    (h : EX G (n + 2) (fmLaw (fdLaw p) L 132) ⟨vars6 st pl num b bl hk t pr, H, []⟩ ((bodyIn (fdLaw p)).drop 26) P) : EX G (n + 2) (fmLaw (fdLaw p) L 132) ⟨vars5 st pl num b bl hk, H, []⟩ ((bodyIn (fdLaw p)).drop 21) P := by
  refine EX.set (.inl rfl) (EV.listC (ds := (iInts powersN).map .int) rfl (by decide) rfl ?_)
  refine EX.set (.inl rfl) (EV.listC (ds := (iInts primesN).map .int) rfl (by decide) rfl ?_)
  refine EX.set (fmLaw_st rfl rfl) (EV.int ?_)
  refine EX.set (.inl rfl) (EV.int ?_)
  refine EX.names (vars6 st pl num b bl hk 0 1) (SubA.cons rfl (SubA.cons rfl (SubA.cons rfl (SubA.cons rfl (SubA.cons rfl (SubA.cons rfl (SubA.cons rfl (SubA.cons rfl (SubA.cons rfl (SubA.cons rfl (SubA.cons rfl (SubA.cons rfl (SubA.cons rfl (SubA.cons rfl (SubA.cons rfl (SubA.cons rfl (SubA.cons rfl (.nil)))))))))))))))))) ?_
  have hpos : ∀ r ∈ rowsOf (stOf hk bl) (stOf (hk.map (· - 1)) bl), r.1 ≠ 0 := fun r hr => by
    unfold rowsOf at hr
    obtain ⟨k, _, rfl⟩ := List.mem_map.mp hr
    exact Nat.succ_ne_zero k
  refine EX.for_ (EV.var rfl ?_)
  generalize hrows : rowsOf (stOf hk bl) (stOf (hk.map (· - 1)) bl) = rows at hloop hpos ⊢
  refine ⟨_, .list _ _, fun k a => ∃ (vars : List (PySem.Str × AV)) (t' p' : Nat), a = ⟨vars, H, []⟩ ∧ SubA (vars6 st pl num b bl hk t' p') vars ∧ loopF st (rows.drop k) t' p' = some (t, pr), ?_, ?_, ?_⟩
  · exact ⟨_, 0, 1, rfl, SubA.refl, hloop⟩
  · rintro k d a2 hd ⟨vars, t', p', rfl, hv, hl⟩
    have hkl : k < rows.length := by
      have := (List.getElem?_eq_some_iff.mp hd).1
      simpa using this
    obtain ⟨r, hr⟩ : ∃ r, rows[k]? = some r := ⟨_, List.getElem?_eq_getElem hkl⟩
    have hd' : d = dRow r := by
      rw [List.getElem?_map, hr] at hd
      simpa using hd.symm
    subst hd'
    have hdrop : rows.drop k = r :: rows.drop (k + 1) := by
      rw [List.drop_eq_getElem_cons hkl]
      congr 1
      rw [List.getElem?_eq_getElem hkl] at hr
      simpa using hr
    rw [hdrop, loopF] at hl
    have hcnd : r.2.2 ≤ r.2.1 ∧ eN r ≤ 1000 ∧ r.1 ≤ 1000 ∧ p' < 2 ^ 62 := by
      by_cases q : r.2.2 ≤ r.2.1 ∧ eN r ≤ 1000 ∧ r.1 ≤ 1000 ∧ p' < 2 ^ 62
      · exact q
      · rw [if_neg q] at hl; cases hl
    rw [if_pos hcnd] at hl
    have hrp := hpos r (List.mem_of_getElem? hr)
    have ee : Int.fdiv ((r.2.1 : Int) - (r.2.2 : Int)) (r.1 : Int) = ((eN r : Nat) : Int) := by
      rw [Int.fdiv_eq_ediv_of_nonneg _ (by omega), show (r.2.1 : Int) - (r.2.2 : Int) = ((r.2.1 - r.2.2 : Nat) : Int) by omega]
      unfold eN; simp
    refine ASG.tuple (ts := [("size", _), ("far", _), ("near", _)]) rfl ?_ rfl ?_
    · intro t ht
      simp only [List.mem_cons, List.not_mem_nil, or_false] at ht
      rcases ht with rfl | rfl | rfl
      · exact fmLaw_st rfl rfl
      · exact .inl rfl
      · exact .inl rfl
    have hv2 : SubA (rowVars r (vars6 st pl num b bl hk t' p')) (setAll vars ["size", "far", "near"] [.int (r.1 : Nat), .int (r.2.1 : Nat), .int (r.2.2 : Nat)]) := SubA.put (SubA.put (SubA.put hv))
    refine EX.names _ hv2 ?_
    refine EX.iff (BT.cmp (EV.var rfl (EV.var rfl (OP2.eq ⟨_, rfl, fun q => ?_, fun q => ?_⟩))))
    · have q : r.1 = st := by
        have : ((r.1 : Nat) : Int) = ((st : Nat) : Int) := by simpa using q
        omega
      have ht : nextT st r t' = eN r := by unfold nextT; rw [if_pos q]
      refine EX.set (.inl rfl) (EV.bop (EV.bop (EV.var rfl (EV.var rfl (OP2.sub (EV.var rfl (OP2.fdiv (by omega) (by omega) ?_)))))))
      rw [ee]
      refine EX.nilA (EX.names (rowVars r (vars6 st pl num b bl hk (eN r) p')) (SubA.cons rfl (SubA.cons rfl (SubA.cons rfl (SubA.cons rfl (SubA.cons rfl (SubA.cons rfl (SubA.cons rfl (SubA.cons rfl (SubA.cons rfl (SubA.cons rfl (SubA.cons rfl (SubA.cons rfl (SubA.cons rfl (SubA.cons rfl (SubA.cons rfl (SubA.cons rfl (SubA.cons rfl (SubA.cons rfl (SubA.cons rfl (SubA.cons rfl (.nil))))))))))))))))))))) ?_)
      refine law_seven_tail X hst hrp hcnd fun vars hv => ⟨vars, _, _, rfl, hv, ?_⟩
      rw [ht] at hl; exact hl
    · have q : ¬ r.1 = st := by
        have : ¬ ((r.1 : Nat) : Int) = ((st : Nat) : Int) := by simpa using q
        omega
      have ht : nextT st r t' = t' := by unfold nextT; rw [if_neg q]
      refine EX.nilA ?_
      refine law_seven_tail X hst hrp hcnd fun vars hv => ⟨vars, _, _, rfl, hv, ?_⟩
      rw [ht] at hl; exact hl
  · rintro N a2 hN ⟨vars, t', p', rfl, hv, hl⟩
    have hN : N = rows.length := by rw [← hN]; simp
    subst hN
    rw [List.drop_length, loopF] at hl
    obtain ⟨rfl, rfl⟩ : t' = t ∧ p' = pr := by simpa using hl
    exact EX.nilA (EX.names _ hv h)
end
end Mine

namespace Mine
def cntOf (num pl st k : Nat) : Nat := ((bitsOf num pl).filter fun bd => bd % st == k % st).length
def coreOf (num pl st : Nat) : List Nat := (List.range pl).filter fun k => decide (k / st < cntOf num pl st k)
def coreText (num pl st b : Nat) : PySem.Str := if ((Txt.join ", " ((coreOf num pl st).map fun k => wordOf (b + k))).length : Int) != 0 then Txt.join ", " ((coreOf num pl st).map fun k => wordOf (b + k)) else "0x0"
def facN : Nat → Nat
  | 0 => 1
  | j + 1 => facN j * (j + 2)
theorem facN_small : ∀ j, j ≤ 19 → facN j < 2 ^ 64 := by decide +kernel
/-- what the plain law says of the end -/
structure Ek (st pl num b : Nat) (cm nn pu pr : Nat) : Prop where
  place : ∀ k ∈ coreOf num pl st, b + k < 32
  run : runF st pl 20 [(num, 1)] 0 = some ([(cm, nn)], pu)
  cm9 : cm < 512
  nn62 : nn < 2 ^ 62
  pu20 : pu ≤ 20
  prod : nn * pr = facN (pu - 1)
  text : flagText (cm * 2 ^ b) = coreText num pl st b
  ok : PyData.strOk (coreText num pl st b) = true
section
variable {p : Params} {G : Base}
def vars7 (st pl num b bl : Nat) (hk : List Nat) (t pr cm nn pu : Nat) : List (PySem.Str × AV) := ("orders", .dat (.idict (toI [(cm, nn)]))) :: ("pushes", .dat (.int pu)) :: vars6 st pl num b bl hk t pr
theorem core_count (num pl st k : Nat) (hst : 1 ≤ st) : ((iInts (bitsOf num pl)).filter fun i => Int.fmod i (st : Int) == Int.fmod (k : Int) (st : Int)).length = cntOf num pl st k := by
  unfold iInts cntOf
  rw [List.filter_map, List.length_map]
  congr 1
  refine List.filter_congr fun x _ => ?_
  show (Int.fmod (x : Int) (st : Int) == Int.fmod (k : Int) (st : Int)) = _
  rw [Int.fmod_eq_emod_of_nonneg _ (by omega), Int.fmod_eq_emod_of_nonneg _ (by omega)]
  have h1 : ((x : Int) % (st : Int)) = ((x % st : Nat) : Int) := by simp
  have h2 : ((k : Int) % (st : Int)) = ((k % st : Nat) : Int) := by simp
  rw [h1, h2]
  by_cases q : x % st = k % st
  · rw [q]; simp
  · exact (beq_false_of_ne (by omega)).trans (beq_false_of_ne q).symm
theorem law_eight (X : Facts p G) {n : Nat} {st pl num b bl : Nat} (hst : 1 ≤ st ∧ st ≤ 3) (hpl : pl ≤ 9) (hb : b < 24) {hk : List Nat} {cm nn pu pr : Nat} (K : Ek st pl num b cm nn pu pr) {L : Addr} {H : List AObj} :
    EX G (n + 2) (fmLaw (fdLaw p) L 132) ⟨vars6 st pl num b bl hk pu pr, H, []⟩ ((bodyIn (fdLaw p)).drop 26) fun f _ => f = .ret (.dat (.bool true)) := by
  have hbn : (bitsOf num pl).length ≤ 9 := by
    unfold bitsOf
    have := List.length_filter_le (fun k => (num >>> k) % 2 == 1) (List.range pl)
    simp at this ⊢; omega
  have hil : ∀ xs : List Nat, (iInts xs).length = xs.length := fun xs => by simp [iInts]
  -- orders, pushes
  refine EX.setTup (EV.dfn X rfl rfl X.ord (EVs.three (EV.var rfl (EV.var rfl (EV.var rfl ⟨rfl, ?_⟩)))))
  refine (law_orders X (by omega) (by omega) K.run H).mono ?_
  rintro v H' ⟨rfl, rfl⟩
  refine ASG.tuple (ts := [("orders", _), ("pushes", _)]) rfl ?_ rfl ?_
  · intro t ht
    simp only [List.mem_cons, List.not_mem_nil, or_false] at ht
    rcases ht with rfl | rfl
    · exact fmLaw_st rfl rfl
    · exact .inl rfl
  refine EX.names (vars7 st pl num b bl hk pu pr cm nn pu) (SubA.cons rfl (SubA.cons rfl (SubA.cons rfl (SubA.cons rfl (SubA.cons rfl (SubA.cons rfl (SubA.cons rfl (SubA.cons rfl (SubA.cons rfl (SubA.cons rfl (SubA.cons rfl (SubA.cons rfl (SubA.cons rfl (SubA.cons rfl (SubA.cons rfl (SubA.cons rfl (SubA.cons rfl (SubA.cons rfl (SubA.cons rfl (.nil)))))))))))))))))))) ?_
  -- core
  refine EX.setComp ⟨rfl, by decide, rfl⟩ (.inl rfl) ?_
  refine EV.tfn X rfl rfl (EVs.one (EV.var rfl (OPL.range1 ?_)))
  refine ⟨_, compRuns1 (ItemsOf.range pl _ (by omega)) (by simp; omega) ⟨rfl, by decide, rfl⟩ (vars := [("beads", .dat (.list ((iInts (bitsOf num pl)).map .int))), ("names", .dat (.list ((namesOf b pl).map .str))), ("step", .dat (.int st))]) (g := onNat fun k => if decide (k / st < cntOf num pl st k) = true then some (.str (wordOf (b + k))) else none) (fun C => Caps.cons ⟨rfl, rfl, rfl, rfl, ⟨_, rfl, rfl⟩⟩ (Caps.cons ⟨rfl, rfl, rfl, rfl, ⟨_, rfl, rfl⟩⟩ (Caps.cons ⟨rfl, rfl, rfl, rfl, ⟨_, rfl, rfl⟩⟩ Caps.nil))) (fun C k d hd => ?_), ?_⟩
  · obtain ⟨hk', rfl⟩ := range_at hd
    refine Turn.test (decide (k / st < cntOf num pl st k)) (cmFm_st rfl rfl) rfl (by simp only [onNat, Int.toNat_natCast]; rfl) ?_
    refine BT.cmp (EV.bop (EV.var rfl (EV.var rfl (OP2.fdiv (by omega) (by omega) ?_))))
    refine EV.bfn X rfl rfl (EVs.one (EV.comp ⟨rfl, by decide, rfl⟩ (EV.var rfl ?_)))
    refine ⟨_, compRuns1 (.list _ _) (by rw [List.length_map, hil]; omega) ⟨rfl, by decide, rfl⟩ (vars := [("place", .dat (.int k)), ("step", .dat (.int st))]) (g := onInt (fun i => if (Int.fmod i (st : Int) == Int.fmod (k : Int) (st : Int)) = true then some (.int i) else none) none) (fun C2 => Caps.cons ⟨rfl, rfl, rfl, rfl, ⟨_, rfl, rfl⟩⟩ (Caps.cons ⟨rfl, rfl, rfl, rfl, ⟨_, rfl, rfl⟩⟩ Caps.nil)) (fun C2 k1 d hd => ?_), ?_⟩
    · obtain ⟨i, hi, rfl⟩ := int_at hd
      refine Turn.test (Int.fmod i (st : Int) == Int.fmod (k : Int) (st : Int)) (.inl rfl) rfl rfl ?_
      refine BT.cmp (EV.bop (EV.var rfl (EV.var rfl (OP2.fmod (by omega) (EV.bop (EV.var rfl (EV.var rfl (OP2.fmod (by omega) (OP2.eq ⟨_, rfl, ?_⟩)))))))))
      exact ⟨rfl, rfl, fun _ => EV.var rfl ⟨rfl, rfl⟩⟩
    have ef : ((iInts (bitsOf num pl)).map DV.int).filterMap (onInt (fun i => if (Int.fmod i (st : Int) == Int.fmod (k : Int) (st : Int)) = true then some (DV.int i) else none) none) = ((iInts (bitsOf num pl)).filter fun i => Int.fmod i (st : Int) == Int.fmod (k : Int) (st : Int)).map .int := by
      rw [List.filterMap_map, ← filterMap_if (fun i => Int.fmod i (st : Int) == Int.fmod (k : Int) (st : Int)) DV.int]
      rfl
    rw [ef]
    have hcl := core_count num pl st k hst.1
    have hcl2 : cntOf num pl st k ≤ 9 := by unfold cntOf; have := List.length_filter_le (fun bd => bd % st == k % st) (bitsOf num pl); omega
    refine OPL.lenL (.inl rfl) (by rw [List.length_map, hcl]; omega) (OP2.lt ⟨_, rfl, ?_⟩)
    rw [List.length_map, hcl, Int.fdiv_eq_ediv_of_nonneg _ (by omega)]
    have e1 : ((k : Int) / (st : Int)) = ((k / st : Nat) : Int) := by simp
    rw [e1]
    refine ⟨?_, rfl, fun _ => EV.sub (EV.var rfl (EV.var rfl (OP2.itemL (.inl rfl) (by omega) (by omega) ?_ ⟨rfl, rfl⟩)))⟩
    · by_cases q : k / st < cntOf num pl st k
      · rw [decide_eq_true q, decide_eq_true (by omega)]
      · rw [decide_eq_false q, decide_eq_false (by omega)]
    · rw [Int.toNat_natCast, List.getElem?_map]
      unfold namesOf
      rw [List.getElem?_map, List.getElem?_range hk']; rfl
  rw [filterMap_nats]
  have ec : (List.range pl).filterMap (fun k => if decide (k / st < cntOf num pl st k) = true then some (DV.str (wordOf (b + k))) else none) = ((coreOf num pl st).map fun k => wordOf (b + k)).map .str := by
    rw [filterMap_if (fun k => decide (k / st < cntOf num pl st k)) (fun k => DV.str (wordOf (b + k)))]
    unfold coreOf
    rw [List.map_map]; rfl
  rw [ec]
  -- the texts
  refine EX.names (("core", .dat (.list (((coreOf num pl st).map fun k => wordOf (b + k)).map .str))) :: vars7 st pl num b bl hk pu pr cm nn pu) (SubA.cons rfl (SubA.cons rfl (SubA.cons rfl (SubA.cons rfl (SubA.cons rfl (SubA.cons rfl (SubA.cons rfl (SubA.cons rfl (SubA.cons rfl (SubA.cons rfl (SubA.cons rfl (SubA.cons rfl (SubA.cons rfl (SubA.cons rfl (SubA.cons rfl (SubA.cons rfl (SubA.cons rfl (SubA.cons rfl (SubA.cons rfl (SubA.cons rfl (.nil))))))))))))))))))))) ?_
  refine EX.iff (BT.cmp (EV.comp ⟨rfl, by decide, rfl⟩ (EV.var rfl ?_)))
  have sh : ∀ (k : Nat) (d : DV), ((toI [(cm, nn)]).map fun q => DV.int q.1)[k]? = some d → d = .int (cm : Nat) := fun k d hd => by
    cases k with
    | zero => simpa [toI] using hd.symm
    | succ k => simp [toI] at hd
  refine ⟨_, compRuns1 (.idict _ _) (by simp [toI]) ⟨rfl, by decide, rfl⟩ (vars := [("base", .dat (.int b))]) (g := onNat fun m => some (.str (flagText (m * 2 ^ b)))) (fun C => Caps.cons ⟨rfl, rfl, rfl, rfl, ⟨_, rfl, rfl⟩⟩ Caps.nil) (fun C k d hd => ?_), ?_⟩
  · have := sh k d hd
    subst this
    have cmb : cm * 2 ^ b < 2 ^ 32 := by
      have h1 : 2 ^ 9 * 2 ^ b ≤ 2 ^ 32 := by rw [← Nat.pow_add]; exact Nat.pow_le_pow_right (by decide) (by omega)
      have h2 : cm * 2 ^ b < 2 ^ 9 * 2 ^ b := Nat.mul_lt_mul_of_pos_right K.cm9 (Nat.two_pow_pos b)
      omega
    refine Turn.plain (.inl rfl) rfl rfl ?_
    have cm9 := K.cm9
    refine EV.dfn X rfl rfl X.flags (EVs.one (EV.bop (EV.var rfl (EV.var rfl (OP2.shl (by omega) (by omega) (by omega) ⟨rfl, ?_⟩)))))
    have e0 : (cm : Int) * 2 ^ ((b : Int)).toNat = ((cm * 2 ^ b : Nat) : Int) := by simp
    rw [e0]
    refine (pretty_flags X cmb H').mono ?_
    rintro v H' ⟨rfl, rfl⟩
    exact ⟨rfl, rfl⟩
  have eds : (((toI [(cm, nn)]).map fun q => DV.int q.1).filterMap (onNat fun m => some (DV.str (flagText (m * 2 ^ b))))) = [flagText (cm * 2 ^ b)].map DV.str := rfl
  rw [eds]
  have cl : (coreOf num pl st).length ≤ 9 := by
    unfold coreOf
    have := List.length_filter_le (fun k => decide (k / st < cntOf num pl st k)) (List.range pl)
    simp at this ⊢; omega
  have cw : ((((coreOf num pl st).map fun k => wordOf (b + k))).map (·.length)).sum ≤ 900 := by
    have h1 : ∀ xs : List Nat, (∀ k ∈ xs, b + k < 32) → (((xs.map fun k => wordOf (b + k))).map (·.length)).sum ≤ 100 * xs.length := fun xs => by
      induction xs with
      | nil => intro _; simp
      | cons x xs ih =>
        intro h
        have h2 := ih fun k hk => h k (.tail _ hk)
        have h3 := word_len (h x (.head _))
        rw [List.map_cons, List.map_cons, List.sum_cons, List.length_cons]
        omega
    have := h1 _ K.place
    omega
  have jl : (Txt.join ", " ((coreOf num pl st).map fun k => wordOf (b + k))).length ≤ 1000000 := by
    have := StrLaws.join_length_le ", " ((coreOf num pl st).map fun k => wordOf (b + k))
    rw [← StrLaws.glued_eq_join, show (", " : PySem.Str).length = 2 from rfl] at this
    show (Builtin.Str.glued ", " _).length ≤ 1000000
    simp at this cw ⊢
    omega
  have lays := lay_strs [coreText num pl st b] (by simp [K.ok])
  have go : EX G (n + 2) (fmLaw (fdLaw p) L 132) ⟨("core", .dat (.list (((coreOf num pl st).map fun k => wordOf (b + k)).map .str))) :: vars7 st pl num b bl hk pu pr cm nn pu, H', []⟩ ((bodyIn (fdLaw p)).drop 29) (fun f _ => f = .ret (.dat (.bool true))) := by
    have pu20 := K.pu20
    refine EX.set (.inl rfl) (EV.int ?_)
    refine EX.for_ (EV.tfn X rfl rfl (EVs.two (EV.int (EV.bop (EV.var rfl (EV.int (OP2.add (OPL.range2 ?_))))))))
    refine ⟨_, .rng 2 _ _ (by omega) (by omega) (by omega) (by omega), fun k a => ∃ vars, a = ⟨vars, H', []⟩ ∧ SubA (("factorial", .dat (.int (facN k : Nat))) :: vars7 st pl num b bl hk pu pr cm nn pu) vars, ?_, ?_, ?_⟩
    · exact ⟨_, rfl, SubA.cons rfl (SubA.cons rfl (SubA.cons rfl (SubA.cons rfl (SubA.cons rfl (SubA.cons rfl (SubA.cons rfl (SubA.cons rfl (SubA.cons rfl (SubA.cons rfl (SubA.cons rfl (SubA.cons rfl (SubA.cons rfl (SubA.cons rfl (SubA.cons rfl (SubA.cons rfl (SubA.cons rfl (SubA.cons rfl (SubA.cons rfl (SubA.cons rfl (.nil))))))))))))))))))))⟩
    · rintro k d a2 hd ⟨vars, rfl, hv⟩
      have hk' : k < ((pu : Int) + 1 - 2).toNat := by
        have := (List.getElem?_eq_some_iff.mp hd).1
        rwa [List.length_map, List.length_range] at this
      have hd' : d = .int ((k + 2 : Nat) : Int) := by
        rw [List.getElem?_map, List.getElem?_range hk'] at hd
        have := (Option.some.inj hd).symm
        rw [this]
        show DV.int ((2 : Int) + (k : Int)) = _
        rw [show ((2 : Int) + (k : Int)) = ((k + 2 : Nat) : Int) by omega]
      subst hd'
      have hf := facN_small k (by omega)
      refine ASG.name (.inl rfl) (EX.names _ (SubA.put hv) ?_)
      refine EX.set (.inl rfl) (EV.bop (EV.var rfl (EV.var rfl (OP2.mul (by rw [Int.natAbs_natCast]; exact hf) (EX.nil ⟨_, rfl, ?_⟩)))))
      have e : ((facN k : Nat) : Int) * ((k + 2 : Nat) : Int) = ((facN (k + 1) : Nat) : Int) := by rw [facN]; simp
      rw [e]
      exact SubA.cons rfl (SubA.cons rfl (SubA.cons rfl (SubA.cons rfl (SubA.cons rfl (SubA.cons rfl (SubA.cons rfl (SubA.cons rfl (SubA.cons rfl (SubA.cons rfl (SubA.cons rfl (SubA.cons rfl (SubA.cons rfl (SubA.cons rfl (SubA.cons rfl (SubA.cons rfl (SubA.cons rfl (SubA.cons rfl (SubA.cons rfl (SubA.cons rfl (.nil))))))))))))))))))))
    · rintro N a2 hN ⟨vars, rfl, hv⟩
      have hN : N = pu - 1 := by rw [← hN, List.length_map, List.length_range]; omega
      subst hN
      refine EX.nilA (EX.names _ hv ?_)
      refine EX.ret (EV.and2 (EV.cmp (EV.var rfl (EV.var rfl (OP2.eq ⟨_, rfl, ?_⟩)))))
      rw [show (((pu : Nat) : Int) == ((pu : Nat) : Int)) = true by simp]
      show EV G _ _ _ _ _
      refine EV.cmp (EV.comp ⟨rfl, by decide, rfl⟩ (EV.var rfl ?_))
      have hlk : (toI [(cm, nn)]).lookup ((cm : Nat) : Int) = some ((nn : Nat) : Int) := by rw [toI_get]; simp
      refine ⟨_, compRuns1 (.idict _ _) (by simp [toI]) ⟨rfl, by decide, rfl⟩ (vars := [("orders", .dat (.idict (toI [(cm, nn)]))), ("product", .dat (.int pr))]) (g := fun _ => some (.int (((nn : Nat) : Int) * ((pr : Nat) : Int)))) (fun C => Caps.cons ⟨rfl, rfl, rfl, rfl, ⟨_, rfl, rfl⟩⟩ (Caps.cons ⟨rfl, rfl, rfl, rfl, ⟨_, rfl, rfl⟩⟩ Caps.nil)) (fun C k d hd => ?_), ?_⟩
      · have := sh k d hd
        subst this
        refine Turn.plain (.inl rfl) rfl rfl ?_
        have nn62 := K.nn62
        exact EV.bop (EV.sub (EV.var rfl (EV.var rfl (OP2.itemD X.toOk (.inl rfl) hlk (EV.var rfl (OP2.mul (by rw [Int.natAbs_natCast]; omega) ⟨rfl, rfl⟩))))))
      have ep : ((nn : Nat) : Int) * ((pr : Nat) : Int) = ((facN (pu - 1) : Nat) : Int) := by rw [← K.prod]; simp
      have eds2 : ((toI [(cm, nn)]).map fun q => DV.int q.1).filterMap (fun _ => some (DV.int (((nn : Nat) : Int) * ((pr : Nat) : Int)))) = [((facN (pu - 1) : Nat) : Int)].map .int := by
        show [DV.int _] = [DV.int _]
        rw [ep]
      rw [eds2]
      refine EV.list (EVs.one (EV.var rfl ⟨[.int (facN (pu - 1) : Nat)], rfl, by simp, .inl ?_⟩))
      refine OP2.eqD (lay_ints [((facN (pu - 1) : Nat) : Int)]) (lay_ints [((facN (pu - 1) : Nat) : Int)]) (depth_ints _) ?_
      rw [show PyData.eqv (DV.list ([((facN (pu - 1) : Nat) : Int)].map .int)).pd (DV.list [.int (facN (pu - 1) : Nat)]).pd = true from by
        have := eqv_ints [((facN (pu - 1) : Nat) : Int)] [((facN (pu - 1) : Nat) : Int)]
        simpa using this]
  have z2 : ∀ z : PySem.Str, z = coreText num pl st b → [flagText (cm * 2 ^ b)] = [z] := fun z hz => by rw [K.text, hz]
  refine EV.list (EVs.one (EV.or2S (EV.meth PySem.F.plainAttrs_str PySem.F.slot_str_join PySem.F.type_str_join (EV.str ⟨rfl, EVs.one (EV.var rfl (OPL.join (.inl rfl) (by rw [show (", " : PySem.Str).length = 2 from rfl, List.length_map]; omega) ⟨_, rfl, jl, ?_⟩))⟩))))
  by_cases q : (((Txt.join ", " ((coreOf num pl st).map fun k => wordOf (b + k))).length : Int) != 0) = true
  · rw [if_pos q]
    have hz : Txt.join ", " ((coreOf num pl st).map fun k => wordOf (b + k)) = coreText num pl st b := by unfold coreText; rw [if_pos q]
    refine ⟨[.str _], rfl, by simp, .inl ?_⟩
    rw [hz, K.text]
    refine OP2.neD lays lays (depth_strs _) ⟨_, rfl, fun q => ?_, fun q => EX.nilA go⟩
    have := eqv_strs [coreText num pl st b] [coreText num pl st b]
    rw [show (DV.list [DV.str (coreText num pl st b)]) = DV.list ([coreText num pl st b].map .str) from rfl, this] at q; simp at q
  · rw [if_neg q]
    have hz : ("0x0" : PySem.Str) = coreText num pl st b := by unfold coreText; rw [if_neg q]
    refine EV.str ⟨[.str _], rfl, by simp, .inl ?_⟩
    rw [hz, K.text]
    refine OP2.neD lays lays (depth_strs _) ⟨_, rfl, fun q => ?_, fun q => EX.nilA go⟩
    have := eqv_strs [coreText num pl st b] [coreText num pl st b]
    rw [show (DV.list [DV.str (coreText num pl st b)]) = DV.list ([coreText num pl st b].map .str) from rfl, this] at q; simp at q
end
end Mine

namespace Mine
theorem cells_at {cm : PySem.Str → Option Value} {cs : List (PySem.Str × Addr)} {cells : List (Addr × Obj)} (x : CellsAre cm cs cells) : ∀ n c, (n, c) ∈ cs → ∃ o, (c, o) ∈ cells ∧ o.data = .cell (cm n) := by
  induction x with
  | nil => intro n c h; cases h
  | cons h _ ih =>
    intro n c hm
    rcases List.mem_cons.mp hm with e | hm
    · cases e; exact ⟨_, .head _, h⟩
    · obtain ⟨o, h1, h2⟩ := ih n c hm; exact ⟨o, .tail _ h1, h2⟩
theorem cells_apart (names : List (PySem.Str × NameKind)) (k : Nat) : ((cellsFrom (k + 1) names []).Pairwise fun x y => x.2 ≠ y.2) ∧ ∀ n c, (n, c) ∈ cellsFrom (k + 1) names [] → @LE.le Nat _ (k + 1) c := by
  let h0 : Heap := { objs := (List.replicate (k + 1) emptyDict).toArray }
  have hs : h0.objs.size = k + 1 := by simp [h0]
  have ok := cellsFrom_ok names h0 (k + 1) [] ⟨fun _ _ hm => (nomatch hm), List.Pairwise.nil⟩ (by rw [hs]; exact Nat.le_refl _)
  rw [hs] at ok
  exact ⟨ok.apart, fun n c hm => (ok.empty n c hm).2⟩
section
variable {p : Params} {G : Base}
theorem law_frame (X : Facts p G) {h₁ : Heap} {L : Addr} {m : PySem.Str → Option Value} {cm : PySem.Str → Option Value} {cells : List (Addr × Obj)} {l : Addr} {ns : List Int} {vs : Array Value} {k : Nat}
    (hL : L = G.B.objs.size) (F : Fr G.B L h₁ m) (N : News G.B L h₁ cells) (C : CellsAre cm (cellsFrom (L + 1) (fdLaw p).scope.names []) cells) (hm : m "script" = some (.ref l))
    (ho : G.B.get? l = some { cls := .type "list", data := .seq vs k }) (hi : IntsAre vs.toList ns) (hfn : (fdLaw p).scope.kind = .function) :
    Rel G (fmLaw (fdLaw p) L 132) (fun _ => False) [] ⟨[("script", .dat (.list (ns.map .int)))], [], []⟩ h₁ := by
  obtain ⟨ap, hge⟩ := cells_apart (fdLaw p).scope.names L
  have nb : ∀ b : Nat, G.B.objs.size ≤ b → G.B.get? b = none := fun b hb => by
    cases q : G.B.get? b with
    | none => rfl
    | some o => have := ltS q; omega
  have ce : ∀ x c, (fmLaw (fdLaw p) L 132).cl.lookup x = some c → (x, c) ∈ cellsFrom (L + 1) (fdLaw p).scope.names [] := fun x c e => mem_of_lookup e
  have cx : ∀ x c, (x, c) ∈ cellsFrom (L + 1) (fdLaw p).scope.names [] → ∃ o, h₁.get? c = some o ∧ o.data = .cell (cm x) := fun x c e => by
    obtain ⟨o, h1, h2⟩ := cells_at C x c e
    exact ⟨o, (N _ h1).1, h2⟩
  have cn : ∀ x c, (x, c) ∈ cellsFrom (L + 1) (fdLaw p).scope.names [] → G.B.get? c = none := fun x c e => by
    have := hge x c e
    rw [hL] at this
    exact nb c (by omega)
  have ow : ∀ b, Pv (fmLaw (fdLaw p) L 132) (fun _ => False) b → b = L ∨ ∃ x, (x, b) ∈ cellsFrom (L + 1) (fdLaw p).scope.names [] := fun b hb => by
    rcases hb with hb | hb
    · rcases List.mem_cons.mp hb with q | q
      · exact .inl q
      · obtain ⟨⟨x, c⟩, hp, rfl⟩ := List.mem_map.mp q
        exact .inr ⟨x, hp⟩
    · exact hb.elim
  have pb : ∀ b, Pv (fmLaw (fdLaw p) L 132) (fun _ => False) b → G.B.get? b = none := fun b hb => by
    rcases ow b hb with rfl | ⟨x, hx⟩
    · exact nb _ (by rw [hL]; exact Nat.le_refl _)
    · exact cn x b hx
  have pe : ∀ b, Pv (fmLaw (fdLaw p) L 132) (fun _ => False) b → ∃ o, h₁.get? b = some o := fun b hb => by
    rcases ow b hb with rfl | ⟨x, hx⟩
    · obtain ⟨o, _, _, e, _⟩ := F.ns; exact ⟨o, e⟩
    · obtain ⟨o, e, _⟩ := cx x b hx; exact ⟨o, e⟩
  have nW : ∀ b o, G.B.get? b = some o → ¬ Wf (fmLaw (fdLaw p) L 132) (fun _ => False) [] [] b := fun b o e q => by
    rcases q with q | ⟨i, o, h1, _, _⟩
    · rw [pb b q] at e; cases e
    · simp at h1
  refine ⟨hfn, ⟨fun b o e => F.keep b o e, rfl, List.nodup_nil, fun a ha => (nomatch ha), pb, fun a ha => (nomatch ha), fun a ha => (nomatch ha), pe, fun i a o h1 _ => (by simp at h1)⟩, fun b _ q => q, .head _, fun x c e => ?_, fun x y c e1 e2 => ?_, Nat.zero_le _, ⟨m, F.ns, fun x v e => ?_⟩, fun x dx e => (nomatch e)⟩
  · obtain ⟨o, h1, h2⟩ := cx x c (ce x c e)
    have := hge x c (ce x c e)
    exact ⟨⟨_, o, h1, h2⟩, fun q => (by rw [show c = L from q] at this; exact absurd (show L + 1 ≤ L from this) (Nat.not_succ_le_self L)), .inl (.tail _ (List.mem_map.mpr ⟨_, ce x c e, rfl⟩))⟩
  · exact name_of_addr ap (ce x c e1) (ce y c e2)
  · rw [List.lookup_cons] at e
    cases q : x == ("script" : PySem.Str) with
    | true =>
      rw [q] at e; cases e
      have : x = "script" := eq_of_beq q
      subst this
      exact ⟨.ref l, .list (F.keep _ _ ho) (nW l _ ho) (VRs.of_ints hi), .inl ⟨by kernel_rfl, hm⟩⟩
    | false => rw [q] at e; cases e
end
end Mine

namespace Mine
/-! ## the facts, from the heap that the head gives -/
noncomputable def gEs (p : Params) : Array DictEntry := dictIn ((lawK p).lookup 3)
def oneEq (es : Array DictEntry) (q : PySem.Str × Value) : Bool := nsFind es q.1 == some q.2
theorem g_tab (p : Params) : gTab.all (oneEq (gEs p)) = true := by kernel_rfl
def oneNone (es : Array DictEntry) (q : PySem.Str × Value) : Bool := nsFind es q.1 == none
theorem b_none (p : Params) : bTab.all (oneNone (gEs p)) = true := by kernel_rfl
theorem b_boot : bTab.all (fun q => bootBuiltins q.1 == some q.2 && q.1 != "__name__") = true := by decide +kernel
def dictO : Option Obj → Option (Array DictEntry)
  | some ⟨_, _, .dict es _, _⟩ => some es
  | _ => none
theorem dictO_some {x : Option Obj} {es : Array DictEntry} (h : dictO x = some es) : ∃ c d n s, x = some ⟨c, d, .dict es n, s⟩ := by
  unfold dictO at h
  split at h
  · cases h; exact ⟨_, _, _, _, rfl⟩
  · cases h
theorem fdIn_some {x : Option Obj} {fd : FuncData} (h : fdIn x = some fd) : ∃ o, x = some o ∧ o.data = .func fd := by
  cases x with
  | none => cases h
  | some o =>
    refine ⟨o, rfl, ?_⟩
    unfold fdIn at h
    dsimp only at h
    split at h
    · rename_i fd' q; cases h; exact q
    · cases h
theorem k_three (p : Params) : ∃ c d n s, (lawK p).lookup 3 = some ⟨c, d, .dict (gEs p) n, s⟩ := dictO_some (by kernel_rfl)
theorem k_big (p : Params) : ∃ o, (lawK p).lookup 132 = some o := Option.isSome_iff_exists.mp (by kernel_rfl)
theorem lookup_mem {q : List (PySem.Str × Value)} {x : PySem.Str} {v : Value} (h : q.lookup x = some v) : (x, v) ∈ q := by
  induction q with
  | nil => cases h
  | cons y r ih =>
    rw [List.lookup_cons] at h
    cases z : x == y.1 with
    | true => rw [z] at h; cases h; rw [eq_of_beq z]; exact .head _
    | false => rw [z] at h; exact .tail _ (ih h)
theorem fn_at {p : Params} {G : Base} (KX : (lawK p).In G.B) {fa : Addr} {fd : FuncData} (h1 : fdIn ((lawK p).lookup fa) = some fd) (h2 : codeIn (lawK p) fd.code fd.qualname = true) (h3 : fd.globals = mainGlobals) (h4 : fd.closure = []) (h5 : fd.builtins = builtinsNs) (h6 : fd.scope.isCoroutine = false) (h7 : fd.scope.isGenerator = false) (h8 : fd.scope.kind = .function) : FnAt G fa fd := by
  obtain ⟨o, h1, hd⟩ := fdIn_some h1
  exact ⟨⟨o, KX _ _ h1, hd⟩, codeRec_of KX h2, h3, h4, h5, h6, h7, h8⟩

theorem facts_of {prog : Program} {w : World} {h : Heap} {mg mb : PySem.Str → Option Value} (KX : (lawK w.params).In h) (g : h.Ns mainGlobals mg) (b : h.Ns builtinsNs mb) (nl : h.NoLimit) (bt : ∀ x : PySem.Str, x ≠ "__name__" → mb x = bootBuiltins x) :
    ∃ G : Base, G.prog = prog ∧ G.w = w ∧ G.B = h ∧ Nonempty (Facts w.params G) := by
  obtain ⟨o132, h132⟩ := k_big w.params
  refine ⟨⟨prog, w, h, 83, ⟨132, o132, KX _ _ h132, by decide⟩⟩, rfl, rfl, rfl, ⟨?_⟩⟩
  have mgE : ∀ x, mg x = nsFind (gEs w.params) x := fun x => by
    obtain ⟨o, es, ep, e1, e2, _, e4⟩ := g
    obtain ⟨c, d, n, s, e5⟩ := k_three w.params
    have := KX _ _ e5
    rw [show (3 : Addr) = mainGlobals from rfl, e1] at this
    cases this
    cases e2
    exact (e4 x).symm
  refine { mg := mg, mb := mb, g := g, b := b, lim := nl, gl := fun x v e => ?_, bl := fun x v e => ?_, KX := KX, par := rfl, cls := rfl, word := ?_, flags := ?_, bis := ?_, ins := ?_, ord := ?_, init := ?_, long := ?_, indent := ?_, new := ?_ }
  · have := List.all_eq_true.mp (g_tab w.params) _ (lookup_mem e)
    rw [mgE]; exact eq_of_beq this
  · have h1 := List.all_eq_true.mp (b_none w.params) _ (lookup_mem e)
    have h2 := List.all_eq_true.mp b_boot _ (lookup_mem e)
    rw [Bool.and_eq_true] at h2
    refine ⟨by rw [mgE]; exact eq_of_beq h1, ?_⟩
    rw [bt x (by simpa using h2.2)]
    exact eq_of_beq h2.1
  all_goals exact fn_at KX (by kernel_rfl) (by kernel_rfl) (by kernel_rfl) (by kernel_rfl) (by kernel_rfl) (by kernel_rfl) (by kernel_rfl) (by kernel_rfl)
end Mine

namespace Mine
/-- what the plain law says -/
structure PlainOk (st pl num b bl : Nat) (hk : List Nat) (cm nn pu pr : Nat) : Prop where
  split : Txt.split (flagText (num * 2 ^ b)) ", " = wordsOf (num * 2 ^ b)
  beads : beadsF (namesOf b pl) (ordL (wordsOf (num * 2 ^ b))) [] = iInts (bitsOf num pl)
  few : (wordsOf (num * 2 ^ b)).length ≤ 40
  hlen : (hooksI num pl).length ≤ 100
  hks : Hk num pl bl hk
  rk : Rk pl bl hk
  loop : loopF st (rowsOf (stOf hk bl) (stOf (hk.map (· - 1)) bl)) 0 1 = some (pu, pr)
  ek : Ek st pl num b cm nn pu pr
section
variable {p : Params} {G : Base}
theorem law_body (X : Facts p G) {n : Nat} {ns : List Int} (hl : ns.length ≤ 63) {st pl num b bl : Nat} (N : Nums ns st pl num b bl) {hk : List Nat} {cm nn pu pr : Nat} (K : PlainOk st pl num b bl hk cm nn pu pr) {L : Addr} :
    EX G (n + 2) (fmLaw (fdLaw p) L 132) ⟨[("script", .dat (.list (ns.map .int)))], [], []⟩ (bodyIn (fdLaw p)) fun f _ => f = .ret (.dat (.bool true)) := by
  have hpl : pl ≤ 9 := by have := N.hpl; split at this <;> omega
  have hpl2 : 2 ≤ pl := by have := N.hpl; split at this <;> omega
  exact law_one X N hl (law_two X N.hb1 hpl (law_three X N.hb1 hpl N.hnum1 K.split K.beads K.few (law_four X hpl N.hbl1 K.hlen (law_five X N.hbl1 K.hks (law_six X N.hbl1 hpl hpl2 K.hks K.rk (law_seven X N.hst1 K.loop (law_eight X N.hst1 hpl N.hb1 K.ek)))))))
theorem law_ok {env : Env} : AOk 2 (callerA.deeper env) where
  hh := rfl
  dep := by show callerA.depth + 1 + 4 * 2 + 8 < recursionLimit; decide
  un := by show callerA.units + 3 + 40 * 2 + 200 < cLine; decide
theorem law_call (X : Facts p G) {s : Shared} (hB : G.B = s.heap) {l : Addr} {vs : Array Value} {k : Nat} {ns : List Int} (ho : s.heap.get? l = some { cls := .type "list", data := .seq vs k }) (hi : IntsAre vs.toList ns) (hl : ns.length ≤ 63)
    (plain : ∀ st pl num b bl, Nums ns st pl num b bl → ∃ hk cm nn pu pr, PlainOk st pl num b bl hk cm nn pu pr) {R : Result → Shared → Prop}
    (hR : ∀ s', (∀ b o, s.heap.get? b = some o → s'.heap.get? b = some o) → Same s s' → R (.ok (.ret (.bool true))) s') : codeAny (model G.prog G.w) callerA (.call (.ref 132) ⟨[.ref l], []⟩) R s := by
  obtain ⟨st, pl, num, b, bl, N⟩ := nums_ex ns
  obtain ⟨hk, cm, nn, pu, pr, K⟩ := plain _ _ _ _ _ N
  have hdoc : fdIn ((lawK p).lookup 132) = some (docDef (fdLaw p).name (fdLaw p).params (bodyIn (fdLaw p)) (fdLaw p).scope (fdLaw p).pyModule (fdLaw p).code (fdLaw p).doc) := by kernel_rfl
  obtain ⟨o, h1, h2⟩ := fdIn_some hdoc
  have KX := X.KX
  rw [hB] at KX
  have hnl : s.heap.NoLimit := by rw [← hB]; exact X.lim
  refine call_cellsN (binds := [("script", .ref l)]) (by decide) (KX _ _ h1) h2 hnl (codeRec_of KX (by kernel_rfl)) (by kernel_rfl) (fun x hx => ?_) (of_decide_eq_true (by kernel_rfl)) (fun h₁ tk cells F N0 X0 => ?_) (by kernel_rfl) (by kernel_rfl) (by kernel_rfl)
  · rw [List.mem_singleton] at hx
    subst hx
    exact .inl (by kernel_rfl)
  have henv : envOfC (fdLaw p).name (fdLaw p).scope s.heap.objs.size 132 (fdLaw p).code = (fmLaw (fdLaw p) s.heap.objs.size 132).env := by kernel_rfl
  rw [henv]
  have hm : (bindL (envOfC (fdLaw p).name (fdLaw p).scope s.heap.objs.size 132 (fdLaw p).code).kindOf [("script", .ref l)] fun _ => none) "script" = some (.ref l) := by kernel_rfl
  have R₀ := law_frame X (L := s.heap.objs.size) (by rw [hB]) (by rw [hB]; exact F) (by rw [hB]; exact N0) X0 hm (by rw [hB]; exact ho) hi (by kernel_rfl)
  refine noE ((law_body X (n := 0) hl N K).go _ _ [] _ _ law_ok R₀ fun f a' φ' cf s' hp R' V' E' S' => ?_)
  subst hp
  obtain ⟨cv, rfl, V⟩ := V'
  cases V
  refine hR s' (fun b o e => R'.hr.base b o (by rw [hB]; exact e)) ((Same.mk' s h₁ tk).trans S')
end
end Mine

namespace Mine
theorem g_law (p : Params) : oneEq (gEs p) ("law", .ref 132) = true := by kernel_rfl
theorem law_fin {prog : Program} {w : World} {s : Shared} {mg mb : PySem.Str → Option Value} {fa l : Addr} {vs : List Value} {ns : List Int} (KX : (lawK w.params).In s.heap) (g : s.heap.Ns mainGlobals mg) (b : s.heap.Ns builtinsNs mb) (nl : s.heap.NoLimit) (bt : ∀ x : PySem.Str, x ≠ "__name__" → mb x = bootBuiltins x)
    (hmg : mg "law" = some (.ref fa)) (wl : Well w.params s.heap (.ref l) (ofPy (PyData.list (ns.map PyData.int)))) (hL : s.heap.IsList l vs.toArray) (hi : IntsAre vs ns) (hc : ¬ (63 : Int) < (ns.length : Int))
    (plain : ∀ st pl num b bl, Nums ns st pl num b bl → ∃ hk cm nn pu pr, PlainOk st pl num b bl hk cm nn pu pr) {R : Result → Shared → Prop}
    (hR : ∀ s', (∀ b o, s.heap.get? b = some o → s'.heap.get? b = some o) → Same s s' → R (.ok (.ret (.bool true))) s') : codeAny (model prog w) callerA (.call (.ref fa) ⟨[.ref l], []⟩) R s := by
  have hfa : fa = 132 := by
    obtain ⟨o, es, ep, e1, e2, _, e4⟩ := g
    obtain ⟨c, d, n, s', e5⟩ := k_three w.params
    have := KX _ _ e5
    rw [show (3 : Addr) = mainGlobals from rfl, e1] at this
    cases this
    cases e2
    have h1 := e4 "law"
    have h2 : nsFind (gEs w.params) "law" = some (.ref 132) := eq_of_beq (g_law w.params)
    rw [h2, hmg] at h1
    cases h1; rfl
  subst hfa
  obtain ⟨G, hp, hw, hB, ⟨X⟩⟩ := facts_of (prog := prog) KX g b nl bt
  subst hp hw
  have hl : ∃ vs', s.heap.get? l = some { cls := .type "list", data := .seq vs' } ∧ vs' = vs.toArray := by
    obtain ⟨o, e1, e2, n, e3⟩ := hL
    generalize hd : ofPy (PyData.list (ns.map PyData.int)) = d at wl
    cases wl with
    | list h1 h2 =>
      refine ⟨_, h1, ?_⟩
      rw [e1] at h1
      cases h1
      cases e3; rfl
    | _ => simp [ofPy] at hd
  obtain ⟨vs', h1, rfl⟩ := hl
  exact law_call X hB h1 (by simpa using hi) (by omega) plain hR
end Mine

namespace Mine
/-! ## the plain law: the rows -/
def hooksN (num pl : Nat) : List Nat := (hooksI num pl).map Int.toNat
def low1 (hk : List Nat) : List Nat := hk.map (· - 1)
def rowsFast (hk : List Nat) (pl : Nat) : List (Nat × Nat × Nat) := ((List.range (pl - 1)).filter fun k => hk.any (· % (k + 1) == 0)).map fun k => (k + 1, (k + 1) * (hk.map (· / (k + 1) + 1)).sum, (k + 1) * (hk.map (fun h => (h - 1) / (k + 1) + 1)).sum)
def topOf (hk : List Nat) : Nat := max (wsLong (stOf hk 0)) (wsLong (stOf (low1 hk) 0)) + 1
def checkN (pl num : Nat) : Bool :=
  hooksI num pl == iInts (hooksN num pl) && ((hooksN num pl).all (fun h => decide (1 ≤ h) && decide (h ≤ 9)) && (decide ((hooksN num pl).length ≤ 90) &&
  ((stOf (hooksN num pl) 0).b == 0 && ((stOf (low1 (hooksN num pl)) 0).b == 0 && (decide ((stOf (hooksN num pl) 0).cs.length ≤ 900) && (decide ((stOf (low1 (hooksN num pl)) 0).cs.length ≤ 900) &&
  (rowsTo (stOf (hooksN num pl) 0) (stOf (low1 (hooksN num pl)) 0) (topOf (hooksN num pl)) == rowsFast (hooksN num pl) pl &&
  ((List.range 3).all (fun k => decide (k < topOf (hooksN num pl)) || wsIndent (stOf (hooksN num pl) 0) (k + 1) == wsIndent (stOf (low1 (hooksN num pl)) 0) (k + 1)) &&
  ((rowsFast (hooksN num pl) pl).map farRow == (dueTo (hooksN num pl) 0 (pl - 1)).map castR)))))))))
def checkE (st pl num : Nat) : Bool :=
  match runF st pl 20 [(num, 1)] 0 with
  | some ([(cm, nn)], pu) => decide (cm < 2 ^ pl) && (decide (nn < 2 ^ 62) && (decide (pu ≤ 20) && (bitsOf cm pl == coreOf num pl st && (match loopF st (rowsFast (hooksN num pl) pl) 0 1 with
      | some (t, pr) => t == pu && nn * pr == facN (pu - 1)
      | none => false))))
  | _ => false

def shift (bl : Nat) (r : Nat × Nat × Nat) : Nat × Nat × Nat := (r.1, bl + r.2.1, bl + r.2.2)
theorem il_congr {s1 s2 : WS} (h : s1.cs = s2.cs) (t : Nat) : ∀ k, ilTo s1 t k = ilTo s2 t k
  | 0 => rfl
  | k + 1 => by rw [ilTo, ilTo, il_congr h t k, h]
theorem indent_shift (hk : List Nat) (bl t : Nat) : wsIndent (stOf hk bl) t = bl + wsIndent (stOf hk 0) t := by
  unfold wsIndent
  rw [il_congr (s1 := stOf hk bl) (s2 := stOf hk 0) rfl]
  show (_ + bl) + t * _ = bl + ((_ + 0) + t * _)
  have : (stOf hk bl).cs = (stOf hk 0).cs := rfl
  rw [this]
  have : (stOf hk bl).nt = (stOf hk 0).nt := rfl
  rw [this]
  omega
theorem rowsTo_shift (hk hk2 : List Nat) (bl : Nat) (k : Nat) : rowsTo (stOf hk bl) (stOf hk2 bl) k = (rowsTo (stOf hk 0) (stOf hk2 0) k).map (shift bl) := by
  unfold rowsTo
  rw [List.map_map]
  have h1 : (fun k => wsIndent (stOf hk bl) (k + 1) != wsIndent (stOf hk2 bl) (k + 1)) = fun k => wsIndent (stOf hk 0) (k + 1) != wsIndent (stOf hk2 0) (k + 1) := by
    funext k
    rw [indent_shift hk, indent_shift hk2]
    by_cases q : wsIndent (stOf hk 0) (k + 1) = wsIndent (stOf hk2 0) (k + 1)
    · rw [q]; simp
    · have : ¬ bl + wsIndent (stOf hk 0) (k + 1) = bl + wsIndent (stOf hk2 0) (k + 1) := by omega
      show (!(_ == _)) = !(_ == _)
      rw [beq_false_of_ne this, beq_false_of_ne q]
  rw [h1]
  refine List.map_congr_left fun k _ => ?_
  show (k + 1, wsIndent (stOf hk bl) (k + 1), wsIndent (stOf hk2 bl) (k + 1)) = shift bl (k + 1, wsIndent (stOf hk 0) (k + 1), wsIndent (stOf hk2 0) (k + 1))
  rw [indent_shift hk, indent_shift hk2]; rfl
theorem rowsTo_more (s1 s2 : WS) (n : Nat) (h : ∀ k, n ≤ k → k < 3 → wsIndent s1 (k + 1) = wsIndent s2 (k + 1)) : ∀ m, n + m ≤ 3 → rowsTo s1 s2 (n + m) = rowsTo s1 s2 n
  | 0, _ => rfl
  | m + 1, hm => by
    rw [← Nat.add_assoc, rowsTo_succ, if_neg (by rw [h (n + m) (by omega) (by omega)]; simp), rowsTo_more s1 s2 n h m (by omega)]
theorem rowsOf_swap (s1 s2 : WS) : (rowsOf s2 s1).map castR = (rowsOf s1 s2).map swapRow := by
  unfold rowsOf
  rw [Nat.max_comm, List.map_map, List.map_map]
  have : (fun k => wsIndent s2 (k + 1) != wsIndent s1 (k + 1)) = fun k => wsIndent s1 (k + 1) != wsIndent s2 (k + 1) := by
    funext k
    exact bne_comm
  rw [this]
  rfl
theorem due_shift (hk : List Nat) (bl k : Nat) : (dueTo hk bl k).map castR = ((dueTo hk 0 k).map castR).map fun r => (r.1, (bl : Int) + r.2.1, r.2.2) := by
  unfold dueTo
  rw [List.map_map, List.map_map, List.map_map]
  refine List.map_congr_left fun k _ => ?_
  show ((_, ((bl + _ : Nat) : Int), _) : Int × Int × Int) = (_, (bl : Int) + ((0 + _ : Nat) : Int), _)
  rw [Nat.zero_add]; simp [castR]
theorem far_shift (bl : Nat) (r : Nat × Nat × Nat) : farRow (shift bl r) = ((farRow r).1, (bl : Int) + (farRow r).2.1, (farRow r).2.2) := by
  unfold farRow shift
  have : ((bl + r.2.1 : Nat) : Int) - ((bl + r.2.2 : Nat) : Int) = (r.2.1 : Int) - (r.2.2 : Int) := by omega
  simp only [this]
  simp
theorem loop_shift (st bl : Nat) : ∀ (rows : List (Nat × Nat × Nat)) (t p : Nat), loopF st (rows.map (shift bl)) t p = loopF st rows t p
  | [], t, p => rfl
  | r :: rs, t, p => by
    have e : eN (shift bl r) = eN r := by
      unfold eN shift
      show (bl + r.2.1 - (bl + r.2.2)) / r.1 = _
      rw [Nat.add_sub_add_left]
    have e1 : nextT st (shift bl r) t = nextT st r t := by unfold nextT; rw [e]; rfl
    have e2 : nextP st (shift bl r) p = nextP st r p := by unfold nextP; rw [e]; rfl
    rw [List.map_cons, loopF, loopF, e, e1, e2, loop_shift st bl rs]
    have : ((shift bl r).2.2 ≤ (shift bl r).2.1) = (r.2.2 ≤ r.2.1) := by
      show (bl + r.2.2 ≤ bl + r.2.1) = _
      rw [Nat.add_le_add_iff_left]
    simp only [this]
    rfl
/-- what the check gives -/
theorem rows_ok {pl num bl : Nat} (hbl : bl < 3) (h : checkN pl num = true) : Hk num pl bl (hooksN num pl) ∧ Rk pl bl (hooksN num pl) ∧ rowsOf (stOf (hooksN num pl) bl) (stOf ((hooksN num pl).map (· - 1)) bl) = (rowsFast (hooksN num pl) pl).map (shift bl) := by
  unfold checkN at h
  generalize hhk : hooksN num pl = hk at h ⊢
  simp only [Bool.and_eq_true, beq_iff_eq, decide_eq_true_eq, List.all_eq_true, Bool.or_eq_true] at h
  obtain ⟨a1, a2, a3, a4, a5, a6, a7, a8, a9, a10⟩ := h
  have hlow : hk.map (· - 1) = low1 hk := rfl
  rw [hlow]
  have e1 : (stOf hk bl).b = bl := by show (stOf hk 0).b + bl = bl; omega
  have e2 : (stOf (low1 hk) bl).b = bl := by show (stOf (low1 hk) 0).b + bl = bl; omega
  have hrows : rowsOf (stOf hk bl) (stOf (low1 hk) bl) = (rowsFast hk pl).map (shift bl) := by
    show rowsTo _ _ (max (wsLong (stOf hk bl)) (wsLong (stOf (low1 hk) bl)) + 1) = _
    rw [rowsTo_shift, ← a8]
    congr 1
    have l1 : wsLong (stOf hk bl) = max ((stOf hk 0).cs.length - 1) bl := by unfold wsLong; rw [e1]; rfl
    have l2 : wsLong (stOf (low1 hk) bl) = max ((stOf (low1 hk) 0).cs.length - 1) bl := by unfold wsLong; rw [e2]; rfl
    have l3 : topOf hk = max ((stOf hk 0).cs.length - 1) ((stOf (low1 hk) 0).cs.length - 1) + 1 := by unfold topOf wsLong; rw [a4, a5]; simp
    rw [l1, l2]
    by_cases q : bl + 1 ≤ topOf hk
    · congr 1; omega
    · have hm : max (max ((stOf hk 0).cs.length - 1) bl) (max ((stOf (low1 hk) 0).cs.length - 1) bl) + 1 = topOf hk + (bl + 1 - topOf hk) := by omega
      rw [hm]
      refine rowsTo_more _ _ _ (fun k h1 h2 => ?_) _ (by omega)
      rcases a9 k (List.mem_range.mpr h2) with z | z
      · omega
      · exact z
  refine ⟨⟨by rw [a1], fun x hx => (a2 x hx).1, fun x hx => (a2 x hx).2, a3, ⟨a6, by omega⟩, ⟨a7, by rw [hlow, e2]; omega⟩⟩, ⟨?_, rowsOf_swap ..⟩, hrows⟩
  rw [hlow, hrows, due_shift, ← a10, List.map_map, List.map_map]
  exact List.map_congr_left fun r _ => far_shift bl r
end Mine

namespace Mine
/-! ## the plain law: the checks, evaluated -/
def check8 (num : Nat) : Bool := checkN 8 num && checkE 1 8 num
def check9 (num : Nat) : Bool := checkN 9 num && (checkE 2 9 num && checkE 3 9 num)
theorem ea8_0 : (List.range 16).all (fun k => check8 (k + 0)) = true := by decide +kernel
theorem ea8_1 : (List.range 16).all (fun k => check8 (k + 16)) = true := by decide +kernel
theorem ea8_2 : (List.range 16).all (fun k => check8 (k + 32)) = true := by decide +kernel
theorem ea8_3 : (List.range 16).all (fun k => check8 (k + 48)) = true := by decide +kernel
theorem ea8_4 : (List.range 16).all (fun k => check8 (k + 64)) = true := by decide +kernel
theorem ea8_5 : (List.range 16).all (fun k => check8 (k + 80)) = true := by decide +kernel
theorem ea8_6 : (List.range 16).all (fun k => check8 (k + 96)) = true := by decide +kernel
theorem ea8_7 : (List.range 16).all (fun k => check8 (k + 112)) = true := by decide +kernel
theorem ea8_8 : (List.range 16).all (fun k => check8 (k + 128)) = true := by decide +kernel
theorem ea8_9 : (List.range 16).all (fun k => check8 (k + 144)) = true := by decide +kernel
theorem ea8_10 : (List.range 16).all (fun k => check8 (k + 160)) = true := by decide +kernel
theorem ea8_11 : (List.range 16).all (fun k => check8 (k + 176)) = true := by decide +kernel
theorem ea8_12 : (List.range 16).all (fun k => check8 (k + 192)) = true := by decide +kernel
theorem ea8_13 : (List.range 16).all (fun k => check8 (k + 208)) = true := by decide +kernel
theorem ea8_14 : (List.range 16).all (fun k => check8 (k + 224)) = true := by decide +kernel
theorem ea8_15 : (List.range 16).all (fun k => check8 (k + 240)) = true := by decide +kernel
theorem ea8 {num : Nat} (h : num < 256) : check8 num = true := by
  have hk : num % 16 < 16 := Nat.mod_lt _ (by decide)
  have hq : num / 16 < 16 := by omega
  have go : ∀ q, q = num / 16 → (List.range 16).all (fun k => check8 (k + q * 16)) = true → check8 num = true := by
    intro q e t
    have := List.all_eq_true.mp t (num % 16) (List.mem_range.mpr hk)
    rw [e] at this
    rwa [Nat.mul_comm, Nat.mod_add_div] at this
  match e : num / 16 with
  | 0 => exact go 0 e.symm ea8_0
  | 1 => exact go 1 e.symm ea8_1
  | 2 => exact go 2 e.symm ea8_2
  | 3 => exact go 3 e.symm ea8_3
  | 4 => exact go 4 e.symm ea8_4
  | 5 => exact go 5 e.symm ea8_5
  | 6 => exact go 6 e.symm ea8_6
  | 7 => exact go 7 e.symm ea8_7
  | 8 => exact go 8 e.symm ea8_8
  | 9 => exact go 9 e.symm ea8_9
  | 10 => exact go 10 e.symm ea8_10
  | 11 => exact go 11 e.symm ea8_11
  | 12 => exact go 12 e.symm ea8_12
  | 13 => exact go 13 e.symm ea8_13
  | 14 => exact go 14 e.symm ea8_14
  | 15 => exact go 15 e.symm ea8_15
  | q + 16 => omega
theorem ea9_0 : (List.range 16).all (fun k => check9 (k + 0)) = true := by decide +kernel
theorem ea9_1 : (List.range 16).all (fun k => check9 (k + 16)) = true := by decide +kernel
theorem ea9_2 : (List.range 16).all (fun k => check9 (k + 32)) = true := by decide +kernel
theorem ea9_3 : (List.range 16).all (fun k => check9 (k + 48)) = true := by decide +kernel
theorem ea9_4 : (List.range 16).all (fun k => check9 (k + 64)) = true := by decide +kernel
theorem ea9_5 : (List.range 16).all (fun k => check9 (k + 80)) = true := by decide +kernel
theorem ea9_6 : (List.range 16).all (fun k => check9 (k + 96)) = true := by decide +kernel
theorem ea9_7 : (List.range 16).all (fun k => check9 (k + 112)) = true := by decide +kernel
theorem ea9_8 : (List.range 16).all (fun k => check9 (k + 128)) = true := by decide +kernel
theorem ea9_9 : (List.range 16).all (fun k => check9 (k + 144)) = true := by decide +kernel
theorem ea9_10 : (List.range 16).all (fun k => check9 (k + 160)) = true := by decide +kernel
theorem ea9_11 : (List.range 16).all (fun k => check9 (k + 176)) = true := by decide +kernel
theorem ea9_12 : (List.range 16).all (fun k => check9 (k + 192)) = true := by decide +kernel
theorem ea9_13 : (List.range 16).all (fun k => check9 (k + 208)) = true := by decide +kernel
theorem ea9_14 : (List.range 16).all (fun k => check9 (k + 224)) = true := by decide +kernel
theorem ea9_15 : (List.range 16).all (fun k => check9 (k + 240)) = true := by decide +kernel
theorem ea9_16 : (List.range 16).all (fun k => check9 (k + 256)) = true := by decide +kernel
theorem ea9_17 : (List.range 16).all (fun k => check9 (k + 272)) = true := by decide +kernel
theorem ea9_18 : (List.range 16).all (fun k => check9 (k + 288)) = true := by decide +kernel
theorem ea9_19 : (List.range 16).all (fun k => check9 (k + 304)) = true := by decide +kernel
theorem ea9_20 : (List.range 16).all (fun k => check9 (k + 320)) = true := by decide +kernel
theorem ea9_21 : (List.range 16).all (fun k => check9 (k + 336)) = true := by decide +kernel
theorem ea9_22 : (List.range 16).all (fun k => check9 (k + 352)) = true := by decide +kernel
theorem ea9_23 : (List.range 16).all (fun k => check9 (k + 368)) = true := by decide +kernel
theorem ea9_24 : (List.range 16).all (fun k => check9 (k + 384)) = true := by decide +kernel
theorem ea9_25 : (List.range 16).all (fun k => check9 (k + 400)) = true := by decide +kernel
theorem ea9_26 : (List.range 16).all (fun k => check9 (k + 416)) = true := by decide +kernel
theorem ea9_27 : (List.range 16).all (fun k => check9 (k + 432)) = true := by decide +kernel
theorem ea9_28 : (List.range 16).all (fun k => check9 (k + 448)) = true := by decide +kernel
theorem ea9_29 : (List.range 16).all (fun k => check9 (k + 464)) = true := by decide +kernel
theorem ea9_30 : (List.range 16).all (fun k => check9 (k + 480)) = true := by decide +kernel
theorem ea9_31 : (List.range 16).all (fun k => check9 (k + 496)) = true := by decide +kernel
theorem ea9 {num : Nat} (h : num < 512) : check9 num = true := by
  have hk : num % 16 < 16 := Nat.mod_lt _ (by decide)
  have hq : num / 16 < 32 := by omega
  have go : ∀ q, q = num / 16 → (List.range 16).all (fun k => check9 (k + q * 16)) = true → check9 num = true := by
    intro q e t
    have := List.all_eq_true.mp t (num % 16) (List.mem_range.mpr hk)
    rw [e] at this
    rwa [Nat.mul_comm, Nat.mod_add_div] at this
  match e : num / 16 with
  | 0 => exact go 0 e.symm ea9_0
  | 1 => exact go 1 e.symm ea9_1
  | 2 => exact go 2 e.symm ea9_2
  | 3 => exact go 3 e.symm ea9_3
  | 4 => exact go 4 e.symm ea9_4
  | 5 => exact go 5 e.symm ea9_5
  | 6 => exact go 6 e.symm ea9_6
  | 7 => exact go 7 e.symm ea9_7
  | 8 => exact go 8 e.symm ea9_8
  | 9 => exact go 9 e.symm ea9_9
  | 10 => exact go 10 e.symm ea9_10
  | 11 => exact go 11 e.symm ea9_11
  | 12 => exact go 12 e.symm ea9_12
  | 13 => exact go 13 e.symm ea9_13
  | 14 => exact go 14 e.symm ea9_14
  | 15 => exact go 15 e.symm ea9_15
  | 16 => exact go 16 e.symm ea9_16
  | 17 => exact go 17 e.symm ea9_17
  | 18 => exact go 18 e.symm ea9_18
  | 19 => exact go 19 e.symm ea9_19
  | 20 => exact go 20 e.symm ea9_20
  | 21 => exact go 21 e.symm ea9_21
  | 22 => exact go 22 e.symm ea9_22
  | 23 => exact go 23 e.symm ea9_23
  | 24 => exact go 24 e.symm ea9_24
  | 25 => exact go 25 e.symm ea9_25
  | 26 => exact go 26 e.symm ea9_26
  | 27 => exact go 27 e.symm ea9_27
  | 28 => exact go 28 e.symm ea9_28
  | 29 => exact go 29 e.symm ea9_29
  | 30 => exact go 30 e.symm ea9_30
  | 31 => exact go 31 e.symm ea9_31
  | q + 32 => omega
theorem ev8 {num : Nat} (h : num < 256) : checkN 8 num = true := (Bool.and_eq_true_iff.mp (ea8 h)).1
theorem eE1 {num : Nat} (h : num < 256) : checkE 1 8 num = true := (Bool.and_eq_true_iff.mp (ea8 h)).2
theorem ev9 {num : Nat} (h : num < 512) : checkN 9 num = true := (Bool.and_eq_true_iff.mp (ea9 h)).1
theorem eE2 {num : Nat} (h : num < 512) : checkE 2 9 num = true := (Bool.and_eq_true_iff.mp (Bool.and_eq_true_iff.mp (ea9 h)).2).1
theorem eE3 {num : Nat} (h : num < 512) : checkE 3 9 num = true := (Bool.and_eq_true_iff.mp (Bool.and_eq_true_iff.mp (ea9 h)).2).2
end Mine

namespace Mine
/-! ## the plain law: the words of the text -/
section
open PySem.StrLaws PySem.Builtin PySem.Builtin.Str
theorem comma_list : (", " : PySem.Str).cps.toList = [44, 32] := by decide +kernel
theorem comma_len : (", " : PySem.Str).length = 2 := by decide +kernel
theorem at_iff (x : PySem.Str) (k : Nat) : At x ", " x.length k ↔ (x.cps.toList.drop k).take 2 = [44, 32] := by
  have hn : x.cps.toList.length = x.length := by simp [PySem.Str.length]
  unfold At
  rw [subAt_eq, comma_len, comma_list]
  constructor
  · rintro ⟨_, h⟩; exact eq_of_beq h
  · intro h
    refine ⟨?_, by rw [h]; rfl⟩
    have := congrArg List.length h
    simp at this
    rw [PySem.Str.length]
    omega
theorem join_cons2 (w w2 : PySem.Str) (r : List PySem.Str) : (PySem.Str.join ", " (w :: w2 :: r)).cps.toList = w.cps.toList ++ ([44, 32] ++ (PySem.Str.join ", " (w2 :: r)).cps.toList) := by
  show (w ++ ", " ++ PySem.Str.join ", " (w2 :: r)).cps.toList = _
  rw [PySem.Str.cps_append, Array.toList_append, PySem.Str.cps_append, Array.toList_append, comma_list, List.append_assoc]
theorem no_at {x : PySem.Str} {a : Nat} {L R : List Nat} (e : x.cps.toList.drop a = L ++ R) (h : 44 ∉ L) {k : Nat} (h1 : a ≤ k) (h2 : k < a + L.length) : ¬ At x ", " x.length k := by
  rw [at_iff]
  intro q
  have e2 : x.cps.toList.drop k = (L ++ R).drop (k - a) := by rw [← e, List.drop_drop]; congr 1; omega
  have hlt : k - a < L.length := by omega
  rw [e2, List.drop_append_of_le_length (by omega), List.drop_eq_getElem_cons hlt] at q
  rw [List.cons_append, List.take_succ_cons] at q
  have : L[k - a] = 44 := (List.cons.inj q).1
  exact h (this ▸ List.getElem_mem hlt)
theorem parts_words (x : PySem.Str) : ∀ (ws : List PySem.Str) (w : PySem.Str) (a f : Nat) (cuts : List Nat), (∀ v ∈ w :: ws, 44 ∉ v.cps.toList) → a ≤ x.length → x.cps.toList.drop a = (PySem.Str.join ", " (w :: ws)).cps.toList →
    ChainG x ", " x.length a cuts f → (∀ k, f ≤ k → ¬ At x ", " x.length k) → partsFrom x 2 a cuts = w :: ws
  | [], w, a, f, cuts, hw, ha, e, hc, ht => by
    have e' : x.cps.toList.drop a = w.cps.toList := e
    have hn : x.cps.toList.length = x.length := by simp [PySem.Str.length]
    have none : ∀ k, a ≤ k → ¬ At x ", " x.length k := fun k hk hA => by
      have hl : w.cps.toList.length = x.length - a := by rw [← e', List.length_drop, hn]
      exact no_at (L := w.cps.toList) (R := []) (by rw [e', List.append_nil]) (hw w (List.mem_cons_self ..)) hk (by have := hA.1; rw [comma_len] at this; omega) hA
    cases cuts with
    | cons c r => exact absurd hc.2.1 (none c hc.1)
    | nil =>
      show [strSub x a x.length] = [w]
      congr 1
      apply PySem.Str.ext'
      apply Array.toList_inj.mp
      rw [strSub_toList, e']
      exact List.take_of_length_le (by rw [← e', List.length_drop, hn]; exact Nat.le_refl _)
  | w2 :: r, w, a, f, cuts, hw, ha, e, hc, ht => by
    rw [join_cons2] at e
    have hn : x.cps.toList.length = x.length := by simp [PySem.Str.length]
    have hl : x.length - a = w.cps.toList.length + (2 + (PySem.Str.join ", " (w2 :: r)).cps.toList.length) := by
      have := congrArg List.length e
      rw [List.length_drop, hn, List.length_append, List.length_append] at this
      exact this
    have ed : x.cps.toList.drop (a + w.cps.toList.length) = [44, 32] ++ (PySem.Str.join ", " (w2 :: r)).cps.toList := by
      rw [← List.drop_drop, e, List.drop_left]
    have here : At x ", " x.length (a + w.cps.toList.length) := by rw [at_iff, ed]; rfl
    cases cuts with
    | nil =>
      have ef : f = a := hc
      exact absurd here (ht _ (by omega))
    | cons c r' =>
      obtain ⟨c1, c2, c3, c4⟩ := hc
      have ec : c = a + w.cps.toList.length := by
        rcases Nat.lt_trichotomy c (a + w.cps.toList.length) with q | q | q
        · exact absurd c2 (no_at e (hw w (List.mem_cons_self ..)) c1 q)
        · exact q
        · exact absurd here (c3 _ (by omega) q)
      show strSub x a c :: partsFrom x 2 (c + 2) r' = _
      rw [comma_len] at c4
      rw [parts_words x r w2 (c + 2) f r' (fun v hv => hw v (List.mem_cons_of_mem _ hv)) (by omega) (by rw [ec, ← List.drop_drop, ed]; rfl) c4 ht]
      congr 1
      apply PySem.Str.ext'
      apply Array.toList_inj.mp
      rw [strSub_toList, e, ec]
      have : a + w.cps.toList.length - a = w.cps.toList.length := by omega
      rw [this, List.take_left]
theorem split_join (w : PySem.Str) (ws : List PySem.Str) (hw : ∀ v ∈ w :: ws, 44 ∉ v.cps.toList) : Txt.split (Txt.join ", " (w :: ws)) ", " = w :: ws := by
  have ej : Txt.join ", " (w :: ws) = PySem.Str.join ", " (w :: ws) := glued_eq_join _ _
  rw [ej]
  generalize hx : PySem.Str.join ", " (w :: ws) = x
  have e0 : x.cps.toList.drop 0 = (PySem.Str.join ", " (w :: ws)).cps.toList := by rw [hx]; rfl
  obtain ⟨f, hG, hn⟩ := occ_tight x ", " (by rw [comma_len]; omega)
  have whole : (∀ k, ¬ At x ", " x.length k) → [x] = w :: ws := fun h => by
    have := parts_words x ws w 0 0 [] hw (Nat.zero_le _) e0 rfl (fun k _ => h k)
    rw [← this]
    show _ = [strSub x 0 x.length]
    rw [sub_whole]
  unfold Txt.split
  split
  · rename_i hc
    refine whole fun k hA => ?_
    rw [Bool.or_eq_true, decide_eq_true_eq, decide_eq_true_eq] at hc
    rcases hc with h | h
    · have := hA.1; omega
    · have h1 : strKind (", " : PySem.Str) = 1 := by decide +kernel
      have := strKind_pos x
      omega
  · split
    · rename_i he
      rw [List.isEmpty_iff.mp he] at hG
      have ef : f = 0 := hG
      exact whole fun k => hn k (by omega)
    · rw [partsBetween_eq, comma_len]
      exact parts_words x ws w 0 f _ hw (Nat.zero_le _) e0 hG hn
end
theorem word_plain {k : Nat} (h : k < 32) : 44 ∉ (wordOf k).cps.toList := by
  have : (List.range 32).all (fun k => decide (44 ∉ (wordOf k).cps.toList)) = true := by decide +kernel
  exact of_decide_eq_true (List.all_eq_true.mp this k (List.mem_range.mpr h))
theorem words_plain (m : Nat) : ∀ v ∈ wordsOf m, 44 ∉ v.cps.toList := by
  intro v hv
  unfold wordsOf at hv
  split at hv
  · rw [List.mem_singleton.mp hv]; decide +kernel
  · unfold bitWords at hv
    obtain ⟨k, hk, rfl⟩ := List.mem_map.mp hv
    exact word_plain (List.mem_range.mp (List.mem_filter.mp hk).1)
theorem words_some {m : Nat} (h : m < 2 ^ 32) : wordsOf m ≠ [] := by
  unfold wordsOf
  split
  · simp
  · rename_i h0
    obtain ⟨k, hk⟩ := Nat.exists_testBit_of_ne_zero h0
    have hk32 : k < 32 := by
      refine Classical.byContradiction fun hn => ?_
      have : m.testBit k = false := Nat.testBit_lt_two_pow (Nat.lt_of_lt_of_le h (Nat.pow_le_pow_right (by omega) (by omega)))
      rw [hk] at this; cases this
    intro e
    unfold bitWords at e
    rw [List.map_eq_nil_iff] at e
    have : k ∈ (List.range 32).filter m.testBit := List.mem_filter.mpr ⟨List.mem_range.mpr hk32, hk⟩
    rw [e] at this; cases this
theorem flag_join (m : Nat) : flagText m = Txt.join ", " (wordsOf m) := rfl
theorem split_flag {m : Nat} (h : m < 2 ^ 32) : Txt.split (flagText m) ", " = wordsOf m := by
  rw [flag_join]
  have hp := words_plain m
  have hs := words_some h
  cases e : wordsOf m with
  | nil => exact absurd e hs
  | cons w ws => exact split_join w ws (e ▸ hp)
end Mine

namespace Mine
/-! ## the plain law: the beads, the core's text, and the whole -/
theorem bits_test (num k : Nat) : ((num >>> k) % 2 == 1) = num.testBit k := by
  rw [Nat.testBit_eq_decide_div_mod_eq, Nat.shiftRight_eq_div_pow]
  by_cases q : num / 2 ^ k % 2 = 1
  · rw [q]; rfl
  · rw [beq_false_of_ne q, decide_eq_false q]
theorem bitsOf_eq (num pl : Nat) : bitsOf num pl = (List.range pl).filter num.testBit := by
  unfold bitsOf
  congr 1
  funext k
  exact bits_test num k
theorem bitWords_shift {num pl b : Nat} (h : num < 2 ^ pl) (hb : b + pl ≤ 32) : bitWords (num * 2 ^ b) 32 = (bitsOf num pl).map fun k => wordOf (b + k) := by
  obtain ⟨r, hr⟩ : ∃ r, 32 = b + (pl + r) := ⟨32 - b - pl, by omega⟩
  rw [bitsOf_eq]
  unfold bitWords
  rw [hr, List.range_add, List.range_add, List.map_append, List.filter_append, List.filter_append, List.filter_map, List.map_map, List.filter_map]
  have z1 : (List.range b).filter (num * 2 ^ b).testBit = [] := by
    rw [List.filter_eq_nil_iff]
    intro k hk
    rw [Nat.testBit_mul_two_pow, decide_eq_false (by have := List.mem_range.mp hk; omega)]
    simp
  have z3 : (List.range r).filter ((num * 2 ^ b).testBit ∘ ((fun x => b + x) ∘ fun x => pl + x)) = [] := by
    rw [List.filter_eq_nil_iff]
    intro k hk
    show ¬ (num * 2 ^ b).testBit (b + (pl + k)) = true
    rw [Nat.testBit_mul_two_pow]
    have e : b + (pl + k) - b = pl + k := by omega
    have e2 : num.testBit (pl + k) = false := Nat.testBit_lt_two_pow (Nat.lt_of_lt_of_le h (Nat.pow_le_pow_right (by omega) (by omega)))
    rw [e, e2]; simp
  have z2 : ((num * 2 ^ b).testBit ∘ fun x => b + x) = num.testBit := by
    funext k
    show (num * 2 ^ b).testBit (b + k) = _
    rw [Nat.testBit_mul_two_pow]
    have e : b + k - b = k := by omega
    rw [e, decide_eq_true (by omega : b ≤ b + k), Bool.true_and]
  rw [z1, z2, z3, List.map_nil, List.append_nil, List.nil_append, List.map_map]
  rfl
theorem ordL_map {α β : Type} (f : α → β) (xs : List α) : ordL (xs.map f) = (ordL xs).map f := by
  unfold ordL
  rw [pickL_map, pickL_map, List.map_append]
theorem pickL_mem {α : Type} {xs : List α} {lo hi st : Option Int} {x : α} (h : x ∈ pickL xs lo hi st) : x ∈ xs := by
  obtain ⟨i, _, hi⟩ := List.mem_filterMap.mp h
  exact List.mem_of_getElem? hi
theorem ordL_mem {α : Type} {xs : List α} {x : α} (h : x ∈ ordL xs) : x ∈ xs := by
  rcases List.mem_append.mp h with q | q <;> exact pickL_mem q
theorem word_inj {i j : Nat} (hi : i < 32) (hj : j < 32) (h : wordOf i = wordOf j) : i = j := by
  have : (List.range 32).all (fun i => (List.range 32).all fun j => i == j || !(wordOf i == wordOf j)) = true := by decide +kernel
  have := List.all_eq_true.mp (List.all_eq_true.mp this i (List.mem_range.mpr hi)) j (List.mem_range.mpr hj)
  rw [h] at this
  simpa using this
theorem names_get {b pl k : Nat} (h : k < (namesOf b pl).length) : (namesOf b pl)[k] = wordOf (b + k) := by
  simp [namesOf]
theorem names_find {b pl k : Nat} (hb : b + pl ≤ 32) (hk : k < pl) : (namesOf b pl).findIdx (· == wordOf (b + k)) = k := by
  have hl : k < (namesOf b pl).length := by unfold namesOf; simpa using hk
  rw [List.findIdx_eq hl]
  refine ⟨by rw [names_get]; exact beq_self_eq_true _, fun j hj => ?_⟩
  rw [names_get]
  refine beq_false_of_ne fun e => ?_
  have := word_inj (by omega) (by omega) e
  omega
theorem names_any {b pl k : Nat} (hk : k < pl) : (namesOf b pl).any (· == wordOf (b + k)) = true := by
  rw [List.any_eq_true]
  exact ⟨wordOf (b + k), List.mem_map.mpr ⟨k, List.mem_range.mpr hk, rfl⟩, beq_self_eq_true _⟩
theorem beads_map {b pl : Nat} (hb : b + pl ≤ 32) : ∀ (ks : List Nat) (bs : List Int), (∀ k ∈ ks, k < pl) → beadsF (namesOf b pl) (ks.map fun k => wordOf (b + k)) bs = ks.foldl (fun bs k => ins bs ((k : Nat) : Int)) bs
  | [], bs, _ => rfl
  | k :: r, bs, h => by
    rw [List.map_cons, beadsF, if_pos (names_any (h k (List.mem_cons_self ..))), names_find hb (h k (List.mem_cons_self ..)), List.foldl_cons]
    exact beads_map hb r _ fun j hj => h j (List.mem_cons_of_mem _ hj)
def checkB (pl num : Nat) : Bool := (ordL (bitsOf num pl)).foldl (fun bs k => ins bs ((k : Nat) : Int)) [] == iInts (bitsOf num pl)
theorem evB8 : (List.range 256).all (checkB 8) = true := by decide +kernel
theorem evB9 : (List.range 512).all (checkB 9) = true := by decide +kernel
theorem zero_word {k : Nat} (h : k < 32) : (wordOf k == baseText "0x" 16 0) = false := by
  have : (List.range 32).all (fun k => (wordOf k == baseText "0x" 16 0) == false) = true := by decide +kernel
  exact eq_of_beq (List.all_eq_true.mp this k (List.mem_range.mpr h))
theorem bits_zero (pl : Nat) : bitsOf 0 pl = [] := by
  rw [bitsOf_eq, List.filter_eq_nil_iff]
  intro k _
  simp
theorem beads_ok {num pl b : Nat} (h : num < 2 ^ pl) (hb : b + pl ≤ 32) (hc : checkB pl num = true) : beadsF (namesOf b pl) (ordL (wordsOf (num * 2 ^ b))) [] = iInts (bitsOf num pl) := by
  unfold wordsOf
  by_cases h0 : num = 0
  · subst h0
    rw [Nat.zero_mul, if_pos rfl, bits_zero]
    have e : ordL [baseText "0x" 16 0] = [baseText "0x" 16 0] := by
      have : ordL [(0 : Nat)] = [0] := by decide +kernel
      have := congrArg (List.map fun _ => baseText "0x" 16 0) this
      rwa [← ordL_map] at this
    rw [e]
    have hn : (namesOf b pl).any (· == baseText "0x" 16 0) = false := by
      rw [List.any_eq_false]
      intro w hw
      obtain ⟨k, hk, rfl⟩ := List.mem_map.mp hw
      rw [zero_word (by have := List.mem_range.mp hk; omega)]; decide
    rw [beadsF, hn]
    rfl
  · have hne : num * 2 ^ b ≠ 0 := Nat.mul_ne_zero h0 (Nat.pos_iff_ne_zero.mp (Nat.two_pow_pos b))
    rw [if_neg hne, bitWords_shift h hb, ordL_map, beads_map hb]
    · exact eq_of_beq hc
    · intro k hk
      exact List.mem_range.mp (List.mem_filter.mp (ordL_mem hk)).1
theorem word_ok {k : Nat} (h : k < 32) : PyData.strOk (wordOf k) = true ∧ 1 ≤ (wordOf k).length := by
  have : (List.range 32).all (fun k => PyData.strOk (wordOf k) && decide (1 ≤ (wordOf k).length)) = true := by decide +kernel
  have := List.all_eq_true.mp this k (List.mem_range.mpr h)
  rw [Bool.and_eq_true] at this
  exact ⟨this.1, of_decide_eq_true this.2⟩
theorem strOk_app {x y : PySem.Str} (hx : PyData.strOk x = true) (hy : PyData.strOk y = true) : PyData.strOk (x ++ y) = true := by
  unfold PyData.strOk at hx hy ⊢
  rw [PySem.Str.cps_append, Array.all_append, hx, hy]; rfl
theorem strOk_join : ∀ ws : List PySem.Str, (∀ w ∈ ws, PyData.strOk w = true) → PyData.strOk (PySem.Str.join ", " ws) = true
  | [], _ => by decide +kernel
  | [w], h => h w (List.mem_cons_self ..)
  | w :: v :: r, h => by
    show PyData.strOk (w ++ ", " ++ PySem.Str.join ", " (v :: r)) = true
    exact strOk_app (strOk_app (h w (List.mem_cons_self ..)) (by decide +kernel)) (strOk_join (v :: r) fun u hu => h u (List.mem_cons_of_mem _ hu))
theorem join_pos {w : PySem.Str} (h : 1 ≤ w.length) : ∀ ws : List PySem.Str, 1 ≤ (PySem.Str.join ", " (w :: ws)).length
  | [] => h
  | v :: r => by
    show 1 ≤ (w ++ ", " ++ PySem.Str.join ", " (v :: r)).length
    rw [PySem.Str.length_append, PySem.Str.length_append]
    omega
theorem bits_none {num pl : Nat} (h : num < 2 ^ pl) (h0 : num ≠ 0) : bitsOf num pl ≠ [] := by
  obtain ⟨k, hk⟩ := Nat.exists_testBit_of_ne_zero h0
  have hkp : k < pl := by
    refine Classical.byContradiction fun hn => ?_
    have : num.testBit k = false := Nat.testBit_lt_two_pow (Nat.lt_of_lt_of_le h (Nat.pow_le_pow_right (by omega) (by omega)))
    rw [hk] at this; cases this
  intro e
  rw [bitsOf_eq] at e
  have : k ∈ (List.range pl).filter num.testBit := List.mem_filter.mpr ⟨List.mem_range.mpr hkp, hk⟩
  rw [e] at this; cases this
theorem text_ok {cm num pl st b : Nat} (h : cm < 2 ^ pl) (hb : b + pl ≤ 32) (e : bitsOf cm pl = coreOf num pl st) : flagText (cm * 2 ^ b) = coreText num pl st b ∧ PyData.strOk (coreText num pl st b) = true := by
  have ej : ∀ ws, Txt.join ", " ws = PySem.Str.join ", " ws := fun ws => StrLaws.glued_eq_join _ _
  rw [flag_join]
  unfold coreText wordsOf
  rw [← e]
  by_cases h0 : cm = 0
  · subst h0
    rw [Nat.zero_mul, if_pos rfl, bits_zero]
    rw [List.map_nil]
    constructor <;> decide +kernel
  · have hne : cm * 2 ^ b ≠ 0 := Nat.mul_ne_zero h0 (Nat.pos_iff_ne_zero.mp (Nat.two_pow_pos b))
    have hk : ∀ k ∈ bitsOf cm pl, b + k < 32 := fun k hk => by
      have := List.mem_range.mp (List.mem_filter.mp hk).1
      omega
    rw [if_neg hne, bitWords_shift h hb, ej]
    have hs := bits_none h h0
    cases q : bitsOf cm pl with
    | nil => exact absurd q hs
    | cons k r =>
      rw [q] at hk
      have hp := join_pos (word_ok (hk k (List.mem_cons_self ..))).2 (r.map fun k => wordOf (b + k))
      have hz : (((PySem.Str.join ", " ((k :: r).map fun k => wordOf (b + k))).length : Int) != 0) = true := by
        rw [List.map_cons, bne_iff_ne]
        omega
      rw [if_pos hz]
      refine ⟨rfl, strOk_join _ fun w hw => ?_⟩
      obtain ⟨j, hj, rfl⟩ := List.mem_map.mp hw
      exact (word_ok (hk j hj)).1
theorem core_lt {num pl st k : Nat} (h : k ∈ coreOf num pl st) : k < pl := List.mem_range.mp (List.mem_filter.mp h).1
theorem plain_of {ns : List Int} {st pl num b bl : Nat} (N : Nums ns st pl num b bl) (hN : checkN pl num = true) (hB : checkB pl num = true) (hE : checkE st pl num = true) : ∃ hk cm nn pu pr, PlainOk st pl num b bl hk cm nn pu pr := by
  have hpl : b + pl ≤ 32 := by
    have := N.hb1
    have := N.hpl
    split at this <;> omega
  obtain ⟨K, R, ER⟩ := rows_ok N.hbl1 hN
  unfold checkE at hE
  split at hE
  · rename_i cm nn pu hrun
    simp only [Bool.and_eq_true, decide_eq_true_eq, beq_iff_eq] at hE
    obtain ⟨b1, b2, b3, b4, b5⟩ := hE
    split at b5
    · rename_i t pr hl
      simp only [Bool.and_eq_true, beq_iff_eq] at b5
      obtain ⟨rfl, b6⟩ := b5
      have hm : num * 2 ^ b < 2 ^ 32 := by
        have : num * 2 ^ b < 2 ^ pl * 2 ^ b := Nat.mul_lt_mul_of_pos_right N.hnum1 (Nat.two_pow_pos b)
        rw [← Nat.pow_add] at this
        exact Nat.lt_of_lt_of_le this (Nat.pow_le_pow_right (by omega) (by omega))
      have tx := text_ok b1 hpl b4
      have h9 : (2 : Nat) ^ pl ≤ 512 := by
        have : pl ≤ 9 := by
          have := N.hpl
          split at this <;> omega
        exact Nat.le_trans (Nat.pow_le_pow_right (by omega) this) (by decide)
      refine ⟨hooksN num pl, cm, nn, t, pr, split_flag hm, beads_ok N.hnum1 hpl hB, ?_, ?_, K, R, ?_, ?_⟩
      · unfold wordsOf
        split
        · simp
        · exact Nat.le_trans (bitWords_len _ _) (by omega)
      · rw [K.eq]
        have := K.len
        unfold iInts
        rw [List.length_map]; omega
      · rw [ER, loop_shift, hl]
      · exact ⟨fun k hk => by have := core_lt hk; omega, hrun, by omega, b2, b3, b6, tx.1, tx.2⟩
    · cases b5
  · cases hE
end Mine

namespace Mine
theorem plain_all {ns : List Int} {st pl num b bl : Nat} (N : Nums ns st pl num b bl) : ∃ hk cm nn pu pr, PlainOk st pl num b bl hk cm nn pu pr := by
  have b8 : ∀ {num}, num < 256 → checkB 8 num = true := fun {num} h => List.all_eq_true.mp evB8 num (List.mem_range.mpr h)
  have b9 : ∀ {num}, num < 512 → checkB 9 num = true := fun {num} h => List.all_eq_true.mp evB9 num (List.mem_range.mpr h)
  have h1 := N.hpl
  have h2 := N.hnum1
  have h3 := N.hst1
  by_cases q : st = 1
  · subst q
    rw [if_pos rfl] at h1
    subst h1
    exact plain_of N (ev8 h2) (b8 h2) (eE1 h2)
  · rw [if_neg q] at h1
    subst h1
    refine plain_of N (ev9 h2) (b9 h2) ?_
    by_cases q2 : st = 2
    · subst q2; exact eE2 h2
    · have : st = 3 := by omega
      subst this; exact eE3 h2
end Mine

namespace Mine
/-! ## the head: the top of the text is run -/
noncomputable abbrev lawP : Program := PySem.Challenge.rw_sn0033_01.row.prog
noncomputable def lawQ : Program := view PySem.Challenge.pw_sn0033_01 [12]
def lawL : List PySem.Str := ["_wall", "Whitespace", "insort_left", "bisect_left", "COMPILER_FLAG_NAMES", "pretty_flags", "_law_word", "_law_orders"]
noncomputable abbrev lawH : Hook := kHook lawK lawKAt lawK_at
noncomputable def lawX (s : Shared) : Bool := xlAt lawQ [] s && recOk (RowW.records PySem.Challenge.rw_sn0033_01.row.toRowW) s
noncomputable def bootS (w : World) (os : OsState) : Shared := { heap := boot_heap w.params, gens := #[], drawn := boot_drawn, toks := boot_toks, os := os }
theorem run_no (w : World) (os : OsState) : (topFrom treeTable lawP (w.withFollow "special-get-raises" false) 1934 (bootS w os)).map (fun s => (openSeen lawQ lawL (importedModules lawP.main.body) lawX true s, lawH.obs s)) =
    some (openGood lawQ lawL, lawH.val (w.withFollow "special-get-raises" false)) := by
  unfold topFrom
  rw [PySem.W.Fast.te14082659384304107361, PySem.W.Fast.te14364793385576792824]
  kernel_rfl
theorem run_yes (w : World) (os : OsState) : (topFrom treeTable lawP (w.withFollow "special-get-raises" true) 1934 (bootS w os)).map (fun s => (openSeen lawQ lawL (importedModules lawP.main.body) lawX true s, lawH.obs s)) =
    some (openGood lawQ lawL, lawH.val (w.withFollow "special-get-raises" true)) := by
  unfold topFrom
  rw [PySem.W.Fast.te14082659384304107361, PySem.W.Fast.te14364793385576792824]
  kernel_rfl
theorem law_left : LeftO lawP lawQ lawL lawX lawH.obs lawH.val 1934 := fun w => by
  obtain ⟨⟨h, gs, d, k, os⟩, e1, e2⟩ := Option.map_eq_some_iff.mp (boot_open (p := lawP) (N := 1934) (by kernel_rfl) (by decide) (fun s => by kernel_rfl) w)
  have e3 : Shared.mk h gs d k os = bootS w os := by
    obtain ⟨rfl, rfl, rfl, rfl⟩ : h = boot_heap w.params ∧ gs = Array.mk [] ∧ d = boot_drawn ∧ k = boot_toks := by simpa using e2
    rfl
  unfold openEnds
  rw [e1, e3]
  show (topFrom treeTable lawP w 1934 (bootS w os)).map _ = _
  have e := World.withFollow_self w "special-get-raises"
  cases q : w.params.followText "special-get-raises" <;> rw [q] at e
  · have r := run_no w os
    rw [e] at r
    exact r
  · have r := run_yes w os
    rw [e] at r
    exact r
theorem row_said : PySem.Challenge.rw_sn0033_01.row.wellSaid = true := by
  rw [PySem.W.Fast.te17960256430627541270]
  kernel_rfl
theorem law_said : PySem.Challenge.rw_sn0033_01.wellSaid = true := by
  unfold OpenLaw.wellSaid
  rw [row_said]
  kernel_rfl
end Mine

set_option maxRecDepth 100000 in
set_option maxHeartbeats 8000000 in
theorem PySem.Challenge.cw_sn0033_01_holds : PySem.Challenge.rw_sn0033_01.Holds := by
  w_on
  refine holds_law Mine.law_said fun said => ?_
  refine holds_open (q := Mine.lawQ) (loose := Mine.lawL) (Xt := Mine.lawX) (XP := XL Mine.lawQ []) (Yf := Hook.obs Mine.lawH) (Ya := Hook.val Mine.lawH) (YP := Hook.says Mine.lawH) (N := 1934) Mine.law_left (Hook.of Mine.lawH) (Hook.keeps Mine.lawH) (fun s e => xl_of s (Bool.and_eq_true_iff.mp e).1) XL.keeps (by rfl) (by rfl) (by rfl) (fun s e => recFacts_of (Bool.and_eq_true_iff.mp e).2) (by rfl) said (by kernel_rfl) ⟨rfl, rfl, rfl, rfl, rfl, by kernel_rfl⟩ ?hw ?hc
  (case hw => w_witness2)
  intro w s₀ s₁ mg mb G Y fa o pm cd doc dV kV ho hd hcd hD hmg hg args vals as hpre hlay hrd hwl hlo
  have KX := kIn_of (K := Mine.lawK) (as := Mine.lawKAt) (e := Mine.lawK_at) Y
  refine Ground.open G ?_
  intro T B D TE TW
  wrow_args hpre hlay hrd hwl hlo
  · refine enter_call ?_
    refine codeAny_mono ?_ (fun _ _ g => GoodW.toG g)
    refine Mine.law_fin KX T.g T.b T.nolimit T.builtins hmg ‹Well _ _ _ _› ‹Heap.IsList _ _ _› ‹IntsAre _ _› ‹¬ _ < _› (fun st pl num b bl N => Mine.plain_all N) fun s' hk hs => ?_
    obtain ⟨h', t', rfl⟩ := hs
    refine ⟨.inl ⟨.bool true, .bool true, [], rfl, fun _ => rfl, .bool true, by kernel_rfl, fun _ => ⟨List.nodup_nil, fun _ h => nomatch h⟩⟩, hk, rfl, hg⟩
