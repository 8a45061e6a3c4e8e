import PyProof.Rows.All
import Wide.All
import OpenK.AllK
import Wide.FinOn
import KE.KNest
import KE.KSortKey
import KE.KSuperObj
import Lean
import PySem.Challenge.RW_in0118_01
set_option Elab.async false
set_option compiler.extract_closed false
set_option linter.all false
set_option maxRecDepth 100000
set_option maxHeartbeats 400000000
open PySem PySem.W PyProof.Rows
namespace Mine

def P0 : Program := PySem.Challenge.pw_in0118_01
def stm (i : Nat) : Stmt := (P0.main.body[i]?).getD (.Pass ⟨0, 0, 0, 0⟩)
def view : Program := { P0 with main := { P0.main with body := [0, 2, 3, 4, 5, 7, 8, 10, 11, 13, 14, 16, 17, 20, 21, 22, 23, 24, 25, 26, 27, 28].map stm } }
def loose : List Str := ["_twin_re_1", "_special_chars_map", "_initial_missing", "reduce"]
/-- the function that a def makes -/
def fdO (i : Nat) (mod : Str) (tok : Tok) (code : Addr) (dflt : Value) : FuncData := match stm i with
  | .FunctionDef name args body _ _ _ scope _ _ _ => { name := name, qualname := name, params := args, body := .stmts body, scope := scope, globals := 3, closure := [], defaults := dflt, kwdefaults := .none, pyModule := .str mod tok, code := .ref code }
  | _ => default
def fnO (i : Nat) (mod : Str) (tok : Tok) (code : Addr) (dflt : Value) : Obj := ⟨.type "function", none, .func (fdO i mod tok code dflt), #[]⟩
def mLoc : Str := "cpy313.locale"
def mFn : Str := "cpy313.fnmatch"
def mFt : Str := "cpy313.functools"
def mLaw : Str := "law_in0118_01"
def cut : Str := "/claim/cut.py"
def spcE : List DictEntry := ([40, 41, 91, 93, 123, 125, 63, 42, 43, 45, 124, 94, 36, 92, 46, 38, 126, 35, 32, 9, 10, 13, 11, 12] : List Nat).zipIdx.map fun (c, k) => { hash := (c : Int), key := .int c (365 + 6 * k), val := .str ⟨#[92, c]⟩ (369 + 6 * k) }
def K0 : Frag := [
  (66, ⟨.type "dict", none, .dict spcE.toArray 24, #[]⟩),
  (38, fnO 2 mLoc 282 37 .none), (45, fnO 4 mLoc 282 44 .none), (52, fnO 5 mLoc 282 51 .none), (64, fnO 8 mFn 313 63 .none), (76, fnO 11 "re" 362 75 .none), (83, fnO 13 mFn 517 82 .none), (90, fnO 14 mFn 517 89 .none),
  (97, fnO 16 mFt 551 96 .none), (106, fnO 18 mFt 551 105 (.ref 99)), (113, fnO 20 mLaw 575 112 .none), (120, fnO 21 mLaw 575 119 .none), (127, fnO 22 mLaw 575 126 .none), (134, fnO 23 mLaw 575 133 .none), (139, fnO 24 mLaw 575 138 .none),
  (144, fnO 25 mLaw 575 143 .none), (149, fnO 26 mLaw 575 148 .none), (154, fnO 27 mLaw 575 153 .none), (159, fnO 28 mLaw 575 158 .none),
  (98, ⟨.type "object", none, .plain, #[]⟩), (99, ⟨.type "tuple", none, .seq #[.ref 98] 0, #[]⟩),
  (96, ⟨.type "code", none, .fields #[.str "cmp_to_key" 553, .str "cmp_to_key" 554, .str cut 555, .int 133 0, .int 1 0, .int 0 0, .int 0 0, .int 3 0, .ref 91, .bool true, .int 276 0, .ref 92, .none, .ref 93, .ref 94, .ref 95, .int 559 0, .int 133 0, .str cut 560], #[]⟩),
  (158, ⟨.type "code", none, .fields #[.str "law" 639, .str "law" 640, .str cut 641, .int 233 0, .int 1 0, .int 0 0, .int 0 0, .int 3 0, .ref 155, .bool true, .int 276 0, .ref 156, .none, .none, .none, .ref 157, .int 642 0, .int 233 0, .str cut 643], #[]⟩),
  (4, ⟨.type "module", some 0, .plain, #[]⟩)]
/-- a code's name -/
def codeNm (o : Option Obj) : Option Str := match o with
  | some ⟨_, _, .fields vs, _⟩ => (match (vs[1]? : Option Value) with | some (.str q _) => some q | _ => none)
  | _ => none
def codes0 : List (Addr × Str) := [(37, "_strcoll"), (44, "_grouping_intervals"), (51, "_strip_padding"), (63, "translate"), (75, "escape"), (82, "_translate"), (89, "_join_translated_parts"), (96, "cmp_to_key"), (105, "reduce"), (112, "_law_parts"), (119, "_law_due"),
  (126, "_law_refused"), (133, "_law_stripped"), (138, "_law_ordered"), (143, "_law_takes"), (148, "_law_fits"), (153, "_law_right"), (158, "law")]
def globA : List (Str × Option Value) := [("_strcoll", some (.ref 38)), ("_grouping_intervals", some (.ref 45)), ("_strip_padding", some (.ref 52)), ("translate", some (.ref 64)), ("escape", some (.ref 76)), ("_translate", some (.ref 83)), ("_join_translated_parts", some (.ref 90)),
  ("cmp_to_key", some (.ref 97)), ("reduce", some (.ref 106)), ("_law_parts", some (.ref 113)), ("_law_due", some (.ref 120)), ("_law_refused", some (.ref 127)), ("_law_stripped", some (.ref 134)), ("_law_ordered", some (.ref 139)), ("_law_takes", some (.ref 144)), ("_law_fits", some (.ref 149)),
  ("_law_right", some (.ref 154)), ("_initial_missing", some (.ref 98)), ("_special_chars_map", some (.ref 66)),
  ("len", none), ("max", none), ("range", none), ("list", none), ("sum", none), ("str", none), ("isinstance", none), ("object", none), ("sorted", none), ("iter", none), ("next", none), ("ValueError", none), ("StopIteration", none)]
def globB : List (Str × Option Value) := [("CHAR_MAX", some (.int 127 292)), ("__builtins__", some (.ref 4)), ("__name__", some (.str "law_in0118_01" 575)), ("law", some (.ref 159))]
def glob0 : List (Str × Option Value) := globA ++ globB
def blt0 : List (Str × Option Value) := [("len", some (.builtin "len")), ("max", some (.builtin "max")), ("range", some (.type "range")), ("list", some (.type "list")), ("sum", some (.builtin "sum")), ("str", some (.type "str")), ("isinstance", some (.builtin "isinstance")), ("object", some (.type "object")),
  ("sorted", some (.builtin "sorted")), ("iter", some (.builtin "iter")), ("next", some (.builtin "next")), ("ValueError", some (.type "ValueError")), ("StopIteration", some (.type "StopIteration")), ("__build_class__", some (.builtin "__build_class__"))]
/-- no strange library is loaded -/
def statOk (o : Option Obj) : Bool := match o with
  | some o => (match nsLook "thirdparty.any" o with | .pure none => true | _ => false)
  | none => false
def obs0 (s : Shared) : List (Option Obj) × List (Option Str) × List (Option Value) × List (Option Value) × List (Option Obj) × Bool :=
  (K0.map fun p => s.heap.get? p.1, codes0.map fun p => codeNm (s.heap.get? p.1), glob0.map fun p => s.heap.nsMap mainGlobals p.1, blt0.map fun p => s.heap.nsMap builtinsNs p.1, [78, 92, 156].map s.heap.get?, statOk (s.heap.get? 2))
def val0 : List (Option Obj) × List (Option Str) × List (Option Value) × List (Option Value) × List (Option Obj) × Bool :=
  (K0.map fun p => some p.2, codes0.map fun p => some p.2, glob0.map (·.2), blt0.map (·.2), [78, 92, 156].map fun _ => some (tabObj #[]), true)
def N0 : Nat := 4076
def Good0 (w : World) : Prop := (openEnds treeTable P0 w N0).map (fun s => (openSeen view loose (importedModules P0.main.body) (fun s => xlAt view [] s && recOk (RowW.records PySem.Challenge.rw_in0118_01.row.toRowW) s) true s, obs0 s)) = some (openGood view loose, val0)
theorem good_ff : ∀ w : World, Good0 ((w.withFollow "comprehension-iter-twice" false).withFollow "special-get-raises" false) := fun w => by unfold Good0; kernel_rfl
theorem good_ft : ∀ w : World, Good0 ((w.withFollow "comprehension-iter-twice" false).withFollow "special-get-raises" true) := fun w => by unfold Good0; kernel_rfl
theorem good_tf : ∀ w : World, Good0 ((w.withFollow "comprehension-iter-twice" true).withFollow "special-get-raises" false) := fun w => by unfold Good0; kernel_rfl
theorem good_tt : ∀ w : World, Good0 ((w.withFollow "comprehension-iter-twice" true).withFollow "special-get-raises" true) := fun w => by unfold Good0; kernel_rfl
theorem good0 : ∀ w : World, Good0 w :=
  byRow2 "special-get-raises" (P := Good0) (byRow2 "comprehension-iter-twice" (P := fun w => Good0 (w.withFollow "special-get-raises" false)) good_ff good_tf)
    (byRow2 "comprehension-iter-twice" (P := fun w => Good0 (w.withFollow "special-get-raises" true)) good_ft good_tt)

/-- what the top leaves -/
structure Says0 (h : Heap) : Prop where
  objs : ∀ p ∈ K0, h.get? p.1 = some p.2
  codes : ∀ p ∈ codes0, codeNm (h.get? p.1) = some p.2
  glob : ∀ p ∈ glob0, h.nsMap mainGlobals p.1 = p.2
  blt : ∀ p ∈ blt0, h.nsMap builtinsNs p.1 = p.2
  tabs : ∀ P ∈ ([78, 92, 156] : List Addr), h.get? P = some (tabObj #[])
  stat : statOk (h.get? 2) = true
theorem nsMap_keeps {h h' : Heap} {a : Addr} {x : Str} {v : Value} (e : h.nsMap a x = some v) (k : ∀ b o, h.get? b = some o → h'.get? b = some o) (y : Str) : h'.nsMap a y = h.nsMap a y := by
  unfold Heap.nsMap at e ⊢
  cases q : h.get? a with
  | none => rw [q] at e; cases e
  | some o => rw [k a o q]
theorem Says0.keeps {h h' : Heap} (x : Says0 h) (k : ∀ b o, h.get? b = some o → h'.get? b = some o) : Says0 h' where
  objs := fun p hp => k _ _ (x.objs p hp)
  codes := fun p hp => by
    have e := x.codes p hp
    cases q : h.get? p.1 with
    | none => rw [q] at e; cases e
    | some o => rw [k _ o q, ← q]; exact e
  glob := fun p hp => (nsMap_keeps (x.glob ("_strcoll", some (.ref 38)) (List.mem_append_left globB (show _ ∈ globA from List.Mem.head _))) k p.1).trans (x.glob p hp)
  blt := fun p hp => (nsMap_keeps (x.blt ("len", some (.builtin "len")) (.head _)) k p.1).trans (x.blt p hp)
  tabs := fun P hP => k _ _ (x.tabs P hP)
  stat := by
    have e := x.stat
    cases q : h.get? 2 with
    | none => rw [q] at e; cases e
    | some o => rw [k _ o q, ← q]; exact e
def hook0 : Hook where
  α := List (Option Obj) × List (Option Str) × List (Option Value) × List (Option Value) × List (Option Obj) × Bool
  obs := obs0
  val := fun _ => val0
  says := fun _ h => Says0 h
  of := fun w s e => by
    obtain ⟨e1, e⟩ := Prod.mk.inj e
    obtain ⟨e2, e⟩ := Prod.mk.inj e
    obtain ⟨e3, e⟩ := Prod.mk.inj e
    obtain ⟨e4, e⟩ := Prod.mk.inj e
    obtain ⟨e5, e6⟩ := Prod.mk.inj e
    exact ⟨List.map_inj_left.mp e1, List.map_inj_left.mp e2, List.map_inj_left.mp e3, List.map_inj_left.mp e4, List.map_inj_left.mp e5, e6⟩
  keeps := fun w h h' x k => x.keeps k
def dLaw : DefRec := match stm 28 with
  | .FunctionDef name args body _ _ _ scope _ _ pos => ⟨name, args, body, scope, pos⟩
  | _ => ⟨"law", default, [], default, ⟨0, 0, 0, 0⟩⟩
theorem head0 (hc : WalkO view loose (XL view []) hook0.says PySem.Challenge.rw_in0118_01.row.toRowW dLaw [] fun f vs => PySem.call f vs) : PySem.Challenge.rw_in0118_01.Holds := by
  refine holds_law (by decide +kernel) fun said => ?_
  refine holds_open (q := view) (loose := loose) (d := dLaw) (kwd := []) (Xt := fun s => xlAt view [] s && recOk (RowW.records PySem.Challenge.rw_in0118_01.row.toRowW) s) (XP := XL view []) (Yf := Hook.obs hook0) (Ya := Hook.val hook0) (YP := Hook.says hook0) (N := N0) (fun w => good0 w) (Hook.of hook0) (Hook.keeps hook0) (fun s e => xl_of s (Bool.and_eq_true_iff.mp e).1) XL.keeps ?h1 ?h2 ?h3 (fun s e => recFacts_of (Bool.and_eq_true_iff.mp e).2) (by rfl) (by assumption) (by decide +kernel) ⟨rfl, rfl, rfl, rfl, rfl, by decide +kernel⟩ ?hw hc
  case h1 => kernel_rfl
  case h2 => kernel_rfl
  case h3 => kernel_rfl
  case hw => w_witness2
end Mine

open PySem PySem.W PyProof.Rows PySem.Calls
namespace Mine
theorem nil_elim {α : Type} {a : α} {P : Prop} (h : a ∈ ([] : List α)) : P := nomatch h
theorem ft_elim {P : Prop} (h : false = true) : P := nomatch h
theorem none_some {α : Type} {a : α} {P : Prop} (h : none = some a) : P := nomatch h
theorem some_none {α : Type} {a : α} {P : Prop} (h : some a = none) : P := nomatch h

abbrev Tk := Tok
/-- abstract values -/
inductive V where
  | none | bool (b : Bool) | int (i : Int) | str (s : Str) | list (l : List V) | raw (v : Value) | own (k : Nat) | bnd (k : Nat)

def V.isMut : V → Bool
  | .own _ => true
  | .bnd _ => true
  | _ => false

/-- a plain list object -/
def LstAt (h : Heap) (a : Addr) (vs : List Value) : Prop := ∃ n, h.get? a = some (⟨.type "list", none, .seq vs.toArray n, #[]⟩ : Obj)
theorem LstAt.is {h : Heap} {a : Addr} {vs : List Value} (x : LstAt h a vs) : h.IsList a vs.toArray := by obtain ⟨n, e⟩ := x; exact ⟨_, e, rfl, n, rfl⟩

mutual
inductive VF (B : Heap) : Value → V → Prop
  | none : VF B .none .none
  | bool (b : Bool) : VF B (.bool b) (.bool b)
  | int (i : Int) (t : Tok) : VF B (.int i t) (.int i)
  | str (s : Str) (t : Tok) : VF B (.str s t) (.str s)
  | list {a : Addr} {vs : List Value} {l : List V} : LstAt B a vs → VFs B vs l → VF B (.ref a) (.list l)
  | raw (v : Value) : VF B v (.raw v)
inductive VFs (B : Heap) : List Value → List V → Prop
  | nil : VFs B [] []
  | cons {v : Value} {x : V} {vs : List Value} {xs : List V} : VF B v x → VFs B vs xs → VFs B (v :: vs) (x :: xs)
end

def Ext (B B' : Heap) : Prop := ∀ b o, B.get? b = some o → B'.get? b = some o
theorem Ext.refl (B : Heap) : Ext B B := fun _ _ e => e
theorem Ext.trans {B B' B'' : Heap} (x : Ext B B') (y : Ext B' B'') : Ext B B'' := fun b o e => y b o (x b o e)
theorem Ext.push (h : Heap) (o : Obj) : Ext h (h.push o) := fun _ _ e => Heap.get?_push_of_some o e

theorem isList_ext {B B' : Heap} (x : Ext B B') {a : Addr} {vs : List Value} (h : LstAt B a vs) : LstAt B' a vs := by
  obtain ⟨n, e⟩ := h; exact ⟨n, x a _ e⟩

theorem VF.ext {B B' : Heap} (x : Ext B B') {v : Value} {W : V} (h : VF B v W) : VF B' v W :=
  VF.rec (motive_1 := fun v W _ => VF B' v W) (motive_2 := fun vs W _ => VFs B' vs W) .none (fun b => .bool b) (fun i t => .int i t) (fun s t => .str s t) (fun h _ ih => .list (isList_ext x h) ih) (fun v => .raw v) .nil (fun _ _ a b => .cons a b) h
theorem VFs.ind {B : Heap} {P : List Value → List V → Prop} (n : P [] []) (c : ∀ {v x vs xs}, VF B v x → VFs B vs xs → P vs xs → P (v :: vs) (x :: xs)) {vs : List Value} {W : List V} (h : VFs B vs W) : P vs W :=
  VFs.rec (motive_1 := fun _ _ _ => True) (motive_2 := fun vs W _ => P vs W) trivial (fun _ => trivial) (fun _ _ => trivial) (fun _ _ => trivial) (fun _ _ _ => trivial) (fun _ => trivial) n (fun h l _ ih => c h l ih) h
theorem VFs.ext {B B' : Heap} (x : Ext B B') {vs : List Value} {W : List V} (h : VFs B vs W) : VFs B' vs W := h.ind .nil fun h _ ih => .cons (h.ext x) ih
theorem VFs.length {B : Heap} {vs : List Value} {W : List V} (h : VFs B vs W) : vs.length = W.length := h.ind (P := fun vs W => vs.length = W.length) rfl fun _ _ ih => congrArg (· + 1) ih
theorem VFs.get {B : Heap} {vs : List Value} {W : List V} (h : VFs B vs W) {i : Nat} {x : V} (e : W[i]? = some x) : ∃ v, vs[i]? = some v ∧ VF B v x := by
  revert i
  refine h.ind (P := fun vs W => ∀ {i : Nat}, W[i]? = some x → ∃ v, vs[i]? = some v ∧ VF B v x) (fun e => nomatch e) fun h _ ih i e => ?_
  cases i with
  | zero => (first | exact none_some e | exact some_none e | (obtain rfl := Option.some.inj e) | cases e); exact ⟨_, rfl, h⟩
  | succ i => exact ih (i := i) e
theorem VFs.append {B : Heap} {vs : List Value} {W : List V} (h : VFs B vs W) {us : List Value} {U : List V} (u : VFs B us U) : VFs B (vs ++ us) (W ++ U) := h.ind (P := fun vs W => VFs B (vs ++ us) (W ++ U)) u fun h _ ih => .cons h ih
theorem VFs.take {B : Heap} {vs : List Value} {W : List V} (h : VFs B vs W) : ∀ n, VFs B (vs.take n) (W.take n) := by
  refine h.ind (P := fun vs W => ∀ n, VFs B (vs.take n) (W.take n)) (fun n => by rw [List.take_nil, List.take_nil]; exact .nil) fun h _ ih n => ?_
  cases n with
  | zero => exact .nil
  | succ n => exact .cons h (ih n)
theorem VFs.drop {B : Heap} {vs : List Value} {W : List V} (h : VFs B vs W) : ∀ n, VFs B (vs.drop n) (W.drop n) := by
  refine h.ind (P := fun vs W => ∀ n, VFs B (vs.drop n) (W.drop n)) (fun n => by rw [List.drop_nil, List.drop_nil]; exact .nil) fun h l ih n => ?_
  cases n with
  | zero => exact .cons h l
  | succ n => exact ih n
theorem VFs.set {B : Heap} {vs : List Value} {W : List V} (h : VFs B vs W) (n : Nat) {v : Value} {x : V} (q : VF B v x) : VFs B (vs.set n v) (W.set n x) := by
  revert n
  refine h.ind (P := fun vs W => ∀ n, VFs B (vs.set n v) (W.set n x)) (fun n => by rw [List.set_nil, List.set_nil]; exact .nil) fun h l ih n => ?_
  cases n with
  | zero => exact .cons q l
  | succ n => exact .cons h (ih n)

/-- the append of a list, bound -/
def bndObj (a : Addr) : Obj := ⟨.type "builtin_function_or_method", none, .fields #[.builtin "list.append", .ref a], #[]⟩
/-- a value of the frame: frozen, or an own mutable list -/
def VR (B : Heap) (p : List Addr) (v : Value) (W : V) : Prop := match W with
  | .own k => ∃ a, p[k]? = some a ∧ v = .ref a
  | .bnd k => ∃ b a, v = .ref b ∧ p[k]? = some a ∧ B.get? b = some (bndObj a)
  | W => VF B v W
def Pre (p p' : List Addr) : Prop := ∀ (k : Nat) (a : Addr), p[k]? = some a → p'[k]? = some a
theorem Pre.refl (p : List Addr) : Pre p p := fun _ _ e => e
theorem Pre.trans {p q r : List Addr} (x : Pre p q) (y : Pre q r) : Pre p r := fun k a e => y k a (x k a e)
theorem Pre.snoc (p : List Addr) (a : Addr) : Pre p (p ++ [a]) := fun k b e => by
  rw [List.getElem?_append_left (List.getElem?_eq_some_iff.mp e).1]; exact e
theorem VR.of {B : Heap} {p : List Addr} {v : Value} {W : V} (h : VF B v W) : VR B p v W := by
  cases h with
  | none => exact .none
  | bool => exact .bool _
  | int => exact .int ..
  | str => exact .str ..
  | list a b => exact .list a b
  | raw => exact .raw _
theorem VR.fz {B : Heap} {p : List Addr} {v : Value} {W : V} (h : VR B p v W) (hm : W.isMut = false) : VF B v W := by
  cases W <;> first | exact h | cases hm
theorem VR.mono {B B' : Heap} {p p' : List Addr} {v : Value} {W : V} (h : VR B p v W) (x : Ext B B') (y : Pre p p') : VR B' p' v W := by
  cases W with
  | own k => obtain ⟨a, e, q⟩ := h; exact ⟨a, y k a e, q⟩
  | bnd k => obtain ⟨b, a, e, q, r⟩ := h; exact ⟨b, a, e, y k a q, x b _ r⟩
  | _ => exact VF.ext x (show VF B v _ from h)

def OR (B : Heap) (p : List Addr) (ov : Option Value) (o : Option V) : Prop := match ov, o with
  | some v, some W => VR B p v W
  | none, none => True
  | _, _ => False
theorem OR.mono {B B' : Heap} {p p' : List Addr} {v : Option Value} {W : Option V} (h : OR B p v W) (x : Ext B B') (y : Pre p p') : OR B' p' v W := by
  cases v <;> cases W <;> first | exact h | exact VR.mono (show VR B p _ _ from h) x y
theorem OR.some_ {B : Heap} {p : List Addr} {ov : Option Value} {W : V} (h : OR B p ov (some W)) : ∃ v, ov = some v ∧ VR B p v W := by
  cases ov with
  | none => exact h.elim
  | some v => exact ⟨v, rfl, h⟩

/-- what stays of a run: the program, the world, the written part, the names at the top -/
structure Wd where
  prog : Program
  w : World
  K : Frag
  mg : Str → Option Value
  mb : Str → Option Value
  codes : List (Addr × Str)

structure Good (D : Wd) (B : Heap) : Prop where
  k : D.K.In B
  g : B.Ns mainGlobals D.mg
  b : B.Ns builtinsNs D.mb
  lim : B.NoLimit
  cod : ∀ p ∈ D.codes, B.CodeRec (.ref p.1) p.2
theorem Good.ext {D : Wd} {B B' : Heap} (G : Good D B) (x : Ext B B') : Good D B' := ⟨fun a o e => x a o (G.k a o e), G.g.keeps x, G.b.keeps x, G.lim.keeps x, fun p hp => (G.cod p hp).keeps x⟩

structure St where
  loc : List (Option V)
  cel : List (Option V) := []
  own : List (List V) := []

structure Cx where
  scope : Scope
  ln : List Str
  cn : List Str := []

def CellAt (h : Heap) (a : Addr) (ov : Option Value) : Prop := ∃ o, h.get? a = some o ∧ o.data = .cell ov

def exc (env : Env) (rs : List (Addr × Obj)) (ca p : List Addr) : List Addr := env.locals :: (ca ++ (p ++ rs.map (·.1)))

structure Rep (D : Wd) (c : Cx) (env : Env) (B h : Heap) (rs : List (Addr × Obj)) (ca p : List Addr) (st : St) : Prop where
  scope : env.scope = c.scope
  fn : c.scope.kind = .function
  globals : env.globals = mainGlobals
  builtins : env.builtins = builtinsNs
  ext : Ext B h
  good : Good D B
  lnd : c.ln.Nodup
  loc : ∃ m, h.Ns env.locals m ∧ c.ln.length = st.loc.length ∧ ∀ (i : Nat) (x : Str) (o : Option V), c.ln[i]? = some x → st.loc[i]? = some o → OR B p (m x) o
  cal : ca.length = c.cn.length
  cel : st.cel.length = ca.length ∧ ∀ (i : Nat) (a : Addr) (o : Option V), ca[i]? = some a → st.cel[i]? = some o → ∃ ov, CellAt h a ov ∧ OR B p ov o
  cen : ∀ (i : Nat) (x : Str) (a : Addr), c.cn[i]? = some x → ca[i]? = some a → (c.scope.names.lookup x = some .cell ∨ c.scope.names.lookup x = some .free) → env.cells.lookup x = some a
  own : st.own.length = p.length ∧ ∀ (k : Nat) (a : Addr) (l : List V), p[k]? = some a → st.own[k]? = some l → ∃ vs : List Value, LstAt h a vs ∧ VFs B vs l
  held : ∀ q ∈ rs, h.get? q.1 = some q.2
  off : ∀ a ∈ exc env rs ca p, B.get? a = none
  nd : (exc env rs ca p).Nodup

section
variable {D : Wd} {c : Cx} {env : Env} {B h h' : Heap} {rs : List (Addr × Obj)} {ca p : List Addr} {st : St}
theorem mem_ca {i : Nat} {a : Addr} (e : ca[i]? = some a) : a ∈ ca := List.mem_of_getElem? e
theorem Rep.low (R : Rep D c env B h rs ca p st) {b : Addr} {o : Obj} (e : B.get? b = some o) : b < h.objs.size := Heap.lt_size (R.ext b o e)
theorem Rep.locLt (R : Rep D c env B h rs ca p st) : env.locals < h.objs.size := by obtain ⟨_, a, _⟩ := R.loc; exact a.lt
theorem Rep.excLt (R : Rep D c env B h rs ca p st) : ∀ a ∈ exc env rs ca p, a < h.objs.size := by
  intro a ha
  unfold exc at ha
  rcases List.mem_cons.mp ha with rfl | ha
  · exact R.locLt
  rcases List.mem_append.mp ha with ha | ha
  · obtain ⟨i, hi⟩ := List.getElem?_of_mem ha
    have hl : i < st.cel.length := by rw [R.cel.1]; exact (List.getElem?_eq_some_iff.mp hi).1
    obtain ⟨ov, ⟨o, e, _⟩, _⟩ := R.cel.2 i a st.cel[i] hi (List.getElem?_eq_getElem hl)
    exact Heap.lt_size e
  rcases List.mem_append.mp ha with ha | ha
  · obtain ⟨i, hi⟩ := List.getElem?_of_mem ha
    have hl : i < st.own.length := by rw [R.own.1]; exact (List.getElem?_eq_some_iff.mp hi).1
    obtain ⟨vs, ⟨n, e⟩, _⟩ := R.own.2 i a st.own[i] hi (List.getElem?_eq_getElem hl)
    exact Heap.lt_size e
  · obtain ⟨q, hq, rfl⟩ := List.mem_map.mp ha
    exact Heap.lt_size (R.held q hq)
theorem nd_loc (nd : (exc env rs ca p).Nodup) {a : Addr} (ha : a ∈ ca ++ (p ++ rs.map (·.1))) : a ≠ env.locals := fun e => (List.nodup_cons.mp nd).1 (e ▸ ha)
theorem nd_tail (nd : (exc env rs ca p).Nodup) : (ca ++ (p ++ rs.map (·.1))).Nodup := (List.nodup_cons.mp nd).2
theorem nd_cp (nd : (exc env rs ca p).Nodup) {a b : Addr} (ha : a ∈ ca) (hb : b ∈ p ++ rs.map (·.1)) : a ≠ b := (List.nodup_append.mp (nd_tail nd)).2.2 a ha b hb
theorem nd_pr (nd : (exc env rs ca p).Nodup) {a b : Addr} (ha : a ∈ p) (hb : b ∈ rs.map (·.1)) : a ≠ b :=
  (List.nodup_append.mp (List.nodup_append.mp (nd_tail nd)).2.1).2.2 a ha b hb
theorem nd_c (nd : (exc env rs ca p).Nodup) : ca.Nodup := (List.nodup_append.mp (nd_tail nd)).1
theorem nd_p (nd : (exc env rs ca p).Nodup) : p.Nodup := (List.nodup_append.mp (List.nodup_append.mp (nd_tail nd)).2.1).1
theorem idx_ne {l : List Addr} (nd : l.Nodup) {i j : Nat} {a b : Addr} (ei : l[i]? = some a) (ej : l[j]? = some b) (ne : i ≠ j) : a ≠ b := fun e => by
  subst e
  exact ne ((List.getElem?_inj (List.getElem?_eq_some_iff.mp ei).1 nd).mp (ei.trans ej.symm))

theorem isList_same {a b : Addr} {vs : List Value} (x : Heap.SameBut b h h') (ne : a ≠ b) (hl : LstAt h a vs) : LstAt h' a vs := by
  obtain ⟨n, e⟩ := hl; exact ⟨n, (x.2 a ne).trans e⟩
theorem cellAt_same {a b : Addr} {ov : Option Value} (x : Heap.SameBut b h h') (ne : a ≠ b) (hl : CellAt h a ov) : CellAt h' a ov := by
  obtain ⟨o, e, r⟩ := hl; exact ⟨o, (x.2 a ne).trans e, r⟩
theorem ext_same {b : Addr} (x : Heap.SameBut b h h') (e : Ext B h) (hn : B.get? b = none) : Ext B h' := fun a o q =>
  (x.2 a fun z => by subst z; rw [hn] at q; (first | exact none_some q | exact some_none q | (obtain rfl := Option.some.inj q) | cases q)).trans (e a o q)

theorem exc_perm (env : Env) (hs rs : List (Addr × Obj)) (ca p : List Addr) : (exc env (hs ++ rs) ca p).Perm (hs.map (·.1) ++ exc env rs ca p) := by
  unfold exc
  rw [List.map_append]
  exact (List.Perm.cons _ ((List.Perm.append_left ca (List.perm_append_comm_assoc p _ _)).trans (List.perm_append_comm_assoc ca _ _))).trans List.perm_middle.symm
theorem exc_cons (env : Env) (a : Addr) (o : Obj) (rs : List (Addr × Obj)) (ca p : List Addr) : (exc env ((a, o) :: rs) ca p).Perm (a :: exc env rs ca p) := exc_perm env [(a, o)] rs ca p
/-- the frame's own part stays; the frozen part, the heap, what is held change -/
theorem Rep.to (R : Rep D c env B h rs ca p st) {B' : Heap} {rs' : List (Addr × Obj)} (xb : Ext B B') (xB : Ext B' h') (k : ∀ b ob, b ∈ env.locals :: (ca ++ p) → h.get? b = some ob → h'.get? b = some ob) (e : ∀ q ∈ rs', h'.get? q.1 = some q.2)
    (off : ∀ b ∈ exc env rs' ca p, B'.get? b = none) (nd : (exc env rs' ca p).Nodup) : Rep D c env B' h' rs' ca p st := by
  obtain ⟨m, ⟨oo, es, ep, q, r⟩, hl, hv⟩ := R.loc
  exact { R with
    ext := xB
    good := R.good.ext xb
    loc := ⟨m, ⟨oo, es, ep, k _ _ (.head _) q, r⟩, hl, fun i y o a b => (hv i y o a b).mono xb (.refl p)⟩
    cel := ⟨R.cel.1, fun i b o q r => (R.cel.2 i b o q r).imp fun ov h => ⟨h.1.imp fun oc h' => ⟨k _ _ (.tail _ (List.mem_append_left _ (mem_ca q))) h'.1, h'.2⟩, h.2.mono xb (.refl p)⟩⟩
    own := ⟨R.own.1, fun j b l q r => (R.own.2 j b l q r).imp fun vs h => ⟨h.1.imp fun nn h' => k _ _ (.tail _ (List.mem_append_right _ (mem_ca q))) h', h.2.ext xb⟩⟩
    held := e, off := off, nd := nd }
theorem own_in {b : Addr} (rs : List (Addr × Obj)) (h : b ∈ env.locals :: (ca ++ p)) : b ∈ exc env rs ca p := by
  unfold exc
  rcases List.mem_cons.mp h with rfl | h
  · exact .head _
  · refine .tail _ ((List.mem_append.mp h).elim (List.mem_append_left _) fun h => List.mem_append_right _ (List.mem_append_left _ h))
theorem held_in {b : Addr} {rs : List (Addr × Obj)} (h : b ∈ rs.map (·.1)) : b ∈ exc env rs ca p := .tail _ (List.mem_append_right _ (List.mem_append_right _ h))
/-- the frozen part, and all that is new but N -/
theorem grown {B h h' : Heap} (N : List Addr) (xB : Ext B h') (hN : ∀ b ∈ N, B.get? b = none) : ∃ B', Ext B B' ∧ Ext B' h' ∧ (∀ b o, B'.get? b = some o → B.get? b = some o ∨ h.objs.size ≤ b) ∧ (∀ b o, h.objs.size ≤ b → b ∉ N → h'.get? b = some o → B'.get? b = some o) ∧
    (∀ b, b < h.objs.size → B.get? b = none → B'.get? b = none) ∧ ∀ b ∈ N, B'.get? b = none := by
  have lo : ∀ b, b < h.objs.size → B.get? b = none → b ∈ (List.range h.objs.size).filter fun b => (B.get? b).isNone := fun b h1 h2 => List.mem_filter.mpr ⟨List.mem_range.mpr h1, by rw [h2]; rfl⟩
  generalize hl : ((List.range h.objs.size).filter fun b => (B.get? b).isNone) = l at lo
  have e1 : Ext B (hideAll h' (l ++ N)) := fun b o e => hideAll_get _ (xB b o e) fun m => by
    rcases List.mem_append.mp m with m | m
    · rw [← hl] at m; have := (List.mem_filter.mp m).2; rw [e] at this; (first | exact none_some this | exact some_none this | (obtain rfl := Option.some.inj this) | cases this)
    · rw [hN b m] at e; (first | exact none_some e | exact some_none e | (obtain rfl := Option.some.inj e) | cases e)
  refine ⟨hideAll h' (l ++ N), e1, fun b o e => of_hideAll _ e, fun b o e => (Nat.lt_or_ge b h.objs.size).symm.imp_left id |>.elim .inr fun hb => .inl ?_, fun b o hb hn e => hideAll_get _ e fun m => ?_, fun b h1 h2 => hideAll_none _ (List.mem_append_left _ (lo b h1 h2)), fun b hb => hideAll_none _ (List.mem_append_right _ hb)⟩
  · cases q : B.get? b with
    | none => rw [hideAll_none _ (List.mem_append_left _ (lo b hb q))] at e; (first | exact none_some e | exact some_none e | (obtain rfl := Option.some.inj e) | cases e)
    | some o' => rw [← e, e1 b o' q]
  · rcases List.mem_append.mp m with m | m
    · rw [← hl] at m; exact absurd (List.mem_range.mp (List.mem_filter.mp m).1) (Nat.not_lt.mpr hb)
    · exact hn m
/-- what a frame is when the frozen part has grown -/
inductive Grw (D : Wd) (c : Cx) (env : Env) (B h h' : Heap) (rs : List (Addr × Obj)) (ca p : List Addr) (st : St) (N : List Addr) : Prop
  | mk (B' : Heap) : Ext B B' → (∀ b o, B'.get? b = some o → B.get? b = some o ∨ h.objs.size ≤ b) → (∀ b o, h.objs.size ≤ b → b ∉ N → h'.get? b = some o → B'.get? b = some o) → Rep D c env B' h' rs ca p st → Grw D c env B h h' rs ca p st N
inductive Grw0 (D : Wd) (c : Cx) (env : Env) (B h h' : Heap) (rs : List (Addr × Obj)) (ca p : List Addr) (st : St) : Prop
  | mk (B' : Heap) : Ext B B' → (∀ b o, B'.get? b = some o → B.get? b = some o ∨ h.objs.size ≤ b) → (∀ b o, h.objs.size ≤ b → h'.get? b = some o → B'.get? b = some o) → Rep D c env B' h' rs ca p st → Grw0 D c env B h h' rs ca p st
inductive GrwD (D : Wd) (c : Cx) (env : Env) (B h h' : Heap) (rs : List (Addr × Obj)) (ca p : List Addr) (st : St) : Prop
  | mk (B' : Heap) : Ext B B' → (∀ b o, B'.get? b = some o → B.get? b = some o ∨ h.objs.size ≤ b) → Rep D c env B' h' rs ca p st → GrwD D c env B h h' rs ca p st
/-- held objects move, go or come; new ones come -/
theorem Rep.evolve {hs : List (Addr × Obj)} (R : Rep D c env B h (hs ++ rs) ca p st) (hs' : List (Addr × Obj))
    (x : ∀ b ob, b ∉ hs.map (·.1) → h.get? b = some ob → h'.get? b = some ob) (e : ∀ q ∈ hs', h'.get? q.1 = some q.2) (nd : (hs'.map (·.1)).Nodup) (old : ∀ b ∈ hs'.map (·.1), b ∈ hs.map (·.1) ∨ h.objs.size ≤ b) : Grw D c env B h h' (hs' ++ rs) ca p st (hs'.map (·.1)) := by
  have perm := exc_perm env hs rs ca p
  have perm' := exc_perm env hs' rs ca p
  obtain ⟨_, nd2, nd3⟩ := List.nodup_append.mp (perm.nodup_iff.mp R.nd)
  have offO : ∀ a ∈ hs.map (·.1), B.get? a = none := fun a ha => R.off a (perm.mem_iff.mpr (List.mem_append_left _ ha))
  have inO : ∀ a ∈ exc env rs ca p, a ∈ exc env (hs ++ rs) ca p := fun a ha => perm.mem_iff.mpr (List.mem_append_right _ ha)
  have notO : ∀ a ∈ exc env rs ca p, a ∉ hs.map (·.1) := fun a ha hm => nd3 a hm a ha rfl
  obtain ⟨B', e1, e2, w, g, l1, l2⟩ := grown (B := B) (h := h) (h' := h') (hs'.map (·.1)) (fun b ob q => x b ob (fun z => by rw [offO b z] at q; (first | exact none_some q | exact some_none q | (obtain rfl := Option.some.inj q) | cases q)) (R.ext b ob q)) fun b hb => (old b hb).elim (offO b) fun hz => by
    cases q : B.get? b with
    | none => rfl
    | some o => exact absurd (R.low q) (Nat.not_lt.mpr hz)
  refine ⟨B', e1, w, g, R.to e1 e2 (fun b ob hb => x b ob (notO b (own_in rs hb))) (fun q hq => (List.mem_append.mp hq).elim (e q) fun hq => x _ _ (notO _ (held_in (List.mem_map_of_mem (f := (·.1)) hq))) (R.held q (List.mem_append_right _ hq))) (fun b hb => (List.mem_append.mp (perm'.mem_iff.mp hb)).elim (l2 b) fun hb => l1 b (R.excLt b (inO b hb)) (R.off b (inO b hb))) ?_⟩
  exact perm'.nodup_iff.mpr (List.nodup_append.mpr ⟨nd, nd2, fun a ha b hb z => by
    subst z
    exact (old a ha).elim (notO a hb) fun q => absurd (R.excLt a (inO a hb)) (Nat.not_lt.mpr q)⟩)
/-- the frozen part grows by all that is new -/
theorem Rep.grow (R : Rep D c env B h rs ca p st) (x : Ext h h') : Grw0 D c env B h h' rs ca p st := by
  obtain ⟨B', e1, w, g, R'⟩ := Rep.evolve (hs := []) R [] (fun b o _ e => x b o e) (fun q hq => nomatch hq) .nil fun b hb => nomatch hb
  exact ⟨B', e1, w, fun b o h1 h2 => g b o h1 (fun h => nomatch h) h2, R'⟩
/-- a held object moves, new ones come -/
theorem Rep.move {a : Addr} {o o' : Obj} (R : Rep D c env B h ((a, o) :: rs) ca p st) (x : ∀ b ob, b ≠ a → h.get? b = some ob → h'.get? b = some ob) (e : h'.get? a = some o') : Grw0 D c env B h h' ((a, o') :: rs) ca p st := by
  obtain ⟨B', e1, w, g, R'⟩ := Rep.evolve (hs := [(a, o)]) R [(a, o')] (fun b ob hb => x b ob fun z => hb (z ▸ .head _)) (fun q hq => by rw [List.mem_singleton.mp hq]; exact e) (by first | rfl | decide | simp) fun b hb => .inl hb
  exact ⟨B', e1, w, fun b ob h1 h2 => g b ob h1 (fun hm => absurd (Heap.lt_size (R.held _ (.head _))) (Nat.not_lt.mpr (Nat.le_trans h1 (Nat.le_of_eq (List.mem_singleton.mp hm))))) h2, R'⟩
/-- a held object is let go, new ones come -/
theorem Rep.moveD {a : Addr} {o : Obj} (R : Rep D c env B h ((a, o) :: rs) ca p st) (x : ∀ b ob, b ≠ a → h.get? b = some ob → h'.get? b = some ob) : GrwD D c env B h h' rs ca p st := by
  obtain ⟨B', e1, w, _, R'⟩ := Rep.evolve (hs := [(a, o)]) R [] (fun b ob hb => x b ob fun z => hb (z ▸ .head _)) (fun q hq => nomatch hq) .nil fun b hb => nomatch hb
  exact ⟨B', e1, w, R'⟩
/-- one object more is held -/
theorem Rep.hold (R : Rep D c env B h rs ca p st) {a : Addr} {o : Obj} (x : Ext h h') (hn : h.objs.size ≤ a) (e : h'.get? a = some o) : Rep D c env B h' ((a, o) :: rs) ca p st :=
  R.to (.refl B) (fun b o e => x b o (R.ext b o e)) (fun b ob _ => x b ob) (fun q hq => (List.mem_cons.mp hq).elim (fun z => z ▸ e) fun hq => x _ _ (R.held q hq))
    (fun b hb => (List.mem_cons.mp ((exc_cons env a o rs ca p).mem_iff.mp hb)).elim (fun z => by
      cases q : B.get? b with
      | none => rfl
      | some o' => exact absurd (R.low q) (Nat.not_lt.mpr (z ▸ hn))) (R.off b))
    ((exc_cons env a o rs ca p).nodup_iff.mpr (List.nodup_cons.mpr ⟨fun q => absurd (R.excLt a q) (Nat.not_lt.mpr hn), R.nd⟩))
theorem Rep.drop {a : Addr} {o : Obj} (R : Rep D c env B h ((a, o) :: rs) ca p st) : Rep D c env B h rs ca p st :=
  R.to (.refl B) R.ext (fun _ _ _ e => e) (fun q hq => R.held q (.tail _ hq)) (fun b hb => R.off b ((exc_cons env a o rs ca p).mem_iff.mpr (.tail _ hb))) (List.nodup_cons.mp ((exc_cons env a o rs ca p).nodup_iff.mp R.nd)).2
theorem Rep.notHeld {a : Addr} {o : Obj} (R : Rep D c env B h ((a, o) :: rs) ca p st) : ∀ b ∈ exc env rs ca p, b ≠ a := fun b hb z => (List.nodup_cons.mp ((exc_cons env a o rs ca p).nodup_iff.mp R.nd)).1 (z ▸ hb)
theorem Rep.letGo {a : Addr} {o : Obj} (R : Rep D c env B h ((a, o) :: rs) ca p st) (hs : Heap.SameBut a h h') : Rep D c env B h' rs ca p st :=
  R.drop.to (.refl B) (ext_same hs R.ext (R.off _ ((exc_cons env a o rs ca p).mem_iff.mpr (.head _)))) (fun b ob hb e => (hs.2 b (R.notHeld b (own_in rs hb))).trans e) (fun q hq => (hs.2 _ (R.notHeld _ (held_in (List.mem_map_of_mem (f := (·.1)) hq)))).trans (R.held q (.tail _ hq))) R.drop.off R.drop.nd
theorem Rep.rehold {a : Addr} {o o' : Obj} (R : Rep D c env B h ((a, o) :: rs) ca p st) (hs : Heap.SameBut a h h') (e : h'.get? a = some o') : Rep D c env B h' ((a, o') :: rs) ca p st :=
  (R.letGo hs).to (.refl B) (R.letGo hs).ext (fun _ _ _ e => e) (fun q hq => (List.mem_cons.mp hq).elim (fun z => z ▸ e) ((R.letGo hs).held q)) R.off R.nd
theorem Rep.perm {rs' : List (Addr × Obj)} (R : Rep D c env B h rs ca p st) (hp : rs.Perm rs') : Rep D c env B h rs' ca p st := by
  have hperm : (exc env rs' ca p).Perm (exc env rs ca p) := List.Perm.cons _ (List.Perm.append_left ca (List.Perm.append_left p (hp.symm.map _)))
  exact R.to (.refl B) R.ext (fun _ _ _ e => e) (fun q hq => R.held q (hp.mem_iff.mpr hq)) (fun b hb => R.off b (hperm.mem_iff.mp hb)) (hperm.nodup_iff.mpr R.nd)
/-- a new object, frozen -/
theorem Rep.push (R : Rep D c env B h rs ca p st) (o : Obj) (hf : o.isFreed = false) : ∃ B', Ext B B' ∧ (∀ b o, B'.get? b = some o → B.get? b = some o ∨ h.objs.size ≤ b) ∧
    B'.get? h.objs.size = some o ∧ Rep D c env B' (h.push o) rs ca p st := by
  obtain ⟨B', e, n, g, R'⟩ := R.grow (.push h o)
  exact ⟨B', e, n, g _ o (Nat.le_refl _) (Heap.get?_push_size h hf), R'⟩
/-- a local is stored -/
theorem Rep.setLoc (R : Rep D c env B h rs ca p st) {m' : Str → Option Value} {i : Nat} {x : Str} {v : Value} {W : V} (hx : c.ln[i]? = some x) (hv : VR B p v W)
    (hs : Heap.SameBut env.locals h h') (hn : ∀ m, h.Ns env.locals m → m' = fun y => if y = x then some v else m y) (hns : h'.Ns env.locals m') : Rep D c env B h' rs ca p { st with loc := st.loc.set i (some W) } := by
  obtain ⟨m, hm, hl, hq⟩ := R.loc
  refine { R with ext := ext_same hs R.ext (R.off _ (.head _)), loc := ⟨m', hns, by simp [hl], fun j y o ej eo => ?_⟩, cel := ⟨R.cel.1, fun j a o e1 e2 => ?_⟩, own := ⟨R.own.1, fun k a l e1 e2 => ?_⟩, held := fun q hq => ?_ }
  · rw [hn m hm]
    by_cases hji : j = i
    · subst hji
      obtain rfl : x = y := Option.some.inj (hx.symm.trans ej)
      have hlt : j < st.loc.length := by rw [← hl]; exact (List.getElem?_eq_some_iff.mp hx).1
      rw [List.getElem?_set_self hlt] at eo
      (first | exact none_some eo | exact some_none eo | (obtain rfl := Option.some.inj eo) | cases eo)
      simp only [if_true]
      exact hv
    · rw [List.getElem?_set_ne (Ne.symm hji)] at eo
      have : y ≠ x := fun z => by
        subst z
        exact hji ((List.getElem?_inj (List.getElem?_eq_some_iff.mp ej).1 R.lnd).mp (ej.trans hx.symm))
      simp only [if_neg this]
      exact hq j y o ej eo
  · obtain ⟨ov, hc, ho⟩ := R.cel.2 j a o e1 e2
    exact ⟨ov, cellAt_same hs (nd_loc R.nd (List.mem_append_left _ (mem_ca e1))) hc, ho⟩
  · obtain ⟨vs, hL, w⟩ := R.own.2 k a l e1 e2
    exact ⟨vs, isList_same hs (nd_loc R.nd (List.mem_append_right _ (List.mem_append_left _ (mem_ca e1)))) hL, w⟩
  · exact (hs.2 _ (nd_loc R.nd (List.mem_append_right _ (List.mem_append_right _ (List.mem_map_of_mem hq))))).trans (R.held q hq)
/-- a cell is stored -/
theorem Rep.setCel (R : Rep D c env B h rs ca p st) {i : Nat} {a : Addr} {v : Value} {W : V} (ha : ca[i]? = some a) (hv : VR B p v W)
    (hs : Heap.SameBut a h h') (hc : CellAt h' a (some v)) : Rep D c env B h' rs ca p { st with cel := st.cel.set i (some W) } := by
  obtain ⟨m, hm, hl, hq⟩ := R.loc
  have hne : a ≠ env.locals := nd_loc R.nd (List.mem_append_left _ (mem_ca ha))
  refine { R with ext := ext_same hs R.ext (R.off _ (.tail _ (List.mem_append_left _ (mem_ca ha)))), loc := ⟨m, hm.sameBut hs (Ne.symm hne), hl, hq⟩, cel := ⟨by simp [R.cel.1], fun j b o e1 e2 => ?_⟩, own := ⟨R.own.1, fun k b l e1 e2 => ?_⟩, held := fun q hq => ?_ }
  · by_cases hji : j = i
    · subst hji
      obtain rfl : a = b := Option.some.inj (ha.symm.trans e1)
      have hlt : j < st.cel.length := by rw [R.cel.1]; exact (List.getElem?_eq_some_iff.mp ha).1
      rw [List.getElem?_set_self hlt] at e2
      (first | exact none_some e2 | exact some_none e2 | (obtain rfl := Option.some.inj e2) | cases e2)
      exact ⟨some v, hc, hv⟩
    · rw [List.getElem?_set_ne (Ne.symm hji)] at e2
      obtain ⟨ov, hc', ho⟩ := R.cel.2 j b o e1 e2
      exact ⟨ov, cellAt_same hs (idx_ne (nd_c R.nd) e1 ha hji) hc', ho⟩
  · obtain ⟨vs, hL, w⟩ := R.own.2 k b l e1 e2
    exact ⟨vs, isList_same hs (Ne.symm (nd_cp R.nd (mem_ca ha) (List.mem_append_left _ (mem_ca e1)))) hL, w⟩
  · exact (hs.2 _ (Ne.symm (nd_cp R.nd (mem_ca ha) (List.mem_append_right _ (List.mem_map_of_mem hq))))).trans (R.held q hq)
/-- an own list is changed -/
theorem Rep.setOwn (R : Rep D c env B h rs ca p st) {k : Nat} {a : Addr} {vs : List Value} {l : List V} (ha : p[k]? = some a) (hv : VFs B vs l)
    (hs : Heap.SameBut a h h') (hc : LstAt h' a vs) : Rep D c env B h' rs ca p { st with own := st.own.set k l } := by
  obtain ⟨m, hm, hl, hq⟩ := R.loc
  have hne : a ≠ env.locals := nd_loc R.nd (List.mem_append_right _ (List.mem_append_left _ (mem_ca ha)))
  refine { R with ext := ext_same hs R.ext (R.off _ (.tail _ (List.mem_append_right _ (List.mem_append_left _ (mem_ca ha))))), loc := ⟨m, hm.sameBut hs (Ne.symm hne), hl, hq⟩, cel := ⟨R.cel.1, fun j b o e1 e2 => ?_⟩, own := ⟨by simp [R.own.1], fun j b l' e1 e2 => ?_⟩, held := fun q hq => ?_ }
  · obtain ⟨ov, hc', ho⟩ := R.cel.2 j b o e1 e2
    exact ⟨ov, cellAt_same hs (nd_cp R.nd (mem_ca e1) (List.mem_append_left _ (mem_ca ha))) hc', ho⟩
  · by_cases hji : j = k
    · subst hji
      obtain rfl : a = b := Option.some.inj (ha.symm.trans e1)
      have hlt : j < st.own.length := by rw [R.own.1]; exact (List.getElem?_eq_some_iff.mp ha).1
      rw [List.getElem?_set_self hlt] at e2
      (first | exact none_some e2 | exact some_none e2 | (obtain rfl := Option.some.inj e2) | cases e2)
      exact ⟨vs, hc, hv⟩
    · rw [List.getElem?_set_ne (Ne.symm hji)] at e2
      obtain ⟨us, hL, w⟩ := R.own.2 j b l' e1 e2
      exact ⟨us, isList_same hs (idx_ne (nd_p R.nd) e1 ha hji) hL, w⟩
  · exact (hs.2 _ (Ne.symm (nd_pr R.nd (mem_ca ha) (List.mem_map_of_mem hq)))).trans (R.held q hq)
/-- a new own list -/
theorem Rep.addOwn (R : Rep D c env B h rs ca p st) {a : Addr} {vs : List Value} {l : List V} (x : Ext h h') (hn : h.objs.size ≤ a) (e : LstAt h' a vs) (hv : VFs B vs l) :
    Rep D c env B h' rs ca (p ++ [a]) { st with own := st.own ++ [l] } := by
  obtain ⟨m, hm, hl, hq⟩ := R.loc
  have hlt := R.excLt
  have hnot : a ∉ exc env rs ca p := fun q => absurd (hlt a q) (Nat.not_lt.mpr hn)
  have hperm : (exc env rs ca (p ++ [a])).Perm (a :: exc env rs ca p) := by
    unfold exc
    refine List.Perm.trans (List.Perm.cons _ ?_) (List.Perm.swap ..)
    rw [List.append_assoc]
    exact List.Perm.trans (List.Perm.append_left ca List.perm_middle) List.perm_middle
  refine { R with ext := fun b o e => x b o (R.ext b o e), loc := ⟨m, hm.keeps x, hl, fun i y o e1 e2 => (hq i y o e1 e2).mono (.refl B) (.snoc p a)⟩, cel := ⟨R.cel.1, fun j b o e1 e2 => ?_⟩, own := ⟨by simp [R.own.1], fun k b l' e1 e2 => ?_⟩, held := fun q hq => x _ _ (R.held q hq), off := fun b hb => ?_, nd := ?_ }
  · obtain ⟨ov, ⟨oc, ho, hd⟩, w⟩ := R.cel.2 j b o e1 e2; exact ⟨ov, ⟨oc, x _ _ ho, hd⟩, w.mono (.refl B) (.snoc p a)⟩
  · by_cases hk : k < p.length
    · rw [List.getElem?_append_left hk] at e1
      rw [List.getElem?_append_left (by rw [R.own.1]; exact hk)] at e2
      obtain ⟨us, hL, w⟩ := R.own.2 k b l' e1 e2; exact ⟨us, isList_ext x hL, w⟩
    · have hk' := Nat.le_of_not_lt hk
      rw [List.getElem?_append_right hk'] at e1
      rw [List.getElem?_append_right (by rw [R.own.1]; exact hk'), R.own.1] at e2
      cases hz : k - p.length with
      | zero =>
        rw [hz] at e1 e2
        simp only [List.getElem?_cons_zero, Option.some.injEq] at e1 e2
        subst e1 e2
        exact ⟨vs, e, hv⟩
      | succ j => rw [hz] at e1; simp at e1
  · rcases List.mem_cons.mp (hperm.mem_iff.mp hb) with rfl | hb
    · cases q : B.get? b with
      | none => rfl
      | some o' => exact absurd (Heap.lt_size (R.ext b o' q)) (Nat.not_lt.mpr hn)
    · exact R.off b hb
  · exact hperm.nodup_iff.mpr (List.nodup_cons.mpr ⟨hnot, R.nd⟩)
end

def GExt (g g' : Array GenState) : Prop := ∃ l : List GenState, g' = g ++ l.toArray ∧ ∀ y ∈ l, y.bare = true
theorem GExt.refl (g : Array GenState) : GExt g g := ⟨[], by simp, fun _ h => nomatch h⟩
theorem GExt.trans {g g' g'' : Array GenState} (x : GExt g g') (y : GExt g' g'') : GExt g g'' := by
  obtain ⟨l, rfl, hl⟩ := x
  obtain ⟨l', rfl, hl'⟩ := y
  refine ⟨l ++ l', by simp, fun z hz => ?_⟩
  rcases List.mem_append.mp hz with hz | hz
  · exact hl z hz
  · exact hl' z hz

structure Nx (s s' : Shared) (B B' : Heap) (p p' : List Addr) : Prop where
  ext : Ext B B'
  new : ∀ b o, B'.get? b = some o → B.get? b = some o ∨ s.heap.objs.size ≤ b
  size : s.heap.objs.size ≤ s'.heap.objs.size
  pre : Pre p p'
  drawn : s'.drawn = s.drawn
  os : s'.os = s.os
  gens : GExt s.gens s'.gens
  own : ∀ a ∈ p', a ∈ p ∨ s.heap.objs.size ≤ a
theorem Nx.refl (s : Shared) (B : Heap) (p : List Addr) : Nx s s B B p p := ⟨.refl B, fun _ _ e => .inl e, Nat.le_refl _, .refl p, rfl, rfl, .refl _, fun _ h => .inl h⟩
theorem Nx.trans {s s' s'' : Shared} {B B' B'' : Heap} {p p' p'' : List Addr} (x : Nx s s' B B' p p') (y : Nx s' s'' B' B'' p' p'') : Nx s s'' B B'' p p'' :=
  ⟨x.ext.trans y.ext, fun b o e => (y.new b o e).elim (fun e' => x.new b o e') fun e' => .inr (Nat.le_trans x.size e'), Nat.le_trans x.size y.size, x.pre.trans y.pre, y.drawn.trans x.drawn, y.os.trans x.os, x.gens.trans y.gens, fun a h => (y.own a h).elim (x.own a) fun q => .inr (Nat.le_trans x.size q)⟩
/-- tokens alone -/
theorem Nx.toks {s : Shared} {B : Heap} {p : List Addr} {t : Nat} : Nx s { s with toks := t } B B p p := ⟨.refl B, fun _ _ e => .inl e, Nat.le_refl _, .refl p, rfl, rfl, .refl _, fun _ h => .inl h⟩

structure Room (n : Nat) (A : Around) : Prop where
  handled : A.handled = none
  depth : A.depth + n < recursionLimit
  units : A.units + 8 * n + 8 < cLine

/-- what an expression gives back -/
def Post (D : Wd) (c : Cx) (env : Env) (s : Shared) (B : Heap) (rs : List (Addr × Obj)) (ca p : List Addr) (W : V) (st' : St) (Q : Value → Shared → Prop) : Prop :=
  ∀ v B' p' s', Nx s s' B B' p p' → Rep D c env B' s'.heap rs ca p' st' → VR B' p' v W → Q v s'
theorem Post.mono {D : Wd} {c : Cx} {env : Env} {s s' : Shared} {B B' : Heap} {rs : List (Addr × Obj)} {ca p p' : List Addr} {W : V} {st' : St} {Q : Value → Shared → Prop}
    (h : Post D c env s B rs ca p W st' Q) (x : Nx s s' B B' p p') : Post D c env s' B' rs ca p' W st' Q := fun v B'' p'' s'' n r q => h v B'' p'' s'' (x.trans n) r q

def Ex (D : Wd) (n : Nat) (c : Cx) (st : St) (e : Expr) (W : V) (st' : St) : Prop :=
  ∀ (A : Around) (env : Env) (B : Heap) (s : Shared) (rs : List (Addr × Obj)) (ca p : List Addr) (Q : Value → Shared → Prop) (E : Value → Shared → Prop),
    Room n A → Rep D c env B s.heap rs ca p st → Post D c env s B rs ca p W st' Q → wpAny (model D.prog D.w) A (eval e env) Q E s

/-- an operation on one, two values -/
def T1 (D : Wd) (n : Nat) (c : Cx) (st : St) (a : V) (t : Env → Value → Sem Value) (W : V) (st' : St) : Prop :=
  ∀ (A : Around) (env : Env) (B : Heap) (s : Shared) (rs : List (Addr × Obj)) (ca p : List Addr) (Q : Value → Shared → Prop) (E : Value → Shared → Prop) (v : Value),
    Room n A → Rep D c env B s.heap rs ca p st → VR B p v a → Post D c env s B rs ca p W st' Q → wpAny (model D.prog D.w) A (t env v) Q E s
def T2 (D : Wd) (n : Nat) (c : Cx) (st : St) (a b : V) (t : Env → Value → Value → Sem Value) (W : V) (st' : St) : Prop :=
  ∀ (A : Around) (env : Env) (B : Heap) (s : Shared) (rs : List (Addr × Obj)) (ca p : List Addr) (Q : Value → Shared → Prop) (E : Value → Shared → Prop) (v u : Value),
    Room n A → Rep D c env B s.heap rs ca p st → VR B p v a → VR B p u b → Post D c env s B rs ca p W st' Q → wpAny (model D.prog D.w) A (t env v u) Q E s

theorem Ex.bin {D : Wd} {n : Nat} {c : Cx} {st st1 st2 st3 : St} {l r : Expr} {op : Operator} {pos : Pos} {a b W : V} (hl : Ex D n c st l a st1) (hr : Ex D n c st1 r b st2)
    (ho : T2 D n c st2 a b (fun _ => binaryOp op) W st3) : Ex D n c st (.BinOp l op r pos) W st3 := fun A env B s rs ca p Q E hA R H =>
  wpAny_BinOp (hl A env B s rs ca p _ E hA R fun v B1 p1 s1 n1 R1 q1 => hr A env B1 s1 rs ca p1 _ E hA R1 fun u B2 p2 s2 n2 R2 q2 =>
    ho A env B2 s2 rs ca p2 Q E v u hA R2 (q1.mono n2.ext n2.pre) q2 (H.mono (n1.trans n2)))
theorem min_st1 {c a i : Nat} (h : i < a) : c + 1 - min (c + 1) (a - i) = c - min c (a - (i + 1)) := by
  rw [show a - i = (a - (i + 1)) + 1 from (Nat.succ_pred_eq_of_pos (Nat.sub_pos_of_lt h)).symm, Nat.succ_min_succ, Nat.add_sub_add_right]
theorem min_st2 {c a i : Nat} (h : i < a) : i + min (c + 1) (a - i) = i + 1 + min c (a - (i + 1)) := by
  rw [show a - i = (a - (i + 1)) + 1 from (Nat.succ_pred_eq_of_pos (Nat.sub_pos_of_lt h)).symm, Nat.succ_min_succ, Nat.add_right_comm]; rfl
theorem sub_min (a c : Nat) : a - min c a = a - c := by
  rcases Nat.le_total c a with h | h
  · rw [Nat.min_eq_left h]
  · rw [Nat.min_eq_right h, Nat.sub_self, Nat.sub_eq_zero_of_le h]
theorem sub_min' (a c : Nat) : c - min c a = c - a := by
  rcases Nat.le_total c a with h | h
  · rw [Nat.min_eq_left h, Nat.sub_self, Nat.sub_eq_zero_of_le h]
  · rw [Nat.min_eq_right h]
theorem max_sub (a k : Nat) : (max 0 ((a : Int) - (k : Int))).toNat = a - k := by
  rw [← Int.toNat_sub]
  rcases Int.le_total 0 ((a : Int) - (k : Int)) with h | h
  · rw [Int.max_eq_right h]
  · rw [Int.max_eq_left h, Int.toNat_eq_zero.mpr h]; rfl
theorem max_two : ∀ k : Nat, (k : Int) - 2 + max 0 (2 - (k : Int)) = ((k - 2 : Nat) : Int)
  | 0 => rfl
  | 1 => rfl
  | k + 2 => by
    rw [Int.max_eq_left (show (2 : Int) - ((k + 2 : Nat) : Int) ≤ 0 from Int.sub_nonpos_of_le (Int.ofNat_le.mpr (Nat.le_add_left 2 k))), Int.add_zero, Nat.add_sub_cancel, Int.natCast_add]
    exact Int.add_sub_cancel _ _
theorem pad_two (k : Nat) : 2 - min (k + 1 - 1) 2 = (max 0 (2 - (((k + 1 : Nat) : Int) - 1))).toNat := by
  rw [Nat.add_sub_cancel, sub_min, Int.natCast_add, Int.natCast_one, Int.add_sub_cancel]
  exact (max_sub 2 k).symm
theorem pad_three (k : Nat) : 3 - min (k + 1 - 1 - min (k + 1 - 1) 2) 3 = (max 0 (3 - (((k + 1 : Nat) : Int) - 1 - 2 + max 0 (2 - (((k + 1 : Nat) : Int) - 1))))).toNat := by
  rw [Nat.add_sub_cancel, sub_min', sub_min, Int.natCast_add, Int.natCast_one, Int.add_sub_cancel, max_two]
  exact (max_sub 3 (k - 2)).symm
end Mine

open PySem PySem.W PyProof.Rows PySem.Calls
namespace Mine

section
variable {D : Wd} {n : Nat} {c : Cx} {st st1 st2 st3 : St}

theorem Rep.kh {env : Env} {B h : Heap} {rs : List (Addr × Obj)} {ca p : List Addr} (R : Rep D c env B h rs ca p st) : D.K.In h := fun a o e => R.ext a o (R.good.k a o e)

theorem Ex.int {i : Int} {k : Nat} {pos : Pos} : Ex D n c st (.Constant (.int i) k pos) (.int i) st := fun A env B s rs ca p Q E _ R H =>
  wpAny_Constant_int (H _ B p _ .toks R (.of (.int ..)))
theorem Ex.cstr {x : Str} {k : Nat} {pos : Pos} : Ex D n c st (.Constant (.str x) k pos) (.str x) st := fun A env B s rs ca p Q E _ R H =>
  Calls.Constant_str (H _ B p _ .toks R (.of (.str ..)))
theorem Ex.bool {b : Bool} {k : Nat} {pos : Pos} : Ex D n c st (.Constant (.bool b) k pos) (.bool b) st := fun A env B s rs ca p Q E _ R H =>
  Constant_bool (H _ B p _ (.refl ..) R (.of (.bool _)))
theorem Ex.none {k : Nat} {pos : Pos} : Ex D n c st (.Constant .none k pos) .none st := fun A env B s rs ca p Q E _ R H =>
  Constant_none (H _ B p _ (.refl ..) R (.of .none))

theorem Ex.loc (i : Nat) {x : Str} {pos : Pos} {W : V} (hx : c.ln[i]? = some x) (hv : st.loc[i]? = some (some W)) (hl : c.scope.names.lookup x = some .local)
    (hd : (x == ("__debug__" : Str)) = false) : Ex D n c st (.Name x pos) W st := fun A env B s rs ca p Q E _ R H => by
  obtain ⟨m, hm, _, hq⟩ := R.loc
  obtain ⟨v, e, q⟩ := OR.some_ (hq i x _ hx hv)
  exact wpAny_Name (wpAny_loadName_local (R.scope ▸ R.fn) (by unfold Env.kindOf; rw [R.scope]; exact hl) hm e (H v B p s (.refl ..) R q)) hd
theorem Ex.cel (i : Nat) {x : Str} {pos : Pos} {W : V} (hx : c.cn[i]? = some x) (hv : st.cel[i]? = some (some W)) (hl : c.scope.names.lookup x = some .cell ∨ c.scope.names.lookup x = some .free)
    (hd : (x == ("__debug__" : Str)) = false) (hd' : (x == ("__classdict__" : Str)) = false) : Ex D n c st (.Name x pos) W st := fun A env B s rs ca p Q E _ R H => by
  have hi : i < ca.length := by rw [R.cal]; exact (List.getElem?_eq_some_iff.mp hx).1
  have ea : ca[i]? = some ca[i] := List.getElem?_eq_getElem hi
  obtain ⟨ov, hc, ho⟩ := R.cel.2 i _ _ ea hv
  obtain ⟨v, rfl, q⟩ := OR.some_ ho
  have ec := R.cen i x _ hx ea hl
  have hk := R.scope ▸ R.fn
  rcases hl with hl | hl
  · exact wpAny_Name (wpAny_loadName_cell hk (by unfold Env.kindOf; rw [R.scope]; exact hl) ec hc (H v B p s (.refl ..) R q)) hd
  · exact wpAny_Name (wpAny_loadName_free hk (by unfold Env.kindOf; rw [R.scope]; exact hl) ec hc (H v B p s (.refl ..) R q) hd') hd
theorem Ex.glob {x : Str} {pos : Pos} {v : Value} (hg : D.mg x = some v) (hl : c.scope.names.lookup x = some .globalImplicit)
    (hd : (x == ("__debug__" : Str)) = false) : Ex D n c st (.Name x pos) (.raw v) st := fun A env B s rs ca p Q E _ R H => by
  refine Calls.Name_function_global (R.scope ▸ R.fn) (by unfold Env.kindOf; rw [R.scope]; exact hl) ?_ hd
  unfold loadGlobal
  rw [R.globals]
  refine wpAny_bind (wpAny_nsGet (R.good.g.keeps R.ext) ?_)
  rw [hg]
  exact wpAny_pure (H v B p s (.refl ..) R (.of (.raw v)))
theorem Ex.blt {x : Str} {pos : Pos} {v : Value} (hg : D.mg x = Option.none) (hb : D.mb x = some v) (hl : c.scope.names.lookup x = some .globalImplicit)
    (hd : (x == ("__debug__" : Str)) = false) : Ex D n c st (.Name x pos) (.raw v) st := fun A env B s rs ca p Q E _ R H => by
  refine Calls.Name_function_global (R.scope ▸ R.fn) (by unfold Env.kindOf; rw [R.scope]; exact hl) ?_ hd
  unfold loadGlobal
  rw [R.globals, R.builtins]
  refine wpAny_bind (wpAny_nsGet (R.good.g.keeps R.ext) ?_)
  rw [hg]
  refine wpAny_bind (wpAny_nsGet (R.good.b.keeps R.ext) ?_)
  rw [hb]
  exact wpAny_pure (H v B p s (.refl ..) R (.of (.raw v)))

theorem Ex.un {x : Expr} {op : UnaryOp} {pos : Pos} {a W : V} (hx : Ex D n c st x a st1) (ho : T1 D n c st1 a (fun _ => unaryOp op) W st2) : Ex D n c st (.UnaryOp op x pos) W st2 := fun A env B s rs ca p Q E hA R H =>
  UnaryOp_ (hx A env B s rs ca p _ E hA R fun v B1 p1 s1 n1 R1 q1 => ho A env B1 s1 rs ca p1 Q E v hA R1 q1 (H.mono n1))
theorem Ex.cmp {l r : Expr} {op : CmpOp} {pos : Pos} {a b W : V} (hl : Ex D n c st l a st1) (hr : Ex D n c st1 r b st2)
    (ho : T2 D n c st2 a b (fun _ => compareOp op) W st3) (hm : behindInMarks op r = false := by with_unfolding_all rfl) : Ex D n c st (.Compare l [op] [r] pos) W st3 := fun A env B s rs ca p Q E hA R H =>
  wpAny_Compare1 (hl A env B s rs ca p _ E hA R fun v B1 p1 s1 n1 R1 q1 => hr A env B1 s1 rs ca p1 _ E hA R1 fun u B2 p2 s2 n2 R2 q2 =>
    ho A env B2 s2 rs ca p2 Q E v u hA R2 (q1.mono n2.ext n2.pre) q2 (H.mono (n1.trans n2))) hm

/-- truth of a value -/
def Ty (D : Wd) (n : Nat) (c : Cx) (st : St) (a : V) (b : Bool) (st' : St) : Prop :=
  ∀ (A : Around) (env : Env) (B : Heap) (s : Shared) (rs : List (Addr × Obj)) (ca p : List Addr) (Q : Bool → Shared → Prop) (E : Value → Shared → Prop) (v : Value),
    Room n A → Rep D c env B s.heap rs ca p st → VR B p v a → (∀ B' p' s', Nx s s' B B' p p' → Rep D c env B' s'.heap rs ca p' st' → Q b s') → wpAny (model D.prog D.w) A (truthy v) Q E s
/-- a test -/
def Tr (D : Wd) (n : Nat) (c : Cx) (st : St) (e : Expr) (b : Bool) (st' : St) : Prop :=
  ∀ (A : Around) (env : Env) (B : Heap) (s : Shared) (rs : List (Addr × Obj)) (ca p : List Addr) (Q : Bool → Shared → Prop) (E : Value → Shared → Prop),
    Room n A → Rep D c env B s.heap rs ca p st → (∀ B' p' s', Nx s s' B B' p p' → Rep D c env B' s'.heap rs ca p' st' → Q b s') → wpAny (model D.prog D.w) A (isTrue e env (eval e env)) Q E s

theorem Ty.bool {b : Bool} : Ty D n c st (.bool b) b st := fun A env B s rs ca p Q E v _ R q H => by
  cases (show VF B v (.bool b) from q)
  exact wpAny_truthy_bool (H B p s (.refl ..) R)
theorem Ty.int {i : Int} : Ty D n c st (.int i) (i != 0) st := fun A env B s rs ca p Q E v _ R q H => by
  cases (show VF B v (.int i) from q)
  exact PyProof.Rows.truthy_int (H B p s (.refl ..) R)
theorem Tr.plain {e : Expr} {a : V} {b : Bool} (hx : Ex D n c st e a st1) (ht : Ty D n c st1 a b st2)
    (he : ∀ (env : Env) (whole : Sem Value), isTrue e env whole = (do let v ← whole; standAt e.pos; holding [v] (truthy v)) := by intros; rfl) : Tr D n c st e b st2 := fun A env B s rs ca p Q E hA R H =>
  isTrue_plain (hx A env B s rs ca p _ E hA R fun v B1 p1 s1 n1 R1 q1 => ht A env B1 s1 rs ca p1 Q E v hA R1 q1 fun B2 p2 s2 n2 R2 => H B2 p2 s2 (n1.trans n2) R2) (he env _)
theorem Tr.cmp {l r : Expr} {op : CmpOp} {pos : Pos} {a b : V} {t : Bool} (hl : Ex D n c st l a st1) (hr : Ex D n c st1 r b st2)
    (ho : T2 D n c st2 a b (fun _ => compareOp op) (.bool t) st3) (hm : behindInMarks op r = false := by with_unfolding_all rfl) : Tr D n c st (.Compare l [op] [r] pos) t st3 := fun A env B s rs ca p Q E hA R H =>
  wpAny_isTrue_Compare1 (hl A env B s rs ca p _ E hA R fun v B1 p1 s1 n1 R1 q1 => hr A env B1 s1 rs ca p1 _ E hA R1 fun u B2 p2 s2 n2 R2 q2 =>
    ho A env B2 s2 rs ca p2 _ E v u hA R2 (q1.mono n2.ext n2.pre) q2 fun x B3 p3 s3 n3 R3 q3 => by
      cases (show VF B3 x (.bool t) from q3)
      exact wpAny_truthy_bool (H B3 p3 s3 ((n1.trans n2).trans n3) R3)) hm
theorem Tr.not {x : Expr} {pos : Pos} {b : Bool} (hx : Tr D n c st x b st1) : Tr D n c st (.UnaryOp .Not x pos) (!b) st1 := fun A env B s rs ca p Q E hA R H =>
  isTrue_not (hx A env B s rs ca p _ E hA R H)
theorem Tr.and2 {x y : Expr} {pos : Pos} {a b : Bool} (hx : Tr D n c st x a st1) (hy : a = true → Tr D n c st1 y b st2) (hf : a = false → b = false ∧ st2 = st1) : Tr D n c st (.BoolOp .And [x, y] pos) b st2 := fun A env B s rs ca p Q E hA R H =>
  isTrue_and (hx A env B s rs ca p _ E hA R fun B1 p1 s1 n1 R1 => by
    cases a with
    | false => obtain ⟨rfl, rfl⟩ := hf rfl; exact H B1 p1 s1 n1 R1
    | true =>
      refine isTrue_and (hy rfl A env B1 s1 rs ca p1 _ E hA R1 fun B2 p2 s2 n2 R2 => ?_)
      have z := H B2 p2 s2 (n1.trans n2) R2
      cases b with
      | false => exact z
      | true => exact isTrue_and_nil z)
theorem Tr.or2 {x y : Expr} {pos : Pos} {a b : Bool} (hx : Tr D n c st x a st1) (hy : a = false → Tr D n c st1 y b st2) (hf : a = true → b = true ∧ st2 = st1) : Tr D n c st (.BoolOp .Or [x, y] pos) b st2 := fun A env B s rs ca p Q E hA R H =>
  isTrue_or (hx A env B s rs ca p _ E hA R fun B1 p1 s1 n1 R1 => by
    cases a with
    | true => obtain ⟨rfl, rfl⟩ := hf rfl; exact H B1 p1 s1 n1 R1
    | false =>
      refine isTrue_or (hy rfl A env B1 s1 rs ca p1 _ E hA R1 fun B2 p2 s2 n2 R2 => ?_)
      have z := H B2 p2 s2 (n1.trans n2) R2
      cases b with
      | true => exact z
      | false => exact isTrue_or_nil z)
theorem Tr.cast {e : Expr} {a b : Bool} (h : Tr D n c st e a st1) (eq : a = b) : Tr D n c st e b st1 := eq ▸ h
theorem Ex.cast {e : Expr} {a b : V} (h : Ex D n c st e a st1) (eq : a = b) : Ex D n c st e b st1 := eq ▸ h
theorem Ex.ite {t x y : Expr} {pos : Pos} {b : Bool} {W : V} (ht : Tr D n c st t b st1) (hx : b = true → Ex D n c st1 x W st2) (hy : b = false → Ex D n c st1 y W st2) : Ex D n c st (.IfExp t x y pos) W st2 := fun A env B s rs ca p Q E hA R H =>
  IfExp_ (ht A env B s rs ca p _ E hA R fun B1 p1 s1 n1 R1 => by
    cases b with
    | true => exact hx rfl A env B1 s1 rs ca p1 Q E hA R1 (H.mono n1)
    | false => exact hy rfl A env B1 s1 rs ca p1 Q E hA R1 (H.mono n1))
/-- «a and b», both bools, as a value -/
theorem Ex.and2 {x y : Expr} {pos : Pos} {a b : Bool} (hx : Ex D n c st x (.bool a) st1) (hy : a = true → Ex D n c st1 y (.bool b) st2) (hf : a = false → b = false ∧ st2 = st1) : Ex D n c st (.BoolOp .And [x, y] pos) (.bool b) st2 := fun A env B s rs ca p Q E hA R H =>
  BoolOp_and (hx A env B s rs ca p _ E hA R fun v B1 p1 s1 n1 R1 q1 => by
    cases (show VF B1 v (.bool a) from q1)
    refine wpAny_truthy_bool ?_
    cases a with
    | false => obtain ⟨rfl, rfl⟩ := hf rfl; exact H _ B1 p1 s1 n1 R1 q1
    | true => exact BoolOp_one (hy rfl A env B1 s1 rs ca p1 Q E hA R1 (H.mono n1)))

/-- expressions in a row -/
def VRs (B : Heap) (p : List Addr) : List Value → List V → Prop
  | [], [] => True
  | v :: vs, W :: Ws => VR B p v W ∧ VRs B p vs Ws
  | _, _ => False
theorem VRs.mono {B B' : Heap} {p p' : List Addr} (x : Ext B B') (y : Pre p p') : ∀ {vs : List Value} {Ws : List V}, VRs B p vs Ws → VRs B' p' vs Ws
  | [], [], h => h
  | _ :: _, _ :: _, h => ⟨h.1.mono x y, VRs.mono x y h.2⟩
  | [], _ :: _, h => h.elim
  | _ :: _, [], h => h.elim
theorem VRs.fz {B : Heap} {p : List Addr} : ∀ {vs : List Value} {Ws : List V}, VRs B p vs Ws → Ws.all (fun W => !W.isMut) = true → VFs B vs Ws
  | [], [], _, _ => .nil
  | _ :: _, _ :: _, h, m => by
    rw [List.all_cons, Bool.and_eq_true] at m
    exact .cons (h.1.fz (by simpa using m.1)) (VRs.fz h.2 m.2)
  | [], _ :: _, h, _ => h.elim
  | _ :: _, [], h, _ => h.elim
theorem VRs.length {B : Heap} {p : List Addr} : ∀ {vs : List Value} {Ws : List V}, VRs B p vs Ws → vs.length = Ws.length
  | [], [], _ => rfl
  | _ :: _, _ :: _, h => by rw [List.length_cons, List.length_cons, VRs.length h.2]
  | [], _ :: _, h => h.elim
  | _ :: _, [], h => h.elim
theorem VRs.one {B : Heap} {p : List Addr} {W : V} {P : List Value → Prop} {vs : List Value} (q : VRs B p vs [W]) (k : ∀ v, VRs B p [v] [W] → P [v]) : P vs := by
  cases vs with
  | nil => exact q.elim
  | cons v r =>
    cases r with
    | nil => exact k v q
    | cons => exact q.2.elim
theorem VRs.two {B : Heap} {p : List Addr} {W U : V} {P : List Value → Prop} {vs : List Value} (q : VRs B p vs [W, U]) (k : ∀ v u, VRs B p [v, u] [W, U] → P [v, u]) : P vs := by
  cases vs with
  | nil => exact q.elim
  | cons v r => exact VRs.one (P := fun r => P (v :: r)) q.2 fun u q2 => k v u ⟨q.1, q2⟩
theorem len_1 {α : Type} {P : List α → Prop} (k : ∀ a, P [a]) (l : List α) (h : l.length = 1) : P l := by
  obtain ⟨a, rfl⟩ := List.length_eq_one_iff.mp h
  exact k a
theorem len_2 {α : Type} {P : List α → Prop} (k : ∀ a b, P [a, b]) (l : List α) (h : l.length = 2) : P l := by
  cases l with
  | nil => (first | exact none_some h | exact some_none h | (obtain rfl := Option.some.inj h) | cases h)
  | cons a r => exact len_1 (P := fun r => P (a :: r)) (k a) r (Nat.succ.inj h)
theorem len_3 {α : Type} {P : List α → Prop} (k : ∀ a b c, P [a, b, c]) (l : List α) (h : l.length = 3) : P l := by
  cases l with
  | nil => (first | exact none_some h | exact some_none h | (obtain rfl := Option.some.inj h) | cases h)
  | cons a r => exact len_2 (P := fun r => P (a :: r)) (k a) r (Nat.succ.inj h)
def Es (D : Wd) (n : Nat) (c : Cx) (st : St) (es : List Expr) (Ws : List V) (st' : St) : Prop :=
  ∀ (A : Around) (env : Env) (B : Heap) (s : Shared) (rs : List (Addr × Obj)) (ca p : List Addr) (Q : List Value → Shared → Prop) (E : Value → Shared → Prop) (pos : Pos),
    Room n A → Rep D c env B s.heap rs ca p st → (∀ vs B' p' s', Nx s s' B B' p p' → Rep D c env B' s'.heap rs ca p' st' → VRs B' p' vs Ws → Q vs s') →
    wpAny (model D.prog D.w) A (spliced (backTo pos (starEach es env))) Q E s
theorem Es.nil : Es D n c st [] [] st := fun A env B s rs ca p Q E pos _ R H => wpAny_items_nil (H [] B p s (.refl ..) R trivial)
theorem Es.cons {e : Expr} {es : List Expr} {W : V} {Ws : List V} (h : Ex D n c st e W st1) (t : Es D n c st1 es Ws st2)
    (he : ∀ env : Env, starEach (e :: es) env = (false, eval e env) :: starEach es env := by intros; rfl) : Es D n c st (e :: es) (W :: Ws) st2 := fun A env B s rs ca p Q E pos hA R H =>
  wpAny_items_cons (h A env B s rs ca p _ E hA R fun v B1 p1 s1 n1 R1 q1 => t A env B1 s1 rs ca p1 _ E pos hA R1 fun vs B2 p2 s2 n2 R2 q2 =>
    H (v :: vs) B2 p2 s2 (n1.trans n2) R2 ⟨q1.mono n2.ext n2.pre, q2⟩) (he env)
theorem Es.one {e : Expr} {W : V} (h : Ex D n c st e W st1) (he : ∀ env : Env, starEach [e] env = [(false, eval e env)] := by intros; rfl) : Es D n c st [e] [W] st1 := Es.cons h Es.nil he
theorem Es.two {e f : Expr} {W U : V} (h : Ex D n c st e W st1) (h2 : Ex D n c st1 f U st2) (he : ∀ env : Env, starEach [e, f] env = [(false, eval e env), (false, eval f env)] := by intros; rfl)
    (hf : ∀ env : Env, starEach [f] env = [(false, eval f env)] := by intros; rfl) : Es D n c st [e, f] [W, U] st2 := Es.cons h (Es.one h2 hf) fun env => by rw [he, hf]

/-- a new list, frozen at once -/
theorem list_new {env : Env} {B : Heap} {s : Shared} {rs : List (Addr × Obj)} {ca p : List Addr} {vs : List Value} {Ws : List V} (R : Rep D c env B s.heap rs ca p st) (q : VFs B vs Ws) :
    ∃ B', Nx s { s with heap := s.heap.push ⟨.type "list", Option.none, .seq vs.toArray 0, #[]⟩ } B B' p p ∧ Rep D c env B' (s.heap.push ⟨.type "list", Option.none, .seq vs.toArray 0, #[]⟩) rs ca p st ∧
      VF B' (.ref s.heap.objs.size) (.list Ws) := by
  obtain ⟨B', e, nw, g, R'⟩ := R.push ⟨.type "list", Option.none, .seq vs.toArray 0, #[]⟩ rfl
  exact ⟨B', ⟨e, nw, by rw [Heap.size_push]; exact Nat.le_succ _, .refl p, rfl, rfl, .refl _, fun _ h => .inl h⟩, R', .list ⟨0, g⟩ (q.ext e)⟩
theorem Ex.list {es : List Expr} {pos : Pos} {Ws : List V} (h : Es D n c st es Ws st1) (hm : Ws.all (fun W => !W.isMut) = true) (hz : Ws.length ≤ sizeLine) : Ex D n c st (.List es pos) (.list Ws) st1 := fun A env B s rs ca p Q E hA R H =>
  wpAny_List (h A env B s rs ca p _ E pos hA R fun vs B1 p1 s1 n1 R1 q1 => ⟨by rw [q1.length]; exact hz, by
    obtain ⟨B2, n2, R2, q2⟩ := list_new (s := s1) R1 (q1.fz hm)
    exact H _ B2 p1 _ (n1.trans n2) R2 (.of q2)⟩)
/-- a new list of the frame's own -/
theorem Ex.listOwn {es : List Expr} {pos : Pos} {Ws : List V} {k : Nat} (h : Es D n c st es Ws st1) (hm : Ws.all (fun W => !W.isMut) = true) (hz : Ws.length ≤ sizeLine) (hk : st1.own.length = k) :
    Ex D n c st (.List es pos) (.own k) { st1 with own := st1.own ++ [Ws] } := fun A env B s rs ca p Q E hA R H =>
  wpAny_List (h A env B s rs ca p _ E pos hA R fun vs B1 p1 s1 n1 R1 q1 => ⟨by rw [q1.length]; exact hz, by
    have R2 := R1.addOwn (h' := s1.heap.push ⟨.type "list", Option.none, .seq vs.toArray 0, #[]⟩) (Ext.push _ _) (Nat.le_refl _) ⟨0, Heap.get?_push_size _ rfl⟩ (q1.fz hm)
    refine H (.ref s1.heap.objs.size) B1 (p1 ++ [s1.heap.objs.size]) { s1 with heap := s1.heap.push ⟨.type "list", Option.none, .seq vs.toArray 0, #[]⟩ } (n1.trans ⟨.refl _, fun _ _ e => .inl e, by show _ ≤ (s1.heap.push _).objs.size; rw [Heap.size_push]; exact Nat.le_succ _, Pre.snoc _ _, rfl, rfl, .refl _, fun b hb => (List.mem_append.mp hb).elim .inl fun q => .inr (Nat.le_of_eq (List.mem_singleton.mp q).symm)⟩) R2 ⟨_, ?_, rfl⟩
    rw [← hk, R1.own.1, List.getElem?_append_right (Nat.le_refl _)]
    simp⟩)
end
end Mine

open PySem PySem.W PyProof.Rows PySem.Calls
namespace Mine

/-- a text by its signs -/
def S (l : List Nat) : Str := ⟨l.toArray⟩
theorem S_len (l : List Nat) : (S l).length = l.length := by simp [S, Str.length]
theorem S_append (l m : List Nat) : S l ++ S m = S (l ++ m) := by
  show Str.append (S l) (S m) = S (l ++ m)
  simp [S, Str.append]
theorem S_list (l : List Nat) : (S l).cps.toList = l := by simp [S]
theorem S_of (x : Str) : S x.cps.toList = x := by cases x; simp [S]
theorem S_inj {l m : List Nat} : S l = S m ↔ l = m := ⟨fun h => by have := congrArg (fun x : Str => x.cps.toList) h; simpa [S] using this, fun h => h ▸ rfl⟩
theorem S_beq (l m : List Nat) : (S l == S m) = decide (l = m) := by
  rw [Bool.eq_iff_iff]; simp [S_inj]
theorem S_bne (l m : List Nat) : (S l != S m) = decide (l ≠ m) := by
  simp only [bne, S_beq]; by_cases h : l = m <;> simp [h]

section
variable {D : Wd} {n : Nat} {c : Cx} {st st1 st2 st3 : St}

theorem T2.mk {a b W : V} {t : Value → Value → Sem Value} (h : ∀ (A : Around) (env : Env) (B : Heap) (s : Shared) (rs : List (Addr × Obj)) (ca p : List Addr) (Q : Value → Shared → Prop) (E : Value → Shared → Prop) (v u : Value),
    Room n A → Rep D c env B s.heap rs ca p st → VR B p v a → VR B p u b → Post D c env s B rs ca p W st1 Q → wpAny (model D.prog D.w) A (t v u) Q E s) : T2 D n c st a b (fun _ => t) W st1 := h
theorem T1.mk {a W : V} {t : Value → Sem Value} (h : ∀ (A : Around) (env : Env) (B : Heap) (s : Shared) (rs : List (Addr × Obj)) (ca p : List Addr) (Q : Value → Shared → Prop) (E : Value → Shared → Prop) (v : Value),
    Room n A → Rep D c env B s.heap rs ca p st → VR B p v a → Post D c env s B rs ca p W st1 Q → wpAny (model D.prog D.w) A (t v) Q E s) : T1 D n c st a (fun _ => t) W st1 := h
theorem T2.addInt {a b : Int} : T2 D n c st (.int a) (.int b) (fun _ => binaryOp .Add) (.int (a + b)) st := T2.mk fun A env B s rs ca p Q E v u _ R q r H => by
  cases (show VF B v _ from q); cases (show VF B u _ from r)
  with_reducible refine PyProof.Rows.add_int ?_
  exact H _ B p _ .toks R (.of (.int ..))
theorem T2.subInt {a b : Int} : T2 D n c st (.int a) (.int b) (fun _ => binaryOp .Sub) (.int (a - b)) st := T2.mk fun A env B s rs ca p Q E v u _ R q r H => by
  cases (show VF B v _ from q); cases (show VF B u _ from r)
  with_reducible refine PyProof.Rows.sub_int' ?_
  exact H _ B p _ .toks R (.of (.int ..))
theorem T2.subBool {a b : Bool} : T2 D n c st (.bool a) (.bool b) (fun _ => binaryOp .Sub) (.int (b2i a - b2i b)) st := T2.mk fun A env B s rs ca p Q E v u _ R q r H => by
  cases (show VF B v _ from q); cases (show VF B u _ from r)
  with_reducible refine PyProof.Rows.sub_bool ?_
  exact H _ B p _ .toks R (.of (.int ..))
theorem T2.modInt {a b : Int} (hb : b ≠ 0) : T2 D n c st (.int a) (.int b) (fun _ => binaryOp .Mod) (.int (a.fmod b)) st := T2.mk fun A env B s rs ca p Q E v u _ R q r H => by
  cases (show VF B v _ from q); cases (show VF B u _ from r)
  with_reducible refine PyProof.Rows.mod_int' hb ?_
  exact H _ B p _ .toks R (.of (.int ..))
theorem T2.powInt {a b : Int} (h0 : 0 ≤ b) (h1 : b ≤ 1000000) (ha : a.natAbs < 2 ^ 64) : T2 D n c st (.int a) (.int b) (fun _ => binaryOp .Pow) (.int (a ^ b.toNat)) st := T2.mk fun A env B s rs ca p Q E v u _ R q r H => by
  cases (show VF B v _ from q); cases (show VF B u _ from r)
  with_reducible refine PyProof.Rows.pow_int_small h0 h1 ha ?_
  exact H _ B p _ .toks R (.of (.int ..))
theorem T2.addStr {a b : Str} (hz : a.length + b.length ≤ sizeLine) : T2 D n c st (.str a) (.str b) (fun _ => binaryOp .Add) (.str (a ++ b)) st := T2.mk fun A env B s rs ca p Q E v u _ R q r H => by
  cases (show VF B v _ from q); cases (show VF B u _ from r)
  with_reducible refine PyProof.Rows.add_str (fun t' tk => ?_) hz
  exact H _ B p { s with toks := tk } .toks R (.of (.str ..))
theorem T2.addS {a b : List Nat} (hz : a.length + b.length ≤ sizeLine) : T2 D n c st (.str (S a)) (.str (S b)) (fun _ => binaryOp .Add) (.str (S (a ++ b))) st := by
  rw [← S_append]; exact T2.addStr (by rw [S_len, S_len]; exact hz)

theorem T2.eqInt {a b : Int} : T2 D n c st (.int a) (.int b) (fun _ => compareOp .Eq) (.bool (a == b)) st := T2.mk fun A env B s rs ca p Q E v u _ R q r H => by
  cases (show VF B v _ from q); cases (show VF B u _ from r)
  with_reducible refine PyProof.Rows.eq_int ?_
  exact H _ B p _ (.refl ..) R (.of (.bool _))
theorem T2.neInt {a b : Int} : T2 D n c st (.int a) (.int b) (fun _ => compareOp .NotEq) (.bool (a != b)) st := T2.mk fun A env B s rs ca p Q E v u _ R q r H => by
  cases (show VF B v _ from q); cases (show VF B u _ from r)
  with_reducible refine PyProof.Rows.ne_int ?_
  exact H _ B p _ (.refl ..) R (.of (.bool _))
theorem T2.ltInt {a b : Int} : T2 D n c st (.int a) (.int b) (fun _ => compareOp .Lt) (.bool (decide (a < b))) st := T2.mk fun A env B s rs ca p Q E v u _ R q r H => by
  cases (show VF B v _ from q); cases (show VF B u _ from r)
  with_reducible refine PyProof.Rows.lt_int ?_
  exact H _ B p _ (.refl ..) R (.of (.bool _))
theorem T2.gtInt {a b : Int} : T2 D n c st (.int a) (.int b) (fun _ => compareOp .Gt) (.bool (decide (b < a))) st := T2.mk fun A env B s rs ca p Q E v u _ R q r H => by
  cases (show VF B v _ from q); cases (show VF B u _ from r)
  with_reducible refine PyProof.Rows.gt_int ?_
  exact H _ B p _ (.refl ..) R (.of (.bool _))
theorem T2.eqS {a b : List Nat} : T2 D n c st (.str (S a)) (.str (S b)) (fun _ => compareOp .Eq) (.bool (decide (a = b))) st := T2.mk fun A env B s rs ca p Q E v u _ R q r H => by
  cases (show VF B v _ from q); cases (show VF B u _ from r)
  with_reducible refine PyProof.Rows.eq_str ?_
  rw [S_beq]
  exact H _ B p _ (.refl ..) R (.of (.bool _))
theorem T2.neS {a b : List Nat} : T2 D n c st (.str (S a)) (.str (S b)) (fun _ => compareOp .NotEq) (.bool (decide (a ≠ b))) st := T2.mk fun A env B s rs ca p Q E v u _ R q r H => by
  cases (show VF B v _ from q); cases (show VF B u _ from r)
  with_reducible refine PyProof.Rows.ne_str ?_
  rw [S_bne]
  exact H _ B p _ (.refl ..) R (.of (.bool _))
theorem T2.ltS {a b : List Nat} : T2 D n c st (.str (S a)) (.str (S b)) (fun _ => compareOp .Lt) (.bool (decide (a < b))) st := T2.mk fun A env B s rs ca p Q E v u _ R q r H => by
  cases (show VF B v _ from q); cases (show VF B u _ from r)
  with_reducible refine PyProof.Rows.lt_str ?_
  simp only [S_list]
  exact H _ B p _ (.refl ..) R (.of (.bool _))
theorem T2.gtS {a b : List Nat} : T2 D n c st (.str (S a)) (.str (S b)) (fun _ => compareOp .Gt) (.bool (decide (b < a))) st := T2.mk fun A env B s rs ca p Q E v u _ R q r H => by
  cases (show VF B v _ from q); cases (show VF B u _ from r)
  with_reducible refine PySem.P.gt_str ?_
  simp only [S_list]
  exact H _ B p _ (.refl ..) R (.of (.bool _))
theorem T1.negInt {a : Int} : T1 D n c st (.int a) (fun _ => unaryOp .USub) (.int (-a)) st := T1.mk fun A env B s rs ca p Q E v _ R q H => by
  cases (show VF B v _ from q)
  with_reducible refine PyProof.Rows.neg_int ?_
  exact H _ B p _ .toks R (.of (.int ..))

/-- the list that a value stands for -/
def St.lst (st : St) : V → Option (List V)
  | .list l => some l
  | .own k => st.own[k]?
  | _ => none
theorem Rep.lst {env : Env} {B h : Heap} {rs : List (Addr × Obj)} {ca p : List Addr} {v : Value} {W : V} {l : List V} (R : Rep D c env B h rs ca p st) (q : VR B p v W) (e : st.lst W = some l) :
    ∃ a vs, v = .ref a ∧ LstAt h a vs ∧ VFs B vs l := by
  cases W with
  | list l' =>
    (first | exact none_some e | exact some_none e | (obtain rfl := Option.some.inj e) | cases e)
    cases (show VF B v _ from q) with
    | list hl hv => exact ⟨_, _, rfl, isList_ext R.ext hl, hv⟩
  | own k =>
    obtain ⟨a, ea, rfl⟩ := q
    obtain ⟨vs, hl, hv⟩ := R.own.2 k a l ea e
    exact ⟨a, vs, rfl, hl, hv⟩
  | _ => (first | exact none_some e | exact some_none e | (obtain rfl := Option.some.inj e) | cases e)

theorem Ty.list {a : V} {l : List V} (e : st.lst a = some l) (hz : l.length ≤ sizeLine) : Ty D n c st a (!l.isEmpty) st := fun A env B s rs ca p Q E v _ R q H => by
  obtain ⟨x, vs, rfl, hl, hv⟩ := R.lst q e
  have hs : vs.toArray.size = l.length := by rw [List.size_toArray, hv.length]
  refine wpAny_truthy_list hl.is (by rw [hs]; have := sizeLine_eq; lia) ?_
  have : (!vs.toArray.isEmpty) = !l.isEmpty := by
    have := hv.length
    cases l <;> cases vs <;> simp_all
  rw [this]; exact H B p _ .toks R

theorem T2.addList {a b : V} {l m : List V} (ea : st.lst a = some l) (eb : st.lst b = some m) (hz : l.length + m.length ≤ sizeLine) : T2 D n c st a b (fun _ => binaryOp .Add) (.list (l ++ m)) st := T2.mk fun A env B s rs ca p Q E v u _ R q r H => by
  obtain ⟨x, vs, rfl, ⟨k, hl⟩, hv⟩ := R.lst q ea
  obtain ⟨y, us, rfl, ⟨k', hm⟩, hu⟩ := R.lst r eb
  refine PySem.P.add_list (items := vs.toArray) (items2 := us.toArray) (n := k) (n2 := k') hl hm ?_ (by rw [List.size_toArray, List.size_toArray, hv.length, hu.length]; exact hz)
  obtain ⟨B', nx, R', qq⟩ := list_new (s := s) R (hv.append hu)
  have e : vs.toArray ++ us.toArray = (vs ++ us).toArray := by simp
  rw [e]
  exact H _ B' p _ nx R' (.of qq)

theorem T2.inInts {i : Int} {b : V} {xs : List Int} (eb : st.lst b = some (xs.map .int)) : T2 D n c st (.int i) b (fun _ => compareOp .In) (.bool (decide (i ∈ xs))) st := T2.mk fun A env B s rs ca p Q E v u _ R q r H => by
  cases (show VF B v _ from q) with | int _ t =>
  obtain ⟨y, us, rfl, hm, hu⟩ := R.lst r eb
  have key : ∀ (xs : List Int) (us : List Value), VFs B us (xs.map .int) → (∀ y, y ∈ us → ∃ j tj, y = Value.int j tj) ∧ us.any (fun y => match y with | .int j _ => j == i | _ => false) = decide (i ∈ xs) := by
    intro xs
    induction xs with
    | nil => intro us h; (first | exact none_some h | exact some_none h | (obtain rfl := Option.some.inj h) | cases h); exact ⟨fun _ h => (nomatch h), by simp⟩
    | cons x xs ih =>
      intro us h
      cases h with | cons h l =>
      cases h with | int _ tj =>
      obtain ⟨i1, i2⟩ := ih _ l
      refine ⟨fun y hy => ?_, ?_⟩
      · rcases List.mem_cons.mp hy with rfl | hy
        · exact ⟨_, _, rfl⟩
        · exact i1 y hy
      · rw [List.any_cons, i2]
        by_cases hx : i = x
        · simp [hx]
        · have : (x == i) = false := by simp; exact fun h => hx h.symm
          simp [this, hx]
  obtain ⟨k1, k2⟩ := key xs us hu
  with_reducible refine SeqAt.in_listAt (fun y => match y with | .int j _ => j == i | _ => false) hm.is (fun y hy => ?_) ?_
  · obtain ⟨j, tj, rfl⟩ := k1 y (by simpa using hy)
    exact (MeetsSeq.EqGives.int j i tj t).at A.in1 s
  · have : (us.toArray.any fun y => match y with | .int j _ => j == i | _ => false) = decide (i ∈ xs) := by rw [List.any_toArray]; exact k2
    rw [this]
    exact H _ B p _ (.refl ..) R (.of (.bool _))
theorem T2.inStrs {i : List Nat} {b : V} {xs : List (List Nat)} (eb : st.lst b = some (xs.map fun x => .str (S x))) : T2 D n c st (.str (S i)) b (fun _ => compareOp .In) (.bool (decide (i ∈ xs))) st := T2.mk fun A env B s rs ca p Q E v u _ R q r H => by
  cases (show VF B v _ from q) with | str _ t =>
  obtain ⟨y, us, rfl, hm, hu⟩ := R.lst r eb
  have key : ∀ (xs : List (List Nat)) (us : List Value), VFs B us (xs.map fun x => .str (S x)) → (∀ y, y ∈ us → ∃ j tj, y = Value.str j tj) ∧ us.any (fun y => match y with | .str j _ => j == S i | _ => false) = decide (i ∈ xs) := by
    intro xs
    induction xs with
    | nil => intro us h; (first | exact none_some h | exact some_none h | (obtain rfl := Option.some.inj h) | cases h); exact ⟨fun _ h => (nomatch h), by simp⟩
    | cons x xs ih =>
      intro us h
      cases h with | cons h l =>
      cases h with | str _ tj =>
      obtain ⟨i1, i2⟩ := ih _ l
      refine ⟨fun y hy => ?_, ?_⟩
      · rcases List.mem_cons.mp hy with rfl | hy
        · exact ⟨_, _, rfl⟩
        · exact i1 y hy
      · rw [List.any_cons, i2]
        simp only [S_beq]
        by_cases hx : i = x
        · simp [hx]
        · have : ¬ x = i := fun h => hx h.symm
          simp [this, hx]
  obtain ⟨k1, k2⟩ := key xs us hu
  with_reducible refine SeqAt.in_listAt (fun y => match y with | .str j _ => j == S i | _ => false) hm.is (fun y hy => ?_) ?_
  · obtain ⟨j, tj, rfl⟩ := k1 y (by simpa using hy)
    exact fun prog w E Q hq => SeqAt.EqAt.str_str j tj (S i) t prog w E Q hq
  · have : (us.toArray.any fun y => match y with | .str j _ => j == S i | _ => false) = decide (i ∈ xs) := by rw [List.any_toArray]; exact k2
    rw [this]
    exact H _ B p _ (.refl ..) R (.of (.bool _))
/-- one sign in a text -/
theorem T2.inS {i : Nat} {b : List Nat} : T2 D n c st (.str (S [i])) (.str (S b)) (fun _ => compareOp .In) (.bool (decide (i ∈ b))) st := T2.mk fun A env B s rs ca p Q E v u _ R q r H => by
  cases (show VF B v _ from q); cases (show VF B u _ from r)
  with_reducible refine PyProof.Rows.in_str ?_
  have : (!(Builtin.Str.occurrences (S b) (S [i]) 0 (S b).length 1).isEmpty) = decide (i ∈ b) := by
    rw [show S [i] = (⟨#[i]⟩ : Str) from rfl, StrLaws.found_one, S_list]
  rw [this]
  exact H _ B p _ (.refl ..) R (.of (.bool _))
end
end Mine

open PySem PySem.W PyProof.Rows PySem.Calls
namespace Mine

/-- Python's plain slice of a row -/
def sl {α : Type} (l : List α) (lo hi : Option Int) : List α :=
  (l.drop (lo.elim 0 (clipAt l.length))).take (hi.elim l.length (clipAt l.length) - lo.elim 0 (clipAt l.length))
theorem sl_len {α : Type} (l : List α) (lo hi : Option Int) : (sl l lo hi).length ≤ l.length := by
  unfold sl; rw [List.length_take, List.length_drop]; exact Nat.le_trans (Nat.min_le_right _ _) (Nat.sub_le _ _)
theorem clipAt_le (n : Nat) (i : Int) : clipAt n i ≤ n := by
  have := clipAt_cast n i; omega

theorem indices_clip (lo hi : Option Int) (n : Nat) : Builtin.Str.strSliceIndices lo hi 1 n = (List.range (hi.elim n (clipAt n) - lo.elim 0 (clipAt n))).map (lo.elim 0 (clipAt n) + ·) := by
  rw [← sliceRange_one]
  unfold Builtin.Str.strSliceIndices
  cases lo <;> cases hi <;> simp [clipAt_cast]
theorem all_idx {α : Type} [DecidableEq α] (xs ys : List α) (h : xs.length = ys.length) : (List.range xs.length).all (fun j => decide (xs[j]? = ys[j]?)) = decide (xs = ys) := by
  rw [Bool.eq_iff_iff]
  simp only [List.all_eq_true, List.mem_range, decide_eq_true_eq]
  constructor
  · intro q
    apply List.ext_getElem? 
    intro j
    by_cases hj : j < xs.length
    · exact q j hj
    · rw [List.getElem?_eq_none (by lia), List.getElem?_eq_none (by lia)]
  · rintro rfl j _; rfl

section
variable {D : Wd} {n : Nat} {c : Cx} {st st1 st2 st3 : St}

theorem strs_get {B : Heap} : ∀ {xs : List (List Nat)} {us : List Value}, VFs B us (xs.map fun x => .str (S x)) → ∀ {j : Nat} (h : j < us.toArray.size), ∃ x t, xs[j]? = some x ∧ us.toArray[j] = .str (S x) t
  | [], _, h, j, hj => by cases h; simp at hj
  | x :: xs, _, h, j, hj => by
    cases h with | cons h l =>
    cases h with | str _ t =>
    cases j with
    | zero => exact ⟨x, t, rfl, rfl⟩
    | succ j =>
      obtain ⟨y, u, e, q⟩ := strs_get l (j := j) (by simpa using hj)
      exact ⟨y, u, by simpa using e, by simpa using q⟩
theorem ints_get {B : Heap} : ∀ {xs : List Int} {us : List Value}, VFs B us (xs.map .int) → ∀ {j : Nat} (h : j < us.toArray.size), ∃ x t, xs[j]? = some x ∧ us.toArray[j] = .int x t
  | [], _, h, j, hj => by cases h; simp at hj
  | x :: xs, _, h, j, hj => by
    cases h with | cons h l =>
    cases h with | int _ t =>
    cases j with
    | zero => exact ⟨x, t, rfl, rfl⟩
    | succ j =>
      obtain ⟨y, u, e, q⟩ := ints_get l (j := j) (by simpa using hj)
      exact ⟨y, u, by simpa using e, by simpa using q⟩

theorem strs_eqAt {A : Around} {s : Shared} {B : Heap} {xs ys : List (List Nat)} {vs us : List Value} (hv : VFs B vs (xs.map fun x => .str (S x))) (hu : VFs B us (ys.map fun x => .str (S x))) :
    ∀ j (h1 : j < vs.toArray.size) (h2 : j < us.toArray.size), SeqAt.EqAt A s vs.toArray[j] us.toArray[j] (decide (xs[j]? = ys[j]?)) := by
  intro j h1 h2
  obtain ⟨x, t, ex, qx⟩ := strs_get hv h1
  obtain ⟨y, u, ey, qy⟩ := strs_get hu h2
  rw [qx, qy, ex, ey]
  have : decide (some x = some y) = (S x == S y) := by rw [S_beq]; simp
  rw [this]
  exact SeqAt.EqAt.str_str (S x) t (S y) u
theorem ints_eqAt {A : Around} {s : Shared} {B : Heap} {xs ys : List Int} {vs us : List Value} (hv : VFs B vs (xs.map .int)) (hu : VFs B us (ys.map .int)) :
    ∀ j (h1 : j < vs.toArray.size) (h2 : j < us.toArray.size), SeqAt.EqAt A s vs.toArray[j] us.toArray[j] (decide (xs[j]? = ys[j]?)) := by
  intro j h1 h2
  obtain ⟨x, t, ex, qx⟩ := ints_get hv h1
  obtain ⟨y, u, ey, qy⟩ := ints_get hu h2
  rw [qx, qy, ex, ey]
  have : decide (some x = some y) = (x == y) := by rw [Bool.eq_iff_iff]; simp
  rw [this]
  exact (MeetsSeq.EqGives.int x y t u).at A s

theorem eq_lists {α : Type} [DecidableEq α] {A : Around} {s : Shared} {xs ys : List α} {vs us : List Value} {a b : Addr} {Q E : Value → Shared → Prop} (hn : Room n A) (hl : LstAt s.heap a vs) (hb : LstAt s.heap b us)
    (lv : vs.length = xs.length) (lu : us.length = ys.length)
    (he : ∀ j (h1 : j < vs.toArray.size) (h2 : j < us.toArray.size), SeqAt.EqAt A.in1 s vs.toArray[j] us.toArray[j] (decide (xs[j]? = ys[j]?))) (h : Q (.bool (decide (xs = ys))) s) :
    wpAny (model D.prog D.w) A (compareOp .Eq (.ref a) (.ref b)) Q E s := by
  by_cases hz : xs.length = ys.length
  · with_reducible refine SeqAt.eq_listAt hl.is hb.is (by simp [lv, lu, hz]) (by have := hn.units; lia) he ?_
    have : (List.range vs.toArray.size).all (fun j => decide (xs[j]? = ys[j]?)) = decide (xs = ys) := by rw [List.size_toArray, lv, all_idx xs ys hz]
    rw [this]; exact h
  · with_reducible refine SeqAt.eq_list_lengthsAt hl.is hb.is (by simp [lv, lu, hz]) (by have := hn.units; lia) ?_
    have : decide (xs = ys) = false := decide_eq_false fun e => hz (by rw [e])
    rw [this] at h; exact h
theorem ne_lists {α : Type} [DecidableEq α] {A : Around} {s : Shared} {xs ys : List α} {vs us : List Value} {a b : Addr} {Q E : Value → Shared → Prop} (hn : Room n A) (hl : LstAt s.heap a vs) (hb : LstAt s.heap b us)
    (lv : vs.length = xs.length) (lu : us.length = ys.length)
    (he : ∀ j (h1 : j < vs.toArray.size) (h2 : j < us.toArray.size), SeqAt.EqAt A.in1 s vs.toArray[j] us.toArray[j] (decide (xs[j]? = ys[j]?))) (h : Q (.bool (decide (xs ≠ ys))) s) :
    wpAny (model D.prog D.w) A (compareOp .NotEq (.ref a) (.ref b)) Q E s := by
  show wpAny (model D.prog D.w) A (richCompare .NotEq (.ref a) (.ref b)) Q E s
  by_cases hz : xs.length = ys.length
  · refine SeqAt.RcNeAt.lists hl.is hb.is (by simp [lv, lu, hz]) (by have := hn.units; lia) he D.prog D.w E Q ?_
    have : (!(List.range vs.toArray.size).all (fun j => decide (xs[j]? = ys[j]?))) = decide (xs ≠ ys) := by rw [List.size_toArray, lv, all_idx xs ys hz]; simp
    rw [this]; exact h
  · refine SeqAt.RcNeAt.lists_lengths hl.is hb.is (by simp [lv, lu, hz]) (by have := hn.units; lia) D.prog D.w E Q ?_
    have : decide (xs ≠ ys) = true := decide_eq_true fun e => hz (by rw [e])
    rw [this] at h; exact h

theorem T2.eqStrs {a b : V} {xs ys : List (List Nat)} (ea : st.lst a = some (xs.map fun x => .str (S x))) (eb : st.lst b = some (ys.map fun x => .str (S x))) : T2 D n c st a b (fun _ => compareOp .Eq) (.bool (decide (xs = ys))) st := T2.mk fun A env B s rs ca p Q E v u hA R q r H => by
  obtain ⟨x, vs, rfl, hl, hv⟩ := R.lst q ea
  obtain ⟨y, us, rfl, hm, hu⟩ := R.lst r eb
  exact eq_lists hA hl hm (by rw [hv.length, List.length_map]) (by rw [hu.length, List.length_map]) (strs_eqAt hv hu) (H _ B p _ (.refl ..) R (.of (.bool _)))
theorem T2.neStrs {a b : V} {xs ys : List (List Nat)} (ea : st.lst a = some (xs.map fun x => .str (S x))) (eb : st.lst b = some (ys.map fun x => .str (S x))) : T2 D n c st a b (fun _ => compareOp .NotEq) (.bool (decide (xs ≠ ys))) st := T2.mk fun A env B s rs ca p Q E v u hA R q r H => by
  obtain ⟨x, vs, rfl, hl, hv⟩ := R.lst q ea
  obtain ⟨y, us, rfl, hm, hu⟩ := R.lst r eb
  exact ne_lists hA hl hm (by rw [hv.length, List.length_map]) (by rw [hu.length, List.length_map]) (strs_eqAt hv hu) (H _ B p _ (.refl ..) R (.of (.bool _)))
theorem T2.neInts {a b : V} {xs ys : List Int} (ea : st.lst a = some (xs.map .int)) (eb : st.lst b = some (ys.map .int)) : T2 D n c st a b (fun _ => compareOp .NotEq) (.bool (decide (xs ≠ ys))) st := T2.mk fun A env B s rs ca p Q E v u hA R q r H => by
  obtain ⟨x, vs, rfl, hl, hv⟩ := R.lst q ea
  obtain ⟨y, us, rfl, hm, hu⟩ := R.lst r eb
  exact ne_lists hA hl hm (by rw [hv.length, List.length_map]) (by rw [hu.length, List.length_map]) (ints_eqAt hv hu) (H _ B p _ (.refl ..) R (.of (.bool _)))

/-- is, is not -/
theorem T2.isNotStr {x : Str} {a : Addr} : T2 D n c st (.str x) (.raw (.ref a)) (fun _ => compareOp .IsNot) (.bool true) st := T2.mk fun A env B s rs ca p Q E v u hA R q r H => by
  cases (show VF B v _ from q); cases (show VF B u _ from r)
  with_reducible refine wpAny_isNot_other rfl (fun h => nomatch h) ?_
  exact H _ B p _ (.refl ..) R (.of (.bool _))
theorem T2.isNotSelf {a : Addr} : T2 D n c st (.raw (.ref a)) (.raw (.ref a)) (fun _ => compareOp .IsNot) (.bool false) st := T2.mk fun A env B s rs ca p Q E v u hA R q r H => by
  cases (show VF B v _ from q); cases (show VF B u _ from r)
  with_reducible refine wpAny_isNot_ref_self ?_
  exact H _ B p _ (.refl ..) R (.of (.bool _))
theorem T2.isSelf {a : Addr} : T2 D n c st (.raw (.ref a)) (.raw (.ref a)) (fun _ => compareOp .Is) (.bool true) st := T2.mk fun A env B s rs ca p Q E v u hA R q r H => by
  cases (show VF B v _ from q); cases (show VF B u _ from r)
  with_reducible refine wpAny_is_ref_self ?_
  exact H _ B p _ (.refl ..) R (.of (.bool _))

theorem flatten_foldl (m : Nat) (xs : Array Nat) : ∀ acc : Array Nat, ((List.replicate m xs).foldl (· ++ ·) acc).toList = acc.toList ++ (List.replicate m xs.toList).flatten := by
  induction m with
  | zero => intro acc; simp
  | succ m ih => intro acc; rw [List.replicate_succ, List.foldl_cons, ih, List.replicate_succ, List.flatten_cons, Array.toList_append, List.append_assoc]
theorem flatten_foldlV (m : Nat) (xs : Array Value) : ∀ acc : Array Value, ((List.replicate m xs).foldl (fun x1 x2 => x1 ++ x2) acc).toList = acc.toList ++ (List.replicate m xs.toList).flatten := by
  induction m with
  | zero => intro acc; simp
  | succ m ih => intro acc; rw [List.replicate_succ, List.foldl_cons, ih, List.replicate_succ, List.flatten_cons, Array.toList_append, List.append_assoc]

/-- one sign, k times -/
theorem T2.mulS {x : Nat} {k : Int} (hlo : -1000000 ≤ k) (hhi : k ≤ 1000000) : T2 D n c st (.str (S [x])) (.int k) (fun _ => binaryOp .Mult) (.str (S (List.replicate k.toNat x))) st := T2.mk fun A env B s rs ca p Q E v u hA R q r H => by
  cases (show VF B v _ from q); cases (show VF B u _ from r)
  have hz := sizeLine_eq
  refine PySem.P.mul_str (by rw [decide_eq_false (by lia), decide_eq_false (by lia)]; rfl) (fun h1 _ => ?_) (fun h1 _ => ?_) ?_
  · rw [S_len]
    have : (1 : Int) ≤ (2 ^ 63 - 1) / k := (Int.le_ediv_iff_mul_le (by lia)).mpr (by lia)
    exact Int.not_lt.mpr this
  · rw [S_len]
    unfold Builtin.Str.tooLong
    simp; lia
  · by_cases h1 : k < 1
    · rw [if_pos h1]
      have : k.toNat = 0 := by lia
      rw [this] at H
      exact ⟨Nat.zero_le _, H _ B p _ .toks R (.of (.str ..))⟩
    · rw [if_neg h1]
      by_cases h2 : k = 1
      · subst h2
        rw [if_pos (by first | rfl | decide | simp)]
        exact H _ B p _ (.refl ..) R (.of (.str ..))
      · have hb : (k == 1 || (S [x]).length == 0) = false := by rw [S_len]; simp [h2]
        rw [if_neg (by rw [hb]; exact Bool.false_ne_true)]
        have e : (⟨(List.replicate k.toNat (S [x]).cps).foldl (· ++ ·) #[]⟩ : Str) = S (List.replicate k.toNat x) := by
          have := flatten_foldl k.toNat (S [x]).cps #[]
          show (⟨_⟩ : Str) = ⟨_⟩
          congr 1
          apply Array.ext'
          rw [this]
          simp [S]
        rw [e]
        exact ⟨by rw [S_len, List.length_replicate]; lia, H _ B p _ .toks R (.of (.str ..))⟩

theorem VFs.rep {B : Heap} {vs : List Value} {l : List V} (h : VFs B vs l) : ∀ m : Nat, VFs B (List.replicate m vs).flatten (List.replicate m l).flatten
  | 0 => .nil
  | m + 1 => by rw [List.replicate_succ, List.replicate_succ, List.flatten_cons, List.flatten_cons]; exact h.append (VFs.rep h m)
theorem T2.mulList {a : V} {l : List V} {k : Int} (ea : st.lst a = some l) (hlo : -1000000 ≤ k) (hhi : k ≤ 1000000) (hz : l.length * k.toNat ≤ 1000000) : T2 D n c st a (.int k) (fun _ => binaryOp .Mult) (.list (List.replicate k.toNat l).flatten) st := T2.mk fun A env B s rs ca p Q E v u hA R q r H => by
  obtain ⟨x, vs, rfl, ⟨m, hl⟩, hv⟩ := R.lst q ea
  cases (show VF B u _ from r) with | int _ t =>
  have hs : vs.toArray.size = l.length := by rw [List.size_toArray, hv.length]
  have hz' := sizeLine_eq
  have inner : wpAny (model D.prog D.w) A (call (.builtin "list.__mul__") [.ref x, .int k t]) Q E s := by
    refine call_meets F.slot_list_mul ⟨_, hl, rfl⟩ F.entry_list_mul (F.args_list_mul_2 _ _)
      (AutoListH.list___mul___list_int_3 x vs.toArray m k t (by simp [Builtin.List.listFitsIndex]; lia) (by rw [hs]; lia) (by rw [hs]; unfold Builtin.List.listTooLong; simp; lia)) ⟨hl, ?_⟩
    have e : (List.foldl (fun x1 x2 => x1 ++ x2) #[] (List.replicate (if vs.toArray.isEmpty = true then 0 else k.toNat) vs.toArray)) = ((List.replicate k.toNat vs).flatten).toArray := by
      apply Array.ext'
      rw [flatten_foldlV]
      cases vs with
      | nil => simp
      | cons y ys => simp
    obtain ⟨B', nx, R', qq⟩ := list_new (s := s) R (hv.rep k.toNat)
    show Q (.ref s.heap.objs.size) _
    rw [e]
    exact H _ B' p _ nx R' (.of qq)
  exact wpAny_binaryOp_repeat_ref (T := "list") (U := "int") (by decide) ⟨_, hl, rfl⟩ (fun s' => typeIs_int s' k t) noFill_list_mul F.fills_int_mul F.slot_int_rmul repeat_list F.slot_int_index.lookup
    (call_meets F.slot_int_rmul (typeIs_int s k t) F.entry_int_rmul (F.args_int_rmul_2 _ _) (int___rmul___int_list k t x vs.toArray m) ⟨hl, rfl, ⟨_, hl, rfl⟩, inner⟩)
end
end Mine

open PySem PySem.W PyProof.Rows PySem.Calls
namespace Mine
open PySem.Sem (wp)

def hsz (s : Shared) : Nat := s.heap.objs.size
theorem runs_size {M : Model} {Γ : Ctx} {p : Pos} {t : Sem Fin} {fs : List Frame} {s s' : Shared} {e : End} (h : Runs M Γ p t fs s e s') : hsz s ≤ hsz s' := by
  unfold hsz
  induction h <;> (try simp only [Shared.setGen, Heap.size_push, Heap.size_after_update] at *) <;> lia
theorem wakes_size {M : Model} {Γ : Ctx} {p : Pos} {g : Nat} {r : Resume} {s s' : Shared} {res : GenResult} (h : Wakes M Γ p g r s res s') : hsz s ≤ hsz s' := by
  unfold Wakes at h
  split at h
  · exact h.elim
  · split at h
    · obtain ⟨e₁, s₁, hr, _, _, rfl⟩ := h; exact (runs_size hr : hsz (s.setGen g .running) ≤ hsz s₁)
    · rw [h.2]; exact Nat.le_refl _
    · rw [h.2]; exact Nat.le_refl _
  · obtain ⟨e₁, s₁, hr, _, _, rfl⟩ := h; exact (runs_size hr : hsz (s.setGen g .running) ≤ hsz s₁)
  · rw [h.2]; exact Nat.le_refl _
  · rw [h.2]; exact Nat.le_refl _
theorem wp_size {α : Type} (M : Model) (Γ : Ctx) (n : Nat) (t : Sem α) : ∀ (Q : α → Pos → Shared → Prop) (E : Value → Pos → Shared → Prop) (p : Pos) (s : Shared), n ≤ hsz s → wp M Γ t Q E p s →
    wp M Γ t (fun a p' s' => n ≤ hsz s' ∧ Q a p' s') (fun e p' s' => n ≤ hsz s' ∧ E e p' s') p s := by
  induction t with
  | pure a => intro Q E p s hn h; exact ⟨hn, h⟩
  | raise e => intro Q E p s hn h; exact ⟨hn, h⟩
  | unsupported _ => intro Q E p s _ h; exact h
  | finish _ => intro Q E p s _ h; exact h
  | rule _ k ih => intro Q E p s hn h; exact ih () Q E p s hn h
  | «at» p' k ih => intro Q E p s hn h; exact ih () Q E p' s hn h
  | load a _ k ih => intro Q E p s hn h; obtain ⟨o, ho, h⟩ := h; exact ⟨o, ho, ih o Q E p s hn h⟩
  | update a _ f k ih => intro Q E p s hn h; exact ⟨h.1, ih () Q E p _ (by unfold hsz at *; rw [Heap.size_after_update]; exact hn) h.2⟩
  | loadIfAlive a k ih => intro Q E p s hn h; exact ih _ Q E p s hn h
  | point _ k ih => intro Q E p s hn h; exact ih () Q E p s hn h
  | register _ _ => intro Q E p s _ h; exact h
  | alloc o k ih => intro Q E p s hn h; exact ih _ Q E p _ (by unfold hsz at *; rw [Heap.size_push]; lia) h
  | fresh k ih => intro Q E p s hn h; exact ih _ Q E p _ hn h
  | ask k ih => intro Q E p s hn h; exact ih _ Q E p s hn h
  | choose src m k ih => intro Q E p s hn h; exact ⟨h.1, ih _ Q E p _ hn h.2⟩
  | os q _ k ih => intro Q E p s hn h; exact ih _ Q E p _ hn h
  | call c hd _ _ k ih => intro Q E p s hn h; obtain ⟨r, s', hr, h⟩ := h; exact ⟨r, s', hr, ih r Q E p s' (Nat.le_trans hn (runs_size hr)) h⟩
  | handled own k ih => intro Q E p s hn h; exact ih _ Q E p s hn h
  | genState g k ih => intro Q E p s hn h; obtain ⟨st, hs, h⟩ := h; exact ⟨st, hs, ih _ Q E p s hn h⟩
  | newGen c k ih => intro Q E p s hn h; exact ih _ Q E p _ hn h
  | resume g r _ k ih => intro Q E p s hn h; obtain ⟨res, s', hw, h⟩ := h; exact ⟨res, s', hw, ih res Q E p s' (Nat.le_trans hn (wakes_size hw)) h⟩
  | yield _ _ _ _ => intro Q E p s _ h; exact h
  | stack k ih => intro Q E p s hn h; exact ih _ Q E p s hn h
  | fork _ _ => intro Q E p s _ h; exact h
  | thread k ih => intro Q E p s hn h; exact ih _ Q E p s hn h
  | await _ _ _ _ _ => intro Q E p s _ h; exact h
theorem with_size {α : Type} {M : Model} {A : Around} {s : Shared} {t : Sem α} {Q : α → Shared → Prop} {E : Value → Shared → Prop}
    (h : wpAny M A t (fun a s' => s.heap.objs.size ≤ s'.heap.objs.size → Q a s') (fun e s' => s.heap.objs.size ≤ s'.heap.objs.size → E e s') s) : wpAny M A t Q E s :=
  fun Γ p hΓ => Sem.wp_mono M Γ t (fun _ _ _ x => x.2 x.1) (fun _ _ _ x => x.2 x.1) p s (wp_size M Γ (hsz s) t _ _ p s (Nat.le_refl _) (h Γ p hΓ))
end Mine

open PySem PySem.W PyProof.Rows PySem.Calls
namespace Mine

section
variable {D : Wd} {n : Nat} {c : Cx} {st st1 st2 st3 : St}

inductive FV where
  | next | brk | cont | ret (W : V)
def FR (B : Heap) (p : List Addr) : Flow → FV → Prop
  | .next, .next => True
  | .brk, .brk => True
  | .cont, .cont => True
  | .ret v, .ret W => VR B p v W
  | _, _ => False

def PostF (D : Wd) (c : Cx) (env : Env) (s : Shared) (B : Heap) (rs : List (Addr × Obj)) (ca p : List Addr) (f : FV) (st' : St) (Q : Flow → Shared → Prop) : Prop :=
  ∀ fl B' p' s', Nx s s' B B' p p' → Rep D c env B' s'.heap rs ca p' st' → FR B' p' fl f → Q fl s'
theorem PostF.mono {env : Env} {s s' : Shared} {B B' : Heap} {rs : List (Addr × Obj)} {ca p p' : List Addr} {f : FV} {st' : St} {Q : Flow → Shared → Prop}
    (h : PostF D c env s B rs ca p f st' Q) (x : Nx s s' B B' p p') : PostF D c env s' B' rs ca p' f st' Q := fun v B'' p'' s'' n r q => h v B'' p'' s'' (x.trans n) r q

def S1 (D : Wd) (n : Nat) (c : Cx) (st : St) (x : Stmt) (f : FV) (st' : St) : Prop :=
  ∀ (A : Around) (env : Env) (B : Heap) (s : Shared) (rs : List (Addr × Obj)) (ca p : List Addr) (Q : Flow → Shared → Prop) (E : Value → Shared → Prop),
    Room n A → Rep D c env B s.heap rs ca p st → PostF D c env s B rs ca p f st' Q → wpAny (model D.prog D.w) A (exec x env) Q E s
def Sx (D : Wd) (n : Nat) (c : Cx) (st : St) (xs : List Stmt) (f : FV) (st' : St) : Prop :=
  ∀ (A : Around) (env : Env) (B : Heap) (s : Shared) (rs : List (Addr × Obj)) (ca p : List Addr) (Q : Flow → Shared → Prop) (E : Value → Shared → Prop),
    Room n A → Rep D c env B s.heap rs ca p st → PostF D c env s B rs ca p f st' Q → wpAny (model D.prog D.w) A (execs xs env) Q E s

theorem Sx.nil : Sx D n c st [] .next st := fun A env B s rs ca p Q E _ R H => wpAny_execs_nil (H .next B p s (.refl ..) R trivial)
theorem Sx.cons {x : Stmt} {xs : List Stmt} {f : FV} (h : S1 D n c st x .next st1) (t : Sx D n c st1 xs f st2) : Sx D n c st (x :: xs) f st2 := fun A env B s rs ca p Q E hA R H =>
  wpAny_execs_cons (h A env B s rs ca p _ E hA R fun fl B1 p1 s1 n1 R1 q1 => by
    cases fl <;> first | exact t A env B1 s1 rs ca p1 Q E hA R1 (H.mono n1) | exact q1.elim)
theorem Sx.stop {x : Stmt} {xs : List Stmt} {f : FV} (h : S1 D n c st x f st1) (hf : f ≠ .next := by intro h; (first | exact none_some h | exact some_none h | (obtain rfl := Option.some.inj h) | cases h)) : Sx D n c st (x :: xs) f st1 := fun A env B s rs ca p Q E hA R H =>
  wpAny_execs_cons (h A env B s rs ca p _ E hA R fun fl B1 p1 s1 n1 R1 q1 => by
    cases fl with
    | next => cases f <;> first | exact absurd rfl hf | exact q1.elim
    | _ => exact H _ B1 p1 s1 n1 R1 q1)

/-- a name takes a value -/
def Sto (D : Wd) (n : Nat) (c : Cx) (st : St) (x : Str) (W : V) (st' : St) : Prop :=
  ∀ (A : Around) (env : Env) (B : Heap) (s : Shared) (rs : List (Addr × Obj)) (ca p : List Addr) (Q : Unit → Shared → Prop) (E : Value → Shared → Prop) (v : Value),
    Room n A → Rep D c env B s.heap rs ca p st → VR B p v W → (∀ s', Nx s s' B B p p → Rep D c env B s'.heap rs ca p st' → Q () s') → wpAny (model D.prog D.w) A (storeName env x v) Q E s
theorem sto_loc {A : Around} {env : Env} {B : Heap} {s : Shared} {rs : List (Addr × Obj)} {ca p : List Addr} {Q : Unit → Shared → Prop} {E : Value → Shared → Prop} {v : Value} {W : V} {i : Nat} {x : Str}
    (hx : c.ln[i]? = some x) (hl : c.scope.names.lookup x = some .local) (R : Rep D c env B s.heap rs ca p st) (q : VR B p v W)
    (H : ∀ s', Nx s s' B B p p → Rep D c env B s'.heap rs ca p { st with loc := st.loc.set i (some W) } → Q () s') : wpAny (model D.prog D.w) A (storeName env x v) Q E s := by
  obtain ⟨m, hm, hz, hq⟩ := id R.loc
  refine wpAny_storeName_local (by unfold Env.kindOf; rw [R.scope]; exact hl) hm (fun h' hn' hs' => ?_) (by rw [R.scope, R.fn]; rfl)
  have R' := R.setLoc (h' := h') hx q hs' (m' := fun y => if y = x then some v else m y) (fun m2 hm2 => ?_) hn'
  · exact H _ ⟨.refl B, fun _ _ e => .inl e, Nat.le_of_eq hs'.1.symm, .refl p, rfl, rfl, .refl _, fun _ h => .inl h⟩ R'
  · obtain ⟨o, es, ep, e, d, _, hf⟩ := hm
    obtain ⟨o2, es2, ep2, e2, d2, _, hf2⟩ := hm2
    rw [e] at e2; (first | exact none_some e2 | exact some_none e2 | (obtain rfl := Option.some.inj e2) | cases e2)
    rw [d] at d2; (first | exact none_some d2 | exact some_none d2 | (obtain rfl := Option.some.inj d2) | cases d2)
    funext y
    rw [← hf y, ← hf2 y]
theorem sto_cel {A : Around} {env : Env} {B : Heap} {s : Shared} {rs : List (Addr × Obj)} {ca p : List Addr} {Q : Unit → Shared → Prop} {E : Value → Shared → Prop} {v : Value} {W : V} {i : Nat} {x : Str} {o : Option V}
    (hx : c.cn[i]? = some x) (hl : c.scope.names.lookup x = some .cell) (ho : st.cel[i]? = some o) (R : Rep D c env B s.heap rs ca p st) (q : VR B p v W)
    (H : ∀ s', Nx s s' B B p p → Rep D c env B s'.heap rs ca p { st with cel := st.cel.set i (some W) } → Q () s') : wpAny (model D.prog D.w) A (storeName env x v) Q E s := by
  have hi : i < ca.length := by rw [R.cal]; exact (List.getElem?_eq_some_iff.mp hx).1
  have ea : ca[i]? = some ca[i] := List.getElem?_eq_getElem hi
  obtain ⟨ov, hc, _⟩ := R.cel.2 i _ _ ea ho
  have ec := R.cen i x _ hx ea (.inl hl)
  refine wpAny_storeName_cell (R.scope ▸ R.fn) (by unfold Env.kindOf; rw [R.scope]; exact hl) ec hc fun h' hc' hs' => ?_
  exact H _ ⟨.refl B, fun _ _ e => .inl e, Nat.le_of_eq hs'.1.symm, .refl p, rfl, rfl, .refl _, fun _ h => .inl h⟩ (R.setCel ea q hs' hc')
theorem Sto.loc (i : Nat) {x : Str} {W : V} (hx : c.ln[i]? = some x) (hl : c.scope.names.lookup x = some .local) (he : st' = { st with loc := st.loc.set i (some W) }) : Sto D n c st x W st' :=
  fun A env B s rs ca p Q E v hA R q H => sto_loc hx hl R q fun s' n' R' => H s' n' (he ▸ R')
theorem Sto.cel (i : Nat) {x : Str} {W : V} {o : Option V} (hx : c.cn[i]? = some x) (hl : c.scope.names.lookup x = some .cell) (ho : st.cel[i]? = some o) (he : st' = { st with cel := st.cel.set i (some W) }) : Sto D n c st x W st' :=
  fun A env B s rs ca p Q E v hA R q H => sto_cel hx hl ho R q fun s' n' R' => H s' n' (he ▸ R')

theorem S1.assign {x : Str} {px pos : Pos} {value : Expr} {W : V} (h : Ex D n c st value W st1) (a : Sto D n c st1 x W st2)
    (hs : ∀ env : Env, env.scope = c.scope → swapsWith value (some (.Name x px)) pos.line env = pure false := by intros; rfl) : S1 D n c st (.Assign [.Name x px] value pos) .next st2 := fun A env B s rs ca p Q E hA R H =>
  wpAny_Assign_Name (h A env B s rs ca p _ E hA R fun v B1 p1 s1 n1 R1 q1 => a A env B1 s1 rs ca p1 _ E v hA R1 q1 fun s2 n2 R2 => H .next B1 p1 s2 (n1.trans n2) R2 trivial) (hs env R.scope)
theorem S1.aug (i : Nat) {x : Str} {px pos : Pos} {op : Operator} {value : Expr} {a b W : V} (hx : c.ln[i]? = some x) (hv : st.loc[i]? = some (some a)) (hl : c.scope.names.lookup x = some .local) (h : Ex D n c st value b st2)
    (ho : T2 D n c st2 a b (fun _ => inplaceOp op) W st3) (hst : Sto D n c st3 x W st4) : S1 D n c st (.AugAssign (.Name x px) op value pos) .next st4 := fun A env B s rs ca p Q E hA R H => by
  obtain ⟨m, hm, _, hq⟩ := id R.loc
  obtain ⟨v, e, q⟩ := OR.some_ (hq i x _ hx hv)
  refine wpAny_AugAssign_Name (wpAny_loadName_local (R.scope ▸ R.fn) (by unfold Env.kindOf; rw [R.scope]; exact hl) hm e ?_)
  exact h A env B s rs ca p _ E hA R fun u B2 p2 s2 n2 R2 q2 => ho A env B2 s2 rs ca p2 _ E v u hA R2 (q.mono n2.ext n2.pre) q2 fun r B3 p3 s3 n3 R3 q3 =>
    hst A env B3 s3 rs ca p3 _ E r hA R3 q3 fun s4 n4 R4 => H .next B3 p3 s4 ((n2.trans n3).trans n4) R4 trivial
theorem S1.ite {t : Expr} {x y : List Stmt} {pos : Pos} {b : Bool} {f : FV} (ht : Tr D n c st t b st1) (hx : b = true → Sx D n c st1 x f st2) (hy : b = false → Sx D n c st1 y f st2) : S1 D n c st (.If t x y pos) f st2 := fun A env B s rs ca p Q E hA R H =>
  wpAny_If (ht A env B s rs ca p _ E hA R fun B1 p1 s1 n1 R1 => by
    cases b with
    | true => exact hx rfl A env B1 s1 rs ca p1 Q E hA R1 (H.mono n1)
    | false => exact hy rfl A env B1 s1 rs ca p1 Q E hA R1 (H.mono n1))
theorem S1.ret {e : Expr} {pos : Pos} {W : V} (h : Ex D n c st e W st1) : S1 D n c st (.Return (some e) pos) (.ret W) st1 := fun A env B s rs ca p Q E hA R H =>
  wpAny_Return_some (h A env B s rs ca p _ E hA R fun v B1 p1 s1 n1 R1 q1 => H (.ret v) B1 p1 s1 n1 R1 q1)
theorem S1.brk {pos : Pos} : S1 D n c st (.Break pos) .brk st := fun A env B s rs ca p Q E hA R H => fun Γ q hΓ => H .brk B p s (.refl ..) R trivial
/-- an expression alone, its value no object -/
theorem S1.expr {e : Expr} {pos : Pos} (h : Ex D n c st e .none st1) (hi : ∀ env : Env, env.scope = c.scope → interactive env = false := by intro env h; unfold interactive; rw [h]; rfl) (hs : ∀ env : Env, env.scope = c.scope → swapsWith e none pos.line env = pure false := by intros; rfl) : S1 D n c st (.Expr e pos) .next st1 := fun A env B s rs ca p Q E hA R H =>
  wpAny_Expr (h A env B s rs ca p _ E hA R fun v B1 p1 s1 n1 R1 q1 => by
    cases (show VF B1 v .none from q1)
    exact H .next B1 p1 s1 n1 R1 trivial) (hi env R.scope) (hs env R.scope)

/-- an expression's iterator: the items that it will hand out -/
def Ie (D : Wd) (n : Nat) (c : Cx) (st : St) (e : Expr) (items : List V) (st' : St) : Prop :=
  ∀ (A : Around) (env : Env) (B : Heap) (s : Shared) (rs : List (Addr × Obj)) (ca p : List Addr) (Q : Value → Shared → Prop) (E : Value → Shared → Prop),
    Room n A → Rep D c env B s.heap rs ca p st →
    (∀ (I : Addr) (fp : List Addr) (Sx : Nat → Heap → Prop) (o : Obj) B' p' s', Nx s s' B B' p p' → Walks D.prog D.w A I fp [I] items.length (fun i v => ∃ W, items[i]? = some W ∧ VF B' v W) Sx →
      (∀ i h, Sx i h → ∃ o, h.get? I = some o) → (∀ b ∈ fp, b ≠ I → ∃ o, B'.get? b = some o) → Sx 0 s'.heap → Rep D c env B' s'.heap ((I, o) :: rs) ca p' st' → Q (.ref I) s') →
    wpAny (model D.prog D.w) A (eval e env) (fun x s₁ => wpAny (model D.prog D.w) A (pyIter x) Q E s₁) E s

/-- a loop over items -/
inductive Lp (D : Wd) (n : Nat) (c : Cx) (x : Str) (body : List Stmt) : List V → St → FV → St → Prop
  | nil {st : St} : Lp D n c x body [] st .next st
  | next {W : V} {Ws : List V} {st st1 st2 st3 : St} {f : FV} : Sto D n c st x W st1 → Sx D n c st1 body .next st2 → Lp D n c x body Ws st2 f st3 → Lp D n c x body (W :: Ws) st f st3
  | brk {W : V} {Ws : List V} {st st1 st2 : St} : Sto D n c st x W st1 → Sx D n c st1 body .brk st2 → Lp D n c x body (W :: Ws) st .next st2
  | ret {W U : V} {Ws : List V} {st st1 st2 : St} : Sto D n c st x W st1 → Sx D n c st1 body (.ret U) st2 → Lp D n c x body (W :: Ws) st (.ret U) st2

/-- the first turn of a loop, whatever comes behind -/
theorem Lp.turn {x : Str} {px : Pos} {body : List Stmt} {U : V} {Ws : List V} {f : FV} (h : Lp D n c x body (U :: Ws) st f st2) {A : Around} {env : Env} {B : Heap} {s : Shared} {rs : List (Addr × Obj)} {ca p : List Addr} {v : Value} {K : Flow → Shared → Prop} {E : Value → Shared → Prop} (hA : Room n A) (R : Rep D c env B s.heap rs ca p st) (hv : VR B p v U)
    (hn : ∀ st' B' p' s', Lp D n c x body Ws st' f st2 → Nx s s' B B' p p' → Rep D c env B' s'.heap rs ca p' st' → K .next s') (hb : f = .next → ∀ B' p' s', Nx s s' B B' p p' → Rep D c env B' s'.heap rs ca p' st2 → K .brk s')
    (hr : ∀ u' u B' p' s', f = .ret u' → Nx s s' B B' p p' → Rep D c env B' s'.heap rs ca p' st2 → VR B' p' u u' → K (.ret u) s') :
    wpAny (model D.prog D.w) A (PySem.assign (.Name x px) env v) (fun _ s4 => wpAny (model D.prog D.w) A (execs body env) K E s4) E s := by
  cases h with
  | next hsto hbody hrest =>
    refine wpAny_assign_Name (hsto A env B s rs ca p _ _ v hA R hv fun s4 n4 R4 => hbody A env B s4 rs ca p _ _ hA R4 fun fl B5 p5 s5 n5 R5 q5 => ?_)
    cases fl with
    | next => exact hn _ B5 p5 s5 hrest (n4.trans n5) R5
    | _ => exact q5.elim
  | brk hsto hbody =>
    refine wpAny_assign_Name (hsto A env B s rs ca p _ _ v hA R hv fun s4 n4 R4 => hbody A env B s4 rs ca p _ _ hA R4 fun fl B5 p5 s5 n5 R5 q5 => ?_)
    cases fl with
    | brk => exact hb rfl B5 p5 s5 (n4.trans n5) R5
    | _ => exact q5.elim
  | ret hsto hbody =>
    refine wpAny_assign_Name (hsto A env B s rs ca p _ _ v hA R hv fun s4 n4 R4 => hbody A env B s4 rs ca p _ _ hA R4 fun fl B5 p5 s5 n5 R5 q5 => ?_)
    cases fl with
    | ret u => exact hr _ u B5 p5 s5 rfl (n4.trans n5) R5 q5
    | _ => exact q5.elim
theorem Lp.nil_inv {x : Str} {body : List Stmt} {f : FV} (h : Lp D n c x body [] st f st2) : f = .next ∧ st2 = st := by cases h; exact ⟨rfl, rfl⟩
theorem drop_step {α : Type} {items : List α} {i : Nat} {U : α} (hU : items[i]? = some U) : items.drop i = U :: items.drop (i + 1) := by
  obtain ⟨hlt, h⟩ := List.getElem?_eq_some_iff.mp hU
  rw [List.drop_eq_getElem_cons hlt, h]
inductive FInv (D : Wd) (n : Nat) (c : Cx) (x : Str) (body : List Stmt) (items : List V) (f : FV) (st2 : St) (s1 : Shared) (B1 : Heap) (p1 ca : List Addr) (rs : List (Addr × Obj)) (env : Env) (I : Addr) (Sx : Nat → Heap → Prop) (k : Nat) (s' : Shared) : Prop
  | mk (i : Nat) (o : Obj) (B' : Heap) (p' : List Addr) (st' : St) : k + i = items.length → Lp D n c x body (items.drop i) st' f st2 → Nx s1 s' B1 B' p1 p' → Ext B1 B' → Sx i s'.heap → Rep D c env B' s'.heap ((I, o) :: rs) ca p' st' → FInv D n c x body items f st2 s1 B1 p1 ca rs env I Sx k s'
theorem for_go {A : Around} {env : Env} {x : Str} {px : Pos} {body : List Stmt} {items : List V} {f : FV} {I : Addr} {fp : List Addr} {St : Nat → Heap → Prop} {o : Obj} {B1 : Heap} {p1 : List Addr} {s1 : Shared} {rs : List (Addr × Obj)} {ca : List Addr} {Q : Flow → Shared → Prop} {E : Value → Shared → Prop}
    (hA : Room n A) (W : Walks D.prog D.w A I fp [I] items.length (fun i v => ∃ W, items[i]? = some W ∧ VF B1 v W) St) (al : ∀ i h, St i h → ∃ o, h.get? I = some o) (hfp : ∀ b ∈ fp, b ≠ I → ∃ o, B1.get? b = some o) (h0 : St 0 s1.heap)
    (R1 : Rep D c env B1 s1.heap ((I, o) :: rs) ca p1 st1) (hl : Lp D n c x body items st1 f st2) (H : PostF D c env s1 B1 rs ca p1 f st2 Q) :
    codeAny (model D.prog D.w) A (.forLoop (.Name x px) (.ref I) body [] env) (fun r s' => match r with | .ok f => Q f s' | .error e => cameBackBy (model D.prog D.w) A env E e s') s1 := by
  refine codeAny_forLoop (FInv D n c x body items f st2 s1 B1 p1 ca rs env I St) (fun k s2 hk => ?_) items.length (.mk 0 o B1 p1 st1 (Nat.add_zero _) hl (.refl ..) (.refl _) h0 R1)
  obtain ⟨i, o2, B2, p2, st', hk, hL, n2, e2, hst, R2⟩ := hk
  cases k with
  | zero =>
    have hi : i = items.length := by omega
    subst hi
    refine with_size (W.done s2 _ _ hst fun h' tk hkeep hsz => ?_)
    rw [List.drop_length] at hL
    obtain ⟨rfl, rfl⟩ := hL.nil_inv
    obtain ⟨B3, e3, w3, R3⟩ := R2.moveD (h' := h') fun b ob hb q => hkeep b ob (fun hm => hb (List.mem_singleton.mp hm)) q
    exact wpAny_execs_nil (H .next B3 p2 _ (n2.trans ⟨e3, w3, hsz, .refl _, rfl, rfl, .refl _, fun _ h => .inl h⟩) R3 trivial)
  | succ k =>
    have hlt : i < items.length := by omega
    refine with_size (W.item i s2 _ _ hlt hst fun v h' tk hP hst' hkeep hsz => ?_)
    obtain ⟨U, hU, hv⟩ := hP
    obtain ⟨o3, ho3⟩ := al _ _ hst'
    obtain ⟨B3, e3, w3, g3, R3⟩ := R2.move (h' := h') (fun b ob hb q => hkeep b ob (fun hm => hb (List.mem_singleton.mp hm)) q) ho3
    have n3 : Nx s1 { s2 with heap := h', toks := tk } B1 B3 p1 p2 := n2.trans ⟨e3, w3, hsz, .refl _, rfl, rfl, .refl _, fun _ h => .inl h⟩
    have e23 := e2.trans e3
    rw [drop_step hU] at hL
    have stay : ∀ {B' : Heap} {h2 : Heap} {p' : List Addr} {st'' : Mine.St}, Ext B3 B' → Rep D c env B' h2 ((I, o3) :: rs) ca p' st'' → St (i + 1) h2 := fun x R' => W.frame _ _ _ hst' fun b hb ob q => by
      by_cases hbI : b = I
      · subst hbI
        have := R'.held _ (.head _)
        rw [ho3] at q; (first | exact none_some q | exact some_none q | (obtain rfl := Option.some.inj q) | cases q); exact this
      · obtain ⟨ob', q'⟩ := hfp b hb hbI
        have q3 := e23 b ob' q'
        have := R3.ext b ob' q3
        rw [this] at q; (first | exact none_some q | exact some_none q | (obtain rfl := Option.some.inj q) | cases q)
        exact R'.ext b _ (x b _ q3)
    refine hL.turn hA R3 (.of (hv.ext e23)) (fun st5 B5 p5 s5 hrest n5 R5 => ?_) (fun hf B5 p5 s5 n5 R5 => ?_) (fun u' u B5 p5 s5 hf n5 R5 q5 => ?_)
    · exact ⟨k, Nat.lt_succ_self _, .mk (i + 1) o3 B5 p5 st5 (by omega) hrest (n3.trans n5) (e23.trans n5.ext) (stay n5.ext R5) R5⟩
    · subst hf; exact H .next B5 p5 s5 (n3.trans n5) R5.drop trivial
    · subst hf; exact H (.ret u) B5 p5 s5 (n3.trans n5) R5.drop q5
theorem S1.for {x : Str} {px pos : Pos} {iter : Expr} {body : List Stmt} {items : List V} {f : FV} (hi : Ie D n c st iter items st1) (hl : Lp D n c x body items st1 f st2)
    (hs : ∀ (env : Env) x, foldedSetIterable iter env x = pure x := by intros; rfl) : S1 D n c st (.For (.Name x px) iter body [] pos) f st2 := fun A env B s rs ca p Q E hA R H => by
  refine wpAny_For (hi A env B s rs ca p _ E hA R fun I fp St o B1 p1 s1 n1 W al hfp h0 R1 => ?_) (hs env)
  exact for_go hA W al hfp h0 R1 hl (H.mono n1)

/-- a while: by its turns -/
inductive Wl (D : Wd) (n : Nat) (c : Cx) (test : Expr) (body : List Stmt) : Nat → St → FV → St → Prop
  | done {st st1 : St} : Tr D n c st test false st1 → Wl D n c test body 0 st .next st1
  | next {k : Nat} {st st1 st2 st3 : St} {f : FV} : Tr D n c st test true st1 → Sx D n c st1 body .next st2 → Wl D n c test body k st2 f st3 → Wl D n c test body (k + 1) st f st3
  | brk {st st1 st2 : St} : Tr D n c st test true st1 → Sx D n c st1 body .brk st2 → Wl D n c test body 0 st .next st2
  | ret {U : V} {st st1 st2 : St} : Tr D n c st test true st1 → Sx D n c st1 body (.ret U) st2 → Wl D n c test body 0 st (.ret U) st2
/-- a turn of a while -/
theorem Wl.turn {test : Expr} {body : List Stmt} {k : Nat} {f : FV} (h : Wl D n c test body k st f st2) {A : Around} {env : Env} {B : Heap} {s : Shared} {rs : List (Addr × Obj)} {ca p : List Addr} {K : Flow → Shared → Prop} {Q : Shared → Prop} {E : Value → Shared → Prop} (hA : Room n A) (R : Rep D c env B s.heap rs ca p st)
    (hd : f = .next → ∀ B' p' s', Nx s s' B B' p p' → Rep D c env B' s'.heap rs ca p' st2 → Q s')
    (hn : ∀ k' st' B' p' s', k = k' + 1 → Wl D n c test body k' st' f st2 → Nx s s' B B' p p' → Rep D c env B' s'.heap rs ca p' st' → K .next s') (hb : f = .next → ∀ B' p' s', Nx s s' B B' p p' → Rep D c env B' s'.heap rs ca p' st2 → K .brk s')
    (hr : ∀ u' u B' p' s', f = .ret u' → Nx s s' B B' p p' → Rep D c env B' s'.heap rs ca p' st2 → VR B' p' u u' → K (.ret u) s') :
    wpAny (model D.prog D.w) A (isTrue test env (eval test env)) (fun b s4 => if b = true then wpAny (model D.prog D.w) A (execs body env) K E s4 else Q s4) E s := by
  cases h with
  | done ht => exact ht A env B s rs ca p _ _ hA R fun B3 p3 s3 n3 R3 => hd rfl B3 p3 s3 n3 R3
  | next ht hbody hrest =>
    refine ht A env B s rs ca p _ _ hA R fun B3 p3 s3 n3 R3 => hbody A env B3 s3 rs ca p3 _ _ hA R3 fun fl B4 p4 s4 n4 R4 q4 => ?_
    cases fl with
    | next => exact hn _ _ B4 p4 s4 rfl hrest (n3.trans n4) R4
    | _ => exact q4.elim
  | brk ht hbody =>
    refine ht A env B s rs ca p _ _ hA R fun B3 p3 s3 n3 R3 => hbody A env B3 s3 rs ca p3 _ _ hA R3 fun fl B4 p4 s4 n4 R4 q4 => ?_
    cases fl with
    | brk => exact hb rfl B4 p4 s4 (n3.trans n4) R4
    | _ => exact q4.elim
  | ret ht hbody =>
    refine ht A env B s rs ca p _ _ hA R fun B3 p3 s3 n3 R3 => hbody A env B3 s3 rs ca p3 _ _ hA R3 fun fl B4 p4 s4 n4 R4 q4 => ?_
    cases fl with
    | ret u => exact hr _ u B4 p4 s4 rfl (n3.trans n4) R4 q4
    | _ => exact q4.elim
inductive WInv (D : Wd) (n : Nat) (c : Cx) (test : Expr) (body : List Stmt) (f : FV) (st2 : St) (s : Shared) (B : Heap) (p ca : List Addr) (rs : List (Addr × Obj)) (env : Env) (k : Nat) (s' : Shared) : Prop
  | mk (B' : Heap) (p' : List Addr) (st' : St) : Wl D n c test body k st' f st2 → Nx s s' B B' p p' → Rep D c env B' s'.heap rs ca p' st' → WInv D n c test body f st2 s B p ca rs env k s'
theorem S1.while {test : Expr} {body : List Stmt} {pos : Pos} {k : Nat} {f : FV} (hl : Wl D n c test body k st f st2) : S1 D n c st (.While test body [] pos) f st2 := fun A env B s rs ca p Q E hA R H => by
  refine wpAny_While (codeAny_whileLoop (WInv D n c test body f st2 s B p ca rs env) (fun k s2 hk => ?_) k (.mk B p st hl (.refl ..) R))
  obtain ⟨B2, p2, st', hL, n2, R2⟩ := hk
  refine hL.turn hA R2 (fun hf B3 p3 s3 n3 R3 => ?_) (fun k' st' B3 p3 s3 hk hW n3 R3 => ?_) (fun hf B3 p3 s3 n3 R3 => ?_) (fun u' u B3 p3 s3 hf n3 R3 q3 => ?_)
  · subst hf; exact wpAny_execs_nil (H .next B3 p3 s3 (n2.trans n3) R3 trivial)
  · subst hk; exact ⟨_, Nat.lt_succ_self _, .mk B3 p3 _ hW (n2.trans n3) R3⟩
  · subst hf; exact H .next B3 p3 s3 (n2.trans n3) R3 trivial
  · subst hf; exact H (.ret u) B3 p3 s3 (n2.trans n3) R3 q3
end
end Mine

open PySem PySem.W PyProof.Rows PySem.Calls
namespace Mine

def relS (scope sc : Scope) : Scope :=
  { scope with names := scope.names.map fun (n, k) => if (k == .free && sc.kind == .function && sc.names.lookup n == some .cell) then (n, .cell) else (n, k) }

def closL (f : Str → Addr) : List (Str × NameKind) → List (Str × Addr) → List (Str × Addr)
  | [], acc => acc
  | (x, k) :: r, acc => closL f r (if k == .free then (x, f x) :: acc else acc)
theorem closL_all (f : Str → Addr) : ∀ (l : List (Str × NameKind)) (acc : List (Str × Addr)), (∀ y ∈ acc, y.2 = f y.1) → ∀ y ∈ closL f l acc, y.2 = f y.1
  | [], acc, h => h
  | (x, k) :: r, acc, h => closL_all f r _ (by
    split
    · intro y hy
      rcases List.mem_cons.mp hy with rfl | hy
      · rfl
      · exact h y hy
    · exact h)
theorem closL_mono (f : Str → Addr) : ∀ (l : List (Str × NameKind)) (acc : List (Str × Addr)) (y : Str × Addr), y ∈ acc → y ∈ closL f l acc
  | [], _, _, h => h
  | (x, k) :: r, acc, y, h => closL_mono f r _ y (by
    split
    · exact List.mem_cons_of_mem _ h
    · exact h)
theorem closL_mem (f : Str → Addr) : ∀ (l : List (Str × NameKind)) (acc : List (Str × Addr)) (x : Str), (x, NameKind.free) ∈ l → (x, f x) ∈ closL f l acc
  | (y, k) :: r, acc, x, h => by
    rcases List.mem_cons.mp h with e | h
    · obtain ⟨rfl, rfl⟩ := Prod.mk.inj e
      refine closL_mono f r _ _ ?_
      rw [if_pos (by rfl)]
      exact List.mem_cons_self
    · exact closL_mem f r _ x h
theorem lookup_of_all {f : Str → Addr} : ∀ {l : List (Str × Addr)}, (∀ y ∈ l, y.2 = f y.1) → ∀ {x : Str}, (∃ a, (x, a) ∈ l) → l.lookup x = some (f x)
  | [], _, _, ⟨_, h⟩ => nomatch h
  | (y, a) :: r, hall, x, ⟨b, hb⟩ => by
    rw [List.lookup_cons]
    by_cases hxy : x = y
    · subst hxy
      simp only [beq_self_eq_true]
      exact congrArg some (hall (x, a) List.mem_cons_self)
    · rw [beq_eq_false_iff_ne.mpr hxy]
      exact lookup_of_all (fun z hz => hall z (List.mem_cons_of_mem _ hz)) (by
        rcases List.mem_cons.mp hb with e | h
        · exact absurd (Prod.mk.inj e).1 hxy
        · exact ⟨b, h⟩)
theorem closureFor_eq {scope : Scope} {env : Env} {f : Str → Addr} (h : ∀ x, (x, NameKind.free) ∈ scope.names → env.cells.lookup x = some (f x)) : closureFor scope env = pure (closL f scope.names []) := by
  have key : ∀ (l : List (Str × NameKind)) (acc : List (Str × Addr)), (∀ x, (x, NameKind.free) ∈ l → env.cells.lookup x = some (f x)) →
      (forIn l acc (fun x (r : List (Str × Addr)) => if (x.snd == NameKind.free) = true then (do let a ← cellOf env x.fst; pure (ForInStep.yield ((x.fst, a) :: r)) : Sem (ForInStep (List (Str × Addr)))) else pure (ForInStep.yield r)) : Sem (List (Str × Addr))) = pure (closL f l acc) := by
    intro l
    induction l with
    | nil => intro acc _; rfl
    | cons y r ih =>
      intro acc hy
      obtain ⟨x, k⟩ := y
      rw [List.forIn_cons]
      by_cases hk : (k == NameKind.free) = true
      · have hk' : k = .free := by simpa using hk
        subst hk'
        have hc : cellOf env x = pure (f x) := by unfold cellOf; rw [hy x List.mem_cons_self]
        simp only [beq_self_eq_true, if_true, hc, pure_bind]
        rw [ih _ fun z hz => hy z (List.mem_cons_of_mem _ hz)]
        simp [closL]
      · dsimp only
        rw [if_neg hk, pure_bind]
        dsimp only
        rw [ih _ fun z hz => hy z (List.mem_cons_of_mem _ hz)]
        simp [closL, hk]
  have := key scope.names [] h
  simp only [closureFor]
  rw [this]
  rfl

section
variable {D : Wd} {n : Nat} {c c' : Cx} {st st1 st2 st3 : St}

/-- the comprehension's own frame is entered -/
theorem Rep.enter {env env' : Env} {B h h' : Heap} {rs : List (Addr × Obj)} {ca p : List Addr} (R : Rep D c env B h rs ca p st) (x : Ext h h') {m' : Str → Option Value} {C : Addr} (hC : h.objs.size ≤ C)
    (hns : h'.Ns C m') (hm' : ∀ y, m' y = none) (hloc : env'.locals = C) (hs : env'.scope = c'.scope) (hg : env'.globals = mainGlobals) (hb : env'.builtins = builtinsNs) (hk : c'.scope.kind = .function) (hcn : c'.cn = c.cn) (hnd : c'.ln.Nodup)
    (hcen : ∀ (i : Nat) (x : Str) (a : Addr), c.cn[i]? = some x → ca[i]? = some a → (c'.scope.names.lookup x = some .cell ∨ c'.scope.names.lookup x = some .free) → env'.cells.lookup x = some a) :
    ∃ oL, h.get? env.locals = some oL ∧ Rep D c' env' B h' ((env.locals, oL) :: rs) ca p { loc := List.replicate c'.ln.length none, cel := st.cel, own := st.own } := by
  obtain ⟨m, hm, hl, hq⟩ := R.loc
  obtain ⟨oL, es, ep, e, d, _⟩ := id hm
  have hlt := R.excLt
  have hperm : (exc env' ((env.locals, oL) :: rs) ca p).Perm (C :: exc env rs ca p) := by
    unfold exc
    rw [hloc, List.map_cons]
    refine List.Perm.cons _ ?_
    exact List.Perm.trans (List.Perm.append_left ca List.perm_middle) List.perm_middle
  have hnot : C ∉ exc env rs ca p := fun q => absurd (hlt C q) (Nat.not_lt.mpr hC)
  refine ⟨oL, e, { scope := hs, fn := hk, globals := hg, builtins := hb, ext := fun b o e => x b o (R.ext b o e), good := R.good, lnd := hnd, loc := ⟨m', hloc ▸ hns, (by first | rfl | decide | simp), fun i y o e1 e2 => ?_⟩, cal := (by rw [hcn]; exact R.cal), cel := ⟨R.cel.1, fun j b o e1 e2 => ?_⟩, cen := (by rw [hcn]; exact hcen), own := ⟨R.own.1, fun k b l e1 e2 => ?_⟩, held := fun q hq => ?_, off := fun b hb => ?_, nd := ?_ }⟩
  · rw [hm' y]
    obtain ⟨_, ho⟩ := List.getElem?_eq_some_iff.mp e2
    simp at ho
    subst ho
    trivial
  · obtain ⟨ov, ⟨oc, ho, hd⟩, w⟩ := R.cel.2 j b o e1 e2; exact ⟨ov, ⟨oc, x _ _ ho, hd⟩, w⟩
  · obtain ⟨vs, hL, w⟩ := R.own.2 k b l e1 e2; exact ⟨vs, isList_ext x hL, w⟩
  · rcases List.mem_cons.mp hq with rfl | hq
    · exact x _ _ e
    · exact x _ _ (R.held q hq)
  · rcases List.mem_cons.mp (hperm.mem_iff.mp hb) with rfl | hb
    · cases q : B.get? b with
      | none => rfl
      | some o' => exact absurd (Heap.lt_size (R.ext b o' q)) (Nat.not_lt.mpr hC)
    · exact R.off b hb
  · exact hperm.nodup_iff.mpr (List.nodup_cons.mpr ⟨hnot, R.nd⟩)
/-- back to the outer frame, the inner one held -/
theorem Rep.back {env env' : Env} {B h B' h' : Heap} {rs rs' : List (Addr × Obj)} {ca p p' : List Addr} {oL : Obj} {st' : St} (R : Rep D c env B h rs ca p st) (R' : Rep D c' env' B' h' ((env.locals, oL) :: rs') ca p' st')
    (e : h.get? env.locals = some oL) (x : Ext B B') (y : Pre p p') (hcn : c'.cn = c.cn) :
    ∃ m oC, h'.Ns env'.locals m ∧ Rep D c env B' h' ((env'.locals, oC) :: rs') ca p' { loc := st.loc, cel := st'.cel, own := st'.own } := by
  obtain ⟨m, hm, hl, hq⟩ := R.loc
  obtain ⟨oL', es, ep, e', d, r⟩ := id hm
  rw [e] at e'; (first | exact none_some e' | exact some_none e' | (obtain rfl := Option.some.inj e') | cases e')
  obtain ⟨m', hm', _, _⟩ := R'.loc
  obtain ⟨oC, es', ep', eC, _⟩ := id hm'
  have hperm : (exc env ((env'.locals, oC) :: rs') ca p').Perm (exc env' ((env.locals, oL) :: rs') ca p') := by
    unfold exc
    rw [List.map_cons, List.map_cons]
    have h1 : ∀ z : Addr, (ca ++ (p' ++ z :: rs'.map (·.1))).Perm (z :: (ca ++ (p' ++ rs'.map (·.1)))) := fun z => List.Perm.trans (List.Perm.append_left ca List.perm_middle) List.perm_middle
    exact (List.Perm.cons _ (h1 _)).trans ((List.Perm.swap ..).trans (List.Perm.cons _ (h1 _).symm))
  refine ⟨m', oC, hm', { scope := R.scope, fn := R.fn, globals := R.globals, builtins := R.builtins, ext := R'.ext, good := R'.good, lnd := R.lnd, loc := ⟨m, ⟨oL, es, ep, R'.held _ (.head _), d, r⟩, hl, fun i z o e1 e2 => (hq i z o e1 e2).mono x y⟩, cal := R.cal, cel := R'.cel, cen := R.cen, own := R'.own, held := fun q hq => ?_, off := fun b hb => R'.off b (hperm.mem_iff.mp hb), nd := hperm.nodup_iff.mpr R'.nd }⟩
  rcases List.mem_cons.mp hq with rfl | hq
  · exact eC
  · exact R'.held q (.tail _ hq)
theorem freeze_one {B h : Heap} (X : Ext B h) {a : Addr} {o : Obj} (e : h.get? a = some o) :
    ∃ B', Ext B B' ∧ Ext B' h ∧ (∀ b o', B'.get? b = some o' → B.get? b = some o' ∨ b = a) ∧ B'.get? a = some o := by
  let l := (List.range h.objs.size).filter fun b => (B.get? b).isNone && b != a
  have e1 : Ext B (hideAll h l) := fun b o e => hideAll_get l (X b o e) fun m => by
    have := (List.mem_filter.mp m).2; rw [e] at this; (first | exact none_some this | exact some_none this | (obtain rfl := Option.some.inj this) | cases this)
  have ha : a ∉ l := fun m => by
    have := (List.mem_filter.mp m).2; simp at this
  refine ⟨hideAll h l, e1, fun b o e => of_hideAll l e, fun b o' e => ?_, hideAll_get l e ha⟩
  by_cases hb : b = a
  · exact .inr hb
  · left
    cases q : B.get? b with
    | none =>
      have : b ∈ l := List.mem_filter.mpr ⟨List.mem_range.mpr (Heap.lt_size (of_hideAll l e)), by rw [q]; simpa using hb⟩
      rw [hideAll_none l this] at e; (first | exact none_some e | exact some_none e | (obtain rfl := Option.some.inj e) | cases e)
    | some o'' => rw [← e, e1 b o'' q]

inductive Frz (D : Wd) (c : Cx) (env : Env) (B h : Heap) (rs : List (Addr × Obj)) (ca p : List Addr) (st : St) (a : Addr) (o : Obj) : Prop
  | mk (B' : Heap) : Ext B B' → (∀ b o', B'.get? b = some o' → B.get? b = some o' ∨ b = a) → B'.get? a = some o → Rep D c env B' h rs ca p st → Frz D c env B h rs ca p st a o
/-- a held object is frozen -/
theorem Rep.freeze {env : Env} {B h : Heap} {rs : List (Addr × Obj)} {ca p : List Addr} {a : Addr} {o : Obj} (R : Rep D c env B h ((a, o) :: rs) ca p st) : Frz D c env B h rs ca p st a o := by
  obtain ⟨B', e1, x, w, g⟩ := freeze_one R.ext (R.held _ (.head _))
  exact ⟨B', e1, w, g, R.drop.to e1 x (fun _ _ _ e => e) R.drop.held (fun b hb => by
    cases q : B'.get? b with
    | none => rfl
    | some o' => exact (w b o' q).elim (fun z => by rw [R.drop.off b hb] at z; (first | exact none_some z | exact some_none z | (obtain rfl := Option.some.inj z) | cases z)) fun z => absurd z (R.notHeld b hb)) R.drop.nd⟩
/-- append onto a held plain list -/
theorem append_held {A : Around} {s : Shared} {a : Addr} {vs : List Value} {k : Nat} {v : Value} {Q E : Value → Shared → Prop} (hl : s.heap.get? a = some (⟨.type "list", none, .seq vs.toArray k, #[]⟩ : Obj)) (hz : vs.length ≤ sizeLine)
    (h : ∀ h' k', Heap.SameBut a s.heap h' → h'.get? a = some (⟨.type "list", none, .seq (vs ++ [v]).toArray k', #[]⟩ : Obj) → Q .none { s with heap := h' }) : wpAny (model D.prog D.w) A (call (.builtin "list.append") [.ref a, v]) Q E s := by
  refine call_meets slot_list_append ⟨_, hl, rfl⟩ entry_list_append (args_list_append _ _) (PySem.list_append a vs.toArray k v (by rw [List.size_toArray]; exact hz)) ⟨hl, ?_⟩
  have e := PySem.IsL.update hl (fun x => x.push v)
  exact h _ _ (Heap.SameBut.update ..) (by simpa using e)
end
end Mine

open PySem PySem.W PyProof.Rows PySem.Calls
namespace Mine

/-- what a comprehension's scope must be -/
structure CompOK (c : Cx) (scope : Scope) (x : Str) : Prop where
  free : ∀ y ∈ scope.names, y.2 = .free → y.1 ∈ c.cn ∧ (c.scope.names.lookup y.1 = some .cell ∨ c.scope.names.lookup y.1 = some .free)
  cell : ∀ y ∈ scope.names, y.2 ≠ .cell
  kind : scope.kind = .function
  names : ∀ y ∈ scope.names, y.2 = .local → scope.names.lookup y.1 = some .local
  loc : scope.names.lookup x = some .local

def cxC (c : Cx) (scope : Scope) (x : Str) : Cx := { scope := relS scope c.scope, ln := [x], cn := c.cn }

theorem lookup_rel {sc : Scope} {x : Str} {l : List (Str × NameKind)} (hcell : ∀ y ∈ l, y.2 ≠ .cell)
    (h : (l.map fun (n, k) => if (k == NameKind.free && sc.kind == .function && sc.names.lookup n == some .cell) then (n, NameKind.cell) else (n, k)).lookup x = some .cell ∨
      (l.map fun (n, k) => if (k == NameKind.free && sc.kind == .function && sc.names.lookup n == some .cell) then (n, NameKind.cell) else (n, k)).lookup x = some .free) : (x, NameKind.free) ∈ l := by
  induction l with
  | nil => rcases h with h | h <;> simp at h
  | cons y r ih =>
    obtain ⟨z, k⟩ := y
    by_cases hz : x = z
    · subst hz
      have : k = .free := by
        cases k with
        | free => rfl
        | cell => exact absurd rfl (hcell (x, .cell) List.mem_cons_self)
        | _ => simp [List.lookup_cons] at h
      subst this; exact List.mem_cons_self
    · refine List.mem_cons_of_mem _ (ih (fun w hw => hcell w (List.mem_cons_of_mem _ hw)) ?_)
      rw [List.map_cons, List.lookup_cons] at h
      have hb : (x == z) = false := beq_eq_false_iff_ne.mpr hz
      split at h
      · rename_i q; split at q <;> (simp [hb] at q)
      · exact h

section
variable {D : Wd} {n : Nat} {c c' : Cx} {st st1 st2 st3 : St}
open PySem.Sem (wp)
/-- the frame of a comprehension, its name's value -/
abbrev stC (st : St) (o : Option V) : St := { loc := [o], cel := st.cel, own := st.own }
theorem sto_comp {scope : Scope} {x : Str} (hok : CompOK c scope x) (o : Option V) (W : V) : Sto D n (cxC c scope x) (stC st o) x W (stC st (some W)) := by
  refine Sto.loc 0 rfl ?_ rfl
  have h := hok.loc
  show ((scope.names.map fun (n, k) => if (k == NameKind.free && c.scope.kind == .function && c.scope.names.lookup n == some .cell) then (n, NameKind.cell) else (n, k))).lookup x = some .local
  clear hok
  generalize scope.names = l at h
  induction l with
  | nil => simp at h
  | cons y r ih =>
    obtain ⟨z, k⟩ := y
    rw [List.lookup_cons] at h
    rw [List.map_cons]
    cases hb : x == z with
    | true =>
      rw [hb] at h
      (first | exact none_some h | exact some_none h | (obtain rfl := Option.some.inj h) | cases h)
      simp [List.lookup_cons, hb]
    | false =>
      rw [hb] at h
      have := ih h
      by_cases hc : (k == NameKind.free && c.scope.kind == .function && c.scope.names.lookup z == some .cell) = true
      · simp only [hc, if_true, List.lookup_cons, hb]; exact this
      · simp only [if_neg hc, List.lookup_cons, hb]; exact this
/-- what a comprehension holds between its turns: the turn, what is told so far, what else is held -/
abbrev CI := Nat → List V → List (Addr × Obj) → Heap → Prop
/-- a turn of a comprehension: the item is stored and tested; its element is told, or none -/
def TurnOk (D : Wd) (n : Nat) (cx : Cx) (st1 : St) (code : Value) (qual : Str) (x : Str) (px : Pos) (elt : Expr) (ifs : List Expr) (Iv : CI) (i : Nat) (W : V) : Prop :=
  ∀ (A : Around) (env : Env) (B : Heap) (s : Shared) (F rs : List (Addr × Obj)) (ca p : List Addr) (v : Value) (U1 : List V) (ov : Option V) (Qe : Value → Shared → Prop) (Qn : Shared → Prop) (E : Value → Shared → Prop),
    Room n A → env.code = code → env.qual = qual → Iv i U1 rs B → Rep D cx env B s.heap (F ++ rs) ca p (stC st1 ov) → VR B p v W →
    (∀ B1 p1 s1 rs1, Nx s s1 B B1 p p1 → Rep D cx env B1 s1.heap (F ++ rs1) ca p1 (stC st1 (some W)) → Iv (i + 1) U1 rs1 B1 → Qn s1) →
    (∀ B1 p1 s1 rs1 u U, Nx s s1 B B1 p p1 → Rep D cx env B1 s1.heap (F ++ rs1) ca p1 (stC st1 (some W)) → U.isMut = false → VR B1 p1 u U → Iv (i + 1) (U1 ++ [U]) rs1 B1 → Qe u s1) →
    wpAny (model D.prog D.w) A (PySem.assign (.Name x px) env v) (fun _ s₂ => wpAny (model D.prog D.w) A (forIn ifs true fun c r => if r = true then do let ok ← isTrue c env (eval c env); pure (ForInStep.yield ok) else pure (ForInStep.yield r)) (fun ok s₃ =>
      if ok = true then wpAny (model D.prog D.w) A (eval elt env) Qe E s₃ else Qn s₃) E s₂) E s
inductive LInv (D : Wd) (cx : Cx) (st1 : St) (Iv : CI) (N : Nat) (s : Shared) (B B1 : Heap) (p p1 ca : List Addr) (I a : Addr) (Lo : Addr × Obj) (cenv : Env) (Sx : Nat → Heap → Prop) (k : Nat) (s2 : Shared) : Prop
  | mk (i : Nat) (o : Obj) (B' : Heap) (p' : List Addr) (ov : Option V) (U : List V) (vs : List Value) (kk : Nat) (rs : List (Addr × Obj)) : k + i = N → Iv i U rs B' → Nx s s2 B B' p p' → Ext B1 B' → Pre p1 p' → Sx i s2.heap → VFs B' vs U →
      Rep D cx cenv B' s2.heap ((I, o) :: (a, ⟨.type "list", none, .seq vs.toArray kk, #[]⟩) :: Lo :: rs) ca p' (stC st1 ov) → LInv D cx st1 Iv N s B B1 p p1 ca I a Lo cenv Sx k s2
theorem comp_loop {cx : Cx} {elt iter : Expr} {x : Str} {px : Pos} {ifs : List Expr} {scope : Scope} {pos : Pos} {items : List V} {code : Value} {qual : Str} {Iv : CI} (hmono : ∀ i U rs B B', Ext B B' → Iv i U rs B → Iv i U rs B') (hz : ∀ i U rs B, Iv i U rs B → U.length ≤ sizeLine)
    {A : Around} {cenv : Env} {I a : Addr} {fp : List Addr} {Sx : Nat → Heap → Prop} {Lo : Addr × Obj} {s s₃ : Shared} {B B1 : Heap} {p p1 ca : List Addr} {R : Result → Shared → Prop} (hA : Room n A) (hcode : cenv.code = code) (hqual : cenv.qual = qual)
    (W : Walks D.prog D.w A I fp [I] items.length (fun i v => ∃ W, items[i]? = some W ∧ VF B1 v W) Sx) (al : ∀ i h, Sx i h → ∃ o, h.get? I = some o) (hfp : ∀ b ∈ fp, b ≠ I → ∃ o, B1.get? b = some o)
    (turn : ∀ i W, items[i]? = some W → TurnOk D n cx st1 code qual x px elt ifs Iv i W)
    (hend : ∀ U rs' B' p' ov vs kk s', Iv items.length U rs' B' → Nx s s' B B' p p' → Ext B1 B' → Pre p1 p' → VFs B' vs U → Rep D cx cenv B' s'.heap ((a, ⟨.type "list", none, .seq vs.toArray kk, #[]⟩) :: Lo :: rs') ca p' (stC st1 ov) → R (.ok .next) s')
    (h0 : LInv D cx st1 Iv items.length s B B1 p p1 ca I a Lo cenv Sx items.length s₃) : codeAny (model D.prog D.w) A (.compLoop (.ListComp elt [⟨.Name x px, iter, ifs, 0⟩] scope pos) 0 (.ref I) (.ref a) cenv) R s₃ := by
  refine codeAny_compLoop_tests (LInv D cx st1 Iv items.length s B B1 p p1 ca I a Lo cenv Sx) (fun k s2 hk => ?_) items.length h0
  obtain ⟨i, o2, B2, p2, ov, U, vs, kk, rs, hk, hI, n2, e2, y2, hst, hvs, R2⟩ := hk
  cases k with
  | zero =>
    have hi : i = items.length := by omega
    subst hi
    refine with_size (W.done s2 _ _ hst fun h' tk hkeep hsz => ?_)
    obtain ⟨B3, e3, w3, R3⟩ := R2.moveD (h' := h') fun b ob hb q => hkeep b ob (fun hm => hb (List.mem_singleton.mp hm)) q
    exact hend U rs B3 p2 ov vs kk _ (hmono _ _ _ _ _ e3 hI) (n2.trans ⟨e3, w3, hsz, .refl _, rfl, rfl, .refl _, fun _ h => .inl h⟩) (e2.trans e3) y2 (hvs.ext e3) R3
  | succ k =>
    have hlt : i < items.length := by omega
    refine with_size (W.item i s2 _ _ hlt hst fun v h' tk hP hst' hkeep hsz => ?_)
    obtain ⟨W', hW', hv⟩ := hP
    obtain ⟨o3, ho3⟩ := al _ _ hst'
    obtain ⟨B3, e3, w3, g3, R3⟩ := R2.move (h' := h') (fun b ob hb q => hkeep b ob (fun hm => hb (List.mem_singleton.mp hm)) q) ho3
    have n3 : Nx s { s2 with heap := h', toks := tk } B B3 p p2 := n2.trans ⟨e3, w3, hsz, .refl _, rfl, rfl, .refl _, fun _ h => .inl h⟩
    have e23 := e2.trans e3
    have stay : ∀ {B' : Heap} {h2 : Heap} {p' : List Addr} {rs' : List (Addr × Obj)} {st'' : Mine.St}, Ext B3 B' → Rep D cx cenv B' h2 ((I, o3) :: rs') ca p' st'' → Sx (i + 1) h2 := fun x R' => W.frame _ _ _ hst' fun b hb ob q => by
      by_cases hbI : b = I
      · subst hbI
        have := R'.held _ (.head _)
        rw [ho3] at q; (first | exact none_some q | exact some_none q | (obtain rfl := Option.some.inj q) | cases q); exact this
      · obtain ⟨ob', q'⟩ := hfp b hb hbI
        have q3 := e23 b ob' q'
        have := R3.ext b ob' q3
        rw [this] at q; (first | exact none_some q | exact some_none q | (obtain rfl := Option.some.inj q) | cases q)
        exact R'.ext b _ (x b _ q3)
    have hv3 : VF B3 v W' := hv.ext e23
    have hI3 := hmono _ _ _ _ _ e3 hI
    have hvs3 := hvs.ext e3
    skip
    refine turn i W' hW' A cenv B3 _ [(I, o3), (a, _), Lo] rs ca p2 v U ov _ _ _ hA hcode hqual hI3 R3 (.of hv3) (fun B5 p5 s5 rs5 n5 R5 hI5 => ?_) (fun B5 p5 s5 rs5 u U' n5 R5 hm q5 hI5 => ?_)
    · exact ⟨k, Nat.lt_succ_self _, .mk (i + 1) o3 B5 p5 _ U vs kk rs5 (by omega) hI5 (n3.trans n5) (e23.trans n5.ext) (y2.trans n5.pre) (stay n5.ext R5) (hvs3.ext n5.ext) R5⟩
    · refine append_held (R5.held _ (.tail _ (.head _))) (by rw [hvs.length]; exact hz _ _ _ _ hI3) fun h6 k6 hs6 e6 => ?_
      have R6 := ((Rep.perm (rs' := (a, _) :: (I, o3) :: Lo :: rs5) R5 (List.Perm.swap ..)).rehold hs6 e6).perm (List.Perm.swap ..)
      exact ⟨k, Nat.lt_succ_self _, .mk (i + 1) o3 B5 p5 _ (U ++ [U']) (vs ++ [u]) k6 rs5 (by omega) hI5 ((n3.trans n5).trans ⟨.refl _, fun _ _ e => .inl e, Nat.le_of_eq hs6.1.symm, .refl _, rfl, rfl, .refl _, fun _ h => .inl h⟩) (e23.trans n5.ext) (y2.trans n5.pre) (stay n5.ext R6) ((hvs3.ext n5.ext).append (.cons (q5.fz hm) .nil)) R6⟩
theorem comp_gen {elt iter : Expr} {x : Str} {px ps : Pos} {ifs : List Expr} {scope : Scope} {pos : Pos} {items : List V} {use : Option (Value → Sem Unit)} {Iv : CI} (hmono : ∀ i U rs B B', Ext B B' → Iv i U rs B → Iv i U rs B') (hz : ∀ i U rs B, Iv i U rs B → U.length ≤ sizeLine)
    (hi : Ie D n c st iter items st1) (hok : CompOK c scope x) (hs : ∀ (env : Env) x, foldedSetIterable iter env x = pure x)
    {A : Around} {env : Env} {B : Heap} {s : Shared} {rs : List (Addr × Obj)} {ca p : List Addr} {Q : Value → Shared → Prop} {E : Value → Shared → Prop} (turn : ∀ i W, items[i]? = some W → TurnOk D n (cxC c scope x) st1 env.code env.qual x px elt ifs Iv i W) (h00 : Iv 0 [] rs B) (hA : Room n A) (R : Rep D c env B s.heap rs ca p st)
    (H : ∀ (a C : Addr) (vs : List Value) (k : Nat) (oC : Obj) (m : Str → Option Value) B' p' s' rs' U, Iv items.length U rs' B' → Nx s s' B B' p p' → Rep D c env B' s'.heap ((C, oC) :: (a, ⟨.type "list", none, .seq vs.toArray k, #[]⟩) :: rs') ca p' st1 →
      VFs B' vs U → s'.heap.Ns C m → s.heap.objs.size ≤ a → compPost (model D.prog D.w) A E use Q (.ref a) C (.ok .next) s') :
    wpAny (model D.prog D.w) A (comprehension (.ListComp elt [⟨.Name x px, iter, ifs, 0⟩] scope pos) scope env ps (newList []) false (eval iter env) use) Q E s := by
  have hfree : ∀ y, (y, NameKind.free) ∈ scope.names → env.cells.lookup y = some ((env.cells.lookup y).getD 0) := fun y hy => by
    obtain ⟨h1, h2⟩ := hok.free _ hy rfl
    obtain ⟨i, hi⟩ := List.getElem?_of_mem h1
    have hlt : i < ca.length := by rw [R.cal]; exact (List.getElem?_eq_some_iff.mp hi).1
    rw [R.cen i y ca[i] hi (List.getElem?_eq_getElem hlt) h2]; rfl
  have hclos := closureFor_eq (f := fun y => (env.cells.lookup y).getD 0) hfree
  have hcen : ∀ (i : Nat) (y : Str) (a : Addr), c.cn[i]? = some y → ca[i]? = some a → ((relS scope c.scope).names.lookup y = some .cell ∨ (relS scope c.scope).names.lookup y = some .free) → (closL (fun y => (env.cells.lookup y).getD 0) scope.names []).lookup y = some a := fun i y a hy ha hk => by
    have hm := lookup_rel hok.cell hk
    obtain ⟨h1, h2⟩ := hok.free _ hm rfl
    have := R.cen i y a hy ha h2
    rw [lookup_of_all (closL_all _ scope.names [] (fun y hy => (nomatch hy))) ⟨_, closL_mem _ _ _ _ hm⟩, this]
    rfl
  have hrel : relabel scope env = relS scope c.scope := by unfold relabel relS Env.kindOf; rw [R.scope]
  refine wpAny_comprehension_free rfl (hs env) hclos hok.kind hok.names (hi A env B s rs ca p _ E hA R fun I fp Sx o B1 p1 s1 n1 W al hfp h0 R1 => ?_)
  refine wpAny_newObj_type (wpAny_newFunctionEnv hok.cell (by intro y hy; simp at hy) (fun h₁ hns₁ hsb₁ => ?_) hok.kind)
  dsimp only at hns₁ hsb₁ ⊢
  have R2 := R1.hold (h' := s1.heap.push ⟨.type "list", none, .seq ([] : List Value).toArray 0, #[]⟩) (Ext.push _ _) (Nat.le_refl _) (Heap.get?_push_size _ rfl)
  have e2 := @Ext.push s1.heap ⟨.type "list", none, .seq ([] : List Value).toArray 0, #[]⟩
  have hsz0 := Heap.size_push s1.heap ⟨.type "list", none, .seq ([] : List Value).toArray 0, #[]⟩
  generalize s1.heap.push ⟨.type "list", none, .seq ([] : List Value).toArray 0, #[]⟩ = H2 at hns₁ hsb₁ R2 e2 hsz0 ⊢
  have x1 : Ext H2 h₁ := fun b o e => hsb₁.extBut b o (Nat.ne_of_lt (Heap.lt_size e)) (Heap.get?_push_of_some _ e)
  have hsz1 : s1.heap.objs.size ≤ h₁.objs.size := by rw [hsb₁.1, Heap.size_push, hsz0]; omega
  obtain ⟨oL, eL, R3⟩ := R2.enter (c' := cxC c scope x) (env' := compEnvC scope (closL (fun y => (env.cells.lookup y).getD 0) scope.names []) H2.objs.size env) x1 (Nat.le_refl _) hns₁ (fun y => rfl) rfl hrel R.globals R.builtins hok.kind rfl (show [x].Nodup by simp) hcen
  have R4 := R3.perm (rs' := (I, o) :: (s1.heap.objs.size, ⟨.type "list", none, .seq ([] : List Value).toArray 0, #[]⟩) :: (env.locals, oL) :: rs) (((List.Perm.cons _ (List.Perm.swap ..)).trans (List.Perm.swap ..)).trans (List.Perm.cons _ (List.Perm.swap ..)))
  have hst₁ : Sx 0 h₁ := W.frame _ _ _ h0 fun b hb ob q => x1 _ _ (e2 _ _ q)
  have eL1 : s1.heap.get? env.locals = some oL := by
    obtain ⟨m, ⟨o', es, ep, q, _⟩, _⟩ := R1.loc
    rw [q, ← e2 _ _ q, eL]
  have key : ∀ s₃ : Shared, s₃ = { s1 with heap := h₁, toks := s1.toks + ([] : List (Str × Value)).length } →
      codeAny (model D.prog D.w) A (.compLoop (.ListComp elt [⟨.Name x px, iter, ifs, 0⟩] scope pos) 0 (.ref I) (.ref s1.heap.objs.size) (compEnvC scope (closL (fun y => (env.cells.lookup y).getD 0) scope.names []) H2.objs.size env))
        (compPost (model D.prog D.w) A E use Q (.ref s1.heap.objs.size) H2.objs.size) s₃ := by
    rintro s₃ rfl
    refine comp_loop hmono hz hA rfl rfl W al hfp turn (fun U rs' B' p' ov vs kk s' hI n' e' y' hv R' => ?_) (.mk 0 o B1 p1 none [] [] 0 rs (Nat.add_zero _) (hmono _ _ _ _ _ n1.ext h00) (n1.trans ⟨.refl _, fun _ _ e => .inl e, hsz1, .refl _, rfl, rfl, .refl _, fun _ h => .inl h⟩) (.refl _) (.refl _) hst₁ .nil R4)
    obtain ⟨m, oC, hm, R5⟩ := Rep.back R1 (R'.perm (List.Perm.swap ..)) eL1 e' y' rfl
    exact H _ _ vs kk oC m B' p' s' rs' U hI n' R5 hv hm n1.size
  exact codeAny_compStart_list (key _ rfl) (W.self 0 _ _ _ hst₁ (key _ rfl))
/-- a comprehension, as a value -/
theorem compG {elt iter : Expr} {x : Str} {px : Pos} {ifs : List Expr} {scope : Scope} {pos : Pos} {items : List V} {Iv : CI} (hmono : ∀ i U rs B B', Ext B B' → Iv i U rs B → Iv i U rs B') (hz : ∀ i U rs B, Iv i U rs B → U.length ≤ sizeLine)
    (hi : Ie D n c st iter items st1) (hok : CompOK c scope x) (hs : ∀ (env : Env) x, foldedSetIterable iter env x = pure x)
    {A : Around} {env : Env} {B : Heap} {s : Shared} {rs : List (Addr × Obj)} {ca p : List Addr} {Q : Value → Shared → Prop} {E : Value → Shared → Prop} (turn : ∀ i W, items[i]? = some W → TurnOk D n (cxC c scope x) st1 env.code env.qual x px elt ifs Iv i W) (h00 : Iv 0 [] rs B) (hA : Room n A) (R : Rep D c env B s.heap rs ca p st)
    (H : ∀ v B' p' s' rs' U, Iv items.length U rs' B' → Nx s s' B B' p p' → Rep D c env B' s'.heap rs' ca p' st1 → VR B' p' v (.list U) → Q v s') : wpAny (model D.prog D.w) A (eval (.ListComp elt [⟨.Name x px, iter, ifs, 0⟩] scope pos) env) Q E s := by
  rw [eval_ListComp]
  refine comp_gen (use := Option.none) hmono hz hi hok hs turn h00 hA R fun a C vs k oC m B' p' s' rs' U hI n' R' hvs hm ha => ⟨m, hm, fun h' hs' => ?_⟩
  obtain ⟨B2, e2, w2, g2, R2⟩ := (R'.letGo hs').freeze
  exact H _ B2 p' _ rs' U (hmono _ _ _ _ _ e2 hI) ⟨n'.ext.trans e2, fun b o e => (w2 b o e).elim (n'.new b o) fun z => .inr (z ▸ ha), Nat.le_trans n'.size (Nat.le_of_eq hs'.1.symm), n'.pre, n'.drawn, n'.os, n'.gens, n'.own⟩ R2 (.of (.list ⟨k, g2⟩ (hvs.ext e2)))
/-- the same, for a local of the same line: it is stored ere the comprehension's names go -/
theorem compGS (i : Nat) {elt iter : Expr} {x y : Str} {px py : Pos} {ifs : List Expr} {scope : Scope} {pos spos : Pos} {items : List V} {Iv : CI} (hmono : ∀ i U rs B B', Ext B B' → Iv i U rs B → Iv i U rs B') (hz : ∀ i U rs B, Iv i U rs B → U.length ≤ sizeLine)
    (hy : c.ln[i]? = some y) (hyl : c.scope.names.lookup y = some .local) (hi : Ie D n c st iter items st1) (hok : CompOK c scope x) (hs : ∀ (env : Env) x, foldedSetIterable iter env x = pure x)
    (hsw : ∀ env : Env, env.scope = c.scope → swapsWith (.ListComp elt [⟨.Name x px, iter, ifs, 0⟩] scope pos) (some (.Name y py)) spos.line env = pure true)
    {A : Around} {env : Env} {B : Heap} {s : Shared} {rs : List (Addr × Obj)} {ca p : List Addr} {Q : Flow → Shared → Prop} {E : Value → Shared → Prop} (turn : ∀ i W, items[i]? = some W → TurnOk D n (cxC c scope x) st1 env.code env.qual x px elt ifs Iv i W) (h00 : Iv 0 [] rs B) (hA : Room n A) (R : Rep D c env B s.heap rs ca p st)
    (H : ∀ B' p' s' rs' U, Iv items.length U rs' B' → Nx s s' B B' p p' → Rep D c env B' s'.heap rs' ca p' { st1 with loc := st1.loc.set i (some (.list U)) } → Q .next s') : wpAny (model D.prog D.w) A (exec (.Assign [.Name y py] (.ListComp elt [⟨.Name x px, iter, ifs, 0⟩] scope pos) spos) env) Q E s := by
  rw [exec_Assign_Name_used _ _ _ _ (hsw env R.scope)]
  refine wpAny_bind (wpAny_standAt (wpAny_bind ?_))
  show wpAny _ A (do let _ ← comprehension (.ListComp elt [⟨.Name x px, iter, ifs, 0⟩] scope pos) scope env _ (newList []) false (eval iter env) (some (PySem.assign (Expr.Name y py) env))) _ _ s
  refine wpAny_bind (wpAny_mono (comp_gen (Q := fun _ s' => Q .next s') (E := E) hmono hz hi hok hs turn h00 hA R fun a C vs k oC m B' p' s' rs' U hI n' R' hvs hm ha => ?_) (fun _ s' hq => wpAny_pure (wpAny_pure hq)) fun _ _ e => e)
  show wpAny _ A (PySem.assign (Expr.Name y py) env (.ref a)) (fun _ s'' => ∃ m, s''.heap.Ns C m ∧ ∀ h', Heap.SameBut C s''.heap h' → Q .next { s'' with heap := h' }) E s'
  obtain ⟨B2, e2, w2, g2, R2⟩ := (R'.perm (List.Perm.swap ..)).freeze
  refine wpAny_assign_Name (sto_loc hy hyl R2 (.of (.list ⟨k, g2⟩ (hvs.ext e2))) fun s4 n4 R4 => ?_)
  obtain ⟨o0, es, ep, q1, q2, q3⟩ := hm
  have h1 := R2.held _ (.head _)
  rw [q1] at h1; (first | exact none_some h1 | exact some_none h1 | (obtain rfl := Option.some.inj h1) | cases h1)
  refine ⟨m, ⟨_, es, ep, R4.held _ (.head _), q2, q3⟩, fun h' hs' => ?_⟩
  exact H B2 p' _ rs' U (hmono _ _ _ _ _ e2 hI) ⟨n'.ext.trans (e2.trans n4.ext), fun b o e => (n4.new b o e).elim (fun e => (w2 b o e).elim (n'.new b o) fun z => .inr (z ▸ ha)) fun z => .inr (Nat.le_trans n'.size z), Nat.le_trans (Nat.le_trans n'.size n4.size) (Nat.le_of_eq hs'.1.symm), n'.pre, n4.drawn.trans n'.drawn, n4.os.trans n'.os, n'.gens.trans n4.gens, n'.own⟩ (R4.letGo hs')
end
end Mine

open PySem PySem.W PyProof.Rows PySem.Calls
namespace Mine

theorem walks_weak {prog : Program} {w : World} {A : Around} {I : Addr} {fp wr : List Addr} {n m : Nat} {P P' : Nat → Value → Prop} {St : Nat → Heap → Prop} (W : Walks prog w A I fp wr n P St) (e : n = m) (h : ∀ i v, i < n → P i v → P' i v) :
    Walks prog w A I fp wr m P' St := by
  subst e
  exact { sub := W.sub, frame := W.frame, item := fun i s Q E hi st hQ => W.item i s Q E hi st fun v h' tk hP => hQ v h' tk (h i v hi hP), done := W.done, self := W.self }

section
variable {D : Wd} {n : Nat} {c : Cx} {st st1 st2 st3 : St}

theorem Ie.list {e : Expr} {Ws : List V} (h : Ex D n c st e (.list Ws) st1) : Ie D n c st e Ws st1 := fun A env B s rs ca p Q E hA R H =>
  h A env B s rs ca p _ E hA R fun v B1 p1 s1 n1 R1 q1 => by
    cases (show VF B1 v (.list Ws) from q1) with
    | list hl hvs =>
      rename_i a vs
      have hl' := isList_ext R1.ext hl
      have ha : a < s1.heap.objs.size := Heap.lt_size (show s1.heap.get? a = _ from hl'.choose_spec)
      refine wpAny_pyIter_list hl'.is ?_
      have R2 := R1.hold (h' := s1.heap.push { cls := .type "list_iterator", data := .fields #[.ref a, .int 0 0] }) (Ext.push _ _) (Nat.le_refl _) (Heap.get?_push_size _ rfl)
      refine H s1.heap.objs.size [s1.heap.objs.size, a] _ _ B1 p1 _ (n1.trans ⟨.refl _, fun _ _ e => .inl e, by show _ ≤ (s1.heap.push _).objs.size; rw [Heap.size_push]; exact Nat.le_succ _, .refl _, rfl, rfl, .refl _, fun _ h => .inl h⟩)
        (walks_weak (Walks.list hA.handled s1.heap.objs.size a (Nat.ne_of_lt ha) vs.toArray) (by rw [List.size_toArray]; exact hvs.length) fun i v hlt' hv => ?_) (fun i h hst => ?_) (fun b hb hbI => ?_) ?_ R2
      · have hv' : vs[i]? = some v := by simpa using hv
        have hlt : i < Ws.length := by rw [← hvs.length]; exact (List.getElem?_eq_some_iff.mp hv').1
        obtain ⟨u, hu, q⟩ := hvs.get (List.getElem?_eq_getElem hlt)
        rw [hv'] at hu; (first | exact none_some hu | exact some_none hu | (obtain rfl := Option.some.inj hu) | cases hu)
        exact ⟨_, List.getElem?_eq_getElem hlt, q⟩
      · obtain ⟨⟨o, ho, _⟩, _⟩ := hst; exact ⟨o, ho⟩
      · rcases List.mem_cons.mp hb with rfl | hb
        · exact absurd rfl hbI
        · rw [List.mem_singleton] at hb; subst hb; exact ⟨_, hl.choose_spec⟩
      · exact ⟨⟨_, Heap.get?_push_size _ rfl, rfl, rfl⟩, LstAt.is (isList_ext (Ext.push _ _) hl')⟩

theorem Ie.str {e : Expr} {x : Str} (h : Ex D n c st e (.str x) st1) : Ie D n c st e (x.cps.toList.map fun k => .str ⟨#[k]⟩) st1 := fun A env B s rs ca p Q E hA R H =>
  h A env B s rs ca p _ E hA R fun v B1 p1 s1 n1 R1 q1 => by
    cases (show VF B1 v (.str x) from q1) with
    | str _ t =>
      have fin : ∀ (o : Obj) (St : Nat → Heap → Prop), o.isFreed = false → (∀ i h, St i h → ∃ o, h.get? s1.heap.objs.size = some o) → Walks D.prog D.w A s1.heap.objs.size [s1.heap.objs.size] [s1.heap.objs.size] x.cps.size (SignAt x) St → St 0 (s1.heap.push o) →
          Q (.ref s1.heap.objs.size) { s1 with heap := s1.heap.push o } := fun o St hf al W h0 => by
        have R2 := R1.hold (h' := s1.heap.push o) (Ext.push _ _) (Nat.le_refl _) (Heap.get?_push_size _ hf)
        refine H s1.heap.objs.size [s1.heap.objs.size] St _ B1 p1 _ (n1.trans ⟨.refl _, fun _ _ e => .inl e, by show _ ≤ (s1.heap.push _).objs.size; rw [Heap.size_push]; exact Nat.le_succ _, .refl _, rfl, rfl, .refl _, fun _ h => .inl h⟩)
          (walks_weak W (by first | rfl | decide | simp) fun i v hlt' hv => ?_) al (fun b hb hbI => absurd (List.mem_singleton.mp hb) hbI) h0 R2
        obtain ⟨k, u, hk, rfl⟩ := hv
        exact ⟨.str ⟨#[k]⟩, by simp [hk], .str _ _⟩
      cases ha : x.cps.all (· < 128)
      · refine wpAny_pyIter_wide ha (fin _ _ rfl (fun i h hst => ?_) (Walks.strWide hA.handled _ x t) ⟨_, Heap.get?_push_size _ rfl, rfl, rfl⟩)
        obtain ⟨o, ho, _⟩ := hst; exact ⟨o, ho⟩
      · refine wpAny_pyIter_ascii ha (fin _ _ rfl (fun i h hst => ?_) (Walks.strAscii hA.handled _ x t) ⟨_, Heap.get?_push_size _ rfl, rfl, rfl⟩)
        obtain ⟨o, ho, _⟩ := hst; exact ⟨o, ho⟩

/-- what comes out of a step that only adds -/
theorem Post.grow {env : Env} {s : Shared} {B : Heap} {rs : List (Addr × Obj)} {ca p : List Addr} {W : V} {Q : Value → Shared → Prop} (H : Post D c env s B rs ca p W st Q) (R : Rep D c env B s.heap rs ca p st) {h' : Heap} {tk : Nat} {v : Value}
    (x : Ext s.heap h') (hsz : s.heap.objs.size ≤ h'.objs.size) (q : ∀ B', Ext B B' → (∀ b o, s.heap.objs.size ≤ b → h'.get? b = some o → B'.get? b = some o) → VR B' p v W) : Q v { s with heap := h', toks := tk } := by
  obtain ⟨B', e, w, g, R'⟩ := R.grow x
  exact H v B' p _ ⟨e, w, hsz, .refl _, rfl, rfl, .refl _, fun _ h => .inl h⟩ R' (q B' e g)

/-- an operation on values in a row -/
def Tn (D : Wd) (n : Nat) (c : Cx) (st : St) (Ws : List V) (t : List Value → Sem Value) (W : V) (st' : St) : Prop :=
  ∀ (A : Around) (env : Env) (B : Heap) (s : Shared) (rs : List (Addr × Obj)) (ca p : List Addr) (Q : Value → Shared → Prop) (E : Value → Shared → Prop) (vs : List Value),
    Room n A → Rep D c env B s.heap rs ca p st → VRs B p vs Ws → Post D c env s B rs ca p W st' Q → wpAny (model D.prog D.w) A (t vs) Q E s

theorem Ex.callB {func e : Expr} {rest : List Expr} {pos : Pos} {id : String} {Ws : List V} {W : V} (hf : Ex D n c st func (.raw (.builtin id)) st1) (ha : Es D n c st1 (e :: rest) Ws st2) (ho : Tn D n c st2 Ws (fun vs => call (.builtin id) vs) W st3)
    (hc : ∀ env : Env, eval (.Call func (e :: rest) [] pos) env = (do callWith pos (← eval func env) [] (backTo pos (starEach (e :: rest) env)) (backToKw pos (keywordEach [] env))) := by intros; rfl)
    (he : ∀ env : Env, starEach (e :: rest) env = (false, eval e env) :: starEach rest env := by intros; rfl)
    (hp : ∀ env : Env, (backTo pos (starEach rest env)).any (·.1) = false := by intros; rfl) : Ex D n c st (.Call func (e :: rest) [] pos) W st3 := fun A env B s rs ca p Q E hA R H => by
  refine Call_ (hf A env B s rs ca p _ E hA R fun v B1 p1 s1 n1 R1 q1 => ?_) (hc env)
  cases (show VF B1 v (.raw (.builtin id)) from q1)
  exact PyProof.Rows.callWith_builtin1 (ha A env B1 s1 rs ca p1 _ E pos hA R1 fun vs B2 p2 s2 n2 R2 q2 => ho A env B2 s2 rs ca p2 Q E vs hA R2 q2 (H.mono (n1.trans n2))) (he env) (hp env)
theorem Ex.callT {func e : Expr} {rest : List Expr} {pos : Pos} {T : String} {Ws : List V} {W : V} (hf : Ex D n c st func (.raw (.type T)) st1) (ha : Es D n c st1 (e :: rest) Ws st2) (ho : Tn D n c st2 Ws (fun vs => call (.type T) vs) W st3)
    (hc : ∀ env : Env, eval (.Call func (e :: rest) [] pos) env = (do callWith pos (← eval func env) [] (backTo pos (starEach (e :: rest) env)) (backToKw pos (keywordEach [] env))) := by intros; rfl)
    (he : ∀ env : Env, starEach (e :: rest) env = (false, eval e env) :: starEach rest env := by intros; rfl)
    (hp : ∀ env : Env, (backTo pos (starEach rest env)).any (·.1) = false := by intros; rfl) : Ex D n c st (.Call func (e :: rest) [] pos) W st3 := fun A env B s rs ca p Q E hA R H => by
  refine Call_ (hf A env B s rs ca p _ E hA R fun v B1 p1 s1 n1 R1 q1 => ?_) (hc env)
  cases (show VF B1 v (.raw (.type T)) from q1)
  exact PyProof.Rows.callWith_type1 (ha A env B1 s1 rs ca p1 _ E pos hA R1 fun vs B2 p2 s2 n2 R2 q2 => ho A env B2 s2 rs ca p2 Q E vs hA R2 q2 (H.mono (n1.trans n2))) (he env) (hp env)

/-- what a function does with frozen values, whoever calls -/
def CallSpec (D : Wd) (m : Nat) (f : Value) (Ws : List V) (res : V) : Prop :=
  ∀ (A : Around) (B : Heap) (s : Shared) (vs : List Value) (Q : Value → Shared → Prop) (E : Value → Shared → Prop), Room m A → Good D B → Ext B s.heap → VFs B vs Ws →
    (∀ v B' s', Nx s s' B B' [] [] → Ext B' s'.heap → Ext s.heap s'.heap → VF B' v res → Q v s') → wpAny (model D.prog D.w) A (call f vs) Q E s

theorem CallSpec.tn {f : Value} {Ws : List V} {res : V} (h : CallSpec D n f Ws res) (hm : Ws.all (fun W => !W.isMut) = true) : Tn D n c st Ws (fun vs => call f vs) res st := fun A env B s rs ca p Q E vs hA R q H => by
  refine h A B s vs Q E hA R.good R.ext (q.fz hm) fun v B' s' n' x' x q' => ?_
  obtain ⟨B2, e2, w2, g2, R2⟩ := R.grow x
  have x2 : Ext B' B2 := fun b o e => (n'.new b o e).elim (fun e' => e2 b o e') fun hb => g2 b o hb (x' b o e)
  exact H v B2 p s' ⟨e2, w2, n'.size, .refl _, n'.drawn, n'.os, n'.gens, fun _ h => .inl h⟩ R2 (.of (q'.ext x2))

theorem Ex.callK {func e : Expr} {rest : List Expr} {pos : Pos} {f : Value} {Ws : List V} {W : V} (hf : Ex D n c st func (.raw f) st1) (ha : Es D n c st1 (e :: rest) Ws st2) (ho : Tn D n c st2 Ws (fun vs => call f vs) W st3) (hk : keepIn D.K f = true)
    (hc : ∀ env : Env, eval (.Call func (e :: rest) [] pos) env = (do callWith pos (← eval func env) [] (backTo pos (starEach (e :: rest) env)) (backToKw pos (keywordEach [] env))) := by intros; rfl)
    (he : ∀ env : Env, starEach (e :: rest) env = (false, eval e env) :: starEach rest env := by intros; rfl)
    (hp : ∀ env : Env, (backTo pos (starEach rest env)).any (·.1) = false := by intros; rfl) : Ex D n c st (.Call func (e :: rest) [] pos) W st3 := fun A env B s rs ca p Q E hA R H => by
  refine Call_ (hf A env B s rs ca p _ E hA R fun v B1 p1 s1 n1 R1 q1 => ?_) (hc env)
  cases (show VF B1 v (.raw f) from q1)
  exact callWith_K R1.good.k hk (ha A env B1 s1 rs ca p1 _ E pos hA R1 fun vs B2 p2 s2 n2 R2 q2 => ⟨R2.kh, ho A env B2 s2 rs ca p2 Q E vs hA R2 q2 (H.mono (n1.trans n2))⟩) (he env) (hp env)
end

/-- a name's place -/
def pos? : List Str → Str → Option Nat
  | [], _ => none
  | y :: r, x => if x = y then some 0 else (pos? r x).map (· + 1)
theorem pos?_none : ∀ {l : List Str} {x : Str}, x ∉ l → pos? l x = none
  | [], _, _ => rfl
  | y :: r, x, h => by
    unfold pos?
    rw [if_neg (fun e : x = y => h (by rw [e]; exact List.mem_cons_self)), pos?_none fun m => h (List.mem_cons_of_mem _ m)]; rfl
theorem bindL_pos {kf : Str → Option NameKind} {x : Str} (hx : kf x = some .local) : ∀ (ps : List Str) (vs : List Value) (m : Str → Option Value), ps.Nodup → vs.length = ps.length →
    bindL kf (ps.zip vs) m x = match pos? ps x with | some i => vs[i]? | none => m x
  | [], vs, m, _, _ => rfl
  | y :: r, [], m, _, h => by simp at h
  | y :: r, v :: vs, m, nd, h => by
    obtain ⟨n1, n2⟩ := List.nodup_cons.mp nd
    rw [List.zip_cons_cons]
    unfold bindL
    rw [bindL_pos hx r vs _ n2 (by simpa using h)]
    rw [show pos? (y :: r) x = if x = y then some 0 else (pos? r x).map (· + 1) from rfl]
    by_cases e : x = y
    · subst e
      rw [pos?_none n1, if_pos rfl, if_pos hx]
      simp
    · rw [if_neg e]
      cases hp : pos? r x with
      | none =>
        simp only [Option.map_none]
        split
        · exact if_neg e
        · rfl
      | some i => simp
theorem bindC_pos {kf : Str → Option NameKind} {x : Str} (hx : kf x ≠ some .local) : ∀ (ps : List Str) (vs : List Value) (m : Str → Option Value), ps.Nodup → vs.length = ps.length →
    bindC kf (ps.zip vs) m x = match pos? ps x with | some i => vs[i]? | none => m x
  | [], vs, m, _, _ => rfl
  | y :: r, [], m, _, h => by simp at h
  | y :: r, v :: vs, m, nd, h => by
    obtain ⟨n1, n2⟩ := List.nodup_cons.mp nd
    rw [List.zip_cons_cons]
    unfold bindC
    rw [bindC_pos hx r vs _ n2 (by simpa using h)]
    rw [show pos? (y :: r) x = if x = y then some 0 else (pos? r x).map (· + 1) from rfl]
    by_cases e : x = y
    · subst e
      rw [pos?_none n1, if_pos rfl, if_neg hx]
      simp
    · rw [if_neg e]
      cases hp : pos? r x with
      | none =>
        simp only [Option.map_none]
        split
        · rfl
        · exact if_neg e
      | some i => simp

/-- a body: statements, or an expression -/
inductive Bd where
  | st (b : List Stmt) | ex (e : Expr)
def Bd.fb : Bd → FuncBody
  | .st b => .stmts b
  | .ex e => .expr e
def Bd.run : Bd → Env → Sem Flow
  | .st b, env => execs b env
  | .ex e, env => do let v ← eval e env; return .ret v
/-- a def of the written part; dv: what its parameters at the end take by default -/
structure DefAtD (D : Wd) (f : Addr) (c : Cx) (ps : List Str) (dv : List Value) (body : Bd) : Prop where
  ex : ∃ (o : Obj) (fd : FuncData), D.K.lookup f = some o ∧ o.data = .func fd ∧ (∃ cA, fd.code = .ref cA ∧ (cA, fd.qualname) ∈ D.codes) ∧ fd.scope = c.scope ∧ fd.globals = mainGlobals ∧ fd.builtins = builtinsNs ∧ fd.closure = [] ∧ fd.body = body.fb ∧
    (∀ (A : Around) (Q : List (Str × Value) → Shared → Prop) (E : Value → Shared → Prop) (s : Shared) (vals : List Value), D.K.In s.heap → vals.length + dv.length = ps.length → Q (ps.zip (vals ++ dv)) s → wpAny (model D.prog D.w) A (bindArgs fd ⟨vals, []⟩) Q E s) ∧ fd.scope.isCoroutine = false ∧ fd.scope.isGenerator = false ∧ fd.scope.kind = .function
  kinds : ∀ x ∈ ps, c.scope.names.lookup x = some .local ∨ c.scope.names.lookup x = some .cell
  pnd : ps.Nodup
  lnd : c.ln.Nodup
  cnd : c.cn.Nodup
  ln : ∀ x ∈ c.ln, c.scope.names.lookup x = some .local
  cn : ∀ x ∈ c.cn, c.scope.names.lookup x = some .cell
abbrev DefAt (D : Wd) (f : Addr) (c : Cx) (ps : List Str) (body : List Stmt) : Prop := DefAtD D f c ps [] (.st body)
/-- the call of a body of either kind -/
theorem codeAny_call_bd {prog : Program} {w : World} {A : Around} {s : Shared} {R : Result → Shared → Prop} {a : Addr} {o : Obj} {fd : FuncData} {body : Bd} {vals : List Value} {binds : List (Str × Value)}
    (hroom : A.depth < recursionLimit) (ho : s.heap.get? a = some o) (hdata : o.data = .func fd) (hlim : s.heap.NoLimit) (hcd : s.heap.CodeRec fd.code fd.qualname)
    (hbody : fd.body = body.fb) (hbind : ∀ (Q : List (Str × Value) → Shared → Prop) (E : Value → Shared → Prop), Q binds s → wpAny (model prog w) A.in1 (bindArgs fd ⟨vals, []⟩) Q E s) (hclo : fd.closure = [])
    (hkind : ∀ x ∈ binds, fd.scope.names.lookup x.1 = some .local ∨ (fd.scope.names.lookup x.1 = some .cell ∧ ((cellsFrom (s.heap.objs.size + 1) fd.scope.names []).lookup x.1).isSome = true))
    (h : ∀ s₁, InCallC s (callEnvC fd s.heap.objs.size a).locals (bindL (callEnvC fd s.heap.objs.size a).kindOf binds fun _ => none) (callEnvC fd s.heap.objs.size a).cells
        (bindC (callEnvC fd s.heap.objs.size a).kindOf binds fun _ => none) s₁ →
      wpAny (model prog w) (A.deeper (callEnvC fd s.heap.objs.size a)) (body.run (callEnvC fd s.heap.objs.size a)) (fun f s' => R (.ok (.ret (match f with | .ret v => v | _ => .none))) s')
        (fun e s' => wpAny (model prog w) (A.deeper (callEnvC fd s.heap.objs.size a)) (leaving (callEnvC fd s.heap.objs.size a) e) (fun _ s'' => R (.error e) s'') (fun e' s'' => R (.error e') s'') s') s₁)
    (hco : fd.scope.isCoroutine = false) (hgen : fd.scope.isGenerator = false) (hk : fd.scope.kind = .function) :
    codeAny (model prog w) A (.call (.ref a) ⟨vals, []⟩) R s := by
  cases body with
  | st b =>
    refine codeAny_call_function hroom ho hdata hco hgen hbody hcd ?_
    rw [hclo]
    refine hbind _ _ (wpAny_newFunctionEnv_cells hk hkind fun env he s' x => ?_)
    subst he
    exact ⟨hlim.keeps x.toInCall.keep, codeAny_func (h s' x)⟩
  | ex e =>
    refine kla_callFunE hroom ho hdata hco hgen hbody hcd ?_
    rw [hclo]
    refine hbind _ _ (wpAny_newFunctionEnv_cells hk hkind fun env he s' x => ?_)
    subst he
    refine ⟨hlim.keeps x.toInCall.keep, kla_codeExpr fun Γ p hΓ => ?_⟩
    have z := h s' x Γ p hΓ
    simp only [Bd.run, Sem.wp_bind'] at z
    exact z

/-- the frame at its start -/
def St0 (c : Cx) (ps : List Str) (Ws : List V) : St := { loc := c.ln.map fun x => (pos? ps x).bind (Ws[·]?), cel := c.cn.map fun x => (pos? ps x).bind (Ws[·]?) }

/-- what a value is when its frame has gone -/
inductive Out (st : St) : V → V → Prop
  | fz {W : V} : W.isMut = false → Out st W W
  | own {k : Nat} {l : List V} : st.own[k]? = some l → Out st (.own k) (.list l)

theorem VFs.orp {B : Heap} {vs : List Value} {Ws : List V} (h : VFs B vs Ws) (k : Option Nat) : OR B [] (k.bind (vs[·]?)) (k.bind (Ws[·]?)) := by
  cases k with
  | none => trivial
  | some i =>
    show OR B [] (vs[i]?) (Ws[i]?)
    by_cases hi : i < Ws.length
    · obtain ⟨v, hv, q⟩ := h.get (List.getElem?_eq_getElem hi)
      rw [hv, List.getElem?_eq_getElem hi]
      exact VR.of q
    · rw [List.getElem?_eq_none (by rw [h.length]; lia), List.getElem?_eq_none (by lia)]
      trivial

/-- the same, some objects of the caller's changed: those in T -/
def CallSpecT (D : Wd) (T : List Addr) (Pc : Heap → Heap → Prop) (m : Nat) (f : Value) (Ws : List V) (res : V) : Prop :=
  ∀ (A : Around) (B : Heap) (s : Shared) (vs : List Value) (Q : Value → Shared → Prop) (E : Value → Shared → Prop), Room m A → Good D B → Ext B s.heap → Pc B s.heap → VFs B vs Ws →
    (∀ v B' s', Nx s s' B B' [] [] → Ext B' s'.heap → (∀ b o, b ∉ T → s.heap.get? b = some o → s'.heap.get? b = some o) → VF B' v res → Q v s') → wpAny (model D.prog D.w) A (call f vs) Q E s
theorem enter_def {D : Wd} {n : Nat} {f : Addr} {c : Cx} {ps : List Str} {dv : List Value} {body : Bd} {Ws : List V} {A : Around} {B : Heap} {s : Shared} {vs : List Value} {Q : Value → Shared → Prop} {E : Value → Shared → Prop} (hd : DefAtD D f c ps dv body) (hn : Ws.length + dv.length = ps.length)
    (hA : Room (n + 1) A) (G : Good D B) (X : Ext B s.heap) (hvs : VFs B vs Ws)
    (h : ∀ (env : Env) (s₁ : Shared) (rs : List (Addr × Obj)) (ca : List Addr), env.frame = some env.locals → env.locals = s.heap.objs.size → (∃ o fd, D.K.lookup f = some o ∧ o.data = .func fd ∧ env = callEnvC fd s.heap.objs.size f) → Room n (A.deeper env) → Rep D c env B s₁.heap rs ca [] (St0 c ps (Ws ++ dv.map .raw)) → (∀ a o, s.heap.get? a = some o → B.get? a = none → (a, o) ∈ rs) → Nx s s₁ B B [] [] →
      wpAny (model D.prog D.w) (A.deeper env) (body.run env) (fun f s' => Q (match f with | .ret v => v | _ => .none) s') (fun e s' => wpAny (model D.prog D.w) (A.deeper env) (leaving env e) (fun _ s'' => E e s'') (fun e' s'' => E e' s'') s') s₁) : wpAny (model D.prog D.w) A (call (.ref f) vs) Q E s := by
  obtain ⟨o, fd, hK, hdat, hcd, hsc, hgl, hbl, hclo, hbody, hbind, hco, hgen, hkind⟩ := hd.ex
  have hlen0 : vs.length + dv.length = ps.length := by rw [hvs.length, hn]
  have hraw : ∀ l : List Value, VFs B l (l.map .raw) := fun l => by
    induction l with
    | nil => exact .nil
    | cons x r ih => exact .cons (.raw x) ih
  replace hvs : VFs B (vs ++ dv) (Ws ++ dv.map .raw) := hvs.append (hraw dv)
  have hlen : (vs ++ dv).length = ps.length := by rw [List.length_append, hlen0]
  have hcr : B.CodeRec fd.code fd.qualname := by
    obtain ⟨cA, e, hm⟩ := hcd
    rw [e]; exact G.cod _ hm
  refine wpAny_call ?_
  refine codeAny_call_bd (fd := fd) (binds := ps.zip (vs ++ dv)) (by have := hA.depth; lia) (X _ _ (G.k _ _ hK)) hdat (G.lim.keeps X) (hcr.keeps X) hbody (fun Q E q => hbind _ Q E s vs (fun a o e => X a o (G.k a o e)) hlen0 q) hclo (fun x hx => ?_) (fun s₁ I => ?_) hco hgen hkind
  · have hx' : x.1 ∈ ps := (List.of_mem_zip hx).1
    rw [hsc]
    rcases hd.kinds _ hx' with e | e
    · exact .inl e
    · exact .inr ⟨e, cellsFrom_some _ _ _ (.inl e)⟩
  generalize henv : callEnvC fd s.heap.objs.size f = env at I ⊢
  have hL : env.locals = s.heap.objs.size := by rw [← henv]; rfl
  have hes : env.scope = c.scope := by rw [← henv]; exact hsc
  have hkf : ∀ x, env.kindOf x = c.scope.names.lookup x := fun x => by unfold Env.kindOf; rw [hes]
  have hcl : ∀ x ∈ c.cn, ∃ a, env.cells.lookup x = some a := fun x hx => by
    have := cellsFrom_some (x := x) c.scope.names (s.heap.objs.size + 1) [] (.inl (hd.cn x hx))
    rw [← hsc] at this
    have e : env.cells = cellsFrom (s.heap.objs.size + 1) fd.scope.names [] := by rw [← henv]; rfl
    rw [e]; exact Option.isSome_iff_exists.mp this
  let as0 := (List.range s.heap.objs.size).filter fun a => (s.heap.get? a).isSome && (B.get? a).isNone
  let rs0 : List (Addr × Obj) := as0.map fun a => (a, (s.heap.get? a).getD o)
  have hrs : rs0.map (·.1) = as0 := by simp only [rs0, List.map_map]; exact List.map_id'' (fun _ => rfl) _
  let ca : List Addr := c.cn.map fun x => (env.cells.lookup x).getD 0
  have hca : ∀ (i : Nat) (x : Str) (a : Addr), c.cn[i]? = some x → ca[i]? = some a → env.cells.lookup x = some a := fun i x a hx ha => by
    obtain ⟨b, hb⟩ := hcl x (List.mem_of_getElem? hx)
    simp only [ca, List.getElem?_map, hx, Option.map_some, hb, Option.getD_some, Option.some.injEq] at ha
    rw [hb, ha]
  have hcab : ∀ a ∈ ca, s.heap.objs.size < a := fun a ha => by
    obtain ⟨x, hx, rfl⟩ := List.mem_map.mp ha
    obtain ⟨b, hb⟩ := hcl x hx
    rw [hb, ← hL]
    exact I.above _ _ (mem_of_lookup hb)
  obtain ⟨h₁, tk, hs₁, hkeep⟩ := I.done
  have hLlt := I.toInCall.ns.lt
  have nd0 : (exc env rs0 ca []).Nodup := by
    unfold exc
    rw [List.nil_append, hrs]
    refine List.nodup_cons.mpr ⟨fun m => ?_, List.nodup_append.mpr ⟨?_, List.Pairwise.filter _ List.nodup_range, fun a ha b hb e => ?_⟩⟩
    · rw [hL] at m
      rcases List.mem_append.mp m with m | m
      · exact Nat.lt_irrefl _ (hcab _ m)
      · exact Nat.lt_irrefl _ (List.mem_range.mp (List.mem_filter.mp m).1)
    · refine List.pairwise_map.mpr (List.Pairwise.imp_of_mem (fun {x y} hx hy ne e => ne ?_) hd.cnd)
      obtain ⟨a, ha⟩ := hcl x hx
      obtain ⟨b, hb⟩ := hcl y hy
      rw [ha, hb] at e
      have e' : a = b := e
      subst e'
      exact name_of_addr I.apart (mem_of_lookup ha) (mem_of_lookup hb)
    · subst e
      have := hcab _ ha
      have := List.mem_range.mp (List.mem_filter.mp hb).1
      lia
  have Blow : ∀ a, s.heap.objs.size ≤ a → B.get? a = none := fun a ha => by
    cases q : B.get? a with
    | none => rfl
    | some o' => exact absurd (Heap.lt_size (X a o' q)) (Nat.not_lt.mpr ha)
  have held0 : ∀ q ∈ rs0, s.heap.get? q.1 = some q.2 := fun q hq => by
    obtain ⟨a, ha, rfl⟩ := List.mem_map.mp hq
    have := (List.mem_filter.mp ha).2
    rw [Bool.and_eq_true] at this
    obtain ⟨o', ho'⟩ := Option.isSome_iff_exists.mp this.1
    show s.heap.get? a = some ((s.heap.get? a).getD o)
    rw [ho']; rfl
  have R0 : Rep D c env B s₁.heap rs0 ca [] (St0 c ps (Ws ++ dv.map .raw)) := {
    scope := hes
    fn := hsc ▸ hkind
    globals := (by rw [← henv]; exact hgl)
    builtins := (by rw [← henv]; exact hbl)
    ext := fun b o e => I.toInCall.keep b o (X b o e)
    good := G
    lnd := hd.lnd
    loc := ⟨_, I.toInCall.ns, (by simp [St0]), fun i x o hx ho => by
      simp only [St0, List.getElem?_map, hx, Option.map_some, Option.some.injEq] at ho
      subst ho
      have hk : env.kindOf x = some .local := by rw [hkf]; exact hd.ln x (List.mem_of_getElem? hx)
      rw [bindL_pos hk ps (vs ++ dv) _ hd.pnd hlen]
      have := hvs.orp (pos? ps x)
      cases hp : pos? ps x with
      | none => trivial
      | some j => rw [hp] at this; exact this⟩
    cal := (by simp [ca])
    cel := ⟨(by simp [St0, ca]), fun i a o ha ho => by
      have hi : i < c.cn.length := by
        have := (List.getElem?_eq_some_iff.mp ha).1
        simpa [ca] using this
      have hx : c.cn[i]? = some c.cn[i] := List.getElem?_eq_getElem hi
      have hlk := hca i _ a hx ha
      refine ⟨_, I.cell _ _ hlk, ?_⟩
      simp only [St0, List.getElem?_map, hx, Option.map_some, Option.some.injEq] at ho
      subst ho
      have hk : env.kindOf c.cn[i] ≠ some .local := by
        rw [hkf, hd.cn _ (List.mem_of_getElem? hx)]; decide
      rw [bindC_pos hk ps (vs ++ dv) _ hd.pnd hlen]
      have := hvs.orp (pos? ps c.cn[i])
      cases hp : pos? ps c.cn[i] with
      | none => trivial
      | some j => rw [hp] at this; exact this⟩
    cen := fun i x a hx ha _ => hca i x a hx ha
    own := ⟨rfl, fun k a l e _ => by simp at e⟩
    held := fun q hq => I.toInCall.keep _ _ (held0 q hq)
    off := fun a ha => by
      unfold exc at ha
      rw [List.nil_append, hrs] at ha
      rcases List.mem_cons.mp ha with rfl | ha
      · exact Blow _ (Nat.le_of_eq hL.symm)
      · rcases List.mem_append.mp ha with ha | ha
        · exact Blow _ (Nat.le_of_lt (hcab _ ha))
        · have := (List.mem_filter.mp ha).2
          rw [Bool.and_eq_true] at this
          simpa using this.2
    nd := nd0 }
  have n0 : Nx s s₁ B B [] [] := ⟨.refl B, fun _ _ e => .inl e, by rw [← hL]; exact Nat.le_of_lt hLlt, .refl _, by rw [hs₁], by rw [hs₁], by rw [hs₁]; exact .refl _, fun _ h => .inl h⟩
  refine h env s₁ rs0 ca (by rw [← henv]; rfl) hL ⟨o, fd, hK, hdat, henv.symm⟩ ⟨by rw [Around.deeper]; exact hA.handled, by show A.depth + 1 + n < _; have := hA.depth; lia, by show A.units + 3 + 8 * n + 8 < _; have := hA.units; lia⟩ R0 (fun a o' e q => ?_) n0
  have hm : a ∈ as0 := List.mem_filter.mpr ⟨List.mem_range.mpr (Heap.lt_size e), by rw [e, q]; rfl⟩
  have := List.mem_map_of_mem (f := fun a => (a, (s.heap.get? a).getD o)) hm
  rw [e] at this; exact this
theorem CallSpecT.of {D : Wd} {T : List Addr} {Pc : Heap → Heap → Prop} {n : Nat} {f : Addr} {c : Cx} {ps : List Str} {dv : List Value} {body : Bd} {Ws : List V} {res : V} (hd : DefAtD D f c ps dv body) (hn : Ws.length + dv.length = ps.length)
    (h : ∀ (A : Around) (env : Env) (B h0 : Heap) (s : Shared) (rs : List (Addr × Obj)) (ca : List Addr) (Q : Flow → Shared → Prop) (E : Value → Shared → Prop), Room n A → Rep D c env B s.heap rs ca [] (St0 c ps (Ws ++ dv.map .raw)) → Pc B h0 → (∀ a o, h0.get? a = some o → B.get? a = none → (a, o) ∈ rs) →
      (∀ st W v B' p' s' rs', Out st W res → Nx s s' B B' [] p' → Rep D c env B' s'.heap rs' ca p' st → (∀ q ∈ rs, q.1 ∉ T → q ∈ rs') → VR B' p' v W → Q (.ret v) s') → wpAny (model D.prog D.w) A (body.run env) Q E s) : CallSpecT D T Pc (n + 1) (.ref f) Ws res := fun A B s vs Q E hA G X hPc hvs H => by
  refine enter_def hd hn hA G X hvs fun env s₁ rs ca _ _ _ hA' R hrs n0 => h (A.deeper env) env B s.heap s₁ rs ca _ _ hA' R hPc hrs fun st W v B' p' s' rs' ho n' R' hT q' => ?_
  have keep : ∀ b o, b ∉ T → s.heap.get? b = some o → s'.heap.get? b = some o := fun b o' hb e => by
    cases q : B.get? b with
    | some o'' =>
      have := X b o'' q
      rw [e] at this; (first | exact none_some this | exact some_none this | (obtain rfl := Option.some.inj this) | cases this)
      exact R'.ext b _ (n'.ext b _ q)
    | none => exact R'.held _ (hT _ (hrs b o' e q) hb)
  have nn := n0.trans n'
  show Q v s'
  cases ho with
  | fz hm =>
    exact H v B' s' ⟨nn.ext, nn.new, nn.size, .refl _, nn.drawn, nn.os, nn.gens, fun _ h => .inl h⟩ R'.ext keep (VR.fz q' hm)
  | own hk =>
    rename_i k l
    obtain ⟨a, ha, rfl⟩ := q'
    obtain ⟨us, ⟨kk, hL'⟩, hus⟩ := R'.own.2 k a l ha hk
    obtain ⟨B2, e2, x2, w2, g2⟩ := freeze_one R'.ext hL'
    have hnew : s.heap.objs.size ≤ a := (nn.own a (List.mem_of_getElem? ha)).elim (by first | exact fun h => ft_elim h | exact fun h => nil_elim h | exact fun h => nomatch h) id
    exact H _ B2 s' ⟨nn.ext.trans e2, fun b o' e => (w2 b o' e).elim (nn.new b o') fun z => .inr (z ▸ hnew), nn.size, .refl _, nn.drawn, nn.os, nn.gens, fun _ h => .inl h⟩ x2 keep (.list ⟨kk, g2⟩ (hus.ext e2))
theorem CallSpec.ofT {D : Wd} {m : Nat} {f : Value} {Ws : List V} {res : V} (h : CallSpecT D [] (fun _ _ => True) m f Ws res) : CallSpec D m f Ws res := fun A B s vs Q E hA G X hvs H =>
  h A B s vs Q E hA G X trivial hvs fun v B' s' n x k q => H v B' s' n x (fun b o e => k b o (by first | exact fun h => ft_elim h | exact fun h => nil_elim h | exact fun h => nomatch h) e) q
/-- a def whose last state hangs on the run -/
theorem CallSpec.ofG {D : Wd} {n : Nat} {f : Addr} {c : Cx} {ps : List Str} {body : List Stmt} {Ws : List V} {res : V} (hd : DefAt D f c ps body) (hn : Ws.length = ps.length)
    (h : ∀ (A : Around) (env : Env) (B : Heap) (s : Shared) (rs : List (Addr × Obj)) (ca p : List Addr) (Q : Flow → Shared → Prop) (E : Value → Shared → Prop), Room n A → Rep D c env B s.heap rs ca p (St0 c ps Ws) →
      (∀ st W, Out st W res → PostF D c env s B rs ca p (.ret W) st Q) → wpAny (model D.prog D.w) A (execs body env) Q E s) : CallSpec D (n + 1) (.ref f) Ws res :=
  .ofT (.of hd (by simpa using hn) fun A env B h0 s rs ca Q E hA R _ _ H => h A env B s rs ca [] Q E hA (by simpa using R) fun st W ho fl B' p' s' n' R' q' => by
    cases fl with
    | ret v => exact H st W v B' p' s' rs ho n' R' (fun _ h _ => h) q'
    | _ => exact q'.elim)
theorem CallSpec.of {D : Wd} {n : Nat} {f : Addr} {c : Cx} {ps : List Str} {body : List Stmt} {Ws : List V} {st : St} {W res : V} (hd : DefAt D f c ps body) (hn : Ws.length = ps.length)
    (h : Sx D n c (St0 c ps Ws) body (.ret W) st) (ho : Out st W res) : CallSpec D (n + 1) (.ref f) Ws res :=
  .ofG hd hn fun A env B s rs ca p Q E hA R H => h A env B s rs ca p Q E hA R (H st W ho)
end Mine

open PySem PySem.W PyProof.Rows PySem.Calls
namespace Mine

/-- Python's place of a sign or an item, counted from either end -/
def at? {α : Type} (l : List α) (i : Int) : Option α := if 0 ≤ i then l[i.toNat]? else if -(l.length : Int) ≤ i then l[(i + l.length).toNat]? else none

section
variable {D : Wd} {n : Nat} {c : Cx} {st st1 st2 st3 : St}

theorem post_size {s : Shared} {o : Obj} : s.heap.objs.size ≤ (s.heap.push o).objs.size := by rw [Heap.size_push]; exact Nat.le_succ _

/-- an item of a text -/
theorem Ex.itemS {value slice : Expr} {pos : Pos} {l : List Nat} {i : Int} {k : Nat} (hv : Ex D n c st value (.str (S l)) st1) (hi : Ex D n c st1 slice (.int i) st2) (hk : at? l i = some k) (hz : -(2 ^ 63) ≤ i ∧ i < 2 ^ 63)
    (hs : ∀ o i, ∃ ops, subscripted slice false o i = operate ops (getItem o i) := by intro o i; exact ⟨[o, i], by with_unfolding_all rfl⟩) : Ex D n c st (.Subscript value slice pos) (.str (S [k])) st2 := fun A env B s rs ca p Q E hA R H => by
  with_reducible refine Subscript_ ?_
  refine hv A env B s rs ca p _ E hA R fun o B1 p1 s1 n1 R1 q1 => hi A env B1 s1 rs ca p1 _ E hA R1 fun j B2 p2 s2 n2 R2 q2 => ?_
  cases (show VF B1 o _ from q1) with
  | str _ t =>
    cases (show VF B2 j _ from q2) with
    | int _ u =>
      obtain ⟨ops, hs⟩ := hs (.str (S l) t) (.int i u)
      refine tail_any (typeIs_str _ _ _) slot_str_getitem.lookup ?_ hs
      have hlen : (S l).length = l.length := S_len l
      refine PyProof.Rows.getItem_str (c := k) (by simp only [Bool.or_eq_false_iff, decide_eq_false_iff_not]; lia) ?_ (H _ B2 p2 _ ((n1.trans n2).trans .toks) R2 (.of (.str ..)))
      rw [hlen]
      unfold at? at hk
      have hcp : ∀ j : Nat, (S l).cps[j]? = l[j]? := fun j => by simp [S]
      by_cases h0 : 0 ≤ i
      · rw [if_pos h0] at hk
        obtain ⟨m, rfl⟩ := Int.eq_ofNat_of_zero_le h0
        have hm : m < l.length := by
          have := (List.getElem?_eq_some_iff.mp hk).1; simpa using this
        have e : seqIndex? (m : Int) l.length = some m := by
          unfold seqIndex?
          have : ¬ ((m : Int) < 0) := by lia
          simp [this, hm]
        rw [e, Option.bind_some, hcp]; simpa using hk
      · rw [if_neg h0] at hk
        by_cases h1 : -(l.length : Int) ≤ i
        · rw [if_pos h1] at hk
          rw [seqIndex_neg (by lia) h1, Option.bind_some, hcp]; exact hk
        · rw [if_neg h1] at hk; (first | exact none_some hk | exact some_none hk | (obtain rfl := Option.some.inj hk) | cases hk)

theorem getItem_lst {A : Around} {s : Shared} {a : Addr} {vs : List Value} {i : Int} {t : Tok} {x : Value} {Q : Value → Shared → Prop} {E : Value → Shared → Prop} (hl : s.heap.IsList a vs.toArray) (hk : at? vs i = some x) (hz : -(2 ^ 63) ≤ i ∧ i < 2 ^ 63) (h : Q x s) :
    wpAny (model D.prog D.w) A (getItem (.ref a) (.int i t)) Q E s := by
  unfold at? at hk
  by_cases h0 : 0 ≤ i
  · rw [if_pos h0] at hk
    exact wpAny_getItem_list hl h0 hz.2 (by simpa using hk) h
  · rw [if_neg h0] at hk
    by_cases h1 : -(vs.length : Int) ≤ i
    · rw [if_pos h1] at hk
      exact wpAny_getItem_list_neg hl (by lia) (by simpa using h1) hz.1 (by simpa using hk) h
    · rw [if_neg h1] at hk; (first | exact none_some hk | exact some_none hk | (obtain rfl := Option.some.inj hk) | cases hk)
theorem VFs.at {B : Heap} {vs : List Value} {Ws : List V} (h : VFs B vs Ws) {i : Int} {W : V} (hk : at? Ws i = some W) : ∃ v, at? vs i = some v ∧ VF B v W := by
  unfold at? at hk ⊢
  rw [h.length]
  by_cases h0 : 0 ≤ i
  · rw [if_pos h0] at hk ⊢; exact h.get hk
  · rw [if_neg h0] at hk ⊢
    by_cases h1 : -(Ws.length : Int) ≤ i
    · rw [if_pos h1] at hk ⊢; exact h.get hk
    · rw [if_neg h1] at hk; (first | exact none_some hk | exact some_none hk | (obtain rfl := Option.some.inj hk) | cases hk)
/-- an item of a frozen list -/
theorem Ex.itemL {value slice : Expr} {pos : Pos} {Ws : List V} {i : Int} {W : V} (hv : Ex D n c st value (.list Ws) st1) (hi : Ex D n c st1 slice (.int i) st2) (hk : at? Ws i = some W) (hz : -(2 ^ 63) ≤ i ∧ i < 2 ^ 63)
    (hs : ∀ o i, ∃ ops, subscripted slice false o i = operate ops (getItem o i) := by intro o i; exact ⟨[o, i], by with_unfolding_all rfl⟩) : Ex D n c st (.Subscript value slice pos) W st2 := fun A env B s rs ca p Q E hA R H => by
  with_reducible refine Subscript_ ?_
  refine hv A env B s rs ca p _ E hA R fun o B1 p1 s1 n1 R1 q1 => hi A env B1 s1 rs ca p1 _ E hA R1 fun j B2 p2 s2 n2 R2 q2 => ?_
  cases (show VF B1 o _ from q1) with
  | list hl hvs =>
    rename_i a vs
    cases (show VF B2 j _ from q2) with
    | int _ u =>
      obtain ⟨ops, hs⟩ := hs (.ref a) (.int i u)
      have hl' := (isList_ext R2.ext (isList_ext n2.ext hl)).is
      obtain ⟨x, hx, qx⟩ := hvs.at hk
      exact tail_any hl'.typeIs slot_list_getitem.lookup (getItem_lst hl' hx hz (H x B2 p2 _ (n1.trans n2) R2 (.of (qx.ext n2.ext)))) hs
/-- an item of an own list -/
theorem Ex.itemO {value slice : Expr} {pos : Pos} {Ws : List V} {i : Int} {W : V} {k : Nat} (hv : Ex D n c st value (.own k) st1) (hi : Ex D n c st1 slice (.int i) st2) (ho : st2.own[k]? = some Ws) (hk : at? Ws i = some W) (hz : -(2 ^ 63) ≤ i ∧ i < 2 ^ 63)
    (hs : ∀ o i, ∃ ops, subscripted slice false o i = operate ops (getItem o i) := by intro o i; exact ⟨[o, i], by with_unfolding_all rfl⟩) : Ex D n c st (.Subscript value slice pos) W st2 := fun A env B s rs ca p Q E hA R H => by
  with_reducible refine Subscript_ ?_
  refine hv A env B s rs ca p _ E hA R fun o B1 p1 s1 n1 R1 q1 => hi A env B1 s1 rs ca p1 _ E hA R1 fun j B2 p2 s2 n2 R2 q2 => ?_
  obtain ⟨a, ha, rfl⟩ := q1
  obtain ⟨vs, hl, hvs⟩ := R2.own.2 k a Ws (n2.pre _ _ ha) ho
  cases (show VF B2 j _ from q2) with
  | int _ u =>
    obtain ⟨ops, hs⟩ := hs (.ref a) (.int i u)
    obtain ⟨x, hx, qx⟩ := hvs.at hk
    exact tail_any hl.is.typeIs slot_list_getitem.lookup (getItem_lst hl.is hx hz (H x B2 p2 _ (n1.trans n2) R2 (.of qx))) hs

theorem pick_S (l : List Nat) (lo hi : Option Int) : ((Builtin.Str.strSliceIndices lo hi 1 (S l).length).filterMap ((S l).cps[·]?)) = sl l lo hi := by
  rw [S_len, indices_clip, pick_run]
  rfl
/-- a slice's end: an expression for a number, or none -/
inductive Part (D : Wd) (n : Nat) (c : Cx) : St → Option Expr → Option Int → St → Prop
  | none {st : St} : Part D n c st none none st
  | some {st st1 : St} {e : Expr} {i : Int} : Ex D n c st e (.int i) st1 → Part D n c st (some e) (some i) st1
theorem Part.go {e : Option Expr} {i : Option Int} (h : Part D n c st e i st1) (A : Around) (env : Env) (B : Heap) (s : Shared) (rs : List (Addr × Obj)) (ca p : List Addr) (Q : Value → Shared → Prop) (E : Value → Shared → Prop)
    (hA : Room n A) (R : Rep D c env B s.heap rs ca p st) (H : ∀ (q : Option (Int × Tok)) B' p' s', q.map (·.1) = i → Nx s s' B B' p p' → Rep D c env B' s'.heap rs ca p' st1 → Q (partValue q) s') : wpAny (model D.prog D.w) A (evalPart e env) Q E s := by
  cases h with
  | none => rw [evalPart_none]; exact wpAny_pure (H Option.none B p s rfl (.refl ..) R)
  | some h =>
    rw [evalPart_some]
    refine h A env B s rs ca p Q E hA R fun v B1 p1 s1 n1 R1 q1 => ?_
    cases (show VF B1 v _ from q1) with
    | int _ t => exact H (Option.some (_, t)) B1 p1 s1 rfl n1 R1

theorem Ex.sliceS {value : Expr} {lower upper : Option Expr} {p0 pos : Pos} {l : List Nat} {lo hi : Option Int} (hv : Ex D n c st value (.str (S l)) st1) (h1 : Part D n c st1 lower lo st2) (h2 : Part D n c st2 upper hi st3) (hz : l.length ≤ sizeLine)
    (ht : ∀ o r, letTemporaryGo value o r = pure () := by intro _ _; rfl) : Ex D n c st (.Subscript value (.Slice lower upper Option.none p0) pos) (.str (S (sl l lo hi))) st3 := fun A env B s rs ca p Q E hA R H => by
  refine wpAny_Subscript_str_slice ?_ ht
  refine hv A env B s rs ca p _ E hA R fun o B1 p1 s1 n1 R1 q1 => h1.go A env B1 s1 rs ca p1 _ E hA R1 fun vl B2 p2 s2 el n2 R2 => h2.go A env B2 s2 rs ca p2 _ E hA R2 fun vu B3 p3 s3 eu n3 R3 => ?_
  cases (show VF B1 o _ from q1) with
  | str _ t =>
    refine ⟨S l, t, vl, vu, rfl, rfl, rfl, ?_⟩
    have n4 := (n1.trans n2).trans n3
    have H4 := H.mono n4
    have fin : ∀ (u : Tok) (tk : Nat), Q (.str (S (sl l lo hi)) u) { s3 with heap := s3.heap.push { cls := .type "slice", data := .fields #[partValue vl, partValue vu, Value.none] }, toks := tk } := fun u tk =>
      H4.grow R3 (Ext.push _ _) post_size fun B' _ _ => .of (.str ..)
    have hsl : ((slicePicked (S l) vl vu Option.none).filterMap ((S l).cps[·]?)).toArray = (S (sl l lo hi)).cps := by
      rw [← pick_S l lo hi]
      unfold slicePicked
      rw [el, eu]
      rfl
    unfold sliceMade
    split
    · rename_i hc
      have hfull : S (sl l lo hi) = S l := by
        rw [S_inj]
        simp only [Option.map_none, Option.getD_none, beq_self_eq_true, Bool.true_and, beq_iff_eq] at hc
        unfold slicePicked at hc
        rw [el, eu, Option.map_none, Option.getD_none, indices_clip, List.length_map, List.length_range, S_len] at hc
        have h5 : hi.elim l.length (clipAt l.length) ≤ l.length := by
          cases hi with
          | none => exact Nat.le_refl _
          | some x => exact clipAt_le _ _
        unfold sl
        have h6 : lo.elim 0 (clipAt l.length) = 0 ∨ l.length = 0 := by lia
        rcases h6 with h6 | h6
        · rw [h6, List.drop_zero]
          exact List.take_of_length_le (by rw [h6] at hc; lia)
        · rw [List.eq_nil_of_length_eq_zero h6]; simp
      rw [hfull] at fin
      exact fin t s3.toks
    · have := fin s3.toks (s3.toks + 1)
      rw [show (S (sl l lo hi)) = ⟨((slicePicked (S l) vl vu Option.none).filterMap ((S l).cps[·]?)).toArray⟩ by rw [hsl]] at this
      refine ⟨?_, this⟩
      rw [← show (S (sl l lo hi)) = ⟨((slicePicked (S l) vl vu Option.none).filterMap ((S l).cps[·]?)).toArray⟩ by rw [hsl], S_len]
      exact Nat.le_trans (sl_len ..) hz

theorem VFs.sl {B : Heap} {vs : List Value} {Ws : List V} (h : VFs B vs Ws) (lo hi : Option Int) : VFs B (Mine.sl vs lo hi) (Mine.sl Ws lo hi) := by
  unfold Mine.sl; rw [h.length]; exact (h.drop _).take _
theorem Ex.sliceL {value : Expr} {lower upper : Option Expr} {p0 pos : Pos} {Ws : List V} {lo hi : Option Int} (hv : Ex D n c st value (.list Ws) st1) (h1 : Part D n c st1 lower lo st2) (h2 : Part D n c st2 upper hi st3) (hz : Ws.length ≤ sizeLine)
    (ht : ∀ o r, letTemporaryGo value o r = pure () := by intro _ _; rfl) : Ex D n c st (.Subscript value (.Slice lower upper Option.none p0) pos) (.list (sl Ws lo hi)) st3 := fun A env B s rs ca p Q E hA R H => by
  refine wpAny_Subscript_list_slice ?_ ht
  refine hv A env B s rs ca p _ E hA R fun o B1 p1 s1 n1 R1 q1 => h1.go A env B1 s1 rs ca p1 _ E hA R1 fun vl B2 p2 s2 el n2 R2 => h2.go A env B2 s2 rs ca p2 _ E hA R2 fun vu B3 p3 s3 eu n3 R3 => ?_
  cases (show VF B1 o _ from q1) with
  | list hl hvs =>
    rename_i a vs
    have hl3 := isList_ext R3.ext (isList_ext (n2.ext.trans n3.ext) hl)
    have hp : ∀ (q : Option (Int × Tok)) (i : Option Int), q.map (·.1) = i → IsPart (partValue q) i := fun q i e => by
      subst e
      cases q with
      | none => exact .none
      | some x => exact .int _ _
    refine ⟨a, vs.toArray, lo, hi, rfl, hl3.is, by rw [List.size_toArray, hvs.length]; exact hz, hp _ _ el, hp _ _ eu, ?_⟩
    have n4 := (n1.trans n2).trans n3
    rw [show slicePick vs.toArray lo hi Option.none = (sl vs lo hi).toArray by rw [slicePick_plain]; simp only [List.size_toArray]; rfl]
    refine (H.mono n4).grow R3 (tk := s3.toks) (fun b o e => Heap.get?_push_of_some _ (Heap.get?_push_of_some _ e)) (by rw [Heap.size_push, Heap.size_push]; lia) fun B' e g => ?_
    refine .of (.list ⟨0, g _ _ (Nat.le_succ _) ?_⟩ ((hvs.ext ((n2.ext.trans n3.ext).trans e)).sl lo hi))
    have := Heap.get?_push_size (s3.heap.push { cls := .type "slice", data := .fields #[partValue vl, partValue vu, Value.none] }) (o := ⟨.type "list", Option.none, .seq (sl vs lo hi).toArray 0, #[]⟩) rfl
    rw [Heap.size_push] at this
    exact this
end
end Mine

open PySem PySem.W PyProof.Rows PySem.Calls
namespace Mine

/-- texts glued -/
def joinL (sep : List Nat) : List (List Nat) → List Nat
  | [] => []
  | [x] => x
  | x :: y :: r => x ++ sep ++ joinL sep (y :: r)
theorem join_fold (sep : List Nat) : ∀ (r : List (List Nat)) (x : List Nat), (r.map S).foldl (fun acc p => acc ++ (S sep).cps ++ p.cps) x.toArray = (joinL sep (x :: r)).toArray
  | [], x => rfl
  | y :: r, x => by
    rw [List.map_cons, List.foldl_cons]
    rw [show x.toArray ++ (S sep).cps ++ (S y).cps = (x ++ sep ++ y).toArray by simp [S]]
    rw [join_fold sep r]
    cases r with
    | nil => simp [joinL]
    | cons z r => simp [joinL]
theorem join_S (sep : List Nat) (ys : List (List Nat)) : Txt.join (S sep) (ys.map S) = S (joinL sep ys) := by
  cases ys with
  | nil => rfl
  | cons x r =>
    unfold Txt.join Builtin.Str.glued
    rw [List.map_cons, List.drop_one, List.tail_cons, List.headD_cons]
    show (⟨(r.map S).foldl (fun acc p => acc ++ (S sep).cps ++ p.cps) x.toArray⟩ : Str) = _
    rw [join_fold]; rfl

def rangeL (a b : Int) : List Int := (List.range (b - a).toNat).map fun (i : Nat) => a + (i : Int)
def isAlnum (l : List Nat) : Bool := decide (0 < l.length) && l.all Unicode.isAlnum
def commas (l : List Nat) : Nat := (Txt.split (S l) (S [44])).length

section
variable {D : Wd} {n : Nat} {c : Cx} {st st1 st2 st3 : St}

theorem Tn.lenS {l : List Nat} (hz : l.length < 2 ^ 62) : Tn D n c st [.str (S l)] (fun vs => call (.builtin "len") vs) (.int l.length) st := fun A env B s rs ca p Q E vs hA R q H => by
  apply VRs.one q; intro v q 
  cases (show VF B v _ from q.1) with
  | str _ t =>
    refine PyProof.Rows.len_str (by rw [S_len]; omega) ?_
    rw [S_len]
    exact H _ B p _ .toks R (.of (.int ..))
theorem Tn.lenL {Ws : List V} (hz : Ws.length < 2 ^ 62) : Tn D n c st [.list Ws] (fun vs => call (.builtin "len") vs) (.int Ws.length) st := fun A env B s rs ca p Q E vs hA R q H => by
  apply VRs.one q; intro v q 
  cases (show VF B v _ from q.1) with
  | list hl hvs =>
    refine PySem.Calls.call_len_list (isList_ext R.ext hl).is (by rw [List.size_toArray, hvs.length]; omega) ?_
    rw [List.size_toArray, hvs.length]
    exact H _ B p _ .toks R (.of (.int ..))
theorem Tn.lenO {k : Nat} {Ws : List V} (ho : st.own[k]? = some Ws) (hz : Ws.length < 2 ^ 62) : Tn D n c st [.own k] (fun vs => call (.builtin "len") vs) (.int Ws.length) st := fun A env B s rs ca p Q E vs hA R q H => by
  apply VRs.one q; intro v q 
  obtain ⟨⟨a, ha, rfl⟩, _⟩ := q
  obtain ⟨vs, hl, hvs⟩ := R.own.2 k a Ws ha ho
  refine PySem.Calls.call_len_list hl.is (by rw [List.size_toArray, hvs.length]; omega) ?_
  rw [List.size_toArray, hvs.length]
  exact H _ B p _ .toks R (.of (.int ..))
theorem Tn.strInt {a : Int} (hz : a.natAbs.log2 < 1920) : Tn D n c st [.int a] (fun vs => call (.type "str") vs) (.str (toString a)) st := fun A env B s rs ca p Q E vs hA R q H => by
  apply VRs.one q; intro v q 
  cases (show VF B v _ from q.1) with
  | int _ t => exact P.str_of_int hz (H _ B p _ .toks R (.of (.str ..)))
theorem Tn.max2 {a b : Int} : Tn D n c st [.int a, .int b] (fun vs => call (.builtin "max") vs) (.int (max a b)) st := fun A env B s rs ca p Q E vs hA R q H => by
  have hm : (if b > a then b else a) = max a b := by
    by_cases h : b > a
    · rw [if_pos h, Int.max_eq_right (Int.le_of_lt h)]
    · rw [if_neg h, Int.max_eq_left (Int.not_lt.mp h)]
  apply VRs.two q; intro v u q 
  cases (show VF B v _ from q.1) with
  | int _ t =>
    cases (show VF B u _ from q.2.1) with
    | int _ t' =>
      refine with_size (max_two_ints hA.handled fun h' tk x hsz => ?_)
      refine H.grow R x hsz fun B' e g => ?_
      rw [← hm]
      split
      · exact .of (.int ..)
      · exact .of (.int ..)

theorem VFs.ints {B : Heap} : ∀ {vs : List Value} {ns : List Int}, VFs B vs (ns.map .int) → ∃ xs : Array (Int × Tok), vs = (intItems xs).toList ∧ xs.toList.map (·.1) = ns
  | vs, [], h => by cases h; exact ⟨#[], (by simp [intItems]), rfl⟩
  | vs, k :: ns, h => by
    cases h with
    | cons h1 h2 =>
      cases h1 with
      | int _ t =>
        obtain ⟨xs, rfl, e⟩ := VFs.ints h2
        exact ⟨((k, t) :: xs.toList).toArray, by simp [intItems], by simp [e]⟩
theorem Tn.sum {ns : List Int} : Tn D n c st [.list (ns.map .int)] (fun vs => call (.builtin "sum") vs) (.int ns.sum) st := fun A env B s rs ca p Q E vs hA R q H => by
  apply VRs.one q; intro v q 
  cases (show VF B v _ from q.1) with
  | list hl hvs =>
    rename_i a vs
    obtain ⟨xs, rfl, e⟩ := hvs.ints
    have hl' : s.heap.IsList a (intItems xs) := by simpa using (isList_ext R.ext hl).is
    refine with_size (sum_intListG hA.handled hl' fun h' tk t' x hsz => ?_)
    rw [preSum_eq, List.take_of_length_le (by first | rfl | decide | simp), e]
    exact H.grow R x hsz fun B' e g => .of (.int ..)

theorem VFs.of_get {B : Heap} : ∀ {vs : List Value} {Ws : List V}, vs.length = Ws.length → (∀ (i : Nat) (v : Value) (W : V), vs[i]? = some v → Ws[i]? = some W → VF B v W) → VFs B vs Ws
  | [], [], _, _ => .nil
  | v :: vs, W :: Ws, hl, h => .cons (h 0 v W rfl rfl) (VFs.of_get (by simpa using hl) fun i v W a b => h (i + 1) v W (by simpa using a) (by simpa using b))
  | [], _ :: _, hl, _ => by simp at hl
  | _ :: _, [], hl, _ => by simp at hl
theorem rangeL_get {a b : Int} {i : Nat} {k : Int} (h : (rangeL a b)[i]? = some k) : k = a + i := by
  simp only [rangeL, List.getElem?_map] at h
  cases q : (List.range (b - a).toNat)[i]? with
  | none => rw [q] at h; (first | exact none_some h | exact some_none h | (obtain rfl := Option.some.inj h) | cases h)
  | some j =>
    rw [q] at h
    obtain ⟨hj, e⟩ := List.getElem?_eq_some_iff.mp q
    simp at e
    subst e
    exact (Option.some.inj h).symm
theorem VFs.range {B : Heap} {acc : Array Value} {a b : Int} (h : ItemsOf (fun i v => ∃ t, v = .int (a + i * 1) t) acc (b - a).toNat) : VFs B acc.toList ((rangeL a b).map .int) := by
  refine VFs.of_get (by rw [List.length_map]; simp only [rangeL, List.length_map, List.length_range]; exact h.1) fun i v W hv hW => ?_
  obtain ⟨t, rfl⟩ := h.2 i v (by simpa using hv)
  rw [List.getElem?_map] at hW
  cases q : (rangeL a b)[i]? with
  | none => rw [q] at hW; (first | exact none_some hW | exact some_none hW | (obtain rfl := Option.some.inj hW) | cases hW)
  | some k =>
    rw [q] at hW
    (first | exact none_some hW | exact some_none hW | (obtain rfl := Option.some.inj hW) | cases hW)
    rw [rangeL_get q, Int.mul_one]
    exact .int ..
theorem Ie.range1 {fr e : Expr} {pos : Pos} {k : Nat} (hf : Ex D n c st fr (.raw (.type "range")) st) (ha : Ex D n c st e (.int k) st1) (hk : k < 2 ^ 60)
    (hc : ∀ env : Env, eval (.Call fr [e] [] pos) env = (do callWith pos (← eval fr env) [] (backTo pos (starEach [e] env)) (backToKw pos (keywordEach [] env))) := by intros; rfl)
    (he : ∀ env : Env, starEach [e] env = [(false, eval e env)] := by intros; rfl)
    (hp : ∀ env : Env, (backTo pos (starEach [] env)).any (·.1) = false := by intros; rfl) : Ie D n c st (.Call fr [e] [] pos) ((rangeL 0 k).map .int) st1 := fun A env B s rs ca p Q E hA R H => by
  refine Call_ (hf A env B s rs ca p _ E hA R fun v B1 p1 s1 n1 R1 q1 => ?_) (hc env)
  cases (show VF B1 v (.raw (.type "range")) from q1)
  refine PyProof.Rows.callWith_type1 ((Es.one ha he) A env B1 s1 rs ca p1 _ E pos hA R1 fun vs B2 p2 s2 n2 R2 q2 => ?_) (he env) (hp env)
  apply VRs.one q2; intro v q2 
  cases (show VF B2 v _ from q2.1) with
  | int _ t =>
    refine call_range_1 ?_
    refine wpAny_pyIter_range (IsRange.new ..) (small_one (by omega) (by omega) (by omega) (by omega)) ?_
    obtain ⟨B3, e3, w3, g3, R3⟩ := R2.push { cls := .type "range", data := .fields #[.int 0 s2.toks, .int k t, .int 1 (s2.toks + 1)] } rfl
    have hR : Builtin.Range.rangeSize 0 (k : Int) 1 = ((k : Nat) : Int) := by
      rw [rangeSize_one]
      split
      · omega
      · omega
    rw [hR]
    have R4 := R3.hold (h' := (s2.heap.push { cls := .type "range", data := .fields #[.int 0 s2.toks, .int k t, .int 1 (s2.toks + 1)] }).push { cls := .type "range_iterator", data := .fields #[rawInt 0, rawInt k, rawInt 1] }) (Ext.push _ _) (Nat.le_refl _) (Heap.get?_push_size _ rfl)
    refine H _ [_] (fun i h => IsRangeIter h _ (0 + (i : Nat) * 1) ((k : Int) - (i : Nat)) 1) _ B3 p2 _ ((n1.trans n2).trans ⟨e3, w3, by rw [Heap.size_push, Heap.size_push]; omega, .refl _, rfl, rfl, .refl _, fun _ h => .inl h⟩)
      (walks_weak (Walks.range hA.handled _ 0 1 k) (by simp [rangeL]) fun i v hlt hv => ?_) (fun i h hst => ⟨_, hst⟩) (fun b hb hbI => absurd (List.mem_singleton.mp hb) hbI) ?_ R4
    · obtain ⟨t, rfl⟩ := hv
      exact ⟨.int (i : Int), by simp [rangeL, hlt], by rw [show (0 : Int) + (i : Int) * 1 = i by omega]; exact .int ..⟩
    · have := Heap.get?_push_size (s2.heap.push { cls := .type "range", data := .fields #[.int 0 s2.toks, .int k t, .int 1 (s2.toks + 1)] }) (o := { cls := .type "range_iterator", data := .fields #[rawInt 0, rawInt k, rawInt 1] }) rfl
      simpa [IsRangeIter] using this

theorem Ex.listRange {fl fr x y : Expr} {pos pos' : Pos} {a b : Int} (hf : Ex D n c st fl (.raw (.type "list")) st) (hr : Ex D n c st fr (.raw (.type "range")) st) (hx : Ex D n c st x (.int a) st1) (hy : Ex D n c st1 y (.int b) st2)
    (h0 : 0 ≤ a) (h1 : 0 ≤ b) (h2 : b < 2 ^ 20) (h3 : a < 2 ^ 20)
    (hc : ∀ env : Env, eval (.Call fl [.Call fr [x, y] [] pos'] [] pos) env = (do callWith pos (← eval fl env) [] (backTo pos (starEach [.Call fr [x, y] [] pos'] env)) (backToKw pos (keywordEach [] env))) := by intros; rfl)
    (he : ∀ env : Env, starEach [.Call fr [x, y] [] pos'] env = [(false, eval (.Call fr [x, y] [] pos') env)] := by intros; rfl)
    (hp : ∀ env : Env, (backTo pos (starEach [] env)).any (·.1) = false := by intros; rfl)
    (hc' : ∀ env : Env, eval (.Call fr [x, y] [] pos') env = (do callWith pos' (← eval fr env) [] (backTo pos' (starEach [x, y] env)) (backToKw pos' (keywordEach [] env))) := by intros; rfl)
    (he' : ∀ env : Env, starEach [x, y] env = (false, eval x env) :: starEach [y] env := by intros; rfl)
    (he'' : ∀ env : Env, starEach [y] env = [(false, eval y env)] := by intros; rfl)
    (hp' : ∀ env : Env, (backTo pos' (starEach [y] env)).any (·.1) = false := by intros; rfl) : Ex D n c st (.Call fl [.Call fr [x, y] [] pos'] [] pos) (.list ((rangeL a b).map .int)) st2 := fun A env B s rs ca p Q E hA R H => by
  refine Call_ (hf A env B s rs ca p _ E hA R fun v B1 p1 s1 n1 R1 q1 => ?_) (hc env)
  cases (show VF B1 v (.raw (.type "list")) from q1)
  refine PyProof.Rows.callWith_type1 (wpAny_items_cons (Call_ (hr A env B1 s1 rs ca p1 _ E hA R1 fun v B2 p2 s2 n2 R2 q2 => ?_) (hc' env)) (he env)) (he env) (hp env)
  cases (show VF B2 v (.raw (.type "range")) from q2)
  refine PyProof.Rows.callWith_type1 ((Es.two hx hy (fun env => by rw [he', he'']) he'') A env B2 s2 rs ca p2 _ E pos' hA R2 fun vs B3 p3 s3 n3 R3 q3 => ?_) (he' env) (hp' env)
  apply VRs.two q3; intro v u q3 
  cases (show VF B3 v _ from q3.1) with
  | int _ t =>
    cases (show VF B3 u _ from q3.2.1) with
    | int _ t' =>
      refine call_range_2 (wpAny_items_nil ?_)
      have hn : Builtin.Range.rangeSize a b 1 = ((b - a).toNat : Int) := by
        rw [rangeSize_one]
        split
        · omega
        · omega
      refine with_size (call_list_range hA.handled (IsRange.new ..) (small_one (by omega) (by omega) (by omega) (by omega)) hn (by omega) fun h' tk acc' c' hk hS hI hsz => ?_)
      refine ((H.mono ((n1.trans n2).trans n3))).grow R3 (fun b o e => hk b o (Heap.get?_push_of_some _ e)) (Nat.le_trans post_size hsz) fun B' e g => ?_
      refine .of (.list ⟨c', g _ _ post_size hS⟩ ?_)
      exact VFs.range hI
end
end Mine

open PySem PySem.W PyProof.Rows PySem.Calls
namespace Mine

section
variable {D : Wd} {n : Nat} {c : Cx} {st st1 st2 st3 : St}

/-- a method is looked up -/
def Gm (D : Wd) (c : Cx) (st : St) (W : V) (name : Str) (id : String) : Prop :=
  ∀ (A : Around) (env : Env) (B : Heap) (s : Shared) (rs : List (Addr × Obj)) (ca p : List Addr) (Q : Value × List Value → Shared → Prop) (E : Value → Shared → Prop) (v : Value) (pl : Sem Bool),
    Rep D c env B s.heap rs ca p st → VR B p v W → Q (.builtin id, [v]) s → wpAny (model D.prog D.w) A (getMethod v name pl) Q E s
theorem Gm.join {x : Str} : Gm D c st (.str x) "join" "str.join" := fun A env B s rs ca p Q E v pl R q h => by
  cases (show VF B v _ from q) with
  | str _ t => exact GM.join h
theorem Gm.split {x : Str} : Gm D c st (.str x) "split" "str.split" := fun A env B s rs ca p Q E v pl R q h => by
  cases (show VF B v _ from q) with
  | str _ t => exact GM.split h
theorem Gm.isalnum {x : Str} : Gm D c st (.str x) "isalnum" "str.isalnum" := fun A env B s rs ca p Q E v pl R q h => by
  cases (show VF B v _ from q) with
  | str _ t => exact GM.isalnum h
theorem Gm.translate {x : Str} : Gm D c st (.str x) "translate" "str.translate" := fun A env B s rs ca p Q E v pl R q h => by
  cases (show VF B v _ from q) with
  | str _ t => with_reducible exact GM.of (.str x t) (typeIs_str _ _ _) PySem.F.slot_str_translate PySem.F.type_str_translate GM.noRef h
theorem Gm.count {Ws : List V} : Gm D c st (.list Ws) "count" "list.count" := fun A env B s rs ca p Q E v pl R q h => by
  cases (show VF B v _ from q) with
  | list hl hvs =>
    have hl' := isList_ext R.ext hl
    exact getMethod_list_of PySem.F.slot_list_count PySem.F.type_list_count hl'.is ⟨_, hl'.choose_spec, rfl⟩ h
theorem Gm.append {k : Nat} {Ws : List V} (ho : st.own[k]? = some Ws) : Gm D c st (.own k) "append" "list.append" := fun A env B s rs ca p Q E v pl R q h => by
  obtain ⟨a, ha, rfl⟩ := q
  obtain ⟨vs, hl, _⟩ := R.own.2 k a Ws ha ho
  exact getMethod_list_of slot_list_append type_list_append hl.is ⟨_, hl.choose_spec, rfl⟩ h

theorem callWith_first1 {M : Model} {A : Around} {id : String} {first : List Value} {e : Expr} {rest : List Expr} {pos : Pos} {env : Env} {Q : Value → Shared → Prop} {E : Value → Shared → Prop} {s : Shared}
    (h : wpAny M A (spliced (backTo pos (starEach (e :: rest) env))) (fun vs s₁ => wpAny M A (call (.builtin id) (first ++ vs)) Q E s₁) E s)
    (he : starEach (e :: rest) env = (false, eval e env) :: starEach rest env) (hp : (backTo pos (starEach rest env)).any (·.1) = false) : wpAny M A (callWith pos (.builtin id) first (backTo pos (starEach (e :: rest) env)) []) Q E s := by
  rw [he] at h ⊢
  exact Calls.callWith_builtin (by show (false || (backTo pos (starEach rest env)).any (·.1)) = false; rw [hp]; rfl) (Calls.evalArgs_plain h)
theorem Ex.meth {o e : Expr} {rest : List Expr} {name : Str} {apos pos : Pos} {id : String} {W0 W : V} {Ws : List V} (hov : Ex D n c st o W0 st1) (hg : Gm D c st1 W0 name id) (ha : Es D n c st1 (e :: rest) Ws st2)
    (ho : Tn D n c st2 (W0 :: Ws) (fun vs => call (.builtin id) vs) W st3)
    (hc : ∀ env : Env, eval (.Call (.Attribute o name apos) (e :: rest) [] pos) env = (do
      let ov ← eval o env
      standAt apos.atName
      let (f, first) ← holding [ov] (getMethod ov name (do return (← importBound o env).getD true))
      callWith pos f first (backTo pos (starEach (e :: rest) env)) []) := by intros; rfl)
    (he : ∀ env : Env, starEach (e :: rest) env = (false, eval e env) :: starEach rest env := by intros; rfl)
    (hp : ∀ env : Env, (backTo pos (starEach rest env)).any (·.1) = false := by intros; rfl) : Ex D n c st (.Call (.Attribute o name apos) (e :: rest) [] pos) W st3 := fun A env B s rs ca p Q E hA R H => by
  refine MethodCall_ (hov A env B s rs ca p _ E hA R fun v B1 p1 s1 n1 R1 q1 => hg A env B1 s1 rs ca p1 _ E v _ R1 q1 ?_) (hc env)
  dsimp only
  exact callWith_first1 (ha A env B1 s1 rs ca p1 (fun vs s2 => wpAny (model D.prog D.w) A (call (.builtin id) ([v] ++ vs)) Q E s2) E pos hA R1 fun vs B2 p2 s2 n2 R2 q2 => ho A env B2 s2 rs ca p2 Q E (v :: vs) hA R2 ⟨q1.mono n2.ext n2.pre, q2⟩ (H.mono (n1.trans n2))) (he env) (hp env)
theorem Ex.meth0 {o : Expr} {name : Str} {apos pos : Pos} {id : String} {W0 W : V} (hov : Ex D n c st o W0 st1) (hg : Gm D c st1 W0 name id)
    (ho : Tn D n c st1 [W0] (fun vs => call (.builtin id) vs) W st2)
    (hc : ∀ env : Env, eval (.Call (.Attribute o name apos) [] [] pos) env = (do
      let ov ← eval o env
      standAt apos.atName
      let (f, first) ← holding [ov] (getMethod ov name (do return (← importBound o env).getD true))
      callWith pos f first (backTo pos (starEach [] env)) []) := by intros; rfl) : Ex D n c st (.Call (.Attribute o name apos) [] [] pos) W st2 := fun A env B s rs ca p Q E hA R H => by
  refine MethodCall_ (hov A env B s rs ca p _ E hA R fun v B1 p1 s1 n1 R1 q1 => hg A env B1 s1 rs ca p1 _ E v _ R1 q1 ?_) (hc env)
  dsimp only
  exact Calls.callWith_builtin rfl (evalArgs_nil3 (ho A env B1 s1 rs ca p1 Q E [v] hA R1 ⟨q1, trivial⟩ (H.mono n1)))

theorem Tn.append {k : Nat} {Ws : List V} {W : V} (ho : st.own[k]? = some Ws) (hm : W.isMut = false) (hz : Ws.length ≤ sizeLine) : Tn D n c st [.own k, W] (fun vs => call (.builtin "list.append") vs) .none { st with own := st.own.set k (Ws ++ [W]) } :=
  fun A env B s rs ca p Q E vs hA R q H => by
  apply VRs.two q; intro v u q 
  obtain ⟨⟨a, ha, rfl⟩, qu, _⟩ := q
  obtain ⟨vs, ⟨kk, hl⟩, hvs⟩ := R.own.2 k a Ws ha ho
  refine append_held hl (by rw [hvs.length]; exact hz) fun h' k' hs' e' => ?_
  exact H .none B p _ ⟨.refl B, fun _ _ e => .inl e, Nat.le_of_eq hs'.1.symm, .refl p, rfl, rfl, .refl _, fun _ h => .inl h⟩ (R.setOwn ha (hvs.append (.cons (qu.fz hm) .nil)) hs' ⟨k', e'⟩) (.of .none)

theorem Tn.isalnum {l : List Nat} : Tn D n c st [.str (S l)] (fun vs => call (.builtin "str.isalnum") vs) (.bool (isAlnum l)) st := fun A env B s rs ca p Q E vs hA R q H => by
  apply VRs.one q; intro v q 
  cases (show VF B v _ from q.1) with
  | str _ t =>
    refine SC.isalnum ?_
    rw [show Txt.isalnum (S l) = isAlnum l by simp [Txt.isalnum, isAlnum, S, Str.length]]
    exact H _ B p _ (.refl ..) R (.of (.bool _))

theorem VFs.strs {B : Heap} : ∀ {vs : List Value} {ls : List (List Nat)}, VFs B vs (ls.map fun l => .str (S l)) → StrsAre vs (ls.map S)
  | vs, [], h => by cases h; exact .nil
  | vs, k :: ls, h => by
    cases h with
    | cons h1 h2 =>
      cases h1 with
      | str _ t => exact .cons _ t (VFs.strs h2)
theorem Tn.join {sep : List Nat} {ls : List (List Nat)} (hz : (ls.map List.length).sum + ls.length * sep.length ≤ 16777216) : Tn D n c st [.str (S sep), .list (ls.map fun l => .str (S l))] (fun vs => call (.builtin "str.join") vs) (.str (S (joinL sep ls))) st :=
  fun A env B s rs ca p Q E vs hA R q H => by
  apply VRs.two q; intro v u q 
  cases (show VF B v _ from q.1) with
  | str _ t =>
    cases (show VF B u _ from q.2.1) with
    | list hl hvs =>
      refine join_list (isList_ext R.ext hl).is (hvs.strs) (by rw [List.map_map, List.length_map, S_len]; simpa [Function.comp_def, S_len] using hz) fun t' k => ?_
      rw [join_S]
      exact H _ B p _ .toks R (.of (.str ..))
theorem Tn.joinO {sep : List Nat} {ls : List (List Nat)} {k : Nat} (ho : st.own[k]? = some (ls.map fun l => .str (S l))) (hz : (ls.map List.length).sum + ls.length * sep.length ≤ 16777216) : Tn D n c st [.str (S sep), .own k] (fun vs => call (.builtin "str.join") vs) (.str (S (joinL sep ls))) st :=
  fun A env B s rs ca p Q E vs hA R q H => by
  apply VRs.two q; intro v u q 
  cases (show VF B v _ from q.1) with
  | str _ t =>
    obtain ⟨a, ha, rfl⟩ := q.2.1
    obtain ⟨us, hl, hvs⟩ := R.own.2 k a _ ha ho
    refine join_list hl.is (hvs.strs) (by rw [List.map_map, List.length_map, S_len]; simpa [Function.comp_def, S_len] using hz) fun t' k => ?_
    rw [join_S]
    exact H _ B p _ .toks R (.of (.str ..))
theorem count_S (x : List Nat) : ∀ ls : List (List Nat), PySem.Spec.countIn (.str (S x)) ((ls.map S).map PySem.PyData.str) = ls.count x
  | [] => rfl
  | y :: r => by
    rw [List.map_cons, List.map_cons, PySem.Spec.countIn, count_S x r, List.count_cons]
    have : PySem.Spec.same (.str (S y)) (.str (S x)) = decide (y = x) := (show _ = (S y == S x) from by first | rfl | simp [PySem.Spec.same]).trans (S_beq y x)
    rw [this]
    by_cases h : y = x
    · subst h; simp; lia
    · simp [h]
theorem Tn.count {ls : List (List Nat)} {x : List Nat} : Tn D n c st [.list (ls.map fun l => .str (S l)), .str (S x)] (fun vs => call (.builtin "list.count") vs) (.int (ls.count x)) st :=
  fun A env B s rs ca p Q E vs hA R q H => by
  apply VRs.two q; intro v u q 
  cases (show VF B v _ from q.1) with
  | list hl hvs =>
    cases (show VF B u _ from q.2.1) with
    | str _ t =>
      refine count_list_strs (isList_ext R.ext hl).is hvs.strs ?_
      have e := count_S x ls
      rw [e]
      exact H _ B p _ .toks R (.of (.int ..))

/-- how many parts a split gives -/
theorem Ex.lenSplit {fl o e : Expr} {apos pos pos' : Pos} {l : List Nat} (hf : Ex D n c st fl (.raw (.builtin "len")) st) (hov : Ex D n c st o (.str (S l)) st1) (ha : Ex D n c st1 e (.str (S [44])) st2) (hz : l.length + 2 ≤ sizeLine)
    (hc : ∀ env : Env, eval (.Call fl [.Call (.Attribute o "split" apos) [e] [] pos'] [] pos) env = (do callWith pos (← eval fl env) [] (backTo pos (starEach [.Call (.Attribute o "split" apos) [e] [] pos'] env)) (backToKw pos (keywordEach [] env))) := by intros; rfl)
    (he : ∀ env : Env, starEach [.Call (.Attribute o "split" apos) [e] [] pos'] env = [(false, eval (.Call (.Attribute o "split" apos) [e] [] pos') env)] := by intros; rfl)
    (hp : ∀ env : Env, (backTo pos (starEach [] env)).any (·.1) = false := by intros; rfl)
    (hc' : ∀ env : Env, eval (.Call (.Attribute o "split" apos) [e] [] pos') env = (do
      let ov ← eval o env
      standAt apos.atName
      let (f, first) ← holding [ov] (getMethod ov "split" (do return (← importBound o env).getD true))
      callWith pos' f first (backTo pos' (starEach [e] env)) []) := by intros; rfl)
    (he' : ∀ env : Env, starEach [e] env = [(false, eval e env)] := by intros; rfl) : Ex D n c st (.Call fl [.Call (.Attribute o "split" apos) [e] [] pos'] [] pos) (.int (commas l)) st2 := fun A env B s rs ca p Q E hA R H => by
  refine Call_ (hf A env B s rs ca p _ E hA R fun v B1 p1 s1 n1 R1 q1 => ?_) (hc env)
  cases (show VF B1 v (.raw (.builtin "len")) from q1)
  refine PyProof.Rows.callWith_builtin1 (wpAny_items_cons (MethodCall_ (hov A env B1 s1 rs ca p1 _ E hA R1 fun v B2 p2 s2 n2 R2 q2 => Gm.split A env B2 s2 rs ca p2 _ E v _ R2 q2 ?_) (hc' env)) (he env)) (he env) (hp env)
  dsimp only
  refine callWith_first1 ((Es.one ha he') A env B2 s2 rs ca p2 _ E pos' hA R2 fun vs B3 p3 s3 n3 R3 q3 => ?_) (he' env) rfl
  cases (show VF B2 v _ from q2) with
  | str _ t =>
    apply VRs.one q3; intro u q3 
    cases (show VF B3 u _ from q3.1) with
    | str _ t' =>
      show wpAny _ A (call (.builtin "str.split") [.str (S l) t, .str (S [44]) t']) _ E s3
      have hocc := StrLaws.occ_length_le (S l) (S [44]) 0 (S l).length ((S l).length + 1)
      refine SCG.split1 (Fm := fun s' => ∃ h' tk, s' = { s3 with heap := h', toks := tk } ∧ Ext s3.heap h' ∧ s3.heap.objs.size ≤ h'.objs.size) (fun s' o tk h => ?_) ⟨s3.heap, s3.toks, rfl, .refl _, Nat.le_refl _⟩ (by rfl) (fun Dd ls s' hls hF hI => ?_) (hsz := by rw [S_len]; lia) (hsz2 := by rw [length_partsBetween]; rw [S_len] at hocc; rw [S_len]; lia)
      · obtain ⟨h', tk', rfl, x, hs⟩ := h
        exact ⟨_, _, rfl, fun b o e => Heap.get?_push_of_some _ (x b o e), Nat.le_trans hs (by show _ ≤ (h'.push _).objs.size; rw [Heap.size_push]; exact Nat.le_succ _)⟩
      · obtain ⟨h', tk', rfl, x, hs⟩ := hF
        have hlen : ls.length = commas l := by
          unfold commas; rw [← hls, List.length_map]
        have hle : commas l ≤ l.length + 2 := by
          unfold commas Txt.split
          split
          · simp
          · split
            · simp
            · rw [length_partsBetween]; rw [S_len] at hocc; rw [S_len]; lia
        refine wpAny_items_nil (Calls.call_len_list hI (by simp [strValues, hlen]; have : sizeLine < 2 ^ 62 := by decide
                                                           lia) ?_)
        rw [show (strValues ls).toArray.size = commas l by simp [strValues, hlen]]
        exact (H.mono ((n1.trans n2).trans n3)).grow R3 x hs fun B' e g => .of (.int ..)
end
end Mine

open PySem PySem.W PyProof.Rows PySem.Calls
namespace Mine

namespace Ob
theorem mro_object : mroOf (.type "object") = pure [.type "object"] := by rw [mroOf_type]; kernel_rfl
theorem lookup_object_new : typeLookup (.type "object") "__new__" = pure (some (.builtin "object.__new__")) := by rw [typeLookup_type, builtinLookup_eq_fast]; kernel_rfl
theorem slot_object_init : Slot "object" "__init__" "object.__init__" :=
  .of (owner := "object") (n := "__init__") (by rw [typeLookup_type, builtinLookup_eq_fast]; kernel_rfl) (by decide +kernel) (by decide +kernel) (by decide +kernel)
    (by first | exact .inl (by decide +kernel) | exact .inr (by decide +kernel)) (by rw [isSubtype_type]; kernel_rfl)
theorem called_object : TypeCalled "object" "object.__new__" "object.__init__" :=
  ⟨by decide +kernel, by decide +kernel, ⟨_, _, mro_object⟩, madeBy_type mro_object lookup_object_new (by decide +kernel), by decide +kernel, by rw [isSubtype_type]; kernel_rfl, slot_object_init⟩
theorem typeCall_object_0 : checkTypeCall "object" ⟨[], []⟩ = pure () := by kernel_rfl
theorem newCall_object_0 : checkBuiltinCall "object.__new__" ⟨[.type "object"], []⟩ = pure () := by kernel_rfl
theorem initArgs_object_0 (obj : Value) : argsOk "object.__init__" ⟨[obj], []⟩ := by
  unfold argsOk; rw [signature?_of (id := "object.__init__") (n := ['_', '_', 't', 'i', 'n', 'i', '_', '_']) (o := ['t', 'c', 'e', 'j', 'b', 'o']) (by kernel_rfl) F.owner_object]; kernel_rfl
theorem meets_init (obj : Value) : Meets (Builtin.«object.__init__» ⟨[obj], []⟩) (fun A R s => R (.ok (.ret .none)) s) := by
  refine Meets.of_wp fun prog w A R s h => ?_
  exact wpAny_pure ⟨_, rfl, h⟩
theorem new_tree : Builtin.«object.__new__» ⟨[.type "object"], []⟩ = (do let v ← newObj (.type "object") .plain none; ret v) := by kernel_rfl
theorem meets_new : Meets (Builtin.«object.__new__» ⟨[.type "object"], []⟩) (fun A R s => R (.ok (.ret (.ref s.heap.objs.size))) { s with heap := s.heap.push ⟨.type "object", none, .plain, #[]⟩ }) := by
  refine Meets.of_wp fun prog w A R s h => ?_
  rw [new_tree]
  refine wpAny_bind (wpAny_newObj_type (wpAny_pure ⟨_, rfl, h⟩) trivial)
theorem call_object {prog : Program} {w : World} {A : Around} {E : Value → Shared → Prop} {s : Shared} {Q : Value → Shared → Prop} (h : Q (.ref s.heap.objs.size) { s with heap := s.heap.push ⟨.type "object", none, .plain, #[]⟩ }) :
    wpAny (model prog w) A (call (.type "object") []) Q E s := by
  refine callType_meets (Q₁ := fun v s' => v = .ref s.heap.objs.size ∧ s' = { s with heap := s.heap.push ⟨.type "object", none, .plain, #[]⟩ }) called_object typeCall_object_0 newCall_object_0 F.entry_object_new F.entry_object_init meets_new ⟨rfl, rfl⟩ ?_
  rintro obj s₁ ⟨rfl, rfl⟩
  exact ⟨⟨_, Heap.get?_push_size _ rfl, rfl⟩, initArgs_object_0 _, _, meets_init _, rfl, h⟩
end Ob

section
variable {D : Wd} {n : Nat} {c : Cx} {st st1 st2 st3 st4 : St}

/-- an object of no kind: a new address -/
theorem Ex.object {fe : Expr} {pos : Pos} (hf : Ex D n c st fe (.raw (.type "object")) st)
    (hc : ∀ env : Env, eval (.Call fe [] [] pos) env = (do callWith pos (← eval fe env) [] (backTo pos (starEach [] env)) (backToKw pos (keywordEach [] env))) := by intros; rfl) :
    ∀ (A : Around) (env : Env) (B : Heap) (s : Shared) (rs : List (Addr × Obj)) (ca p : List Addr) (Q : Value → Shared → Prop) (E : Value → Shared → Prop),
    Room n A → Rep D c env B s.heap rs ca p st → (∀ a, Post D c env s B rs ca p (.raw (.ref a)) st Q) → wpAny (model D.prog D.w) A (eval (.Call fe [] [] pos) env) Q E s := fun A env B s rs ca p Q E hA R H => by
  refine Call_ (hf A env B s rs ca p _ E hA R fun v B1 p1 s1 n1 R1 q1 => ?_) (hc env)
  cases (show VF B1 v (.raw (.type "object")) from q1)
  exact callWith_type0 (Ob.call_object (((H _).mono n1).grow R1 (tk := s1.toks) (Ext.push _ _) post_size fun B' e g => .of (.raw _)))

/-- stores in a row -/
inductive Stos (D : Wd) (n : Nat) (c : Cx) : St → List (Str × V) → St → Prop
  | nil {st : St} : Stos D n c st [] st
  | cons {st st1 st2 : St} {x : Str} {W : V} {l : List (Str × V)} : Sto D n c st x W st1 → Stos D n c st1 l st2 → Stos D n c st ((x, W) :: l) st2

theorem Stos.go {α : Type} {nm : α → Str} {xs : List α} {Ws : List V} {f : Env → α → Value → Sem Unit} (hf : ∀ (A : Around) (env : Env) (s : Shared) (Q : Unit → Shared → Prop) (E : Value → Shared → Prop) (x : α) (v : Value), wpAny (model D.prog D.w) A (storeName env (nm x) v) Q E s → wpAny (model D.prog D.w) A (f env x v) Q E s) :
    ∀ {st st1 : St}, xs.length = Ws.length → Stos D n c st ((xs.map nm).zip Ws) st1 → ∀ (A : Around) (env : Env) (B : Heap) (s : Shared) (rs : List (Addr × Obj)) (ca p : List Addr) (Q : Unit → Shared → Prop) (E : Value → Shared → Prop) (vs : List Value),
      Room n A → Rep D c env B s.heap rs ca p st → VRs B p vs Ws → (∀ s', Nx s s' B B p p → Rep D c env B s'.heap rs ca p st1 → Q () s') → wpAny (model D.prog D.w) A (assignInOrder (xs.map (f env)) vs) Q E s := by
  induction xs generalizing Ws with
  | nil =>
    intro st st1 hl h A env B s rs ca p Q E vs hA R q H
    cases Ws with
    | nil => (first | exact none_some h | exact some_none h | (obtain rfl := Option.some.inj h) | cases h); exact assignInOrder_nil (H s (.refl ..) R)
    | cons _ _ => simp at hl
  | cons x xs ih =>
    intro st st1 hl h A env B s rs ca p Q E vs hA R q H
    cases Ws with
    | nil => simp at hl
    | cons W Ws =>
      cases vs with
      | nil => exact q.elim
      | cons v vs =>
        rw [List.map_cons, List.zip_cons_cons] at h
        cases h with
        | cons hs hr =>
          refine assignInOrder_cons (hf A env s _ E x v (hs A env B s rs ca p _ E v hA R q.1 fun s1 n1 R1 => ?_))
          exact ih (by simpa using hl) hr A env B s1 rs ca p Q E vs hA R1 (q.2.mono n1.ext n1.pre) fun s2 n2 R2 => H s2 (n1.trans n2) R2

theorem VRs.rev {B : Heap} {p : List Addr} : ∀ {vs : List Value} {Ws : List V}, VRs B p vs Ws → ∀ {us : List Value} {Us : List V}, VRs B p us Us → VRs B p (vs.reverse ++ us) (Ws.reverse ++ Us)
  | [], [], _, _, _, h => h
  | v :: vs, W :: Ws, h, us, Us, h' => by
    rw [List.reverse_cons, List.reverse_cons, List.append_assoc, List.append_assoc]
    exact VRs.rev h.2 (us := v :: us) (Us := W :: Us) ⟨h.1, h'⟩
  | [], _ :: _, h, _, _, _ => h.elim
  | _ :: _, [], h, _, _, _ => h.elim

/-- (x, y) = (.., ..): the names stored from the last -/
theorem S1.tupSwap {elts es : List Expr} {k k' : Nat} {tpos vpos pos : Pos} {names : List Str} {Ws : List V} (h : Es D n c st es Ws st1) (hl : Ws.length = names.length) (hs : Stos D n c st1 (names.reverse.zip Ws.reverse) st2) (hz : Ws.length ≤ sizeLine)
    (hw : ∀ env : Env, env.scope = c.scope → swappedStores [.Tuple elts k tpos] (.Tuple es k' vpos) env = pure (some names))
    (hsw : ∀ env : Env, swapsWithSole [.Tuple elts k tpos] (.Tuple es k' vpos) pos.line env = pure false := by intros; rfl) :
    S1 D n c st (.Assign [.Tuple elts k tpos] (.Tuple es k' vpos) pos) .next st2 := fun A env B s rs ca p Q E hA R H => by
  refine Assign_Tuple_swapped (names := names) (wpAny_Tuple (h A env B s rs ca p _ E vpos hA R fun vs B1 p1 s1 n1 R1 q1 => ⟨by rw [q1.length]; exact hz, ?_⟩)) (hsw env) (hw env R.scope)
  have hT : IsTup (s1.heap.push { cls := .type "tuple", data := .seq vs.toArray }) s1.heap.objs.size vs.toArray := ⟨_, Heap.get?_push_size _ rfl, rfl, 0, rfl⟩
  have hlen : names.length = vs.toArray.size := by rw [List.size_toArray, q1.length, hl]
  rw [hlen]
  refine with_size (unpackItems_tuple hA.handled hT fun h' he hsz => ?_)
  dsimp only at he hsz ⊢
  have x : Ext s1.heap h' := fun b o e => he b o (Nat.ne_of_lt (Nat.lt_of_lt_of_le (Heap.lt_size e) post_size)) (Heap.get?_push_of_some _ e)
  obtain ⟨B2, e2, w2, g2, R2⟩ := R1.grow x
  have n2 : Nx s1 { s1 with heap := h' } B1 B2 p1 p1 := ⟨e2, w2, Nat.le_trans post_size hsz, .refl _, rfl, rfl, .refl _, fun _ h => .inl h⟩
  have q2 : VRs B2 p1 vs.reverse Ws.reverse := by simpa using VRs.rev (q1.mono e2 (.refl p1)) (us := []) (Us := []) trivial
  exact Stos.go (nm := id) (f := fun env x => bindName env x) (fun A env s Q E x v h => wpAny_bindName h) (by simp [hl]) (by rw [List.map_id]; exact hs) A env B2 _ rs ca p1 _ E _ hA R2 q2 fun s3 n3 R3 => H .next B2 p1 s3 ((n1.trans n2).trans n3) R3 trivial

/-- names at their places -/
def namesOf : List Expr → List (Str × Pos)
  | .Name x p :: r => (x, p) :: namesOf r
  | _ => []
theorem assignEach_names : ∀ (l : List (Str × Pos)) (env : Env), assignEach (l.map fun y => Expr.Name y.1 y.2) env = l.map fun y => (false, PySem.assign (.Name y.1 y.2) env)
  | [], env => rfl
  | y :: r, env => by
    rw [List.map_cons, List.map_cons, ← assignEach_names r env]; rfl
/-- (x, y) = (.., ..): the names stored from the first -/
theorem S1.tupPlain {es : List Expr} {l : List (Str × Pos)} {k k' : Nat} {tpos vpos pos : Pos} {Ws : List V} (h : Es D n c st es Ws st1) (hl : Ws.length = l.length) (hs : Stos D n c st1 ((l.map (·.1)).zip Ws) st2) (hz : Ws.length ≤ sizeLine)
    (hw : ∀ env : Env, env.scope = c.scope → swappedStores [.Tuple (l.map fun y => Expr.Name y.1 y.2) k tpos] (.Tuple es k' vpos) env = pure none)
    (hsw : ∀ env : Env, swapsWithSole [.Tuple (l.map fun y => Expr.Name y.1 y.2) k tpos] (.Tuple es k' vpos) pos.line env = pure false := by intros; rfl) :
    S1 D n c st (.Assign [.Tuple (l.map fun y => Expr.Name y.1 y.2) k tpos] (.Tuple es k' vpos) pos) .next st2 := fun A env B s rs ca p Q E hA R H => by
  refine Assign_Tuple (wpAny_Tuple (h A env B s rs ca p _ E vpos hA R fun vs B1 p1 s1 n1 R1 q1 => ⟨by rw [q1.length]; exact hz, ?_⟩)) (hsw env) (hw env R.scope)
  have hT : IsTup (s1.heap.push { cls := .type "tuple", data := .seq vs.toArray }) s1.heap.objs.size vs.toArray := ⟨_, Heap.get?_push_size _ rfl, rfl, 0, rfl⟩
  have hlen : (assignEach (l.map fun y => Expr.Name y.1 y.2) env).length = vs.toArray.size := by rw [assignEach_names, List.length_map, List.size_toArray, q1.length, hl]
  refine (assign_Tuple_tuple hA.handled hT hlen (by
    rw [assignEach_names]
    clear hw hsw hs hl hlen
    induction l with
    | nil => rfl
    | cons y r ih => simp [List.findIdx?_cons]) fun h' he => ?_)
  dsimp only at he ⊢
  have x : Ext s1.heap h' := fun b o e => he b o (Nat.ne_of_lt (Nat.lt_of_lt_of_le (Heap.lt_size e) post_size)) (Heap.get?_push_of_some _ e)
  have hsz : s1.heap.objs.size ≤ h'.objs.size := Nat.le_of_lt (Heap.lt_size (he s1.heap.objs.size _ (by rw [Heap.size_push]; exact Nat.ne_of_lt (Nat.lt_succ_self _)) (Heap.get?_push_size _ rfl)))
  obtain ⟨B2, e2, w2, g2, R2⟩ := R1.grow x
  have n2 : Nx s1 { s1 with heap := h' } B1 B2 p1 p1 := ⟨e2, w2, hsz, .refl _, rfl, rfl, .refl _, fun _ h => .inl h⟩
  rw [assignEach_names, List.map_map]
  exact Stos.go (nm := fun y : Str × Pos => y.1) (f := fun env y => PySem.assign (.Name y.1 y.2) env) (fun A env s Q E x v h => wpAny_assign_Name h) (by simp [hl]) hs A env B2 _ rs ca p1 _ E _ hA R2 (q1.mono e2 (.refl p1)) fun s3 n3 R3 => H .next B2 p1 s3 ((n1.trans n2).trans n3) R3 trivial

/-- an assert that holds -/
theorem S1.asrt {t : Expr} {m : Option Expr} {pos : Pos} (h : Tr D n c st t true st1) : S1 D n c st (.Assert t m pos) .next st1 := fun A env B s rs ca p Q E hA R H =>
  wpAny_Assert_holds (h A env B s rs ca p _ E hA R fun B1 p1 s1 n1 R1 => ⟨rfl, H .next B1 p1 s1 n1 R1 trivial⟩)

/-- an item of a plain list is set: the object after it -/
theorem setItem_held {A : Around} {s : Shared} {l : Addr} {us : List Value} {kk : Nat} {k : Int} {t : Tok} {v : Value} {Q : Unit → Shared → Prop} {E : Value → Shared → Prop} (hl : s.heap.get? l = some (⟨.type "list", none, .seq us.toArray kk, #[]⟩ : Obj))
    (h0 : 0 ≤ k) (hfit : k < 2 ^ 63) (hj : k.toNat < us.length)
    (h : ∀ h' k', Heap.SameBut l s.heap h' → h'.get? l = some (⟨.type "list", none, .seq (us.set k.toNat v).toArray k', #[]⟩ : Obj) → Q () { s with heap := h' }) : wpAny (model D.prog D.w) A (setItem (.ref l) (.int k t) v) Q E s := by
  have hI : s.heap.IsList l us.toArray := ⟨_, hl, rfl, kk, rfl⟩
  have hl' := hl
  generalize hob : (⟨.type "list", none, .seq us.toArray kk, #[]⟩ : Obj) = ob at hl'
  have hd : ob.data = .seq us.toArray kk := by rw [← hob]
  unfold setItem
  try with_reducible refine wpAny_holding ?_
  first | refine wpAny_bind (wpAny_pure ?_) | skip
  refine wpAny_bind (wpAny_sequenceKey hI.typeIs (by decide) ?_)
  refine wpAny_bind (wpAny_callSpecial?_slot (name := Str.ofString "__setitem__") hI.typeIs slot_list_setitem
    (wpAny_call_entry slot_list_setitem hI.typeIs entry_list_setitem ?_ (args_list_setitem _ _ _)))
  show wpAny _ _ (Builtin.List.listSubscript? (.int k t) >>= _) _ _ s
  refine wpAny_bind (wpAny_listSubscript_int (fitsIndex_of h0 hfit) ?_)
  clear hfit
  obtain ⟨j, rfl⟩ := Int.eq_ofNat_of_zero_le h0
  have hx : us.toArray[j]? = some us[j] := by
    have : j < us.length := hj
    simp [this]
  have fin := h (s.heap.update l (Obj.mapSeq (·.setIfInBounds j v))) _ (Heap.SameBut.update ..) (by
    have e := PySem.IsL.update hl (fun x => x.setIfInBounds j v)
    simpa using e)
  show wpAny _ _ ((seqItemAt l j >>= fun r => pure (r.map (j, ·))) >>= _) _ _ s
  refine wpAny_bind (wpAny_bind (wpAny_seqItemAt hl' hd (wpAny_pure ?_)))
  rw [hx]
  show wpAny _ _ (setSeqItemAt l j v >>= _) _ _ s
  refine wpAny_bind (wpAny_setSeqItemAt hl' hd ?_)
  first
    | exact wpAny_bind (wpAny_pure (wpAny_pure ⟨.none, rfl, wpAny_pure fin⟩))
    | exact wpAny_pure ⟨.none, rfl, wpAny_pure fin⟩

/-- order[i] = v -/
theorem S1.setItem {o i value : Expr} {pos' pos : Pos} {k : Nat} {Ws : List V} {j : Int} {W : V} (hv : Ex D n c st value W st1) (ho : Ex D n c st1 o (.own k) st2) (hi : Ex D n c st2 i (.int j) st3) (hw : st3.own[k]? = some Ws) (hm : W.isMut = false)
    (h0 : 0 ≤ j) (h1 : j < Ws.length) (h2 : Ws.length ≤ sizeLine) (he : st4 = { st3 with own := st3.own.set k (Ws.set j.toNat W) })
    (hs : ∀ env : Env, swapsWith value (some (.Subscript o i pos')) pos.line env = pure false := by intros; rfl) : S1 D n c st (.Assign [.Subscript o i pos'] value pos) .next st4 := fun A env B s rs ca p Q E hA R H => by
  subst he
  refine wpAny_Assign_Subscript (hv A env B s rs ca p _ E hA R fun v B1 p1 s1 n1 R1 q1 => ho A env B1 s1 rs ca p1 _ E hA R1 fun ov B2 p2 s2 n2 R2 q2 => hi A env B2 s2 rs ca p2 _ E hA R2 fun iv B3 p3 s3 n3 R3 q3 => ?_) (hs env)
  obtain ⟨a, ha, rfl⟩ := q2
  obtain ⟨us, ⟨kk, hl⟩, hus⟩ := R3.own.2 k a Ws (n3.pre _ _ ha) hw
  cases (show VF B3 iv _ from q3) with
  | int _ t =>
    have hfit : j < 2 ^ 63 := by have := sizeLine_eq; lia
    refine setItem_held hl h0 hfit (by rw [hus.length]; lia) fun h' k' hs' e' => ?_
    refine H .next B3 p3 _ (((n1.trans n2).trans n3).trans ⟨.refl _, fun _ _ e => .inl e, Nat.le_of_eq hs'.1.symm, .refl _, rfl, rfl, .refl _, fun _ h => .inl h⟩) (R3.setOwn (n3.pre _ _ ha) ?_ hs' ⟨k', e'⟩) trivial
    exact hus.set j.toNat ((q1.mono (n2.ext.trans n3.ext) (n2.pre.trans n3.pre)).fz hm)

/-- an f-string's parts -/
inductive Fs (D : Wd) (n : Nat) (c : Cx) : St → List Expr → List (List Nat) → St → Prop
  | nil {st : St} : Fs D n c st [] [] st
  | cons {st st1 st2 : St} {e : Expr} {es : List Expr} {x : List Nat} {xs : List (List Nat)} : Ex D n c st e (.str (S x)) st1 → Fs D n c st1 es xs st2 → Fs D n c st (e :: es) (x :: xs) st2
theorem Ex.fmt {e : Expr} {pos : Pos} {l : List Nat} (h : Ex D n c st e (.str (S l)) st1) (hz : l.length ≤ sizeLine) : Ex D n c st (.FormattedValue e (-1) Option.none pos) (.str (S l)) st1 := fun A env B s rs ca p Q E hA R H =>
  FormattedValue_plain (h A env B s rs ca p _ E hA R fun v B1 p1 s1 n1 R1 q1 => by
    cases (show VF B1 v _ from q1) with
    | str _ t => exact formatField_str (fun t' tk => H _ B1 p1 _ (n1.trans .toks) R1 (.of (.str ..))) (by rw [S_len]; exact hz))
theorem Fs.go {es : List Expr} {xs : List (List Nat)} (h : Fs D n c st es xs st1) : ∀ (acc : List Nat), acc.length + xs.flatten.length ≤ sizeLine → ∀ (A : Around) (env : Env) (B : Heap) (s : Shared) (rs : List (Addr × Obj)) (ca p : List Addr) (Q : Str → Shared → Prop) (E : Value → Shared → Prop),
    Room n A → Rep D c env B s.heap rs ca p st → (∀ B' p' s', Nx s s' B B' p p' → Rep D c env B' s'.heap rs ca p' st1 → Q (S (acc ++ xs.flatten)) s') → Joins (model D.prog D.w) A E (evalEach es env) (S acc) Q s := by
  induction h with
  | nil =>
    intro acc _ A env B s rs ca p Q E hA R H
    have := H B p s (.refl ..) R
    rw [List.flatten_nil, List.append_nil] at this
    exact this
  | @cons st st1 st2 e es x xs hx hr ih =>
    intro acc hz A env B s rs ca p Q E hA R H
    rw [List.flatten_cons, List.length_append] at hz
    show wpAny _ A (eval e env) _ E s
    refine hx A env B s rs ca p _ E hA R fun v B1 p1 s1 n1 R1 q1 => ?_
    cases (show VF B1 v _ from q1) with
    | str _ t =>
      refine ⟨S x, t, rfl, by rw [S_append, S_len, List.length_append]; lia, ?_⟩
      rw [S_append]
      refine ih (acc ++ x) (by rw [List.length_append]; lia) A env B1 s1 rs ca p1 Q E hA R1 fun B2 p2 s2 n2 R2 => ?_
      have := H B2 p2 s2 (n1.trans n2) R2
      rw [List.flatten_cons, ← List.append_assoc] at this
      exact this
theorem Ex.joined {e1 e2 : Expr} {rest : List Expr} {pos : Pos} {xs : List (List Nat)} {l : List Nat} (h : Fs D n c st (e1 :: e2 :: rest) xs st1) (hl : xs.flatten = l) (hz : l.length ≤ sizeLine) : Ex D n c st (.JoinedStr (e1 :: e2 :: rest) pos) (.str (S l)) st1 := fun A env B s rs ca p Q E hA R H => by
  subst hl
  refine wpAny_JoinedStr ?_
  refine h.go [] (by simpa using hz) A env B s rs ca p _ E hA R fun B1 p1 s1 n1 R1 => ⟨by rw [S_len]; exact hz, ?_⟩
  exact H _ B1 p1 _ (n1.trans .toks) R1 (.of (.str ..))

theorem Tn.isinst {x : Str} : Tn D n c st [.str x, .raw (.type "str")] (fun vs => call (.builtin "isinstance") vs) (.bool true) st := fun A env B s rs ca p Q E vs hA R q H => by
  apply VRs.two q; intro v u q 
  cases (show VF B v _ from q.1) with
  | str _ t =>
    cases (show VF B u (.raw (.type "str")) from q.2.1)
    exact IsiPair.str_str (H _ B p _ (.refl ..) R (.of (.bool _)))

theorem T2.iadd {a b : Int} : T2 D n c st (.int a) (.int b) (fun _ => inplaceOp .Add) (.int (a + b)) st := T2.mk fun A env B s rs ca p Q E v u _ R q r H => by
  cases (show VF B v _ from q); cases (show VF B u _ from r)
  with_reducible refine PyProof.Rows.iadd_int ?_
  exact H _ B p _ .toks R (.of (.int ..))
theorem T2.isub {a b : Int} : T2 D n c st (.int a) (.int b) (fun _ => inplaceOp .Sub) (.int (a - b)) st := T2.mk fun A env B s rs ca p Q E v u _ R q r H => by
  cases (show VF B v _ from q); cases (show VF B u _ from r)
  with_reducible refine PyProof.Rows.isub_int ?_
  exact H _ B p _ .toks R (.of (.int ..))
end
end Mine

open PySem PySem.W PyProof.Rows PySem.Calls
namespace Mine

def bodyOf (i : Nat) : List Stmt := match stm i with
  | .FunctionDef _ _ body _ _ _ _ _ _ _ => body
  | _ => []
def scopeOf (i : Nat) : Scope := match stm i with
  | .FunctionDef _ _ _ _ _ _ scope _ _ _ => scope
  | _ => default

/-- what we stand on: the written part, the names at the top -/
structure Std (D : Wd) : Prop where
  prog : D.prog = P0
  K : D.K = K0
  codes : D.codes = codes0
  glob : ∀ p ∈ glob0, D.mg p.1 = p.2
  blt : ∀ p ∈ blt0, D.mb p.1 = p.2

/-- a def of the text -/
theorem Std.defAt {D : Wd} (X : Std D) (k j i : Nat) {f : Addr} {mod : Str} {tok : Tok} {code : Addr} {dflt : Value} {c : Cx} {ps : List Str}
    (hK : K0[k]? = some (f, fnO i mod tok code dflt)) (hl : K0.lookup f = some (fnO i mod tok code dflt)) (hc : codes0[j]? = some (code, (fdO i mod tok code dflt).qualname)) (hcode : (fdO i mod tok code dflt).code = .ref code)
    (h1 : (fdO i mod tok code dflt).scope = c.scope) (h2 : (fdO i mod tok code dflt).globals = mainGlobals) (h3 : (fdO i mod tok code dflt).builtins = builtinsNs) (h4 : (fdO i mod tok code dflt).closure = []) (h5 : (fdO i mod tok code dflt).body = .stmts (bodyOf i))
    (hb : ∀ vals : List Value, vals.length = ps.length → bindArgs (fdO i mod tok code dflt) ⟨vals, []⟩ = pure (ps.zip vals)) (h6 : (fdO i mod tok code dflt).scope.isCoroutine = false) (h7 : (fdO i mod tok code dflt).scope.isGenerator = false) (h8 : (fdO i mod tok code dflt).scope.kind = .function)
    (kinds : ∀ x ∈ ps, c.scope.names.lookup x = some .local ∨ c.scope.names.lookup x = some .cell) (pnd : ps.Nodup) (lnd : c.ln.Nodup) (cnd : c.cn.Nodup) (ln : ∀ x ∈ c.ln, c.scope.names.lookup x = some .local) (cn : ∀ x ∈ c.cn, c.scope.names.lookup x = some .cell) : DefAt D f c ps (bodyOf i) where
  ex := ⟨_, _, by rw [X.K]; exact hl, rfl, ⟨code, hcode, by rw [X.codes]; exact List.mem_of_getElem? hc⟩, h1, h2, h3, h4, h5, fun A Q E s vals _ hz q => by rw [hb vals hz, List.append_nil] at *; exact wpAny_pure q, h6, h7, h8⟩
  kinds := kinds
  pnd := pnd
  lnd := lnd
  cnd := cnd
  ln := ln
  cn := cn

section
variable {D : Wd} {n : Nat} {c : Cx} {st st1 st2 st3 : St}
theorem Ex.l (i : Nat) {x : Str} {pos : Pos} {W : V} (hx : c.ln[i]? = some x := by rfl) (hv : st.loc[i]? = some (some W) := by rfl) (hl : c.scope.names.lookup x = some .local := by rfl)
    (hd : (x == ("__debug__" : Str)) = false := by rfl) : Ex D n c st (.Name x pos) W st := Ex.loc i hx hv hl hd
theorem Ex.k (i : Nat) {x : Str} {pos : Pos} {W : V} (hx : c.cn[i]? = some x := by rfl) (hv : st.cel[i]? = some (some W) := by rfl) (hl : c.scope.names.lookup x = some .cell ∨ c.scope.names.lookup x = some .free := by first | exact .inl rfl | exact .inr rfl)
    (hd : (x == ("__debug__" : Str)) = false := by rfl) (hd' : (x == ("__classdict__" : Str)) = false := by rfl) : Ex D n c st (.Name x pos) W st := Ex.cel i hx hv hl hd hd'
theorem Ex.g (X : Std D) (k : Nat) {x : Str} {pos : Pos} {v : Value} (hk : glob0[k]? = some (x, some v) := by rfl) (hl : c.scope.names.lookup x = some .globalImplicit := by rfl) (hd : (x == ("__debug__" : Str)) = false := by rfl) : Ex D n c st (.Name x pos) (.raw v) st :=
  Ex.glob (X.glob _ (List.mem_of_getElem? hk)) hl hd
theorem Ex.b (X : Std D) (k j : Nat) {x : Str} {pos : Pos} {v : Value} (hk : glob0[k]? = some (x, Option.none) := by rfl) (hj : blt0[j]? = some (x, some v) := by rfl) (hl : c.scope.names.lookup x = some .globalImplicit := by rfl) (hd : (x == ("__debug__" : Str)) = false := by rfl) : Ex D n c st (.Name x pos) (.raw v) st :=
  Ex.blt (X.glob _ (List.mem_of_getElem? hk)) (X.blt _ (List.mem_of_getElem? hj)) hl hd
theorem Sto.l (i : Nat) {x : Str} {W : V} (hx : c.ln[i]? = some x := by rfl) (hl : c.scope.names.lookup x = some .local := by rfl) : Sto D n c st x W { st with loc := st.loc.set i (some W) } := Sto.loc i hx hl rfl
theorem Sto.k (i : Nat) {x : Str} {W : V} {o : Option V} (hx : c.cn[i]? = some x := by rfl) (hl : c.scope.names.lookup x = some .cell := by rfl) (ho : st.cel[i]? = some o := by rfl) : Sto D n c st x W { st with cel := st.cel.set i (some W) } := Sto.cel i hx hl ho rfl
theorem T2.addL {a b W : V} {l m : List V} (ea : st.lst a = some l) (eb : st.lst b = some m) (hz : l.length + m.length ≤ sizeLine) (he : W = .list (l ++ m)) : T2 D n c st a b (fun _ => binaryOp .Add) W st := he ▸ T2.addList ea eb hz
/-- a text of the text -/
theorem Ex.s {x : Str} {l : List Nat} {k : Nat} {pos : Pos} (h : x = S l := by rfl) : Ex D n c st (.Constant (.str x) k pos) (.str (S l)) st := h ▸ Ex.cstr
end
end Mine

open PySem PySem.W PyProof.Rows PySem.Calls
namespace Mine
section
variable {D : Wd} {n : Nat} {c : Cx} {st st1 st2 st3 : St}
theorem take_step {items : List V} {i : Nat} {W : V} (h : items[i]? = some W) : items.take (i + 1) = items.take i ++ [W] := by rw [List.take_add_one, h]; rfl
def IvF (rs0 : List (Addr × Obj)) (items : List V) (p : V → Bool) (g : V → V) : CI := fun i U rs _ => rs = rs0 ∧ U = ((items.take i).filter p).map g
theorem IvF.len {rs0 : List (Addr × Obj)} {items : List V} {p : V → Bool} {g : V → V} (hz : items.length ≤ 1000000) : ∀ i U rs B, IvF rs0 items p g i U rs B → U.length ≤ sizeLine := fun i U rs B h => by
  rw [h.2, List.length_map]
  have h1 := List.length_filter_le p (items.take i)
  have h2 := List.length_take_le i items
  have h2' := List.length_take_le' i items
  have := sizeLine_eq
  lia
theorem turnF {cx : Cx} {code : Value} {qual : Str} {x : Str} {px : Pos} {elt t : Expr} {items : List V} {rs0 : List (Addr × Obj)} {p : V → Bool} {g : V → V} (hs : ∀ o W, Sto D n cx (stC st1 o) x W (stC st1 (some W)))
    (ht : ∀ W ∈ items, Tr D n cx (stC st1 (some W)) t (p W) (stC st1 (some W))) (he : ∀ W ∈ items, p W = true → Ex D n cx (stC st1 (some W)) elt (g W) (stC st1 (some W)) ∧ (g W).isMut = false) :
    ∀ i W, items[i]? = some W → TurnOk D n cx st1 code qual x px elt [t] (IvF rs0 items p g) i W := by
  intro i W hW A env B s F rs ca q v U1 ov Qe Qn E hA _ _ hI R qv Kn Ke
  obtain ⟨rfl, rfl⟩ := hI
  have hm := List.mem_of_getElem? hW
  refine wpAny_assign_Name (hs ov W A env B s _ ca q _ _ v hA R qv fun s4 n4 R4 => wpAny_tests_one (ht W hm A env B s4 _ ca q _ _ hA R4 fun B5 p5 s5 n5 R5 => ?_))
  cases hp : p W with
  | true =>
    obtain ⟨h1, h2⟩ := he W hm hp
    exact h1 A env B5 s5 _ ca p5 _ _ hA R5 fun u B6 p6 s6 n6 R6 q6 => Ke B6 p6 s6 rs u (g W) ((n4.trans n5).trans n6) R6 h2 q6 ⟨rfl, by rw [take_step hW, List.filter_append, List.map_append, List.filter_cons_of_pos hp]; rfl⟩
  | false => exact Kn B5 p5 s5 rs (n4.trans n5) R5 ⟨rfl, by rw [take_step hW, List.filter_append, List.filter_cons_of_neg (by simp [hp]), List.filter_nil, List.append_nil]⟩
theorem turnM {cx : Cx} {code : Value} {qual : Str} {x : Str} {px : Pos} {elt : Expr} {items : List V} {rs0 : List (Addr × Obj)} {g : V → V} (hs : ∀ o W, Sto D n cx (stC st1 o) x W (stC st1 (some W)))
    (he : ∀ W ∈ items, Ex D n cx (stC st1 (some W)) elt (g W) (stC st1 (some W)) ∧ (g W).isMut = false) :
    ∀ i W, items[i]? = some W → TurnOk D n cx st1 code qual x px elt [] (IvF rs0 items (fun _ => true) g) i W := by
  intro i W hW A env B s F rs ca q v U1 ov Qe Qn E hA _ _ hI R qv Kn Ke
  obtain ⟨rfl, rfl⟩ := hI
  have hm := List.mem_of_getElem? hW
  obtain ⟨h1, h2⟩ := he W hm
  refine wpAny_assign_Name (hs ov W A env B s _ ca q _ _ v hA R qv fun s4 n4 R4 => wpAny_tests_nil ?_)
  exact h1 A env B s4 _ ca q _ _ hA R4 fun u B6 p6 s6 n6 R6 q6 => Ke B6 p6 s6 rs u (g W) (n4.trans n6) R6 h2 q6 ⟨rfl, by rw [take_step hW, List.filter_append, List.map_append]; rfl⟩
theorem Ex.compF {elt iter t : Expr} {x : Str} {px : Pos} {scope : Scope} {pos : Pos} {items : List V} (p : V → Bool) (g : V → V) (hi : Ie D n c st iter items st1)
    (ht : ∀ W ∈ items, Tr D n (cxC c scope x) (stC st1 (some W)) t (p W) (stC st1 (some W))) (he : ∀ W ∈ items, p W = true → Ex D n (cxC c scope x) (stC st1 (some W)) elt (g W) (stC st1 (some W)) ∧ (g W).isMut = false)
    (hz : items.length ≤ 1000000) (hok : CompOK c scope x := by constructor <;> decide +kernel) (hs : ∀ (env : Env) x, foldedSetIterable iter env x = pure x := by intros; rfl) :
    Ex D n c st (.ListComp elt [⟨.Name x px, iter, [t], 0⟩] scope pos) (.list ((items.filter p).map g)) st1 := fun A env B s rs ca q Q E hA R H =>
  compG (Iv := IvF rs items p g) (fun _ _ _ _ _ _ h => h) (IvF.len hz) hi hok hs (turnF (sto_comp hok) ht he) ⟨rfl, rfl⟩ hA R fun v B' p' s' rs' U hI n' R' qv => by
    obtain ⟨rfl, rfl⟩ := hI
    rw [List.take_length] at qv
    exact H v B' p' s' n' R' qv
theorem Ex.compM {elt iter : Expr} {x : Str} {px : Pos} {scope : Scope} {pos : Pos} {items : List V} (g : V → V) (hi : Ie D n c st iter items st1)
    (he : ∀ W ∈ items, Ex D n (cxC c scope x) (stC st1 (some W)) elt (g W) (stC st1 (some W)) ∧ (g W).isMut = false)
    (hz : items.length ≤ 1000000) (hok : CompOK c scope x := by constructor <;> decide +kernel) (hs : ∀ (env : Env) x, foldedSetIterable iter env x = pure x := by intros; rfl) :
    Ex D n c st (.ListComp elt [⟨.Name x px, iter, [], 0⟩] scope pos) (.list (items.map g)) st1 := fun A env B s rs ca q Q E hA R H =>
  compG (Iv := IvF rs items (fun _ => true) g) (fun _ _ _ _ _ _ h => h) (IvF.len hz) hi hok hs (turnM (sto_comp hok) he) ⟨rfl, rfl⟩ hA R fun v B' p' s' rs' U hI n' R' qv => by
    obtain ⟨rfl, rfl⟩ := hI
    rw [List.take_length, List.filter_eq_self.mpr (fun _ _ => rfl)] at qv
    exact H v B' p' s' n' R' qv
/-- the same, stored on the same line -/
theorem S1.compF (i : Nat) {W : V} {elt iter t : Expr} {x y : Str} {px py : Pos} {scope : Scope} {pos spos : Pos} {items : List V} (p : V → Bool) (g : V → V) (hi : Ie D n c st iter items st1)
    (ht : ∀ W ∈ items, Tr D n (cxC c scope x) (stC st1 (some W)) t (p W) (stC st1 (some W))) (he : ∀ W ∈ items, p W = true → Ex D n (cxC c scope x) (stC st1 (some W)) elt (g W) (stC st1 (some W)) ∧ (g W).isMut = false)
    (hz : items.length ≤ 1000000) (hW : W = .list ((items.filter p).map g)) (hy : c.ln[i]? = some y := by rfl) (hyl : c.scope.names.lookup y = some .local := by rfl)
    (hsw : ∀ env : Env, env.scope = c.scope → swapsWith (.ListComp elt [⟨.Name x px, iter, [t], 0⟩] scope pos) (some (.Name y py)) spos.line env = pure true := by intro env h; (first | exact none_some env | exact some_none env | (obtain rfl := Option.some.inj env) | cases env); (first | exact none_some h | exact some_none h | (obtain rfl := Option.some.inj h) | cases h); rfl)
    (hok : CompOK c scope x := by constructor <;> decide +kernel) (hs : ∀ (env : Env) x, foldedSetIterable iter env x = pure x := by intros; rfl) :
    S1 D n c st (.Assign [.Name y py] (.ListComp elt [⟨.Name x px, iter, [t], 0⟩] scope pos) spos) .next { st1 with loc := st1.loc.set i (some W) } := fun A env B s rs ca q Q E hA R H =>
  compGS i (Iv := IvF rs items p g) (fun _ _ _ _ _ _ h => h) (IvF.len hz) hy hyl hi hok hs hsw (turnF (sto_comp hok) ht he) ⟨rfl, rfl⟩ hA R fun B' p' s' rs' U hI n' R' => by
    obtain ⟨rfl, rfl⟩ := hI
    rw [List.take_length, ← hW] at R'
    exact H .next B' p' s' n' R' trivial
theorem S1.compM (i : Nat) {W : V} {elt iter : Expr} {x y : Str} {px py : Pos} {scope : Scope} {pos spos : Pos} {items : List V} (g : V → V) (hi : Ie D n c st iter items st1)
    (he : ∀ W ∈ items, Ex D n (cxC c scope x) (stC st1 (some W)) elt (g W) (stC st1 (some W)) ∧ (g W).isMut = false)
    (hz : items.length ≤ 1000000) (hW : W = .list (items.map g)) (hy : c.ln[i]? = some y := by rfl) (hyl : c.scope.names.lookup y = some .local := by rfl)
    (hsw : ∀ env : Env, env.scope = c.scope → swapsWith (.ListComp elt [⟨.Name x px, iter, [], 0⟩] scope pos) (some (.Name y py)) spos.line env = pure true := by intro env h; (first | exact none_some env | exact some_none env | (obtain rfl := Option.some.inj env) | cases env); (first | exact none_some h | exact some_none h | (obtain rfl := Option.some.inj h) | cases h); rfl)
    (hok : CompOK c scope x := by constructor <;> decide +kernel) (hs : ∀ (env : Env) x, foldedSetIterable iter env x = pure x := by intros; rfl) :
    S1 D n c st (.Assign [.Name y py] (.ListComp elt [⟨.Name x px, iter, [], 0⟩] scope pos) spos) .next { st1 with loc := st1.loc.set i (some W) } := fun A env B s rs ca q Q E hA R H =>
  compGS i (Iv := IvF rs items (fun _ => true) g) (fun _ _ _ _ _ _ h => h) (IvF.len hz) hy hyl hi hok hs hsw (turnM (sto_comp hok) he) ⟨rfl, rfl⟩ hA R fun B' p' s' rs' U hI n' R' => by
    obtain ⟨rfl, rfl⟩ := hI
    rw [List.take_length, List.filter_eq_self.mpr (fun _ _ => rfl), ← hW] at R'
    exact H .next B' p' s' n' R' trivial
/-- (x, y) = (.., ..), the names from the text -/
theorem S1.tupP {elts es : List Expr} {k k' : Nat} {tpos vpos pos : Pos} {Ws : List V} (h : Es D n c st es Ws st1) (hl : Ws.length = (namesOf elts).length) (hs : Stos D n c st1 (((namesOf elts).map (·.1)).zip Ws) st2) (hz : Ws.length ≤ 1000000)
    (he : (namesOf elts).map (fun y => Expr.Name y.1 y.2) = elts := by rfl)
    (hw : ∀ env : Env, env.scope = c.scope → swappedStores [.Tuple elts k tpos] (.Tuple es k' vpos) env = pure none := by intro env h; (first | exact none_some env | exact some_none env | (obtain rfl := Option.some.inj env) | cases env); (first | exact none_some h | exact some_none h | (obtain rfl := Option.some.inj h) | cases h); rfl)
    (hsw : ∀ env : Env, swapsWithSole [.Tuple elts k tpos] (.Tuple es k' vpos) pos.line env = pure false := by intros; rfl) :
    S1 D n c st (.Assign [.Tuple elts k tpos] (.Tuple es k' vpos) pos) .next st2 := by
  have := S1.tupPlain (D := D) (n := n) (c := c) (l := namesOf elts) (k := k) (k' := k') (tpos := tpos) (vpos := vpos) (pos := pos) h hl hs (by have := sizeLine_eq; lia) (by rw [he]; exact hw) (by rw [he]; exact hsw)
  rw [he] at this
  exact this
/-- a list repeated, the frame's own -/
theorem Ex.mulOwn {l r : Expr} {pos : Pos} {a : V} {ls : List V} {k : Int} {j : Nat} (hl : Ex D n c st l a st1) (hr : Ex D n c st1 r (.int k) st2) (ea : st2.lst a = some ls) (hlo : -1000000 ≤ k) (hhi : k ≤ 1000000) (hz : ls.length * k.toNat ≤ 1000000) (hk : st2.own.length = j) :
    Ex D n c st (.BinOp l .Mult r pos) (.own j) { st2 with own := st2.own ++ [(List.replicate k.toNat ls).flatten] } := fun A env B s rs ca p Q E hA R H => by
  refine wpAny_BinOp (hl A env B s rs ca p _ E hA R fun v B1 p1 s1 n1 R1 q1 => hr A env B1 s1 rs ca p1 _ E hA R1 fun u B2 p2 s2 n2 R2 q2 => ?_)
  obtain ⟨x, vs, rfl, ⟨m, hl⟩, hv⟩ := R2.lst (q1.mono n2.ext n2.pre) ea
  cases (show VF B2 u _ from q2) with
  | int _ t =>
    have hs : vs.toArray.size = ls.length := by rw [List.size_toArray, hv.length]
    have hz' := sizeLine_eq
    have inner : wpAny (model D.prog D.w) A (call (.builtin "list.__mul__") [.ref x, .int k t]) Q E s2 := by
      refine call_meets F.slot_list_mul ⟨_, hl, rfl⟩ F.entry_list_mul (F.args_list_mul_2 _ _)
        (AutoListH.list___mul___list_int_3 x vs.toArray m k t (by simp [Builtin.List.listFitsIndex]; lia) (by rw [hs]; lia) (by rw [hs]; unfold Builtin.List.listTooLong; simp; lia)) ⟨hl, ?_⟩
      have e : (List.foldl (fun x1 x2 => x1 ++ x2) #[] (List.replicate (if vs.toArray.isEmpty = true then 0 else k.toNat) vs.toArray)) = ((List.replicate k.toNat vs).flatten).toArray := by
        apply Array.ext'
        rw [flatten_foldlV]
        cases vs with
        | nil => simp
        | cons y ys => simp
      show Q (.ref s2.heap.objs.size) _
      rw [e]
      have R3 := R2.addOwn (h' := s2.heap.push ⟨.type "list", Option.none, .seq ((List.replicate k.toNat vs).flatten).toArray 0, #[]⟩) (Ext.push _ _) (Nat.le_refl _) ⟨0, Heap.get?_push_size _ rfl⟩ (hv.rep k.toNat)
      refine H (.ref s2.heap.objs.size) B2 (p2 ++ [s2.heap.objs.size]) _ ((n1.trans n2).trans ⟨.refl _, fun _ _ e => .inl e, post_size, Pre.snoc _ _, rfl, rfl, .refl _, fun b hb => (List.mem_append.mp hb).elim .inl fun q => .inr (Nat.le_of_eq (List.mem_singleton.mp q).symm)⟩) R3 ⟨_, ?_, rfl⟩
      rw [← hk, R2.own.1, List.getElem?_append_right (Nat.le_refl _)]
      simp
    exact wpAny_binaryOp_repeat_ref (T := "list") (U := "int") (by decide) ⟨_, hl, rfl⟩ (fun s' => typeIs_int s' k t) noFill_list_mul F.fills_int_mul F.slot_int_rmul repeat_list F.slot_int_index.lookup
      (call_meets F.slot_int_rmul (typeIs_int s2 k t) F.entry_int_rmul (F.args_int_rmul_2 _ _) (int___rmul___int_list k t x vs.toArray m) ⟨hl, rfl, ⟨_, hl, rfl⟩, inner⟩)
end
end Mine

open PySem PySem.W PyProof.Rows PySem.Calls
namespace Mine
def c2 : Cx := { scope := scopeOf 2, ln := ["a", "b"] }
theorem def2 {D : Wd} (X : Std D) : DefAt D 38 c2 ["a", "b"] (bodyOf 2) :=
  X.defAt 1 0 2 (mod := mLoc) (tok := 282) (code := 37) (dflt := .none) rfl rfl rfl rfl rfl rfl rfl rfl rfl (len_2 fun a b => by kernel_rfl) rfl rfl rfl (by decide +kernel) (by decide +kernel) (by decide +kernel) (by decide +kernel) (by decide +kernel) (by decide +kernel)
theorem spec2 {D : Wd} (X : Std D) (n : Nat) (a b : List Nat) : CallSpec D (n + 1) (.ref 38) [.str (S a), .str (S b)] (.int (b2i (decide (b < a)) - b2i (decide (a < b)))) := by
  refine CallSpec.of (def2 X) rfl (st := { loc := [some (.str (S a)), some (.str (S b))] }) (W := .int (b2i (decide (b < a)) - b2i (decide (a < b)))) ?_ (.fz rfl)
  show Sx D n c2 { loc := [some (.str (S a)), some (.str (S b))] } (bodyOf 2) _ _
  exact Sx.stop (S1.ret (Ex.bin (Ex.cmp (Ex.l 0) (Ex.l 1) T2.gtS) (Ex.cmp (Ex.l 0) (Ex.l 1) T2.ltS) T2.subBool)) (by intro h; (first | exact none_some h | exact some_none h | (obtain rfl := Option.some.inj h) | cases h))
end Mine

open PySem PySem.W PyProof.Rows PySem.Calls
namespace Mine
def c23 : Cx := { scope := scopeOf 23, ln := ["text", "commas", "ahead"] }
theorem def23 {D : Wd} (X : Std D) : DefAt D 134 c23 ["text"] (bodyOf 23) :=
  X.defAt 13 12 23 (mod := mLaw) (tok := 575) (code := 133) (dflt := .none) rfl rfl rfl rfl rfl rfl rfl rfl rfl (len_1 fun a => by kernel_rfl) rfl rfl rfl (by decide +kernel) (by decide +kernel) (by decide +kernel) (by decide +kernel) (by decide +kernel) (by decide +kernel)
def strippedL (l : List Nat) : List Nat :=
  let cs : Int := (commas l : Int) - 1
  let ah := max 0 (2 - cs)
  List.replicate ah.toNat 32 ++ l ++ List.replicate (max 0 (3 - (cs - 2 + ah))).toNat 32
theorem spec23 {D : Wd} (X : Std D) (n : Nat) (l : List Nat) (hz : l.length ≤ 1000) : CallSpec D (n + 1) (.ref 134) [.str (S l)] (.str (S (strippedL l))) := by
  have hc : commas l ≤ l.length + 2 := by
    have hocc := StrLaws.occ_length_le (S l) (S [44]) 0 (S l).length ((S l).length + 1)
    unfold commas Txt.split
    split
    · simp
    · split
      · simp
      · rw [length_partsBetween]; rw [S_len] at hocc; rw [S_len]; omega
  have hz' := sizeLine_eq
  refine CallSpec.of (def23 X) rfl (st := { loc := [some (.str (S l)), some (.int ((commas l : Int) - 1)), some (.int (max 0 (2 - ((commas l : Int) - 1))))] }) ?_ (.fz rfl)
  show Sx D n c23 { loc := [some (.str (S l)), none, none] } (bodyOf 23) _ _
  refine Sx.cons (S1.assign (Ex.bin (Ex.lenSplit (Ex.b X 19 0) (Ex.l 0) Ex.s (by omega)) Ex.int T2.subInt) (Sto.l 1) (by intros; rfl)) ?_
  refine Sx.cons (S1.assign (Ex.callB (Ex.b X 20 1) (Es.two Ex.int (Ex.bin Ex.int (Ex.l 1) T2.subInt)) Tn.max2) (Sto.l 2) (by intros; rfl)) ?_
  refine Sx.stop (S1.ret (Ex.bin (Ex.bin (Ex.bin (Ex.s (l := [32])) (Ex.l 2) (T2.mulS ?_ ?_)) (Ex.l 0) (T2.addS ?_)) (Ex.bin (Ex.s (l := [32])) (Ex.callB (Ex.b X 20 1) (Es.two Ex.int (Ex.bin Ex.int (Ex.bin (Ex.bin (Ex.l 1) Ex.int T2.subInt) (Ex.l 2) T2.addInt) T2.subInt)) Tn.max2) (T2.mulS ?_ ?_)) (T2.addS ?_))) (by intro h; (first | exact none_some h | exact some_none h | (obtain rfl := Option.some.inj h) | cases h))
  all_goals ((try simp only [List.length_append, List.length_replicate]); omega)
end Mine

open PySem PySem.W PyProof.Rows PySem.Calls
namespace Mine
def c21 : Cx := { scope := scopeOf 21, ln := ["figures", "grouping", "sizes", "groups", "size"] }
theorem def21 {D : Wd} (X : Std D) : DefAt D 120 c21 ["figures", "grouping"] (bodyOf 21) :=
  X.defAt 11 10 21 (mod := mLaw) (tok := 575) (code := 119) (dflt := .none) rfl rfl rfl rfl rfl rfl rfl rfl rfl (len_2 fun a b => by kernel_rfl) rfl rfl rfl (by decide +kernel) (by decide +kernel) (by decide +kernel) (by decide +kernel) (by decide +kernel) (by decide +kernel)
theorem sl_map {α β : Type} (f : α → β) (l : List α) (lo hi : Option Int) : sl (l.map f) lo hi = (sl l lo hi).map f := by
  unfold sl; rw [List.length_map, ← List.map_drop, ← List.map_take]
abbrev vI (l : List Int) : V := .list (l.map .int)
abbrev vT (l : List Nat) : V := .str (S l)
abbrev vTs (l : List (List Nat)) : V := .list (l.map fun x => .str (S x))
def due1 (s : List Int) (x : Int) : List Int := s ++ (if x == 0 then (List.replicate 9 (sl s (some (-1)) none)).flatten else [x])
def due2 (q : List (List Nat) × List Nat) (x : Int) : List (List Nat) × List Nat := if x ≠ 127 ∧ q.2 ≠ [] then (sl q.2 (some (-x)) none :: q.1, sl q.2 none (some (-x))) else q
def dueL (f : List Nat) (g : List Int) : List Nat :=
  let q := (g.foldl due1 []).foldl due2 ([], f)
  joinL [44] (if q.2 ≠ [] then q.2 :: q.1 else q.1)
def st21 (f : List Nat) (g s : List Int) (gs : List (List Nat)) (o : Option V) : St := { loc := [some (vT f), some (vI g), some (vI s), some (vTs gs), o] }
theorem due1_len (s : List Int) (x : Int) : (due1 s x).length ≤ s.length + 9 := by
  unfold due1
  have h1 : (sl s (some (-1)) none).length ≤ 1 := by
    unfold sl; simp only [List.length_take, List.length_drop, Option.elim]; have := clipAt_cast s.length (-1); omega
  split
  · rw [List.length_append, List.length_flatten]; simp; omega
  · simp
theorem lp21a {D : Wd} {n : Nat} (f : List Nat) (g : List Int) (gs : List (List Nat)) : ∀ (items s : List Int) (o : Option V), s.length + 10 * items.length ≤ 1000 →
    ∃ o', Lp D n c21 "size" (match bodyOf 21 with | _ :: .For _ _ b _ _ :: _ => b | _ => []) (items.map .int) (st21 f g s gs o) .next (st21 f g (items.foldl due1 s) gs o')
  | [], s, o, _ => ⟨o, .nil⟩
  | x :: r, s, o, hz => by
    have hz' := sizeLine_eq
    have hl := due1_len s x
    obtain ⟨o', ih⟩ := lp21a f g gs r (due1 s x) (some (.int x)) (by rw [List.length_cons] at hz; omega)
    refine ⟨o', ?_⟩
    refine Lp.next (Sto.l 4) (st2 := st21 f g (due1 s x) gs (some (.int x))) ?_ ih
    show Sx D n c21 { loc := [some (vT f), some (vI g), some (vI s), some (vTs gs), some (.int x)] } _ _ _
    refine Sx.cons (S1.assign (st1 := { loc := [some (vT f), some (vI g), some (vI s), some (vTs gs), some (.int x)] }) (W := vI (due1 s x)) (Ex.cast (Ex.bin (b := vI (if x == 0 then (List.replicate 9 (sl s (some (-1)) none)).flatten else [x])) (Ex.l 2) (Ex.ite (Tr.cmp (Ex.l 4) Ex.int T2.eqInt) (fun h => ?_) (fun h => ?_)) (T2.addList rfl rfl ?_)) ?_) (Sto.l 2) (by intros; rfl)) Sx.nil
    · rw [h, if_pos rfl]
      refine Ex.cast (Ex.bin (Ex.sliceL (Ex.l 2) (.some (Ex.un Ex.int T1.negInt)) .none ?_) Ex.int (T2.mulList rfl ?_ ?_ ?_)) ?_
      · rw [List.length_map]; omega
      · decide
      · decide
      · rw [sl_map, List.length_map]
        have := sl_len s (some (-1)) none
        have e9 : (9 : Int).toNat = 9 := rfl
        rw [e9]
        omega
      · rw [sl_map]
        show V.list (List.replicate 9 (List.map V.int (sl s (some (-1)) none))).flatten = V.list (List.map V.int (List.replicate 9 (sl s (some (-1)) none)).flatten)
        rw [List.map_flatten, List.map_replicate]
    · rw [h]
      exact Ex.list (Es.one (Ex.l 4)) rfl (by first | decide | (rw [hz']; simp))
    · unfold due1 at hl
      rw [List.length_append] at hl
      rw [List.length_map, List.length_map]
      omega
    · unfold due1; simp only [vI, List.map_append]

/-- the second loop's body -/
theorem lp21b {D : Wd} {n : Nat} (g s : List Int) : ∀ (items : List Int) (f : List Nat) (gs : List (List Nat)) (o : Option V), (∀ x ∈ items, 0 ≤ x ∧ x ≤ 1000) → f.length ≤ 1000 → gs.length + items.length ≤ 1000 →
    ∃ o', Lp D n c21 "size" (match bodyOf 21 with | _ :: _ :: .For _ _ b _ _ :: _ => b | _ => []) (items.map .int) (st21 f g s gs o) .next (st21 (items.foldl due2 (gs, f)).2 g s (items.foldl due2 (gs, f)).1 o')
  | [], f, gs, o, _, _, _ => ⟨o, .nil⟩
  | x :: r, f, gs, o, hx, hf, hg => by
    have hz' := sizeLine_eq
    have hx0 := hx x List.mem_cons_self
    obtain ⟨o', ih⟩ := lp21b g s r (due2 (gs, f) x).2 (due2 (gs, f) x).1 (some (.int x)) (fun y hy => hx y (List.mem_cons_of_mem _ hy)) (by
      unfold due2; split
      · exact Nat.le_trans (sl_len ..) hf
      · exact hf) (by
      unfold due2; rw [List.length_cons] at hg; split
      · show gs.length + 1 + r.length ≤ 1000; omega
      · show gs.length + r.length ≤ 1000; omega)
    refine ⟨o', Lp.next (Sto.l 4) (st2 := st21 (due2 (gs, f) x).2 g s (due2 (gs, f) x).1 (some (.int x))) ?_ ih⟩
    show Sx D n c21 { loc := [some (vT f), some (vI g), some (vI s), some (vTs gs), some (.int x)] } _ _ _
    refine Sx.cons (S1.ite (b := decide (x ≠ 127 ∧ f ≠ [])) (st1 := { loc := [some (vT f), some (vI g), some (vI s), some (vTs gs), some (.int x)] }) (st2 := st21 (due2 (gs, f) x).2 g s (due2 (gs, f) x).1 (some (.int x))) ?_ (fun h => ?_) (fun h => ?_)) Sx.nil
    · refine Tr.and2 (a := decide (x ≠ 127)) (Tr.cast (Tr.cmp (Ex.l 4) Ex.int T2.neInt) ?_) (fun h => Tr.cast (Tr.cmp (Ex.l 0) (Ex.s (l := [])) T2.neS) ?_) (fun h => ?_)
      · by_cases q : x = 127 <;> simp [q]
      · have : x ≠ 127 := by simpa using h
        simp [this]
      · have : x = 127 := by simpa using h
        exact ⟨by simp [this], rfl⟩
    · have h' : x ≠ 127 ∧ f ≠ [] := by simpa using h
      have e : due2 (gs, f) x = (sl f (some (-x)) none :: gs, sl f none (some (-x))) := by unfold due2; rw [if_pos h']
      rw [e]
      refine Sx.cons (S1.assign (W := vTs (sl f (some (-x)) none :: gs)) (Ex.bin (Ex.list (Es.one (Ex.sliceS (Ex.l 0) (.some (Ex.un (Ex.l 4) T1.negInt)) .none (by omega))) rfl (by first | decide | (rw [hz']; simp))) (Ex.l 3) (T2.addL rfl rfl ?_ rfl)) (Sto.l 3)) ?_
      · rw [List.length_map, hz', List.length_cons] at *; simp only [List.length_nil]; omega
      refine Sx.cons (S1.assign (Ex.sliceS (Ex.l 0) .none (.some (Ex.un (Ex.l 4) T1.negInt)) (by omega)) (Sto.l 0)) Sx.nil
    · have h' : ¬ (x ≠ 127 ∧ f ≠ []) := by simpa using h
      have e : due2 (gs, f) x = (gs, f) := by unfold due2; rw [if_neg h']
      rw [e]
      exact Sx.nil
end Mine

open PySem PySem.W PyProof.Rows PySem.Calls
namespace Mine

theorem due1s_len : ∀ (g s : List Int), (g.foldl due1 s).length ≤ s.length + 9 * g.length
  | [], s => by simp
  | x :: r, s => by
    have := due1s_len r (due1 s x)
    have := due1_len s x
    rw [List.foldl_cons, List.length_cons]; omega
theorem sl_sub {α : Type} {l : List α} {lo hi : Option Int} {x : α} (h : x ∈ sl l lo hi) : x ∈ l := List.mem_of_mem_drop (List.mem_of_mem_take h)
theorem due1_mem {s : List Int} {x y : Int} (h : y ∈ due1 s x) : y ∈ s ∨ y = x := by
  unfold due1 at h
  rcases List.mem_append.mp h with h | h
  · exact .inl h
  · split at h
    · obtain ⟨l, hl, hy⟩ := List.mem_flatten.mp h
      rw [List.eq_of_mem_replicate hl] at hy
      exact .inl (sl_sub hy)
    · exact .inr (List.mem_singleton.mp h)
theorem due1s_mem {y : Int} : ∀ {g s : List Int}, y ∈ g.foldl due1 s → y ∈ s ∨ y ∈ g
  | [], s, h => .inl h
  | x :: r, s, h => by
    rcases due1s_mem (g := r) h with h | h
    · rcases due1_mem h with h | h
      · exact .inl h
      · exact .inr (h ▸ List.mem_cons_self)
    · exact .inr (List.mem_cons_of_mem _ h)
theorem due2_len (q : List (List Nat) × List Nat) (x : Int) : (due2 q x).1.length ≤ q.1.length + 1 ∧ (due2 q x).2.length ≤ q.2.length := by
  unfold due2; split
  · exact ⟨by simp, sl_len ..⟩
  · exact ⟨by omega, Nat.le_refl _⟩
theorem due2s_len : ∀ (g : List Int) (q : List (List Nat) × List Nat), (g.foldl due2 q).1.length ≤ q.1.length + g.length ∧ (g.foldl due2 q).2.length ≤ q.2.length
  | [], q => by simp
  | x :: r, q => by
    have := due2s_len r (due2 q x)
    have := due2_len q x
    rw [List.foldl_cons, List.length_cons]; omega
theorem due2s_parts (N : Nat) : ∀ (g : List Int) (q : List (List Nat) × List Nat), (∀ l ∈ q.1, l.length ≤ N) → q.2.length ≤ N → ∀ l ∈ (g.foldl due2 q).1, l.length ≤ N
  | [], q, h, _ => h
  | x :: r, q, h, h2 => due2s_parts N r (due2 q x) (by
      unfold due2; split
      · intro l hl
        rcases List.mem_cons.mp hl with rfl | hl
        · exact Nat.le_trans (sl_len ..) h2
        · exact h l hl
      · exact h) (Nat.le_trans (due2_len q x).2 h2)
theorem sum_le {N : Nat} : ∀ {l : List (List Nat)}, (∀ x ∈ l, x.length ≤ N) → (l.map List.length).sum ≤ l.length * N
  | [], _ => by simp
  | x :: r, h => by
    have := sum_le (l := r) fun y hy => h y (List.mem_cons_of_mem _ hy)
    have := h x List.mem_cons_self
    rw [List.map_cons, List.sum_cons, List.length_cons, Nat.add_mul]; omega
theorem spec21 {D : Wd} (X : Std D) (n : Nat) (f : List Nat) (g : List Int) (hf : f.length ≤ 100) (hg : g.length ≤ 20) (hx : ∀ x ∈ g, 0 ≤ x ∧ x ≤ 1000) : CallSpec D (n + 1) (.ref 120) [vT f, vI g] (vT (dueL f g)) := by
  have hz' := sizeLine_eq
  obtain ⟨o1, l1⟩ := lp21a (D := D) (n := n) f g [] g [] none (by simp; omega)
  have hs1 := due1s_len g []
  have hm : ∀ x ∈ g.foldl due1 [], 0 ≤ x ∧ x ≤ 1000 := fun x h => (due1s_mem h).elim (by first | exact fun h => ft_elim h | exact fun h => nil_elim h | exact fun h => nomatch h) (hx x)
  obtain ⟨o2, l2⟩ := lp21b (D := D) (n := n) g (g.foldl due1 []) (g.foldl due1 []) f [] o1 hm (by omega) (by simp at hs1 ⊢; omega)
  have hq := due2s_len (g.foldl due1 []) ([], f)
  have hp := due2s_parts 100 (g.foldl due1 []) ([], f) (fun l h => nomatch h) hf
  generalize hs : g.foldl due1 [] = s at l1 l2 hs1 hm hq hp
  generalize hr : s.foldl due2 ([], f) = r at l2 hq hp
  have hd : dueL f g = joinL [44] (if r.2 ≠ [] then r.2 :: r.1 else r.1) := by unfold dueL; rw [hs, hr]
  refine CallSpec.of (def21 X) rfl (st := st21 r.2 g s r.1 o2) ?_ (.fz rfl)
  show Sx D n c21 { loc := [some (vT f), some (vI g), none, none, none] } (bodyOf 21) _ _
  refine Sx.cons (S1.tupSwap (names := ["sizes", "groups"]) (Es.two (Ex.list Es.nil rfl (by first | rfl | decide | simp)) (Ex.list Es.nil rfl (by first | rfl | decide | simp))) rfl (.cons (Sto.l 3) (.cons (Sto.l 2) .nil)) (by rw [hz']; decide) (fun env h => by cases env; (first | exact none_some h | exact some_none h | (obtain rfl := Option.some.inj h) | cases h); rfl)) ?_
  refine Sx.cons (S1.for (Ie.list (Ex.l 1)) l1) ?_
  refine Sx.cons (S1.for (Ie.list (Ex.l 2)) l2) ?_
  rw [hd]
  have hlen : r.1.length ≤ 200 := by simp at hs1 hq; omega
  have hr2 : r.2.length ≤ 100 := Nat.le_trans hq.2 hf
  refine Sx.stop (S1.ret (Ex.meth (Ex.s (l := [44])) Gm.join (Es.one (Ex.ite (W := vTs (if r.2 ≠ [] then r.2 :: r.1 else r.1)) (b := decide (r.2 ≠ [])) (Tr.cmp (Ex.l 0) (Ex.s (l := [])) T2.neS) (fun h => ?_) (fun h => ?_))) (Tn.join ?_)))
  · have h' : r.2 ≠ [] := by simpa using h
    rw [if_pos h']
    exact Ex.bin (Ex.list (Es.one (Ex.l 0)) rfl (by first | decide | (rw [hz']; simp))) (Ex.l 3) (T2.addL rfl rfl (by rw [hz', List.length_map]; simp only [List.length_cons, List.length_nil]; omega) rfl)
  · have h' : ¬ (r.2 ≠ []) := by simpa using h
    rw [if_neg h']
    exact Ex.l 3
  · have h1 := sum_le hp
    have : ((if r.2 ≠ [] then r.2 :: r.1 else r.1).map List.length).sum ≤ 100 + r.1.length * 100 ∧ (if r.2 ≠ [] then r.2 :: r.1 else r.1).length ≤ r.1.length + 1 := by
      split
      · rw [List.map_cons, List.sum_cons, List.length_cons]; omega
      · omega
    simp only [List.length_cons, List.length_nil]
    omega
end Mine

open PySem PySem.W PyProof.Rows PySem.Calls
namespace Mine
def c24 : Cx := { scope := scopeOf 24, ln := ["order"], cn := ["texts", "k"] }
theorem def24 {D : Wd} (X : Std D) : DefAt D 139 c24 ["texts"] (bodyOf 24) :=
  X.defAt 14 13 24 (mod := mLaw) (tok := 575) (code := 138) (dflt := .none) rfl rfl rfl rfl rfl rfl rfl rfl rfl (len_1 fun a => by kernel_rfl) rfl rfl rfl (by decide +kernel) (by decide +kernel) (by decide +kernel) (by decide +kernel) (by decide +kernel) (by decide +kernel)
def rank (ts : List (List Nat)) (k : Nat) : Nat := (ts.filter fun t => decide (t < ts.getD k [])).length + (ts.take k).count (ts.getD k [])
def orderStep (ts : List (List Nat)) (o : List V) (k : Nat) : List V := o.set (rank ts k) (.int k)
def orderedV (ts : List (List Nat)) : List V := (List.range ts.length).foldl (orderStep ts) (List.replicate ts.length .none)
theorem rank_lt {ts : List (List Nat)} {k : Nat} (h : k < ts.length) : rank ts k < ts.length := by
  unfold rank
  generalize hx : ts.getD k [] = x
  have hk : ts[k]? = some x := by rw [← hx]; simp [h]
  have h1 : (ts.take k).count x + 1 ≤ ts.count x := by
    have e : ts = ts.take k ++ x :: ts.drop (k + 1) := by
      have := List.getElem?_eq_some_iff.mp hk
      obtain ⟨hl, e⟩ := this
      rw [← e]; simp
    conv => rhs; rw [e]
    rw [List.count_append, List.count_cons_self]; omega
  have h2 : ∀ l : List (List Nat), (l.filter fun t => decide (t < x)).length + l.count x ≤ l.length := fun l => by
    induction l with
    | nil => simp
    | cons y r ih =>
      rw [List.filter_cons, List.count_cons, List.length_cons]
      by_cases hy : y < x
      · have : y ≠ x := fun e => by subst e; exact (List.lt_irrefl y) hy
        simp [hy, this]; omega
      · simp only [hy, decide_false, Bool.false_eq_true, if_false]
        split <;> omega
  have := h2 ts
  omega
theorem orderStep_len (ts : List (List Nat)) (o : List V) (k : Nat) : (orderStep ts o k).length = o.length := by simp [orderStep]
theorem Ex.sliceT {D : Wd} {n : Nat} {c : Cx} {st st1 st2 st3 : St} {value : Expr} {lower upper : Option Expr} {p0 pos : Pos} {l : List (List Nat)} {lo hi : Option Int} (hv : Ex D n c st value (vTs l) st1) (h1 : Part D n c st1 lower lo st2) (h2 : Part D n c st2 upper hi st3) (hz : l.length ≤ 1000000)
    (ht : ∀ o r, letTemporaryGo value o r = pure () := by intro _ _; rfl) : Ex D n c st (.Subscript value (.Slice lower upper Option.none p0) pos) (vTs (sl l lo hi)) st3 :=
  Ex.cast (Ex.sliceL hv h1 h2 (by rw [List.length_map]; have := sizeLine_eq; omega) ht) (by rw [sl_map])
theorem Ex.sliceI {D : Wd} {n : Nat} {c : Cx} {st st1 st2 st3 : St} {value : Expr} {lower upper : Option Expr} {p0 pos : Pos} {l : List Int} {lo hi : Option Int} (hv : Ex D n c st value (vI l) st1) (h1 : Part D n c st1 lower lo st2) (h2 : Part D n c st2 upper hi st3) (hz : l.length ≤ 1000000)
    (ht : ∀ o r, letTemporaryGo value o r = pure () := by intro _ _; rfl) : Ex D n c st (.Subscript value (.Slice lower upper Option.none p0) pos) (vI (sl l lo hi)) st3 :=
  Ex.cast (Ex.sliceL hv h1 h2 (by rw [List.length_map]; have := sizeLine_eq; omega) ht) (by rw [sl_map])
theorem sl_take {α : Type} (l : List α) (k : Nat) : sl l none (some (k : Int)) = l.take k := by
  unfold sl
  simp only [Option.elim, List.drop_zero, Nat.sub_zero, clipAt_nat]
  by_cases h : k ≤ l.length
  · rw [Nat.min_eq_left h]
  · rw [Nat.min_eq_right (by omega), List.take_of_length_le (Nat.le_refl _), List.take_of_length_le (by omega)]
def st24 (ts : List (List Nat)) (o : List V) (ok : Option V) : St := { loc := [some (.own 0)], cel := [some (vTs ts), ok], own := [o] }
theorem getT {ts : List (List Nat)} {k : Nat} (h : k < ts.length) : at? (ts.map fun x => V.str (S x)) (k : Int) = some (.str (S (ts.getD k []))) := by
  unfold at?
  rw [if_pos (by omega), Int.toNat_natCast, List.getElem?_map, List.getD_eq_getElem?_getD, List.getElem?_eq_getElem h]; rfl
theorem lp24 {D : Wd} (X : Std D) {n : Nat} (ts : List (List Nat)) (hn : ts.length ≤ 1000) : ∀ (ks : List Nat) (o : List V) (ok : Option V), (∀ k ∈ ks, k < ts.length) → o.length = ts.length →
    ∃ ok', Lp D n c24 "k" (match bodyOf 24 with | _ :: .For _ _ b _ _ :: _ => b | _ => []) (ks.map fun (k : Nat) => .int k) (st24 ts o ok) .next (st24 ts (ks.foldl (orderStep ts) o) ok')
  | [], o, ok, _, _ => ⟨ok, .nil⟩
  | k :: r, o, ok, hk, ho => by
    have hz' := sizeLine_eq
    obtain ⟨ok', ih⟩ := lp24 X ts hn r (orderStep ts o k) (some (.int k)) (fun y hy => hk y (List.mem_cons_of_mem _ hy)) (by rw [orderStep_len, ho])
    have hkl := hk k List.mem_cons_self
    have hr := rank_lt hkl
    refine ⟨ok', Lp.next (Sto.k 1) (st2 := st24 ts (orderStep ts o k) (some (.int k))) ?_ ih⟩
    show Sx D n c24 { loc := [some (.own 0)], cel := [some (vTs ts), some (.int k)], own := [o] } _ _ _
    refine Sx.cons (S1.setItem (Ws := o) (j := ((rank ts k : Nat) : Int)) (st3 := { loc := [some (.own 0)], cel := [some (vTs ts), some (.int k)], own := [o] }) (Ex.k 1) (Ex.l 0) (Ex.cast (Ex.bin (Ex.callB (Ex.b X 19 0) (Es.one (Ex.compF (st1 := { loc := [some (.own 0)], cel := [some (vTs ts), some (.int k)], own := [o] }) (fun W => match W with | .str x => decide (x.cps.toList < ts.getD k []) | _ => false) id (Ie.list (Ex.k 0)) (fun W hW => ?_) (fun W hW _ => ?_) (by rw [List.length_map]; omega))) (Tn.lenL ?_)) (Ex.meth (Ex.sliceT (Ex.k 0) .none (.some (Ex.k 1)) (by omega)) Gm.count (Es.one (Ex.itemL (Ex.k 0) (Ex.k 1) (getT hkl) (by omega))) Tn.count) T2.addInt) ?_) rfl rfl (by omega) (by omega) (by omega) ?_) Sx.nil
    · obtain ⟨x, hx, rfl⟩ := List.mem_map.mp hW
      show Tr _ _ _ _ _ (decide ((S x).cps.toList < ts.getD k [])) _
      rw [S_list]
      exact Tr.cmp (Ex.l 0) (Ex.itemL (Ex.k 0) (Ex.k 1) (getT hkl) (by omega)) T2.ltS
    · obtain ⟨x, hx, rfl⟩ := List.mem_map.mp hW
      exact ⟨Ex.l 0, rfl⟩
    · rw [List.length_map]
      refine Nat.lt_of_le_of_lt (List.length_filter_le ..) ?_
      rw [List.length_map]; omega
    · rw [sl_take, List.length_map]
      unfold rank
      rw [Int.natCast_add]
      congr 3
      rw [List.filter_map, List.length_map]
      have e : (fun W : V => match W with | .str x => decide (x.cps.toList < ts.getD k []) | _ => false) ∘ (fun x => V.str (S x)) = fun t => decide (t < ts.getD k []) := funext fun x => by
        show decide ((S x).cps.toList < ts.getD k []) = _
        rw [S_list]
      rw [e]
    · rfl
theorem flatten_none (n : Nat) : (List.replicate n [V.none]).flatten = List.replicate n V.none := by
  induction n with
  | zero => rfl
  | succ n ih => rw [List.replicate_succ, List.flatten_cons, ih, List.replicate_succ]; rfl
theorem rangeL_nat (k : Nat) : (rangeL 0 (k : Int)).map V.int = (List.range k).map fun (i : Nat) => V.int i := by
  unfold rangeL
  rw [List.map_map, Int.sub_zero, Int.toNat_natCast]
  exact List.map_congr_left fun i _ => by show V.int (0 + (i : Int)) = _; rw [Int.zero_add]
theorem spec24 {D : Wd} (X : Std D) (n : Nat) (ts : List (List Nat)) (hn : ts.length ≤ 1000) : CallSpec D (n + 1) (.ref 139) [vTs ts] (.list (orderedV ts)) := by
  have hz' := sizeLine_eq
  obtain ⟨ok, l1⟩ := lp24 X (n := n) ts hn (List.range ts.length) (List.replicate ts.length .none) none (fun k hk => List.mem_range.mp hk) (by first | rfl | decide | simp)
  refine CallSpec.of (def24 X) rfl (st := st24 ts (orderedV ts) ok) (W := .own 0) ?_ (.own rfl)
  show Sx D n c24 { loc := [none], cel := [some (vTs ts), none] } (bodyOf 24) _ _
  refine Sx.cons (S1.assign (st1 := { loc := [none], cel := [some (vTs ts), none], own := [List.replicate ts.length .none] }) (W := .own 0) ?_ (Sto.l 0)) ?_
  · have h := Ex.mulOwn (D := D) (n := n) (c := c24) (st := { loc := [none], cel := [some (vTs ts), none] }) (st1 := { loc := [none], cel := [some (vTs ts), none] }) (st2 := { loc := [none], cel := [some (vTs ts), none] }) (l := match bodyOf 24 with | .Assign _ (.BinOp l _ _ _) _ :: _ => l | _ => default) (r := match bodyOf 24 with | .Assign _ (.BinOp _ _ r _) _ :: _ => r | _ => default) (pos := match bodyOf 24 with | .Assign _ (.BinOp _ _ _ p) _ :: _ => p | _ => default) (a := .list [.none]) (ls := [.none]) (k := ((List.map (fun x => V.str (S x)) ts).length : Int)) (j := 0)
      (Ex.list (Es.one Ex.none) rfl (by first | decide | (rw [hz']; simp))) (Ex.callB (Ex.b X 19 0) (Es.one (Ex.k 0)) (Tn.lenL (by rw [List.length_map]; omega))) rfl (by omega) (by rw [List.length_map]; omega) (by rw [List.length_map]; simp; omega) rfl
    rw [List.length_map, Int.toNat_natCast, flatten_none] at h
    exact h
  · refine Sx.cons (st1 := st24 ts (orderedV ts) ok) (S1.for (Ie.range1 (Ex.b X 21 2) (Ex.callB (Ex.b X 19 0) (Es.one (Ex.k 0)) (Tn.lenL (by rw [List.length_map]; omega))) (by rw [List.length_map]; omega)) ?_) ?_
    · rw [rangeL_nat, List.length_map]
      exact l1
    · exact Sx.stop (S1.ret (Ex.l 0))
end Mine

open PySem PySem.W PyProof.Rows PySem.Calls
namespace Mine
theorem Ie.strS {D : Wd} {n : Nat} {c : Cx} {st st1 : St} {e : Expr} {l : List Nat} (h : Ex D n c st e (vT l) st1) : Ie D n c st e (l.map fun k => vT [k]) st1 := by
  have := Ie.str h
  rw [S_list] at this
  exact this
def c26 : Cx := { scope := scopeOf 26, ln := ["pattern", "places"], cn := ["word", "sign"] }
theorem def26 {D : Wd} (X : Std D) : DefAt D 149 c26 ["pattern", "word"] (bodyOf 26) :=
  X.defAt 16 15 26 (mod := mLaw) (tok := 575) (code := 148) (dflt := .none) rfl rfl rfl rfl rfl rfl rfl rfl rfl (len_2 fun a b => by kernel_rfl) rfl rfl rfl (by decide +kernel) (by decide +kernel) (by decide +kernel) (by decide +kernel) (by decide +kernel) (by decide +kernel)
abbrev vN (l : List Nat) : V := vI (l.map fun (k : Nat) => (k : Int))
/-- the places from the first on -/
def spread (w pl : List Nat) : List Nat := if pl ≠ [] then (List.range (w.length + 1 - pl.headD 0)).map (pl.headD 0 + ·) else []
def fitStep (w pl : List Nat) (s : Nat) : List Nat := if s = 42 then spread w pl else (pl.filter fun k => decide (k < w.length ∧ (s = 63 ∨ s = w.getD k 0))).map (· + 1)
def fitsL (pat w : List Nat) : Bool := decide (w.length ∈ pat.foldl (fitStep w) [0])
theorem spread_le {w pl : List Nat} (h : ∀ k ∈ pl, k ≤ w.length) : ∀ k ∈ spread w pl, k ≤ w.length := by
  unfold spread
  split
  · intro k hk
    obtain ⟨j, hj, rfl⟩ := List.mem_map.mp hk
    have := List.mem_range.mp hj
    omega
  · intro k hk; (first | exact none_some hk | exact some_none hk | (obtain rfl := Option.some.inj hk) | cases hk)
theorem fitStep_le {w pl : List Nat} {s : Nat} (h : ∀ k ∈ pl, k ≤ w.length) : ∀ k ∈ fitStep w pl s, k ≤ w.length := by
  unfold fitStep
  split
  · exact spread_le h
  · intro k hk
    obtain ⟨j, hj, rfl⟩ := List.mem_map.mp hk
    have := (List.mem_filter.mp hj).2
    simp at this
    omega
theorem fitStep_len {w pl : List Nat} {s : Nat} : (fitStep w pl s).length ≤ max pl.length (w.length + 1) := by
  unfold fitStep spread
  split
  · split
    · rw [List.length_map, List.length_range]; omega
    · simp
  · rw [List.length_map]; have := List.length_filter_le (fun k => decide (k < w.length ∧ (s = 63 ∨ s = w.getD k 0))) pl; omega
theorem spread_int {w pl : List Nat} (h : ∀ k ∈ pl, k ≤ w.length) (hne : pl ≠ []) : rangeL (pl.headD 0 : Nat) ((w.length : Int) + 1) = (spread w pl).map fun (k : Nat) => (k : Int) := by
  unfold spread rangeL
  rw [if_pos hne, List.map_map]
  have hh : pl.headD 0 ≤ w.length := by
    cases pl with
    | nil => exact absurd rfl hne
    | cons x r => exact h x List.mem_cons_self
  have e : ((w.length : Int) + 1 - (pl.headD 0 : Nat)).toNat = w.length + 1 - pl.headD 0 := by omega
  rw [e]
  exact List.map_congr_left fun i _ => by simp
def st26 (pat w pl : List Nat) (o : Option V) : St := { loc := [some (vT pat), some (vN pl)], cel := [some (vT w), o] }
theorem lp26 {D : Wd} (X : Std D) {n : Nat} (pat w : List Nat) (hw : w.length ≤ 1000) : ∀ (ss pl : List Nat) (o : Option V), (∀ k ∈ pl, k ≤ w.length) → pl.length ≤ 1001 →
    ∃ o', Lp D n c26 "sign" (match bodyOf 26 with | _ :: .For _ _ b _ _ :: _ => b | _ => []) (ss.map fun s => vT [s]) (st26 pat w pl o) .next (st26 pat w (ss.foldl (fitStep w) pl) o')
  | [], pl, o, _, _ => ⟨o, .nil⟩
  | s :: r, pl, o, hk, hl => by
    have hz' := sizeLine_eq
    obtain ⟨o', ih⟩ := lp26 X pat w hw r (fitStep w pl s) (some (vT [s])) (fitStep_le hk) (by have := fitStep_len (w := w) (pl := pl) (s := s); omega)
    refine ⟨o', Lp.next (Sto.k 1) (st2 := st26 pat w (fitStep w pl s) (some (vT [s]))) ?_ ih⟩
    show Sx D n c26 { loc := [some (vT pat), some (vN pl)], cel := [some (vT w), some (vT [s])] } _ _ _
    refine Sx.cons (S1.ite (b := decide (s = 42)) (st1 := { loc := [some (vT pat), some (vN pl)], cel := [some (vT w), some (vT [s])] }) (st2 := st26 pat w (fitStep w pl s) (some (vT [s]))) ?_ (fun h => ?_) (fun h => ?_)) Sx.nil
    · refine Tr.cast (Tr.cmp (Ex.k 1) (Ex.s (l := [42])) T2.eqS) (by first | rfl | decide | simp)
    · have h' : s = 42 := by simpa using h
      have e : fitStep w pl s = spread w pl := by unfold fitStep; rw [if_pos h']
      rw [e]
      refine Sx.cons (S1.assign (st1 := { loc := [some (vT pat), some (vN pl)], cel := [some (vT w), some (vT [s])] }) (W := vN (spread w pl)) (Ex.ite (b := decide (pl ≠ [])) (st1 := { loc := [some (vT pat), some (vN pl)], cel := [some (vT w), some (vT [s])] }) ?_ (fun h => ?_) (fun h => ?_)) (Sto.l 1)) Sx.nil
      · refine Tr.cast (Tr.cmp (Ex.l 1) (Ex.list Es.nil rfl (by first | rfl | decide | simp)) (T2.neInts (xs := pl.map fun (k : Nat) => (k : Int)) (ys := []) rfl rfl)) ?_
        cases pl <;> simp
      · have hne : pl ≠ [] := by simpa using h
        have hp : at? ((pl.map fun (k : Nat) => (k : Int)).map V.int) 0 = some (.int (pl.headD 0 : Nat)) := by
          cases pl with
          | nil => exact absurd rfl hne
          | cons x r => rfl
        have hh : pl.headD 0 ≤ w.length := by
          cases pl with
          | nil => exact absurd rfl hne
          | cons x r => exact hk x List.mem_cons_self
        refine Ex.cast (Ex.listRange (Ex.b X 22 3) (Ex.b X 21 2) (Ex.itemL (Ex.l 1) Ex.int hp (by omega)) (Ex.bin (Ex.callB (Ex.b X 19 0) (Es.one (Ex.k 0)) (Tn.lenS (by omega))) Ex.int T2.addInt) (by omega) (by omega) (by omega) (by omega)) ?_
        rw [spread_int hk hne]
      · have hne : ¬ pl ≠ [] := by simpa using h
        unfold spread
        rw [if_neg hne]
        exact Ex.list Es.nil rfl (by first | rfl | decide | simp)
    · have h' : ¬ s = 42 := by simpa using h
      have e : fitStep w pl s = (pl.filter fun k => decide (k < w.length ∧ (s = 63 ∨ s = w.getD k 0))).map (· + 1) := by unfold fitStep; rw [if_neg h']
      rw [e]
      refine Sx.cons (S1.compF 1 (st1 := { loc := [some (vT pat), some (vN pl)], cel := [some (vT w), some (vT [s])] }) (W := vN ((pl.filter fun k => decide (k < w.length ∧ (s = 63 ∨ s = w.getD k 0))).map (· + 1)))
        (fun W => match W with | .int i => decide (i.toNat < w.length ∧ (s = 63 ∨ s = w.getD i.toNat 0)) | _ => false) (fun W => match W with | .int i => .int (i + 1) | _ => W) (Ie.list (Ex.l 1)) (fun W hW => ?_) (fun W hW _ => ?_) (by rw [List.length_map, List.length_map]; omega) ?_) Sx.nil
      · obtain ⟨i, hi, rfl⟩ := List.mem_map.mp hW
        obtain ⟨k, hk', rfl⟩ := List.mem_map.mp hi
        have hkw := hk k hk'
        show Tr _ _ _ _ _ (decide (k < w.length ∧ (s = 63 ∨ s = w.getD k 0))) _
        refine Tr.and2 (a := decide (k < w.length)) (b := decide (k < w.length ∧ (s = 63 ∨ s = w.getD k 0))) (Tr.cast (Tr.cmp (Ex.l 0) (Ex.callB (Ex.b X 19 0) (Es.one (Ex.k 0)) (Tn.lenS (by omega))) T2.ltInt) ?_) (fun h => Tr.cast (Tr.cmp (Ex.k 1) (Ex.list (Es.two (Ex.s (l := [63])) (Ex.itemS (k := w.getD k 0) (Ex.k 0) (Ex.l 0) ?_ (by omega))) rfl (by first | decide | (rw [hz']; simp))) (T2.inStrs (xs := [[63], [w.getD k 0]]) rfl)) ?_) (fun h => ?_)
        · simp
        · have h' : k < w.length := by simpa using h
          unfold at?
          rw [if_pos (by omega), Int.toNat_natCast, List.getD_eq_getElem?_getD, List.getElem?_eq_getElem h']; rfl
        · have h' : k < w.length := by simpa using h
          simp [h']
        · have h' : ¬ k < w.length := by simpa using h
          exact ⟨by simp [h'], rfl⟩
      · obtain ⟨i, hi, rfl⟩ := List.mem_map.mp hW
        exact ⟨Ex.bin (Ex.l 0) Ex.int T2.addInt, rfl⟩
      · rw [List.filter_map, List.filter_map, List.map_map, List.map_map]
        simp only [vN, vI, List.map_map]
        congr 1
theorem spec26 {D : Wd} (X : Std D) (n : Nat) (pat w : List Nat) (hw : w.length ≤ 1000) : CallSpec D (n + 1) (.ref 149) [vT pat, vT w] (.bool (fitsL pat w)) := by
  have hz' := sizeLine_eq
  obtain ⟨o, l1⟩ := lp26 X (n := n) pat w hw pat [0] none (by first | rfl | decide | simp) (by first | rfl | decide | simp)
  refine CallSpec.of (def26 X) rfl (st := st26 pat w (pat.foldl (fitStep w) [0]) o) ?_ (.fz rfl)
  show Sx D n c26 { loc := [some (vT pat), none], cel := [some (vT w), none] } (bodyOf 26) _ _
  refine Sx.cons (S1.assign (Ex.list (Es.one Ex.int) rfl (by first | decide | (rw [hz']; simp))) (Sto.l 1)) ?_
  refine Sx.cons (S1.for (Ie.strS (Ex.l 0)) l1) ?_
  refine Sx.stop (S1.ret (Ex.cast (Ex.cmp (Ex.callB (Ex.b X 19 0) (Es.one (Ex.k 0)) (Tn.lenS (by omega))) (Ex.l 1) (T2.inInts (xs := (pat.foldl (fitStep w) [0]).map fun (k : Nat) => (k : Int)) rfl)) ?_))
  unfold fitsL
  simp only [List.mem_map, V.bool.injEq, decide_eq_decide]
  exact ⟨fun ⟨a, h, e⟩ => by have : a = w.length := by omega
                             subst this; exact h, fun h => ⟨_, h, rfl⟩⟩
end Mine

open PySem PySem.W PyProof.Rows PySem.Calls
namespace Mine
def c25 : Cx := { scope := scopeOf 25, ln := ["text", "places", "deep", "behind"], cn := ["word", "inner", "k", "step"] }
theorem def25 {D : Wd} (X : Std D) : DefAt D 144 c25 ["text", "word"] (bodyOf 25) :=
  X.defAt 15 14 25 (mod := mLaw) (tok := 575) (code := 143) (dflt := .none) rfl rfl rfl rfl rfl rfl rfl rfl rfl (len_2 fun a b => by kernel_rfl) rfl rfl rfl (by decide +kernel) (by decide +kernel) (by decide +kernel) (by decide +kernel) (by decide +kernel) (by decide +kernel)
def open6 : List Nat := [40, 63, 62, 46, 42, 63]
def signs : List Nat := [40, 41, 91, 93, 123, 125, 63, 42, 43, 124, 94, 36]
def behindL (inner : List Nat) (k : Nat) : List Nat := (inner.drop (k + 1)).take 1
def stepPl (inner w pl : List Nat) (k st : Nat) : List Nat := (pl.filter fun p => decide (p < w.length ∧ (inner.getD k 0 = 46 ∨ w.getD p 0 = inner.getD (k + st - 1) 0))).map (· + 1)
/-- one turn of the strict reader: none where it refuses -/
def takeStep (inner w : List Nat) (q : List Nat × Nat × Nat) : Option (List Nat × Nat × Nat) :=
  if (inner.drop q.2.1).take 6 = open6 ∧ q.2.2 = 0 then some (spread w q.1, q.2.1 + 6, 1)
  else if inner.getD q.2.1 0 = 41 ∧ q.2.2 = 1 then some (q.1.take 1, q.2.1 + 1, 0)
  else if inner.getD q.2.1 0 :: behindL inner q.2.1 = [46, 42] ∧ q.2.2 = 0 then some (spread w q.1, q.2.1 + 2, 2)
  else if inner.getD q.2.1 0 ∈ signs ∨ (inner.getD q.2.1 0 = 92 ∧ (behindL inner q.2.1 = [] ∨ isAlnum (behindL inner q.2.1) = true)) then none
  else some (stepPl inner w q.1 q.2.1 (if inner.getD q.2.1 0 = 92 then 2 else 1), q.2.1 + (if inner.getD q.2.1 0 = 92 then 2 else 1), q.2.2)
def takesGo (inner w : List Nat) : Nat → List Nat × Nat × Nat → Bool
  | 0, q => decide (q.2.2 ≠ 1) && decide (w.length ∈ q.1)
  | f + 1, q => if q.2.1 < inner.length ∧ q.1 ≠ [] then (match takeStep inner w q with | none => false | some q' => takesGo inner w f q') else decide (q.2.2 ≠ 1) && decide (w.length ∈ q.1)
def takesL (text w : List Nat) : Bool :=
  let inner := sl text (some 4) (some (-3))
  if text ≠ [40, 63, 115, 58] ++ inner ++ [41, 92, 90] then false else takesGo inner w inner.length ([0], 0, 0)
theorem sl_nat {α : Type} (l : List α) (a b : Nat) (h : a ≤ b) : sl l (some (a : Int)) (some (b : Int)) = (l.drop a).take (b - a) := by
  unfold sl
  simp only [Option.elim, clipAt_nat]
  rcases Nat.le_total a l.length with ha | ha
  · rw [Nat.min_eq_left ha]
    rcases Nat.le_total b l.length with hb | hb
    · rw [Nat.min_eq_left hb]
    · rw [Nat.min_eq_right hb, List.take_of_length_le (by rw [List.length_drop]; omega), List.take_of_length_le (by rw [List.length_drop]; omega)]
  · rw [Nat.min_eq_right ha, List.drop_of_length_le (Nat.le_refl _), List.drop_of_length_le ha]; simp
theorem stepPl_le {inner w pl : List Nat} {k st : Nat} : ∀ p ∈ stepPl inner w pl k st, p ≤ w.length := fun p hp => by
  obtain ⟨j, hj, rfl⟩ := List.mem_map.mp hp
  have := (List.mem_filter.mp hj).2
  simp at this
  lia
theorem spread_len {w pl : List Nat} : (spread w pl).length ≤ w.length + 1 := by
  unfold spread; split
  · rw [List.length_map, List.length_range]; omega
  · simp
def st25 (t w inner pl : List Nat) (k deep : Nat) (b : Option V) (s : Option V) : St := { loc := [some (vT t), some (vN pl), some (.int deep), b], cel := [some (vT w), some (vT inner), some (.int k), s] }
end Mine

open PySem PySem.W PyProof.Rows PySem.Calls
namespace Mine
def thenOf : Stmt → List Stmt
  | .If _ a _ _ => a
  | _ => []
def elseOf : Stmt → List Stmt
  | .If _ _ b _ => b
  | _ => []
def hdS : List Stmt → Stmt
  | x :: _ => x
  | [] => .Pass ⟨0, 0, 0, 0⟩
def wBody : Stmt → List Stmt
  | .While _ b _ _ => b
  | _ => []
def wTest : Stmt → Expr
  | .While t _ _ _ => t
  | _ => default
def wh25 : Stmt := hdS ((bodyOf 25).drop 2)
def if25 : Stmt := hdS ((wBody wh25).drop 1)
def if25b : Stmt := hdS (elseOf if25)
def if25c : Stmt := hdS (elseOf if25b)
def if25d : Stmt := hdS (elseOf if25c)
def st25' (t w inner pl : List Nat) (k deep : Nat) (s : Int) : St := { loc := [some (vT t), some (vN pl), some (.int deep), some (vT (behindL inner k))], cel := [some (vT w), some (vT inner), some (.int k), some (.int s)] }
section
variable {D : Wd} (X : Std D) {n : Nat} {t w inner pl : List Nat} {k deep : Nat} (hi : inner.length ≤ 1000) (hk : k < inner.length)
include hk in
theorem it25 : at? inner (k : Int) = some (inner.getD k 0) := by
  unfold at?
  rw [if_pos (by lia), Int.toNat_natCast, List.getD_eq_getElem?_getD, List.getElem?_eq_getElem hk]; rfl
include hi hk X in
theorem if25_go (f : FV) (st' : St)
    (B1 : (inner.drop k).take 6 = open6 ∧ deep = 0 → Sx D n c25 (st25' t w inner pl k deep 1) (thenOf if25) f st')
    (B2 : ¬ ((inner.drop k).take 6 = open6 ∧ deep = 0) → inner.getD k 0 = 41 ∧ deep = 1 → Sx D n c25 (st25' t w inner pl k deep 1) (thenOf if25b) f st')
    (B3 : ¬ ((inner.drop k).take 6 = open6 ∧ deep = 0) → ¬ (inner.getD k 0 = 41 ∧ deep = 1) → inner.getD k 0 :: behindL inner k = [46, 42] ∧ deep = 0 → Sx D n c25 (st25' t w inner pl k deep 1) (thenOf if25c) f st')
    (B4 : ¬ ((inner.drop k).take 6 = open6 ∧ deep = 0) → ¬ (inner.getD k 0 = 41 ∧ deep = 1) → ¬ (inner.getD k 0 :: behindL inner k = [46, 42] ∧ deep = 0) → inner.getD k 0 ∈ signs ∨ (inner.getD k 0 = 92 ∧ (behindL inner k = [] ∨ isAlnum (behindL inner k) = true)) → Sx D n c25 (st25' t w inner pl k deep 1) (thenOf if25d) f st')
    (B5 : ¬ ((inner.drop k).take 6 = open6 ∧ deep = 0) → ¬ (inner.getD k 0 = 41 ∧ deep = 1) → ¬ (inner.getD k 0 :: behindL inner k = [46, 42] ∧ deep = 0) → ¬ (inner.getD k 0 ∈ signs ∨ (inner.getD k 0 = 92 ∧ (behindL inner k = [] ∨ isAlnum (behindL inner k) = true))) → Sx D n c25 (st25' t w inner pl k deep 1) (elseOf if25d) f st')
    (hf : f = .next ∨ f ≠ .next) : S1 D n c25 (st25' t w inner pl k deep 1) if25 f st' := by
  have hz' := sizeLine_eq
  have one : ∀ {s : Stmt}, S1 D n c25 (st25' t w inner pl k deep 1) s f st' → Sx D n c25 (st25' t w inner pl k deep 1) [s] f st' := fun h => by
    rcases hf with rfl | hf
    · exact Sx.cons h Sx.nil
    · exact Sx.stop h hf
  have hit := it25 hk
  generalize inner.getD k 0 = ch at hit B2 B3 B4 B5 ⊢
  have h6 : sl inner (some (k : Int)) (some ((k : Int) + 6)) = (inner.drop k).take 6 := by
    have := sl_nat inner k (k + 6) (by lia)
    rw [show k + 6 - k = 6 by lia] at this
    exact this
  refine S1.ite (b := decide ((inner.drop k).take 6 = open6 ∧ deep = 0)) (st1 := st25' t w inner pl k deep 1) ?_ (fun h => B1 (of_decide_eq_true h)) (fun h1 => one ?_)
  · refine Tr.and2 (a := decide ((inner.drop k).take 6 = open6)) (st1 := st25' t w inner pl k deep 1) (Tr.cast (Tr.cmp (Ex.sliceS (Ex.k 1) (.some (Ex.k 2)) (.some (Ex.bin (Ex.k 2) Ex.int T2.addInt)) (by lia)) (Ex.s (l := open6)) T2.eqS) (by rw [h6])) (fun h => Tr.cast (Tr.cmp (Ex.l 2) Ex.int T2.eqInt) ?_) (fun h => ⟨?_, rfl⟩)
    · have h' : (inner.drop k).take 6 = open6 := by simpa using h
      rw [Bool.eq_iff_iff, beq_iff_eq, decide_eq_true_iff, and_iff_right h']; lia
    · exact decide_eq_false fun q => of_decide_eq_false h q.1
  have n1 : ¬ ((inner.drop k).take 6 = open6 ∧ deep = 0) := of_decide_eq_false h1
  refine S1.ite (b := decide (ch = 41 ∧ deep = 1)) (st1 := st25' t w inner pl k deep 1) ?_ (fun h => B2 n1 (of_decide_eq_true h)) (fun h2 => one ?_)
  · refine Tr.and2 (a := decide (ch = 41)) (st1 := st25' t w inner pl k deep 1) (Tr.cast (Tr.cmp (Ex.itemS (Ex.k 1) (Ex.k 2) hit (by lia)) (Ex.s (l := [41])) T2.eqS) (by first | rfl | decide | simp)) (fun h => Tr.cast (Tr.cmp (Ex.l 2) Ex.int T2.eqInt) ?_) (fun h => ⟨?_, rfl⟩)
    · have h' : ch = 41 := by simpa using h
      rw [Bool.eq_iff_iff, beq_iff_eq, decide_eq_true_iff, and_iff_right h']; lia
    · exact decide_eq_false fun q => of_decide_eq_false h q.1
  have n2 : ¬ (ch = 41 ∧ deep = 1) := of_decide_eq_false h2
  have hbl : (behindL inner k).length ≤ 1 := by unfold behindL; rw [List.length_take]; lia
  refine S1.ite (b := decide (ch :: behindL inner k = [46, 42] ∧ deep = 0)) (st1 := st25' t w inner pl k deep 1) ?_ (fun h => B3 n1 n2 (of_decide_eq_true h)) (fun h3 => one ?_)
  · refine Tr.and2 (a := decide (ch :: behindL inner k = [46, 42])) (st1 := st25' t w inner pl k deep 1) (Tr.cast (Tr.cmp (Ex.bin (Ex.itemS (Ex.k 1) (Ex.k 2) hit (by lia)) (Ex.l 3) (T2.addS (by simp only [List.length_cons, List.length_nil]; lia))) (Ex.s (l := [46, 42])) T2.eqS) (by first | rfl | decide | simp)) (fun h => Tr.cast (Tr.cmp (Ex.l 2) Ex.int T2.eqInt) ?_) (fun h => ⟨?_, rfl⟩)
    · have h' : ch :: behindL inner k = [46, 42] := of_decide_eq_true h
      rw [Bool.eq_iff_iff, beq_iff_eq, decide_eq_true_iff, and_iff_right h']; lia
    · exact decide_eq_false fun q => of_decide_eq_false h q.1
  have n3 : ¬ (ch :: behindL inner k = [46, 42] ∧ deep = 0) := of_decide_eq_false h3
  refine S1.ite (b := decide (ch ∈ signs ∨ (ch = 92 ∧ (behindL inner k = [] ∨ isAlnum (behindL inner k) = true)))) (st1 := st25' t w inner pl k deep 1) ?_ (fun h => B4 n1 n2 n3 (of_decide_eq_true h)) (fun h => B5 n1 n2 n3 (of_decide_eq_false h))
  refine Tr.or2 (a := decide (ch ∈ signs)) (st1 := st25' t w inner pl k deep 1) (Tr.cmp (Ex.itemS (Ex.k 1) (Ex.k 2) hit (by lia)) (Ex.s (l := signs)) T2.inS) (fun h => ?_) (fun h => ⟨?_, rfl⟩)
  · have h' : ¬ ch ∈ signs := by simpa using h
    refine Tr.cast (a := decide (ch = 92 ∧ (behindL inner k = [] ∨ isAlnum (behindL inner k) = true))) (Tr.and2 (a := decide (ch = 92)) (st1 := st25' t w inner pl k deep 1) (Tr.cast (Tr.cmp (Ex.itemS (Ex.k 1) (Ex.k 2) hit (by lia)) (Ex.s (l := [92])) T2.eqS) (by first | rfl | decide | simp)) (fun h => ?_) (fun h => ⟨?_, rfl⟩)) (by simp [h'])
    · have h9 : ch = 92 := by simpa using h
      refine Tr.or2 (a := decide (behindL inner k = [])) (st1 := st25' t w inner pl k deep 1) (Tr.cmp (Ex.l 3) (Ex.s (l := [])) T2.eqS) (fun h => Tr.cast (Tr.plain (Ex.meth0 (Ex.l 3) Gm.isalnum Tn.isalnum) Ty.bool) ?_) (fun h => ⟨?_, rfl⟩)
      · have h'' : ¬ behindL inner k = [] := by simpa using h
        simp [h9, h'']
      · have h'' : behindL inner k = [] := by simpa using h
        simp [h9, h'']
    · have h9 : ¬ ch = 92 := by simpa using h
      simp [h9]
  · have h' : ch ∈ signs := by simpa using h
    simp [h']
end
end Mine

open PySem PySem.W PyProof.Rows PySem.Calls
namespace Mine
theorem at_nat {α : Type} {l : List α} {k : Nat} {x : α} (h : l[k]? = some x) : at? l (k : Int) = some x := by
  unfold at?; rw [if_pos (by lia), Int.toNat_natCast]; exact h
theorem headAt {pl : List Nat} (hne : pl ≠ []) : at? ((pl.map fun (k : Nat) => (k : Int)).map V.int) 0 = some (.int (pl.headD 0 : Nat)) := by
  cases pl with
  | nil => exact absurd rfl hne
  | cons x r => rfl
theorem head_le {w pl : List Nat} (hk : ∀ k ∈ pl, k ≤ w.length) (hne : pl ≠ []) : pl.headD 0 ≤ w.length := by
  cases pl with
  | nil => exact absurd rfl hne
  | cons x r => exact hk x List.mem_cons_self
section
variable {D : Wd} (X : Std D) {n : Nat} {t w inner pl : List Nat} {k deep : Nat} (hi : inner.length ≤ 1000) (hk : k < inner.length) (hw : w.length ≤ 1000) (hpl : ∀ p ∈ pl, p ≤ w.length) (hne : pl ≠ []) (hl : pl.length ≤ 1001)
include X hi hk hw hpl hne hl
theorem turn25 (b s : Option V) : match takeStep inner w (pl, k, deep) with
    | none => ∃ st', Sx D n c25 (st25 t w inner pl k deep b s) (wBody wh25) (.ret (.bool false)) st'
    | some q => ∃ b' s', Sx D n c25 (st25 t w inner pl k deep b s) (wBody wh25) .next (st25 t w inner q.1 q.2.1 q.2.2 b' s') := by
  have hz' := sizeLine_eq
  have hbh : sl inner (some ((k : Int) + 1)) (some ((k : Int) + 2)) = behindL inner k := by
    have := sl_nat inner (k + 1) (k + 2) (by lia)
    rw [show k + 2 - (k + 1) = 1 by lia] at this
    exact this
  have pre : ∀ {f : FV} {st' : St}, Sx D n c25 (st25' t w inner pl k deep 1) ((wBody wh25).drop 1) f st' → Sx D n c25 (st25 t w inner pl k deep b s) (wBody wh25) f st' := fun {f st'} h => by
    show Sx D n c25 { loc := [some (vT t), some (vN pl), some (.int deep), b], cel := [some (vT w), some (vT inner), some (.int k), s] } _ _ _
    refine Sx.cons (S1.tupP (Ws := [.int 1, vT (behindL inner k)]) (Es.two Ex.int (Ex.cast (Ex.sliceS (Ex.k 1) (.some (Ex.bin (Ex.k 2) Ex.int T2.addInt)) (.some (Ex.bin (Ex.k 2) Ex.int T2.addInt)) (by lia)) (by rw [hbh]))) rfl (.cons (Sto.k 3) (.cons (Sto.l 3) .nil)) (by first | rfl | decide | simp)) h
  have kst : ∀ (pl' : List Nat) (d' st : Nat), Sx D n c25 { loc := [some (vT t), some (vN pl'), some (.int d'), some (vT (behindL inner k))], cel := [some (vT w), some (vT inner), some (.int k), some (.int st)] } ((wBody wh25).drop 2) .next
      (st25 t w inner pl' (k + st) d' (some (vT (behindL inner k))) (some (.int st))) := fun pl' d' st =>
    Sx.cons (S1.assign (Ex.bin (Ex.k 2) (Ex.k 3) T2.addInt) (Sto.k 2)) Sx.nil
  have hit := it25 hk
  have go : ∀ {f : FV} {st' : St}, S1 D n c25 (st25' t w inner pl k deep 1) if25 f st' → f ≠ .next → Sx D n c25 (st25' t w inner pl k deep 1) ((wBody wh25).drop 1) f st' := fun h hf => Sx.stop h hf
  have go' : ∀ {st' st'' : St}, S1 D n c25 (st25' t w inner pl k deep 1) if25 .next st' → Sx D n c25 st' ((wBody wh25).drop 2) .next st'' → Sx D n c25 (st25' t w inner pl k deep 1) ((wBody wh25).drop 1) .next st'' := fun h g => Sx.cons h g
  unfold takeStep
  dsimp only
  by_cases c1 : (inner.drop k).take 6 = open6 ∧ deep = 0
  · rw [if_pos c1]
    refine ⟨_, _, pre (go' (st' := { loc := [some (vT t), some (vN (spread w pl)), some (.int 1), some (vT (behindL inner k))], cel := [some (vT w), some (vT inner), some (.int k), some (.int 6)] }) (if25_go X hi hk .next _ (fun _ => ?_) (fun h => absurd c1 h) (fun h => absurd c1 h) (fun h => absurd c1 h) (fun h => absurd c1 h) (.inl rfl)) (kst _ 1 6))⟩
    refine Sx.cons (S1.tupP (Ws := [vN (spread w pl), .int 6, .int 1]) (Es.cons (Ex.cast (Ex.listRange (Ex.b X 22 3) (Ex.b X 21 2) (Ex.itemL (Ex.l 1) Ex.int (headAt hne) (by lia)) (Ex.bin (Ex.callB (Ex.b X 19 0) (Es.one (Ex.k 0)) (Tn.lenS (by lia))) Ex.int T2.addInt) (by lia) (by lia) (by lia) (by have := head_le hpl hne; lia)) (by rw [spread_int hpl hne])) (Es.two Ex.int Ex.int) (by intros; rfl)) rfl (.cons (Sto.l 1) (.cons (Sto.k 3) (.cons (Sto.l 2) .nil))) (by first | rfl | decide | simp)) Sx.nil
  rw [if_neg c1]
  by_cases c2 : inner.getD k 0 = 41 ∧ deep = 1
  · rw [if_pos c2]
    refine ⟨_, _, pre (go' (st' := { loc := [some (vT t), some (vN (pl.take 1)), some (.int 0), some (vT (behindL inner k))], cel := [some (vT w), some (vT inner), some (.int k), some (.int 1)] }) (if25_go X hi hk .next _ (fun h => absurd h c1) (fun _ _ => ?_) (fun _ h => absurd c2 h) (fun _ h => absurd c2 h) (fun _ h => absurd c2 h) (.inl rfl)) (kst _ 0 1))⟩
    refine Sx.cons (S1.tupSwap (names := ["places", "deep"]) (Ws := [vN (pl.take 1), .int 0]) (Es.two (Ex.cast (Ex.sliceI (Ex.l 1) .none (.some Ex.int) (by rw [List.length_map]; lia)) ?_) Ex.int) rfl (.cons (Sto.l 2) (.cons (Sto.l 1) .nil)) (by first | decide | (rw [hz']; simp)) (fun env h => by cases env; (first | exact none_some h | exact some_none h | (obtain rfl := Option.some.inj h) | cases h); rfl)) Sx.nil
    have e := sl_take (pl.map fun (k : Nat) => (k : Int)) 1
    show vI (sl (pl.map fun (k : Nat) => (k : Int)) none (some ((1 : Nat) : Int))) = _
    rw [e, ← List.map_take]
  rw [if_neg c2]
  by_cases c3 : inner.getD k 0 :: behindL inner k = [46, 42] ∧ deep = 0
  · rw [if_pos c3]
    refine ⟨_, _, pre (go' (st' := { loc := [some (vT t), some (vN (spread w pl)), some (.int 2), some (vT (behindL inner k))], cel := [some (vT w), some (vT inner), some (.int k), some (.int 2)] }) (if25_go X hi hk .next _ (fun h => absurd h c1) (fun _ h => absurd h c2) (fun _ _ _ => ?_) (fun _ _ h => absurd c3 h) (fun _ _ h => absurd c3 h) (.inl rfl)) (kst _ 2 2))⟩
    refine Sx.cons (S1.tupP (Ws := [vN (spread w pl), .int 2, .int 2]) (Es.cons (Ex.cast (Ex.listRange (Ex.b X 22 3) (Ex.b X 21 2) (Ex.itemL (Ex.l 1) Ex.int (headAt hne) (by lia)) (Ex.bin (Ex.callB (Ex.b X 19 0) (Es.one (Ex.k 0)) (Tn.lenS (by lia))) Ex.int T2.addInt) (by lia) (by lia) (by lia) (by have := head_le hpl hne; lia)) (by rw [spread_int hpl hne])) (Es.two Ex.int Ex.int) (by intros; rfl)) rfl (.cons (Sto.l 1) (.cons (Sto.k 3) (.cons (Sto.l 2) .nil))) (by first | rfl | decide | simp)) Sx.nil
  rw [if_neg c3]
  by_cases c4 : inner.getD k 0 ∈ signs ∨ (inner.getD k 0 = 92 ∧ (behindL inner k = [] ∨ isAlnum (behindL inner k) = true))
  · rw [if_pos c4]
    exact ⟨_, pre (go (if25_go X hi hk (.ret (.bool false)) (st25' t w inner pl k deep 1) (fun h => absurd h c1) (fun _ h => absurd h c2) (fun _ _ h => absurd h c3) (fun _ _ _ _ => Sx.stop (S1.ret Ex.bool)) (fun _ _ _ h => absurd c4 h) (.inr (by intro h; (first | exact none_some h | exact some_none h | (obtain rfl := Option.some.inj h) | cases h)))) (by intro h; (first | exact none_some h | exact some_none h | (obtain rfl := Option.some.inj h) | cases h)))⟩
  rw [if_neg c4]
  generalize hst : (if inner.getD k 0 = 92 then 2 else 1) = st
  refine ⟨_, _, pre (go' (st' := { loc := [some (vT t), some (vN (stepPl inner w pl k st)), some (.int deep), some (vT (behindL inner k))], cel := [some (vT w), some (vT inner), some (.int k), some (.int st)] }) (if25_go X hi hk .next _ (fun h => absurd h c1) (fun _ h => absurd h c2) (fun _ _ h => absurd h c3) (fun _ _ _ h => absurd h c4) (fun _ _ _ _ => ?_) (.inl rfl)) (kst _ deep st))⟩
  have hs1 : 1 ≤ st ∧ k + st - 1 < inner.length := by
    rw [← hst]
    split
    · rename_i h9
      have : behindL inner k ≠ [] := fun h => c4 (.inr ⟨h9, .inl h⟩)
      refine ⟨by lia, ?_⟩
      refine Nat.lt_of_not_le fun hle => this ?_
      unfold behindL
      rw [List.drop_of_length_le (by lia)]; rfl
    · exact ⟨Nat.le_refl _, by lia⟩
  refine Sx.cons (S1.assign (st1 := st25' t w inner pl k deep 1) (W := .int st) (Ex.ite (b := decide (inner.getD k 0 = 92)) (st1 := st25' t w inner pl k deep 1) (Tr.cast (Tr.cmp (Ex.itemS (Ex.k 1) (Ex.k 2) hit (by lia)) (Ex.s (l := [92])) T2.eqS) (by first | rfl | decide | simp)) (fun h => ?_) (fun h => ?_)) (Sto.k 3)) ?_
  · have h9 : inner.getD k 0 = 92 := of_decide_eq_true h
    rw [if_pos h9] at hst; subst hst
    exact Ex.int
  · have h9 : ¬ inner.getD k 0 = 92 := of_decide_eq_false h
    rw [if_neg h9] at hst; subst hst
    exact Ex.int
  have hit2 : at? inner ((k : Int) + (st : Int) - 1) = some (inner.getD (k + st - 1) 0) := by
    have := at_nat (l := inner) (k := k + st - 1) (x := inner.getD (k + st - 1) 0) (by rw [List.getD_eq_getElem?_getD, List.getElem?_eq_getElem hs1.2]; rfl)
    rwa [show ((k + st - 1 : Nat) : Int) = (k : Int) + (st : Int) - 1 by lia] at this
  refine Sx.cons (S1.compF 1 (st1 := { loc := [some (vT t), some (vN pl), some (.int deep), some (vT (behindL inner k))], cel := [some (vT w), some (vT inner), some (.int k), some (.int st)] }) (W := vN (stepPl inner w pl k st))
    (fun W => match W with | .int i => decide (i.toNat < w.length ∧ (inner.getD k 0 = 46 ∨ w.getD i.toNat 0 = inner.getD (k + st - 1) 0)) | _ => false) (fun W => match W with | .int i => .int (i + 1) | _ => W) (Ie.list (Ex.l 1)) (fun W hW => ?_) (fun W hW _ => ?_) (by rw [List.length_map, List.length_map]; lia) ?_) Sx.nil
  · obtain ⟨i, hi', rfl⟩ := List.mem_map.mp hW
    obtain ⟨p, hp, rfl⟩ := List.mem_map.mp hi'
    have hpw := hpl p hp
    show Tr _ _ _ _ _ (decide (p < w.length ∧ (inner.getD k 0 = 46 ∨ w.getD p 0 = inner.getD (k + st - 1) 0))) _
    generalize inner.getD k 0 = ch at hit ⊢
    refine Tr.and2 (a := decide (p < w.length)) (st1 := stC { loc := [some (vT t), some (vN pl), some (.int deep), some (vT (behindL inner k))], cel := [some (vT w), some (vT inner), some (.int k), some (.int st)] } (some (.int p))) (Tr.cast (Tr.cmp (Ex.l 0) (Ex.callB (Ex.b X 19 0) (Es.one (Ex.k 0)) (Tn.lenS (by lia))) T2.ltInt) ?_) (fun h => ?_) (fun h => ⟨decide_eq_false fun q => of_decide_eq_false h q.1, rfl⟩)
    · simp
    · have h' : p < w.length := of_decide_eq_true h
      have hwp : at? w (p : Int) = some (w.getD p 0) := at_nat (by rw [List.getD_eq_getElem?_getD, List.getElem?_eq_getElem h']; rfl)
      refine Tr.cast (a := decide (ch = 46 ∨ w.getD p 0 = inner.getD (k + st - 1) 0)) (Tr.or2 (a := decide (ch = 46)) (st1 := stC { loc := [some (vT t), some (vN pl), some (.int deep), some (vT (behindL inner k))], cel := [some (vT w), some (vT inner), some (.int k), some (.int st)] } (some (.int p))) (Tr.cast (Tr.cmp (Ex.itemS (Ex.k 1) (Ex.k 2) hit (by lia)) (Ex.s (l := [46])) T2.eqS) (by first | rfl | decide | simp)) (fun h => ?_) (fun h => ⟨decide_eq_true (.inl (of_decide_eq_true h)), rfl⟩)) ?_
      · have h4 : ¬ ch = 46 := of_decide_eq_false h
        refine Tr.cast (Tr.cmp (Ex.itemS (Ex.k 0) (Ex.l 0) hwp (by lia)) (Ex.itemS (Ex.k 1) (Ex.bin (Ex.bin (Ex.k 2) (Ex.k 3) T2.addInt) Ex.int T2.subInt) hit2 (by lia)) T2.eqS) ?_
        rw [decide_eq_decide]
        constructor
        · intro e; exact .inr (by simpa using e)
        · rintro (e | e)
          · exact absurd e h4
          · rw [e]
      · rw [decide_eq_decide]; exact ⟨fun q => ⟨h', q⟩, fun q => q.2⟩
  · obtain ⟨i, hi', rfl⟩ := List.mem_map.mp hW
    exact ⟨Ex.bin (Ex.l 0) Ex.int T2.addInt, rfl⟩
  · unfold stepPl
    rw [List.filter_map, List.filter_map, List.map_map, List.map_map]
    simp only [vN, vI, List.map_map]
    congr 1
end
end Mine

open PySem PySem.W PyProof.Rows PySem.Calls
namespace Mine
theorem takeStep_ok {inner w pl : List Nat} {k deep : Nat} {q : List Nat × Nat × Nat} (h : takeStep inner w (pl, k, deep) = some q) (hpl : ∀ p ∈ pl, p ≤ w.length) (hl : pl.length ≤ w.length + 1) :
    k + 1 ≤ q.2.1 ∧ (∀ p ∈ q.1, p ≤ w.length) ∧ q.1.length ≤ w.length + 1 := by
  unfold takeStep at h
  dsimp only at h
  split at h
  · (first | exact none_some h | exact some_none h | (obtain rfl := Option.some.inj h) | cases h); exact ⟨by show k + 1 ≤ k + 6; lia, spread_le hpl, spread_len⟩
  split at h
  · (first | exact none_some h | exact some_none h | (obtain rfl := Option.some.inj h) | cases h); exact ⟨Nat.le_refl _, fun p hp => hpl p (List.mem_of_mem_take hp), by rw [List.length_take]; lia⟩
  split at h
  · (first | exact none_some h | exact some_none h | (obtain rfl := Option.some.inj h) | cases h); exact ⟨by show k + 1 ≤ k + 2; lia, spread_le hpl, spread_len⟩
  split at h
  · (first | exact none_some h | exact some_none h | (obtain rfl := Option.some.inj h) | cases h)
  · (first | exact none_some h | exact some_none h | (obtain rfl := Option.some.inj h) | cases h)
    refine ⟨by show k + 1 ≤ k + _; split <;> lia, stepPl_le, ?_⟩
    unfold stepPl
    rw [List.length_map]
    exact Nat.le_trans (List.length_filter_le ..) hl
section
variable {D : Wd} (X : Std D) {n : Nat} {t w inner : List Nat} (hi : inner.length ≤ 1000) (hw : w.length ≤ 1000)
include X hi hw
theorem wl25 : ∀ (fuel : Nat) (pl : List Nat) (k deep : Nat) (b s : Option V), inner.length ≤ k + fuel → (∀ p ∈ pl, p ≤ w.length) → pl.length ≤ w.length + 1 →
    ∃ kk f st', Wl D n c25 (wTest wh25) (wBody wh25) kk (st25 t w inner pl k deep b s) f st' ∧ ((f = .ret (.bool false) ∧ takesGo inner w fuel (pl, k, deep) = false) ∨
      (f = .next ∧ ∃ pl' k' deep' b' s', st' = st25 t w inner pl' k' deep' b' s' ∧ takesGo inner w fuel (pl, k, deep) = (decide (deep' ≠ 1) && decide (w.length ∈ pl')))) := by
  have hz' := sizeLine_eq
  have test : ∀ (pl : List Nat) (k deep : Nat) (b s : Option V), Tr D n c25 (st25 t w inner pl k deep b s) (wTest wh25) (decide (k < inner.length ∧ pl ≠ [])) (st25 t w inner pl k deep b s) := fun pl k deep b s => by
    show Tr D n c25 { loc := [some (vT t), some (vN pl), some (.int deep), b], cel := [some (vT w), some (vT inner), some (.int k), s] } _ _ _
    refine Tr.and2 (a := decide (k < inner.length)) (st1 := { loc := [some (vT t), some (vN pl), some (.int deep), b], cel := [some (vT w), some (vT inner), some (.int k), s] }) (Tr.cast (Tr.cmp (Ex.k 2) (Ex.callB (Ex.b X 19 0) (Es.one (Ex.k 1)) (Tn.lenS (by lia))) T2.ltInt) (by first | rfl | decide | simp)) (fun h => Tr.cast (Tr.cmp (Ex.l 1) (Ex.list Es.nil rfl (by first | rfl | decide | simp)) (T2.neInts (xs := pl.map fun (k : Nat) => (k : Int)) (ys := []) rfl rfl)) ?_) (fun h => ⟨decide_eq_false fun q => of_decide_eq_false h q.1, rfl⟩)
    have h' : k < inner.length := of_decide_eq_true h
    rw [decide_eq_decide]
    constructor
    · intro e; exact ⟨h', fun e' => e (by rw [e']; rfl)⟩
    · rintro ⟨_, e⟩ e'; exact e (List.map_eq_nil_iff.mp e')
  intro fuel
  induction fuel with
  | zero =>
    intro pl k deep b s hf hpl hl
    refine ⟨0, .next, _, .done (Tr.cast (test pl k deep b s) ?_), .inr ⟨rfl, pl, k, deep, b, s, rfl, rfl⟩⟩
    exact decide_eq_false fun q => by have := q.1; lia
  | succ fuel ih =>
    intro pl k deep b s hf hpl hl
    by_cases c : k < inner.length ∧ pl ≠ []
    · have ht := Tr.cast (test pl k deep b s) (decide_eq_true c)
      have hturn := turn25 X (n := n) (t := t) hi c.1 hw hpl c.2 (by lia) (deep := deep) b s
      cases hs : takeStep inner w (pl, k, deep) with
      | none =>
        rw [hs] at hturn
        obtain ⟨st', hb⟩ := hturn
        refine ⟨0, _, _, .ret ht hb, .inl ⟨rfl, ?_⟩⟩
        unfold takesGo
        rw [if_pos c, hs]
      | some q =>
        rw [hs] at hturn
        obtain ⟨b', s', hb⟩ := hturn
        obtain ⟨q1, q2, q3⟩ := takeStep_ok hs hpl hl
        obtain ⟨kk, f, st', hw', hr⟩ := ih q.1 q.2.1 q.2.2 b' s' (by lia) q2 q3
        refine ⟨kk + 1, f, st', .next ht hb hw', ?_⟩
        have e : takesGo inner w (fuel + 1) (pl, k, deep) = takesGo inner w fuel (q.1, q.2.1, q.2.2) := by
          conv => lhs; unfold takesGo
          rw [if_pos c, hs]
        rw [e]; exact hr
    · refine ⟨0, .next, _, .done (Tr.cast (test pl k deep b s) (decide_eq_false c)), .inr ⟨rfl, pl, k, deep, b, s, rfl, ?_⟩⟩
      unfold takesGo
      rw [if_neg c]
end
theorem spec25 {D : Wd} (X : Std D) (n : Nat) (t w : List Nat) (ht : t.length ≤ 900) (hw : w.length ≤ 1000) : CallSpec D (n + 1) (.ref 144) [vT t, vT w] (.bool (takesL t w)) := by
  have hz' := sizeLine_eq
  generalize hin : sl t (some 4) (some (-3)) = inner
  have hil : inner.length ≤ 900 := by rw [← hin]; exact Nat.le_trans (sl_len ..) ht
  have first : ∀ {f : FV} {st' : St}, Sx D n c25 (st25 t w inner [0] 0 0 none none) ((bodyOf 25).drop 1) f st' → Sx D n c25 (St0 c25 ["text", "word"] [vT t, vT w]) (bodyOf 25) f st' := fun {f st'} h => by
    show Sx D n c25 { loc := [some (vT t), none, none, none], cel := [some (vT w), none, none, none] } _ _ _
    refine Sx.cons (S1.tupP (Ws := [vT inner, vN [0], .int 0, .int 0]) (Es.cons (Ex.cast (Ex.sliceS (Ex.l 0) (.some Ex.int) (.some (Ex.un Ex.int T1.negInt)) (by lia)) (by rw [hin])) (Es.cons (Ex.list (Es.one Ex.int) rfl (by first | decide | (rw [hz']; simp))) (Es.two Ex.int Ex.int) (by intros; rfl)) (by intros; rfl)) rfl (.cons (Sto.k 1) (.cons (Sto.l 1) (.cons (Sto.k 2) (.cons (Sto.l 2) .nil)))) (by first | rfl | decide | simp)) h
  have hd : takesL t w = if t ≠ [40, 63, 115, 58] ++ inner ++ [41, 92, 90] then false else takesGo inner w inner.length ([0], 0, 0) := by unfold takesL; rw [hin]
  by_cases c : t ≠ [40, 63, 115, 58] ++ inner ++ [41, 92, 90]
  · rw [hd, if_pos c]
    refine CallSpec.of (def25 X) rfl (st := st25 t w inner [0] 0 0 none none) (W := .bool false) (first ?_) (.fz rfl)
    refine Sx.stop (S1.ite (b := true) (st1 := st25 t w inner [0] 0 0 none none) (Tr.cast (Tr.cmp (Ex.l 0) (Ex.bin (Ex.bin (Ex.s (l := [40, 63, 115, 58])) (Ex.k 1) (T2.addS (by simp only [List.length_cons, List.length_nil]; lia))) (Ex.s (l := [41, 92, 90])) (T2.addS (by rw [List.length_append]; simp only [List.length_cons, List.length_nil]; lia))) T2.neS) (decide_eq_true c)) (fun _ => Sx.stop (S1.ret Ex.bool)) (by first | exact fun h => ft_elim h | exact fun h => nil_elim h | exact fun h => nomatch h))
  · rw [hd, if_neg c]
    have second : ∀ {f : FV} {st' : St}, Sx D n c25 (st25 t w inner [0] 0 0 none none) ((bodyOf 25).drop 2) f st' → Sx D n c25 (st25 t w inner [0] 0 0 none none) ((bodyOf 25).drop 1) f st' := fun {f st'} h =>
      Sx.cons (S1.ite (b := false) (st1 := st25 t w inner [0] 0 0 none none) (Tr.cast (Tr.cmp (Ex.l 0) (Ex.bin (Ex.bin (Ex.s (l := [40, 63, 115, 58])) (Ex.k 1) (T2.addS (by simp only [List.length_cons, List.length_nil]; lia))) (Ex.s (l := [41, 92, 90])) (T2.addS (by rw [List.length_append]; simp only [List.length_cons, List.length_nil]; lia))) T2.neS) (decide_eq_false c)) (by first | exact fun h => ft_elim h | exact fun h => nil_elim h | exact fun h => nomatch h) (fun _ => Sx.nil)) h
    obtain ⟨kk, f, st', hwl, hr⟩ := wl25 X (n := n) (t := t) (w := w) (inner := inner) (by lia) hw inner.length [0] 0 0 none none (by lia) (by first | rfl | decide | simp) (by first | rfl | decide | simp)
    rcases hr with ⟨rfl, e⟩ | ⟨rfl, pl', k', deep', b', s', rfl, e⟩
    · rw [e]
      exact CallSpec.of (def25 X) rfl (st := st') (W := .bool false) (first (second (Sx.stop (S1.while hwl)))) (.fz rfl)
    · rw [e]
      refine CallSpec.of (def25 X) rfl (st := st25 t w inner pl' k' deep' b' s') (W := .bool (decide (deep' ≠ 1) && decide (w.length ∈ pl'))) (first (second (Sx.cons (S1.while hwl) ?_))) (.fz rfl)
      refine Sx.stop (S1.ret (Ex.and2 (a := decide (deep' ≠ 1)) (st1 := st25 t w inner pl' k' deep' b' s') (Ex.cast (Ex.cmp (Ex.l 2) Ex.int T2.neInt) ?_) (fun h => Ex.cast (Ex.cmp (Ex.callB (Ex.b X 19 0) (Es.one (Ex.k 0)) (Tn.lenS (by lia))) (Ex.l 1) (T2.inInts (xs := pl'.map fun (k : Nat) => (k : Int)) rfl)) ?_) (fun h => ⟨by rw [h]; rfl, rfl⟩)))
      · rw [V.bool.injEq, Bool.eq_iff_iff, bne_iff_ne, decide_eq_true_iff]; lia
      · rw [h, Bool.true_and]
        simp only [List.mem_map, V.bool.injEq, decide_eq_decide]
        exact ⟨fun ⟨a, h, e⟩ => by have : a = w.length := by lia
                                   subst this; exact h, fun h => ⟨_, h, rfl⟩⟩
end Mine

open PySem PySem.W PyProof.Rows PySem.Calls
namespace Mine
def c5 : Cx := { scope := scopeOf 5, ln := ["s", "amount", "lpos", "rpos"] }
theorem def5 {D : Wd} (X : Std D) : DefAt D 52 c5 ["s", "amount"] (bodyOf 5) :=
  X.defAt 3 2 5 (mod := mLoc) (tok := 282) (code := 51) (dflt := .none) rfl rfl rfl rfl rfl rfl rfl rfl rfl (len_2 fun a b => by kernel_rfl) rfl rfl rfl (by decide +kernel) (by decide +kernel) (by decide +kernel) (by decide +kernel) (by decide +kernel) (by decide +kernel)
def blanks (a : Nat) (m : List Nat) (b : Nat) : List Nat := List.replicate a 32 ++ m ++ List.replicate b 32
/-- the text without as many blanks as told, those ahead first -/
def stripL (a : Nat) (m : List Nat) (b c : Nat) : List Nat := blanks (a - min c a) m (b - min (c - min c a) b)
theorem T2.cast {D : Wd} {n : Nat} {c : Cx} {st st' : St} {a b W W' : V} {f : Env → Value → Value → Sem Value} (h : T2 D n c st a b f W st') (e : W = W') : T2 D n c st a b f W' st' := e ▸ h
def st5 (s : List Nat) (c l : Nat) (r : Option V) : St := { loc := [some (vT s), some (.int c), some (.int l), r] }
theorem blanks_get {a b : Nat} {m : List Nat} : (∀ i, i < a → (blanks a m b)[i]? = some 32) ∧ (blanks a m b)[a]? = (m ++ List.replicate b 32)[0]? := by
  unfold blanks
  constructor
  · intro i hi
    rw [List.append_assoc, List.getElem?_append_left (by simpa using hi)]
    simp [hi]
  · rw [List.append_assoc, List.getElem?_append_right (by first | rfl | decide | simp)]; simp
theorem blanks_len (a b : Nat) (m : List Nat) : (blanks a m b).length = a + m.length + b := by simp [blanks, Nat.add_assoc]
theorem blanks_end {a b : Nat} {m : List Nat} : (∀ j, j < b → (blanks a m b)[a + m.length + b - 1 - j]? = some 32) ∧ (m ≠ [] → (blanks a m b)[a + m.length - 1]? = m.getLast?) := by
  unfold blanks
  constructor
  · intro j hj
    rw [List.getElem?_append_right (by rw [List.length_append, List.length_replicate]; lia)]
    rw [List.length_append, List.length_replicate, List.getElem?_replicate, if_pos (by lia)]
  · intro hm
    have hl : 0 < m.length := by cases m with | nil => exact absurd rfl hm | cons _ _ => simp
    rw [List.append_assoc, List.getElem?_append_right (by rw [List.length_replicate]; lia), List.length_replicate, List.getElem?_append_left (by lia), List.getLast?_eq_getElem?]
    congr 1; lia
def w1s5 : Stmt := hdS ((bodyOf 5).drop 1)
def w2s5 : Stmt := hdS ((bodyOf 5).drop 3)
section
variable {D : Wd} {n : Nat} {a b : Nat} {m : List Nat} (hh : m.head? ≠ some 32) (hm : m ≠ []) (hL : m.getLast? ≠ some 32) (hz : a + m.length + b ≤ 1000000)
include hh hm hz in
theorem wl5a : ∀ (c i : Nat), i ≤ a → ∃ kk, Wl D n c5 (wTest w1s5) (wBody w1s5) kk (st5 (blanks a m b) c i none) .next (st5 (blanks a m b) (c - min c (a - i)) (i + min c (a - i)) none)
  | 0, i, hi => by
    refine ⟨0, ?_⟩
    rw [show min 0 (a - i) = 0 by lia]
    refine .done (st1 := st5 (blanks a m b) 0 i none) ?_
    show Tr D n c5 { loc := [some (vT (blanks a m b)), some (.int (0 : Nat)), some (.int i), none] } _ _ _
    exact Tr.and2 (a := false) (st1 := { loc := [some (vT (blanks a m b)), some (.int (0 : Nat)), some (.int i), none] }) (Tr.plain (Ex.l 1) Ty.int) (by first | exact fun h => ft_elim h | exact fun h => nil_elim h | exact fun h => nomatch h) (fun _ => ⟨rfl, rfl⟩)
  | c + 1, i, hi => by
    have test : ∀ x, (blanks a m b)[i]? = some x → Tr D n c5 (st5 (blanks a m b) (c + 1) i none) (wTest w1s5) (decide (x = 32)) (st5 (blanks a m b) (c + 1) i none) := fun x hx => by
      show Tr D n c5 { loc := [some (vT (blanks a m b)), some (.int (c + 1 : Nat)), some (.int i), none] } _ _ _
      have hil : i < (blanks a m b).length := (List.getElem?_eq_some_iff.mp hx).1
      rw [blanks_len] at hil
      exact Tr.and2 (a := true) (st1 := { loc := [some (vT (blanks a m b)), some (.int (c + 1 : Nat)), some (.int i), none] }) (Tr.cast (Tr.plain (Ex.l 1) Ty.int) (by rw [bne_iff_ne]; lia)) (fun _ => Tr.cast (Tr.cmp (Ex.itemS (Ex.l 0) (Ex.l 2) (at_nat hx) (by lia)) (Ex.s (l := [32])) T2.eqS) (by first | rfl | decide | simp)) (by first | exact fun h => ft_elim h | exact fun h => nil_elim h | exact fun h => nomatch h)
    by_cases h : i < a
    · obtain ⟨kk, ih⟩ := wl5a c (i + 1) (by lia)
      refine ⟨kk + 1, ?_⟩
      rw [min_st1 h, min_st2 h]
      refine .next (test 32 (blanks_get.1 i h)) ?_ ih
      show Sx D n c5 { loc := [some (vT (blanks a m b)), some (.int (c + 1 : Nat)), some (.int i), none] } _ _ _
      refine Sx.cons (S1.aug 2 rfl rfl rfl Ex.int T2.iadd (Sto.l 2)) (Sx.cons (S1.aug 1 rfl rfl rfl Ex.int (T2.cast T2.isub (W' := .int (c : Nat)) (by rw [V.int.injEq]; lia)) (Sto.l 1)) Sx.nil)
    · have e : i = a := by lia
      subst e
      refine ⟨0, ?_⟩
      rw [show min (c + 1) (i - i) = 0 by lia]
      have hne : ∃ x, m.head? = some x ∧ x ≠ 32 := by
        cases m with
        | nil => exact absurd rfl hm
        | cons y r => exact ⟨y, rfl, fun q => hh (by rw [q]; rfl)⟩
      obtain ⟨x, hx, hx'⟩ := hne
      have hg : (blanks i m b)[i]? = some x := by
        rw [blanks_get.2]
        cases m with
        | nil => exact absurd rfl hm
        | cons y r => simpa using hx
      exact .done (Tr.cast (test x hg) (decide_eq_false hx'))
include hL hm hz in
theorem wl5b (l : Nat) : ∀ (c j : Nat), j ≤ b → ∃ kk, Wl D n c5 (wTest w2s5) (wBody w2s5) kk (st5 (blanks a m b) c l (some (.int ((a + m.length + b - 1 - j : Nat) : Int)))) .next (st5 (blanks a m b) (c - min c (b - j)) l (some (.int ((a + m.length + b - 1 - (j + min c (b - j)) : Nat) : Int))))
  | 0, j, hj => by
    refine ⟨0, ?_⟩
    rw [show min 0 (b - j) = 0 by lia]
    refine .done (st1 := st5 (blanks a m b) 0 l (some (.int ((a + m.length + b - 1 - j : Nat) : Int)))) ?_
    show Tr D n c5 { loc := [some (vT (blanks a m b)), some (.int (0 : Nat)), some (.int l), some (.int ((a + m.length + b - 1 - j : Nat) : Int))] } _ _ _
    exact Tr.and2 (a := false) (st1 := { loc := [some (vT (blanks a m b)), some (.int (0 : Nat)), some (.int l), some (.int ((a + m.length + b - 1 - j : Nat) : Int))] }) (Tr.plain (Ex.l 1) Ty.int) (by first | exact fun h => ft_elim h | exact fun h => nil_elim h | exact fun h => nomatch h) (fun _ => ⟨rfl, rfl⟩)
  | c + 1, j, hj => by
    have hml : 0 < m.length := by cases m with | nil => exact absurd rfl hm | cons _ _ => simp
    have test : ∀ x, (blanks a m b)[a + m.length + b - 1 - j]? = some x → Tr D n c5 (st5 (blanks a m b) (c + 1) l (some (.int ((a + m.length + b - 1 - j : Nat) : Int)))) (wTest w2s5) (decide (x = 32)) (st5 (blanks a m b) (c + 1) l (some (.int ((a + m.length + b - 1 - j : Nat) : Int)))) := fun x hx => by
      show Tr D n c5 { loc := [some (vT (blanks a m b)), some (.int (c + 1 : Nat)), some (.int l), some (.int ((a + m.length + b - 1 - j : Nat) : Int))] } _ _ _
      exact Tr.and2 (a := true) (st1 := { loc := [some (vT (blanks a m b)), some (.int (c + 1 : Nat)), some (.int l), some (.int ((a + m.length + b - 1 - j : Nat) : Int))] }) (Tr.cast (Tr.plain (Ex.l 1) Ty.int) (by rw [bne_iff_ne]; lia)) (fun _ => Tr.cast (Tr.cmp (Ex.itemS (Ex.l 0) (Ex.l 3) (at_nat hx) (by lia)) (Ex.s (l := [32])) T2.eqS) (by first | rfl | decide | simp)) (by first | exact fun h => ft_elim h | exact fun h => nil_elim h | exact fun h => nomatch h)
    by_cases h : j < b
    · obtain ⟨kk, ih⟩ := wl5b l c (j + 1) (by lia)
      refine ⟨kk + 1, ?_⟩
      rw [min_st1 h, min_st2 h]
      refine .next (test 32 (blanks_end.1 j h)) ?_ ih
      show Sx D n c5 { loc := [some (vT (blanks a m b)), some (.int (c + 1 : Nat)), some (.int l), some (.int ((a + m.length + b - 1 - j : Nat) : Int))] } _ _ _
      refine Sx.cons (S1.aug 3 rfl rfl rfl Ex.int (T2.cast T2.isub (W' := .int ((a + m.length + b - 1 - (j + 1) : Nat) : Int)) (by rw [V.int.injEq]; lia)) (Sto.l 3)) (Sx.cons (S1.aug 1 rfl rfl rfl Ex.int (T2.cast T2.isub (W' := .int (c : Nat)) (by rw [V.int.injEq]; lia)) (Sto.l 1)) Sx.nil)
    · have e : j = b := by lia
      subst e
      refine ⟨0, ?_⟩
      rw [show min (c + 1) (j - j) = 0 by lia]
      obtain ⟨x, hx⟩ : ∃ x, m.getLast? = some x := ⟨m.getLast hm, List.getLast?_eq_some_getLast hm⟩
      have hx' : x ≠ 32 := fun q => hL (by rw [hx, q])
      have hg : (blanks a m j)[a + m.length + j - 1 - j]? = some x := by
        have := (blanks_end (a := a) (b := j) (m := m)).2 hm
        rw [show a + m.length + j - 1 - j = a + m.length - 1 by lia, this]; exact hx
      exact .done (Tr.cast (test x hg) (decide_eq_false hx'))
end
theorem spec5 {D : Wd} (X : Std D) (n : Nat) (a b c : Nat) (m : List Nat) (hh : m.head? ≠ some 32) (hm : m ≠ []) (hL : m.getLast? ≠ some 32) (hz : a + m.length + b ≤ 1000000) : CallSpec D (n + 1) (.ref 52) [vT (blanks a m b), .int c] (vT (stripL a m b c)) := by
  have hz' := sizeLine_eq
  have hml : 0 < m.length := by cases m with | nil => exact absurd rfl hm | cons _ _ => simp
  obtain ⟨k1, l1⟩ := wl5a (D := D) (n := n) (b := b) hh hm hz c 0 (Nat.zero_le _)
  obtain ⟨k2, l2⟩ := wl5b (D := D) (n := n) (a := a) hm hL hz (min c a) (c - min c a) 0 (Nat.zero_le _)
  rw [Nat.sub_zero, Nat.zero_add] at l1
  rw [Nat.sub_zero, Nat.sub_zero, Nat.zero_add] at l2
  generalize hr : min (c - min c a) b = r at l2
  have hrb : r ≤ b := by omega
  have hla : min c a ≤ a := by omega
  refine CallSpec.of (def5 X) rfl (st := st5 (blanks a m b) (c - min c a - r) (min c a) (some (.int ((a + m.length + b - 1 - r : Nat) : Int)))) ?_ (.fz rfl)
  show Sx D n c5 { loc := [some (vT (blanks a m b)), some (.int c), none, none] } (bodyOf 5) _ _
  refine Sx.cons (S1.assign Ex.int (Sto.l 2)) ?_
  refine Sx.cons (S1.while l1) ?_
  show Sx D n c5 { loc := [some (vT (blanks a m b)), some (.int (c - min c a : Nat)), some (.int (min c a : Nat)), none] } _ _ _
  refine Sx.cons (S1.assign (Ex.cast (Ex.bin (Ex.callB (Ex.b X 19 0) (Es.one (Ex.l 0)) (Tn.lenS (by rw [blanks_len]; omega))) Ex.int T2.subInt) (b := .int ((a + m.length + b - 1 : Nat) : Int)) (by rw [blanks_len, V.int.injEq]; omega)) (Sto.l 3)) ?_
  refine Sx.cons (S1.while l2) ?_
  show Sx D n c5 { loc := [some (vT (blanks a m b)), some (.int (c - min c a - r : Nat)), some (.int (min c a : Nat)), some (.int ((a + m.length + b - 1 - r : Nat) : Int))] } _ _ _
  refine Sx.stop (S1.ret (Ex.cast (Ex.sliceS (Ex.l 0) (.some (Ex.l 2)) (.some (Ex.cast (Ex.bin (Ex.l 3) Ex.int T2.addInt) (b := .int ((a + m.length + b - r : Nat) : Int)) (by rw [V.int.injEq]; omega))) (by rw [blanks_len]; omega)) ?_))
  rw [sl_nat _ _ _ (by omega)]
  unfold stripL blanks
  rw [hr]
  congr 2
  have h1 : a + m.length + b - r - min c a = (a - min c a) + (m.length + (b - r)) := by rw [Nat.add_sub_assoc hrb, Nat.add_assoc, Nat.sub_add_comm hla]
  rw [List.append_assoc, List.drop_append_of_le_length (by rw [List.length_replicate]; exact hla), List.drop_replicate, List.append_assoc, List.take_append, List.take_append]
  simp only [List.length_replicate, List.take_replicate]
  rw [h1, Nat.min_eq_right (Nat.le_add_right _ _), Nat.add_sub_cancel_left, List.take_of_length_le (Nat.le_add_right _ _), Nat.add_sub_cancel_left, Nat.min_eq_left (Nat.sub_le b r)]
end Mine

open PySem PySem.W PyProof.Rows PySem.Calls
namespace Mine
section
variable {prog : Program} {w : World} {A : Around} {E : Value → Shared → Prop} {s : Shared}
open Builtin Builtin.Str
theorem look_keep {d : Addr} {c : Nat} {Q : Mapped → Shared → Prop} (hd : (d == sysModules) = false) (hh : A.handled = none) (hm : s.heap.MapOf (intKind prog w) d f) (hv : f (c : Int) = none)
    (h : ∀ h' tk, Ext s.heap h' → Q .keep { s with heap := h', toks := tk }) : wpAny (model prog w) A (tableLookup (.ref d) c) Q E s := by
  unfold tableLookup
  refine wpAny_bind (wpAny_attempt (wpAny_bind (wpAny_mkInt (wpAny_getItem_missing_of (s := { s with toks := s.toks + 1 }) (intKind_is _ _ _ _) hd hh hm hv fun h' e x => ?_))))
  obtain ⟨ob, t, h1, h2, h3⟩ := x.there
  refine wpAny_bind (wpAny_isInstance (T := "KeyError") (b := true) ⟨ob, h1, h2⟩ (by rw [isSubtype_type]; kernel_rfl) ?_)
  exact wpAny_bind (wpAny_rule (wpAny_pure (h h' _ x.keeps)))
theorem translate_one {d : Addr} {c : Nat} {t : Tok} {f : Int → Option Value} {Q : Value → Shared → Prop} (hc : c < 128) (hd : (d == sysModules) = false) (hh : A.handled = none) (hm : s.heap.MapOf (intKind prog w) d f) (hv : f (c : Int) = none)
    (h : ∀ h' tk t', Ext s.heap h' → Q (.str (S [c]) t') { s with heap := h', toks := tk }) : wpAny (model prog w) A (call (.builtin "str.translate") [.str (S [c]) t, .ref d]) Q E s := by
  refine wpAny_call_entry PySem.F.slot_str_translate (typeIs_str _ _ _) PySem.F.entry_str_translate ?_ (PySem.F.args_str_translate_2 _ _)
  unfold Builtin.«str.translate»
  refine wpAny_bind (m := strOneArg "translate" _) (wpAny_pure (a := (Value.str (S [c]) t, S [c], Value.ref d)) ?_)
  have hall : (S [c]).cps.all (· < 128) = true := by simp [S, hc]
  dsimp only
  rw [if_neg (by rw [S_len]; simp), hall]
  simp only [S, List.forIn_toArray, List.forIn_cons, List.forIn_nil, bind_assoc, pure_bind, List.lookup_nil, if_true]
  rw [if_neg (by decide)]
  refine wpAny_bind (wpAny_bind (look_keep hd hh hm hv fun h' tk x => ?_))
  refine wpAny_pure (a := ForInStep.yield (([⟨#[c]⟩] : List Str), (0 + 1 : Nat), true, ([(c, some c)] : List (Nat × Option Nat)), false)) ?_
  refine wpAny_bind (wpAny_pure (a := (([⟨#[c]⟩] : List Str), (0 + 1 : Nat), true, ([(c, some c)] : List (Nat × Option Nat)), false)) ?_)
  dsimp only
  rw [if_neg (by decide)]
  refine wpAny_bind (wpAny_mkStr (hx := by show (S [c]).length ≤ sizeLine; rw [S_len, sizeLine_eq]; simp) (wpAny_pure ⟨_, rfl, ?_⟩))
  exact h h' _ _ x
end
/-- the table's keys -/
theorem spc_keys : spcE.all (fun e => match e.key with | .int k _ => e.hash == hashInt k | _ => false) = true := by decide +kernel
def spcF (k : Int) : Option Value := findBy Value.isInt spcE.toArray k
theorem spc_map {D : Wd} (X : Std D) {B : Heap} (G : Good D B) : B.MapOf (intKind D.prog D.w) 66 spcF := by
  refine ⟨_, _, _, G.k _ _ (by rw [X.K]; rfl), ⟨rfl, rfl, rfl⟩, rfl, fun e he => ?_, fun k => rfl⟩
  have he' : e ∈ spcE := by simpa using he
  have := List.all_eq_true.mp spc_keys e he'
  obtain ⟨hash, key, val⟩ := e
  dsimp only at this ⊢
  split at this
  · rename_i k t
    exact ⟨k, by simp [intKind, Value.isInt], by simpa [intKind] using this⟩
  · (first | exact none_some this | exact some_none this | (obtain rfl := Option.some.inj this) | cases this)
def c11 : Cx := { scope := scopeOf 11, ln := ["pattern"] }
theorem def11 {D : Wd} (X : Std D) : DefAt D 76 c11 ["pattern"] (bodyOf 11) :=
  X.defAt 5 4 11 (mod := "re") (tok := 362) (code := 75) (dflt := .none) rfl rfl rfl rfl rfl rfl rfl rfl rfl (len_1 fun a => by kernel_rfl) rfl rfl rfl (by decide +kernel) (by decide +kernel) (by decide +kernel) (by decide +kernel) (by decide +kernel) (by decide +kernel)
theorem Tn.translate {D : Wd} (X : Std D) {n : Nat} {cx : Cx} {st : St} {c : Nat} (hc : c < 128) (hv : spcF c = none) : Tn D n cx st [vT [c], .raw (.ref 66)] (fun vs => call (.builtin "str.translate") vs) (vT [c]) st := fun A env B s rs ca p Q E vs hA R q H => by
  apply VRs.two q; intro v u q 
  cases (show VF B v _ from q.1) with
  | str _ t =>
    cases (show VF B u (.raw (.ref 66)) from q.2.1)
    have hm : s.heap.MapOf (intKind D.prog D.w) 66 spcF := by
      obtain ⟨o, es, ep, ho, r⟩ := spc_map X R.good
      exact ⟨o, es, ep, R.ext _ _ ho, r⟩
    refine with_size (translate_one hc (by decide) hA.handled hm hv fun h' tk t' x hsz => ?_)
    exact H.grow R x hsz fun B' e g => .of (.str ..)
theorem spec11 {D : Wd} (X : Std D) (n : Nat) (c : Nat) (hc : c < 128) (hv : spcF c = none) : CallSpec D (n + 1) (.ref 76) [vT [c]] (vT [c]) := by
  refine CallSpec.of (def11 X) rfl (st := { loc := [some (vT [c])] }) ?_ (.fz rfl)
  show Sx D n c11 { loc := [some (vT [c])] } (bodyOf 11) _ _
  refine Sx.stop (S1.ite (b := true) (st1 := { loc := [some (vT [c])] }) (Tr.plain (Ex.callB (Ex.b X 25 6) (Es.two (Ex.l 0) (Ex.b X 24 5)) Tn.isinst) Ty.bool) (fun _ => Sx.stop (S1.ret (Ex.meth (Ex.l 0) Gm.translate (Es.one (Ex.g X 18)) (Tn.translate X hc hv)))) (by first | exact fun h => ft_elim h | exact fun h => nil_elim h | exact fun h => nomatch h))
theorem spcF_ok : spcF 44 = none ∧ spcF 52 = none ∧ spcF 53 = none := ⟨rfl, rfl, rfl⟩
end Mine

open PySem PySem.W PyProof.Rows PySem.Calls
namespace Mine
section
variable {prog : Program} {w : World} {A : Around} {E : Value → Shared → Prop} {h : Heap} {g : Array GenState} {d : Drawn} {t : Nat} {os : OsState} {a : Addr} {us : Array Value} {kk : Nat}
theorem lk_append : typeLookup (.type "list") "append" = pure (some (.builtin "list.append")) := slot_list_append.lookup
theorem lk_md_get : typeLookup (.type "method_descriptor") "__get__" = pure (some (.builtin "method_descriptor.__get__")) := by rw [typeLookup_type, builtinLookup_eq_fast]; kernel_rfl
theorem lk_md_set : typeLookup (.type "method_descriptor") "__set__" = pure none := by rw [typeLookup_type, builtinLookup_eq_fast]; kernel_rfl
theorem lk_md_delete : typeLookup (.type "method_descriptor") "__delete__" = pure none := by rw [typeLookup_type, builtinLookup_eq_fast]; kernel_rfl
theorem slot_md_get : Slot "method_descriptor" "__get__" "method_descriptor.__get__" :=
  .of (owner := "method_descriptor") (n := "__get__") (by rw [typeLookup_type, builtinLookup_eq_fast]; kernel_rfl) (by decide +kernel) (by decide +kernel) (by decide +kernel)
    (by first | exact .inl (by decide +kernel) | exact .inr (by decide +kernel)) (by rw [isSubtype_type]; kernel_rfl)
theorem entry_md_get : entryFor table "method_descriptor.__get__" = some Builtin.«method_descriptor.__get__» := entryFor_of_tree (by kernel_rfl)
theorem args_md_get (a b c : Value) : argsOk "method_descriptor.__get__" ⟨[a, b, c], []⟩ := by unfold argsOk; kernel_rfl
theorem owner_append : (".".intercalate ("list.append".cutAt '.').dropLast) = "list" := by
  have e0 : "list.append".cutAt '.' = ["list", "append"] := by first | rfl | decide +kernel
  rw [e0]; rfl
theorem sub_append : isSubtype (.type "list") (.type (".".intercalate ("list.append".cutAt '.').dropLast)) = pure true := by
  rw [owner_append, isSubtype_type]; kernel_rfl
theorem md_get {R : Result → Shared → Prop} (hx : h.get? a = some (⟨.type "list", none, .seq us kk, #[]⟩ : Obj)) (hq : R (.ok (.ret (.ref h.objs.size))) ⟨h.push (bndObj a), g, d, t, os⟩) :
    codeAny (model prog w) A (.call (.builtin "method_descriptor.__get__") ⟨[.builtin "list.append", .ref a, .type "list"], []⟩) R ⟨h, g, d, t, os⟩ := by
  have hT : (⟨h, g, d, t, os⟩ : Shared).TypeIs (.ref a) "list" := ⟨_, hx, rfl⟩
  have hT5 : (⟨h, g, d, t, os⟩ : Shared).TypeIs (.builtin "list.append") "method_descriptor" := type_list_append
  have f9 := sub_append
  refine codeAny_call_builtin slot_md_get.plain entry_md_get (slot_md_get.check _ _ _ _ _ _ _ _ hT5 (args_md_get _ _ _) ?_)
  repeat (any_goals (first | assumption | wp_step))
theorem append_entry {tk : Tok} {Q : PySem.Fin → Shared → Prop} (hx : h.get? a = some (⟨.type "list", none, .seq us kk, #[]⟩ : Obj)) (hq : Q (.done (.ret (.ref h.objs.size))) ⟨h.push (bndObj a), g, d, t, os⟩) :
    wpAny (model prog w) A (Builtin.«object.__getattribute__» ⟨[.ref a, .str "append" tk], []⟩) Q E ⟨h, g, d, t, os⟩ := by
  have hT : (⟨h, g, d, t, os⟩ : Shared).TypeIs (.ref a) "list" := ⟨_, hx, rfl⟩
  have hT5 : (⟨h, g, d, t, os⟩ : Shared).TypeIs (.builtin "list.append") "method_descriptor" := type_list_append
  have f4 := lk_append
  have f5 := type_list_append
  have f6 := lk_md_get
  have f7 := lk_md_set
  have f8 := lk_md_delete
  repeat (any_goals (first | assumption | wp_step))
  refine md_get hx ?_
  repeat (any_goals (first | assumption | wp_step))
theorem append_call {tk : Tok} {R : Result → Shared → Prop} (hx : h.get? a = some (⟨.type "list", none, .seq us kk, #[]⟩ : Obj)) (hq : R (.ok (.ret (.ref h.objs.size))) ⟨h.push (bndObj a), g, d, t, os⟩) :
    codeAny (model prog w) A (.call (.builtin "list.__getattribute__") ⟨[.ref a, .str "append" tk], []⟩) R ⟨h, g, d, t, os⟩ :=
  codeAny_call_builtin F.slot_list_getattribute.plain F.entry_list_ga (F.slot_list_getattribute.check _ _ _ _ _ _ _ _ (show (⟨h, g, d, t, os⟩ : Shared).TypeIs (.ref a) "list" from ⟨_, hx, rfl⟩) (F.args_list_getattribute_2 _ _) (append_entry hx hq))
theorem append_by {tk : Tok} {Q : Value → Shared → Prop} (hx : h.get? a = some (⟨.type "list", none, .seq us kk, #[]⟩ : Obj)) (hq : Q (.ref h.objs.size) ⟨h.push (bndObj a), g, d, t, os⟩) (fill ex : Bool) : wpAny (model prog w) A (getAttrBy (.ref a) (.str "append" tk) fill ex) Q E ⟨h, g, d, t, os⟩ := by
  have hT : (⟨h, g, d, t, os⟩ : Shared).TypeIs (.ref a) "list" := ⟨_, hx, rfl⟩
  have f2 := F.slot_list_getattribute.lookup
  have f3 := F.slot_list_getattribute.bind (.ref a)
  repeat (any_goals (first | assumption | wp_step))
  rw [if_neg (by cases ex <;> decide)]
  repeat (any_goals (first | assumption | wp_step))
  all_goals refine append_call hx ?_
  repeat (any_goals (first | assumption | wp_step))

end
end Mine

open PySem PySem.W PyProof.Rows PySem.Calls
namespace Mine
section
variable {D : Wd} {n : Nat} {c : Cx} {st st1 st2 st3 : St}
theorem Ex.bnd {o : Expr} {apos : Pos} {k : Nat} {Ws : List V} (h : Ex D n c st o (.own k) st1) (ho : st1.own[k]? = some Ws) (hb : ∀ env : Env, attributeBase o "append" env (eval o env) = eval o env := by intros; rfl) (ht : ∀ v r, letTemporaryGo o v r = pure () := by intro _ _; rfl) : Ex D n c st (.Attribute o "append" apos) (.bnd k) st1 := fun A env B s rs ca p Q E hA R H => by
  rw [arm_eval_Attribute, hb]
  refine wpAny_bind (h A env B s rs ca p _ E hA R fun v B1 p1 s1 n1 R1 q1 => ?_)
  obtain ⟨a, ha, rfl⟩ := q1
  obtain ⟨us, ⟨kk, hl⟩, hus⟩ := R1.own.2 k a Ws ha ho
  refine wpAny_bind (wpAny_standAt (wpAny_bind (wpAny_holding ?_)))
  unfold getAttr
  refine wpAny_bind (wpAny_mkText ?_)
  refine append_by hl ?_ true true
  rw [ht]
  refine wpAny_bind (wpAny_pure (wpAny_pure ?_))
  refine (H.mono n1).grow R1 (Ext.push _ _) post_size fun B' e g => ?_
  exact ⟨_, a, rfl, ha, g _ _ (Nat.le_refl _) (Heap.get?_push_size _ rfl)⟩
/-- the bound append's keeper -/
theorem bnd_keep {M : Model} {h : Heap} {b a : Addr} (hb : h.get? b = some (bndObj a)) : ∃ k, (k = Keeper.frame ∨ k = Keeper.machine ∨ k = Keeper.boundFrame) ∧ Looks M h (keeperOf (.ref b)) k :=
  ⟨.machine, .inr (.inl rfl), (Looks.ld (part := none) hb).andThen .now⟩
theorem call_bnd {A : Around} {s : Shared} {b a : Addr} {vs : List Value} {kk : Nat} {v : Value} {Q E : Value → Shared → Prop} (hb : s.heap.get? b = some (bndObj a)) (hl : s.heap.get? a = some (⟨.type "list", none, .seq vs.toArray kk, #[]⟩ : Obj)) (hz : vs.length ≤ sizeLine)
    (h : ∀ h' k', Heap.SameBut a s.heap h' → h'.get? a = some (⟨.type "list", none, .seq (vs ++ [v]).toArray k', #[]⟩ : Obj) → Q .none { s with heap := h' }) : wpAny (model D.prog D.w) A (call (.ref b) [v]) Q E s := by
  refine wpAny_call (codeAny_of_tree ?_)
  show wpAny _ A.in1 (callAny (.ref b) ⟨[v], []⟩) _ _ s
  simp only [callAny]
  refine wpAny_bind (wpAny_load hb ?_)
  have hT : s.TypeIs (.ref a) "list" := ⟨_, hl, rfl⟩
  show wpAny _ _ (checkBoundCall "list.append" ⟨[.ref a, v], []⟩ >>= fun _ => again (.builtin "list.append" ⟨[.ref a, v], []⟩)) _ _ s
  have f0 : isSubtype (.type "list") (.type "module") = pure false := by rw [isSubtype_type]; kernel_rfl
  have fin : wpAny (model D.prog D.w) A.in1 (checkBoundCall "list.append" ⟨[.ref a, v], []⟩) (fun _ s' => s' = s) (fun e s' => E e s') s := by
    unfold checkBoundCall
    repeat (any_goals (first | assumption | wp_step))
    all_goals rfl
  refine wpAny_bind (wpAny_mono fin (fun _ s' e => ?_) fun _ _ x => x)
  subst e
  refine wpAny_pure (a := PySem.Fin.again (.builtin "list.append" ⟨[.ref a, v], []⟩)) ⟨plainId_quiet slot_list_append.plain _, codeAny_builtin entry_list_append ?_⟩
  rw [Around.under_plainId slot_list_append.plain _]
  refine PySem.list_append a vs.toArray kk v (by rw [List.size_toArray]; exact hz) D.prog D.w A (fun r s' => match r with | .ok (.ret v) => Q v s' | .ok _ => False | .error e => E e s') _ ⟨hl, ?_⟩
  have e := PySem.IsL.update hl (fun x => x.push v)
  exact h _ _ (Heap.SameBut.update ..) (by simpa using e)
theorem Ex.callBnd {func e : Expr} {pos : Pos} {k : Nat} {Ws : List V} {W : V} (hf : Ex D n c st func (.bnd k) st1) (ha : Ex D n c st1 e W st2) (ho : st2.own[k]? = some Ws) (hm : W.isMut = false) (hz : Ws.length ≤ sizeLine)
    (hc : ∀ env : Env, eval (.Call func [e] [] pos) env = (do callWith pos (← eval func env) [] (backTo pos (starEach [e] env)) (backToKw pos (keywordEach [] env))) := by intros; rfl)
    (he : ∀ env : Env, starEach [e] env = [(false, eval e env)] := by intros; rfl) : Ex D n c st (.Call func [e] [] pos) .none { st2 with own := st2.own.set k (Ws ++ [W]) } := fun A env B s rs ca p Q E hA R H => by
  refine Call_ (hf A env B s rs ca p _ E hA R fun v B1 p1 s1 n1 R1 q1 => ?_) (hc env)
  obtain ⟨b, a, rfl, hpa, hb⟩ := q1
  have H1 := (Es.one ha he) A env B1 s1 rs ca p1 (fun vs s2 => s2.heap.get? b = some (bndObj a) ∧ wpAny (model D.prog D.w) A (call (.ref b) ([] ++ vs)) Q E s2) E pos hA R1 fun vs B2 p2 s2 n2 R2 q2 => by
    refine ⟨R2.ext _ _ (n2.ext _ _ hb), ?_⟩
    apply VRs.one q2; intro v q2 
    have ha2 := n2.pre _ _ hpa
    obtain ⟨us, ⟨kk, hl⟩, hus⟩ := R2.own.2 k a Ws ha2 ho
    refine call_bnd (R2.ext _ _ (n2.ext _ _ hb)) hl (by rw [hus.length]; exact hz) fun h' k' hs' e' => ?_
    exact H .none B2 p2 _ ((n1.trans n2).trans ⟨.refl _, fun _ _ e => .inl e, Nat.le_of_eq hs'.1.symm, .refl _, rfl, rfl, .refl _, fun _ h => .inl h⟩) (R2.setOwn ha2 (hus.append (.cons (q2.1.fz hm) .nil)) hs' ⟨k', e'⟩) (.of .none)
  rw [he] at H1 ⊢
  exact callWith_of (P := fun h => h.get? b = some (bndObj a)) rfl (fun h hb => bnd_keep hb) (Calls.evalArgs_plain H1)
end
end Mine

open PySem PySem.W PyProof.Rows PySem.Calls
namespace Mine
def c14 : Cx := { scope := scopeOf 14, ln := ["inp", "STAR", "res", "add", "i", "n", "fixed"] }
theorem def14 {D : Wd} (X : Std D) : DefAt D 90 c14 ["inp", "STAR"] (bodyOf 14) :=
  X.defAt 7 6 14 (mod := mFn) (tok := 517) (code := 89) (dflt := .none) rfl rfl rfl rfl rfl rfl rfl rfl rfl (len_2 fun a b => by kernel_rfl) rfl rfl rfl (by decide +kernel) (by decide +kernel) (by decide +kernel) (by decide +kernel) (by decide +kernel) (by decide +kernel)
/-- parts: a star, or a text -/
def vP (sa : Addr) : Option (List Nat) → V
  | none => .raw (.ref sa)
  | some l => vT l
abbrev vPs (sa : Addr) (l : List (Option (List Nat))) : V := .list (l.map (vP sa))
def st14 (sa : Addr) (inp : List (Option (List Nat))) (i : Nat) (res : List (List Nat)) (junk : List (List V)) (fx : Option V) : St :=
  { loc := [some (vPs sa inp), some (.raw (.ref sa)), some (.own 0), some (.bnd 0), some (.int i), some (.int inp.length), fx], own := (res.map fun x => vT x) :: junk }
theorem atP {sa : Addr} {inp : List (Option (List Nat))} {i : Nat} {x : Option (List Nat)} (h : inp[i]? = some x) : at? (inp.map (vP sa)) (i : Int) = some (vP sa x) := at_nat (by rw [List.getElem?_map, h]; rfl)
def isT : Option (Option (List Nat)) → Bool
  | some (some _) => true
  | _ => false
def w14a : Stmt := hdS ((bodyOf 14).drop 3)
def w14b : Stmt := hdS ((bodyOf 14).drop 4)
section
variable {D : Wd} (X : Std D) {n : Nat} {sa : Addr} {inp : List (Option (List Nat))} (hn : inp.length ≤ 1000)
include X hn
/-- «i < n and inp[i] is not STAR» of the first loop -/
theorem test14 (i : Nat) (res : List (List Nat)) (junk : List (List V)) (fx : Option V) : Tr D n c14 (st14 sa inp i res junk fx) (wTest w14a) (isT inp[i]?) (st14 sa inp i res junk fx) := by
  show Tr D n c14 { loc := [some (vPs sa inp), some (.raw (.ref sa)), some (.own 0), some (.bnd 0), some (.int i), some (.int inp.length), fx], own := (res.map fun x => vT x) :: junk } _ _ _
  have hlt : ∀ {x}, inp[i]? = some x → i < inp.length := fun h => (List.getElem?_eq_some_iff.mp h).1
  refine Tr.and2 (a := decide (i < inp.length)) (st1 := st14 sa inp i res junk fx) (Tr.cast (Tr.cmp (Ex.l 4) (Ex.l 5) T2.ltInt) (by first | rfl | decide | simp)) (fun h => ?_) (fun h => ⟨?_, rfl⟩)
  · have h' : i < inp.length := of_decide_eq_true h
    cases hx : inp[i]? with
    | none => rw [List.getElem?_eq_none_iff] at hx; lia
    | some x =>
      cases x with
      | none => exact Tr.cmp (Ex.itemL (Ex.l 0) (Ex.l 4) (atP hx) (by lia)) (Ex.l 1) T2.isNotSelf
      | some l => exact Tr.cmp (Ex.itemL (Ex.l 0) (Ex.l 4) (atP hx) (by lia)) (Ex.l 1) T2.isNotStr
  · have h' : ¬ i < inp.length := of_decide_eq_false h
    rw [List.getElem?_eq_none (by lia)]; rfl
/-- the first loop: the texts ahead -/
theorem wl14a (junk : List (List V)) : ∀ (ts : List (List Nat)) (i : Nat) (res : List (List Nat)), (∀ j l, ts[j]? = some l → inp[i + j]? = some (some l)) → isT inp[i + ts.length]? = false → res.length + ts.length ≤ 2000 →
    ∃ kk, Wl D n c14 (wTest w14a) (wBody w14a) kk (st14 sa inp i res junk none) .next (st14 sa inp (i + ts.length) (res ++ ts) junk none)
  | [], i, res, _, he, _ => ⟨0, by
      rw [List.append_nil]
      exact .done (Tr.cast (test14 X hn i res junk none) he)⟩
  | l :: r, i, res, h, he, hz => by
    have hz' := sizeLine_eq
    have h0 := h 0 l rfl
    rw [Nat.add_zero] at h0
    obtain ⟨kk, ih⟩ := wl14a junk r (i + 1) (res ++ [l]) (fun j l' hj => by have := h (j + 1) l' hj; rwa [show i + (j + 1) = i + 1 + j by lia] at this) (by rw [List.length_cons] at he; rwa [show i + 1 + r.length = i + (r.length + 1) by lia]) (by rw [List.length_append]; simp at hz ⊢; lia)
    refine ⟨kk + 1, ?_⟩
    rw [List.append_assoc] at ih
    rw [List.length_cons, show i + (r.length + 1) = i + 1 + r.length by lia]
    have hl : i < inp.length := (List.getElem?_eq_some_iff.mp h0).1
    refine .next (Tr.cast (test14 X hn i res junk none) (by rw [h0]; rfl)) ?_ ih
    show Sx D n c14 { loc := [some (vPs sa inp), some (.raw (.ref sa)), some (.own 0), some (.bnd 0), some (.int i), some (.int inp.length), none], own := (res.map fun x => vT x) :: junk } _ _ _
    refine Sx.cons (S1.expr (Ex.callBnd (Ws := res.map fun x => vT x) (W := vT l) (Ex.l 3) (Ex.itemL (Ex.l 0) (Ex.l 4) (atP h0) (by lia)) rfl rfl (by rw [List.length_map]; simp at hz; lia))) ?_
    rw [show st14 sa inp (i + 1) (res ++ [l]) junk none = { loc := [some (vPs sa inp), some (.raw (.ref sa)), some (.own 0), some (.bnd 0), some (.int ((i : Int) + 1)), some (.int inp.length), none], own := ((res.map fun x => vT x) ++ [vT l]) :: junk } by unfold st14; rw [List.map_append]; rfl]
    exact Sx.cons (S1.aug 4 rfl rfl rfl Ex.int T2.iadd (Sto.l 4)) Sx.nil
end
end Mine

open PySem PySem.W PyProof.Rows PySem.Calls
namespace Mine
def stJ (sa : Addr) (inp : List (Option (List Nat))) (i : Nat) (own : List (List V)) (fx : Option V) : St :=
  { loc := [some (vPs sa inp), some (.raw (.ref sa)), some (.own 0), some (.bnd 0), some (.int i), some (.int inp.length), fx], own := own }
/-- the second loop's inner loop -/
def w14c : Stmt := hdS ((wBody w14b).drop 5)
section
variable {D : Wd} {n : Nat} {sa : Addr} {inp : List (Option (List Nat))} (hn : inp.length ≤ 1000)
include hn
theorem test14c (i : Nat) (own : List (List V)) (fx : Option V) : Tr D n c14 (stJ sa inp i own fx) (wTest w14c) (isT inp[i]?) (stJ sa inp i own fx) := by
  show Tr D n c14 { loc := [some (vPs sa inp), some (.raw (.ref sa)), some (.own 0), some (.bnd 0), some (.int i), some (.int inp.length), fx], own := own } _ _ _
  refine Tr.and2 (a := decide (i < inp.length)) (st1 := stJ sa inp i own fx) (Tr.cast (Tr.cmp (Ex.l 4) (Ex.l 5) T2.ltInt) (by first | rfl | decide | simp)) (fun h => ?_) (fun h => ⟨?_, rfl⟩)
  · have h' : i < inp.length := of_decide_eq_true h
    cases hx : inp[i]? with
    | none => rw [List.getElem?_eq_none_iff] at hx; lia
    | some x =>
      cases x with
      | none => exact Tr.cmp (Ex.itemL (Ex.l 0) (Ex.l 4) (atP hx) (by lia)) (Ex.l 1) T2.isNotSelf
      | some l => exact Tr.cmp (Ex.itemL (Ex.l 0) (Ex.l 4) (atP hx) (by lia)) (Ex.l 1) T2.isNotStr
  · have h' : ¬ i < inp.length := of_decide_eq_false h
    rw [List.getElem?_eq_none (by lia)]; rfl
theorem wl14c (own : List (List V)) : ∀ (ts : List (List Nat)) (i : Nat) (fs : List (List Nat)), (∀ j l, ts[j]? = some l → inp[i + j]? = some (some l)) → isT inp[i + ts.length]? = false → fs.length + ts.length ≤ 2000 →
    ∃ kk, Wl D n c14 (wTest w14c) (wBody w14c) kk (stJ sa inp i (own ++ [fs.map fun x => vT x]) (some (.own own.length))) .next (stJ sa inp (i + ts.length) (own ++ [(fs ++ ts).map fun x => vT x]) (some (.own own.length)))
  | [], i, fs, _, he, _ => ⟨0, by
      rw [List.append_nil]
      exact .done (Tr.cast (test14c hn i _ _) he)⟩
  | l :: r, i, fs, h, he, hz => by
    have hz' := sizeLine_eq
    have h0 := h 0 l rfl
    rw [Nat.add_zero] at h0
    obtain ⟨kk, ih⟩ := wl14c own r (i + 1) (fs ++ [l]) (fun j l' hj => by have := h (j + 1) l' hj; rwa [show i + (j + 1) = i + 1 + j by lia] at this) (by rw [List.length_cons] at he; rwa [show i + 1 + r.length = i + (r.length + 1) by lia]) (by rw [List.length_append]; simp at hz ⊢; lia)
    refine ⟨kk + 1, ?_⟩
    rw [List.append_assoc] at ih
    rw [List.length_cons, show i + (r.length + 1) = i + 1 + r.length by lia]
    have hl : i < inp.length := (List.getElem?_eq_some_iff.mp h0).1
    refine .next (Tr.cast (test14c hn i _ _) (by rw [h0]; rfl)) ?_ ih
    have hown : (own ++ [fs.map fun x => vT x])[own.length]? = some (fs.map fun x => vT x) := by simp
    show Sx D n c14 { loc := [some (vPs sa inp), some (.raw (.ref sa)), some (.own 0), some (.bnd 0), some (.int i), some (.int inp.length), some (.own own.length)], own := own ++ [fs.map fun x => vT x] } _ _ _
    refine Sx.cons (S1.expr (Ex.meth (Ex.l 6) (Gm.append hown) (Es.one (Ex.itemL (Ex.l 0) (Ex.l 4) (atP h0) (by lia))) (Tn.append (W := vT l) hown rfl (by rw [List.length_map]; simp at hz; lia)))) ?_
    rw [show (own ++ [fs.map fun x => vT x]).set own.length ((fs.map fun x => vT x) ++ [vT l]) = own ++ [(fs ++ [l]).map fun x => vT x] by simp]
    exact Sx.cons (S1.aug 4 rfl rfl rfl Ex.int T2.iadd (Sto.l 4)) Sx.nil
end
end Mine

open PySem PySem.W PyProof.Rows PySem.Calls
namespace Mine
abbrev Bk := List (List Nat)
def blk (b : Bk) : List (Option (List Nat)) := none :: b.map some
/-- all but the last block hold a text -/
def okB : List Bk → Prop
  | [] => True
  | [_] => True
  | b :: c :: r => b ≠ [] ∧ okB (c :: r)
def outB : List Bk → List (List Nat)
  | [] => []
  | [b] => if b = [] then [[46, 42]] else [[46, 42], b.flatten]
  | b :: c :: r => ([40, 63, 62, 46, 42, 63] ++ b.flatten ++ [41]) :: outB (c :: r)
theorem joinL_nil : ∀ ls : List (List Nat), joinL [] ls = ls.flatten
  | [] => rfl
  | [x] => by simp [joinL]
  | x :: y :: r => by rw [joinL, joinL_nil (y :: r)]; simp
section
variable {D : Wd} {n : Nat} {sa : Addr} {inp : List (Option (List Nat))} (hn : inp.length ≤ 1000)
include hn
theorem wl14b : ∀ (bs : List Bk) (i : Nat) (res : List (List Nat)) (junk : List (List V)) (fx : Option V), inp.drop i = (bs.map blk).flatten → i ≤ inp.length → okB bs → res.length + 2 * bs.length ≤ 3000 → (∀ b ∈ bs, b.flatten.length ≤ 1000 ∧ b.length ≤ 1000) →
    ∃ kk junk' fx', Wl D n c14 (wTest w14b) (wBody w14b) kk (stJ sa inp i ((res.map fun x => vT x) :: junk) fx) .next (stJ sa inp inp.length (((res ++ outB bs).map fun x => vT x) :: junk') fx')
  | [], i, res, junk, fx, hd, hi, _, _, _ => by
    have : i = inp.length := by
      have := congrArg List.length hd
      simp at this; lia
    subst this
    refine ⟨0, junk, fx, ?_⟩
    rw [outB, List.append_nil]
    refine .done ?_
    show Tr D n c14 { loc := [some (vPs sa inp), some (.raw (.ref sa)), some (.own 0), some (.bnd 0), some (.int (inp.length : Nat)), some (.int inp.length), fx], own := (res.map fun x => vT x) :: junk } _ _ _
    exact Tr.cast (Tr.cmp (Ex.l 4) (Ex.l 5) T2.ltInt) (by first | rfl | decide | simp)
  | b :: r, i, res, junk, fx, hd, hi, hok, hz, hb => by
    have hz' := sizeLine_eq
    have hb0 := hb b List.mem_cons_self
    have hsum : (b.map List.length).sum ≤ 1000 := by rw [← List.length_flatten]; exact hb0.1
    have hdl := congrArg List.length hd
    simp only [List.length_drop, List.map_cons, List.flatten_cons, blk, List.length_append, List.length_cons, List.length_map] at hdl
    have hlt : i < inp.length := by lia
    have h0 : inp[i]? = some none := by
      have := congrArg (fun l => l[0]?) hd
      simpa [blk] using this
    have hd1 : inp.drop (i + 1) = b.map some ++ (r.map blk).flatten := by
      rw [show i + 1 = i + 1 from rfl, ← List.drop_drop, hd]
      simp [blk]
    have hi1 : ∀ j, inp[i + 1 + j]? = (b.map some ++ (r.map blk).flatten)[j]? := fun j => by rw [← hd1, List.getElem?_drop]
    have tst : ∀ fx own, Tr D n c14 (stJ sa inp i own fx) (wTest w14b) true (stJ sa inp i own fx) := fun fx own => by
      show Tr D n c14 { loc := [some (vPs sa inp), some (.raw (.ref sa)), some (.own 0), some (.bnd 0), some (.int i), some (.int inp.length), fx], own := own } _ _ _
      exact Tr.cast (Tr.cmp (Ex.l 4) (Ex.l 5) T2.ltInt) (by simp; lia)
    have pre : ∀ {f : FV} {st' : St}, Sx D n c14 (stJ sa inp (i + 1) ((res.map fun x => vT x) :: junk) fx) ((wBody w14b).drop 2) f st' → Sx D n c14 (stJ sa inp i ((res.map fun x => vT x) :: junk) fx) (wBody w14b) f st' := fun h => by
      show Sx D n c14 { loc := [some (vPs sa inp), some (.raw (.ref sa)), some (.own 0), some (.bnd 0), some (.int i), some (.int inp.length), fx], own := (res.map fun x => vT x) :: junk } _ _ _
      refine Sx.cons (S1.asrt (Tr.cmp (Ex.itemL (Ex.l 0) (Ex.l 4) (atP h0) (by lia)) (Ex.l 1) T2.isSelf)) ?_
      exact Sx.cons (S1.aug 4 rfl rfl rfl Ex.int T2.iadd (Sto.l 4)) h
    by_cases hend : i + 1 = inp.length
    · have hb2 : b = [] ∧ r = [] := by
        have h1 : b.length = 0 := by lia
        refine ⟨List.eq_nil_of_length_eq_zero h1, ?_⟩
        cases r with
        | nil => rfl
        | cons c r =>
          have := congrArg List.length hd1
          simp [blk] at this; lia
      obtain ⟨rfl, rfl⟩ := hb2
      refine ⟨0, junk, fx, .brk (tst _ _) (pre ?_)⟩
      rw [← hend]
      rw [show ((res ++ outB [[]]).map fun x => vT x) = (res.map fun x => vT x) ++ [vT [46, 42]] by simp [outB]]
      show Sx D n c14 { loc := [some (vPs sa inp), some (.raw (.ref sa)), some (.own 0), some (.bnd 0), some (.int ((i + 1 : Nat) : Int)), some (.int inp.length), fx], own := (res.map fun x => vT x) :: junk } _ _ _
      refine Sx.stop (S1.ite (b := true) (st1 := { loc := [some (vPs sa inp), some (.raw (.ref sa)), some (.own 0), some (.bnd 0), some (.int ((i + 1 : Nat) : Int)), some (.int inp.length), fx], own := (res.map fun x => vT x) :: junk }) (Tr.cast (Tr.cmp (Ex.l 4) (Ex.l 5) T2.eqInt) (by simp; lia)) (fun _ => ?_) (by first | exact fun h => ft_elim h | exact fun h => nil_elim h | exact fun h => nomatch h)) (by intro h; (first | exact none_some h | exact some_none h | (obtain rfl := Option.some.inj h) | cases h))
      refine Sx.cons (S1.expr (Ex.callBnd (Ws := res.map fun x => vT x) (W := vT [46, 42]) (Ex.l 3) (Ex.s (l := [46, 42])) rfl rfl (by rw [List.length_map]; simp at hz; lia))) (Sx.stop S1.brk (by intro h; (first | exact none_some h | exact some_none h | (obtain rfl := Option.some.inj h) | cases h)))
    · have hend' : i + 1 < inp.length := by lia
      have hbne : b ≠ [] := by
        cases r with
        | nil => intro e; subst e; simp at hdl; lia
        | cons c r => exact hok.1
      obtain ⟨l0, b', hbb⟩ := List.exists_cons_of_ne_nil hbne
      have h1 : inp[i + 1]? = some (some l0) := by
        have := hi1 0
        rw [hbb] at this
        simpa using this
      -- the inner loop
      have hts : ∀ j l, b[j]? = some l → inp[i + 1 + j]? = some (some l) := fun j l hj => by
        rw [hi1, List.getElem?_append_left (by rw [List.length_map]; exact (List.getElem?_eq_some_iff.mp hj).1), List.getElem?_map, hj]; rfl
      have hstop : isT inp[i + 1 + b.length]? = false := by
        rw [hi1, List.getElem?_append_right (by rw [List.length_map]; exact Nat.le_refl _), List.length_map, Nat.sub_self]
        cases r with
        | nil => rfl
        | cons c r => simp [blk, isT]
      obtain ⟨k1, l1⟩ := wl14c (D := D) (n := n) (sa := sa) hn ((res.map fun x => vT x) :: junk) b (i + 1) [] hts hstop (by simp; lia)
      rw [List.nil_append] at l1
      have hd2 : inp.drop (i + 1 + b.length) = (r.map blk).flatten := by
        rw [← List.drop_drop, hd1, List.drop_left' (by rw [List.length_map])]
      have hle2 : i + 1 + b.length ≤ inp.length := by lia
      have hnxt : ∀ out, (res ++ out).length + 2 * r.length ≤ 3000 → okB r → ∃ kk junk' fx', Wl D n c14 (wTest w14b) (wBody w14b) kk (stJ sa inp (i + 1 + b.length) (((res ++ out).map fun x => vT x) :: junk ++ [b.map fun x => vT x]) (some (vT b.flatten))) .next (stJ sa inp inp.length (((res ++ out ++ outB r).map fun x => vT x) :: junk') fx') := fun out ho hk =>
        wl14b r (i + 1 + b.length) (res ++ out) (junk ++ [b.map fun x => vT x]) (some (vT b.flatten)) hd2 hle2 hk ho fun c hc => hb c (List.mem_cons_of_mem _ hc)
      have hfin : ∀ out : Bk, stJ sa inp (i + 1 + b.length) (((res ++ out).map fun x => vT x) :: junk ++ [b.map fun x => vT x]) (some (vT b.flatten)) = { loc := [some (vPs sa inp), some (.raw (.ref sa)), some (.own 0), some (.bnd 0), some (.int ((i + 1 + b.length : Nat) : Int)), some (.int inp.length), some (vT b.flatten)], own := ((res.map fun x => vT x) ++ (out.map fun x => vT x)) :: (junk ++ [b.map fun x => vT x]) } := fun out => by simp [stJ]
      have body : ∀ out, (r = [] → out = [[46, 42], b.flatten]) → (r ≠ [] → out = [[40, 63, 62, 46, 42, 63] ++ b.flatten ++ [41]]) →
          Sx D n c14 (stJ sa inp i ((res.map fun x => vT x) :: junk) fx) (wBody w14b) .next (stJ sa inp (i + 1 + b.length) (((res ++ out).map fun x => vT x) :: junk ++ [b.map fun x => vT x]) (some (vT b.flatten))) := fun out ho1 ho2 => by
        refine pre ?_
        show Sx D n c14 { loc := [some (vPs sa inp), some (.raw (.ref sa)), some (.own 0), some (.bnd 0), some (.int ((i + 1 : Nat) : Int)), some (.int inp.length), fx], own := (res.map fun x => vT x) :: junk } _ _ _
        refine Sx.cons (st1 := stJ sa inp (i + 1) ((res.map fun x => vT x) :: junk) fx) (S1.ite (b := false) (st1 := stJ sa inp (i + 1) ((res.map fun x => vT x) :: junk) fx) (Tr.cast (Tr.cmp (Ex.l 4) (Ex.l 5) T2.eqInt) (by simp; lia)) (by first | exact fun h => ft_elim h | exact fun h => nil_elim h | exact fun h => nomatch h) (fun _ => Sx.nil)) ?_
        show Sx D n c14 { loc := [some (vPs sa inp), some (.raw (.ref sa)), some (.own 0), some (.bnd 0), some (.int ((i + 1 : Nat) : Int)), some (.int inp.length), fx], own := (res.map fun x => vT x) :: junk } _ _ _
        refine Sx.cons (S1.asrt (Tr.cmp (Ex.itemL (Ex.l 0) (Ex.l 4) (atP h1) (by lia)) (Ex.l 1) T2.isNotStr)) ?_
        refine Sx.cons (S1.assign (Ex.listOwn Es.nil rfl (by first | rfl | decide | simp) rfl) (Sto.l 6)) ?_
        refine Sx.cons (S1.while l1) ?_
        have hown : ((res.map fun x => vT x) :: junk ++ [b.map fun x => vT x])[((res.map fun x => vT x) :: junk).length]? = some (b.map fun x => vT x) := by simp
        show Sx D n c14 { loc := [some (vPs sa inp), some (.raw (.ref sa)), some (.own 0), some (.bnd 0), some (.int ((i + 1 + b.length : Nat) : Int)), some (.int inp.length), some (.own ((res.map fun x => vT x) :: junk).length)], own := (res.map fun x => vT x) :: junk ++ [b.map fun x => vT x] } _ _ _
        refine Sx.cons (S1.assign (W := vT b.flatten) (Ex.cast (Ex.meth (Ex.s (l := [])) Gm.join (Es.one (Ex.l 6)) (Tn.joinO hown (by simp; lia))) (by rw [joinL_nil])) (Sto.l 6)) ?_
        show Sx D n c14 { loc := [some (vPs sa inp), some (.raw (.ref sa)), some (.own 0), some (.bnd 0), some (.int ((i + 1 + b.length : Nat) : Int)), some (.int inp.length), some (vT b.flatten)], own := (res.map fun x => vT x) :: (junk ++ [b.map fun x => vT x]) } _ _ _
        refine Sx.cons (S1.ite (b := decide (r = [])) (st1 := { loc := [some (vPs sa inp), some (.raw (.ref sa)), some (.own 0), some (.bnd 0), some (.int ((i + 1 + b.length : Nat) : Int)), some (.int inp.length), some (vT b.flatten)], own := (res.map fun x => vT x) :: (junk ++ [b.map fun x => vT x]) }) (Tr.cast (Tr.cmp (Ex.l 4) (Ex.l 5) T2.eqInt) ?_) (fun h => ?_) (fun h => ?_)) Sx.nil
        · have hl := congrArg List.length hd2
          rw [List.length_drop] at hl
          cases r with
          | nil => simp at hl ⊢; lia
          | cons c r => simp [blk] at hl ⊢; lia
        · have h' : r = [] := of_decide_eq_true h
          rw [ho1 h']
          rw [hfin]
          rw [show ((res.map fun x => vT x) ++ (([[46, 42], b.flatten] : Bk).map fun x => vT x)) = (res.map fun x => vT x) ++ [vT [46, 42]] ++ [vT b.flatten] by simp]
          refine Sx.cons (S1.expr (Ex.callBnd (Ws := res.map fun x => vT x) (W := vT [46, 42]) (Ex.l 3) (Ex.s (l := [46, 42])) rfl rfl (by rw [List.length_map]; simp at hz; lia))) ?_
          refine Sx.cons (S1.expr (Ex.callBnd (Ws := (res.map fun x => vT x) ++ [vT [46, 42]]) (W := vT b.flatten) (Ex.l 3) (Ex.l 6) rfl rfl (by simp at hz ⊢; lia))) Sx.nil
        · have h' : r ≠ [] := of_decide_eq_false h
          rw [ho2 h']
          rw [hfin]
          refine Sx.cons (S1.expr (Ex.callBnd (Ws := res.map fun x => vT x) (W := vT ([40, 63, 62, 46, 42, 63] ++ b.flatten ++ [41])) (Ex.l 3) (Ex.joined (.cons (Ex.s (l := [40, 63, 62, 46, 42, 63])) (.cons (Ex.fmt (Ex.l 6) (by lia)) (.cons (Ex.s (l := [41])) .nil))) (by first | rfl | decide | simp) (by simp; lia)) rfl rfl (by rw [List.length_map]; simp at hz; lia))) Sx.nil
      cases r with
      | nil =>
        obtain ⟨kk, junk', fx', h⟩ := hnxt [[46, 42], b.flatten] (by simp at hz ⊢; lia) trivial
        refine ⟨kk + 1, junk', fx', .next (tst _ _) (body _ (fun _ => rfl) (fun h => absurd rfl h)) ?_⟩
        rw [show outB [b] = [[46, 42], b.flatten] by rw [outB, if_neg hbne]]
        rw [outB, List.append_nil] at h
        exact h
      | cons c r =>
        obtain ⟨kk, junk', fx', h⟩ := hnxt [[40, 63, 62, 46, 42, 63] ++ b.flatten ++ [41]] (by simp at hz ⊢; lia) hok.2
        refine ⟨kk + 1, junk', fx', .next (tst _ _) (body _ (by first | exact fun h => ft_elim h | exact fun h => nil_elim h | exact fun h => nomatch h) (fun _ => rfl)) ?_⟩
        rw [List.append_assoc res] at h
        exact h
end
def joinOut (t0 : Bk) (bs : List Bk) : List Nat := [40, 63, 115, 58] ++ (t0 ++ outB bs).flatten ++ [41, 92, 90]
theorem spec14 {D : Wd} (X : Std D) (n : Nat) (sa : Addr) (t0 : Bk) (bs : List Bk) (hok : okB bs) (hl : t0.length + ((bs.map blk).flatten).length ≤ 1000) (hb : ∀ b ∈ bs, b.flatten.length ≤ 1000 ∧ b.length ≤ 1000) (hz : (t0 ++ outB bs).flatten.length ≤ 10000) :
    CallSpec D (n + 1) (.ref 90) [vPs sa (t0.map some ++ (bs.map blk).flatten), .raw (.ref sa)] (vT (joinOut t0 bs)) := by
  have hz' := sizeLine_eq
  generalize hinp : t0.map some ++ (bs.map blk).flatten = inp
  have hlen : inp.length = t0.length + ((bs.map blk).flatten).length := by rw [← hinp]; simp
  have hn : inp.length ≤ 1000 := by lia
  have hbl : bs.length ≤ ((bs.map blk).flatten).length := by
    clear hinp hlen hl hok hb hz
    induction bs with
    | nil => simp
    | cons b r ih => simp [blk] at ih ⊢; lia
  obtain ⟨k1, l1⟩ := wl14a (n := n) X (sa := sa) hn [] t0 0 [] (fun j l hj => by
      rw [Nat.zero_add, ← hinp, List.getElem?_append_left (by rw [List.length_map]; exact (List.getElem?_eq_some_iff.mp hj).1), List.getElem?_map, hj]; rfl) (by
      rw [Nat.zero_add, ← hinp, List.getElem?_append_right (by rw [List.length_map]; exact Nat.le_refl _), List.length_map, Nat.sub_self]
      cases bs with
      | nil => rfl
      | cons c r => simp [blk, isT]) (by simp; lia)
  rw [Nat.zero_add, List.nil_append] at l1
  obtain ⟨k2, junk', fx', l2⟩ := wl14b (D := D) (n := n) (sa := sa) hn bs t0.length t0 [] none (by rw [← hinp, List.drop_left' (by rw [List.length_map])]) (by lia) hok (by lia) hb
  refine CallSpec.of (def14 X) rfl (st := { loc := [some (vPs sa inp), some (.raw (.ref sa)), some (vT (t0 ++ outB bs).flatten), some (.bnd 0), some (.int inp.length), some (.int inp.length), fx'], own := ((t0 ++ outB bs).map fun x => vT x) :: junk' }) ?_ (.fz rfl)
  show Sx D n c14 { loc := [some (vPs sa inp), some (.raw (.ref sa)), none, none, none, none, none] } (bodyOf 14) _ _
  refine Sx.cons (S1.assign (Ex.listOwn Es.nil rfl (by first | rfl | decide | simp) rfl) (Sto.l 2)) ?_
  refine Sx.cons (S1.assign (Ex.bnd (Ws := []) (Ex.l 2) rfl) (Sto.l 3)) ?_
  refine Sx.cons (S1.tupSwap (names := ["i", "n"]) (Es.two Ex.int (Ex.callB (Ex.b X 19 0) (Es.one (Ex.l 0)) (Tn.lenL (by rw [List.length_map]; lia)))) rfl (.cons (Sto.l 5) (.cons (Sto.l 4) .nil)) (by first | decide | (rw [hz']; simp)) (fun env h => by cases env; (first | exact none_some h | exact some_none h | (obtain rfl := Option.some.inj h) | cases h); rfl)) ?_
  rw [List.length_map]
  refine Sx.cons (S1.while l1) ?_
  refine Sx.cons (S1.while l2) ?_
  show Sx D n c14 { loc := [some (vPs sa inp), some (.raw (.ref sa)), some (.own 0), some (.bnd 0), some (.int inp.length), some (.int inp.length), fx'], own := ((t0 ++ outB bs).map fun x => vT x) :: junk' } _ _ _
  refine Sx.cons (S1.asrt (Tr.cast (Tr.cmp (Ex.l 4) (Ex.l 5) T2.eqInt) (by first | rfl | decide | simp))) ?_
  refine Sx.cons (S1.assign (W := vT (t0 ++ outB bs).flatten) (Ex.cast (Ex.meth (Ex.s (l := [])) Gm.join (Es.one (Ex.l 2)) (Tn.joinO (ls := t0 ++ outB bs) rfl (by rw [← List.length_flatten]; simp at hz ⊢; lia))) (by rw [joinL_nil])) (Sto.l 2)) ?_
  refine Sx.stop (S1.ret (Ex.joined (.cons (Ex.s (l := [40, 63, 115, 58])) (.cons (Ex.fmt (Ex.l 2) (by lia)) (.cons (Ex.s (l := [41, 92, 90])) .nil))) (by simp [joinOut]) (by simp at hz; simp [joinOut]; lia))) (by intro h; (first | exact none_some h | exact some_none h | (obtain rfl := Option.some.inj h) | cases h))
end Mine

open PySem PySem.W PyProof.Rows PySem.Calls
namespace Mine
def c13 : Cx := { scope := scopeOf 13, ln := ["pat", "STAR", "QUESTION_MARK", "res", "add", "i", "n", "c"] }
theorem def13 {D : Wd} (X : Std D) : DefAt D 83 c13 ["pat", "STAR", "QUESTION_MARK"] (bodyOf 13) :=
  X.defAt 6 5 13 (mod := mFn) (tok := 517) (code := 82) (dflt := .none) rfl rfl rfl rfl rfl rfl rfl rfl rfl (len_3 fun a b c => by kernel_rfl) rfl rfl rfl (by decide +kernel) (by decide +kernel) (by decide +kernel) (by decide +kernel) (by decide +kernel) (by decide +kernel)
/-- a sign is read -/
def trStep (acc : List (Option (List Nat))) (c : Nat) : List (Option (List Nat)) :=
  if c = 42 then (if acc = [] ∨ acc.getLast? ≠ some none then acc ++ [none] else acc) else if c = 63 then acc ++ [some [46]] else acc ++ [some [c]]
theorem trStep_len (acc : List (Option (List Nat))) (c : Nat) : (trStep acc c).length ≤ acc.length + 1 := by
  unfold trStep; split
  · split <;> simp
  · split <;> simp
def okSign (c : Nat) : Prop := c = 42 ∨ c = 63 ∨ c = 44 ∨ c = 52 ∨ c = 53
def st13 (sa : Addr) (pat : List Nat) (i : Nat) (acc : List (Option (List Nat))) (o : Option V) : St :=
  { loc := [some (vT pat), some (.raw (.ref sa)), some (vT [46]), some (.own 0), some (.bnd 0), some (.int i), some (.int pat.length), o], own := [acc.map (vP sa)] }
def w13 : Stmt := hdS ((bodyOf 13).drop 3)
theorem at_last {α : Type} (l : List α) (x : α) : at? (l ++ [x]) (-1) = some x := by
  unfold at?
  rw [if_neg (by lia), if_pos (by simp; lia)]
  simp only [List.length_append, List.length_cons, List.length_nil]
  rw [show ((-1 : Int) + ((l.length + (0 + 1) : Nat) : Int)).toNat = l.length by lia]
  simp
theorem key11 {D : Wd} (X : Std D) : keepIn D.K (.ref 76) = true := by rw [X.K]; decide +kernel
section
variable {D : Wd} (X : Std D) {n : Nat} {sa : Addr} {pat : List Nat} (hp : ∀ c ∈ pat, okSign c) (hn : pat.length ≤ 200)
include X hp hn
theorem wl13 : ∀ (k i : Nat) (acc : List (Option (List Nat))) (o : Option V), i + k = pat.length → acc.length + k ≤ 400 →
    ∃ kk o', Wl D (n + 1) c13 (wTest w13) (wBody w13) kk (st13 sa pat i acc o) .next (st13 sa pat pat.length ((pat.drop i).foldl trStep acc) o')
  | 0, i, acc, o, hi, ha => by
    have : i = pat.length := by lia
    subst this
    refine ⟨0, o, ?_⟩
    rw [List.drop_length, List.foldl_nil]
    refine .done ?_
    show Tr D (n + 1) c13 { loc := [some (vT pat), some (.raw (.ref sa)), some (vT [46]), some (.own 0), some (.bnd 0), some (.int pat.length), some (.int pat.length), o], own := [acc.map (vP sa)] } _ _ _
    exact Tr.cast (Tr.cmp (Ex.l 5) (Ex.l 6) T2.ltInt) (by first | rfl | decide | simp)
  | k + 1, i, acc, o, hi, ha => by
    have hz' := sizeLine_eq
    have hlt : i < pat.length := by lia
    have hx : pat[i]? = some (pat.getD i 0) := by rw [List.getD_eq_getElem?_getD, List.getElem?_eq_getElem hlt]; rfl
    have hok := hp (pat.getD i 0) (List.mem_of_getElem? hx)
    have hdr : pat.drop i = pat.getD i 0 :: pat.drop (i + 1) := by
      rw [List.drop_eq_getElem_cons hlt, List.getD_eq_getElem?_getD, List.getElem?_eq_getElem hlt]; rfl
    generalize hc : pat.getD i 0 = c at hx hok hdr
    have hl1 := trStep_len acc c
    obtain ⟨kk, o', ih⟩ := wl13 k (i + 1) (trStep acc c) (some (vT [c])) (by lia) (by lia)
    rw [hdr, List.foldl_cons]
    refine ⟨kk + 1, o', .next (st1 := st13 sa pat i acc o) ?_ ?_ ih⟩
    · show Tr D (n + 1) c13 { loc := [some (vT pat), some (.raw (.ref sa)), some (vT [46]), some (.own 0), some (.bnd 0), some (.int i), some (.int pat.length), o], own := [acc.map (vP sa)] } _ _ _
      exact Tr.cast (Tr.cmp (Ex.l 5) (Ex.l 6) T2.ltInt) (by simp; lia)
    show Sx D (n + 1) c13 { loc := [some (vT pat), some (.raw (.ref sa)), some (vT [46]), some (.own 0), some (.bnd 0), some (.int i), some (.int pat.length), o], own := [acc.map (vP sa)] } _ _ _
    refine Sx.cons (S1.assign (W := vT [c]) (Ex.itemS (Ex.l 0) (Ex.l 5) (at_nat hx) (by lia)) (Sto.l 7)) ?_
    refine Sx.cons (S1.assign (W := .int ((i + 1 : Nat) : Int)) (Ex.cast (Ex.bin (Ex.l 5) Ex.int T2.addInt) (by first | rfl | decide | simp)) (Sto.l 5)) ?_
    have hadd : ∀ {e : Expr} {x : Option (List Nat)} {pe pos ps : Pos}, Ex D (n + 1) c13 { loc := [some (vT pat), some (.raw (.ref sa)), some (vT [46]), some (.own 0), some (.bnd 0), some (.int ((i + 1 : Nat) : Int)), some (.int pat.length), some (vT [c])], own := [acc.map (vP sa)] } e (vP sa x) { loc := [some (vT pat), some (.raw (.ref sa)), some (vT [46]), some (.own 0), some (.bnd 0), some (.int ((i + 1 : Nat) : Int)), some (.int pat.length), some (vT [c])], own := [acc.map (vP sa)] } →
        (∀ env : Env, eval (.Call (.Name "add" pe) [e] [] pos) env = (do callWith pos (← eval (.Name "add" pe) env) [] (backTo pos (starEach [e] env)) (backToKw pos (keywordEach [] env)))) → (∀ env : Env, starEach [e] env = [(false, eval e env)]) →
        (∀ env : Env, env.scope = c13.scope → interactive env = false) → (∀ env : Env, env.scope = c13.scope → swapsWith (.Call (.Name "add" pe) [e] [] pos) none ps.line env = pure false) →
        Sx D (n + 1) c13 { loc := [some (vT pat), some (.raw (.ref sa)), some (vT [46]), some (.own 0), some (.bnd 0), some (.int ((i + 1 : Nat) : Int)), some (.int pat.length), some (vT [c])], own := [acc.map (vP sa)] } [.Expr (.Call (.Name "add" pe) [e] [] pos) ps] .next (st13 sa pat (i + 1) (acc ++ [x]) (some (vT [c]))) := by
      intro e x pe pos ps he h1 h2 h3 h4
      rw [show st13 sa pat (i + 1) (acc ++ [x]) (some (vT [c])) = { loc := [some (vT pat), some (.raw (.ref sa)), some (vT [46]), some (.own 0), some (.bnd 0), some (.int ((i + 1 : Nat) : Int)), some (.int pat.length), some (vT [c])], own := [acc.map (vP sa) ++ [vP sa x]] } by simp [st13]]
      exact Sx.cons (S1.expr (Ex.callBnd (Ws := acc.map (vP sa)) (W := vP sa x) (Ex.l 4) he rfl (by cases x <;> rfl) (by rw [List.length_map]; lia) h1 h2) h3 h4) Sx.nil
    refine Sx.cons (S1.ite (b := decide (c = 42)) (st1 := { loc := [some (vT pat), some (.raw (.ref sa)), some (vT [46]), some (.own 0), some (.bnd 0), some (.int ((i + 1 : Nat) : Int)), some (.int pat.length), some (vT [c])], own := [acc.map (vP sa)] }) (st2 := st13 sa pat (i + 1) (trStep acc c) (some (vT [c]))) (Tr.cast (Tr.cmp (Ex.l 7) (Ex.s (l := [42])) T2.eqS) (by first | rfl | decide | simp)) (fun h => ?_) (fun h => ?_)) Sx.nil
    · have h42 : c = 42 := of_decide_eq_true h
      have e : trStep acc c = if acc = [] ∨ acc.getLast? ≠ some none then acc ++ [none] else acc := by unfold trStep; rw [if_pos h42]
      rw [e]
      refine Sx.cons (S1.ite (b := decide (acc = [] ∨ acc.getLast? ≠ some none)) (st1 := { loc := [some (vT pat), some (.raw (.ref sa)), some (vT [46]), some (.own 0), some (.bnd 0), some (.int ((i + 1 : Nat) : Int)), some (.int pat.length), some (vT [c])], own := [acc.map (vP sa)] }) (st2 := st13 sa pat (i + 1) (if acc = [] ∨ acc.getLast? ≠ some none then acc ++ [none] else acc) (some (vT [c]))) ?_ (fun h => ?_) (fun h => ?_)) Sx.nil
      · refine Tr.or2 (a := decide (acc = [])) (st1 := { loc := [some (vT pat), some (.raw (.ref sa)), some (vT [46]), some (.own 0), some (.bnd 0), some (.int ((i + 1 : Nat) : Int)), some (.int pat.length), some (vT [c])], own := [acc.map (vP sa)] }) (Tr.cast (Tr.not (Tr.plain (Ex.l 3) (Ty.list (l := acc.map (vP sa)) rfl (by rw [List.length_map]; lia)))) (by cases acc <;> simp)) (fun h => ?_) (fun h => ⟨decide_eq_true (.inl (of_decide_eq_true h)), rfl⟩)
        have hne : acc ≠ [] := of_decide_eq_false h
        obtain ⟨l', x, rfl⟩ : ∃ l' x, acc = l' ++ [x] := ⟨acc.dropLast, acc.getLast hne, (List.dropLast_concat_getLast hne).symm⟩
        cases x with
        | none =>
          refine Tr.cast (Tr.cmp (Ex.itemO (W := .raw (.ref sa)) (Ex.l 3) (Ex.un Ex.int T1.negInt) rfl ?_ (by lia)) (Ex.l 1) T2.isNotSelf) (by first | rfl | decide | simp)
          rw [List.map_append]; exact at_last _ _
        | some l =>
          refine Tr.cast (Tr.cmp (Ex.itemO (W := vT l) (Ex.l 3) (Ex.un Ex.int T1.negInt) rfl ?_ (by lia)) (Ex.l 1) T2.isNotStr) (by first | rfl | decide | simp)
          rw [List.map_append]; exact at_last _ _
      · rw [if_pos (of_decide_eq_true h)]
        exact hadd (x := none) (Ex.l 1) (by intros; rfl) (by intros; rfl) (by intro env h; unfold interactive; rw [h]; rfl) (by intros; rfl)
      · rw [if_neg (of_decide_eq_false h)]; exact Sx.nil
    · have h42 : ¬ c = 42 := of_decide_eq_false h
      refine Sx.cons (S1.ite (b := decide (c = 63)) (st1 := { loc := [some (vT pat), some (.raw (.ref sa)), some (vT [46]), some (.own 0), some (.bnd 0), some (.int ((i + 1 : Nat) : Int)), some (.int pat.length), some (vT [c])], own := [acc.map (vP sa)] }) (st2 := st13 sa pat (i + 1) (trStep acc c) (some (vT [c]))) (Tr.cast (Tr.cmp (Ex.l 7) (Ex.s (l := [63])) T2.eqS) (by first | rfl | decide | simp)) (fun h => ?_) (fun h => ?_)) Sx.nil
      · have h63 : c = 63 := of_decide_eq_true h
        have e : trStep acc c = acc ++ [some [46]] := by unfold trStep; rw [if_neg h42, if_pos h63]
        rw [e]
        exact hadd (x := some [46]) (Ex.l 2) (by intros; rfl) (by intros; rfl) (by intro env h; unfold interactive; rw [h]; rfl) (by intros; rfl)
      · have h63 : ¬ c = 63 := of_decide_eq_false h
        have e : trStep acc c = acc ++ [some [c]] := by unfold trStep; rw [if_neg h42, if_neg h63]
        rw [e]
        have hsp : spcF c = none ∧ c < 128 ∧ c ≠ 91 := by
          rcases hok with h | h | h | h | h
          · exact absurd h h42
          · exact absurd h h63
          · subst h; exact ⟨spcF_ok.1, by decide, by decide⟩
          · subst h; exact ⟨spcF_ok.2.1, by decide, by decide⟩
          · subst h; exact ⟨spcF_ok.2.2, by decide, by decide⟩
        refine Sx.cons (S1.ite (b := false) (st1 := { loc := [some (vT pat), some (.raw (.ref sa)), some (vT [46]), some (.own 0), some (.bnd 0), some (.int ((i + 1 : Nat) : Int)), some (.int pat.length), some (vT [c])], own := [acc.map (vP sa)] }) (st2 := st13 sa pat (i + 1) (acc ++ [some [c]]) (some (vT [c]))) (Tr.cast (Tr.cmp (Ex.l 7) (Ex.s (l := [91])) T2.eqS) (by simp [hsp.2.2])) (by first | exact fun h => ft_elim h | exact fun h => nil_elim h | exact fun h => nomatch h) (fun _ => ?_)) Sx.nil
        exact hadd (x := some [c]) (Ex.callK (Ex.g X 4) (Es.one (Ex.l 7)) ((spec11 X n c hsp.2.1 hsp.1).tn rfl) (key11 X)) (by intros; rfl) (by intros; rfl) (by intro env h; unfold interactive; rw [h]; rfl) (by intros; rfl)
theorem spec13 : CallSpec D (n + 2) (.ref 83) [vT pat, .raw (.ref sa), vT [46]] (vPs sa (pat.foldl trStep [])) := by
  have hz' := sizeLine_eq
  obtain ⟨kk, o', l1⟩ := wl13 X (n := n) (sa := sa) hp hn pat.length 0 [] none (by lia) (by simp; lia)
  rw [List.drop_zero] at l1
  refine CallSpec.of (def13 X) rfl (st := st13 sa pat pat.length (pat.foldl trStep []) o') (W := .own 0) ?_ (.own rfl)
  show Sx D (n + 1) c13 { loc := [some (vT pat), some (.raw (.ref sa)), some (vT [46]), none, none, none, none, none] } (bodyOf 13) _ _
  refine Sx.cons (S1.assign (Ex.listOwn Es.nil rfl (by first | rfl | decide | simp) rfl) (Sto.l 3)) ?_
  refine Sx.cons (S1.assign (Ex.bnd (Ws := []) (Ex.l 3) rfl) (Sto.l 4)) ?_
  refine Sx.cons (S1.tupSwap (names := ["i", "n"]) (Es.two Ex.int (Ex.callB (Ex.b X 19 0) (Es.one (Ex.l 0)) (Tn.lenS (by lia)))) rfl (.cons (Sto.l 6) (.cons (Sto.l 5) .nil)) (by first | decide | (rw [hz']; simp)) (fun env h => by cases env; (first | exact none_some h | exact some_none h | (obtain rfl := Option.some.inj h) | cases h); rfl)) ?_
  refine Sx.cons (S1.while l1) ?_
  show Sx D (n + 1) c13 { loc := [some (vT pat), some (.raw (.ref sa)), some (vT [46]), some (.own 0), some (.bnd 0), some (.int pat.length), some (.int pat.length), o'], own := [(pat.foldl trStep []).map (vP sa)] } _ _ _
  refine Sx.cons (S1.asrt (Tr.cast (Tr.cmp (Ex.l 5) (Ex.l 6) T2.eqInt) (by first | rfl | decide | simp))) ?_
  exact Sx.stop (S1.ret (Ex.l 3)) (by intro h; (first | exact none_some h | exact some_none h | (obtain rfl := Option.some.inj h) | cases h))
end
end Mine

open PySem PySem.W PyProof.Rows PySem.Calls
namespace Mine
def c8 : Cx := { scope := scopeOf 8, ln := ["pat", "STAR", "parts"] }
theorem def8 {D : Wd} (X : Std D) : DefAt D 64 c8 ["pat"] (bodyOf 8) :=
  X.defAt 4 3 8 (mod := mFn) (tok := 313) (code := 63) (dflt := .none) rfl rfl rfl rfl rfl rfl rfl rfl rfl (len_1 fun a => by kernel_rfl) rfl rfl rfl (by decide +kernel) (by decide +kernel) (by decide +kernel) (by decide +kernel) (by decide +kernel) (by decide +kernel)
theorem key13 {D : Wd} (X : Std D) : keepIn D.K (.ref 83) = true := by rw [X.K]; decide +kernel
theorem key14 {D : Wd} (X : Std D) : keepIn D.K (.ref 90) = true := by rw [X.K]; decide +kernel
/-- what a pattern's parts are: texts, then blocks -/
structure Parts (pat : List Nat) (t0 : Bk) (bs : List Bk) : Prop where
  sign : ∀ c ∈ pat, okSign c
  len : pat.length ≤ 200
  eq : pat.foldl trStep [] = t0.map some ++ (bs.map blk).flatten
  ok : okB bs
  n : t0.length + ((bs.map blk).flatten).length ≤ 1000
  b : ∀ b ∈ bs, b.flatten.length ≤ 1000 ∧ b.length ≤ 1000
  z : (t0 ++ outB bs).flatten.length ≤ 10000
theorem spec8 {D : Wd} (X : Std D) (n : Nat) {pat : List Nat} {t0 : Bk} {bs : List Bk} (P : Parts pat t0 bs) : CallSpec D (n + 3) (.ref 64) [vT pat] (vT (joinOut t0 bs)) := by
  refine CallSpec.ofG (def8 X) rfl fun A env B s rs ca p Q E hA R H => ?_
  change Rep D c8 env B s.heap rs ca p { loc := [some (vT pat), none, none] } at R
  have hb : bodyOf 8 = [hdS (bodyOf 8), hdS ((bodyOf 8).drop 1), hdS ((bodyOf 8).drop 2)] := rfl
  rw [hb]
  refine wpAny_execs_cons ?_
  refine wpAny_Assign_Name (Ex.object (n := n + 2) (Ex.b X 26 7) (by intros; rfl) A env B s rs ca p _ E hA R fun a v B1 p1 s1 n1 R1 q1 => ?_) (by rfl)
  refine (Sto.l 1) A env B1 s1 rs ca p1 _ E v hA R1 q1 fun s2 n2 R2 => ?_
  have T : Sx D (n + 2) c8 { loc := [some (vT pat), some (.raw (.ref a)), none] } [hdS ((bodyOf 8).drop 1), hdS ((bodyOf 8).drop 2)] (.ret (vT (joinOut t0 bs))) { loc := [some (vT pat), some (.raw (.ref a)), some (vPs a (pat.foldl trStep []))] } := by
    refine Sx.cons (S1.assign (Ex.callK (Ex.g X 5) (Es.cons (Ex.l 0) (Es.two (Ex.l 1) (Ex.s (l := [46]))) (by intros; rfl)) ((spec13 X P.sign P.len (n := n) (sa := a)).tn rfl) (key13 X)) (Sto.l 2)) ?_
    refine Sx.stop (S1.ret (Ex.callK (Ex.g X 6) (Es.two (Ex.l 2) (Ex.l 1)) (CallSpec.tn (Ws := [vPs a (pat.foldl trStep []), .raw (.ref a)]) ?_ rfl) (key14 X))) (by intro h; (first | exact none_some h | exact some_none h | (obtain rfl := Option.some.inj h) | cases h))
    rw [P.eq]
    exact spec14 X (n + 1) a t0 bs P.ok P.n P.b P.z
  exact T A env B1 s2 rs ca p1 Q E hA R2 ((H _ _ (.fz rfl)).mono (n1.trans n2))
end Mine

open PySem PySem.W PyProof.Rows PySem.Calls
namespace Mine
def c27 : Cx := { scope := scopeOf 27, ln := ["texts"], cn := ["pattern", "made"] }
theorem def27 {D : Wd} (X : Std D) : DefAt D 154 c27 ["pattern", "texts"] (bodyOf 27) :=
  X.defAt 17 16 27 (mod := mLaw) (tok := 575) (code := 153) (dflt := .none) rfl rfl rfl rfl rfl rfl rfl rfl rfl (len_2 fun a b => by kernel_rfl) rfl rfl rfl (by decide +kernel) (by decide +kernel) (by decide +kernel) (by decide +kernel) (by decide +kernel) (by decide +kernel)
theorem key8 {D : Wd} (X : Std D) : keepIn D.K (.ref 64) = true := by rw [X.K]; decide +kernel
theorem key25 {D : Wd} (X : Std D) : keepIn D.K (.ref 144) = true := by rw [X.K]; decide +kernel
theorem key26 {D : Wd} (X : Std D) : keepIn D.K (.ref 149) = true := by rw [X.K]; decide +kernel
theorem filt_texts (ts : List (List Nat)) (f : List Nat → Bool) (p : V → Bool) (h : ∀ x, p (vT x) = f x) : ((ts.map fun x => vT x).filter p).map (fun W => W) = (ts.filter f).map fun x => vT x := by
  rw [List.map_id', List.filter_map]
  congr 1
  exact List.filter_congr fun x _ => h x
theorem joinOut_len {t0 : Bk} {bs : List Bk} (h : (t0 ++ outB bs).flatten.length ≤ 800) : (joinOut t0 bs).length ≤ 900 := by unfold joinOut; simp at h ⊢; lia
theorem spec27 {D : Wd} (X : Std D) (n : Nat) {pat : List Nat} {t0 : Bk} {bs : List Bk} (P : Parts pat t0 bs) (hz : (t0 ++ outB bs).flatten.length ≤ 800) (ts : List (List Nat)) (hn : ts.length ≤ 1000) (ht : ∀ x ∈ ts, x.length ≤ 1000) :
    CallSpec D (n + 4) (.ref 154) [vT pat, vTs ts] (.bool (decide (ts.filter (takesL (joinOut t0 bs)) = ts.filter (fitsL pat)))) := by
  have hz' := sizeLine_eq
  have hj := joinOut_len hz
  generalize hm : joinOut t0 bs = made at hj
  refine CallSpec.of (def27 X) rfl (st := { loc := [some (vTs ts)], cel := [some (vT pat), some (vT made)] }) ?_ (.fz rfl)
  show Sx D (n + 3) c27 { loc := [some (vTs ts)], cel := [some (vT pat), none] } (bodyOf 27) _ _
  refine Sx.cons (S1.assign (W := vT made) (Ex.callK (Ex.g X 3) (Es.one (Ex.k 0)) ((hm ▸ spec8 X n P : CallSpec D (n + 3) (.ref 64) [vT pat] (vT made)).tn rfl) (key8 X)) (Sto.k 1)) ?_
  refine Sx.stop (S1.ret (Ex.cmp (a := vTs (ts.filter (takesL made))) (b := vTs (ts.filter (fitsL pat))) (Ex.cast (Ex.compF (fun W => match W with | .str x => takesL made x.cps.toList | _ => false) (fun W => W) (Ie.list (Ex.l 0)) (fun W hW => ?_) (fun W hW _ => ?_) (by rw [List.length_map]; lia)) ?_) (Ex.cast (Ex.compF (fun W => match W with | .str x => fitsL pat x.cps.toList | _ => false) (fun W => W) (Ie.list (Ex.l 0)) (fun W hW => ?_) (fun W hW _ => ?_) (by rw [List.length_map]; lia)) ?_) (T2.eqStrs rfl rfl))) (by intro h; (first | exact none_some h | exact some_none h | (obtain rfl := Option.some.inj h) | cases h))
  · obtain ⟨x, hx, rfl⟩ := List.mem_map.mp hW
    show Tr _ _ _ _ _ (takesL made (S x).cps.toList) _
    rw [S_list]
    exact Tr.plain (Ex.callK (Ex.g X 14) (Es.two (Ex.k 1) (Ex.l 0)) ((spec25 X (n + 2) made x hj (ht x hx)).tn rfl) (key25 X)) Ty.bool
  · obtain ⟨x, hx, rfl⟩ := List.mem_map.mp hW
    exact ⟨Ex.l 0, rfl⟩
  · rw [filt_texts ts (takesL made) _ fun x => by show takesL made (S x).cps.toList = _; rw [S_list]]
  · obtain ⟨x, hx, rfl⟩ := List.mem_map.mp hW
    show Tr _ _ _ _ _ (fitsL pat (S x).cps.toList) _
    rw [S_list]
    exact Tr.plain (Ex.callK (Ex.g X 15) (Es.two (Ex.k 0) (Ex.l 0)) ((spec26 X (n + 2) pat x (ht x hx)).tn rfl) (key26 X)) Ty.bool
  · obtain ⟨x, hx, rfl⟩ := List.mem_map.mp hW
    exact ⟨Ex.l 0, rfl⟩
  · rw [filt_texts ts (fitsL pat) _ fun x => by show fitsL pat (S x).cps.toList = _; rw [S_list]]
end Mine

open PySem PySem.W PyProof.Rows PySem.Calls
namespace Mine
section
variable {D : Wd} {n : Nat} {c : Cx} {st st1 st2 st3 : St}
/-- a value that needs no heap -/
def V.free : V → Bool
  | .none | .bool _ | .int _ | .str _ | .raw _ => true
  | _ => false
theorem OR.free {B B' : Heap} {p p' : List Addr} {ov : Option Value} {o : Option V} (h : OR B p ov o) (hf : o.all V.free = true) : OR B' p' ov o := by
  cases ov <;> cases o <;> first | exact h | skip
  rename_i v W
  have h' : VR B p v W := h
  show VR B' p' v W
  cases W with
  | none => cases (show VF B v _ from h'); exact .of .none
  | bool => cases (show VF B v _ from h'); exact .of (.bool _)
  | int => cases (show VF B v _ from h'); exact .of (.int ..)
  | str => cases (show VF B v _ from h'); exact .of (.str ..)
  | raw => cases (show VF B v _ from h'); exact .of (.raw _)
  | list => (first | exact none_some hf | exact some_none hf | (obtain rfl := Option.some.inj hf) | cases hf)
  | own => (first | exact none_some hf | exact some_none hf | (obtain rfl := Option.some.inj hf) | cases hf)
  | bnd => (first | exact none_some hf | exact some_none hf | (obtain rfl := Option.some.inj hf) | cases hf)
/-- a frame that slept is woken -/
theorem Rep.wake {env : Env} {B h : Heap} {hold : List (Addr × Obj)} {m : Str → Option Value} (hsc : env.scope = c.scope) (hk : c.scope.kind = .function) (hg : env.globals = mainGlobals) (hb : env.builtins = builtinsNs) (x : Ext B h) (G : Good D B)
    (hln : c.ln.Nodup) (hcn : c.cn = []) (hm : h.Ns env.locals m) (hl : c.ln.length = st.loc.length) (hv : ∀ (i : Nat) (y : Str) (o : Option V), c.ln[i]? = some y → st.loc[i]? = some o → OR B [] (m y) o) (hc : st.cel = []) (ho : st.own = [])
    (held : ∀ q ∈ hold, h.get? q.1 = some q.2) (off : ∀ a ∈ env.locals :: hold.map (·.1), B.get? a = none) (nd : (env.locals :: hold.map (·.1)).Nodup) :
    ∃ rs, Rep D c env B h (hold ++ rs) [] [] st ∧ ∀ b o, b ∉ env.locals :: hold.map (·.1) → h.get? b = some o → B.get? b = some o ∨ (b, o) ∈ rs := by
  obtain ⟨oL, es, ep, eL, dL, rL⟩ := id hm
  let as := (List.range h.objs.size).filter fun a => ((h.get? a).isSome && (B.get? a).isNone) && !(env.locals :: hold.map (·.1)).contains a
  let rs : List (Addr × Obj) := as.map fun a => (a, (h.get? a).getD oL)
  have hrs : rs.map (·.1) = as := by simp only [rs, List.map_map]; exact List.map_id'' (fun _ => rfl) _
  have has : ∀ a ∈ as, (∃ o, h.get? a = some o) ∧ B.get? a = none ∧ a ∉ env.locals :: hold.map (·.1) := fun a ha => by
    have := (List.mem_filter.mp ha).2
    rw [Bool.and_eq_true, Bool.and_eq_true] at this
    refine ⟨Option.isSome_iff_exists.mp this.1.1, by simpa using this.1.2, fun hm => ?_⟩
    have h2 := this.2
    rw [List.contains_iff_mem.mpr hm] at h2
    (first | exact none_some h2 | exact some_none h2 | (obtain rfl := Option.some.inj h2) | cases h2)
  have hmem : ∀ b, b ∈ exc env (hold ++ rs) [] [] → b ∈ env.locals :: hold.map (·.1) ∨ b ∈ as := fun b hb => by
    unfold exc at hb
    rw [List.nil_append, List.nil_append, List.map_append, hrs] at hb
    rcases List.mem_cons.mp hb with rfl | hb
    · exact .inl (.head _)
    rcases List.mem_append.mp hb with hb | hb
    · exact .inl (.tail _ hb)
    · exact .inr hb
  refine ⟨rs, ({ scope := hsc, fn := hk, globals := hg, builtins := hb, ext := x, good := G, lnd := hln, loc := ⟨m, hm, hl, hv⟩, cal := (by rw [hcn]; rfl), cel := ⟨(by rw [hc]; rfl), fun i a o e _ => (by simp at e)⟩, cen := fun i y a e _ _ => (by rw [hcn] at e; simp at e), own := ⟨(by rw [ho]; rfl), fun k a l e _ => (by simp at e)⟩, held := fun q hq => ?_, off := fun b hb => ?_, nd := ?_ } : Rep D c env B h (hold ++ rs) [] [] st), fun b o hb e => ?_⟩
  · rcases List.mem_append.mp hq with hq | hq
    · exact held q hq
    · obtain ⟨a, ha, rfl⟩ := List.mem_map.mp hq
      obtain ⟨⟨o, ho⟩, _⟩ := has a ha
      show h.get? a = some ((h.get? a).getD oL)
      rw [ho]; rfl
  · rcases hmem b hb with hb | hb
    · exact off b hb
    · exact (has b hb).2.1
  · unfold exc
    rw [List.nil_append, List.nil_append, List.map_append, hrs]
    rw [show env.locals :: (hold.map (·.1) ++ as) = (env.locals :: hold.map (·.1)) ++ as from rfl]
    exact List.nodup_append.mpr ⟨nd, List.Pairwise.filter _ List.nodup_range, fun a ha b hb z => (has b hb).2.2 (z ▸ ha)⟩
  · cases q : B.get? b with
    | some o' => left; have := x b o' q; rw [e] at this; exact this.symm
    | none =>
      right
      have hm : b ∈ as := List.mem_filter.mpr ⟨List.mem_range.mpr (Heap.lt_size e), by rw [e, q]; simpa using hb⟩
      have := List.mem_map_of_mem (f := fun a => (a, (h.get? a).getD oL)) hm
      rw [e] at this; exact this
end
end Mine

open PySem PySem.W PyProof.Rows PySem.Calls
namespace Mine
def c4 : Cx := { scope := scopeOf 4, ln := ["grouping", "last_interval", "interval"] }
/-- what the generator hands out; is that all -/
inductive GY : List Int → Option Int → List Int → Bool → Prop
  | nil {l : Option Int} : GY [] l [] true
  | max {l : Option Int} {r : List Int} : GY (127 :: r) l [] true
  | zero {l : Int} {r : List Int} (k : Nat) : GY (0 :: r) (some l) (List.replicate (k + 1) l) false
  | cons {x : Int} {r : List Int} {l : Option Int} {ys : List Int} {f : Bool} : x ≠ 127 → x ≠ 0 → GY r (some x) ys f → GY (x :: r) l (x :: ys) f
def oI : Option Int → V
  | none => .none
  | some i => .int i
def st4 (a : Addr) (l : Option Int) (x : Option V) : St := { loc := [some (.raw (.ref a)), some (oI l), x] }
def Aft (C I : Addr) (s₀ s : Shared) : Prop :=
  (∀ b o, b ≠ C → b ≠ I → s₀.heap.get? b = some o → s.heap.get? b = some o) ∧ s₀.heap.objs.size ≤ s.heap.objs.size ∧ s.drawn = s₀.drawn ∧ s.os = s₀.os ∧ GExt s₀.gens s.gens
structure Cd (D : Wd) (B0 : Heap) (C I : Addr) (oC oI : Obj) (s : Shared) (B : Heap) : Prop where
  ext : Ext B s.heap
  good : Good D B
  base : Ext B0 B
  c : s.heap.get? C = some oC
  i : s.heap.get? I = some oI
  offC : B.get? C = none
  offI : B.get? I = none
def P4 (C I : Addr) (fin : Bool) : Nat → Shared → Shared → Prop := fun n s₀ s₁ => n = 0 ∧ fin = true ∧ Aft C I s₀ s₁
def R4 (C I : Addr) (fin : Bool) : GenEnd := fun n s₀ r s₁ => r = .ok (.ret .none) ∧ P4 C I fin n s₀ s₁
def Y4 (D : Wd) (B0 : Heap) (C I : Addr) (all : List Int) (fin : Bool) : Protocol := fun n s₀ v s kap =>
  (∃ x t, all.reverse[n]? = some x ∧ v = .int x t) ∧ Aft C I s₀ s ∧ ∃ oC oI, s.heap.get? C = some oC ∧ s.heap.get? I = some oI ∧ ((fin = true ∨ n ≠ 0) → ∀ s'' B'', Cd D B0 C I oC oI s'' B'' → kap (.send .none) s'')

section
variable {D : Wd} {n : Nat} {c : Cx} {st st1 st2 : St} {A : Around} {Rr : GenEnd} {Y : Protocol} {m : Nat} {s₀ s : Shared} {cc : Code} {fs : List Frame} {env : Env} {K : Flow → Sem Fin} {H : Value → Sem Fin} {gd : Bool → Bool} {lv : List Value → List Value}
  {B : Heap} {rs : List (Addr × Obj)} {ca p : List Addr}
theorem seg_st {x : Stmt} {f : FV} (h : S1 D n c st x f st1) (hA : Room n (A.over cc fs)) (R : Rep D c env B s.heap rs ca p st)
    (H' : ∀ fl B1 p1 s1, Nx s s1 B B1 p p1 → Rep D c env B1 s1.heap rs ca p1 st1 → FR B1 p1 fl f → Seg (model D.prog D.w) A Rr Y m s₀ cc (K fl) fs s1) : Seg (model D.prog D.w) A Rr Y m s₀ cc ((exec x env).wrap K H gd lv) fs s :=
  seg_wrap (h _ env B s rs ca p _ _ hA R H')
theorem seg_if {t : Expr} {x y : List Stmt} {pos : Pos} {b : Bool} (h : Tr D n c st t b st1) (hA : Room n (A.over cc fs)) (R : Rep D c env B s.heap rs ca p st)
    (H' : ∀ B1 p1 s1, Nx s s1 B B1 p p1 → Rep D c env B1 s1.heap rs ca p1 st1 → Seg (model D.prog D.w) A Rr Y m s₀ cc ((execs (if b = true then x else y) env).wrap K H gd lv) fs s1) : Seg (model D.prog D.w) A Rr Y m s₀ cc ((exec (.If t x y pos) env).wrap K H gd lv) fs s := by
  rw [exec_If]
  refine seg_bind_wrap (wpAny_standAt ?_)
  refine seg_bind_wrap (h _ env B s rs ca p _ _ hA R fun B1 p1 s1 n1 R1 => ?_)
  have := H' B1 p1 s1 n1 R1
  cases b <;> exact this
theorem seg_cons {x : Stmt} {xs : List Stmt} (h : Seg (model D.prog D.w) A Rr Y m s₀ cc ((exec x env).wrap (fun f => match f with | .next => (execs xs env).wrap K H gd lv | f => K f) H gd lv) fs s) : Seg (model D.prog D.w) A Rr Y m s₀ cc ((execs (x :: xs) env).wrap K H gd lv) fs s :=
  seg_execs_cons h
theorem seg_nil (h : Seg (model D.prog D.w) A Rr Y m s₀ cc (K .next) fs s) : Seg (model D.prog D.w) A Rr Y m s₀ cc ((execs [] env).wrap K H gd lv) fs s := seg_execs_nil h
end

/-- the generator's frame within a run of a part -/
structure GInv (D : Wd) (env : Env) (B0 : Heap) (I : Addr) (s₀ s : Shared) (B : Heap) (oI : Obj) (rs : List (Addr × Obj)) (st : St) : Prop where
  R : Rep D c4 env B s.heap ((I, oI) :: rs) [] [] st
  keep : ∀ b o, b ≠ env.locals → b ≠ I → s₀.heap.get? b = some o → B.get? b = some o ∨ (b, o) ∈ rs
  size : s₀.heap.objs.size ≤ s.heap.objs.size
  drawn : s.drawn = s₀.drawn
  os : s.os = s₀.os
  gens : GExt s₀.gens s.gens
  base : Ext B0 B
section
variable {D : Wd} {env : Env} {B0 B B1 : Heap} {I : Addr} {s₀ s s1 : Shared} {oI' oI'' : Obj} {rs : List (Addr × Obj)} {st st1 : St} {p1 : List Addr}
theorem GInv.aft (x : GInv D env B0 I s₀ s B oI' rs st) : Aft env.locals I s₀ s :=
  ⟨fun b o h1 h2 e => (x.keep b o h1 h2 e).elim (x.R.ext b o) fun hm => x.R.held _ (.tail _ hm), x.size, x.drawn, x.os, x.gens⟩
theorem GInv.step (x : GInv D env B0 I s₀ s B oI' rs st) (n1 : Nx s s1 B B1 [] p1) (R1 : Rep D c4 env B1 s1.heap ((I, oI') :: rs) [] p1 st1) (ho : st1.own = []) : GInv D env B0 I s₀ s1 B1 oI' rs st1 := by
  have hp : p1 = [] := List.eq_nil_of_length_eq_zero (by rw [← R1.own.1, ho]; rfl)
  subst hp
  exact ⟨R1, fun b o h1 h2 e => (x.keep b o h1 h2 e).imp (n1.ext b o) id, Nat.le_trans x.size n1.size, n1.drawn.trans x.drawn, n1.os.trans x.os, x.gens.trans n1.gens, x.base.trans n1.ext⟩
theorem GInv.low (x : GInv D env B0 I s₀ s B oI' rs st) : s.heap.get? I = some oI' := x.R.held _ (.head _)
end
/-- the loop's parts -/
def for4 : Stmt := hdS ((bodyOf 4).drop 1)
def body4 : List Stmt := match for4 with | .For _ _ b _ _ => b | _ => []
def tgt4 : Expr := match for4 with | .For t _ _ _ _ => t | _ => .Constant .none 0 ⟨0, 0, 0, 0⟩
def wh4 : Stmt := match body4 with | _ :: .If _ (_ :: w :: _) _ _ :: _ => w | _ => .Pass ⟨0, 0, 0, 0⟩
def loop4 (I : Addr) (env : Env) : Code := .forLoop tgt4 (.ref I) body4 [] env
def while4 (env : Env) : Code := .whileLoop (wTest wh4) (wBody wh4) [] env
end Mine

open PySem PySem.W PyProof.Rows PySem.Calls
namespace Mine
section
variable {D : Wd} {n : Nat} {c : Cx} {st st1 st2 : St}
theorem S1.retN {pos : Pos} : S1 D n c st (.Return Option.none pos) (.ret .none) st := fun A env B s rs ca p Q E hA R H => by
  rw [exec_Return_none]
  exact wpAny_bind (wpAny_standAt (wpAny_pure (H (.ret .none) B p s (.refl ..) R (show VR B p .none .none from .of .none))))
theorem T2.isIntNone {i : Int} : T2 D n c st (.int i) .none (fun _ => compareOp .Is) (.bool false) st := T2.mk fun A env B s rs ca p Q E v u hA R q r H => by
  cases (show VF B v _ from q); cases (show VF B u _ from r)
  unfold compareOp
  first
    | exact wpAny_pure (H _ B p _ (.refl ..) R (.of (.bool _)))
    | (refine wpAny_bind (wpAny_pure ?_); exact wpAny_pure (H _ B p _ (.refl ..) R (.of (.bool _))))
end
section
variable {D : Wd} {env : Env} {B0 : Heap} {I a : Addr}
theorem GInv.wake {s₀ s s'' : Shared} {B B'' : Heap} {oI' oC : Obj} {rs : List (Addr × Obj)} {st : St} (x : GInv D env B0 I s₀ s B oI' rs st) (hf : ∀ o ∈ st.loc, o.all V.free = true) (hcl : st.cel = []) (hown : st.own = []) (hC : s.heap.get? env.locals = some oC) (cd : Cd D B0 env.locals I oC oI' s'' B'') :
    ∃ rs'', GInv D env B0 I s'' s'' B'' oI' rs'' st := by
  obtain ⟨m, hm, hl, hv⟩ := x.R.loc
  obtain ⟨o, es, ep, e, d, r⟩ := id hm
  rw [hC] at e; (first | exact none_some e | exact some_none e | (obtain rfl := Option.some.inj e) | cases e)
  have hne : I ≠ env.locals := nd_loc x.R.nd (List.mem_append_right _ (List.mem_append_right _ (.head _)))
  obtain ⟨rs'', R'', k⟩ := Rep.wake (D := D) (c := c4) (env := env) (B := B'') (h := s''.heap) (hold := [(I, oI')]) (st := st) (m := m) x.R.scope x.R.fn x.R.globals x.R.builtins cd.ext cd.good x.R.lnd rfl ⟨oC, es, ep, cd.c, d, r⟩ hl
    (fun i y o h1 h2 => (hv i y o h1 h2).free (hf o (List.mem_of_getElem? h2))) hcl hown (fun q hq => by rw [List.mem_singleton.mp hq]; exact cd.i) (fun b hb => by
      rcases List.mem_cons.mp hb with rfl | hb
      · exact cd.offC
      · rw [List.mem_singleton.mp hb]; exact cd.offI) (List.nodup_cons.mpr ⟨fun hm => hne (List.mem_singleton.mp hm).symm, by simp⟩)
  exact ⟨rs'', R'', fun b o h1 h2 e => k b o (fun hm => by
    rcases List.mem_cons.mp hm with hm | hm
    · exact h1 hm
    · exact h2 (List.mem_singleton.mp hm)) e, Nat.le_refl _, rfl, rfl, .refl _, cd.base⟩
theorem st4_free (a : Addr) (l : Option Int) (x : Option Int) : ∀ o ∈ (st4 a l (x.map .int)).loc, o.all V.free = true := by
  intro o ho
  simp only [st4, List.mem_cons, List.not_mem_nil, or_false] at ho
  rcases ho with rfl | rfl | rfl
  · rfl
  · cases l <;> rfl
  · cases x <;> rfl

/-- a value is handed out -/
theorem seg_give {A : Around} {n m : Nat} {all : List Int} {fin : Bool} {s₀ s : Shared} {B : Heap} {oI' : Obj} {rs : List (Addr × Obj)} {cc : Code} {fs : List Frame} {K : Flow → Sem Fin} {H : Value → Sem Fin} {e : Expr} {ypos pos : Pos} {y : Int} {l x : Option Int}
    (hE : Ex D n c4 (st4 a l (x.map .int)) e (.int y) (st4 a l (x.map .int))) (hA : Room n (A.over cc fs)) (G : GInv D env B0 I s₀ s B oI' rs (st4 a l (x.map .int))) (hfs : splitAtGen fs = none) (hfg : fs.any Frame.guarded = false) (hy : all.reverse[m]? = some y)
    (next : (fin = true ∨ m ≠ 0) → ∀ s'' B'' rs'', GInv D env B0 I s'' s'' B'' oI' rs'' (st4 a l (x.map .int)) → Seg (model D.prog D.w) A (R4 env.locals I fin) (Y4 D B0 env.locals I all fin) m s'' cc (K .next) fs s'') :
    Seg (model D.prog D.w) A (R4 env.locals I fin) (Y4 D B0 env.locals I all fin) (m + 1) s₀ cc ((exec (.Expr (.Yield (some e) ypos) pos) env).wrap K H id id) fs s := by
  have hsc := G.R.scope
  refine seg_Expr_Yield hfs rfl hfg (hE _ env B s _ [] [] _ _ hA G.R fun v B1 p1 s1 n1 R1 q1 kap hk => ?_) (by rw [hsc]; rfl) (by unfold interactive; rw [hsc]; rfl)
  have G1 := G.step n1 R1 rfl
  cases (show VF B1 v _ from q1) with
  | int _ t =>
    obtain ⟨mm, hm, _⟩ := G1.R.loc
    obtain ⟨oC, es, ep, eC, _⟩ := id hm
    refine ⟨⟨y, t, hy, rfl⟩, G1.aft, oC, oI', eC, G1.low, fun hc s'' B'' cd => hk .none s'' ?_⟩
    obtain ⟨rs'', G''⟩ := G1.wake (st4_free a l x) rfl rfl eC cd
    exact next hc s'' B'' rs'' G''

theorem rev_at {pre : List Int} {y : Int} {ys all : List Int} (h : all = pre ++ y :: ys) : all.reverse[ys.length]? = some y := by
  subst h
  rw [List.reverse_append, List.reverse_cons, List.append_assoc, List.getElem?_append_right (by rw [List.length_reverse]; exact Nat.le_refl _), List.length_reverse, Nat.sub_self]; rfl

/-- while True: yield last_interval -/
theorem seg_while4 {A : Around} {n : Nat} {all : List Int} {fs : List Frame} {l : Int} {x : Option Int} (hA : Room n (A.over (while4 env) fs)) (hfs : splitAtGen fs = none) (hfg : fs.any Frame.guarded = false) :
    ∀ (k : Nat) (pre : List Int) (s₀ s : Shared) (B : Heap) (oI' : Obj) (rs : List (Addr × Obj)), all = pre ++ List.replicate (k + 1) l → GInv D env B0 I s₀ s B oI' rs (st4 a (some l) (x.map .int)) →
      Seg (model D.prog D.w) A (R4 env.locals I false) (Y4 D B0 env.locals I all false) (k + 1) s₀ (while4 env) ((model D.prog D.w).den (while4 env)) fs s := by
  intro k
  induction k with
  | zero =>
    intro pre s₀ s B oI' rs hall G
    refine seg_whileLoop ?_
    refine (Tr.plain (D := D) (n := n) (c := c4) (st := st4 a (some l) (x.map .int)) Ex.bool Ty.bool : Tr D n c4 (st4 a (some l) (x.map .int)) (wTest wh4) true _) _ env B s _ [] [] _ _ hA G.R fun B1 p1 s1 n1 R1 => ?_
    have G1 := G.step n1 R1 rfl
    rw [if_pos rfl]
    refine seg_cons (xs := []) ?_
    refine seg_give (n := n) (y := l) (x := x) (Ex.l 1) hA G1 hfs hfg ?_ fun hc => ?_
    · exact rev_at (ys := []) hall
    · rcases hc with h | h
      · (first | exact none_some h | exact some_none h | (obtain rfl := Option.some.inj h) | cases h)
      · exact absurd rfl h
  | succ k ih =>
    intro pre s₀ s B oI' rs hall G
    have hall' : all = (pre ++ [l]) ++ List.replicate (k + 1) l := by rw [hall, List.replicate_succ]; simp
    refine seg_whileLoop ?_
    refine (Tr.plain (D := D) (n := n) (c := c4) (st := st4 a (some l) (x.map .int)) Ex.bool Ty.bool : Tr D n c4 (st4 a (some l) (x.map .int)) (wTest wh4) true _) _ env B s _ [] [] _ _ hA G.R fun B1 p1 s1 n1 R1 => ?_
    have G1 := G.step n1 R1 rfl
    rw [if_pos rfl]
    refine seg_cons (xs := []) ?_
    refine seg_give (n := n) (y := l) (x := x) (Ex.l 1) hA G1 hfs hfg ?_ fun hc s'' B'' rs'' G'' => ?_
    · have := rev_at (pre := pre) (y := l) (ys := List.replicate (k + 1) l) (all := all) (by rw [hall, List.replicate_succ])
      rwa [List.length_replicate] at this
    · exact seg_nil (seg_again rfl (ih (pre ++ [l]) s'' s'' B'' oI' rs'' hall' G''))
end
end Mine

open PySem PySem.W PyProof.Rows PySem.Calls
namespace Mine
section
variable {D : Wd} {n : Nat} {c : Cx} {st st1 st2 : St}
theorem Ex.gInt (X : Std D) (k : Nat) {x : Str} {pos : Pos} {i : Int} {t : Tok} (hk : glob0[k]? = some (x, some (.int i t)) := by rfl) (hl : c.scope.names.lookup x = some .globalImplicit := by rfl) (hd : (x == ("__debug__" : Str)) = false := by rfl) : Ex D n c st (.Name x pos) (.int i) st := fun A env B s rs ca p Q E hA R H =>
  (Ex.g X k hk hl hd : Ex D n c st (.Name x pos) (.raw (.int i t)) st) A env B s rs ca p Q E hA R fun v B1 p1 s1 n1 R1 q1 => by
    cases (show VF B1 v (.raw (.int i t)) from q1)
    exact H _ B1 p1 s1 n1 R1 (.of (.int ..))
end
section
variable {D : Wd} {env : Env} {B0 : Heap} {I a : Addr}
theorem GInv.next {s₀ s : Shared} {B h' : Heap} {oI' o' : Obj} {rs : List (Addr × Obj)} {st : St} (x : GInv D env B0 I s₀ s B oI' rs st) (hs : Heap.SameBut I s.heap h') (e : h'.get? I = some o') : ∃ B', GInv D env B0 I s₀ { s with heap := h' } B' o' rs st := by
  obtain ⟨B', e1, _, _, R'⟩ := Rep.evolve (hs := [(I, oI')]) (rs := rs) (h' := h') x.R [(I, o')] (fun b ob hb q => (hs.2 b (fun z => hb (by rw [z]; exact .head _))).trans q) (fun q hq => by rw [List.mem_singleton.mp hq]; exact e) (by first | rfl | decide | simp) (fun b hb => .inl hb)
  exact ⟨B', R', fun b o h1 h2 q => (x.keep b o h1 h2 q).imp (e1 b o) id, by show _ ≤ h'.objs.size; rw [hs.1]; exact x.size, x.drawn, x.os, x.gens, x.base.trans e1⟩
variable {A : Around} {n : Nat} {all : List Int} {fin : Bool} {kf : Result → Sem Fin} {cF : Code} {pF : Pos} {kp : List Value}
def fr4 (kf : Result → Sem Fin) (cF : Code) (pF : Pos) : Frame := .ret kf none false [] cF pF []
theorem seg_enter4 {G : List Int} {vs : List Value} {Rr : GenEnd} {Y : Protocol} {y : Int} {r : List Int} {l : Option Int} {m : Nat} {i : Nat} {x : Option Int} {s₀ s : Shared} {B : Heap} {oI' : Obj} {rs : List (Addr × Obj)} (hA1 : Room n (A.over (loop4 I env) [fr4 kf cF pF])) (hG : LstAt B0 a vs) (hvs : VFs B0 vs (G.map .int))
    (hd : G.drop i = y :: r) (hit : s.heap.IsListIter I a i) (GI : GInv D env B0 I s₀ s B oI' rs (st4 a l (x.map .int)))
    (hb : ∀ s1 B1 o1 (K : Flow → Sem Fin) (H : Value → Sem Fin), (∀ f, K f = (match f with | .next | .cont => (PySem.again (loop4 I env) : Sem Fin) | .brk => pure (.done .next) | .ret v => pure (.done (.ret v))).wrap .pure H id id) → (∀ e, H e = (do noteFrame e env; theTreesLotGoes e : Sem Unit).bind fun _ => .raise e) → s1.heap.IsListIter I a (i + 1) → GInv D env B0 I s₀ s1 B1 o1 rs (st4 a l ((some y).map .int)) →
      Seg (model D.prog D.w) A Rr Y m s₀ (loop4 I env) ((execs body4 env).wrap K H id id) [fr4 kf cF pF] s1) :
    Seg (model D.prog D.w) A Rr Y m s₀ (loop4 I env) ((model D.prog D.w).den (loop4 I env)) [fr4 kf cF pF] s := by
  have hgy : G[i]? = some y := by
    have := congrArg (fun l => l[0]?) hd
    simpa using this
  obtain ⟨v, hv, qv⟩ := hvs.get (i := i) (x := .int y) (by rw [List.getElem?_map, hgy]; rfl)
  have hl : s.heap.IsList a vs.toArray := (isList_ext GI.R.ext (isList_ext GI.base hG)).is
  show Seg _ A _ _ _ s₀ _ ((forTurn tgt4 (.ref I) body4 [] env).onRaise _) _ s
  rw [Sem.onRaise_eq_wrap]
  unfold forTurn
  refine seg_bind_wrap (wpAny_standAt ?_)
  refine seg_bind_wrap (wpAny_onRaise (wpAny_pyNext_list_item hit hl (x := v) (by simpa using hv) fun h' hit' hs' => ?_))
  obtain ⟨o', ho', _⟩ := id hit'
  obtain ⟨B1, G1⟩ := GI.next hs' ho'
  refine seg_bind_wrap (wpAny_of_eq (rfl : letOwnedTupleGo tgt4 (.ref I) v = pure ()) ?_)
  refine seg_bind_wrap (wpAny_assign_Name ((Sto.l (D := D) (n := n) (c := c4) (st := st4 a l (x.map .int)) (W := .int y) 2) _ env B1 { s with heap := h' } _ [] [] _ _ v hA1 G1.R (.of (qv.ext G1.base)) fun s2 n2 R2 => ?_))
  have G2 : GInv D env B0 I s₀ s2 B1 o' rs (st4 a l ((some y).map .int)) := G1.step n2 R2 rfl
  rw [Sem.bind_eq_wrap', Sem.wrap_wrap]
  refine hb s2 B1 o' _ _ (fun f => by cases f <;> rfl) (fun e => rfl) ?_ G2
  have := G2.low
  obtain ⟨o'', e1, e2⟩ := hit'
  rw [ho'] at e1; (first | exact none_some e1 | exact some_none e1 | (obtain rfl := Option.some.inj e1) | cases e1)
  exact ⟨_, this, e2⟩
theorem seg_loop4 (X : Std D) {G : List Int} {vs : List Value} (hA : A.handled = none) (hA1 : Room n (A.over (loop4 I env) [fr4 kf cF pF])) (hA2 : ∀ k p', Room n (A.over (while4 env) [fr4 k (loop4 I env) p', fr4 kf cF pF]))
    (hG : LstAt B0 a vs) (hvs : VFs B0 vs (G.map .int))
    (hk : ∀ f s₀' s', (f = Flow.next ∨ f = .ret .none) → fin = true → Aft env.locals I s₀' s' → Seg (model D.prog D.w) A (R4 env.locals I fin) (Y4 D B0 env.locals I all fin) 0 s₀' cF (kf (.ok f)) [] s') :
    ∀ {Gr : List Int} {l : Option Int} {ys : List Int} {f : Bool}, GY Gr l ys f → f = fin → ∀ (i : Nat) (pre : List Int) (x : Option Int) (s₀ s : Shared) (B : Heap) (oI' : Obj) (rs : List (Addr × Obj)), G.drop i = Gr → all = pre ++ ys → s.heap.IsListIter I a i → GInv D env B0 I s₀ s B oI' rs (st4 a l (x.map .int)) →
      Seg (model D.prog D.w) A (R4 env.locals I fin) (Y4 D B0 env.locals I all fin) ys.length s₀ (loop4 I env) ((model D.prog D.w).den (loop4 I env)) [fr4 kf cF pF] s := by
  intro Gr l ys f hY
  have hvl : vs.length = G.length := by rw [hvs.length, List.length_map]
  induction hY with
  | nil =>
    intro hf i pre x s₀ s B oI' rs hd hall hit GI
    have hl : s.heap.IsList a vs.toArray := (isList_ext GI.R.ext (isList_ext GI.base hG)).is
    have hi : vs.toArray[i]? = none := by
      have := congrArg List.length hd
      simp only [List.length_drop, List.length_nil] at this
      rw [Array.getElem?_eq_none]; rw [List.size_toArray]; lia
    show Seg _ A _ _ _ s₀ _ ((forTurn tgt4 (.ref I) body4 [] env).onRaise _) _ s
    rw [Sem.onRaise_eq_wrap]
    unfold forTurn
    refine seg_bind_wrap (wpAny_standAt ?_)
    refine seg_bind_wrap (wpAny_onRaise (with_size (wpAny_pyNext_list_end (show (A.over _ _).handled = none from hA1.handled) hit hl hi fun h' he' hsz => ?_)))
    refine seg_again rfl ?_
    refine seg_leaf (.ok .next) (hk .next s₀ _ (.inl rfl) hf.symm ?_)
    obtain ⟨k1, k2, k3, k4, k5⟩ := GI.aft
    exact ⟨fun b o h1 h2 e => he' b o h2 (k1 b o h1 h2 e), Nat.le_trans k2 hsz, k3, k4, k5⟩
  | max =>
    intro hf i pre x s₀ s B oI' rs hd hall hit GI
    refine seg_enter4 hA1 hG hvs hd hit GI fun s1 B1 o1 K H hK _ hit1 G1 => ?_
    refine seg_cons ?_
    refine seg_if (n := n) (b := true) (Tr.cast (Tr.cmp (Ex.l 2) (Ex.gInt X 32) T2.eqInt) (by first | rfl | decide | simp)) hA1 G1.R fun B2 p2 s2 n2 R2 => ?_
    have G2 := G1.step n2 R2 rfl
    rw [if_pos rfl]
    refine seg_cons ?_
    refine seg_st (n := n) S1.retN hA1 G2.R fun fl B3 p3 s3 n3 R3 q3 => ?_
    have G3 := G2.step n3 R3 rfl
    cases fl with
    | ret v =>
      cases (show VF B3 v .none from q3)
      show Seg _ A _ _ _ s₀ _ (K (.ret .none)) _ s3
      rw [hK]
      exact seg_leaf (.ok (.ret .none)) (hk _ s₀ _ (.inr rfl) hf.symm G3.aft)
    | _ => exact q3.elim
  | zero k =>
    rename_i l r
    intro hf i pre x s₀ s B oI' rs hd hall hit GI
    subst hf
    refine seg_enter4 hA1 hG hvs hd hit GI fun s1 B1 o1 K H hK _ hit1 G1 => ?_
    refine seg_cons ?_
    refine seg_if (n := n) (b := false) (Tr.cast (Tr.cmp (Ex.l 2) (Ex.gInt X 32) T2.eqInt) (by first | rfl | decide | simp)) hA1 G1.R fun B2 p2 s2 n2 R2 => ?_
    have G2 := G1.step n2 R2 rfl
    rw [if_neg Bool.false_ne_true]
    refine seg_nil ?_
    refine seg_cons ?_
    refine seg_if (n := n) (b := true) (Tr.cast (Tr.cmp (Ex.l 2) Ex.int T2.eqInt) (by first | rfl | decide | simp)) hA1 G2.R fun B3 p3 s3 n3 R3 => ?_
    have G3 := G2.step n3 R3 rfl
    rw [if_pos rfl]
    refine seg_cons ?_
    refine seg_if (n := n) (b := false) (Tr.cmp (a := .int l) (Ex.l 1) Ex.none T2.isIntNone) hA1 G3.R fun B4 p4 s4 n4 R4' => ?_
    have G4 := G3.step n4 R4' rfl
    rw [if_neg Bool.false_ne_true]
    refine seg_nil ?_
    refine seg_cons ?_
    refine seg_While fun p' => ?_
    rw [List.length_replicate]
    exact seg_while4 (n := n) (hA2 _ p') rfl rfl k pre s₀ s4 B4 o1 rs hall G4
  | cons h1 h2 hr ih =>
    rename_i y r l ys f
    intro hf i pre x s₀ s B oI' rs hd hall hit GI
    refine seg_enter4 hA1 hG hvs hd hit GI fun s1 B1 o1 K H hK _ hit1 G1 => ?_
    refine seg_cons ?_
    refine seg_if (n := n) (b := false) (Tr.cast (Tr.cmp (Ex.l 2) (Ex.gInt X 32) T2.eqInt) (by simpa using h1)) hA1 G1.R fun B2 p2 s2 n2 R2 => ?_
    have G2 := G1.step n2 R2 rfl
    rw [if_neg Bool.false_ne_true]
    refine seg_nil ?_
    refine seg_cons ?_
    refine seg_if (n := n) (b := false) (Tr.cast (Tr.cmp (Ex.l 2) Ex.int T2.eqInt) (by simpa using h2)) hA1 G2.R fun B3 p3 s3 n3 R3 => ?_
    have G3 := G2.step n3 R3 rfl
    rw [if_neg Bool.false_ne_true]
    refine seg_nil ?_
    refine seg_cons ?_
    refine seg_give (n := n) (y := y) (l := l) (x := some y) (Ex.l 2) hA1 G3 rfl rfl (rev_at hall) fun _ s'' B'' rs'' G'' => ?_
    refine seg_cons ?_
    refine seg_st (n := n) (st1 := st4 a (some y) ((some y).map .int)) (S1.assign (W := .int y) (Ex.l 2) (Sto.l 1)) hA1 G''.R fun fl B5 p5 s5 n5 R5 q5 => ?_
    have G5 := G''.step n5 R5 rfl
    cases fl with
    | next =>
      refine seg_nil ?_
      rw [hK]
      refine seg_again rfl (ih hf (i + 1) (pre ++ [y]) (some y) s'' s5 B5 o1 rs'' ?_ (by rw [hall]; simp) ?_ G5)
      · rw [← List.drop_drop, hd]; rfl
      · obtain ⟨o2, e1, e2⟩ := hit1
        rw [G1.low] at e1; (first | exact none_some e1 | exact some_none e1 | (obtain rfl := Option.some.inj e1) | cases e1)
        exact ⟨_, G5.low, e2⟩
    | _ => exact q5.elim
end
end Mine

open PySem PySem.W PyProof.Rows PySem.Calls
namespace Mine
section
variable {D : Wd} {n : Nat} {c : Cx} {st st1 st2 : St}
theorem sto_locS {A : Around} {env : Env} {B : Heap} {s : Shared} {rs : List (Addr × Obj)} {ca p : List Addr} {Q : Unit → Shared → Prop} {E : Value → Shared → Prop} {v : Value} {W : V} {i : Nat} {x : Str}
    (hx : c.ln[i]? = some x) (hl : c.scope.names.lookup x = some .local) (R : Rep D c env B s.heap rs ca p st) (q : VR B p v W)
    (H : ∀ h' tk, h'.objs.size = s.heap.objs.size → Rep D c env B h' rs ca p { st with loc := st.loc.set i (some W) } → Q () { s with heap := h', toks := tk }) : wpAny (model D.prog D.w) A (storeName env x v) Q E s := by
  obtain ⟨m, hm, hz, hq⟩ := id R.loc
  refine wpAny_storeName_local (by unfold Env.kindOf; rw [R.scope]; exact hl) hm (fun h' hn' hs' => ?_) (by rw [R.scope, R.fn]; rfl)
  have R' := R.setLoc (h' := h') hx q hs' (m' := fun y => if y = x then some v else m y) (fun m2 hm2 => ?_) hn'
  · exact H h' _ hs'.1 R'
  · obtain ⟨o, es, ep, e, d, _, hf⟩ := hm
    obtain ⟨o2, es2, ep2, e2, d2, _, hf2⟩ := hm2
    rw [e] at e2; (first | exact none_some e2 | exact some_none e2 | (obtain rfl := Option.some.inj e2) | cases e2)
    rw [d] at d2; (first | exact none_some d2 | exact some_none d2 | (obtain rfl := Option.some.inj d2) | cases d2)
    funext y
    rw [← hf y, ← hf2 y]
end
/-- the generator's frame before its first part -/
structure GStart (D : Wd) (env : Env) (B0 : Heap) (a : Addr) (s : Shared) (B : Heap) : Prop where
  scope : env.scope = c4.scope
  globals : env.globals = mainGlobals
  builtins : env.builtins = builtinsNs
  ext : Ext B s.heap
  good : Good D B
  base : Ext B0 B
  ns : ∃ m, s.heap.Ns env.locals m ∧ m "grouping" = some (.ref a) ∧ m "last_interval" = none ∧ m "interval" = none
  off : B.get? env.locals = none
  frame : env.frame = some env.locals
section
variable {D : Wd} {env : Env} {B0 : Heap} {a : Addr} {A : Around} {n : Nat} {fin : Bool}
theorem seg_begin4 {vs : List Value} {Rr : GenEnd} {Y : Protocol} {m : Nat} (hG : LstAt B0 a vs) {s : Shared} {B : Heap} (T : GStart D env B0 a s B)
    (H : ∀ (kf : Result → Sem PySem.Fin) p' s2 B2 ob rs, (∀ f, f = Flow.next ∨ f = .ret .none → kf (.ok f) = leafOf (.ok (.ret .none))) → (∀ e s1, wpAny (model D.prog D.w) (A.over (.func (bodyOf 4) env) []) (field e 1) (fun v s2 => (v == Value.none) = false ∧ wpAny (model D.prog D.w) (A.over (.func (bodyOf 4) env) []) (setFlight e env.frame) (fun _ s3 => wpAny (model D.prog D.w) (A.over (.func (bodyOf 4) env) []) (leaving env e) (fun _ s4 => Rr m s (.error e) s4) (fun _ _ => False) s3) (fun _ _ => False) s2) (fun _ _ => False) s1 → Seg (model D.prog D.w) A Rr Y m s (.func (bodyOf 4) env) (kf (.error e)) [] s1) → s2.heap.IsListIter s.heap.objs.size a 0 → GInv D env B0 s.heap.objs.size s s2 B2 ob rs (st4 a none ((none : Option Int).map .int)) →
      Seg (model D.prog D.w) A Rr Y m s (loop4 s.heap.objs.size env) ((model D.prog D.w).den (loop4 s.heap.objs.size env)) [fr4 kf (.func (bodyOf 4) env) p'] s2) :
    Seg (model D.prog D.w) A Rr Y m s (.func (bodyOf 4) env) ((model D.prog D.w).den (.func (bodyOf 4) env)) [] s := by
  obtain ⟨mm0, hm, m1, m2, m3⟩ := T.ns
  obtain ⟨rs, R, hkeep⟩ := Rep.wake (D := D) (c := c4) (env := env) (B := B) (h := s.heap) (hold := []) (st := { loc := [some (.raw (.ref a)), none, none] }) (m := mm0) T.scope rfl T.globals T.builtins T.ext T.good (by decide +kernel) rfl hm rfl (fun i y o h1 h2 => by
      match i, h1, h2 with
      | 0, h1, h2 => (first | exact none_some h1 | exact some_none h1 | (obtain rfl := Option.some.inj h1) | cases h1); (first | exact none_some h2 | exact some_none h2 | (obtain rfl := Option.some.inj h2) | cases h2); rw [m1]; exact VR.of (p := []) (.raw _)
      | 1, h1, h2 => (first | exact none_some h1 | exact some_none h1 | (obtain rfl := Option.some.inj h1) | cases h1); (first | exact none_some h2 | exact some_none h2 | (obtain rfl := Option.some.inj h2) | cases h2); rw [m2]; trivial
      | 2, h1, h2 => (first | exact none_some h1 | exact some_none h1 | (obtain rfl := Option.some.inj h1) | cases h1); (first | exact none_some h2 | exact some_none h2 | (obtain rfl := Option.some.inj h2) | cases h2); rw [m3]; trivial
      | i + 3, h1, h2 => (first | exact none_some h2 | exact some_none h2 | (obtain rfl := Option.some.inj h2) | cases h2)) rfl rfl (fun q hq => nil_elim hq) (fun b hb => by rw [List.mem_singleton.mp hb]; exact T.off) (by first | rfl | decide | simp)
  rw [List.nil_append] at R
  refine seg_func ?_
  refine seg_cons (x := hdS (bodyOf 4)) (xs := [for4]) ?_
  refine seg_wrap (wpAny_Assign_Name (wpAny_Constant_none (sto_locS (W := .none) (i := 1) rfl rfl R (.of .none) fun h1 tk1 hz1 R1 => ?_)) (by rfl))
  refine seg_cons (x := for4) (xs := []) ?_
  obtain ⟨mm, hmm, _, hqq⟩ := id R1.loc
  obtain ⟨v, ev, qv⟩ := OR.some_ (hqq 0 "grouping" (some (.raw (.ref a))) rfl rfl)
  cases (show VF B v (.raw (.ref a)) from qv)
  show Seg _ A _ _ _ s _ ((exec (.For tgt4 (match for4 with | .For _ i _ _ _ => i | _ => tgt4) body4 [] (match for4 with | .For _ _ _ _ p => p | _ => ⟨0, 0, 0, 0⟩)) env).wrap _ _ _ _) [] _
  rw [exec_For]
  refine seg_bind_wrap (wpAny_standAt ?_)
  refine seg_bind_wrap (wpAny_Name (wpAny_loadName_local (by rw [T.scope]; rfl) (by unfold Env.kindOf; rw [T.scope]; rfl) hmm ev ?_) (by rfl))
  refine seg_bind_wrap (wpAny_of_eq (rfl : foldedSetIterable _ env (.ref a) = pure (.ref a)) ?_)
  refine seg_bind_wrap (wpAny_standAt ?_)
  have hl : h1.IsList a vs.toArray := (isList_ext R1.ext (isList_ext T.base hG)).is
  refine seg_bind_wrap (wpAny_holding (wpAny_pyIter_list hl ?_))
  refine seg_call fun p' => ?_
  have hI : s.heap.objs.size = h1.objs.size := hz1.symm
  generalize hob : ({ cls := .type "list_iterator", data := .fields #[.ref a, .int 0 0] } : Obj) = ob
  have hgI : (h1.push ob).get? h1.objs.size = some ob := by rw [← hob]; exact Heap.get?_push_size _ rfl
  obtain ⟨B2, e2, _, _, R2⟩ := Rep.evolve (hs := []) (rs := rs) (h' := h1.push ob) R1 [(h1.objs.size, ob)] (fun b o _ q => Heap.get?_push_of_some _ q) (fun q hq => by rw [List.mem_singleton.mp hq]; exact hgI) (by first | rfl | decide | simp) (fun b hb => by right; have := List.mem_singleton.mp hb; rw [this]; exact Nat.le_refl _)
  have G2 : GInv D env B0 s.heap.objs.size s ⟨h1.push ob, s.gens, s.drawn, tk1, s.os⟩ B2 ob rs (st4 a none ((none : Option Int).map .int)) := by
    rw [hI]
    exact ⟨R2, fun b o h1 h2 e => (hkeep b o (fun hm => h1 (List.mem_singleton.mp hm)) e).imp (e2 b o) id, by rw [hI]; show _ ≤ (h1.push ob).objs.size; rw [Heap.size_push]; exact Nat.le_succ _, rfl, rfl, .refl _, T.base.trans e2⟩
  rw [← hI]
  refine H _ p' _ B2 ob rs (fun f hf => by rcases hf with rfl | rfl <;> rfl) (fun e s1 h => ?_) ?_ G2
  · refine seg_bind_wrap (wpAny_bind (wpAny_mono h (fun v s2 h2 => ?_) fun _ _ x => False.elim x))
    obtain ⟨hv, h2⟩ := h2
    show wpAny _ _ (if (v == Value.none) = true then _ else setFlight e env.frame) _ _ s2
    rw [if_neg (by rw [hv]; exact Bool.false_ne_true)]
    exact wpAny_mono h2 (fun _ s3 h3 => show Seg _ A _ _ _ _ _ ((leaving env e).wrap (fun _ => .raise e) .raise id id) [] s3 from seg_wrap (wpAny_mono h3 (fun _ s4 h4 => seg_end (.error e) h4) fun _ _ x => False.elim x)) fun _ _ x => False.elim x
  rw [hI]; exact ⟨ob, hgI, by rw [← hob], by rw [← hob]; rfl⟩
theorem seg_start4 (X : Std D) {G : List Int} {vs : List Value} {ys : List Int} (hA : A.handled = none) (hA0 : Room n (A.over (.func (bodyOf 4) env) [])) (hA1 : ∀ I kf p', Room n (A.over (loop4 I env) [fr4 kf (.func (bodyOf 4) env) p'])) (hA2 : ∀ I kf pF k p', Room n (A.over (while4 env) [fr4 k (loop4 I env) p', fr4 kf (.func (bodyOf 4) env) pF]))
    (hG : LstAt B0 a vs) (hvs : VFs B0 vs (G.map .int)) (hY : GY G none ys fin) {s : Shared} {B : Heap} (T : GStart D env B0 a s B) :
    Seg (model D.prog D.w) A (R4 env.locals s.heap.objs.size fin) (Y4 D B0 env.locals s.heap.objs.size ys fin) ys.length s (.func (bodyOf 4) env) ((model D.prog D.w).den (.func (bodyOf 4) env)) [] s := by
  refine seg_begin4 hG T fun kf p' s2 B2 ob rs k1 _ hit G2 => seg_loop4 X (n := n) (G := G) (vs := vs) hA (hA1 _ _ p') (fun k p2 => hA2 _ _ _ k p2) hG hvs (fun f s₀' s' hf hfin haft => ?_) hY rfl 0 [] none s _ B2 ob rs rfl rfl hit G2
  rw [k1 f hf]
  exact seg_end (.ok (.ret .none)) ⟨rfl, rfl, hfin, haft⟩
end
end Mine

open PySem PySem.W PyProof.Rows PySem.Calls
namespace Mine
section
variable {prog : Program} {w : World} {A : Around} {E : Value → Shared → Prop} {s : Shared}
/-- what comes of a generator's step -/
def Comes (prog : Program) (w : World) (A : Around) (a : Addr) (Q : Option Value → Shared → Prop) (E : Value → Shared → Prop) : GenResult → Shared → Prop
  | .yielded v, s1 => Q (some v) s1
  | .returned .none, s1 => ∀ h', Ext s1.heap h' → Q none { s1 with heap := h' }
  | .raised e, s1 => wpAny (model prog w) A.in1 (Builtin.Generator.genLeft (α := PySem.Fin) (.ref a) e) (fun _ _ => False) (fun e' s2 => ∃ T, s2.TypeIs e' T ∧ isSubtype (.type T) (.type "StopIteration") = pure false ∧ E e' s2) s1
  | _, _ => False
/-- a generator's step, as its own resumption tells -/
theorem next_by {a : Addr} {g : Nat} {gs : GenState} {Q : Option Value → Shared → Prop} (hl : s.heap.NoLimit) (hroom : A.depth < recursionLimit) (hg : s.heap.IsGen a g) (hgs : s.gens[g]? = some gs) (hh : A.handled = none)
    (h : wpAny (model prog w) A.in1 (PySem.resume g (.send .none)) (Comes prog w A a Q E) (fun _ _ => False) s) : wpAny (model prog w) A (pyNext (.ref a)) Q E s := by
  unfold pyNext
  refine wpAny_bind (wpAny_attempt (wpAny_callSpecial?_slot (name := Str.ofString "__next__") hg.typeIs slot_gen_next (wpAny_call_entry slot_gen_next hg.typeIs entry_gen_next ?_ (args_gen_next _))))
  show wpAny _ A.in1 (Builtin.Generator.genWake (.ref a) (.send .none)) _ _ s
  unfold Builtin.Generator.genWake
  refine wpAny_bind (wpAny_holding (wpAny_genNumber hg (wpAny_bind (wpAny_genState hgs ?_))))
  have go : ∀ {Qx : PySem.Fin → Shared → Prop} {Ex : Value → Shared → Prop}, (∀ v s1, Q (some v) s1 → Qx (.done (.ret v)) s1) → (∀ e s1, (∃ T b, s1.TypeIs e T ∧ isSubtype (.type T) (.type "StopIteration") = pure b ∧ (if b = true then Q none s1 else E e s1)) → Ex e s1) → ∀ r s1, Comes prog w A a Q E r s1 → wpAny (model prog w) A.in1 (match r with
      | .yielded v => (ret v : Sem PySem.Fin)
      | .returned v => do
        if v == Value.none then raiseNew (← newExc (.type "StopIteration") [])
        rule "generator.return-value"; throw (← newExc (.type "StopIteration") [v])
      | .raised e => Builtin.Generator.genLeft (.ref a) e
      | .running => do rule "generator.already-executing"; raiseError "ValueError" "generator already executing"
      | .justStarted => do rule "generator.send-to-fresh"; raiseError "TypeError" "can't send non-None value to a just-started generator"
      | .finished => do raiseNew (← newExc (.type "StopIteration") [])) Qx Ex s1 := by
    intro Qx Ex h1 h2 r s1 hc
    cases r with
    | yielded v => exact wpAny_pure (h1 v s1 hc)
    | returned v =>
      cases v with
      | none =>
        refine wpAny_bind ?_
        simp only [newExc, newTuple]
        refine wpAny_bind (wpAny_newObj_type ?_ (by size_fits))
        refine wpAny_bind (m := firstArgMember _ _) (wpAny_of_eq (a := Value.none) (by first | rfl | (simp only [firstArgMember]; rfl)) ?_)
        refine wpAny_newObj_type ?_ (by size_fits)
        simp only [raiseNew]
        refine wpAny_bind (wpAny_bind (wpAny_handled ?_))
        rw [show A.in1.handled = none from hh]
        refine wpAny_throw (h2 _ _ ⟨"StopIteration", true, ⟨_, Heap.get?_push_size _ rfl, rfl⟩, isSubtype_stop, ?_⟩)
        rw [if_pos rfl]
        exact (hc : ∀ h', Ext s1.heap h' → Q none { s1 with heap := h' }) _ fun b o hb => Heap.get?_push_of_some _ (Heap.get?_push_of_some _ hb)
      | _ => exact hc.elim
    | raised e =>
      refine wpAny_mono (show wpAny (model prog w) A.in1 (Builtin.Generator.genLeft (α := PySem.Fin) (.ref a) e) (fun _ _ => False) (fun e' s2 => ∃ T, s2.TypeIs e' T ∧ isSubtype (.type T) (.type "StopIteration") = pure false ∧ E e' s2) s1 from hc) (fun _ _ h => h.elim) fun e' s2 h => h2 e' s2 ?_
      obtain ⟨T, hT, hs, hE⟩ := h
      exact ⟨T, false, hT, hs, by rw [if_neg Bool.false_ne_true]; exact hE⟩
    | _ => exact hc.elim
  have rest : ∀ {Qx : PySem.Fin → Shared → Prop} {Ex : Value → Shared → Prop}, (∀ v s1, Q (some v) s1 → Qx (.done (.ret v)) s1) → (∀ e s1, (∃ T b, s1.TypeIs e T ∧ isSubtype (.type T) (.type "StopIteration") = pure b ∧ (if b = true then Q none s1 else E e s1)) → Ex e s1) → wpAny (model prog w) A.in1 (PySem.resume g (.send .none) >>= fun r => match r with
      | .yielded v => (ret v : Sem PySem.Fin)
      | .returned v => do
        if v == Value.none then raiseNew (← newExc (.type "StopIteration") [])
        rule "generator.return-value"; throw (← newExc (.type "StopIteration") [v])
      | .raised e => Builtin.Generator.genLeft (.ref a) e
      | .running => do rule "generator.already-executing"; raiseError "ValueError" "generator already executing"
      | .justStarted => do rule "generator.send-to-fresh"; raiseError "TypeError" "can't send non-None value to a just-started generator"
      | .finished => do raiseNew (← newExc (.type "StopIteration") [])) Qx Ex s := fun h1 h2 =>
    wpAny_bind (wpAny_mono h (fun r s1 hc => go h1 h2 r s1 hc) fun _ _ x => x.elim)
  have h1 : ∀ v s1, Q (some v) s1 → ∃ u, PySem.Fin.done (.ret v) = .done (.ret u) ∧ wpAny (model prog w) A (match (some u : Option Value) with | some v => pure (some v) | none => unsupported "iter:the-iterator's-class-has-lost-its-__next__-amid-the-walk") Q E s1 := fun v s1 q => ⟨v, rfl, wpAny_pure q⟩
  have h2 : ∀ e s1, (∃ T b, s1.TypeIs e T ∧ isSubtype (.type T) (.type "StopIteration") = pure b ∧ (if b = true then Q none s1 else E e s1)) → wpAny (model prog w) A (do if ← isInstance e (.type "StopIteration") then pure none else throw e) Q E s1 := by
    rintro e s1 ⟨T, b, hT, hs, hq⟩
    refine wpAny_bind (wpAny_isInstance (T := T) (b := b) hT hs ?_)
    cases b with
    | true => exact wpAny_pure hq
    | false => exact wpAny_throw hq
  cases gs with
  | fresh c => exact wpAny_bind (wpAny_roomToWake hl hroom (rest h1 h2))
  | suspended k l c p fs cl => exact wpAny_bind (wpAny_roomToWake hl hroom (rest h1 h2))
  | running => exact rest h1 h2
  | finished => exact rest h1 h2
end
end Mine

open PySem PySem.W PyProof.Rows PySem.Calls
namespace Mine
theorem GExt.set {g0 : Array GenState} {s : Shared} {g : Nat} {gs : GenState} (x : GExt g0 s.gens) (h : g0.size ≤ g) (hb : gs.bare = true) : GExt g0 (s.setGen g gs).gens := by
  obtain ⟨l, e, hl⟩ := x
  refine ⟨l.set (g - g0.size) gs, ?_, fun y hy => ?_⟩
  · show (s.gens.setIfInBounds g gs) = _
    apply Array.ext'
    rw [e]
    simp only [Array.toList_setIfInBounds, Array.toList_append]
    rw [List.set_append_right _ _ (by rw [Array.length_toList]; exact h), Array.length_toList]
  · rcases List.mem_or_eq_of_mem_set hy with h' | h'
    · exact hl y h'
    · exact h' ▸ hb
theorem GExt.get {g0 g1 : Array GenState} (x : GExt g0 g1) {g : Nat} {gs : GenState} (h : g0[g]? = some gs) : g1[g]? = some gs := by
  obtain ⟨l, e, _⟩ := x
  rw [e, Array.getElem?_append_left (Array.getElem?_eq_some_iff.mp h).1]; exact h
theorem setGen_get {s : Shared} {g : Nat} {gs x : GenState} (h : s.gens[g]? = some gs) : (s.setGen g x).gens[g]? = some x := by
  have := (Array.getElem?_eq_some_iff.mp h).1
  simp [Shared.setGen, this]
/-- a step of a frame's whole, its generators told apart -/
structure Ny (s s' : Shared) (B B' : Heap) : Prop where
  ext : Ext B B'
  new : ∀ b o, B'.get? b = some o → B.get? b = some o ∨ s.heap.objs.size ≤ b
  size : s.heap.objs.size ≤ s'.heap.objs.size
  drawn : s'.drawn = s.drawn
  os : s'.os = s.os
/-- a generator that runs, as its caller sees it -/
structure GRun (D : Wd) (A : Around) (g : Nat) (C : Addr) (B0 : Heap) (all : List Int) (fin : Bool) (ys : List Int) (hold : List (Addr × Obj)) (s : Shared) : Prop where
  hC : C ∈ hold.map (·.1)
  pre : ∃ pre, all = pre ++ ys
  run : ∃ gs, s.gens[g]? = some gs ∧ ((fin = true ∨ ys ≠ []) → ∀ s'' B'', Ext B'' s''.heap → Good D B'' → Ext B0 B'' → (∀ q ∈ hold, s''.heap.get? q.1 = some q.2 ∧ B''.get? q.1 = none) →
    ∃ I, (I ∈ hold.map (·.1) ∨ I = s''.heap.objs.size) ∧ I ≠ C ∧ gs.Goes (model D.prog D.w) A.in1 (R4 C I fin) (Y4 D B0 C I all fin) ys.length (.send .none) s'')
section
variable {D : Wd} {n : Nat} {c : Cx} {st : St} {A : Around} {envc : Env} {B B0 : Heap} {s : Shared} {rs hold : List (Addr × Obj)} {ca p : List Addr} {ga C : Addr} {g : Nat} {all ys : List Int} {fin : Bool} {g0 : Array GenState} {Q : Option Value → Shared → Prop} {E : Value → Shared → Prop}
theorem GRun.keep {s' : Shared} (x : GRun D A g C B0 all fin ys hold s) (h : s'.gens[g]? = s.gens[g]?) : GRun D A g C B0 all fin ys hold s' :=
  ⟨x.hC, x.pre, let ⟨gs, e, r⟩ := x.run; ⟨gs, h.trans e, r⟩⟩
theorem hold_facts (R : Rep D c envc B s.heap (hold ++ rs) ca p st) : ∀ q ∈ hold, s.heap.get? q.1 = some q.2 ∧ B.get? q.1 = none := fun q hq =>
  ⟨R.held q (List.mem_append_left _ hq), R.off _ ((exc_perm envc hold rs ca p).mem_iff.mpr (List.mem_append_left _ (List.mem_map_of_mem (f := (·.1)) hq)))⟩
theorem gnext {y : Int} (hh : A.handled = none) (hroom : A.depth < recursionLimit) (R : Rep D c envc B s.heap (hold ++ rs) ca p st) (hg : B.IsGen ga g) (base : Ext B0 B) (run : GRun D A g C B0 all fin (y :: ys) hold s) (gx : GExt g0 s.gens) (hle : g0.size ≤ g)
    (H : ∀ t s' B' hold', Ny s s' B B' → GExt g0 s'.gens → Rep D c envc B' s'.heap (hold' ++ rs) ca p st → GRun D A g C B0 all fin ys hold' s' → Q (some (.int y t)) s') : wpAny (model D.prog D.w) A (pyNext (.ref ga)) Q E s := by
  obtain ⟨gs, hgs, go⟩ := run.run
  obtain ⟨I, hI, hne, hgo⟩ := go (.inr (by first | rfl | decide | simp)) (s.setGen g .running) B R.ext R.good base (hold_facts R)
  obtain ⟨pre, hpre⟩ := run.pre
  have hCa := run.hC
  refine next_by (R.good.lim.keeps R.ext) hroom (hg.keeps R.ext) hgs hh ?_
  refine wpAny_resumeQ hgs hgo (fun x s₁ hx => ?_) (fun v s₁ gs' hb hy => ?_)
  · obtain ⟨_, h0, _⟩ := hx
    exact absurd h0 (by first | rfl | decide | simp)
  · obtain ⟨⟨z, t, hz, rfl⟩, aft, oC, oI', eC, eI, hk⟩ := hy
    rw [show (y :: ys).length - 1 = ys.length by simp, rev_at hpre] at hz
    (first | exact none_some hz | exact some_none hz | (obtain rfl := Option.some.inj hz) | cases hz)
    obtain ⟨k1, k2, k3, k4, k5⟩ := aft
    refine wpAny_pure ?_
    have hsz : ∀ b o, s.heap.get? b = some o → b < s.heap.objs.size := fun b o e => Heap.lt_size e
    obtain ⟨B', e', w', _, R'⟩ := Rep.evolve (hs := hold) (rs := rs) (h' := s₁.heap) R [(I, oI'), (C, oC)] (fun b ob hb q => k1 b ob (fun z => hb (z ▸ hCa)) (fun z => by
        rcases hI with hI | hI
        · exact hb (z ▸ hI)
        · have := hsz b ob q; rw [z, hI] at this; exact Nat.lt_irrefl _ this) q) (fun q hq => by
        rcases List.mem_cons.mp hq with rfl | hq
        · exact eI
        · rw [List.mem_singleton.mp hq]; exact eC) (by simpa using hne) (fun b hb => by
        rcases List.mem_cons.mp hb with rfl | hb
        · exact hI.imp id fun z => Nat.le_of_eq z.symm
        · rw [List.mem_singleton.mp hb]; exact .inl hCa)
    have gx1 : GExt g0 (s.setGen g .running).gens := gx.set hle rfl
    have hg1 : s₁.gens[g]? = some .running := k5.get (setGen_get hgs)
    refine H t (s₁.setGen g gs') B' [(I, oI'), (C, oC)] ⟨e', w', k2, k3, k4⟩ ((gx1.trans k5).set hle hb) R' ⟨by simp, ⟨pre ++ [y], by rw [hpre]; simp⟩, gs', setGen_get hg1, fun hc s'' B'' x1 x2 x3 x4 => ⟨I, .inl (.head _), hne, ?_⟩⟩
    exact hk (hc.imp id fun h => by simpa using h) s'' B'' ⟨x1, x2, x3, (x4 _ (.tail _ (.head _))).1, (x4 _ (.head _)).1, (x4 _ (.tail _ (.head _))).2, (x4 _ (.head _)).2⟩
theorem gend (hh : A.handled = none) (hroom : A.depth < recursionLimit) (R : Rep D c envc B s.heap (hold ++ rs) ca p st) (hg : B.IsGen ga g) (base : Ext B0 B) (run : GRun D A g C B0 all true [] hold s) (gx : GExt g0 s.gens) (hle : g0.size ≤ g)
    (H : ∀ s' B', Ny s s' B B' → GExt g0 s'.gens → Rep D c envc B' s'.heap rs ca p st → Q none s') : wpAny (model D.prog D.w) A (pyNext (.ref ga)) Q E s := by
  obtain ⟨gs, hgs, go⟩ := run.run
  obtain ⟨I, hI, hne, hgo⟩ := go (.inl rfl) (s.setGen g .running) B R.ext R.good base (hold_facts R)
  have hCa := run.hC
  refine with_size (next_by (R.good.lim.keeps R.ext) hroom (hg.keeps R.ext) hgs hh ?_)
  refine wpAny_resumeQ hgs hgo (fun x s₁ hx => ?_) (fun v s₁ gs' hb hy => ?_)
  · obtain ⟨rfl, _, _, k1, k2, k3, k4, k5⟩ := hx
    refine wpAny_pure ?_
    show ∀ h', Ext (s₁.setGen g .finished).heap h' → s.heap.objs.size ≤ h'.objs.size → Q none { s₁.setGen g .finished with heap := h' }
    intro h' hx hsz
    obtain ⟨B', e', w', _, R'⟩ := Rep.evolve (hs := hold) (rs := rs) (h' := h') R [] (fun b ob hb q => hx b ob (k1 b ob (fun z => hb (z ▸ hCa)) (fun z => by
        rcases hI with hI | hI
        · exact hb (z ▸ hI)
        · have := Heap.lt_size q; rw [z, hI] at this; exact Nat.lt_irrefl _ this) q)) (fun q hq => nil_elim hq) (by first | rfl | decide | simp) (fun b hb => nil_elim hb)
    have gx1 : GExt g0 (s.setGen g .running).gens := gx.set hle rfl
    exact H _ B' ⟨e', w', hsz, k3, k4⟩ ((gx1.trans k5).set hle rfl) R'
  · obtain ⟨_, aft, oC, oI', eC, eI, hk⟩ := hy
    have offC : B.get? C = none := by
      obtain ⟨q, hq, rfl⟩ := List.mem_map.mp hCa
      exact (hold_facts R q hq).2
    have offI : B.get? I = none := by
      rcases hI with hI | hI
      · obtain ⟨q, hq, rfl⟩ := List.mem_map.mp hI
        exact (hold_facts R q hq).2
      · cases q : B.get? I with
        | none => rfl
        | some o => have := R.low q; rw [hI] at this; exact absurd this (Nat.lt_irrefl _)
    exact (hk (.inl rfl) s₁ B ⟨fun b o e => aft.1 b o (fun z => by rw [z, offC] at e; (first | exact none_some e | exact some_none e | (obtain rfl := Option.some.inj e) | cases e)) (fun z => by rw [z, offI] at e; (first | exact none_some e | exact some_none e | (obtain rfl := Option.some.inj e) | cases e)) (R.ext b o e), R.good, base, eC, eI, offC, offI⟩).elim
end
end Mine

open PySem PySem.W PyProof.Rows PySem.Calls
namespace Mine
section
variable {D : Wd} {n : Nat} {c : Cx} {st : St} {A : Around}
theorem GExt.push1 (g : Array GenState) {x : GenState} (h : x.bare = true) : GExt g (g.push x) := ⟨[x], by simp, fun y hy => by rw [List.mem_singleton.mp hy]; exact h⟩
theorem Nx.thenY {s s1 s2 : Shared} {B B1 B2 : Heap} {p p1 : List Addr} (x : Nx s s1 B B1 p p1) (y : Ny s1 s2 B1 B2) (g : GExt s.gens s2.gens) : Nx s s2 B B2 p p1 :=
  ⟨x.ext.trans y.ext, fun b o e => (y.new b o e).elim (x.new b o) fun h => .inr (Nat.le_trans x.size h), Nat.le_trans x.size y.size, x.pre, y.drawn.trans x.drawn, y.os.trans x.os, g, x.own⟩
theorem roomF (h : Room (n + 1) A) (env : Env) : Room n (A.in1.over (.func (bodyOf 4) env) []) := by
  have e1 : (A.in1.over (.func (bodyOf 4) env) []).depth = A.depth + 1 := rfl
  have e2 : (A.in1.over (.func (bodyOf 4) env) []).units = A.units + 1 + 3 := rfl
  exact ⟨h.handled, by rw [e1]; have := h.depth; lia, by rw [e2]; have := h.units; lia⟩
theorem roomL (h : Room (n + 1) A) (env : Env) (I : Addr) (kf : Result → Sem PySem.Fin) (p' : Pos) : Room n (A.in1.over (loop4 I env) [fr4 kf (.func (bodyOf 4) env) p']) := by
  have e1 : (A.in1.over (loop4 I env) [fr4 kf (.func (bodyOf 4) env) p']).depth = A.depth + 1 := rfl
  have e2 : (A.in1.over (loop4 I env) [fr4 kf (.func (bodyOf 4) env) p']).units = A.units + 1 + 3 := rfl
  exact ⟨h.handled, by rw [e1]; have := h.depth; lia, by rw [e2]; have := h.units; lia⟩
theorem roomW (h : Room (n + 1) A) (env : Env) (I : Addr) (kf k : Result → Sem PySem.Fin) (p p' : Pos) : Room n (A.in1.over (while4 env) [fr4 k (loop4 I env) p, fr4 kf (.func (bodyOf 4) env) p']) := by
  have e1 : (A.in1.over (while4 env) [fr4 k (loop4 I env) p, fr4 kf (.func (bodyOf 4) env) p']).depth = A.depth + 1 := rfl
  have e2 : (A.in1.over (while4 env) [fr4 k (loop4 I env) p, fr4 kf (.func (bodyOf 4) env) p']).units = A.units + 1 + 3 := rfl
  exact ⟨h.handled, by rw [e1]; have := h.depth; lia, by rw [e2]; have := h.units; lia⟩
theorem bind4 (v : Value) : bindArgs (fdO 4 mLoc 282 44 .none) ⟨[v], []⟩ = pure [(("grouping" : Str), v)] := by kernel_rfl
/-- the generator is made -/
theorem gmake (X : Std D) {envc : Env} {B : Heap} {s : Shared} {rs : List (Addr × Obj)} {ca p : List Addr} {a : Addr} {Q : Value → Shared → Prop} {E : Value → Shared → Prop} (hA : Room (n + 1) A) (R : Rep D c envc B s.heap rs ca p st)
    (H : ∀ ga g C s' B' oC env, Nx s s' B B' p p → Rep D c envc B' s'.heap ([(C, oC)] ++ rs) ca p st → B'.IsGen ga g → s.gens.size ≤ g → s'.gens[g]? = some (.fresh (.func (bodyOf 4) env)) → env.locals = C → C = s.heap.objs.size →
      (∀ s'' B'', Ext B'' s''.heap → Good D B'' → Ext B B'' → s''.heap.get? C = some oC → B''.get? C = none → GStart D env B a s'' B'') → Q (.ref ga) s') : wpAny (model D.prog D.w) A (call (.ref 45) [.ref a]) Q E s := by
  have hfn : s.heap.get? 45 = some (fnO 4 mLoc 282 44 .none) := R.ext _ _ (R.good.k _ _ (by rw [X.K]; rfl))
  have hcr : s.heap.CodeRec (.ref 44) "_grouping_intervals" := (R.good.cod (44, "_grouping_intervals") (by rw [X.codes]; exact List.mem_of_getElem? (i := 1) rfl)).keeps R.ext
  refine wpAny_call ?_
  refine codeAny_call_generator (fd := fdO 4 mLoc 282 44 .none) (body := bodyOf 4) (by have := hA.depth; lia) hfn rfl rfl rfl rfl hcr ?_
  rw [bind4]
  refine wpAny_pure (wpAny_newFunctionEnv (by decide +kernel) (fun x hx => by rw [List.mem_singleton.mp hx]; exact (by decide +kernel : (scopeOf 4).names.lookup ("grouping" : Str) = some .local)) (fun h' hns hsm => ?_) rfl)
  obtain ⟨oC, es, ep, eC, dC, rC⟩ := id hns
  generalize henv : newEnv (fdO 4 mLoc 282 44 .none).scope s.heap.objs.size (fdO 4 mLoc 282 44 .none).globals (fdO 4 mLoc 282 44 .none).closure ((fdO 4 mLoc 282 44 .none).qualname ++ Str.ofString ".<locals>.") (some 45) (fdO 4 mLoc 282 44 .none).code none (fdO 4 mLoc 282 44 .none).builtins = env
  have hL : env.locals = s.heap.objs.size := by rw [← henv]; rfl
  have hsz : h'.objs.size = s.heap.objs.size + 1 := by rw [hsm.1, Heap.size_push]
  have hold : ∀ b o, s.heap.get? b = some o → h'.get? b = some o := fun b o e => (hsm.2 b (Nat.ne_of_lt (Heap.lt_size e))).trans (Heap.get?_push_of_some _ e)
  refine ⟨(R.good.lim.keeps R.ext).keeps hold, ?_⟩
  generalize hob : ({ cls := .type "generator", data := .fields #[.int s.gens.size 0, .str (fdO 4 mLoc 282 44 .none).name _, .str (fdO 4 mLoc 282 44 .none).qualname _] } : Obj) = gob
  have hgf : gob.isFreed = false := by rw [← hob]; rfl
  obtain ⟨B', e1, w1, g1, R'⟩ := Rep.evolve (hs := []) (rs := rs) (h' := h'.push gob) R [(s.heap.objs.size, oC)] (fun b o _ e => Heap.get?_push_of_some _ (hold b o e)) (fun q hq => by rw [List.mem_singleton.mp hq]; exact Heap.get?_push_of_some _ eC) (by first | rfl | decide | simp) (fun b hb => .inr (Nat.le_of_eq (List.mem_singleton.mp hb).symm))
  have hgen : B'.IsGen h'.objs.size s.gens.size := ⟨gob, _, _, g1 _ _ (by rw [hsz]; exact Nat.le_succ _) (fun hm => by have := List.mem_singleton.mp hm; dsimp only at this; lia) (Heap.get?_push_size _ hgf), by rw [← hob], by rw [← hob], by rw [← hob]⟩
  refine H h'.objs.size s.gens.size s.heap.objs.size _ B' oC env ⟨e1, w1, by show _ ≤ (h'.push gob).objs.size; rw [Heap.size_push, hsz]; lia, .refl _, rfl, rfl, GExt.push1 _ rfl, fun _ h => .inl h⟩ R' hgen (Nat.le_refl _) (by first | rfl | decide | simp) hL rfl fun s'' B'' x1 x2 x3 x4 x5 => ?_
  exact ⟨by rw [← henv]; rfl, by rw [← henv]; rfl, by rw [← henv]; rfl, x1, x2, x3, ⟨_, by rw [hL]; exact ⟨oC, es, ep, x4, dC, rC⟩, rfl, rfl, rfl⟩, by rw [hL]; exact x5, by rw [← henv]; rfl⟩
theorem gcall (X : Std D) {envc : Env} {B : Heap} {s : Shared} {rs : List (Addr × Obj)} {ca p : List Addr} {v : Value} {G ys : List Int} {fin : Bool} {Q : Value → Shared → Prop} {E : Value → Shared → Prop} (hA : Room (n + 1) A) {A2 : Around} (hA2 : Room (n + 1) A2) (R : Rep D c envc B s.heap rs ca p st) (hv : VF B v (vI G)) (hY : GY G none ys fin)
    (H : ∀ ga g C s' B' oC, Nx s s' B B' p p → Rep D c envc B' s'.heap ([(C, oC)] ++ rs) ca p st → B'.IsGen ga g → s.gens.size ≤ g → g < s'.gens.size → GRun D A2 g C B ys fin ys [(C, oC)] s' → Q (.ref ga) s') : wpAny (model D.prog D.w) A (call (.ref 45) [v]) Q E s := by
  cases hv with | list hG hvs => ?_
  refine gmake X hA R fun ga g C s' B' oC env n' R' hg hle hf hC _ hS => H ga g C s' B' oC n' R' hg hle (Array.getElem?_eq_some_iff.mp hf).1 ⟨by simp, ⟨[], rfl⟩, _, hf, fun _ s'' B'' x1 x2 x3 x4 => ?_⟩
  have hC'' := (x4 _ (.head _)).1
  dsimp only at hC''
  refine ⟨s''.heap.objs.size, .inr rfl, fun z => absurd (Heap.lt_size hC'') (by rw [z]; exact Nat.lt_irrefl _), rfl, ?_⟩
  rw [← hC]
  exact seg_start4 X (n := n) (A := A2.in1) hA2.handled (roomF hA2 env) (fun I kf p' => roomL hA2 env I kf p') (fun I kf pF k p' => roomW hA2 env I kf k p' pF) hG hvs hY (hS s'' B'' x1 x2 x3 (hC ▸ (x4 _ (.head _)).1) (hC ▸ (x4 _ (.head _)).2))
/-- a loop over what a generator hands out -/
inductive LpG (D : Wd) (n : Nat) (c : Cx) (x : Str) (body : List Stmt) (fin : Bool) : List Int → St → FV → St → Prop
  | nil {st : St} : fin = true → LpG D n c x body fin [] st .next st
  | next {y : Int} {ys : List Int} {st st1 st2 st3 : St} {f : FV} : Sto D n c st x (.int y) st1 → Sx D n c st1 body .next st2 → LpG D n c x body fin ys st2 f st3 → LpG D n c x body fin (y :: ys) st f st3
  | brk {y : Int} {ys : List Int} {st st1 st2 : St} : Sto D n c st x (.int y) st1 → Sx D n c st1 body .brk st2 → LpG D n c x body fin (y :: ys) st .next st2
end
end Mine

open PySem PySem.W PyProof.Rows PySem.Calls
namespace Mine
section
variable {D : Wd} {n : Nat} {c : Cx} {st st1 st2 : St}
theorem Rep.dropL {env : Env} {B : Heap} {s : Shared} {hs rs : List (Addr × Obj)} {ca p : List Addr} (R : Rep D c env B s.heap (hs ++ rs) ca p st) : ∃ B', Ny s s B B' ∧ Rep D c env B' s.heap rs ca p st := by
  obtain ⟨B', e, w, _, R'⟩ := R.evolve (h' := s.heap) [] (fun b ob _ q => q) (fun q hq => nil_elim hq) (by first | rfl | decide | simp) (fun b hb => nil_elim hb)
  exact ⟨B', ⟨e, w, Nat.le_refl _, rfl, rfl⟩, R'⟩
theorem GExt.size {g g' : Array GenState} (x : GExt g g') : g.size ≤ g'.size := by
  obtain ⟨l, e, _⟩ := x; rw [e]; simp
theorem key45 (X : Std D) : keepIn D.K (.ref 45) = true := by rw [X.K]; decide +kernel
/-- a turn of a loop over a generator -/
theorem LpG.turn {x : Str} {px : Pos} {body : List Stmt} {fin : Bool} {y : Int} {ys : List Int} {f : FV} (h : LpG D n c x body fin (y :: ys) st f st2) {A : Around} {env : Env} {B : Heap} {s : Shared} {rs : List (Addr × Obj)} {ca p : List Addr} {v : Value} {K : Flow → Shared → Prop} {E : Value → Shared → Prop} (hA : Room n A) (R : Rep D c env B s.heap rs ca p st) (hv : VR B p v (.int y))
    (hn : ∀ st' B' p' s', LpG D n c x body fin ys st' f st2 → Nx s s' B B' p p' → Rep D c env B' s'.heap rs ca p' st' → K .next s') (hb : f = .next → ∀ B' p' s', Nx s s' B B' p p' → Rep D c env B' s'.heap rs ca p' st2 → K .brk s') :
    wpAny (model D.prog D.w) A (PySem.assign (.Name x px) env v) (fun _ s4 => wpAny (model D.prog D.w) A (execs body env) K E s4) E s := by
  cases h with
  | next hsto hbody hrest =>
    refine wpAny_assign_Name (hsto A env B s rs ca p _ _ v hA R hv fun s4 n4 R4 => hbody A env B s4 rs ca p _ _ hA R4 fun fl B5 p5 s5 n5 R5 q5 => ?_)
    cases fl with
    | next => exact hn _ B5 p5 s5 hrest (n4.trans n5) R5
    | _ => exact q5.elim
  | brk hsto hbody =>
    refine wpAny_assign_Name (hsto A env B s rs ca p _ _ v hA R hv fun s4 n4 R4 => hbody A env B s4 rs ca p _ _ hA R4 fun fl B5 p5 s5 n5 R5 q5 => ?_)
    cases fl with
    | brk => exact hb rfl B5 p5 s5 (n4.trans n5) R5
    | _ => exact q5.elim
theorem LpG.nil_inv {x : Str} {body : List Stmt} {fin : Bool} {f : FV} (h : LpG D n c x body fin [] st f st2) : fin = true ∧ f = .next ∧ st2 = st := by cases h with | nil h => exact ⟨h, rfl, rfl⟩
inductive GLoop (D : Wd) (n : Nat) (c : Cx) (x : Str) (body : List Stmt) (fin : Bool) (f : FV) (st2 : St) (s : Shared) (B B2 : Heap) (p ca : List Addr) (rs : List (Addr × Obj)) (env : Env) (A : Around) (ga : Addr) (g : Nat) (C : Addr) (all : List Int) (k : Nat) (s' : Shared) : Prop
  | mk (ys : List Int) (hold : List (Addr × Obj)) (B' : Heap) (p' : List Addr) (st' : St) : k = ys.length → LpG D n c x body fin ys st' f st2 → Nx s s' B B' p p' → Rep D c env B' s'.heap (hold ++ rs) ca p' st' → GRun D A g C B2 all fin ys hold s' → Ext B2 B' → B'.IsGen ga g → GLoop D n c x body fin f st2 s B B2 p ca rs env A ga g C all k s'
theorem gen_go {A : Around} {env : Env} {x : Str} {px : Pos} {body : List Stmt} {fin : Bool} {f : FV} {s s3 : Shared} {B B2 : Heap} {p ca : List Addr} {rs : List (Addr × Obj)} {ga C : Addr} {g k : Nat} {all : List Int} {Q : Flow → Shared → Prop} {E : Value → Shared → Prop} (hA : Room n A) (hle : s.gens.size ≤ g) (H : PostF D c env s B rs ca p f st2 Q)
    (h0 : GLoop D n c x body fin f st2 s B B2 p ca rs env A ga g C all k s3) : codeAny (model D.prog D.w) A (.forLoop (.Name x px) (.ref ga) body [] env) (fun r s' => match r with | .ok f => Q f s' | .error e => cameBackBy (model D.prog D.w) A env E e s') s3 := by
  refine codeAny_forLoop (GLoop D n c x body fin f st2 s B B2 p ca rs env A ga g C all) (fun k s4 hk => ?_) k h0
  obtain ⟨ys, hold, B4, p4, st', hk, hL, n4, R4, run4, x4, hgen4⟩ := hk
  have hd : A.depth < recursionLimit := by have := hA.depth; omega
  cases ys with
  | nil =>
    obtain ⟨rfl, rfl, rfl⟩ := hL.nil_inv
    exact gend hA.handled hd R4 hgen4 x4 run4 n4.gens hle fun s5 B5 y5 gx5 R5 => wpAny_execs_nil (H .next B5 p4 s5 (n4.thenY y5 gx5) R5 trivial)
  | cons y ys =>
    refine gnext hA.handled hd R4 hgen4 x4 run4 n4.gens hle fun t s5 B5 hold' y5 gx5 R5 run5 => ?_
    have n5 := n4.thenY y5 gx5
    refine hL.turn hA R5 (.of (.int ..)) (fun st7 B7 p7 s7 hrest n7 R7 => ?_) (fun hf B7 p7 s7 n7 R7 => ?_)
    · refine ⟨ys.length, by rw [hk]; exact Nat.lt_succ_self _, .mk ys hold' B7 p7 st7 rfl hrest (n5.trans n7) R7 (run5.keep ?_) ((x4.trans y5.ext).trans n7.ext) (hgen4.keeps (y5.ext.trans n7.ext))⟩
      obtain ⟨gs, e, _⟩ := run5.run
      exact (n7.gens.get e).trans e.symm
    · subst hf
      obtain ⟨B8, y8, R8⟩ := R7.dropL
      exact H .next B8 p7 s7 ((n5.trans n7).thenY y8 (n5.trans n7).gens) R8 trivial
theorem S1.forGen (X : Std D) {x : Str} {px pos cpos : Pos} {fe arg : Expr} {body : List Stmt} {G ys : List Int} {fin : Bool} {f : FV} (hf : Ex D (n + 1) c st fe (.raw (.ref 45)) st) (ha : Ex D (n + 1) c st arg (vI G) st1) (hY : GY G none ys fin) (hl : LpG D (n + 1) c x body fin ys st1 f st2)
    (hs : ∀ (env : Env) x, foldedSetIterable (.Call fe [arg] [] cpos) env x = pure x := by intros; rfl)
    (hc : ∀ env : Env, eval (.Call fe [arg] [] cpos) env = (do callWith cpos (← eval fe env) [] (backTo cpos (starEach [arg] env)) (backToKw cpos (keywordEach [] env))) := by intros; rfl)
    (he : ∀ env : Env, starEach [arg] env = [(false, eval arg env)] := by intros; rfl) : S1 D (n + 1) c st (.For (.Name x px) (.Call fe [arg] [] cpos) body [] pos) f st2 := fun A env B s rs ca p Q E hA R H => by
  refine wpAny_For (Call_ (hf A env B s rs ca p _ E hA R fun v B1 p1 s1 n1 R1 q1 => ?_) (hc env)) (hs env)
  cases (show VF B1 v (.raw (.ref 45)) from q1)
  refine callWith_K R1.good.k (key45 X) ((Es.one ha he) A env B1 s1 rs ca p1 _ E cpos hA R1 fun vs B2 p2 s2 n2 R2 q2 => ⟨R2.kh, ?_⟩) (he env) rfl
  apply VRs.one q2; intro v q2
  refine gcall X hA hA R2 (show VF B2 v (vI G) from q2.1) hY fun ga g C s3 B3 oC n3 R3 hgen hg0 hlt run => wpAny_pyIter_gen (hgen.keeps R3.ext) ?_
  have n12 := n1.trans n2
  exact gen_go hA (Nat.le_trans n12.gens.size hg0) H (.mk ys [(C, oC)] B3 p2 st1 rfl hl (n12.trans n3) R3 run n3.ext hgen)
end
end Mine

open PySem PySem.W PyProof.Rows PySem.Calls
namespace Mine
def c20 : Cx := { scope := scopeOf 20, ln := ["figures", "grouping", "parts", "size"] }
theorem def20 {D : Wd} (X : Std D) : DefAt D 113 c20 ["figures", "grouping"] (bodyOf 20) :=
  X.defAt 10 9 20 (mod := mLaw) (tok := 575) (code := 112) (dflt := .none) rfl rfl rfl rfl rfl rfl rfl rfl rfl (len_2 fun a b => by kernel_rfl) rfl rfl rfl (by decide +kernel) (by decide +kernel) (by decide +kernel) (by decide +kernel) (by decide +kernel) (by decide +kernel)
def partsL : List Int → List (List Nat) × List Nat → List (List Nat) × List Nat
  | [], q => q
  | y :: r, q => if q.2 = [] ∨ 9 < q.1.length then q else partsL r (q.1 ++ [sl q.2 (some (-y)) none], sl q.2 none (some (-y)))
def partsOut (ys : List Int) (f : List Nat) : List (List Nat) :=
  let q := partsL ys ([], f)
  if q.2 ≠ [] then q.1 ++ [q.2] else q.1
def st20 (G : List Int) (q : List (List Nat) × List Nat) (o : Option V) : St := { loc := [some (vT q.2), some (vI G), some (.own 0), o], own := [q.1.map fun x => vT x] }
def for20 : Stmt := hdS ((bodyOf 20).drop 1)
def body20 : List Stmt := match for20 with | .For _ _ b _ _ => b | _ => []
section
variable {D : Wd} (X : Std D) {n : Nat} {G : List Int} {fin : Bool}
include X
theorem lp20 : ∀ (ys : List Int) (q : List (List Nat) × List Nat) (o : Option V), (fin = true ∨ 11 ≤ q.1.length + ys.length) → q.1.length ≤ 10 → q.2.length ≤ 1000 →
    ∃ o', LpG D n c20 "size" body20 fin ys (st20 G q o) .next (st20 G (partsL ys q) o') ∧ (partsL ys q).1.length ≤ 10 ∧ (partsL ys q).2.length ≤ 1000
  | [], q, o, hf, h10, hz => by
    refine ⟨o, .nil ?_, h10, hz⟩
    rcases hf with h | h
    · exact h
    · simp at h; omega
  | y :: r, (acc, f), o, hf, h10, hz => by
    have hz' := sizeLine_eq
    dsimp only at hf h10 hz
    have tst : Tr D n c20 (st20 G (acc, f) (some (.int y))) (match body20 with | .If t _ _ _ :: _ => t | _ => .Constant .none 0 ⟨0, 0, 0, 0⟩) (decide (f = [] ∨ 9 < acc.length)) (st20 G (acc, f) (some (.int y))) := by
      show Tr D n c20 { loc := [some (vT f), some (vI G), some (.own 0), some (.int y)], own := [acc.map fun x => vT x] } _ _ _
      refine Tr.or2 (a := decide (f = [])) (st1 := st20 G (acc, f) (some (.int y))) (Tr.cmp (Ex.l 0) (Ex.s (l := [])) T2.eqS) (fun h => ?_) (fun h => ⟨decide_eq_true (.inl (of_decide_eq_true h)), rfl⟩)
      have h' : f ≠ [] := of_decide_eq_false h
      show Tr D n c20 { loc := [some (vT f), some (vI G), some (.own 0), some (.int y)], own := [acc.map fun x => vT x] } _ _ _
      refine Tr.cast (Tr.cmp (Ex.callB (Ex.b X 19 0) (Es.one (Ex.l 2)) (Tn.lenO (Ws := acc.map fun x => vT x) rfl (by rw [List.length_map]; omega))) Ex.int T2.gtInt) ?_
      simp [h']
      omega
    by_cases hb : f = [] ∨ 9 < acc.length
    · refine ⟨some (.int y), ?_, ?_⟩
      · rw [show partsL (y :: r) (acc, f) = (acc, f) by unfold partsL; rw [if_pos hb]]
        refine .brk (Sto.l 3) (st2 := st20 G (acc, f) (some (.int y))) ?_
        exact Sx.stop (S1.ite (st1 := st20 G (acc, f) (some (.int y))) tst (fun _ => Sx.stop S1.brk (by intro h; (first | exact none_some h | exact some_none h | (obtain rfl := Option.some.inj h) | cases h))) (fun h => absurd hb (of_decide_eq_false h))) (by intro h; (first | exact none_some h | exact some_none h | (obtain rfl := Option.some.inj h) | cases h))
      · rw [show partsL (y :: r) (acc, f) = (acc, f) by unfold partsL; rw [if_pos hb]]
        exact ⟨h10, hz⟩
    · rw [show partsL (y :: r) (acc, f) = partsL r (acc ++ [sl f (some (-y)) none], sl f none (some (-y))) by rw [partsL, if_neg hb]]
      have hlt : acc.length ≤ 9 := by
        have := fun h => hb (.inr h); omega
      obtain ⟨o', ih, i2⟩ := lp20 r (acc ++ [sl f (some (-y)) none], sl f none (some (-y))) (some (.int y)) (hf.imp id fun h => by simp at h ⊢; omega) (by simp; omega) (Nat.le_trans (sl_len ..) hz)
      refine ⟨o', .next (Sto.l 3) (st2 := st20 G (acc ++ [sl f (some (-y)) none], sl f none (some (-y))) (some (.int y))) ?_ ih, i2⟩
      refine Sx.cons (st1 := st20 G (acc, f) (some (.int y))) (S1.ite (st1 := st20 G (acc, f) (some (.int y))) tst (fun h => absurd (of_decide_eq_true h) hb) (fun _ => Sx.nil)) ?_
      show Sx D n c20 { loc := [some (vT f), some (vI G), some (.own 0), some (.int y)], own := [acc.map fun x => vT x] } _ _ _
      rw [show st20 G (acc ++ [sl f (some (-y)) none], sl f none (some (-y))) (some (.int y)) = { loc := [some (vT (sl f none (some (-y)))), some (vI G), some (.own 0), some (.int y)], own := [(acc.map fun x => vT x) ++ [vT (sl f (some (-y)) none)]] } by simp [st20]]
      refine Sx.cons (S1.expr (Ex.meth (Ex.l 2) (Gm.append (Ws := acc.map fun x => vT x) rfl) (Es.one (Ex.sliceS (Ex.l 0) (.some (Ex.un (Ex.l 3) T1.negInt)) .none (by omega))) (Tn.append (W := vT (sl f (some (-y)) none)) rfl rfl (by rw [List.length_map]; omega)))) ?_
      exact Sx.cons (S1.assign (Ex.sliceS (Ex.l 0) .none (.some (Ex.un (Ex.l 3) T1.negInt)) (by omega)) (Sto.l 0)) Sx.nil
theorem spec20 {ys : List Int} (f : List Nat) (hY : GY G none ys fin) (hf : fin = true ∨ 11 ≤ ys.length) (hz : f.length ≤ 1000) : CallSpec D (n + 2) (.ref 113) [vT f, vI G] (vTs (partsOut ys f)) := by
  have hz' := sizeLine_eq
  obtain ⟨o', l1, q1, q2⟩ := lp20 X (n := n + 1) (G := G) ys ([], f) none (hf.imp id fun h => by simpa using h) (by first | rfl | decide | simp) hz
  unfold partsOut
  generalize partsL ys ([], f) = q at l1 q1 q2
  obtain ⟨acc, f'⟩ := q
  dsimp only at q1 q2 ⊢
  have pre : ∀ {fl : FV} {st' : St}, Sx D (n + 1) c20 (st20 G (acc, f') o') ((bodyOf 20).drop 2) fl st' → Sx D (n + 1) c20 (St0 c20 ["figures", "grouping"] [vT f, vI G]) (bodyOf 20) fl st' := fun h => by
    show Sx D (n + 1) c20 { loc := [some (vT f), some (vI G), none, none] } (bodyOf 20) _ _
    refine Sx.cons (S1.assign (Ex.listOwn Es.nil rfl (by first | rfl | decide | simp) rfl) (Sto.l 2)) ?_
    exact Sx.cons (S1.forGen X (Ex.g X 1) (Ex.l 1) hY l1) h
  by_cases he : f' = []
  · subst he
    rw [if_neg (by first | rfl | decide | simp)]
    refine CallSpec.of (def20 X) rfl (st := st20 G (acc, []) o') (W := .own 0) (pre ?_) (.own rfl)
    show Sx D (n + 1) c20 { loc := [some (vT []), some (vI G), some (.own 0), o'], own := [acc.map fun x => vT x] } _ _ _
    exact Sx.stop (S1.ret (Ex.ite (b := false) (st1 := { loc := [some (vT []), some (vI G), some (.own 0), o'], own := [acc.map fun x => vT x] }) (Tr.cast (Tr.cmp (Ex.l 0) (Ex.s (l := [])) T2.neS) (by first | rfl | decide | simp)) (by first | exact fun h => ft_elim h | exact fun h => nil_elim h | exact fun h => nomatch h) (fun _ => Ex.l 2))) (by intro h; (first | exact none_some h | exact some_none h | (obtain rfl := Option.some.inj h) | cases h))
  · rw [if_pos he]
    refine CallSpec.of (def20 X) rfl (st := st20 G (acc, f') o') (W := vTs (acc ++ [f'])) (pre ?_) (.fz rfl)
    show Sx D (n + 1) c20 { loc := [some (vT f'), some (vI G), some (.own 0), o'], own := [acc.map fun x => vT x] } _ _ _
    exact Sx.stop (S1.ret (Ex.ite (b := true) (st1 := { loc := [some (vT f'), some (vI G), some (.own 0), o'], own := [acc.map fun x => vT x] }) (Tr.cast (Tr.cmp (Ex.l 0) (Ex.s (l := [])) T2.neS) (by simpa using he)) (fun _ => Ex.bin (Ex.l 2) (Ex.list (Es.one (Ex.l 0)) rfl (by first | decide | (rw [hz']; simp))) (T2.addL rfl rfl (by rw [List.length_map]; simp; lia) (by first | rfl | decide | simp))) (by first | exact fun h => ft_elim h | exact fun h => nil_elim h | exact fun h => nomatch h))) (by intro h; (first | exact none_some h | exact some_none h | (obtain rfl := Option.some.inj h) | cases h))
end
end Mine

open PySem PySem.W PyProof.Rows PySem.Calls
namespace Mine
section
variable {prog : Program} {w : World} {A : Around} {E : Value → Shared → Prop} {s : Shared}
theorem call_iter_list {a : Addr} {items : Array Value} {Q : Value → Shared → Prop} (hl : s.heap.IsList a items) (h : Q (.ref s.heap.objs.size) { s with heap := s.heap.push { cls := .type "list_iterator", data := .fields #[.ref a, .int 0 0] } }) : wpAny (model prog w) A (call (.builtin "iter") [.ref a]) Q E s := by
  refine call_function_entry (by decide +kernel) (by decide +kernel) kdk_entry_iter (kdk_args_iter _) ?_
  unfold Builtin.«iter»
  refine wpAny_bind (m := someArgs "iter" 1 2 _) (wpAny_of_eq (a := [Value.ref a]) (by first | rfl | kernel_rfl!) ?_)
  show wpAny _ _ (pyIter (.ref a) >>= _) _ _ _
  exact wpAny_bind (wpAny_pyIter_list hl (wpAny_pure ⟨_, rfl, h⟩))
theorem call_next_list {it l : Addr} {i : Nat} {items : Array Value} {x : Value} {Q : Value → Shared → Prop} (hit : s.heap.IsListIter it l i) (hl : s.heap.IsList l items) (hx : items[i]? = some x)
    (hQ : ∀ h', h'.IsListIter it l (i + 1) → Heap.SameBut it s.heap h' → Q x { s with heap := h' }) : wpAny (model prog w) A (call (.builtin "next") [.ref it]) Q E s := by
  refine call_function_entry (by decide +kernel) (by decide +kernel) kdk_entry_next (kdk_args_next _) ?_
  unfold Builtin.«next»
  refine wpAny_bind (m := someArgs "next" 1 2 _) (wpAny_of_eq (a := [Value.ref it]) (by first | rfl | kernel_rfl!) ?_)
  dsimp only
  refine wpAny_bind (wpAny_specialOf (name := Str.ofString "__next__") hit.typeIs slot_listiter_next.lookup ?_)
  refine wpAny_ite_split (fun hab => absurd hab (by decide)) (fun _ => ?_)
  obtain ⟨o, ho, hc, hd⟩ := id hit
  obtain ⟨ol, hol, _, nl, hdl⟩ := hl
  refine wpAny_bind (wpAny_callSpecial?_slot (name := Str.ofString "__next__") hit.typeIs slot_listiter_next (wpAny_call_entry slot_listiter_next hit.typeIs entry_listiter_next ?_ (args_listiter_next _)))
  show wpAny _ _ (field (.ref it) 0 >>= _) _ _ s
  refine wpAny_bind (wpAny_field ho hd (x := .ref l) rfl ?_)
  show wpAny _ _ (if (Value.ref l == Value.none) = true then _ else _) _ _ s
  rw [if_neg (show ¬ ((Value.ref l == Value.none) = true) from Bool.false_ne_true)]
  show wpAny _ _ (field (.ref it) 1 >>= _) _ _ s
  refine wpAny_bind (wpAny_field ho hd (x := .int i 0) rfl ?_)
  show wpAny _ _ (seqItems? (.ref l) >>= _) _ _ s
  refine wpAny_bind (wpAny_seqItems hol hdl ?_)
  simp only [Int.toNat_natCast, hx]
  refine wpAny_bind (wpAny_setField ho hd (by first | rfl | decide | simp) (wpAny_pure ⟨x, rfl, wpAny_pure ⟨_, rfl, hQ _ ?_ (Heap.SameBut.update ..)⟩⟩))
  exact ⟨_, Heap.get?_update_self _ ho (Obj.isFreed_of_fields (Obj.data_mapFields hd _)), (Obj.cls_mapFields ..).trans hc, by
    rw [Obj.data_mapFields hd]; simp [rawInt]⟩
end
def c18 : Cx := { scope := scopeOf 18, ln := ["function", "sequence", "initial", "it", "value", "element"] }
def fd18 : FuncData := fdO 18 mFt 551 105 (.ref 99)
theorem binds18 {s : Shared} (h : s.heap.get? 99 = some ⟨.type "tuple", none, .seq #[.ref 98] 0, #[]⟩) (a b : Value) : BindsTo s fd18 ⟨[a, b], []⟩ [("function", a), ("sequence", b), ("initial", .ref 98)] := by
  exact BindsTo.of_defaults rfl h rfl rfl rfl
theorem Walks.shift {prog : Program} {w : World} {A : Around} {I : Addr} {fp wr : List Addr} {n : Nat} {P : Nat → Value → Prop} {St : Nat → Heap → Prop} (W : Walks prog w A I fp wr (n + 1) P St) : Walks prog w A I fp wr n (fun i v => P (i + 1) v) (fun i h => St (i + 1) h) where
  sub := W.sub
  frame := fun i => W.frame (i + 1)
  item := fun i s Q E hi st hQ => W.item (i + 1) s Q E (by lia) st hQ
  done := W.done
  self := fun i => W.self (i + 1)
def redF (told part : List Nat) : List Nat := part ++ [44] ++ told
def redL : List (List Nat) → List Nat
  | [] => []
  | x :: r => r.foldl redF x
/-- what reduce stands on -/
structure At18 (D : Wd) : Prop where
  ob : D.K.lookup 106 = some (fnO 18 mFt 551 105 (.ref 99))
  df : D.K.lookup 99 = some ⟨.type "tuple", none, .seq #[.ref 98] 0, #[]⟩
  cd : ((105 : Addr), ("reduce" : Str)) ∈ D.codes
  gl : ∀ p ∈ glob0, D.mg p.1 = p.2
  bl : ∀ p ∈ blt0, D.mb p.1 = p.2
theorem def18 {D : Wd} (X : At18 D) : DefAtD D 106 c18 ["function", "sequence", "initial"] [.ref 98] (.st (bodyOf 18)) where
  ex := ⟨_, fd18, X.ob, rfl, ⟨105, rfl, X.cd⟩, rfl, rfl, rfl, rfl, rfl, fun A Q E s vals hK hl q => by
    revert q; apply len_2 _ vals (Nat.succ.inj hl); intro a b q
    exact binds18 (hK _ _ X.df) a b _ A E Q q, rfl, rfl, rfl⟩
  kinds := by decide +kernel
  pnd := by decide +kernel
  lnd := by decide +kernel
  cnd := by decide +kernel
  ln := by decide +kernel
  cn := by decide +kernel
def st18 (L I : Addr) (parts : List (List Nat)) (v e : Option V) : St := { loc := [some (.raw (.ref L)), some (vTs parts), some (.raw (.ref 98)), some (.raw (.ref I)), v, e] }
def for18 : Stmt := hdS ((bodyOf 18).drop 2)
def body18 : List Stmt := match for18 with | .For _ _ b _ _ => b | _ => []
theorem own_nil {D : Wd} {c : Cx} {env : Env} {B h : Heap} {rs : List (Addr × Obj)} {ca p : List Addr} {st : St} (R : Rep D c env B h rs ca p st) (h : st.own = []) : p = [] := List.eq_nil_of_length_eq_zero (by rw [← R.own.1, h]; rfl)
theorem iter_stays {h h' : Heap} {I a : Addr} {i : Nat} {ob : Obj} (hit : h.IsListIter I a i) (e : h.get? I = some ob) (e' : h'.get? I = some ob) : h'.IsListIter I a i := by
  obtain ⟨o, h1, h2⟩ := hit
  rw [e] at h1; (first | exact none_some h1 | exact some_none h1 | (obtain rfl := Option.some.inj h1) | cases h1)
  exact ⟨_, e', h2⟩
section
variable {D : Wd} {n : Nat} {L : Addr} (hF : ∀ a b : List Nat, a.length ≤ 10000 → b.length ≤ 10000 → CallSpec D n (.ref L) [vT a, vT b] (vT (redF a b))) (hk : keepIn D.K (.ref L) = true)
include hF hk
theorem lp18 (I : Addr) (parts : List (List Nat)) : ∀ (r : List (List Nat)) (acc : List Nat) (e : Option V), (∀ x ∈ r, x.length ≤ 100) → acc.length + 101 * r.length ≤ 9000 →
    ∃ e', Lp D n c18 "element" body18 (r.map fun x => vT x) (st18 L I parts (some (vT acc)) e) .next (st18 L I parts (some (vT (r.foldl redF acc))) e')
  | [], acc, e, _, _ => ⟨e, .nil⟩
  | x :: r, acc, e, hr, hz => by
    have hx := hr x List.mem_cons_self
    rw [List.length_cons] at hz
    obtain ⟨e', ih⟩ := lp18 I parts r (redF acc x) (some (vT x)) (fun y hy => hr y (List.mem_cons_of_mem _ hy)) (by unfold redF; simp; lia)
    refine ⟨e', Lp.next (Sto.l 5) (st2 := st18 L I parts (some (vT (redF acc x))) (some (vT x))) ?_ ih⟩
    show Sx D n c18 { loc := [some (.raw (.ref L)), some (vTs parts), some (.raw (.ref 98)), some (.raw (.ref I)), some (vT acc), some (vT x)] } _ _ _
    exact Sx.cons (S1.assign (Ex.callK (Ex.l 0) (Es.two (Ex.l 4) (Ex.l 5)) ((hF acc x (by lia) (by lia)).tn rfl) hk) (Sto.l 4)) Sx.nil
section
omit hF hk
variable {A : Around} {env : Env} {B : Heap} {s : Shared} {rs : List (Addr × Obj)} {ca : List Addr} {Q : Flow → Shared → Prop} {E : Value → Shared → Prop} {parts : List (List Nat)}
/-- it = iter(sequence) -/
theorem iter18 (X : At18 D) (hA : Room n A) (R : Rep D c18 env B s.heap rs ca [] { loc := [some (.raw (.ref L)), some (vTs parts), some (.raw (.ref 98)), none, none, none] })
    (H : ∀ I ob a vs B' s', Nx s s' B B' [] [] → LstAt B' a vs → VFs B' vs (parts.map fun x => vT x) → s'.heap.IsListIter I a 0 → Rep D c18 env B' s'.heap ((I, ob) :: rs) ca [] (st18 L I parts none none) → Q .next s') : wpAny (model D.prog D.w) A (exec (hdS (bodyOf 18)) env) Q E s := by
  refine wpAny_Assign_Name (Call_ ((Ex.blt (D := D) (n := n) (c := c18) (X.gl _ (List.mem_of_getElem? (i := 28) rfl)) (X.bl _ (List.mem_of_getElem? (i := 9) rfl)) (by rfl) (by rfl)) A env B s rs ca [] _ E hA R fun v B1 p1 s1 n1 R1 q1 => ?_) (by rfl)) (by rfl)
  cases (show VF B1 v (.raw (.builtin "iter")) from q1)
  refine PyProof.Rows.callWith_builtin1 ((Es.one (D := D) (n := n) (c := c18) (Ex.l 1) (by intros; rfl)) A env B1 s1 rs ca p1 _ E _ hA R1 fun vs B2 p2 s2 n2 R2 q2 => ?_) (by rfl) (by rfl)
  apply VRs.one q2; intro v q2
  cases (show VF B2 v (vTs parts) from q2.1) with | list hG hvs => ?_
  rename_i a vs
  cases own_nil R2 rfl
  refine call_iter_list (isList_ext R2.ext hG).is ?_
  generalize hob : ({ cls := .type "list_iterator", data := .fields #[.ref a, .int 0 0] } : Obj) = ob
  have hobf : ob.isFreed = false := by rw [← hob]; rfl
  obtain ⟨B3, e3, w3, _, R3⟩ := Rep.evolve (hs := []) (rs := rs) (h' := s2.heap.push ob) R2 [(s2.heap.objs.size, ob)] (fun b o _ q => Heap.get?_push_of_some _ q) (fun q hq => by rw [List.mem_singleton.mp hq]; exact Heap.get?_push_size _ hobf) (by first | rfl | decide | simp) (fun b hb => .inr (Nat.le_of_eq (List.mem_singleton.mp hb).symm))
  refine (Sto.l (D := D) (n := n) (c := c18) (W := .raw (.ref s2.heap.objs.size)) 3) A env B3 { s2 with heap := s2.heap.push ob } _ ca [] _ E (.ref s2.heap.objs.size) hA R3 (VR.of (.raw _)) fun s4 n4 R4 => ?_
  exact H _ ob a vs B3 s4 (((n1.trans n2).trans (⟨e3, w3, post_size, .refl _, rfl, rfl, .refl _, fun _ h => .inl h⟩ : Nx s2 { s2 with heap := s2.heap.push ob } B2 B3 [] [])).trans n4) (isList_ext e3 hG) (hvs.ext e3) ⟨ob, R4.held _ (.head _), by rw [← hob], by rw [← hob]; rfl⟩ R4
/-- if initial is _initial_missing: value = next(it) -/
theorem next18 (X : At18 D) (hA : Room n A) {I a : Addr} {ob : Obj} {vs : List Value} {x : List Nat} (R : Rep D c18 env B s.heap ((I, ob) :: rs) ca [] (st18 L I parts none none)) (hit : s.heap.IsListIter I a 0) (hG : LstAt B a vs) (hvs : VFs B vs (parts.map fun x => vT x)) (hx : parts[0]? = some x)
    (H : ∀ o8 B' s', Nx s s' B B' [] [] → s'.heap.IsListIter I a 1 → Rep D c18 env B' s'.heap ((I, o8) :: rs) ca [] (st18 L I parts (some (vT x)) none) → Q .next s') : wpAny (model D.prog D.w) A (exec (hdS ((bodyOf 18).drop 1)) env) Q E s := by
  obtain ⟨v0, hv0, qv0⟩ := hvs.get (i := 0) (x := vT x) (by rw [List.getElem?_map, hx]; rfl)
  refine wpAny_If ((Tr.cmp (Ex.l 2) (Ex.glob (X.gl _ (List.mem_of_getElem? (i := 17) rfl)) (by rfl) (by rfl)) T2.isSelf : Tr D n c18 (st18 L I parts none none) _ true _) A env B s _ ca [] _ E hA R fun B5 p5 s5 n5 R5 => ?_)
  cases own_nil R5 rfl
  rw [if_pos rfl]
  refine wpAny_execs_cons (wpAny_Try_except ?_)
  refine wpAny_execs_cons (wpAny_Assign_Name (Call_ ((Ex.blt (D := D) (n := n) (c := c18) (X.gl _ (List.mem_of_getElem? (i := 29) rfl)) (X.bl _ (List.mem_of_getElem? (i := 10) rfl)) (by rfl) (by rfl)) A env B5 s5 _ ca [] _ _ hA R5 fun v B6 p6 s6 n6 R6 q6 => ?_) (by rfl)) (by rfl))
  cases (show VF B6 v (.raw (.builtin "next")) from q6)
  refine PyProof.Rows.callWith_builtin1 ((Es.one (D := D) (n := n) (c := c18) (W := .raw (.ref I)) (Ex.l 3) (by intros; rfl)) A env B6 s6 _ ca p6 _ _ _ hA R6 fun vs7 B7 p7 s7 n7 R7 q7 => ?_) (by rfl) (by rfl)
  apply VRs.one q7; intro v7 q7
  cases (show VF B7 v7 (.raw (.ref I)) from q7.1)
  cases own_nil R7 rfl
  have n57 := (n5.trans n6).trans n7
  refine call_next_list (iter_stays hit (R.held _ (.head _)) (R7.held _ (.head _))) (isList_ext R7.ext (isList_ext n57.ext hG)).is (x := v0) (by simpa using hv0) fun h8 hit8 hs8 => ?_
  obtain ⟨o8, ho8, h82⟩ := hit8
  obtain ⟨B8, e8, w8, _, R8⟩ := R7.move (h' := h8) (fun b o hb q => (hs8.2 b hb).trans q) ho8
  refine (Sto.l (D := D) (n := n) (c := c18) (W := vT x) 4) A env B8 { s7 with heap := h8 } _ ca [] _ _ v0 hA R8 (.of (qv0.ext (n57.ext.trans e8))) fun s9 n9 R9 => ?_
  exact wpAny_execs_nil (wpAny_execs_nil (wpAny_execs_nil (H o8 B8 s9 ((n57.trans (⟨e8, w8, Nat.le_of_eq hs8.1.symm, .refl _, rfl, rfl, .refl _, fun _ h => .inl h⟩ : Nx s7 { s7 with heap := h8 } B7 B8 [] [])).trans n9) ⟨o8, R9.held _ (.head _), h82⟩ R9)))
end
theorem spec18 (X : At18 D) (x : List Nat) (r : List (List Nat)) (hz : ∀ y ∈ x :: r, y.length ≤ 100) (hr : r.length ≤ 60) : CallSpec D (n + 1) (.ref 106) [.raw (.ref L), vTs (x :: r)] (vT (redL (x :: r))) := by
  refine .ofT (.of (def18 X) rfl fun A env B h0 s rs ca Q E hA R _ _ H => ?_)
  have hl' : ∀ I, ∃ e', Lp D n c18 "element" body18 (r.map fun x => vT x) (st18 L I (x :: r) (some (vT x)) none) .next (st18 L I (x :: r) (some (vT (r.foldl redF x))) e') := fun I => lp18 (n := n) hF hk I (x :: r) r x none (fun y hy => hz y (List.mem_cons_of_mem _ hy)) (by have := hz x List.mem_cons_self; omega)
  show wpAny _ A (execs [hdS (bodyOf 18), hdS ((bodyOf 18).drop 1), for18, hdS ((bodyOf 18).drop 3)] env) Q E s
  refine wpAny_execs_cons (iter18 X hA R fun I ob a vs B4 s4 n4 hG4 hvs4 hit4 R4 => ?_)
  obtain ⟨e', hl⟩ := hl' I
  refine wpAny_execs_cons (next18 X hA R4 hit4 hG4 hvs4 rfl fun o8 B9 s9 n9 hit9 R9 => ?_)
  refine wpAny_execs_cons (wpAny_For (iter := match for18 with | .For _ i _ _ _ => i | _ => .Constant .none 0 ⟨0, 0, 0, 0⟩) ((Ex.l (D := D) (n := n) (c := c18) (st := st18 L I (x :: r) (some (vT x)) none) (W := .raw (.ref I)) 3) A env B9 s9 _ ca [] _ _ hA R9 fun v10 B10 p10 s10 n10 R10 q10 => ?_) (by intro; rfl))
  cases (show VF B10 v10 (.raw (.ref I)) from q10)
  cases own_nil R10 rfl
  have hit10 := iter_stays hit9 (R9.held _ (.head _)) (R10.held _ (.head _))
  have n10' := (n4.trans n9).trans n10
  have x10 := n9.ext.trans n10.ext
  have hG10 := isList_ext x10 hG4
  have hvs10 := hvs4.ext x10
  have hne : a ≠ I := fun z => by
    obtain ⟨_, h⟩ := hG10
    rw [z, R10.off I (held_in (.head _))] at h; (first | exact none_some h | exact some_none h | (obtain rfl := Option.some.inj h) | cases h)
  refine wpAny_pyIter_listiter hit10 ?_
  have W : Walks D.prog D.w A I [I, a] [I] (r.map fun x => vT x).length (fun i v => ∃ W, (r.map fun x => vT x)[i]? = some W ∧ VF B10 v W) (fun i h => h.IsListIter I a (i + 1) ∧ h.IsList a vs.toArray) := by
    rw [List.length_map]
    refine Mine.Walks.shift (walks_weak (Walks.list hA.handled I a hne vs.toArray) (m := r.length + 1) (P' := fun i v => ∃ W, ((x :: r).map fun x => vT x)[i]? = some W ∧ VF B10 v W) (by rw [List.size_toArray, hvs10.length]; simp) fun i v hlt hv => ?_)
    have hv' : vs[i]? = some v := by simpa using hv
    have hlt : i < ((x :: r).map fun x => vT x).length := by rw [← hvs10.length]; exact (List.getElem?_eq_some_iff.mp hv').1
    obtain ⟨u, hu, q⟩ := hvs10.get (List.getElem?_eq_getElem hlt)
    rw [hv'] at hu; (first | exact none_some hu | exact some_none hu | (obtain rfl := Option.some.inj hu) | cases hu)
    exact ⟨_, List.getElem?_eq_getElem hlt, q⟩
  refine for_go hA W (fun i h hst => hst.1.imp fun o h => h.1) (fun b hb hbI => ?_) ⟨hit10, (isList_ext R10.ext hG10).is⟩ R10 hl fun fl B11 p11 s11 n11 R11 q11 => ?_
  · rcases List.mem_cons.mp hb with rfl | hb
    · exact absurd rfl hbI
    · rw [List.mem_singleton] at hb; subst hb; exact ⟨_, hG10.choose_spec⟩
  cases fl with
  | next =>
    refine (Sx.stop (S1.ret (Ex.l 4)) (by intro h; (first | exact none_some h | exact some_none h | (obtain rfl := Option.some.inj h) | cases h)) : Sx D n c18 (st18 L I (x :: r) (some (vT (r.foldl redF x))) e') [hdS ((bodyOf 18).drop 3)] (.ret (vT (redL (x :: r)))) _) A env B11 s11 rs ca p11 Q E hA R11 fun fl B13 p13 s13 n13 R13 q13 => ?_
    cases fl with
    | ret v => exact H _ _ v B13 p13 s13 rs (.fz rfl) ((n10'.trans n11).trans n13) R13 (fun _ h _ => h) q13
    | _ => exact q13.elim
  | _ => exact q11.elim
end
end Mine

open PySem PySem.W PyProof.Rows PySem.Calls
namespace Mine
section
variable {D : Wd} {n : Nat} {c : Cx} {st st1 : St}
/-- an element that may change what else is held -/
def ElT (D : Wd) (n : Nat) (c : Cx) (scope : Scope) (x : Str) (st1 : St) (code : Value) (qual : Str) (J : List (Addr × Obj) → Heap → Prop) (elt : Expr) (W U : V) : Prop :=
  ∀ (A : Around) (env : Env) (B : Heap) (s : Shared) (F rs : List (Addr × Obj)) (ca p : List Addr) (Q : Value → Shared → Prop) (E : Value → Shared → Prop), Room n A → env.code = code → env.qual = qual → J rs B →
    Rep D (cxC c scope x) env B s.heap (F ++ rs) ca p (stC st1 (some W)) →
    (∀ v B' p' s' rs', J rs' B' → Nx s s' B B' p p' → Rep D (cxC c scope x) env B' s'.heap (F ++ rs') ca p' (stC st1 (some W)) → VR B' p' v U → Q v s') → wpAny (model D.prog D.w) A (eval elt env) Q E s
theorem compT {elt iter : Expr} {x : Str} {px pos : Pos} {scope : Scope} {items Us : List V} {J : List (Addr × Obj) → Heap → Prop} (hJ : ∀ rs B B', Ext B B' → J rs B → J rs B')
    (hi : Ie D n c st iter items st1) (hok : CompOK c scope x) (hz : Us.length ≤ sizeLine) (hs : ∀ (env : Env) x, foldedSetIterable iter env x = pure x) {A : Around} {env : Env} {B : Heap} {s : Shared} {rs : List (Addr × Obj)} {ca p : List Addr} {Q : Value → Shared → Prop} {E : Value → Shared → Prop}
    (hel : ∀ (i : Nat) (W : V), items[i]? = some W → ∃ U : V, Us[i]? = some U ∧ U.isMut = false ∧ ElT D n c scope x st1 env.code env.qual J elt W U) (hlen : Us.length = items.length)
    (hA : Room n A) (hJ0 : J rs B) (R : Rep D c env B s.heap rs ca p st)
    (H : ∀ v B' p' s' rs', J rs' B' → Nx s s' B B' p p' → Rep D c env B' s'.heap rs' ca p' st1 → VR B' p' v (.list Us) → Q v s') :
    wpAny (model D.prog D.w) A (eval (.ListComp elt [⟨.Name x px, iter, [], 0⟩] scope pos) env) Q E s := by
  refine compG (Iv := fun i U rs B => U = Us.take i ∧ J rs B) (fun i U rs B B' x h => ⟨h.1, hJ _ _ _ x h.2⟩) (fun i U rs B h => by rw [h.1, List.length_take]; omega) hi hok hs (fun i W hW A' env' B2 s2 F rs2 ca2 p2 v U1 ov Qe Qn E2 hA2 hc hq hI R2 qv Kn Ke => ?_) ⟨rfl, hJ0⟩ hA R fun v B' p' s' rs' U hI n' R' qv => ?_
  · obtain ⟨rfl, hJ2⟩ := hI
    obtain ⟨U, hU, hm, hE⟩ := hel i W hW
    exact wpAny_assign_Name (sto_comp hok ov W A' env' B2 s2 _ ca2 p2 _ _ v hA2 R2 qv fun s4 n4 R4 => wpAny_tests_nil (hE A' env' B2 s4 F rs2 ca2 p2 _ _ hA2 hc hq hJ2 R4 fun u B5 p5 s5 rs5 hJ5 n5 R5 q5 => Ke B5 p5 s5 rs5 u U (n4.trans n5) R5 hm q5 ⟨by rw [List.take_add_one, hU]; rfl, hJ5⟩))
  · obtain ⟨rfl, hJ2⟩ := hI
    rw [List.take_of_length_le (Nat.le_of_eq hlen)] at qv
    exact H v B' p' s' rs' hJ2 n' R' qv
end
end Mine

open PySem PySem.W PyProof.Rows PySem.Calls
namespace Mine
def qLam : Str := "law.<locals>.<lambda>"
def pmLaw : Value := .str mLaw 575
section
variable {D : Wd} {n : Nat} {c : Cx} {st st1 : St} {A : Around} {env : Env} {B : Heap} {s : Shared} {F rs : List (Addr × Obj)} {ca p : List Addr} {Q : Value → Shared → Prop} {E : Value → Shared → Prop}
theorem hd158 (X : Std D) (G : Good D B) : CodeHd B 158 156 :=
  ⟨_, _, _, _, _, _, _, _, _, G.k 158 _ (by rw [X.K]; rfl), rfl, rfl, rfl, rfl, rfl, rfl, rfl, rfl, by decide⟩
theorem codeHd_ext {h h' : Heap} {c P : Addr} (x : CodeHd h c P) (k : Ext h h') : CodeHd h' c P := by
  obtain ⟨o, vs, file, tf, flags, tg, inF, text, tt, e, r⟩ := x
  exact ⟨o, vs, file, tf, flags, tg, inF, text, tt, k _ _ e, r⟩
theorem bltAt (X : Std D) (R : Rep D c env B s.heap rs ca p st) (P : Addr) (hP : (4 : Addr) ≠ P) : s.heap.BuiltinsAt D.mg P :=
  ⟨4, _, X.glob ("__builtins__", some (.ref 4)) (List.mem_of_getElem? (i := 33) rfl), by decide, by decide, hP, R.ext _ _ (R.good.k 4 _ (by rw [X.K]; rfl)), rfl, rfl, rfl⟩
/-- a lambda of the law's is made -/
theorem lam_make (X : Std D) {ps : Array Value} (R : Rep D c env B s.heap (F ++ (156, tabObj ps) :: rs) ca p st) (hcode : env.code = .ref 158) (ht : TriplesOk ps.toList) {params : Arguments} {body : Expr} {scope : Scope} {pos : Pos} (hdef : defaultsOf params env = ([], []))
    (hcl : closureFor scope env = pure []) (hq : env.qual ++ "<lambda>" = qLam) (hc : codeAmong pos ps.toList = none ∨ ∃ c', codeAmong pos ps.toList = some (.ref c') ∧ B.CodeRec (.ref c') qLam)
    (H : ∀ L c' ctv B' s' ps', s.heap.objs.size ≤ L → ((codeAmong pos ps.toList = some (.ref c') ∧ ps' = ps) ∨ (codeAmong pos ps.toList = none ∧ ps' = ps ++ #[rawInt pos.line, rawInt pos.col, .ref c'])) → codeAmong pos ps'.toList = some (.ref c') → B'.CodeRec (.ref c') qLam → Nx s s' B B' p p → Rep D c env B' s'.heap (F ++ (156, tabObj ps') :: rs) ca p st →
      B'.get? L = some (kla_obj "<lambda>" qLam params body scope [] pmLaw c' ctv) → Q (.ref L) s') : wpAny (model D.prog D.w) A (eval (.Lambda params body scope pos) env) Q E s := by
  refine kla_eval hdef ?_
  rw [hq]
  have hpm : (D.mg "__name__").getD .none = pmLaw := by rw [X.glob ("__name__", some (.str "law_in0118_01" 575)) (List.mem_of_getElem? (i := 34) rfl)]; rfl
  have Rp := R.perm (rs' := [(156, tabObj ps)] ++ (F ++ rs)) List.perm_middle
  have hP : s.heap.get? 156 = some (tabObj ps) := Rp.held _ (.head _)
  have hC : CodeHd s.heap 158 156 := codeHd_ext (hd158 X R.good) R.ext
  have hg : s.heap.Ns mainGlobals D.mg := R.good.g.keeps R.ext
  have back : ∀ {B' : Heap} {h : Heap} {ps' : Array Value}, Rep D c env B' h ([(156, tabObj ps')] ++ (F ++ rs)) ca p st → Rep D c env B' h (F ++ (156, tabObj ps') :: rs) ca p st := fun {B' h ps'} r => r.perm (show (((156, tabObj ps') : Addr × Obj) :: (F ++ rs)).Perm _ from List.perm_middle.symm)
  rcases hc with hn | ⟨c', hh, hrec⟩
  · refine kla_makeFunction (mg := D.mg) hcl R.globals hg hcode hC hP ht hn (by decide) (bltAt X R 156 (by decide)) fun c' ctv h' tk hx hge hlt hrec htb => ?_
    rw [hpm]
    generalize hfo : kla_obj "<lambda>" qLam params body scope [] pmLaw c' ctv = fo
    have hff : fo.isFreed = false := by rw [← hfo]; rfl
    obtain ⟨B', e1, w1, g1, R'⟩ := Rep.evolve (hs := [(156, tabObj ps)]) (rs := F ++ rs) (h' := h'.push fo) Rp [(156, tabObj (ps ++ #[rawInt pos.line, rawInt pos.col, .ref c']))] (fun b o hb e => Heap.get?_push_of_some _ (hx b o (fun z => hb (by rw [z]; exact .head _)) e)) (fun q hq => by rw [List.mem_singleton.mp hq]; exact Heap.get?_push_of_some _ htb) (by first | rfl | decide | simp) (fun b hb => .inl hb)
    have hsz : s.heap.objs.size ≤ h'.objs.size := Nat.le_trans hge (Nat.le_of_lt hlt)
    have hne : ∀ a : Addr, s.heap.objs.size ≤ a → a ∉ ([(156, tabObj (ps ++ #[rawInt pos.line, rawInt pos.col, .ref c']))] : List (Addr × Obj)).map (·.1) := fun a ha hm => by
      have e : a = 156 := List.mem_singleton.mp hm
      rw [e] at ha
      exact absurd (Heap.lt_size hP) (Nat.not_lt.mpr ha)
    have hL : B'.get? h'.objs.size = some fo := g1 _ _ hsz (hne _ hsz) (Heap.get?_push_size _ hff)
    refine H h'.objs.size c' ctv B' _ _ hsz (.inr ⟨hn, rfl⟩) (by rw [Array.toList_append]; exact codeAmong_snoc _ ht hn) ?_ ⟨e1, w1, by show _ ≤ (h'.push fo).objs.size; rw [Heap.size_push]; lia, .refl _, rfl, rfl, .refl _, fun _ h => .inl h⟩ (back R') (by rw [hfo]; exact hL)
    obtain ⟨cc, oc, vs, t, ec, eo, r⟩ := hrec
    (first | exact none_some ec | exact some_none ec | (obtain rfl := Option.some.inj ec) | cases ec)
    exact ⟨_, oc, vs, t, rfl, g1 _ _ hge (hne _ hge) (Heap.get?_push_of_some _ eo), r⟩
  · refine kla_makeFunctionHit (mg := D.mg) hcl R.globals hg hcode hC hP ht hh (bltAt X R 156 (by decide)) fun ctv h' tk hx hsz => ?_
    rw [hpm]
    show Q (.ref h'.objs.size) { s with heap := h'.push (kla_obj "<lambda>" qLam params body scope [] pmLaw c' ctv), toks := tk }
    generalize hfo : kla_obj "<lambda>" qLam params body scope [] pmLaw c' ctv = fo
    have hff : fo.isFreed = false := by rw [← hfo]; rfl
    obtain ⟨B', e1, w1, g1, R'⟩ := R.grow (h' := h'.push fo) (fun b o e => Heap.get?_push_of_some _ (hx b o e))
    refine H h'.objs.size c' ctv B' _ ps hsz (.inl ⟨hh, rfl⟩) hh (hrec.keeps e1) ⟨e1, w1, by show _ ≤ (h'.push fo).objs.size; rw [Heap.size_push]; lia, .refl _, rfl, rfl, .refl _, fun _ h => .inl h⟩ R' (by rw [hfo]; exact g1 _ _ hsz (Heap.get?_push_size _ hff))
end
end Mine

open PySem PySem.W PyProof.Rows PySem.Calls
namespace Mine
def Wd.plus (D : Wd) (L : Addr) (fo : Obj) (c' : Addr) : Wd := { D with K := (L, fo) :: D.K, codes := (c', qLam) :: D.codes }
theorem good_plus {D : Wd} {B : Heap} {L c' : Addr} {fo : Obj} (G : Good D B) (hL : B.get? L = some fo) (hc : B.CodeRec (.ref c') qLam) : Good (D.plus L fo c') B where
  k := fun a o e => by
    have e' : ((L, fo) :: D.K).lookup a = some o := e
    rw [List.lookup_cons] at e'
    by_cases h : a = L
    · subst h; simp only [beq_self_eq_true, Option.some.injEq] at e'; rw [← e']; exact hL
    · rw [beq_eq_false_iff_ne.mpr h] at e'; exact G.k a o e'
  g := G.g
  b := G.b
  lim := G.lim
  cod := fun p hp => by
    rcases List.mem_cons.mp (show p ∈ (c', qLam) :: D.codes from hp) with rfl | hp
    · exact hc
    · exact G.cod p hp
theorem plus_self (D : Wd) (L : Addr) (fo : Obj) (c' : Addr) : (D.plus L fo c').K.lookup L = some fo := by
  show ((L, fo) :: D.K).lookup L = some fo
  rw [List.lookup_cons, beq_self_eq_true]
theorem plus_other {D : Wd} {L a : Addr} {fo o : Obj} {c' : Addr} (h : D.K.lookup a = some o) (ne : a ≠ L) : (D.plus L fo c').K.lookup a = some o := by
  show ((L, fo) :: D.K).lookup a = some o
  rw [List.lookup_cons, beq_eq_false_iff_ne.mpr ne]; exact h
theorem at18_plus {D : Wd} (X : Std D) {L : Addr} {fo : Obj} {c' : Addr} (hL : 160 ≤ L) : At18 (D.plus L fo c') where
  ob := plus_other (by rw [X.K]; rfl) (by intro e; rw [← e] at hL; revert hL; decide)
  df := plus_other (by rw [X.K]; rfl) (by intro e; rw [← e] at hL; revert hL; decide)
  cd := List.mem_cons_of_mem _ (by rw [X.codes]; exact List.mem_of_getElem? (i := 8) rfl)
  gl := X.glob
  bl := X.blt
/-- a call by what holds of a wider written part -/
theorem call_plus {D : Wd} {n : Nat} {c : Cx} {st : St} {L c' : Addr} {fo : Obj} {A : Around} {env : Env} {B : Heap} {s : Shared} {rs : List (Addr × Obj)} {ca p : List Addr} {Q E : Value → Shared → Prop} {f : Value} {Ws : List V} {res : V} {vs : List Value}
    (h : CallSpec (D.plus L fo c') n f Ws res) (hA : Room n A) (R : Rep D c env B s.heap rs ca p st) (hL : B.get? L = some fo) (hc : B.CodeRec (.ref c') qLam) (q : VFs B vs Ws) (H : Post D c env s B rs ca p res st Q) : wpAny (model D.prog D.w) A (call f vs) Q E s := by
  refine h A B s vs Q E hA (good_plus R.good hL hc) R.ext q fun v B' s' n' x' x q' => ?_
  obtain ⟨B2, e2, w2, g2, R2⟩ := R.grow x
  have x2 : Ext B' B2 := fun b o e => (n'.new b o e).elim (fun e' => e2 b o e') fun hb => g2 b o hb (x' b o e)
  exact H v B2 p s' ⟨e2, w2, n'.size, .refl _, n'.drawn, n'.os, n'.gens, fun _ h => .inl h⟩ R2 (.of (q'.ext x2))
/-- the first lambda of the law -/
def lamOf : Expr → Arguments × Expr × Scope × Pos
  | .Lambda ps b sc p => (ps, b, sc, p)
  | _ => (default, .Constant .none 0 ⟨0, 0, 0, 0⟩, default, ⟨0, 0, 0, 0⟩)
def lam1 : Expr := match (bodyOf 28).drop 3 with
  | .Assign _ (.ListComp (.Call _ (l :: _) _ _) _ _ _) _ :: _ => l
  | _ => .Constant .none 0 ⟨0, 0, 0, 0⟩
def lam1Fo (c' : Addr) (ctv : Value) : Obj := kla_obj "<lambda>" qLam (lamOf lam1).1 (lamOf lam1).2.1 (lamOf lam1).2.2.1 [] pmLaw c' ctv
def cL1 : Cx := { scope := (lamOf lam1).2.2.1, ln := ["told", "part"] }
theorem bindL1 (c' : Addr) (ctv a b : Value) : bindArgs (kla_fn "<lambda>" qLam (lamOf lam1).1 (lamOf lam1).2.1 (lamOf lam1).2.2.1 [] pmLaw (.ref c') ctv) ⟨[a, b], []⟩ = pure [(("told" : Str), a), (("part" : Str), b)] := by kernel_rfl
theorem defL1 {D : Wd} {L c' : Addr} {ctv : Value} : DefAtD (D.plus L (lam1Fo c' ctv) c') L cL1 ["told", "part"] [] (.ex (lamOf lam1).2.1) where
  ex := ⟨_, _, plus_self _ _ _ _, rfl, ⟨c', rfl, .head _⟩, rfl, rfl, rfl, rfl, rfl, fun A Q E s vals _ hl q => by
    revert q; apply len_2 _ vals hl; intro a b q
    rw [bindL1]; exact wpAny_pure q, rfl, rfl, rfl⟩
  kinds := by decide +kernel
  pnd := by decide +kernel
  lnd := by decide +kernel
  cnd := by decide +kernel
  ln := by decide +kernel
  cn := by decide +kernel
theorem specL1 {D : Wd} {L c' : Addr} {ctv : Value} (n : Nat) (a b : List Nat) (ha : a.length ≤ 10000) (hb : b.length ≤ 10000) : CallSpec (D.plus L (lam1Fo c' ctv) c') (n + 1) (.ref L) [vT a, vT b] (vT (redF a b)) := by
  have hz' := sizeLine_eq
  refine .ofT (.of defL1 rfl fun A env B h0 s rs ca Q E hA R _ _ H => ?_)
  change Rep _ cL1 env B s.heap rs ca [] { loc := [some (vT a), some (vT b)] } at R
  have T : Ex (D.plus L (lam1Fo c' ctv) c') n cL1 { loc := [some (vT a), some (vT b)] } (lamOf lam1).2.1 (vT (redF a b)) { loc := [some (vT a), some (vT b)] } :=
    Ex.cast (Ex.bin (Ex.bin (Ex.l 1) (Ex.s (l := [44])) (T2.addS (by simp; lia))) (Ex.l 0) (T2.addS (by simp; lia))) rfl
  refine wpAny_bind (T A env B s rs ca [] _ E hA R fun v B1 p1 s1 n1 R1 q1 => ?_)
  exact wpAny_pure (H _ _ v B1 p1 s1 rs (.fz rfl) n1 R1 (fun _ h _ => h) q1)
end Mine

open PySem PySem.W PyProof.Rows PySem.Calls
namespace Mine
theorem partsL_len (N : Nat) : ∀ (ys : List Int) (q : List (List Nat) × List Nat), (∀ x ∈ q.1, x.length ≤ N) → q.2.length ≤ N → (∀ x ∈ (partsL ys q).1, x.length ≤ N) ∧ (partsL ys q).2.length ≤ N
  | [], q, h1, h2 => ⟨h1, h2⟩
  | y :: r, q, h1, h2 => by
    rw [partsL]
    split
    · exact ⟨h1, h2⟩
    · exact partsL_len N r _ (fun x hx => by
        rcases List.mem_append.mp hx with hx | hx
        · exact h1 x hx
        · rw [List.mem_singleton.mp hx]; exact Nat.le_trans (sl_len ..) h2) (Nat.le_trans (sl_len ..) h2)
theorem partsL_cnt : ∀ (ys : List Int) (q : List (List Nat) × List Nat), q.1.length ≤ 10 → (partsL ys q).1.length ≤ 10
  | [], q, h => h
  | y :: r, q, h => by
    rw [partsL]
    split
    · exact h
    · rename_i hn
      refine partsL_cnt r _ ?_
      have : ¬ 9 < q.1.length := fun c => hn (.inr c)
      simp; lia
theorem partsL_ne : ∀ (ys : List Int) (q : List (List Nat) × List Nat), q.1 ≠ [] → (partsL ys q).1 ≠ []
  | [], q, h => h
  | y :: r, q, h => by
    rw [partsL]
    split
    · exact h
    · exact partsL_ne r _ (by first | rfl | decide | simp)
theorem partsOut_ok (ys : List Int) {f : List Nat} (hf : f ≠ []) (hl : f.length ≤ 100) : ∃ x r, partsOut ys f = x :: r ∧ (∀ y ∈ x :: r, y.length ≤ 100) ∧ r.length ≤ 60 := by
  obtain ⟨h1, h2⟩ := partsL_len 100 ys ([], f) (fun x hx => nil_elim hx) hl
  have h3 := partsL_cnt ys ([], f) (by first | rfl | decide | simp)
  have hne : partsOut ys f ≠ [] := by
    unfold partsOut
    dsimp only
    split
    · simp
    · rename_i hq
      cases ys with
      | nil => exact absurd hf (by simpa [partsL] using hq)
      | cons y r =>
        rw [partsL, if_neg (by rintro (h | h); exact hf h; simp at h)]
        exact partsL_ne r _ (by first | rfl | decide | simp)
  have hall : ∀ y ∈ partsOut ys f, y.length ≤ 100 := by
    unfold partsOut
    dsimp only
    split
    · intro y hy
      rcases List.mem_append.mp hy with hy | hy
      · exact h1 y hy
      · rw [List.mem_singleton.mp hy]; exact h2
    · exact h1
  have hlen : (partsOut ys f).length ≤ 11 := by
    unfold partsOut
    dsimp only
    split
    · simp; lia
    · lia
  generalize partsOut ys f = l at hne hall hlen
  cases l with
  | nil => exact absurd rfl hne
  | cons x r => exact ⟨x, r, rfl, hall, by simp at hlen; lia⟩
def c28 : Cx := { scope := scopeOf 28, ln := ["script", "sizes", "total", "rows", "ordered", "patterns"], cn := ["grouping", "texts"] }
/-- the comprehension of the texts -/
def cmp3 : Expr := match (bodyOf 28).drop 3 with
  | .Assign _ e _ :: _ => e
  | _ => .Constant .none 0 ⟨0, 0, 0, 0⟩
def cmpElt : Expr → Expr
  | .ListComp e _ _ _ => e
  | e => e
def cmpScope : Expr → Scope
  | .ListComp _ _ s _ => s
  | _ => default
def pos1 : Pos := (lamOf lam1).2.2.2
/-- what the law's table of codes holds -/
def TabOk (B : Heap) (ps : Array Value) : Prop := ps = #[] ∨ ∃ c', ps = #[rawInt pos1.line, rawInt pos1.col, .ref c'] ∧ B.CodeRec (.ref c') qLam
theorem TabOk.keeps {B B' : Heap} {ps : Array Value} (h : TabOk B ps) (x : Ext B B') : TabOk B' ps := h.imp id fun ⟨c', e', r⟩ => ⟨c', e', r.keeps x⟩
def J1 (rest : List (Addr × Obj)) (rs : List (Addr × Obj)) (B : Heap) : Prop := ∃ ps, rs = (156, tabObj ps) :: rest ∧ TabOk B ps
theorem J1_ext (rest rs : List (Addr × Obj)) (B B' : Heap) (x : Ext B B') (h : J1 rest rs B) : J1 rest rs B' := by obtain ⟨ps, e, h⟩ := h; exact ⟨ps, e, h.keeps x⟩
theorem key106 {D : Wd} (X : Std D) : keepIn D.K (.ref 106) = true := by rw [X.K]; decide +kernel
theorem key113 {D : Wd} (X : Std D) : keepIn D.K (.ref 113) = true := by rw [X.K]; decide +kernel
theorem elt_texts {D : Wd} (X : Std D) (k : Nat) {g ys : List Int} {fin : Bool} (hY : GY g none ys fin) (hf : fin = true ∨ 11 ≤ ys.length) {row : List Nat} (hne : row ≠ []) (hl : row.length ≤ 100) {st1 : St} {rest : List (Addr × Obj)} (hg : st1.cel[0]? = some (some (vI g))) :
    ElT D (k + 3) c28 (cmpScope cmp3) "row" st1 (.ref 158) "law.<locals>." (J1 rest) (cmpElt cmp3) (vT row) (vT (redL (partsOut ys row))) := by
  intro A env B s F rs ca p Q E hA hcode hqual hJ R H
  obtain ⟨ps, rfl, hps⟩ := hJ
  obtain ⟨x, r, hpo, hz, hr⟩ := partsOut_ok ys hne hl
  have hF : Ex D (k + 3) (cxC c28 (cmpScope cmp3) "row") (stC st1 (some (vT row))) (match cmpElt cmp3 with | .Call f _ _ _ => f | e => e) (.raw (.ref 106)) (stC st1 (some (vT row))) := Ex.g X 8
  refine Call_ (hF A env B s _ ca p _ E hA R fun v B1 p1 s1 n1 R1 q1 => ?_) (by rfl)
  cases (show VF B1 v (.raw (.ref 106)) from q1)
  have hbig : 160 ≤ s1.heap.objs.size := by
    have h1 := Heap.lt_size (R1.ext _ _ (R1.good.k 159 _ (by rw [X.K]; rfl)))
    exact h1
  refine callWith_K R1.good.k (key106 X) (wpAny_items_cons (lam_make X (ps := ps) R1 hcode ?_ (by rfl) (by rfl) (by rw [hqual]; rfl) ?_ fun L c' ctv B2 s2 ps' hL hps' hca hrec n2 R2 hfo => ?_) (by rfl)) (by rfl) (by rfl)
  · rcases hps with rfl | ⟨c', rfl, _⟩
    · trivial
    · trivial
  · rcases hps with rfl | ⟨c', rfl, hr'⟩
    · exact .inl rfl
    · exact .inr ⟨c', codeAmong_snoc (pos := pos1) (c := .ref c') [] trivial rfl, (hr'.keeps n1.ext)⟩
  have hP : Es D (k + 3) (cxC c28 (cmpScope cmp3) "row") (stC st1 (some (vT row))) (match cmpElt cmp3 with | .Call _ (_ :: l) _ _ => l | _ => []) [vTs (partsOut ys row)] (stC st1 (some (vT row))) :=
    Es.one (Ex.callK (Ex.g X 9) (Es.two (Ex.l 0) (Ex.k 0 rfl hg)) ((spec20 X (n := k + 1) row hY hf (by omega)).tn rfl) (key113 X))
  refine hP A env B2 s2 _ ca p1 _ E _ hA R2 fun vs B3 p3 s3 n3 R3 q3 => ⟨R3.kh, ?_⟩
  apply VRs.one q3; intro v q3 
  have hfo3 := n3.ext _ _ hfo
  have hrec3 := hrec.keeps n3.ext
  refine call_plus (fo := lam1Fo c' ctv) (c' := c') (L := L) (D := D) (res := vT (redL (partsOut ys row))) ?_ hA R3 hfo3 hrec3 (.cons (.raw (.ref L)) (.cons (VR.fz (W := vTs (partsOut ys row)) q3.1 rfl) .nil)) fun u B4 p4 s4 n4 R4 q4 => ?_
  · rw [hpo]
    exact spec18 (n := k + 2) (fun a b ha hb => specL1 (k + 1) a b ha hb) (by unfold keepIn; dsimp only; rw [plus_self]; rfl) (at18_plus X (Nat.le_trans hbig hL)) x r hz hr
  · refine H u B4 p4 s4 ((156, tabObj ps') :: rest) ?_ (((n1.trans n2).trans n3).trans n4) R4 q4
    refine ⟨ps', rfl, ?_⟩
    have hrec4 := hrec3.keeps n4.ext
    rcases hps' with ⟨h1, rfl⟩ | ⟨h1, rfl⟩
    · rcases hps with rfl | ⟨c0, rfl, hr0⟩
      · (first | exact none_some h1 | exact some_none h1 | (obtain rfl := Option.some.inj h1) | cases h1)
      · right
        exact ⟨c0, rfl, (((hr0.keeps n1.ext).keeps n2.ext).keeps n3.ext).keeps n4.ext⟩
    · rcases hps with rfl | ⟨c0, rfl, hr0⟩
      · right
        exact ⟨c', rfl, hrec4⟩
      · exact absurd (h1.symm.trans (codeAmong_snoc (pos := pos1) (c := .ref c0) [] trivial rfl)) (by intro h; (first | exact none_some h | exact some_none h | (obtain rfl := Option.some.inj h) | cases h))
end Mine

open PySem PySem.W PyProof.Rows PySem.Calls
namespace Mine
theorem fb_solid : Builtin.Slots.solid (.type "object") = pure (.type "object") := by kernel_rfl
theorem fb_best : Builtin.Slots.bestBase [.type "object"] = pure (.type "object") := by kernel_rfl
theorem fb_turn : Builtin.notOverATurnedClass [.type "object"] = pure () := by kernel_rfl
theorem fb_ext : Builtin.extendedBase [.type "object"] = pure (.type "object") := by kernel_rfl
theorem fb_meta : (Manifest.find? "object").elim "type" (fun x => x.metatype) = "type" := by kernel_rfl
theorem fb_names : Builtin.Slots.slotNamesOf (.type "object") = pure [] := by kernel_rfl
theorem fb_gd : Builtin.Slots.givesDict (.type "object") = pure false := by kernel_rfl
theorem fb_gw : Builtin.Slots.givesWeak (.type "object") = pure false := by kernel_rfl
theorem fb_vs : Builtin.Slots.varSize (.type "object") = pure false := by kernel_rfl
theorem fb_hook : Builtin.mroHook? (.type "type") = pure none := by kernel_rfl
theorem fb_lin : Builtin.linearize [.type "object"] mroOf = pure [.type "object"] := by kernel_rfl
theorem fb_made : Bind.madeBy (.type "object") = pure (some "object.__new__") := by kernel_rfl
theorem fb_mangle : Builtin.Slots.mangle "K" "obj" = "obj" := by kernel_rfl
theorem fb_ident : Builtin.Slots.isIdentifier "obj" = some true := by kernel_rfl

/-- the class's own names, as the body and its makers lay them -/
def kKeys : List Str := ["__module__", "__qualname__", "__firstlineno__", "__slots__", "__init__", "__lt__", "__gt__", "__eq__", "__le__", "__ge__", "__hash__", "__static_attributes__"]
structure KF where
  h : Nat → Int
  t : Nat → Tok
  tm : Tok
  tq : Tok
  tl : Tok
  sl : Addr
  f : Nat → Addr
  st : Addr
def kEnt (k : KF) : Array DictEntry := #[⟨k.h 0, .str "__module__" (k.t 0), .str "cpy313.functools" k.tm⟩, ⟨k.h 1, .str "__qualname__" (k.t 1), .str "cmp_to_key.<locals>.K" k.tq⟩, ⟨k.h 2, .str "__firstlineno__" (k.t 2), .int 135 k.tl⟩,
  ⟨k.h 3, .str "__slots__" (k.t 3), .ref k.sl⟩, ⟨k.h 4, .str "__init__" (k.t 4), .ref (k.f 0)⟩, ⟨k.h 5, .str "__lt__" (k.t 5), .ref (k.f 1)⟩, ⟨k.h 6, .str "__gt__" (k.t 6), .ref (k.f 2)⟩, ⟨k.h 7, .str "__eq__" (k.t 7), .ref (k.f 3)⟩,
  ⟨k.h 8, .str "__le__" (k.t 8), .ref (k.f 4)⟩, ⟨k.h 9, .str "__ge__" (k.t 9), .ref (k.f 5)⟩, ⟨k.h 10, .str "__hash__" (k.t 10), .none⟩, ⟨k.h 11, .str "__static_attributes__" (k.t 11), .ref k.st⟩]
theorem kEnt_slots (k : KF) : (kEnt k).find? (fun e => e.key.isStr "__slots__") = some ⟨k.h 3, .str "__slots__" (k.t 3), .ref k.sl⟩ := by kernel_rfl
theorem kEnt_obj (k : KF) : (kEnt k).any (fun e => e.key.isStr "obj") = false := by kernel_rfl
section
variable {prog : Program} {w : World} {A : Around} {E : Value → Shared → Prop} {s : Shared}
theorem collect_list {L : Addr} {x : Value} {ep : Nat} {Q : List Value → Shared → Prop} (hL : s.heap.get? L = some ⟨.type "list", none, .seq #[x] ep, #[]⟩)
    (hq : ∀ h', (∀ b o, s.heap.get? b = some o → h'.get? b = some o) → Q [x] { s with heap := h' }) : wpAny (model prog w) A (collect (.ref L)) Q E s := by
  unfold collect
  refine wpAny_bind (wpAny_runValue (codeAny_builtin F.entry_proto_collect ?_))
  rw [Around.under_plainId F.plain_proto_collect _]
  show wpAny _ A.in1 (newList [] >>= fun l => again (.builtin "list.__iadd__" ⟨[l, .ref L], []⟩)) _ _ _
  refine wpAny_bind (wpAny_newObj_type ?_)
  refine wpAny_pure ⟨plainId_quiet F.plain_list_iadd _, codeAny_builtin F.entry_list_iadd ?_⟩
  rw [Around.under_plainId F.plain_list_iadd _]
  have hSL : s.heap.objs.size ≠ L := fun e => Nat.lt_irrefl L (by have := Heap.lt_size hL; rw [e] at this; exact this)
  have hL' := Heap.get?_push_of_some { cls := Value.type "list", data := .seq ([] : List Value).toArray } hL
  have h1 : Builtin.List.listSameRef (.ref s.heap.objs.size) (.ref L) = false := by simp [Builtin.List.listSameRef, hSL]
  show wpAny _ A.in1 (Builtin.List.listExtendWith (.ref s.heap.objs.size) (.ref L) (.ref s.heap.objs.size)) _ _ _
  unfold Builtin.List.listExtendWith
  wp_walk
  refine hq _ fun b o e => ?_
  have hb : s.heap.objs.size ≠ b := fun e' => Nat.lt_irrefl b (by have := Heap.lt_size e; rw [e'] at this; exact this)
  exact (Heap.get?_update_other _ _ hb).trans (Heap.get?_push_of_some _ e)
theorem post_cast {α β : Type} {Q : α → β → Prop} {x y : α} {z : β} (e : y = x) (h : Q x z) : Q y z := by rw [e]; exact h
theorem slots_read {k : KF} {t1 : Tok} {ep : Nat} {Q : Builtin.Slots.Plan → Shared → Prop} (hL : s.heap.get? k.sl = some ⟨.type "list", none, .seq #[.str "obj" t1] ep, #[]⟩)
    (hq : ∀ h', (∀ b o, s.heap.get? b = some o → h'.get? b = some o) → Q { names := ["obj"], dict := false, weak := false, inherited := [] } { s with heap := h' }) :
    wpAny (model prog w) A (Builtin.Slots.read "K" [.type "object"] (kEnt k)) Q E s := by
  have f1 := fb_best
  have f2 := fb_names
  have f3 := fb_gd
  have f4 := fb_gw
  have f5 := fb_vs
  unfold Builtin.Slots.read
  rw [kEnt_slots]
  repeat (first | (with_reducible refine collect_list hL fun h' hh => ?_) | wp_step)
  rw [fb_ident]
  repeat wp_step
  refine wpAny_ite_false (by kernel_rfl) ?_
  repeat wp_step
  exact post_cast (by kernel_rfl) (hq h' hh)
end
end Mine

open PySem PySem.W PyProof.Rows PySem.Calls
namespace Mine
section
variable {prog : Program} {w : World} {A : Around} {E : Value → Shared → Prop} {s : Shared}
theorem nsGet_at {ns : Addr} {o : Obj} {name : Str} {r : Option Value} {Q : Option Value → Shared → Prop} (ho : s.heap.get? ns = some o) (e : nsLook name o = pure r) (hq : Q r s) : wpAny (model prog w) A (nsGet ns name) Q E s := by
  unfold nsGet
  refine wpAny_bind (wpAny_loadPart ho ?_)
  rw [e]
  exact wpAny_pure hq
theorem updPart {a : Addr} {p : Option Value} {f : Obj → Obj} {o : Obj} {Q : Unit → Shared → Prop} (ho : s.heap.get? a = some o) (hf : (f o).isFreed = false)
    (hq : ∀ h', h'.get? a = some (f o) → (∀ b x, b ≠ a → s.heap.get? b = some x → h'.get? b = some x) → Q () { s with heap := h' }) : wpAny (model prog w) A (updatePart a p f) Q E s :=
  wpAny_updatePart ho (hq _ (Heap.get?_update_self f ho hf) fun b x hb e => (Heap.get?_update_other _ _ (Ne.symm hb)).trans e)
theorem allocAt {o : Obj} {Q : Addr → Shared → Prop} (hf : o.isFreed = false)
    (hq : ∀ a h', h'.get? a = some o → (∀ b x, s.heap.get? b = some x → b ≠ a ∧ h'.get? b = some x) → Q a { s with heap := h' }) : wpAny (model prog w) A (alloc o) Q E s :=
  wpAny_alloc (hq _ _ (Heap.get?_push_size _ hf) fun b x e => ⟨fun hb => Nat.lt_irrefl b (by have := Heap.lt_size e; rw [hb] at this ⊢; exact this), Heap.get?_push_of_some _ e⟩)
theorem nsDel_at {ns : Addr} {o : Obj} {name : Str} {Q : Bool → Shared → Prop} (ho : s.heap.get? ns = some o) (e : nsHas name o = pure true) (hf : (Obj.dropName name o).isFreed = false)
    (hq : ∀ h', h'.get? ns = some (Obj.dropName name o) → (∀ b x, b ≠ ns → s.heap.get? b = some x → h'.get? b = some x) → Q true { s with heap := h' }) : wpAny (model prog w) A (nsDel ns name) Q E s := by
  unfold nsDel
  refine wpAny_bind (wpAny_loadPart ho ?_)
  rw [e]
  refine wpAny_bind (wpAny_pure ?_)
  refine wpAny_ite_true rfl (wpAny_bind (updPart ho hf fun h' h1 h2 => wpAny_pure (hq h' h1 h2)))
theorem nsSet_at {ns : Addr} {c : Value} {dt : Option Addr} {es : Array DictEntry} {ep : Nat} {sl : Array (Option Value)} {name : Str} {v : Value} {Q : Unit → Shared → Prop} (ho : s.heap.get? ns = some ⟨c, dt, .dict es ep, sl⟩) (e : aRefKeyMayBeTheName name es = false)
    (hf : ∀ x y, (Obj.putName name x y v ⟨c, dt, .dict es ep, sl⟩).isFreed = false)
    (hq : ∀ h' t' x y, h'.get? ns = some (Obj.putName name x (.str name y) v ⟨c, dt, .dict es ep, sl⟩) → (∀ b x, b ≠ ns → s.heap.get? b = some x → h'.get? b = some x) → Q () { s with heap := h', toks := t' }) : wpAny (model prog w) A (nsSet ns name v) Q E s := by
  unfold nsSet strHash
  refine wpAny_bind (wpAny_bind (wpAny_askSetting (wpAny_pure ?_)))
  refine wpAny_bind (wpAny_mkText ?_)
  refine wpAny_bind (wpAny_loadPart ho ?_)
  show wpAny _ _ (if aRefKeyMayBeTheName name es = true then _ else _) _ _ _
  rw [if_neg (by rw [e]; decide)]
  exact updPart ho (hf _ _) fun h' h1 h2 => hq _ _ _ _ h1 h2
theorem turn_by {b : List Value} {Q : Unit → Shared → Prop} (e : b = [.type "object"]) (h : Q () s) : wpAny (model prog w) A (Builtin.notOverATurnedClass b) Q E s := by subst e; exact wpAny_of_eq fb_turn h
theorem ext_by {b : List Value} {Q : Value → Shared → Prop} (e : b = [.type "object"]) (h : Q (.type "object") s) : wpAny (model prog w) A (Builtin.extendedBase b) Q E s := by subst e; exact wpAny_of_eq fb_ext h
theorem lin_by {b : List Value} {Q : List Value → Shared → Prop} (e : b = [.type "object"]) (h : Q [.type "object"] s) : wpAny (model prog w) A (Builtin.linearize b mroOf) Q E s := by subst e; exact wpAny_of_eq fb_lin h
theorem read_by {k : KF} {n : Str} {b : List Value} {t1 : Tok} {ep : Nat} {Q : Builtin.Slots.Plan → Shared → Prop} (hL : s.heap.get? k.sl = some ⟨.type "list", none, .seq #[.str "obj" t1] ep, #[]⟩) (en : n = "K") (e : b = [.type "object"])
    (hq : ∀ h', (∀ b o, s.heap.get? b = some o → h'.get? b = some o) → Q { names := ["obj"], dict := false, weak := false, inherited := [] } { s with heap := h' }) :
    wpAny (model prog w) A (Builtin.Slots.read n b (kEnt k)) Q E s := by subst e en; exact slots_read hL hq
theorem newObj_at {c : Value} {T : String} {data : Data} {dt : Option Addr} {Q : Value → Shared → Prop} (ec : c = .type T) (hz : sizeOk data) (hf : (⟨.type T, dt, data, #[]⟩ : Obj).isFreed = false)
    (hq : ∀ a h', h'.get? a = some ⟨.type T, dt, data, #[]⟩ → (∀ b x, s.heap.get? b = some x → b ≠ a ∧ h'.get? b = some x) → Q (.ref a) { s with heap := h' }) : wpAny (model prog w) A (newObj c data dt) Q E s := by
  subst ec
  exact wpAny_newObj_type (hq _ _ (Heap.get?_push_size _ hf) fun b x e => ⟨fun hb => Nat.lt_irrefl b (by have := Heap.lt_size e; rw [hb] at this ⊢; exact this), Heap.get?_push_of_some _ e⟩) hz
def kEnt2 (k : KF) : Array DictEntry := #[⟨k.h 0, .str "__module__" (k.t 0), .str "cpy313.functools" k.tm⟩, ⟨k.h 2, .str "__firstlineno__" (k.t 2), .int 135 k.tl⟩,
  ⟨k.h 3, .str "__slots__" (k.t 3), .ref k.sl⟩, ⟨k.h 4, .str "__init__" (k.t 4), .ref (k.f 0)⟩, ⟨k.h 5, .str "__lt__" (k.t 5), .ref (k.f 1)⟩, ⟨k.h 6, .str "__gt__" (k.t 6), .ref (k.f 2)⟩, ⟨k.h 7, .str "__eq__" (k.t 7), .ref (k.f 3)⟩,
  ⟨k.h 8, .str "__le__" (k.t 8), .ref (k.f 4)⟩, ⟨k.h 9, .str "__ge__" (k.t 9), .ref (k.f 5)⟩, ⟨k.h 10, .str "__hash__" (k.t 10), .none⟩, ⟨k.h 11, .str "__static_attributes__" (k.t 11), .ref k.st⟩]
abbrev dOf (es : Array DictEntry) (ep : Nat) : Obj := ⟨.type "dict", none, .dict es ep, #[]⟩
theorem kd_qual (k : KF) (ep : Nat) : nsLook "__qualname__" (dOf (kEnt k) ep) = pure (some (.str "cmp_to_key.<locals>.K" k.tq)) := by kernel_rfl
theorem kd_doc (k : KF) (ep : Nat) : nsLook "__doc__" (dOf (kEnt k) ep) = pure none := by kernel_rfl
theorem kd_has (k : KF) (ep : Nat) : nsHas "__qualname__" (dOf (kEnt k) ep) = pure true := by kernel_rfl
theorem kd_drop (k : KF) (ep : Nat) : Obj.dropName "__qualname__" (dOf (kEnt k) ep) = dOf (kEnt2 k) (ep + 1) := by kernel_rfl
theorem kd_new (k : KF) (ep : Nat) : nsLook "__new__" (dOf (kEnt2 k) ep) = pure none := by kernel_rfl
theorem kd_sub (k : KF) (ep : Nat) : nsLook "__init_subclass__" (dOf (kEnt2 k) ep) = pure none := by kernel_rfl
theorem kd_cgi (k : KF) (ep : Nat) : nsLook "__class_getitem__" (dOf (kEnt2 k) ep) = pure none := by kernel_rfl
theorem kd_cc (k : KF) (ep : Nat) : nsLook "__classcell__" (dOf (kEnt2 k) ep) = pure none := by kernel_rfl
theorem kd_cdc (k : KF) (ep : Nat) : nsLook "__classdictcell__" (dOf (kEnt2 k) ep) = pure none := by kernel_rfl
def kEnt3 (k : KF) (x : Int) (y : Tok) (md : Addr) : Array DictEntry := #[⟨k.h 0, .str "__module__" (k.t 0), .str "cpy313.functools" k.tm⟩, ⟨k.h 2, .str "__firstlineno__" (k.t 2), .int 135 k.tl⟩,
  ⟨k.h 3, .str "__slots__" (k.t 3), .ref k.sl⟩, ⟨k.h 4, .str "__init__" (k.t 4), .ref (k.f 0)⟩, ⟨k.h 5, .str "__lt__" (k.t 5), .ref (k.f 1)⟩, ⟨k.h 6, .str "__gt__" (k.t 6), .ref (k.f 2)⟩, ⟨k.h 7, .str "__eq__" (k.t 7), .ref (k.f 3)⟩,
  ⟨k.h 8, .str "__le__" (k.t 8), .ref (k.f 4)⟩, ⟨k.h 9, .str "__ge__" (k.t 9), .ref (k.f 5)⟩, ⟨k.h 10, .str "__hash__" (k.t 10), .none⟩, ⟨k.h 11, .str "__static_attributes__" (k.t 11), .ref k.st⟩, ⟨x, .str "obj" y, .ref md⟩]
def kEnt4 (k : KF) (x x' : Int) (y y' : Tok) (md : Addr) : Array DictEntry := #[⟨k.h 0, .str "__module__" (k.t 0), .str "cpy313.functools" k.tm⟩, ⟨k.h 2, .str "__firstlineno__" (k.t 2), .int 135 k.tl⟩,
  ⟨k.h 3, .str "__slots__" (k.t 3), .ref k.sl⟩, ⟨k.h 4, .str "__init__" (k.t 4), .ref (k.f 0)⟩, ⟨k.h 5, .str "__lt__" (k.t 5), .ref (k.f 1)⟩, ⟨k.h 6, .str "__gt__" (k.t 6), .ref (k.f 2)⟩, ⟨k.h 7, .str "__eq__" (k.t 7), .ref (k.f 3)⟩,
  ⟨k.h 8, .str "__le__" (k.t 8), .ref (k.f 4)⟩, ⟨k.h 9, .str "__ge__" (k.t 9), .ref (k.f 5)⟩, ⟨k.h 10, .str "__hash__" (k.t 10), .none⟩, ⟨k.h 11, .str "__static_attributes__" (k.t 11), .ref k.st⟩, ⟨x, .str "obj" y, .ref md⟩, ⟨x', .str "__doc__" y', .none⟩]
theorem kd_push (k : KF) (ep : Nat) (x : Int) (y : Tok) (md : Addr) : Obj.putName "obj" x (.str "obj" y) (.ref md) (dOf (kEnt2 k) ep) = dOf (kEnt3 k x y md) (ep + 1) := by kernel_rfl
theorem kd_push2 (k : KF) (ep : Nat) (x x' : Int) (y y' : Tok) (md : Addr) : Obj.putName "__doc__" x' (.str "__doc__" y') .none (dOf (kEnt3 k x y md) ep) = dOf (kEnt4 k x x' y y' md) (ep + 1) := by kernel_rfl
theorem kd_doc3 (k : KF) (ep : Nat) (x : Int) (y : Tok) (md : Addr) : nsLook "__doc__" (dOf (kEnt3 k x y md) ep) = pure none := by kernel_rfl
theorem kd_eq4 (k : KF) (ep : Nat) (x x' : Int) (y y' : Tok) (md : Addr) : nsLook "__eq__" (dOf (kEnt4 k x x' y y' md) ep) = pure (some (.ref (k.f 3))) := by kernel_rfl
theorem kd_hash4 (k : KF) (ep : Nat) (x x' : Int) (y y' : Tok) (md : Addr) : nsLook "__hash__" (dOf (kEnt4 k x x' y y' md) ep) = pure (some .none) := by kernel_rfl
theorem kd_ref2 (k : KF) : aRefKeyMayBeTheName "obj" (kEnt2 k) = false := by kernel_rfl
theorem kd_ref3 (k : KF) (x : Int) (y : Tok) (md : Addr) : aRefKeyMayBeTheName "__doc__" (kEnt3 k x y md) = false := by kernel_rfl
theorem kd_obj (k : KF) (ep : Nat) : nsLook "obj" (dOf (kEnt2 k) ep) = pure none := by kernel_rfl
theorem k_module (k : KF) : (kEnt k).any (fun x => x.key.isStr "__module__") = true := by kernel_rfl
theorem k_del (k : KF) : (kEnt k).any (fun x => x.key.isStr "__del__") = false := by kernel_rfl
/-- a mark at which a walk stands still -/
structure Halt (p : Prop) : Prop where
  go : p
theorem read_halt {n : Str} {b : List Value} {es : Array DictEntry} {Q : Builtin.Slots.Plan → Shared → Prop} (h : Halt (wpAny (model prog w) A (Builtin.Slots.read n b es) Q E s)) : wpAny (model prog w) A (Builtin.Slots.read n b es) Q E s := h.go
theorem alloc_halt {o : Obj} {Q : Addr → Shared → Prop} (h : Halt (wpAny (model prog w) A (alloc o) Q E s)) : wpAny (model prog w) A (alloc o) Q E s := h.go
theorem call_halt {c : Value} {args : List Value} {kw : List (Str × Value)} {Q : Value → Shared → Prop} (h : Halt (wpAny (model prog w) A (call c args kw) Q E s)) : wpAny (model prog w) A (call c args kw) Q E s := h.go
theorem byval_halt {ns : Addr} {n : Str} {v : Value} {Q : Unit → Shared → Prop} (h : Halt (wpAny (model prog w) A (nsSetByValue ns n v) Q E s)) : wpAny (model prog w) A (nsSetByValue ns n v) Q E s := h.go
theorem forIn_same {α β : Type} {l : List α} {b : β} {f : α → β → Sem (ForInStep β)} {Q : β → Shared → Prop} (hf : ∀ e ∈ l, ∀ (Q : ForInStep β → Shared → Prop), Q (.yield b) s → wpAny (model prog w) A (f e b) Q E s) (h : Q b s) : wpAny (model prog w) A (forIn l b f) Q E s := by
  induction l with
  | nil => exact wpAny_pure h
  | cons x r ih =>
    rw [List.forIn_cons]
    exact wpAny_bind (hf x (.head _) _ (ih fun e he => hf e (.tail _ he)))
theorem forInA_same {α β : Type} {l : Array α} {b : β} {f : α → β → Sem (ForInStep β)} {Q : β → Shared → Prop} (hf : ∀ e ∈ l.toList, ∀ (Q : ForInStep β → Shared → Prop), Q (.yield b) s → wpAny (model prog w) A (f e b) Q E s) (h : Q b s) : wpAny (model prog w) A (forIn l b f) Q E s := by
  rw [← Array.forIn_toList]
  exact forIn_same hf h
theorem arr_halt {α β : Type} {l : Array α} {b : β} {f : α → β → Sem (ForInStep β)} {Q : β → Shared → Prop} (h : Halt (wpAny (model prog w) A (forIn l b f) Q E s)) : wpAny (model prog w) A (forIn l b f) Q E s := h.go
theorem catch_by {α : Type} {m : Sem α} {k : Value → Sem α} {Q : α → Shared → Prop} (h : wpAny (model prog w) A m Q (fun e s' => wpAny (model prog w) A (k e) Q E s') s) : wpAny (model prog w) A (Sem.tryCatch m k) Q E s := wpAny_tryCatch h
/-- the class, made -/
abbrev clsO (ns C T0 : Addr) (t0 tq : Tok) : Obj := ⟨.type "type", none, .cls { name := "K", bases := [.type "object"], mro := [.ref C, .type "object"], ns, qualname := "cmp_to_key.<locals>.K", hasDict := false, slotNames := ["obj"] },
  #[some (.ref T0), none, some (.str "K" t0), some (.str "cmp_to_key.<locals>.K" tq), some (.builtin "object.__new__"), some (.bool false)]⟩
/-- the two objects of a class that is being made -/
structure Pr (h0 : Addr → Obj → Prop) (h : Heap) (C ns : Addr) (oC oN : Obj) : Prop where
  c : h.get? C = some oC
  n : h.get? ns = some oN
  k : ∀ b x, h0 b x → (b ≠ C ∧ b ≠ ns) ∧ h.get? b = some x
  d : C ≠ ns
section
variable {h0 : Addr → Obj → Prop} {C ns : Addr} {oC oN : Obj}
theorem Pr.setC {h h' : Heap} {o : Obj} (P : Pr h0 h C ns oC oN) (e : h'.get? C = some o) (k : ∀ b x, b ≠ C → h.get? b = some x → h'.get? b = some x) : Pr h0 h' C ns o oN :=
  ⟨e, k _ _ P.d.symm P.n, fun b x hb => ⟨(P.k b x hb).1, k _ _ (P.k b x hb).1.1 (P.k b x hb).2⟩, P.d⟩
theorem Pr.setN {h h' : Heap} {o : Obj} (P : Pr h0 h C ns oC oN) (e : h'.get? ns = some o) (k : ∀ b x, b ≠ ns → h.get? b = some x → h'.get? b = some x) : Pr h0 h' C ns oC o :=
  ⟨k _ _ P.d P.c, e, fun b x hb => ⟨(P.k b x hb).1, k _ _ (P.k b x hb).1.2 (P.k b x hb).2⟩, P.d⟩
theorem Pr.more {h h' : Heap} (P : Pr h0 h C ns oC oN) (k : ∀ b x, h.get? b = some x → h'.get? b = some x) : Pr h0 h' C ns oC oN :=
  ⟨k _ _ P.c, k _ _ P.n, fun b x hb => ⟨(P.k b x hb).1, k _ _ (P.k b x hb).2⟩, P.d⟩
theorem Pr.mono {h : Heap} {h1 : Addr → Obj → Prop} (P : Pr h0 h C ns oC oN) (k : ∀ b x, h1 b x → h0 b x) : Pr h1 h C ns oC oN := ⟨P.c, P.n, fun b x e => P.k b x (k b x e), P.d⟩
theorem Pr.add {h : Heap} {md : Addr} {o : Obj} (P : Pr h0 h C ns oC oN) (e : h.get? md = some o) (hc : md ≠ C) (hn : md ≠ ns) : Pr (fun b x => h0 b x ∨ (b = md ∧ x = o)) h C ns oC oN :=
  ⟨P.c, P.n, fun b x hb => hb.elim (P.k b x) fun hb => ⟨⟨by rw [hb.1]; exact hc, by rw [hb.1]; exact hn⟩, by rw [hb.1, hb.2]; exact e⟩, P.d⟩
theorem Pr.cast {h : Heap} {o o' : Obj} (P : Pr h0 h C ns oC oN) (e : oC = o) (e' : oN = o') : Pr h0 h C ns o o' := by subst e e'; exact P
theorem p_loadC {Q : Obj → Shared → Prop} (P : Pr h0 s.heap C ns oC oN) (h : Q oC s) : wpAny (model prog w) A (load C) Q E s := wpAny_load P.c h
theorem p_loadN {Q : Obj → Shared → Prop} (P : Pr h0 s.heap C ns oC oN) (h : Q oN s) : wpAny (model prog w) A (load ns) Q E s := wpAny_load P.n h
theorem p_partC {p : Option Value} {Q : Obj → Shared → Prop} (P : Pr h0 s.heap C ns oC oN) (h : Q oC s) : wpAny (model prog w) A (loadPart C p) Q E s := wpAny_loadPart P.c h
theorem p_partN {p : Option Value} {Q : Obj → Shared → Prop} (P : Pr h0 s.heap C ns oC oN) (h : Q oN s) : wpAny (model prog w) A (loadPart ns p) Q E s := wpAny_loadPart P.n h
theorem p_slot {i : Nat} {v : Option Value} {Q : Unit → Shared → Prop} (P : Pr h0 s.heap C ns oC oN) (hi : i < 100) (hf : ∀ sl, ({ oC with slots := sl } : Obj).isFreed = false)
    (hq : ∀ h', Pr h0 h' C ns { oC with slots := (oC.slots ++ Array.replicate (i + 1 - oC.slots.size) none).setIfInBounds i v } oN → Q () { s with heap := h' }) : wpAny (model prog w) A (setSlotAt C i v) Q E s := by
  unfold setSlotAt
  have hz' := sizeLine_eq
  refine wpAny_ite_false (decide_eq_false (show ¬ (i ≥ sizeLine) by rw [hz']; lia)) ?_
  exact updPart P.c (hf _) fun h' h1 h2 => hq h' (P.setC h1 h2)
theorem p_del {name : Str} {o' : Obj} {Q : Bool → Shared → Prop} (P : Pr h0 s.heap C ns oC oN) (e : nsHas name oN = pure true) (eo : Obj.dropName name oN = o') (hf : o'.isFreed = false)
    (hq : ∀ h', Pr h0 h' C ns oC o' → Q true { s with heap := h' }) : wpAny (model prog w) A (nsDel ns name) Q E s := by
  subst eo
  exact nsDel_at P.n e hf fun h' h1 h2 => hq h' (P.setN h1 h2)
theorem p_get {name : Str} {r : Option Value} {Q : Option Value → Shared → Prop} (P : Pr h0 s.heap C ns oC oN) (e : nsLook name oN = pure r) (hq : Q r s) : wpAny (model prog w) A (nsGet ns name) Q E s := nsGet_at P.n e hq
theorem p_cls {f : ClassData → ClassData} {cd : ClassData} {Q : Unit → Shared → Prop} {c : Value} {dt : Option Addr} {sl : Array (Option Value)} (P : Pr h0 s.heap C ns ⟨c, dt, .cls cd, sl⟩ oN) (hl : (Data.cls (f cd)).pastItsLine = none)
    (hq : ∀ h', Pr h0 h' C ns ⟨c, dt, .cls (f cd), sl⟩ oN → Q () { s with heap := h' }) : wpAny (model prog w) A (updateCls C f) Q E s := by
  unfold updateCls
  refine wpAny_bind (wpAny_load P.c ?_)
  refine wpAny_bind (updPart P.c rfl fun h' h1 h2 => ?_)
  unfold lookBehind
  refine wpAny_bind (wpAny_loadPart h1 ?_)
  show wpAny _ _ (match (Data.cls (f cd)).pastItsLine with | some what => unsupported what | _ => pure ()) _ _ _
  rw [hl]
  exact wpAny_pure (hq h' (P.setC h1 h2))
theorem p_cdata {cd : ClassData} {Q : ClassData → Shared → Prop} {c : Value} {dt : Option Addr} {sl : Array (Option Value)} (P : Pr h0 s.heap C ns ⟨c, dt, .cls cd, sl⟩ oN) (hq : Q cd s) : wpAny (model prog w) A (classData C) Q E s := by
  unfold classData
  exact wpAny_bind (wpAny_load P.c (wpAny_pure hq))
theorem p_set {name : Str} {v : Value} {es : Array DictEntry} {ep : Nat} {Q : Unit → Shared → Prop} (P : Pr h0 s.heap C ns oC (dOf es ep)) (e : aRefKeyMayBeTheName name es = false)
    (hf : ∀ x y, (Obj.putName name x y v (dOf es ep)).isFreed = false)
    (hq : ∀ h' t' x y, Pr h0 h' C ns oC (Obj.putName name x (.str name y) v (dOf es ep)) → Q () { s with heap := h', toks := t' }) : wpAny (model prog w) A (nsSet ns name v) Q E s :=
  nsSet_at P.n e hf fun h' t' x y h1 h2 => hq h' t' x y (P.setN h1 h2)
theorem p_look {name : Str} {cd : ClassData} {r : Option Value} {Q : Option Value → Shared → Prop} {c : Value} {dt : Option Addr} {sl : Array (Option Value)} (P : Pr h0 s.heap C ns ⟨c, dt, .cls cd, sl⟩ oN) (hm : cd.mro = [.ref C, .type "object"]) (hn : cd.ns = ns) (e : nsLook name oN = pure none) (e2 : builtinOwn "object" name = r)
    (hq : Q r s) : wpAny (model prog w) A (typeLookup (.ref C) name) Q E s := by
  subst e2
  unfold typeLookup
  show wpAny _ _ ((do return (← classData C).mro) >>= _) _ _ _
  refine wpAny_bind (wpAny_bind (p_cdata P (wpAny_pure ?_)))
  rw [hm]
  simp only [List.forIn_cons, List.forIn_nil, classOwn]
  refine wpAny_bind (wpAny_bind (wpAny_bind (wpAny_bind (p_cdata P ?_))))
  rw [hn]
  refine p_get P e ?_
  refine wpAny_pure ?_
  refine wpAny_bind (wpAny_bind (wpAny_pure ?_))
  generalize builtinOwn "object" name = r at hq
  (first | exact none_some r | exact some_none r | (obtain rfl := Option.some.inj r) | cases r)
  · exact wpAny_pure (wpAny_pure (wpAny_pure hq))
  · exact wpAny_pure (wpAny_pure (wpAny_pure hq))
theorem install_at {k : KF} {b : List Value} {ep : Nat} {cd : ClassData} {c : Value} {dt : Option Addr} {sl : Array (Option Value)} {Q : Unit → Shared → Prop} (hb : b = [.type "object"]) (P : Pr h0 s.heap C ns ⟨c, dt, .cls cd, sl⟩ (dOf (kEnt2 k) ep)) (hl : (Data.cls { cd with hasDict := false, slotNames := ["obj"] }).pastItsLine = none)
    (hq : ∀ h' t' x y z md, Pr h0 h' C ns ⟨c, dt, .cls { cd with hasDict := false, slotNames := ["obj"] }, sl⟩ (dOf (kEnt3 k x y md) (ep + 1)) → h'.get? md = some ⟨.type "member_descriptor", none, .fields #[.str "obj" z, .ref C, .builtin "proto.slot", .builtin "proto.slot#set", rawInt 0], #[]⟩ → (∀ b x, h0 b x → b ≠ md) → md ≠ C → md ≠ ns → Q () { s with heap := h', toks := t' }) :
    wpAny (model prog w) A (Builtin.Slots.install (.ref C) ns b { names := ["obj"], dict := false, weak := false, inherited := [] }) Q E s := by
  subst hb
  have f3 := fb_gd
  have f1 := kd_obj k ep
  have hz' := sizeLine_eq
  unfold Builtin.Slots.install newFields
  repeat (first | (with_reducible refine p_get P f1 ?_) | ((with_reducible refine newObj_at rfl ?hz ?hf fun md h2 e2 k2 => ?_); (case hz => (show (5 : Nat) ≤ sizeLine + 2; lia)); (case hf => rfl)) | (with_reducible refine byval_halt ?_) | wp_step)
  refine ⟨?_⟩
  have P2 : Pr (fun b x => h0 b x ∨ (b = md ∧ x = _)) h2 C ns _ _ := ⟨(k2 _ _ P.c).2, (k2 _ _ P.n).2, fun b x e => e.elim (fun e => ⟨(P.k b x e).1, (k2 _ _ (P.k b x e).2).2⟩) fun e => ⟨⟨fun e' => (k2 _ _ P.c).1 (e'.symm.trans e.1), fun e' => (k2 _ _ P.n).1 (e'.symm.trans e.1)⟩, by rw [e.1, e.2]; exact e2⟩, P.d⟩
  unfold nsSetByValue
  refine wpAny_bind (p_partN P2 ?_)
  refine wpAny_ite_false ?_ ?_
  · rw [hz']; rfl
  refine p_set P2 (kd_ref2 k) (fun x y => by rw [show Obj.putName _ _ _ _ _ = _ from rfl]; rfl) fun h3 t3 x y P3 => ?_
  repeat (first | ((with_reducible refine p_cls (by assumption) ?hl fun h4 P4 => ?_); (case hl => exact hl)) | wp_step)
  refine hq h4 _ x y s.toks md ((P4.mono fun b x e => .inl e).cast rfl (kd_push k ep x y md)) ?_ (fun b x e => (k2 b x (P.k b x e).2).1) ?_ ?_
  · exact (P4.k md _ (.inr ⟨rfl, rfl⟩)).2
  · exact fun e => (k2 _ _ P.c).1 e.symm
  · exact fun e => (k2 _ _ P.n).1 e.symm
end
end
end Mine

open PySem PySem.W PyProof.Rows PySem.Calls
namespace Mine
section
variable {prog : Program} {w : World} {A : Around} {E : Value → Shared → Prop} {s : Shared}
theorem cdata_at {C : Addr} {cd : ClassData} {c : Value} {dt : Option Addr} {sl : Array (Option Value)} {Q : ClassData → Shared → Prop} (e : s.heap.get? C = some ⟨c, dt, .cls cd, sl⟩) (hq : Q cd s) : wpAny (model prog w) A (classData C) Q E s := by
  unfold classData
  exact wpAny_bind (wpAny_load e (wpAny_pure hq))
theorem mro_at {C : Addr} {cd : ClassData} {c : Value} {dt : Option Addr} {sl : Array (Option Value)} {Q : List Value → Shared → Prop} (e : s.heap.get? C = some ⟨c, dt, .cls cd, sl⟩) (hq : Q cd.mro s) : wpAny (model prog w) A (mroOf (.ref C)) Q E s := by
  show wpAny _ _ (do return (← classData C).mro) _ _ _
  exact wpAny_bind (cdata_at e (wpAny_pure hq))
theorem sub_self {C : Addr} {cd : ClassData} {c : Value} {dt : Option Addr} {sl : Array (Option Value)} {Q : Bool → Shared → Prop} (e : s.heap.get? C = some ⟨c, dt, .cls cd, sl⟩) (hm : cd.mro = [.ref C, .type "object"]) (hq : Q true s) : wpAny (model prog w) A (isSubtype (.ref C) (.ref C)) Q E s := by
  unfold isSubtype
  refine wpAny_bind (mro_at e ?_)
  rw [hm]
  repeat wp_step
  exact post_cast (by first | rfl | decide | simp) hq
theorem sub_obj {C : Addr} {o : String} {cd : ClassData} {c : Value} {dt : Option Addr} {sl : Array (Option Value)} {Q : Bool → Shared → Prop} (e : s.heap.get? C = some ⟨c, dt, .cls cd, sl⟩) (hm : cd.mro = [.ref C, .type "object"]) (eo : o = "object") (hq : Q true s) : wpAny (model prog w) A (isSubtype (.ref C) (.type o)) Q E s := by
  subst eo
  unfold isSubtype
  refine wpAny_bind (mro_at e ?_)
  rw [hm]
  repeat wp_step
  exact post_cast (by first | rfl | decide | simp) hq
theorem super_made {C : Addr} {cd : ClassData} {c : Value} {dt : Option Addr} {sl : Array (Option Value)} {Q : Value → Shared → Prop} (e : s.heap.get? C = some ⟨c, dt, .cls cd, sl⟩) (hm : cd.mro = [.ref C, .type "object"])
    (hq : ∀ a h', h'.get? a = some ⟨.type "super", none, .fields #[.ref C, .ref C, .ref C], #[]⟩ → (∀ b o, s.heap.get? b = some o → h'.get? b = some o) → Q (.ref a) { s with heap := h' }) : wpAny (model prog w) A (call (.type "super") [.ref C, .ref C]) Q E s := by
  refine ks_callType_codesW (Q₁ := fun obj s₁ => obj = .ref s.heap.objs.size ∧ s₁ = { s with heap := s.heap.push { cls := .type "super", data := .fields #[.none, .none, .none] } }) F.ks_called_super (ks_wpAny_checkTypeCall_super e rfl) F.ks_entry_super_init
    (ks_code_super_new _ _ ⟨rfl, rfl⟩) fun obj s₁ h₁ => ?_
  obtain ⟨rfl, rfl⟩ := h₁
  have up : ∀ y o, s.heap.get? y = some o → (s.heap.push { cls := .type "super", data := .fields #[.none, .none, .none] }).get? y = some o := fun y o e => Heap.get?_push_of_some _ e
  have hso : (s.heap.push { cls := .type "super", data := .fields #[.none, .none, .none] }).get? s.heap.objs.size = some { cls := .type "super", dict := none, data := .fields #[.none, .none, .none], slots := #[] } := Heap.get?_push_at rfl rfl
  have e' := up _ _ e
  refine ⟨⟨_, hso, rfl⟩, F.ks_initArgs_super _ _ _, ?_⟩
  unfold Builtin.«super.__init__» noKeywords
  repeat (first | (with_reducible refine ks_wpAny_isType_cls e' rfl ?_) | (with_reducible refine sub_self e' hm ?_) | (with_reducible refine ks_wpAny_super_set3 hso ?_) | wp_step)
  exact fun h' e2 k => ⟨rfl, hq _ h' e2 fun b o eb => k b o (fun e3 => Nat.lt_irrefl b (by have := Heap.lt_size eb; rw [e3] at this ⊢; exact this)) (up b o eb)⟩
theorem stat_keep {h h' : Heap} (e : statOk (h.get? 2) = true) (k : ∀ b o, h.get? b = some o → h'.get? b = some o) : statOk (h'.get? 2) = true := by
  cases q : h.get? 2 with
  | none => rw [q] at e; (first | exact none_some e | exact some_none e | (obtain rfl := Option.some.inj e) | cases e)
  | some o => rw [k _ o q, ← q]; exact e
theorem stat_opaque {C : Addr} {Q : Option Str → Shared → Prop} (e : statOk (s.heap.get? 2) = true) (hq : Q none s) : wpAny (model prog w) A (opaqueClassAbove (.ref C)) Q E s := by
  unfold statOk at e
  cases q : s.heap.get? 2 with
  | none => rw [q] at e; (first | exact none_some e | exact some_none e | (obtain rfl := Option.some.inj e) | cases e)
  | some o =>
    rw [q] at e
    simp only at e
    unfold opaqueClassAbove anyOpaqueLoaded
    have e' : nsLook "thirdparty.any" o = pure none := by
      split at e
      · assumption
      · (first | exact none_some e | exact some_none e | (obtain rfl := Option.some.inj e) | cases e)
    refine wpAny_bind (wpAny_bind (nsGet_at (s := s) q e' (wpAny_pure ?_)))
    exact wpAny_ite_true rfl (wpAny_pure hq)
theorem stat_not {what how : String} {C : Addr} {Q : Unit → Shared → Prop} (e : statOk (s.heap.get? 2) = true) (hq : Q () s) : wpAny (model prog w) A (notOfAnOpaqueClass what how (.ref C)) Q E s := by
  unfold notOfAnOpaqueClass
  exact wpAny_bind (stat_opaque e (wpAny_pure hq))
theorem slot_cmget : Slot "classmethod_descriptor" "__get__" "classmethod_descriptor.__get__" := .of (owner := "classmethod_descriptor") (n := "__get__") (by rw [typeLookup_type, builtinLookup_eq_fast]; kernel_rfl) (by decide +kernel) (by decide +kernel) (by decide +kernel)
  (by first | exact .inl (by decide +kernel) | exact .inr (by decide +kernel)) (by rw [isSubtype_type]; kernel_rfl)
theorem entry_cmget : entryFor table "classmethod_descriptor.__get__" = some Builtin.«classmethod_descriptor.__get__» := entryFor_of_tree (by kernel_rfl)
theorem args_cmget (a b c : Value) : argsOk "classmethod_descriptor.__get__" ⟨[a, b, c], []⟩ := by unfold argsOk; kernel_rfl
theorem super_ga {so C : Addr} {cd : ClassData} {c : Value} {dt : Option Addr} {sl : Array (Option Value)} {tk : Tok} {Q : PySem.Fin → Shared → Prop} (hst : statOk (s.heap.get? 2) = true) (e : s.heap.get? C = some ⟨c, dt, .cls cd, sl⟩) (hm : cd.mro = [.ref C, .type "object"])
    (hso : s.heap.get? so = some ⟨.type "super", none, .fields #[.ref C, .ref C, .ref C], #[]⟩)
    (hq : ∀ a h', h'.get? a = some ⟨.type "builtin_function_or_method", none, .fields #[.builtin "object.__init_subclass__", .ref C], #[]⟩ → (∀ b o, s.heap.get? b = some o → h'.get? b = some o) → Q (.done (.ret (.ref a))) { s with heap := h' }) :
    wpAny (model prog w) A (Builtin.«super.__getattribute__» ⟨[.ref so, .str "__init_subclass__" tk], []⟩) Q E s := by
  have hdt : ({ cls := .type "super", dict := none, data := .fields #[.ref C, .ref C, .ref C], slots := #[] } : Obj).data = .fields #[.ref C, .ref C, .ref C] := rfl
  have f0 : (#[.ref C, .ref C, .ref C] : Array Value)[0]? = some (.ref C) := rfl
  have f1 : (#[.ref C, .ref C, .ref C] : Array Value)[1]? = some (.ref C) := rfl
  have f2 : (#[.ref C, .ref C, .ref C] : Array Value)[2]? = some (.ref C) := rfl
  have fi : builtinOwn "object" "__init_subclass__" = some (.builtin "object.__init_subclass__") := by kernel_rfl
  have fi2 : classOwn (.type "object") "__init_subclass__" = pure (some (.builtin "object.__init_subclass__")) := by kernel_rfl
  have ft : s.TypeIs (.builtin "object.__init_subclass__") "classmethod_descriptor" := by show typeOf _ = _; kernel_rfl
  have fl := slot_cmget.lookup
  have fd : (List.dropWhile (fun x => x != Value.ref C) [Value.ref C, Value.type "object"]).drop 1 = [Value.type "object"] := by simp
  unfold Builtin.«super.__getattribute__»
  repeat (first
    | (with_reducible refine wpAny_field hso hdt f0 ?_) | (with_reducible refine wpAny_field hso hdt f1 ?_) | (with_reducible refine wpAny_field hso hdt f2 ?_)
    | (with_reducible refine stat_not hst ?_)
    | (with_reducible refine mro_at e ?_; rw [hm, fd])
    | (with_reducible refine wpAny_typeOf ft ?_)
    | (with_reducible refine wpAny_call_entry slot_cmget ft entry_cmget ?_ (args_cmget _ _ _))
    | ((with_reducible refine sub_obj e hm ?ho ?_); (case ho => kernel_rfl))
    | (with_reducible refine ks_wpAny_isType_cls e rfl ?_)
    | ((with_reducible refine newObj_at rfl ?hz ?hf fun a h1 e1 k1 => ?_); (case hz => (show (2 : Nat) ≤ sizeLine + 2; rw [sizeLine_eq]; decide)); (case hf => rfl))
    | wp_step)
  refine ⟨_, rfl, ?_⟩
  repeat wp_step
  exact hq a h1 e1 fun b o e => (k1 b o e).2
theorem hook_get {so C : Addr} {cd : ClassData} {c : Value} {dt : Option Addr} {sl : Array (Option Value)} {Q : Value → Shared → Prop} (hst : statOk (s.heap.get? 2) = true) (e : s.heap.get? C = some ⟨c, dt, .cls cd, sl⟩) (hm : cd.mro = [.ref C, .type "object"])
    (hso : s.heap.get? so = some ⟨.type "super", none, .fields #[.ref C, .ref C, .ref C], #[]⟩)
    (hq : ∀ a h' t', h'.get? a = some ⟨.type "builtin_function_or_method", none, .fields #[.builtin "object.__init_subclass__", .ref C], #[]⟩ → (∀ b o, s.heap.get? b = some o → h'.get? b = some o) → Q (.ref a) { s with heap := h', toks := t' }) :
    wpAny (model prog w) A (getAttr (.ref so) "__init_subclass__") Q E s := by
  have hlk := F.ks_slot_super_ga.lookup
  have hT : ∀ t', ({ s with toks := t' } : Shared).TypeIs (.ref so) "super" := fun _ => ⟨_, hso, rfl⟩
  unfold getAttr getAttrBy
  refine wpAny_bind (wpAny_mkText (wpAny_holding (wpAny_bind (wpAny_typeOf (hT _) (wpAny_bind (wpAny_of_eq hlk ?_))))))
  show wpAny _ _ (getAttrByItsOwn (.ref so) (.str "__init_subclass__" s.toks) (.type "super") (.builtin "super.__getattribute__") true false) _ _ _
  unfold getAttrByItsOwn hookBefore callGetattribute boundAndCalled
  refine wpAny_bind (wpAny_of_eq (show (if onTheHeap (.type "super") then typeLookup (.type "super") "__getattr__" else pure none) = pure none from rfl) ?_)
  refine wpAny_bind (wpAny_attempt (wpAny_holding ?_))
  show wpAny _ _ (bindSpecial (.builtin "super.__getattribute__") (.ref so) >>= _) _ _ _
  refine wpAny_bind (wpAny_of_eq (F.ks_slot_super_ga.bind _) ?_)
  refine wpAny_mono (Q := fun v s' => ∃ a h', v = .ref a ∧ s' = { s with heap := h', toks := s.toks + 1 } ∧ h'.get? a = some ⟨.type "builtin_function_or_method", none, .fields #[.builtin "object.__init_subclass__", .ref C], #[]⟩ ∧ (∀ b o, s.heap.get? b = some o → h'.get? b = some o)) (E := fun _ _ => False)
    (wpAny_call_entry F.ks_slot_super_ga (hT _) F.ks_entry_super_ga (super_ga (s := { s with toks := s.toks + 1 }) hst e hm hso fun a h' e1 k1 => ⟨_, rfl, a, h', rfl, rfl, e1, k1⟩) (F.ks_gaArgs_super _ _)) (fun v s' hv => ?_) fun _ _ z => z.elim
  obtain ⟨a, h', rfl, rfl, e1, k1⟩ := hv
  exact wpAny_pure (hq a h' _ e1 k1)
theorem entry_isub : entryFor table "object.__init_subclass__" = some Builtin.«object.__init_subclass__» := entryFor_of_tree (by kernel_rfl)
theorem plain_isub : plainId "object.__init_subclass__" = true := by decide +kernel
theorem hook_call {b C ns T0 : Addr} {t0 tq : Tok} {Q : Value → Shared → Prop} (e : s.heap.get? C = some (clsO ns C T0 t0 tq))
    (hb : s.heap.get? b = some ⟨.type "builtin_function_or_method", none, .fields #[.builtin "object.__init_subclass__", .ref C], #[]⟩) (hq : Q .none s) : wpAny (model prog w) A (call (.ref b) [] []) Q E s := by
  refine wpAny_call (codeAny_of_tree ?_)
  show wpAny _ A.in1 (callAny (.ref b) ⟨[], []⟩) _ _ s
  simp only [callAny]
  refine wpAny_bind (wpAny_load hb ?_)
  have hT : s.TypeIs (.ref C) "type" := ⟨_, e, rfl⟩
  show wpAny _ _ (checkBoundCall "object.__init_subclass__" ⟨[.ref C], []⟩ >>= fun _ => again (.builtin "object.__init_subclass__" ⟨[.ref C], []⟩)) _ _ s
  have f0 : isSubtype (.type "type") (.type "module") = pure false := by rw [isSubtype_type]; kernel_rfl
  have fin : wpAny (model prog w) A.in1 (checkBoundCall "object.__init_subclass__" ⟨[.ref C], []⟩) (fun _ s' => s' = s) (fun e s' => E e s') s := by
    unfold checkBoundCall
    repeat (any_goals (first | assumption | (with_reducible refine ks_wpAny_isType_cls e rfl ?_) | (with_reducible refine cdata_at e ?_) | wp_step))
    all_goals rfl
  refine wpAny_bind (wpAny_mono fin (fun _ s' e => ?_) fun _ _ x => x)
  subst e
  refine wpAny_pure (a := PySem.Fin.again (.builtin "object.__init_subclass__" ⟨[.ref C], []⟩)) ⟨plainId_quiet plain_isub _, codeAny_builtin entry_isub ?_⟩
  rw [Around.under_plainId plain_isub _]
  unfold Builtin.«object.__init_subclass__»
  repeat wp_step
  exact hq
end
end Mine

open PySem PySem.W PyProof.Rows PySem.Calls
namespace Mine
theorem kEnt_room (k : KF) : sizeOk (.dict (kEnt k) 0) := by
  show (kEnt k).size ≤ sizeLine + 1
  rw [show (kEnt k).size = 12 from rfl, sizeLine_eq]; decide
abbrev cOf (ns : Addr) (mro : List Value) (sl : Array (Option Value)) : Obj := ⟨.type "type", none, .cls { name := "K", bases := [.type "object"], mro, ns, qualname := "cmp_to_key.<locals>.K" }, sl⟩
section
variable {prog : Program} {w : World} {A : Around} {E : Value → Shared → Prop} {s : Shared}
theorem filter_self (a : Addr) : List.filter (fun x => x != Value.ref a) [Value.ref a, Value.type "object"] = [Value.type "object"] := by simp
theorem any_by {f : Value → Sem Bool} {Q : Bool → Shared → Prop} (e : f (.type "object") = pure false) (h : Q false s) : wpAny (model prog w) A (List.anyM f [Value.type "object"]) Q E s := by
  unfold List.anyM
  rw [e]
  refine wpAny_bind (wpAny_pure ?_)
  unfold List.anyM
  exact wpAny_pure h
theorem inst_halt {v : Value} {a : Addr} {b : List Value} {p : Builtin.Slots.Plan} {Q : Unit → Shared → Prop} (h : Halt (wpAny (model prog w) A (Builtin.Slots.install v a b p) Q E s)) : wpAny (model prog w) A (Builtin.Slots.install v a b p) Q E s := h.go
theorem nsset_halt {a : Addr} {n : Str} {v : Value} {Q : Unit → Shared → Prop} (h : Halt (wpAny (model prog w) A (nsSet a n v) Q E s)) : wpAny (model prog w) A (nsSet a n v) Q E s := h.go
theorem kEnt4_vals (k : KF) (x x' : Int) (y y' : Tok) (md : Addr) : ∀ e ∈ (kEnt4 k x x' y y' md).toList, (∃ n t, e.key = .str n t) ∧ ((∃ n t, e.val = .str n t) ∨ (∃ n t, e.val = .int n t) ∨ e.val = .none ∨ e.val = .ref k.sl ∨ e.val = .ref k.st ∨ e.val = .ref md ∨ ∃ i, i < 6 ∧ e.val = .ref (k.f i)) := by
  refine List.forall_mem_cons.mpr ⟨⟨⟨_, _, rfl⟩, .inl ⟨_, _, rfl⟩⟩, ?_⟩
  refine List.forall_mem_cons.mpr ⟨⟨⟨_, _, rfl⟩, .inr (.inl ⟨_, _, rfl⟩)⟩, ?_⟩
  refine List.forall_mem_cons.mpr ⟨⟨⟨_, _, rfl⟩, .inr (.inr (.inr (.inl rfl)))⟩, ?_⟩
  refine List.forall_mem_cons.mpr ⟨⟨⟨_, _, rfl⟩, .inr (.inr (.inr (.inr (.inr (.inr ⟨0, by decide, rfl⟩)))))⟩, ?_⟩
  refine List.forall_mem_cons.mpr ⟨⟨⟨_, _, rfl⟩, .inr (.inr (.inr (.inr (.inr (.inr ⟨1, by decide, rfl⟩)))))⟩, ?_⟩
  refine List.forall_mem_cons.mpr ⟨⟨⟨_, _, rfl⟩, .inr (.inr (.inr (.inr (.inr (.inr ⟨2, by decide, rfl⟩)))))⟩, ?_⟩
  refine List.forall_mem_cons.mpr ⟨⟨⟨_, _, rfl⟩, .inr (.inr (.inr (.inr (.inr (.inr ⟨3, by decide, rfl⟩)))))⟩, ?_⟩
  refine List.forall_mem_cons.mpr ⟨⟨⟨_, _, rfl⟩, .inr (.inr (.inr (.inr (.inr (.inr ⟨4, by decide, rfl⟩)))))⟩, ?_⟩
  refine List.forall_mem_cons.mpr ⟨⟨⟨_, _, rfl⟩, .inr (.inr (.inr (.inr (.inr (.inr ⟨5, by decide, rfl⟩)))))⟩, ?_⟩
  refine List.forall_mem_cons.mpr ⟨⟨⟨_, _, rfl⟩, .inr (.inr (.inl rfl))⟩, ?_⟩
  refine List.forall_mem_cons.mpr ⟨⟨⟨_, _, rfl⟩, .inr (.inr (.inr (.inr (.inl rfl))))⟩, ?_⟩
  refine List.forall_mem_cons.mpr ⟨⟨⟨_, _, rfl⟩, .inr (.inr (.inr (.inr (.inr (.inl rfl)))))⟩, ?_⟩
  refine List.forall_mem_cons.mpr ⟨⟨⟨_, _, rfl⟩, .inr (.inr (.inl rfl))⟩, ?_⟩
  exact fun e he => nil_elim he
theorem kEnt4_keys (k : KF) (x x' : Int) (y y' : Tok) (md : Addr) : ∀ e ∈ (kEnt4 k x x' y y' md).toList, ∃ n t, e.key = .str n t := fun e he => (kEnt4_vals k x x' y y' md e he).1
theorem type_new {k : KF} {t0 t1 : Tok} {nsA T0 : Addr} {ep lep tep : Nat} {Q : PySem.Fin → Shared → Prop} (hh : A.handled = none)
    (hns : s.heap.get? nsA = some ⟨.type "dict", none, .dict (kEnt k) ep, #[]⟩) (hT : s.heap.get? T0 = some ⟨.type "tuple", none, .seq #[.type "object"] tep, #[]⟩)
    (hL : s.heap.get? k.sl = some ⟨.type "list", none, .seq #[.str "obj" t1] lep, #[]⟩) (hsm : (nsA == sysModules) = false)
    (hfn : ∀ i, i < 6 → s.TypeIs (.ref (k.f i)) "function") (hst : s.TypeIs (.ref k.st) "tuple") (hs2 : statOk (s.heap.get? 2) = true)
    (hq : ∀ h' t' C ns md x x' y y' z, h'.get? C = some (clsO ns C T0 t0 k.tq) → h'.get? ns = some (dOf (kEnt4 k x x' y y' md) 3) → h'.get? md = some ⟨.type "member_descriptor", none, .fields #[.str "obj" z, .ref C, .builtin "proto.slot", .builtin "proto.slot#set", rawInt 0], #[]⟩ →
      (∀ b o, s.heap.get? b = some o → (b ≠ C ∧ b ≠ ns) ∧ h'.get? b = some o) → Q (.done (.ret (.ref C))) { s with heap := h', toks := t' }) :
    wpAny (model prog w) A (Builtin.«type.__new__» ⟨[.type "type", .str "K" t0, .ref T0, .ref nsA], []⟩) Q E s := by
  have f1 : isSubtype (.type "tuple") (.type "tuple") = pure true := by rw [isSubtype_type]; kernel_rfl
  have f2 : isSubtype (.type "dict") (.type "dict") = pure true := by rw [isSubtype_type]; kernel_rfl
  have f3 : isSubtype (.type "type") (.type "type") = pure true := by rw [isSubtype_type]; kernel_rfl
  have hT1 : s.TypeIs (.ref T0) "tuple" := ⟨_, hT, rfl⟩
  have hD1 : s.TypeIs (.ref nsA) "dict" := ⟨_, hns, rfl⟩
  have f6 : typeLookup (.type "dict") "__iter__" = pure (some (.builtin "dict.__iter__")) := by rw [typeLookup_type, builtinLookup_eq_fast]; kernel_rfl
  unfold Builtin.«type.__new__»
  repeat wp_step
  rw [fb_meta]
  repeat (first | ((with_reducible apply turn_by); focus (rfl; done)) | ((with_reducible apply ext_by); focus (rfl; done)) | (with_reducible refine read_halt ?_) | wp_step)
  refine ⟨?_⟩
  refine read_by hL ?ha ?hb fun h1 hh1 => ?_
  case ha => rfl
  case hb => rfl
  repeat (first | (with_reducible refine newObj_at rfl (kEnt_room _) rfl fun a2 h2 e2 k2 => ?_) | wp_step)
  refine wpAny_ite_false (by kernel_rfl) ?_
  repeat wp_step
  refine wpAny_ite_false (by kernel_rfl) ?_
  repeat wp_step
  refine wpAny_ite_false (by kernel_rfl) ?_
  repeat (first | (with_reducible refine nsGet_at (by assumption) (kd_qual k _) ?_) | (with_reducible refine nsGet_at (by assumption) (kd_doc k _) ?_) | (with_reducible refine alloc_halt ?_) | wp_step)
  refine ⟨allocAt rfl fun a3 h3 e3 k3 => ?_⟩
  have P3 : Pr (fun b x => s.heap.get? b = some x) h3 a3 a2 (cOf a2 [] #[]) (dOf (kEnt k) 0) := ⟨e3, (k3 _ _ e2).2, fun b x hb => ⟨⟨(k3 _ _ (k2 _ _ (hh1 _ _ hb)).2).1, (k2 _ _ (hh1 _ _ hb)).1⟩, (k3 _ _ (k2 _ _ (hh1 _ _ hb)).2).2⟩, fun e => (k3 _ _ e2).1 e.symm⟩
  have f7 := fb_hook
  repeat (first | ((with_reducible refine p_slot (by assumption) ?hi ?hf fun h4 P4 => ?_); (case hi => decide); (case hf => exact fun _ => rfl)) | (with_reducible refine p_del (by assumption) (kd_has k _) (kd_drop k _) rfl fun h4 P4 => ?_) | (with_reducible refine p_get (by assumption) (kd_new k _) ?_) | (with_reducible refine p_get (by assumption) (kd_sub k _) ?_) | (with_reducible refine p_get (by assumption) (kd_cgi k _) ?_) | (with_reducible refine p_get (by assumption) (kd_cc k _) ?_) | (with_reducible refine p_get (by assumption) (kd_cdc k _) ?_) | ((with_reducible apply lin_by); focus (rfl; done)) | wp_step)
  have P5 : Pr (fun b x => s.heap.get? b = some x) h4 a3 a2 (cOf a2 [] #[some (.ref T0), none, some (.str "K" t0), some (.str "cmp_to_key.<locals>.K" k.tq)]) (dOf (kEnt2 k) 1) := P4.cast (by kernel_rfl) (by kernel_rfl)
  clear P4
  rw [filter_self]
  with_reducible refine any_by ?_ ?_
  · kernel_rfl
  have f8 := fb_made
  refine wpAny_bind ?_
  with_reducible refine p_cls P5 ?_ fun h6 P6 => ?_
  · kernel_rfl
  have f9 : builtinOwn "object" "__new__" = some (.builtin "object.__new__") := by kernel_rfl
  repeat (first | ((with_reducible refine p_slot (by assumption) ?hi ?hf fun h4 P4 => ?_); (case hi => decide); (case hf => exact fun _ => rfl)) | (with_reducible refine p_get (by assumption) (kd_new k _) ?_) | (with_reducible refine p_cdata (by assumption) ?_) | (with_reducible refine p_partC (by assumption) ?_) | (with_reducible refine inst_halt ?_) | wp_step)
  have P7 : Pr (fun b x => s.heap.get? b = some x) h4 a3 a2 (cOf a2 [.ref a3, .type "object"] #[some (.ref T0), none, some (.str "K" t0), some (.str "cmp_to_key.<locals>.K" k.tq), some (.builtin "object.__new__")]) (dOf (kEnt2 k) 1) := P4.cast (by kernel_rfl) (by kernel_rfl)
  clear P4 P5 P6 P3
  with_reducible refine p_look P7 rfl rfl (kd_new k _) f9 ?_
  repeat (first | (with_reducible refine inst_halt ?_) | wp_step)
  refine wpAny_ite_false (by kernel_rfl) ?_
  repeat (first | (with_reducible refine inst_halt ?_) | wp_step)
  refine ⟨?_⟩
  with_reducible refine install_at ?hb P7 ?hl fun h8 t8 x8 y8 z8 md P8 e8 n8 n8' n8'' => ?_
  case hb => rfl
  case hl => kernel_rfl
  have P9 := P8.add e8 n8' n8''
  clear P7 P8
  have f10 := fb_gw
  repeat (first | ((with_reducible refine p_slot (by assumption) ?hi ?hf fun h4 P4 => ?_); (case hi => decide); (case hf => exact fun _ => rfl)) | (with_reducible refine p_get (by assumption) (kd_doc3 k _ _ _ _) ?_) | (with_reducible refine nsset_halt ?_) | wp_step)
  have P10 : Pr (fun b x => s.heap.get? b = some x ∨ (b = md ∧ x = _)) h4 a3 a2 (clsO a2 a3 T0 t0 k.tq) (dOf (kEnt3 k x8 y8 md) 2) := P4.cast (by kernel_rfl) (by kernel_rfl)
  clear P4 P9 e8 n8 n8' n8''
  refine ⟨?_⟩
  with_reducible refine p_set P10 (kd_ref3 k x8 y8 md) ?hf fun h11 t11 x11 y11 P11 => ?_
  case hf => intro x y; kernel_rfl
  have P12 : Pr (fun b x => s.heap.get? b = some x ∨ (b = md ∧ x = _)) h11 a3 a2 (clsO a2 a3 T0 t0 k.tq) (dOf (kEnt4 k x8 x11 y8 y11 md) 3) := P11.cast rfl (kd_push2 k _ _ _ _ _ md)
  clear P10 P11
  have f11 : Builtin.noteSubclassOfBuiltin "object" a3 = pure () := by kernel_rfl
  repeat (first | (with_reducible refine p_get P12 (kd_eq4 k _ _ _ _ _ _) ?_) | (with_reducible refine p_get P12 (kd_hash4 k _ _ _ _ _ _) ?_) | (with_reducible refine p_partN P12 ?_) | (with_reducible refine arr_halt ?_) | (with_reducible refine catch_by ?_) | wp_step)
  refine ⟨?_⟩
  refine forInA_same (fun e he Q' hQ' => ?_) ?_
  · obtain ⟨x, t, ex⟩ := kEnt4_keys k _ _ _ _ _ e he
    rw [ex]
    repeat wp_step
    exact hQ'
  have g1 : typeLookup (.type "function") "__set_name__" = pure none := by rw [typeLookup_type, builtinLookup_eq_fast]; kernel_rfl
  have g2 : typeLookup (.type "tuple") "__set_name__" = pure none := by rw [typeLookup_type, builtinLookup_eq_fast]; kernel_rfl
  have g3 : typeLookup (.type "list") "__set_name__" = pure none := by rw [typeLookup_type, builtinLookup_eq_fast]; kernel_rfl
  have g4 : typeLookup (.type "str") "__set_name__" = pure none := by rw [typeLookup_type, builtinLookup_eq_fast]; kernel_rfl
  have g5 : typeLookup (.type "int") "__set_name__" = pure none := by rw [typeLookup_type, builtinLookup_eq_fast]; kernel_rfl
  have g6 : typeLookup (.type "NoneType") "__set_name__" = pure none := by rw [typeLookup_type, builtinLookup_eq_fast]; kernel_rfl
  have g7 : typeLookup (.type "member_descriptor") "__set_name__" = pure none := by rw [typeLookup_type, builtinLookup_eq_fast]; kernel_rfl
  repeat (first | (with_reducible refine p_partN P12 ?_) | (with_reducible refine arr_halt ?_) | (with_reducible refine call_halt ?_) | wp_step)
  refine ⟨?_⟩
  refine forInA_same (fun e he Q' hQ' => ?_) ?_
  · have hv := kEnt4_vals k _ _ _ _ _ e he
    have hk : ∀ b o, s.heap.get? b = some o → h11.get? b = some o := fun b o eb => (P12.k b o (.inl eb)).2
    obtain ⟨⟨n, tn, en⟩, hv⟩ := hv
    obtain ⟨T, hT, hl, hn⟩ : ∃ T : String, ({ s with heap := h11, toks := t11 } : Shared).TypeIs e.val T ∧ typeLookup (.type T) "__set_name__" = pure none ∧ Builtin.laidUnderItsOwnName e.key e.val = false := by
      rcases hv with ⟨m, u, ev⟩ | ⟨m, u, ev⟩ | ev | ev | ev | ev | ⟨i, hi, ev⟩
      · exact ⟨"str", by rw [ev]; rfl, g4, by rw [en, ev]; rfl⟩
      · exact ⟨"int", by rw [ev]; rfl, g5, by rw [en, ev]; rfl⟩
      · exact ⟨"NoneType", by rw [ev]; rfl, g6, by rw [en, ev]; rfl⟩
      · exact ⟨"list", by rw [ev]; exact ⟨_, hk _ _ hL, rfl⟩, g3, by rw [en, ev]; rfl⟩
      · exact ⟨"tuple", by rw [ev]; obtain ⟨o, eo, co⟩ := hst; exact ⟨o, hk _ _ eo, co⟩, g2, by rw [en, ev]; rfl⟩
      · exact ⟨"member_descriptor", by rw [ev]; exact ⟨_, (P12.k md _ (.inr ⟨rfl, rfl⟩)).2, rfl⟩, g7, by rw [en, ev]; rfl⟩
      · exact ⟨"function", by rw [ev]; obtain ⟨o, eo, co⟩ := hfn i hi; exact ⟨o, hk _ _ eo, co⟩, g1, by rw [en, ev]; rfl⟩
    rw [if_neg (by rw [hn]; decide)]
    refine wpAny_bind (wpAny_specialOf hT hl ?_)
    exact wpAny_pure hQ'
  repeat (first | (with_reducible refine call_halt ?_) | wp_step)
  refine ⟨?_⟩
  have hk : ∀ b o, s.heap.get? b = some o → h11.get? b = some o := fun b o eb => (P12.k b o (.inl eb)).2
  refine super_made P12.c rfl fun so h13 e13 k13 => ?_
  refine wpAny_bind (wpAny_holding ?_)
  refine hook_get (stat_keep (stat_keep hs2 hk) k13) (k13 _ _ P12.c) rfl e13 fun bm h14 t14 e14 k14 => ?_
  refine wpAny_bind (hook_call (k14 _ _ (k13 _ _ P12.c)) e14 ?_)
  refine wpAny_pure (wpAny_pure ?_)
  exact hq h14 t14 a3 a2 md x8 x11 y8 y11 z8 (k14 _ _ (k13 _ _ P12.c)) (k14 _ _ (k13 _ _ P12.n)) (k14 _ _ (k13 _ _ (P12.k md _ (.inr ⟨rfl, rfl⟩)).2)) fun b o eb => ⟨(P12.k b o (.inl eb)).1, k14 _ _ (k13 _ _ (hk b o eb))⟩
end
end Mine

open PySem PySem.W PyProof.Rows PySem.Calls
namespace Mine
section
variable {prog : Program} {w : World} {A : Around} {E : Value → Shared → Prop} {s : Shared}
theorem entry_tnew : entryFor table "type.__new__" = some Builtin.«type.__new__» := entryFor_of_tree (by kernel_rfl)
theorem plain_tnew : plainId "type.__new__" = true := by decide +kernel
theorem check_tnew (t0 : Tok) (a b : Addr) : checkBuiltinCall "type.__new__" ⟨[.type "type", .str "K" t0, .ref a, .ref b], []⟩ = pure () := by kernel_rfl
theorem slot_tinit : Slot "type" "__init__" "type.__init__" := .of (owner := "type") (n := "__init__") (by rw [typeLookup_type, builtinLookup_eq_fast]; kernel_rfl) (by decide +kernel) (by decide +kernel) (by decide +kernel)
  (by first | exact .inl (by decide +kernel) | exact .inr (by decide +kernel)) (by rw [isSubtype_type]; kernel_rfl)
theorem entry_tinit : entryFor table "type.__init__" = some Builtin.«type.__init__» := entryFor_of_tree (by kernel_rfl)
theorem args_tinit (o a b c : Value) : argsOk "type.__init__" ⟨[o, a, b, c], []⟩ := by unfold argsOk; kernel_rfl
theorem made_type : Bind.madeBy (.type "type") = pure (some "type.__new__") := by kernel_rfl
theorem check_type (a b c : Value) : checkTypeCall "type" ⟨[a, b, c], []⟩ = pure () := by kernel_rfl
theorem type_call {t0 : Tok} {T0 nsA : Addr} {Q : Value → Shared → Prop}
    (hnew : wpAny (model prog w) A.in1.in1 (Builtin.«type.__new__» ⟨[.type "type", .str "K" t0, .ref T0, .ref nsA], []⟩) (fun fin s' => ∃ C o, fin = .done (.ret (.ref C)) ∧ s'.heap.get? C = some o ∧ o.cls = .type "type" ∧ Q (.ref C) s') (fun _ _ => False) s) :
    wpAny (model prog w) A (call (.type "type") [.str "K" t0, .ref T0, .ref nsA]) Q E s := by
  have f1 := made_type
  have f2 := check_type (.str "K" t0) (.ref T0) (.ref nsA)
  refine wpAny_call (codeAny_of_tree ?_)
  show wpAny _ _ (callAny (.type "type") _) _ _ _
  refine wpAny_pure ⟨Code.quiet_builtin _ (by decide +kernel), codeAny_builtin F.entry_type_call ?_⟩
  rw [Around.under_plain (PySem.weight_type_call_type "type" _ []) rfl]
  unfold Builtin.«type.__call__»
  repeat wp_step
  refine codeAny_of_tree ?_
  show wpAny _ A.in1.in1 (do checkBuiltinCall "type.__new__" ⟨[.type "type", .str "K" t0, .ref T0, .ref nsA], []⟩; again (.builtin "type.__new__" ⟨[.type "type", .str "K" t0, .ref T0, .ref nsA], []⟩)) _ _ s
  refine wpAny_bind (wpAny_of_eq (check_tnew t0 T0 nsA) (wpAny_pure ⟨plainId_quiet plain_tnew _, codeAny_builtin entry_tnew ?_⟩))
  rw [Around.under_plainId plain_tnew _]
  refine wpAny_mono hnew (fun fin s' h => ?_) fun _ _ z => z.elim
  obtain ⟨C, o, rfl, e, ec, hq⟩ := h
  have hT : s'.TypeIs (.ref C) "type" := ⟨_, e, ec⟩
  have f3 : isSubtype (.type "type") (.type "type") = pure true := by rw [isSubtype_type]; kernel_rfl
  have hli := slot_tinit.lookup
  have hbi := slot_tinit.bind (.ref C)
  repeat wp_step
  refine codeAny_call_builtin slot_tinit.plain entry_tinit (slot_tinit.check _ _ _ _ _ _ _ _ hT (args_tinit _ _ _ _) ?_)
  unfold Builtin.«type.__init__»
  repeat wp_step
  exact hq
end
end Mine

open PySem PySem.W PyProof.Rows PySem.Calls
namespace Mine
section
variable {prog : Program} {w : World} {A : Around} {E : Value → Shared → Prop} {s : Shared}
theorem args_tga (a b : Value) : argsOk "type.__getattribute__" ⟨[a, b], []⟩ := by unfold argsOk; kernel_rfl
theorem tsub_by {o : String} {Q : Bool → Shared → Prop} (e : o = "type") (h : Q true s) : wpAny (model prog w) A (isSubtype (.type "type") (.type o)) Q E s := by
  subst e
  exact wpAny_of_eq (by rw [isSubtype_type]; kernel_rfl) h
theorem newObj_sz {c : Value} {T : String} {data : Data} {dt : Option Addr} {Q : Value → Shared → Prop} (ec : c = .type T) (hz : sizeOk data) (hf : (⟨.type T, dt, data, #[]⟩ : Obj).isFreed = false)
    (hq : ∀ a h', s.heap.objs.size ≤ a → h'.get? a = some ⟨.type T, dt, data, #[]⟩ → (∀ b x, s.heap.get? b = some x → b ≠ a ∧ h'.get? b = some x) → Q (.ref a) { s with heap := h' }) : wpAny (model prog w) A (newObj c data dt) Q E s := by
  subst ec
  exact wpAny_newObj_type (hq _ _ (Nat.le_refl _) (Heap.get?_push_size _ hf) fun b x e => ⟨fun hb => Nat.lt_irrefl b (by have := Heap.lt_size e; rw [hb] at this ⊢; exact this), Heap.get?_push_of_some _ e⟩) hz
theorem entry_prep : entryFor table "type.__prepare__" = some Builtin.«type.__prepare__» := entryFor_of_tree (by kernel_rfl)
theorem plain_prep : plainId "type.__prepare__" = true := by decide +kernel
theorem prep_call {b T0 : Addr} {t0 : Tok} {Q : Value → Shared → Prop} (hb : s.heap.get? b = some ⟨.type "builtin_function_or_method", none, .fields #[.builtin "type.__prepare__", .type "type"], #[]⟩)
    (hq : ∀ a h', s.heap.objs.size ≤ a → h'.get? a = some (dOf #[] 0) → (∀ b o, s.heap.get? b = some o → b ≠ a ∧ h'.get? b = some o) → Q (.ref a) { s with heap := h' }) : wpAny (model prog w) A (call (.ref b) [.str "K" t0, .ref T0] []) Q E s := by
  refine wpAny_call (codeAny_of_tree ?_)
  show wpAny _ A.in1 (callAny (.ref b) ⟨[.str "K" t0, .ref T0], []⟩) _ _ s
  simp only [callAny]
  refine wpAny_bind (wpAny_load hb ?_)
  show wpAny _ _ (checkBoundCall "type.__prepare__" ⟨[.type "type", .str "K" t0, .ref T0], []⟩ >>= fun _ => again (.builtin "type.__prepare__" ⟨[.type "type", .str "K" t0, .ref T0], []⟩)) _ _ s
  refine wpAny_bind (wpAny_of_eq (show checkBoundCall "type.__prepare__" ⟨[.type "type", .str "K" t0, .ref T0], []⟩ = pure () by kernel_rfl) ?_)
  refine wpAny_pure (a := PySem.Fin.again (.builtin "type.__prepare__" ⟨[.type "type", .str "K" t0, .ref T0], []⟩)) ⟨plainId_quiet plain_prep _, codeAny_builtin entry_prep ?_⟩
  rw [Around.under_plainId plain_prep _]
  unfold Builtin.«type.__prepare__» newDict
  repeat (first
    | ((with_reducible refine newObj_sz rfl ?hz ?hf fun a h1 l1 e1 k1 => ?_); (case hz => (show (0 : Nat) ≤ sizeLine + 1; lia)); (case hf => rfl))
    | wp_step)
  exact hq a h1 l1 e1 k1
theorem prep_get {Q : Option Value → Shared → Prop}
    (hq : ∀ a h' t', h'.get? a = some ⟨.type "builtin_function_or_method", none, .fields #[.builtin "type.__prepare__", .type "type"], #[]⟩ → (∀ b o, s.heap.get? b = some o → h'.get? b = some o) → Q (some (.ref a)) { s with heap := h', toks := t' }) :
    wpAny (model prog w) A (getAttr? (.type "type") "__prepare__") Q E s := by
  have hlk := KF.slot_tga.lookup
  have hT : ∀ t', ({ s with toks := t' } : Shared).TypeIs (.type "type") "type" := fun _ => by show typeOf _ = _; kernel_rfl
  have hT2 : typeOf (.type "type") = pure (.type "type") := by kernel_rfl
  have ft : ∀ t', ({ s with toks := t' } : Shared).TypeIs (.builtin "type.__prepare__") "classmethod_descriptor" := fun _ => by show typeOf _ = _; kernel_rfl
  have fl := slot_cmget.lookup
  have f1 : typeLookup (.type "type") "__prepare__" = pure (some (.builtin "type.__prepare__")) := by rw [typeLookup_type, builtinLookup_eq_fast]; kernel_rfl
  have f2 : typeLookup (.type "classmethod_descriptor") "__set__" = pure none := by rw [typeLookup_type, builtinLookup_eq_fast]; kernel_rfl
  have f3 : typeLookup (.type "classmethod_descriptor") "__delete__" = pure none := by rw [typeLookup_type, builtinLookup_eq_fast]; kernel_rfl
  have f4 : opaqueClassAbove (.type "type") = pure none := by kernel_rfl
  have f5 : Builtin.heldUnderItsOwnName "__prepare__" (.builtin "type.__prepare__") = false := by kernel_rfl
  have f6 : ∀ x, bindSpecial (.builtin "type.__getattribute__") (.type "type") = pure x → True := fun _ _ => trivial
  unfold getAttr? getAttrBy? getAttrBy
  refine wpAny_bind (wpAny_mkText (wpAny_bind (wpAny_attempt (wpAny_holding (wpAny_bind (wpAny_of_eq hT2 (wpAny_bind (wpAny_of_eq hlk ?_))))))))
  show wpAny _ _ (getAttrByItsOwn (.type "type") (.str "__prepare__" s.toks) (.type "type") (.builtin "type.__getattribute__") false false) _ _ _
  unfold getAttrByItsOwn hookBefore callGetattribute boundAndCalled
  refine wpAny_bind (wpAny_of_eq (show (if onTheHeap (.type "type") then typeLookup (.type "type") "__getattr__" else pure none) = pure none from rfl) ?_)
  refine wpAny_bind (wpAny_attempt (wpAny_holding ?_))
  show wpAny _ _ (bindSpecial (.builtin "type.__getattribute__") (.type "type") >>= _) _ _ _
  refine wpAny_bind (wpAny_of_eq (KF.slot_tga.bind _) ?_)
  refine wpAny_mono (Q := fun v s' => ∃ a h', v = .ref a ∧ s' = { s with heap := h', toks := s.toks + 1 } ∧ h'.get? a = some ⟨.type "builtin_function_or_method", none, .fields #[.builtin "type.__prepare__", .type "type"], #[]⟩ ∧ (∀ b o, s.heap.get? b = some o → h'.get? b = some o)) (E := fun _ _ => False)
    (wpAny_call_entry KF.slot_tga (hT _) KF.entry_tga ?_ (KF.args_tga _ _)) (fun v s' hv => ?_) fun _ _ z => z.elim
  · unfold Builtin.«type.__getattribute__»
    repeat (first
    | (with_reducible refine wpAny_typeOf (ft _) ?_)
    | (with_reducible refine wpAny_call_entry slot_cmget (ft _) entry_cmget ?_ (args_cmget _ _ _))
    | ((with_reducible refine newObj_at rfl ?hz ?hf fun a h1 e1 k1 => ?_); (case hz => (show (2 : Nat) ≤ sizeLine + 2; rw [sizeLine_eq]; decide)); (case hf => rfl))
    | ((with_reducible refine tsub_by ?ho ?_); (case ho => kernel_rfl))
    | wp_step)
    exact ⟨_, rfl, wpAny_pure ⟨_, rfl, a, h1, rfl, rfl, e1, fun b o e => (k1 b o e).2⟩⟩
  · obtain ⟨a, h', rfl, rfl, e1, k1⟩ := hv
    exact wpAny_pure (wpAny_pure (hq a h' _ e1 k1))
end
end Mine

open PySem PySem.W PyProof.Rows PySem.Calls
namespace Mine
section
variable {prog : Program} {w : World} {A : Around} {E : Value → Shared → Prop} {s : Shared} {K : Addr → Obj → Prop} {Pt nsA : Addr} {oC : Obj} {es : Array DictEntry} {ep : Nat} {env : Env} {mg : Str → Option Value}
theorem lset_cls {name : Str} {v : Value} {Q : Unit → Shared → Prop} (hl : env.locals = nsA) (P : Pr K s.heap Pt nsA oC (dOf es ep)) (e : aRefKeyMayBeTheName name es = false)
    (hf : ∀ x y, (Obj.putName name x y v (dOf es ep)).isFreed = false)
    (hq : ∀ h' t' x y, Pr K h' Pt nsA oC (Obj.putName name x (.str name y) v (dOf es ep)) → Q () { s with heap := h', toks := t' }) : wpAny (model prog w) A (localSet env name v) Q E s := by
  unfold localSet
  rw [hl]
  refine wpAny_bind (p_loadN P ?_)
  exact wpAny_ite_true rfl (p_set P e hf hq)
/-- what every state of a class's body keeps -/
structure KB (K : Addr → Obj → Prop) (mg : Str → Option Value) (c Pt : Addr) : Prop where
  g : ∀ h : Heap, (∀ b x, K b x → h.get? b = some x) → h.Ns mainGlobals mg
  b : ∀ h : Heap, (∀ b x, K b x → h.get? b = some x) → h.BuiltinsAt mg Pt
  c : ∀ h : Heap, (∀ b x, K b x → h.get? b = some x) → CodeHd h c Pt
theorem KB.mono {K' : Addr → Obj → Prop} {c : Addr} (X : KB K mg c Pt) (k : ∀ b x, K b x → K' b x) : KB K' mg c Pt :=
  ⟨fun h hk => X.g h fun b x e => hk b x (k b x e), fun h hk => X.b h fun b x e => hk b x (k b x e), fun h hk => X.c h fun b x e => hk b x (k b x e)⟩
theorem meth_def {c : Addr} {name : Str} {params : Arguments} {body : List Stmt} {scope : Scope} {pos : Pos} {clos : List (Str × Addr)} {ps : Array Value} {qual : Str} {Q : Flow → Shared → Prop} (X : KB K mg c Pt) (P : Pr K s.heap Pt nsA (tabObj ps) (dOf es ep))
    (hl : env.locals = nsA) (hge : env.globals = mainGlobals) (hcode : env.code = .ref c) (hgP : mainGlobals ≠ Pt) (hcl : closureFor scope env = pure clos) (hq' : qualnameIn env name name = qual)
    (hd : defaultsOf params env = ([], [])) (ha : annTrees params none env = []) (ht : TriplesOk ps.toList) (hnf : codeAmong pos ps.toList = none)
    (he : ∀ v, storeName env name v = localSet env name v) (hr : aRefKeyMayBeTheName name es = false) (hf : ∀ x y v, (Obj.putName name x y v (dOf es ep)).isFreed = false)
    (hq : ∀ h' t' x y f c' doc ctv oc vs t, Pr (fun b o => K b o ∨ (b = f ∧ o = fnMade name qual params body scope clos doc ((mg "__name__").getD .none) c' ctv) ∨ (b = c' ∧ o = oc)) h' Pt nsA (tabObj (ps ++ #[rawInt pos.line, rawInt pos.col, .ref c'])) (Obj.putName name x (.str name y) (.ref f) (dOf es ep)) →
      oc.data = .fields vs → vs[1]? = some (.str qual t) → (∀ b o, K b o → b ≠ f ∧ b ≠ c') → Q .next { s with heap := h', toks := t' }) :
    wpAny (model prog w) A (exec (.FunctionDef name params body [] none [] scope none name pos) env) Q E s := by
  have hk : ∀ b x, K b x → s.heap.get? b = some x := fun b x e => (P.k b x e).2
  rw [exec_def, hd, ha, hq']
  refine wpAny_bind (wpAny_standAt (wpAny_bind (wpAny_holding ?_)))
  refine wpAny_bind (wpAny_pure (wpAny_bind (wpAny_holding (wpAny_pure (wpAny_holding (wpAny_bind (wpAny_pure ?_)))))))
  refine makeFunction_K hcl hge (X.g _ hk) hcode (X.c _ hk) P.c ht hnf hgP (X.b _ hk) fun c' ctv doc h' tk hx hgc hlt hrec htb => ?_
  obtain ⟨cc, oc, vs, t, ec, eo, ed, ev⟩ := hrec
  (first | exact none_some ec | exact some_none ec | (obtain rfl := Option.some.inj ec) | cases ec)
  have hnew : ∀ b x, s.heap.get? b = some x → b ≠ h'.objs.size ∧ b ≠ c' := fun b x e => ⟨fun q => absurd (Heap.lt_size e) (by rw [q]; exact Nat.not_lt.mpr (Nat.le_trans hgc (Nat.le_of_lt hlt))), fun q => absurd (Heap.lt_size e) (by rw [q]; exact Nat.not_lt.mpr hgc)⟩
  have hff : (fnMade name qual params body scope clos doc ((mg "__name__").getD .none) c' ctv).isFreed = false := rfl
  have P2 : Pr (fun b o => K b o ∨ (b = h'.objs.size ∧ o = fnMade name qual params body scope clos doc ((mg "__name__").getD .none) c' ctv) ∨ (b = c' ∧ o = oc)) (h'.push (fnMade name qual params body scope clos doc ((mg "__name__").getD .none) c' ctv)) Pt nsA (tabObj (ps ++ #[rawInt pos.line, rawInt pos.col, .ref c'])) (dOf es ep) := by
    refine ⟨Heap.get?_push_of_some _ htb, Heap.get?_push_of_some _ (hx _ _ (Ne.symm P.d) P.n), fun b x hb => ?_, P.d⟩
    rcases hb with hb | ⟨rfl, rfl⟩ | ⟨rfl, rfl⟩
    · exact ⟨(P.k b x hb).1, Heap.get?_push_of_some _ (hx _ _ (P.k b x hb).1.1 (P.k b x hb).2)⟩
    · exact ⟨⟨(hnew _ _ P.c).1.symm, (hnew _ _ P.n).1.symm⟩, Heap.get?_push_size _ hff⟩
    · exact ⟨⟨(hnew _ _ P.c).2.symm, (hnew _ _ P.n).2.symm⟩, Heap.get?_push_of_some _ eo⟩
  refine wpAny_bind (wpAny_standAt (wpAny_bind (wpAny_bindName ?_)))
  rw [he]
  refine lset_cls hl P2 hr (fun x y => hf x y _) fun h3 t3 x y P3 => wpAny_pure ?_
  exact hq h3 t3 x y _ c' doc ctv oc vs t P3 ed ev fun b o hb => hnew b o (hk b o hb)
end
end Mine

open PySem PySem.W PyProof.Rows PySem.Calls
namespace Mine
def clsS : Stmt := (bodyOf 16).headD (.Pass ⟨0, 0, 0, 0⟩)
def clsBody : List Stmt := match clsS with
  | .ClassDef _ _ _ b _ _ _ _ _ _ _ => b
  | _ => []
def clsScope : Scope := match clsS with
  | .ClassDef _ _ _ _ _ _ sc _ _ _ _ => sc
  | _ => default
def clsPos : Pos := match clsS with
  | .ClassDef _ _ _ _ _ _ _ _ _ _ pos => pos
  | _ => ⟨0, 0, 0, 0⟩
def cstm (i : Nat) : Stmt := (clsBody[i]?).getD (.Pass ⟨0, 0, 0, 0⟩)
def mParams (i : Nat) : Arguments := match cstm (i + 2) with
  | .FunctionDef _ a _ _ _ _ _ _ _ _ => a
  | _ => default
def mBody (i : Nat) : List Stmt := match cstm (i + 2) with
  | .FunctionDef _ _ b _ _ _ _ _ _ _ => b
  | _ => []
def mScope (i : Nat) : Scope := match cstm (i + 2) with
  | .FunctionDef _ _ _ _ _ _ sc _ _ _ => sc
  | _ => default
def mPos (i : Nat) : Pos := match cstm (i + 2) with
  | .FunctionDef _ _ _ _ _ _ _ _ _ p => p
  | _ => ⟨0, 0, 0, 0⟩
def mName (i : Nat) : Str := match cstm (i + 2) with
  | .FunctionDef nm _ _ _ _ _ _ _ _ _ => nm
  | _ => ""
def mQual (i : Nat) : Str := "cmp_to_key.<locals>.K." ++ mName i
def mClos (i : Nat) (ca : Addr) : List (Str × Addr) := if i = 0 then [] else [("mycmp", ca)]
/-- a method of the class -/
def fnK (i : Nat) (ca : Addr) (doc : Value) (c' : Addr) (ctv : Value) : Obj := fnMade (mName i) (mQual i) (mParams i) (mBody i) (mScope i) (mClos i ca) doc pmLaw c' ctv
def cenv (nsA ca fr : Addr) (code : Value) : Env := { scope := clsScope, locals := nsA, globals := mainGlobals, qual := "cmp_to_key.<locals>.K.", code := code, frame := some fr, builtins := builtinsNs, cells := [("mycmp", ca)] }
section
variable {prog : Program} {w : World} {A : Around} {E : Value → Shared → Prop} {s : Shared}
theorem classCode_at {env : Env} {c P : Addr} {ps : Array Value} {pos : Pos} {firstLine : Nat} {name qual : Str} {scope : Scope} {Q : Value → Shared → Prop} (hc : env.code = .ref c) (C : CodeHd s.heap c P) (hP : s.heap.get? P = some (tabObj ps)) (ht : TriplesOk ps.toList)
    (hnf : codeAmong pos ps.toList = none)
    (hq : ∀ c' P' h' tk, Heap.ExtBut P s.heap h' → s.heap.objs.size ≤ c' → s.heap.objs.size ≤ P' → CodeHd h' c' P' → h'.get? P' = some (tabObj #[]) → h'.get? P = some (tabObj (ps ++ #[rawInt pos.line, rawInt pos.col, .ref c'])) → Q (.ref c') { s with heap := h', toks := tk }) :
    wpAny (model prog w) A (classCode env pos firstLine name qual scope) Q E s := by
  obtain ⟨o, vs, file, tf, flags, tg, inF, text, tt, ho, ocls, hd, h11', h11, h2, h7, h9, h10, hne⟩ := id C
  unfold classCode codeAt
  rw [hc, if_neg (show ¬ ((Value.ref c == Value.none) = true) from Bool.false_ne_true)]
  refine wpAny_bind (wpAny_fieldsOf ho hd ?_)
  rw [h11]
  refine wpAny_bind (wpAny_fieldsOf hP rfl ?_)
  rw [hnf, h2, h7, h9, h10]
  refine wpAny_bind (wpAny_newCodeX fun c' P' h' tk hk hc' hP' hcode' htab' hrec' => ?_)
  have hop' := hk _ _ hP
  refine wpAny_bind (wpAny_updateFieldsOfTheText hop' rfl ?_)
  have hnew : (Obj.mapFields (fun vs => if (codeAmong pos vs.toList).isSome = true then vs else vs ++ #[rawInt pos.line, rawInt pos.col, .ref c']) (tabObj ps)).data = .fields (ps ++ #[rawInt pos.line, rawInt pos.col, .ref c']) := by
    rw [Obj.data_mapFields (vs := ps) rfl, hnf]; rfl
  have hnew2 : Obj.mapFields (fun vs => if (codeAmong pos vs.toList).isSome = true then vs else vs ++ #[rawInt pos.line, rawInt pos.col, .ref c']) (tabObj ps) = tabObj (ps ++ #[rawInt pos.line, rawInt pos.col, .ref c']) := by
    have : ∀ o : Obj, o = ⟨o.cls, o.dict, o.data, o.slots⟩ := fun _ => rfl
    rw [this (Obj.mapFields _ _), hnew]; rfl
  have hget := Heap.get?_update_self (h := h') (fun o => Obj.mapFields (fun vs => if (codeAmong pos vs.toList).isSome = true then vs else vs ++ #[rawInt pos.line, rawInt pos.col, .ref c']) o) hop' (Obj.isFreed_of_fields hnew)
  refine wpAny_bind (wpAny_fieldsOf hget hnew ?_)
  have hl : (ps ++ #[rawInt pos.line, rawInt pos.col, Value.ref c']).toList = ps.toList ++ [rawInt pos.line, rawInt pos.col, .ref c'] := by simp
  rw [hl, codeAmong_snoc _ ht hnf]
  have hcP : c' ≠ P := Nat.ne_of_gt (Nat.lt_of_lt_of_le (Heap.lt_size hP) hc')
  have hPP : P' ≠ P := Nat.ne_of_gt (Nat.lt_of_lt_of_le (Heap.lt_size hP) hP')
  have C2 : CodeHd h' c' P' := CodeHd.of hcode' htab'
  have hS : Heap.SameBut P h' _ := Heap.SameBut.update h' P (fun o => Obj.mapFields (fun vs => if (codeAmong pos vs.toList).isSome = true then vs else vs ++ #[rawInt pos.line, rawInt pos.col, .ref c']) o)
  obtain ⟨o2, vs2, file2, tf2, flags2, tg2, inF2, text2, tt2, e2, r2⟩ := C2
  refine wpAny_pure (hq c' P' _ tk (fun b o' hb e => hS.extBut b o' hb (hk b o' e)) hc' hP' ⟨o2, vs2, file2, tf2, flags2, tg2, inF2, text2, tt2, (hS.2 _ hcP).trans e2, r2⟩ ((hS.2 _ hPP).trans htab'.2) ?_)
  rw [hget, hnew2]
end
end Mine

open PySem PySem.W PyProof.Rows PySem.Calls
namespace Mine
/-- a method stands in what is kept -/
def MethK (K : Addr → Obj → Prop) (ca : Addr) (i : Nat) (f : Addr) : Prop := ∃ doc c' ctv oc vs t, K f (fnK i ca doc c' ctv) ∧ K c' oc ∧ oc.data = .fields vs ∧ vs[1]? = some (.str (mQual i) t)
theorem MethK.mono {K K' : Addr → Obj → Prop} {ca f : Addr} {i : Nat} (x : MethK K ca i f) (k : ∀ b o, K b o → K' b o) : MethK K' ca i f := by
  obtain ⟨doc, c', ctv, oc, vs, t, a, b, r⟩ := x; exact ⟨doc, c', ctv, oc, vs, t, k _ _ a, k _ _ b, r⟩
/-- a method stands in the heap -/
def MethAt (h : Heap) (ca : Addr) (i : Nat) (f : Addr) : Prop := ∃ doc c' ctv, h.get? f = some (fnK i ca doc c' ctv) ∧ h.CodeRec (.ref c') (mQual i)
theorem MethAt.keeps {h h' : Heap} {ca f : Addr} {i : Nat} (x : MethAt h ca i f) (k : ∀ b o, h.get? b = some o → h'.get? b = some o) : MethAt h' ca i f := by
  obtain ⟨doc, c', ctv, e, r⟩ := x; exact ⟨doc, c', ctv, k _ _ e, r.keeps k⟩
theorem MethK.at {K : Addr → Obj → Prop} {h : Heap} {ca f : Addr} {i : Nat} (x : MethK K ca i f) (k : ∀ b o, K b o → h.get? b = some o) : MethAt h ca i f := by
  obtain ⟨doc, c', ctv, oc, vs, t, a, b, r1, r2⟩ := x; exact ⟨doc, c', ctv, k _ _ a, c', oc, vs, t, rfl, k _ _ b, r1, r2⟩
section
variable {prog : Program} {w : World} {A : Around} {E : Value → Shared → Prop} {s : Shared} {K : Addr → Obj → Prop} {Pt nsA ca fr cC : Addr} {mg : Str → Option Value}
theorem cput {name : Str} {v : Value} {es : Array DictEntry} {ep : Nat} {Q : Unit → Shared → Prop} (hs : ∀ v, storeName (cenv nsA ca fr (.ref cC)) name v = localSet (cenv nsA ca fr (.ref cC)) name v) {oC : Obj} (P : Pr K s.heap Pt nsA oC (dOf es ep)) (e : aRefKeyMayBeTheName name es = false)
    (hp : ∀ x y, Obj.putName name x (.str name y) v (dOf es ep) = dOf (es.push ⟨x, .str name y, v⟩) (ep + 1)) (hf : ∀ x y, (Obj.putName name x y v (dOf es ep)).isFreed = false)
    (hq : ∀ h' t' x y, Pr K h' Pt nsA oC (dOf (es.push ⟨x, .str name y, v⟩) (ep + 1)) → Q () { s with heap := h', toks := t' }) : wpAny (model prog w) A (storeName (cenv nsA ca fr (.ref cC)) name v) Q E s := by
  rw [hs]
  refine lset_cls rfl P e hf fun h' t' x y P' => hq h' t' x y ?_
  rw [hp] at P'
  exact P'
theorem cmeth (i : Nat) {ps : Array Value} {es : Array DictEntry} {ep : Nat} {Q : Flow → Shared → Prop} (X : KB K mg cC Pt) (hm : (mg "__name__").getD .none = pmLaw) (P : Pr K s.heap Pt nsA (tabObj ps) (dOf es ep)) (hgP : mainGlobals ≠ Pt)
    (hst : cstm (i + 2) = .FunctionDef (mName i) (mParams i) (mBody i) [] none [] (mScope i) none (mName i) (mPos i))
    (hcl : closureFor (mScope i) (cenv nsA ca fr (.ref cC)) = pure (mClos i ca)) (hq' : qualnameIn (cenv nsA ca fr (.ref cC)) (mName i) (mName i) = mQual i)
    (hd : defaultsOf (mParams i) (cenv nsA ca fr (.ref cC)) = ([], [])) (ha : annTrees (mParams i) none (cenv nsA ca fr (.ref cC)) = []) (ht : TriplesOk ps.toList) (hnf : codeAmong (mPos i) ps.toList = none)
    (he : ∀ v, storeName (cenv nsA ca fr (.ref cC)) (mName i) v = localSet (cenv nsA ca fr (.ref cC)) (mName i) v) (hr : aRefKeyMayBeTheName (mName i) es = false)
    (hp : ∀ v x y, Obj.putName (mName i) x (.str (mName i) y) v (dOf es ep) = dOf (es.push ⟨x, .str (mName i) y, v⟩) (ep + 1)) (hf : ∀ x y v, (Obj.putName (mName i) x y v (dOf es ep)).isFreed = false)
    (hq : ∀ h' t' x y f c' K', (∀ b o, K b o → K' b o) → KB K' mg cC Pt → MethK K' ca i f → Pr K' h' Pt nsA (tabObj (ps ++ #[rawInt (mPos i).line, rawInt (mPos i).col, .ref c'])) (dOf (es.push ⟨x, .str (mName i) y, .ref f⟩) (ep + 1)) →
      TriplesOk (ps ++ #[rawInt (mPos i).line, rawInt (mPos i).col, .ref c']).toList → Q .next { s with heap := h', toks := t' }) :
    wpAny (model prog w) A (exec (cstm (i + 2)) (cenv nsA ca fr (.ref cC))) Q E s := by
  rw [hst]
  refine meth_def (qual := mQual i) (clos := mClos i ca) X P rfl rfl rfl hgP hcl hq' hd ha ht hnf he hr hf fun h' t' x y f c' doc ctv oc vs t P' e1 e2 nw => ?_
  rw [hm] at P'
  rw [hp] at P'
  refine hq h' t' x y f c' _ (fun b o e => .inl e) (X.mono fun b o e => .inl e) ⟨doc, c', ctv, oc, vs, t, .inr (.inl ⟨rfl, rfl⟩), .inr (.inr ⟨rfl, rfl⟩), e1, e2⟩ P' ?_
  rw [Array.toList_append]
  exact TriplesOk_snoc _ _ _ _ ht
end
end Mine

open PySem PySem.W PyProof.Rows PySem.Calls
namespace Mine
theorem clsBody_eq : clsBody = [cstm 0, cstm 1, cstm 2, cstm 3, cstm 4, cstm 5, cstm 6, cstm 7, cstm 8] := by kernel_rfl
section
variable {prog : Program} {w : World} {A : Around} {E : Value → Shared → Prop} {s : Shared} {K : Addr → Obj → Prop} {Pt nsA ca fr cC : Addr} {mg : Str → Option Value}
theorem cls_body {h0 h1 h2 : Int} {y0 y1 y2 tq tl : Tok} {ep : Nat} {Q : Flow → Shared → Prop} (X : KB K mg cC Pt) (hm : (mg "__name__").getD .none = pmLaw) (hgP : mainGlobals ≠ Pt)
    (P : Pr K s.heap Pt nsA (tabObj #[]) (dOf #[⟨h0, .str "__module__" y0, pmLaw⟩, ⟨h1, .str "__qualname__" y1, .str "cmp_to_key.<locals>.K" tq⟩, ⟨h2, .str "__firstlineno__" y2, .int 135 tl⟩] ep))
    (hq : ∀ h' t' (hs : Nat → Int) (ts : Nat → Tok) (tm t1 : Tok) (sl : Addr) (f : Nat → Addr) ep', (∀ b o, K b o → h'.get? b = some o) → (∀ b o, K b o → b ≠ Pt ∧ b ≠ nsA) → (∀ b o, K b o → b ≠ sl) →
      h'.get? nsA = some (dOf #[⟨hs 0, .str "__module__" (ts 0), .str "cpy313.functools" tm⟩, ⟨hs 1, .str "__qualname__" (ts 1), .str "cmp_to_key.<locals>.K" tq⟩, ⟨hs 2, .str "__firstlineno__" (ts 2), .int 135 tl⟩,
        ⟨hs 3, .str "__slots__" (ts 3), .ref sl⟩, ⟨hs 4, .str "__init__" (ts 4), .ref (f 0)⟩, ⟨hs 5, .str "__lt__" (ts 5), .ref (f 1)⟩, ⟨hs 6, .str "__gt__" (ts 6), .ref (f 2)⟩, ⟨hs 7, .str "__eq__" (ts 7), .ref (f 3)⟩,
        ⟨hs 8, .str "__le__" (ts 8), .ref (f 4)⟩, ⟨hs 9, .str "__ge__" (ts 9), .ref (f 5)⟩, ⟨hs 10, .str "__hash__" (ts 10), .none⟩] ep') →
      (∀ i, i < 6 → MethAt h' ca i (f i)) → h'.get? sl = some ⟨.type "list", none, .seq #[.str "obj" t1] 0, #[]⟩ → Q .next { s with heap := h', toks := t' }) :
    wpAny (model prog w) A (execs clsBody (cenv nsA ca fr (.ref cC))) Q E s := by
  rw [clsBody_eq]
  have hK0 : ∀ b o, K b o → b ≠ Pt ∧ b ≠ nsA := fun b o e => (P.k b o e).1
  refine wpAny_execs_cons ?_
  rw [show cstm 0 = .Assign [.Name "__module__" ⟨136, 8, 136, 18⟩] (.Constant (.str "cpy313.functools") 0 ⟨136, 21, 136, 39⟩) ⟨136, 8, 136, 39⟩ by kernel_rfl]
  refine wpAny_Assign_Name (Constant_str ?_) (by kernel_rfl)
  rw [show ∀ v, storeName (cenv nsA ca fr (.ref cC)) "__module__" v = localSet (cenv nsA ca fr (.ref cC)) "__module__" v by intro v; kernel_rfl]
  refine lset_cls rfl P (by kernel_rfl) (fun x y => by kernel_rfl) fun h0' t0' x0 y0' P0 => ?_
  rw [show ∀ t x y, Obj.putName "__module__" x (.str "__module__" y) (.str "cpy313.functools" t) (dOf #[⟨h0, .str "__module__" y0, pmLaw⟩, ⟨h1, .str "__qualname__" y1, .str "cmp_to_key.<locals>.K" tq⟩, ⟨h2, .str "__firstlineno__" y2, .int 135 tl⟩] ep) =
    dOf #[⟨h0, .str "__module__" y0, .str "cpy313.functools" t⟩, ⟨h1, .str "__qualname__" y1, .str "cmp_to_key.<locals>.K" tq⟩, ⟨h2, .str "__firstlineno__" y2, .int 135 tl⟩] ep by intro t x y; kernel_rfl] at P0
  dsimp only
  refine wpAny_execs_cons ?_
  rw [show cstm 1 = .Assign [.Name "__slots__" ⟨137, 8, 137, 17⟩] (.List [.Constant (.str "obj") 0 ⟨137, 21, 137, 26⟩] ⟨137, 20, 137, 27⟩) ⟨137, 8, 137, 27⟩ by kernel_rfl]
  refine wpAny_Assign_Name (wpAny_List (wpAny_items_cons (Constant_str (wpAny_items_nil ⟨by (show 1 ≤ sizeLine); rw [sizeLine_eq]; decide, ?_⟩)))) (by kernel_rfl)
  dsimp only
  generalize htq : t0' + 1 = t1' 
  have P1 := P0
  generalize hsl : h0'.objs.size = sl
  have esl : (h0'.push { cls := .type "list", data := .seq [Value.str "obj" t0'].toArray }).get? sl = some ⟨.type "list", none, .seq #[.str "obj" t0'] 0, #[]⟩ := by rw [← hsl]; exact Heap.get?_push_size _ rfl
  have nsl : ∀ b o, h0'.get? b = some o → b ≠ sl := fun b o e => by rw [← hsl]; exact Nat.ne_of_lt (Heap.lt_size e)
  have hKsl : ∀ b o, K b o → b ≠ sl := fun b o e => nsl _ _ (P1.k b o e).2
  have P2 := (P1.more (h' := h0'.push { cls := .type "list", data := .seq [Value.str "obj" t0'].toArray }) fun b o e => Heap.get?_push_of_some _ e).add esl (nsl _ _ P1.c).symm (nsl _ _ P1.n).symm
  clear P1 P0 P
  have X2 := X.mono (K' := fun b x => K b x ∨ (b = sl ∧ x = ⟨.type "list", none, .seq #[.str "obj" t0'] 0, #[]⟩)) fun b o e => .inl e
  refine cput (s := { s with heap := h0'.push { cls := .type "list", data := .seq [Value.str "obj" t0'].toArray }, toks := t1' }) (by intro v; kernel_rfl) P2 (by kernel_rfl) (by intro x y; kernel_rfl) (by intro x y; kernel_rfl) fun h3 t3 x3 y3 P3 => ?_
  clear P2
  have P4 : Pr _ h3 Pt nsA (tabObj #[]) (dOf #[⟨h0, .str "__module__" y0, .str "cpy313.functools" s.toks⟩, ⟨h1, .str "__qualname__" y1, .str "cmp_to_key.<locals>.K" tq⟩, ⟨h2, .str "__firstlineno__" y2, .int 135 tl⟩, ⟨x3, .str "__slots__" y3, .ref sl⟩] (ep + 1)) := P3.cast rfl (by kernel_rfl)
  clear P3
  refine wpAny_execs_cons (cmeth 0 X2 hm P4 hgP (by kernel_rfl) (by kernel_rfl) (by kernel_rfl) (by kernel_rfl) (by kernel_rfl) (show TriplesOk [] from True.intro) (by kernel_rfl) (by intro v; kernel_rfl) (by kernel_rfl) (by intro v x y; kernel_rfl) (by intro x y v; kernel_rfl) fun hh0 tt0 xx0 yy0 f0 c0 K0 kk0 XX0 mm0 PQ0 V0 => ?_)
  have PP0 : Pr K0 hh0 Pt nsA (tabObj #[rawInt (mPos 0).line, rawInt (mPos 0).col, .ref c0]) (dOf #[⟨h0, .str "__module__" y0, .str "cpy313.functools" s.toks⟩, ⟨h1, .str "__qualname__" y1, .str "cmp_to_key.<locals>.K" tq⟩, ⟨h2, .str "__firstlineno__" y2, .int 135 tl⟩, ⟨x3, .str "__slots__" y3, .ref sl⟩, ⟨xx0, .str "__init__" yy0, .ref f0⟩] (ep + 2)) := PQ0.cast (by kernel_rfl) (by kernel_rfl)
  have U0 : TriplesOk (#[rawInt (mPos 0).line, rawInt (mPos 0).col, .ref c0] : Array Value).toList := V0
  clear P4 X2 PQ0 V0 
  dsimp only
  refine wpAny_execs_cons (cmeth 1 XX0 hm PP0 hgP (by kernel_rfl) (by kernel_rfl) (by kernel_rfl) (by kernel_rfl) (by kernel_rfl) U0 (by kernel_rfl) (by intro v; kernel_rfl) (by kernel_rfl) (by intro v x y; kernel_rfl) (by intro x y v; kernel_rfl) fun hh1 tt1 xx1 yy1 f1 c1 K1 kk1 XX1 mm1 PQ1 V1 => ?_)
  have PP1 : Pr K1 hh1 Pt nsA (tabObj #[rawInt (mPos 0).line, rawInt (mPos 0).col, .ref c0, rawInt (mPos 1).line, rawInt (mPos 1).col, .ref c1]) (dOf #[⟨h0, .str "__module__" y0, .str "cpy313.functools" s.toks⟩, ⟨h1, .str "__qualname__" y1, .str "cmp_to_key.<locals>.K" tq⟩, ⟨h2, .str "__firstlineno__" y2, .int 135 tl⟩, ⟨x3, .str "__slots__" y3, .ref sl⟩, ⟨xx0, .str "__init__" yy0, .ref f0⟩, ⟨xx1, .str "__lt__" yy1, .ref f1⟩] (ep + 3)) := PQ1.cast (by kernel_rfl) (by kernel_rfl)
  have U1 : TriplesOk (#[rawInt (mPos 0).line, rawInt (mPos 0).col, .ref c0, rawInt (mPos 1).line, rawInt (mPos 1).col, .ref c1] : Array Value).toList := V1
  clear PP0 XX0 PQ1 V1 U0
  dsimp only
  refine wpAny_execs_cons (cmeth 2 XX1 hm PP1 hgP (by kernel_rfl) (by kernel_rfl) (by kernel_rfl) (by kernel_rfl) (by kernel_rfl) U1 (by kernel_rfl) (by intro v; kernel_rfl) (by kernel_rfl) (by intro v x y; kernel_rfl) (by intro x y v; kernel_rfl) fun hh2 tt2 xx2 yy2 f2 c2 K2 kk2 XX2 mm2 PQ2 V2 => ?_)
  have PP2 : Pr K2 hh2 Pt nsA (tabObj #[rawInt (mPos 0).line, rawInt (mPos 0).col, .ref c0, rawInt (mPos 1).line, rawInt (mPos 1).col, .ref c1, rawInt (mPos 2).line, rawInt (mPos 2).col, .ref c2]) (dOf #[⟨h0, .str "__module__" y0, .str "cpy313.functools" s.toks⟩, ⟨h1, .str "__qualname__" y1, .str "cmp_to_key.<locals>.K" tq⟩, ⟨h2, .str "__firstlineno__" y2, .int 135 tl⟩, ⟨x3, .str "__slots__" y3, .ref sl⟩, ⟨xx0, .str "__init__" yy0, .ref f0⟩, ⟨xx1, .str "__lt__" yy1, .ref f1⟩, ⟨xx2, .str "__gt__" yy2, .ref f2⟩] (ep + 4)) := PQ2.cast (by kernel_rfl) (by kernel_rfl)
  have U2 : TriplesOk (#[rawInt (mPos 0).line, rawInt (mPos 0).col, .ref c0, rawInt (mPos 1).line, rawInt (mPos 1).col, .ref c1, rawInt (mPos 2).line, rawInt (mPos 2).col, .ref c2] : Array Value).toList := V2
  clear PP1 XX1 PQ2 V2 U1
  dsimp only
  refine wpAny_execs_cons (cmeth 3 XX2 hm PP2 hgP (by kernel_rfl) (by kernel_rfl) (by kernel_rfl) (by kernel_rfl) (by kernel_rfl) U2 (by kernel_rfl) (by intro v; kernel_rfl) (by kernel_rfl) (by intro v x y; kernel_rfl) (by intro x y v; kernel_rfl) fun hh3 tt3 xx3 yy3 f3 c3 K3 kk3 XX3 mm3 PQ3 V3 => ?_)
  have PP3 : Pr K3 hh3 Pt nsA (tabObj #[rawInt (mPos 0).line, rawInt (mPos 0).col, .ref c0, rawInt (mPos 1).line, rawInt (mPos 1).col, .ref c1, rawInt (mPos 2).line, rawInt (mPos 2).col, .ref c2, rawInt (mPos 3).line, rawInt (mPos 3).col, .ref c3]) (dOf #[⟨h0, .str "__module__" y0, .str "cpy313.functools" s.toks⟩, ⟨h1, .str "__qualname__" y1, .str "cmp_to_key.<locals>.K" tq⟩, ⟨h2, .str "__firstlineno__" y2, .int 135 tl⟩, ⟨x3, .str "__slots__" y3, .ref sl⟩, ⟨xx0, .str "__init__" yy0, .ref f0⟩, ⟨xx1, .str "__lt__" yy1, .ref f1⟩, ⟨xx2, .str "__gt__" yy2, .ref f2⟩, ⟨xx3, .str "__eq__" yy3, .ref f3⟩] (ep + 5)) := PQ3.cast (by kernel_rfl) (by kernel_rfl)
  have U3 : TriplesOk (#[rawInt (mPos 0).line, rawInt (mPos 0).col, .ref c0, rawInt (mPos 1).line, rawInt (mPos 1).col, .ref c1, rawInt (mPos 2).line, rawInt (mPos 2).col, .ref c2, rawInt (mPos 3).line, rawInt (mPos 3).col, .ref c3] : Array Value).toList := V3
  clear PP2 XX2 PQ3 V3 U2
  dsimp only
  refine wpAny_execs_cons (cmeth 4 XX3 hm PP3 hgP (by kernel_rfl) (by kernel_rfl) (by kernel_rfl) (by kernel_rfl) (by kernel_rfl) U3 (by kernel_rfl) (by intro v; kernel_rfl) (by kernel_rfl) (by intro v x y; kernel_rfl) (by intro x y v; kernel_rfl) fun hh4 tt4 xx4 yy4 f4 c4 K4 kk4 XX4 mm4 PQ4 V4 => ?_)
  have PP4 : Pr K4 hh4 Pt nsA (tabObj #[rawInt (mPos 0).line, rawInt (mPos 0).col, .ref c0, rawInt (mPos 1).line, rawInt (mPos 1).col, .ref c1, rawInt (mPos 2).line, rawInt (mPos 2).col, .ref c2, rawInt (mPos 3).line, rawInt (mPos 3).col, .ref c3, rawInt (mPos 4).line, rawInt (mPos 4).col, .ref c4]) (dOf #[⟨h0, .str "__module__" y0, .str "cpy313.functools" s.toks⟩, ⟨h1, .str "__qualname__" y1, .str "cmp_to_key.<locals>.K" tq⟩, ⟨h2, .str "__firstlineno__" y2, .int 135 tl⟩, ⟨x3, .str "__slots__" y3, .ref sl⟩, ⟨xx0, .str "__init__" yy0, .ref f0⟩, ⟨xx1, .str "__lt__" yy1, .ref f1⟩, ⟨xx2, .str "__gt__" yy2, .ref f2⟩, ⟨xx3, .str "__eq__" yy3, .ref f3⟩, ⟨xx4, .str "__le__" yy4, .ref f4⟩] (ep + 6)) := PQ4.cast (by kernel_rfl) (by kernel_rfl)
  have U4 : TriplesOk (#[rawInt (mPos 0).line, rawInt (mPos 0).col, .ref c0, rawInt (mPos 1).line, rawInt (mPos 1).col, .ref c1, rawInt (mPos 2).line, rawInt (mPos 2).col, .ref c2, rawInt (mPos 3).line, rawInt (mPos 3).col, .ref c3, rawInt (mPos 4).line, rawInt (mPos 4).col, .ref c4] : Array Value).toList := V4
  clear PP3 XX3 PQ4 V4 U3
  dsimp only
  refine wpAny_execs_cons (cmeth 5 XX4 hm PP4 hgP (by kernel_rfl) (by kernel_rfl) (by kernel_rfl) (by kernel_rfl) (by kernel_rfl) U4 (by kernel_rfl) (by intro v; kernel_rfl) (by kernel_rfl) (by intro v x y; kernel_rfl) (by intro x y v; kernel_rfl) fun hh5 tt5 xx5 yy5 f5 c5 K5 kk5 XX5 mm5 PQ5 V5 => ?_)
  have PP5 : Pr K5 hh5 Pt nsA (tabObj #[rawInt (mPos 0).line, rawInt (mPos 0).col, .ref c0, rawInt (mPos 1).line, rawInt (mPos 1).col, .ref c1, rawInt (mPos 2).line, rawInt (mPos 2).col, .ref c2, rawInt (mPos 3).line, rawInt (mPos 3).col, .ref c3, rawInt (mPos 4).line, rawInt (mPos 4).col, .ref c4, rawInt (mPos 5).line, rawInt (mPos 5).col, .ref c5]) (dOf #[⟨h0, .str "__module__" y0, .str "cpy313.functools" s.toks⟩, ⟨h1, .str "__qualname__" y1, .str "cmp_to_key.<locals>.K" tq⟩, ⟨h2, .str "__firstlineno__" y2, .int 135 tl⟩, ⟨x3, .str "__slots__" y3, .ref sl⟩, ⟨xx0, .str "__init__" yy0, .ref f0⟩, ⟨xx1, .str "__lt__" yy1, .ref f1⟩, ⟨xx2, .str "__gt__" yy2, .ref f2⟩, ⟨xx3, .str "__eq__" yy3, .ref f3⟩, ⟨xx4, .str "__le__" yy4, .ref f4⟩, ⟨xx5, .str "__ge__" yy5, .ref f5⟩] (ep + 7)) := PQ5.cast (by kernel_rfl) (by kernel_rfl)
  have U5 : TriplesOk (#[rawInt (mPos 0).line, rawInt (mPos 0).col, .ref c0, rawInt (mPos 1).line, rawInt (mPos 1).col, .ref c1, rawInt (mPos 2).line, rawInt (mPos 2).col, .ref c2, rawInt (mPos 3).line, rawInt (mPos 3).col, .ref c3, rawInt (mPos 4).line, rawInt (mPos 4).col, .ref c4, rawInt (mPos 5).line, rawInt (mPos 5).col, .ref c5] : Array Value).toList := V5
  clear PP4 XX4 PQ5 V5 U4
  dsimp only
  refine wpAny_execs_cons ?_
  rw [show cstm 8 = .Assign [.Name "__hash__" ⟨156, 8, 156, 16⟩] (.Constant .none 0 ⟨156, 19, 156, 23⟩) ⟨156, 8, 156, 23⟩ by kernel_rfl]
  refine wpAny_Assign_Name (Constant_none ?_) (by kernel_rfl)
  refine cput (s := { s with heap := hh5, toks := tt5 }) (by intro v; kernel_rfl) PP5 (by kernel_rfl) (by intro x y; kernel_rfl) (by intro x y; kernel_rfl) fun h9 t9 x9 y9 P9 => ?_
  refine wpAny_execs_nil ?_
  have kAll : ∀ b o, K5 b o → h9.get? b = some o := fun b o e => (P9.k b o e).2
  have kk : ∀ b o, K b o → K5 b o := fun b o e => kk5 _ _ (kk4 _ _ (kk3 _ _ (kk2 _ _ (kk1 _ _ (kk0 _ _ (.inl e))))))
  refine hq h9 t9 (fun n => [h0, h1, h2, x3, xx0, xx1, xx2, xx3, xx4, xx5, x9].getD n 0) (fun n => [y0, y1, y2, y3, yy0, yy1, yy2, yy3, yy4, yy5, y9].getD n 0) s.toks t0' sl (fun n => [f0, f1, f2, f3, f4, f5].getD n 0) (ep + 8) (fun b o e => kAll b o (kk b o e)) hK0 hKsl (P9.n.trans (by kernel_rfl)) (fun i hi => ?_) (kAll sl _ (kk5 _ _ (kk4 _ _ (kk3 _ _ (kk2 _ _ (kk1 _ _ (kk0 _ _ (.inr ⟨rfl, rfl⟩))))))))
  match i, hi with
  | 0, _ => exact (mm0.mono fun b o e => kk5 _ _ (kk4 _ _ (kk3 _ _ (kk2 _ _ (kk1 _ _ e))))).at kAll
  | 1, _ => exact (mm1.mono fun b o e => kk5 _ _ (kk4 _ _ (kk3 _ _ (kk2 _ _ e)))).at kAll
  | 2, _ => exact (mm2.mono fun b o e => kk5 _ _ (kk4 _ _ (kk3 _ _ e))).at kAll
  | 3, _ => exact (mm3.mono fun b o e => kk5 _ _ (kk4 _ _ e)).at kAll
  | 4, _ => exact (mm4.mono fun b o e => kk5 _ _ e).at kAll
  | 5, _ => exact mm5.at kAll
end
end Mine

open PySem PySem.W PyProof.Rows PySem.Calls
namespace Mine
theorem prep_halt {prog : Program} {w : World} {A : Around} {E : Value → Shared → Prop} {s : Shared} {v : Value} {n : Str} {Q : Option Value → Shared → Prop} (h : Halt (wpAny (model prog w) A (getAttr? v n) Q E s)) : wpAny (model prog w) A (getAttr? v n) Q E s := h.go
theorem code_halt {prog : Program} {w : World} {A : Around} {E : Value → Shared → Prop} {s : Shared} {env : Env} {pos : Pos} {fl : Nat} {n q : Str} {sc : Scope} {Q : Value → Shared → Prop} (h : Halt (wpAny (model prog w) A (classCode env pos fl n q sc) Q E s)) : wpAny (model prog w) A (classCode env pos fl n q sc) Q E s := h.go
/-- the class stands in the heap -/
structure KIn (h : Heap) (ca C ns md T0 : Addr) (t0 tq : Tok) (k : KF) (x x' : Int) (y y' z : Tok) : Prop where
  cls : h.get? C = some (clsO ns C T0 t0 tq)
  ns : h.get? ns = some (dOf (kEnt4 k x x' y y' md) 3)
  md : h.get? md = some ⟨.type "member_descriptor", none, .fields #[.str "obj" z, .ref C, .builtin "proto.slot", .builtin "proto.slot#set", rawInt 0], #[]⟩
  m : ∀ i, i < 6 → MethAt h ca i (k.f i)
def KCls (h : Heap) (C ca : Addr) : Prop := ∃ ns md T0 t0 tq k x x' y y' z, KIn h ca C ns md T0 t0 tq k x x' y y' z
section
variable {prog : Program} {w : World} {A : Around} {E : Value → Shared → Prop} {s : Shared} {ca : Addr} {mg : Str → Option Value} {env : Env}
theorem cname {K : Addr → Obj → Prop} {Pt nsA fr cC : Addr} {oC : Obj} {ep : Nat} {Q : Value → Shared → Prop} (P : Pr K s.heap Pt nsA oC (dOf #[] ep)) (hG : s.heap.Ns mainGlobals mg) (hmn : mg "__name__" = some pmLaw) (h : Q pmLaw s) :
    wpAny (model prog w) A (loadName (cenv nsA ca fr (.ref cC)) "__name__") Q E s := by
  have e1 : (cenv nsA ca fr (.ref cC)).blockKind = .class := by kernel_rfl
  have e2 : (cenv nsA ca fr (.ref cC)).kindOf "__name__" = none := by kernel_rfl
  have e3 : ((cenv nsA ca fr (.ref cC)).scope.kind.isAnnotationScope && (cenv nsA ca fr (.ref cC)).kindOf "__classdict__" == some .free && ("__name__" : Str) != "__classdict__") = false := by kernel_rfl
  unfold loadName
  rw [e1, e2, e3]
  unfold localGet
  refine wpAny_bind (wpAny_bind (p_loadN P (wpAny_ite_true rfl (p_get P (show nsLook "__name__" (dOf #[] ep) = pure none by kernel_rfl) ?_))))
  show wpAny _ _ (loadGlobal (cenv nsA ca fr (.ref cC)) "__name__") _ _ _
  unfold loadGlobal
  refine wpAny_bind (wpAny_nsGet hG ?_)
  rw [hmn]
  exact wpAny_pure h
theorem ntmd {who : String} {a : Addr} (e : (a == sysModules) = false) : notTheModulesDict who a = pure () := by unfold notTheModulesDict; rw [e]; rfl
theorem getitem_dict : typeLookup (.type "dict") "__getitem__" = pure (some (.builtin "dict.__getitem__")) := by rw [typeLookup_type, builtinLookup_eq_fast]; kernel_rfl
theorem build_cls {Q : Value → Shared → Prop} (hh : A.handled = none) (hd : A.depth + 4 < recursionLimit) (hm : (mg "__name__").getD .none = pmLaw) (hmn : mg "__name__" = some pmLaw)
    (hcode : env.code = .ref 96) (hg : env.globals = mainGlobals) (hb : env.builtins = builtinsNs) (hcl : closureFor clsScope env = pure [(("mycmp" : Str), ca)])
    (C : CodeHd s.heap 96 92) (hP : s.heap.get? 92 = some (tabObj #[])) (hG : s.heap.Ns mainGlobals mg) (hB : ∀ P, (4 : Addr) ≠ P → s.heap.BuiltinsAt mg P) (hlim : s.heap.NoLimit) (hst : statOk (s.heap.get? 2) = true)
    (hq : ∀ C h' t', KCls h' C ca → (∀ b o, b ≠ 92 → s.heap.get? b = some o → h'.get? b = some o) → (∃ cC, h'.get? 92 = some (tabObj #[rawInt clsPos.line, rawInt clsPos.col, .ref cC])) → (∀ o, s.heap.get? C ≠ some o) → (∀ b o es ep h'', s.heap.get? b = some o → o.data = .dict es ep → Heap.SameBut b h' h'' → KCls h'' C ca) → Q (.ref C) { s with heap := h', toks := t' }) :
    wpAny (model prog w) A (buildClass "K" "cmp_to_key.<locals>.K" [.type "object"] [] clsBody clsScope ["obj"] 135 env clsPos none) Q E s := by
  have g1 : isType (.type "object") = pure true := by kernel_rfl
  have g2 : typeOf (.type "object") = pure (.type "type") := by kernel_rfl
  have g3 : isType (.type "type") = pure true := by kernel_rfl
  have g4 : isSubtype (.type "type") (.type "type") = pure true := by rw [isSubtype_type]; kernel_rfl
  unfold buildClass
  repeat (first | with_reducible (first | refine wpAny_pure ?_ | refine wpAny_bind ?_ | refine wpAny_holding ?_ | refine wpAny_of_eq (by assumption) ?_ | refine prep_halt ?_ | refine wpAny_mkText ?_) | ((with_reducible refine newObj_at rfl ?hz ?hf fun T0 h0 e0 k0 => ?_); (case hz => (show (1 : Nat) ≤ sizeLine; rw [sizeLine_eq]; decide)); (case hf => rfl)) | wp_delta | ((with_reducible apply wpAny_ite_false); focus (rfl; done)) | ((with_reducible apply wpAny_ite_true); focus (rfl; done)))
  refine ⟨?_⟩
  refine prep_get fun bm h1 t1 e1 k1 => ?_
  refine wpAny_bind ?_
  refine prep_call e1 fun nsA h2 l2 e2 k2 => ?_
  have hz2 : (2 : Addr) < nsA := by
    obtain ⟨o, eo⟩ : ∃ o, s.heap.get? 2 = some o := by
      cases q : s.heap.get? 2 with
      | none => rw [q] at hst; (first | exact none_some hst | exact some_none hst | (obtain rfl := Option.some.inj hst) | cases hst)
      | some o => exact ⟨o, rfl⟩
    exact Nat.lt_of_lt_of_le (Heap.lt_size (k1 _ _ (k0 _ _ eo).2)) l2
  have hns : (nsA == sysModules) = false := by
    have : nsA ≠ sysModules := fun q => by rw [q] at hz2; exact absurd hz2 (by decide)
    exact beq_false_of_ne this
  have hD2 : ∀ t', ({ s with heap := h2, toks := t' } : Shared).TypeIs (.ref nsA) "dict" := fun _ => ⟨_, e2, rfl⟩
  clear e1
  have k2' : ∀ b o, s.heap.get? b = some o → b ≠ nsA ∧ h2.get? b = some o := fun b o e => k2 b o (k1 b o (k0 b o e).2)
  have eT : h2.get? T0 = some { cls := Value.type "tuple", data := Data.seq #[Value.type "object"] } := (k2 _ _ (k1 _ _ e0)).2
  have nT : T0 ≠ nsA := (k2 _ _ (k1 _ _ e0)).1
  have nT0 : ∀ b o, s.heap.get? b = some o → b ≠ T0 := fun b o e => (k0 b o e).1
  clear k2 k1 k0 l2 e0
  have f1 := ntmd (who := "class:the-namespace-that-__prepare__-gave") hns
  have f2 := getitem_dict
  rw [hg, hb]
  show wpAny (model prog w) A _ _ _ { s with heap := h2, toks := t1 }
  repeat (first | with_reducible (first | refine wpAny_pure ?_ | refine wpAny_bind ?_ | refine wpAny_holding ?_ | refine wpAny_of_eq (by assumption) ?_ | refine code_halt ?_ | refine wpAny_mkText ?_ | refine wpAny_specialOf (hD2 _) (by assumption) ?_) | wp_delta | ((with_reducible apply wpAny_ite_false); focus (rfl; done)) | ((with_reducible apply wpAny_ite_true); focus (rfl; done)))
  refine ⟨?_⟩
  have hk2 : ∀ b o, s.heap.get? b = some o → h2.get? b = some o := fun b o e => (k2' b o e).2
  have C2 : CodeHd h2 96 92 := C.keeps hk2
  refine classCode_at hcode C2 (hk2 _ _ hP) (show TriplesOk [] from True.intro) (by kernel_rfl) fun cC Pt h3 t3 x3 lC lP C3 eP e92 => ?_
  have hB2 := hB 92 (by decide)
  have hG3 : h3.Ns mainGlobals mg := (hG.keeps hk2).extBut x3 (by decide)
  obtain ⟨bm, ob, hbm, hne0, _, hneP, hbo, hcls, hdict, hdata⟩ := hB2
  have hbo3 := x3 _ _ hneP (hk2 _ _ hbo)
  refine wpAny_bind (wpAny_builtinsFor hG3 hbm hne0 hbo3 hcls hdict hdata ?_)
  unfold newBodyFrame
  refine wpAny_bind (wpAny_bind (wpAny_nsGet hG3 (allocAt rfl fun fr h4 e4 k4 => ?_)))
  refine wpAny_bind (wpAny_of_eq hcl ?_)
  have n92 : nsA ≠ 92 := fun q => (k2' 92 _ hP).1 q.symm
  have nsP : nsA < Pt := Nat.lt_of_lt_of_le (Heap.lt_size e2) lP
  have ns4 : h4.get? nsA = some (dOf #[] 0) := (k4 _ _ (x3 _ _ n92 e2)).2
  have pt4 : h4.get? Pt = some (tabObj #[]) := (k4 _ _ eP).2
  have hG4 : h4.Ns mainGlobals mg := hG3.keeps fun b o e => (k4 b o e).2
  have hlim4 : h4.NoLimit := by
    obtain ⟨mc, a, r⟩ := hlim
    exact ⟨mc, ((a.keeps hk2).extBut x3 (by decide)).keeps fun b o e => (k4 b o e).2, r⟩
  have hgP : mainGlobals ≠ Pt := fun q => by
    have : mainGlobals < nsA := by
      obtain ⟨o, es, ep, e, _⟩ := hG
      exact absurd (q ▸ (Nat.lt_of_lt_of_le (Heap.lt_size (hk2 _ _ e)) lP)) (Nat.lt_irrefl _)
    exact absurd (q ▸ this) (Nat.not_lt.mpr (Nat.le_of_lt nsP))
  have hgN : mainGlobals ≠ nsA := by
    obtain ⟨o, es, ep, e, _⟩ := hG
    exact (k2' _ _ e).1
  have X : KB (fun b x => h4.get? b = some x ∧ b ≠ Pt ∧ b ≠ nsA) mg cC Pt := by
    refine ⟨fun h hk => ?_, fun h hk => ?_, fun h hk => ?_⟩
    · obtain ⟨o, es, ep, e, r⟩ := hG4
      exact ⟨o, es, ep, hk _ _ ⟨e, hgP, hgN⟩, r⟩
    · refine ⟨bm, ob, hbm, hne0, by assumption, fun q => ?_, hk _ _ ⟨(k4 _ _ hbo3).2, fun q => ?_, (k2' _ _ hbo).1⟩, hcls, hdict, hdata⟩ <;> exact absurd (q ▸ Heap.lt_size (hk2 _ _ hbo)) (Nat.not_lt.mpr lP)
    · obtain ⟨o, vs, file, tf, flags, tg, inF, text, tt, e, r⟩ := C3
      have hc1 : cC ≠ Pt := r.2.2.2.2.2.2.2.2
      exact ⟨o, vs, file, tf, flags, tg, inF, text, tt, hk _ _ ⟨(k4 _ _ e).2, hc1, fun q => absurd (q ▸ Nat.lt_of_lt_of_le (Heap.lt_size e2) lC) (Nat.lt_irrefl _)⟩, r⟩
  have P0 : Pr (fun b x => h4.get? b = some x ∧ b ≠ Pt ∧ b ≠ nsA) h4 Pt nsA (tabObj #[]) (dOf #[] 0) := ⟨pt4, ns4, fun b x e => ⟨e.2, e.1⟩, (Nat.ne_of_lt nsP).symm⟩
  refine wpAny_holding (wpAny_bind (wpAny_enterFrame hlim4 (by lia) ?_))
  rw [show ({ scope := clsScope, locals := nsA, globals := mainGlobals, cells := (Option.map (fun x => (("__class__" : Str), x)) (none : Option Addr)).toList ++ (Option.map (fun x => (("__classdict__" : Str), x)) (none : Option Addr)).toList ++ [(("mycmp" : Str), ca)], qual := ("cmp_to_key.<locals>.K" : Str) ++ (("." : String) : Str), code := Value.ref cC, frame := some fr, builtins := builtinsNs } : Env) = cenv nsA ca fr (.ref cC) by kernel_rfl]
  refine wpAny_bind (wpAny_onRaise (wpAny_bind (cname P0 hG4 hmn (wpAny_bind (cput (by intro v; kernel_rfl) P0 (by kernel_rfl) (by intro x y; kernel_rfl) (by intro x y; kernel_rfl) fun h5 t5 x5 y5 P5 => wpAny_bind (wpAny_mkText (wpAny_bind (cput (s := { s with heap := h5, toks := t5 + 1 }) (by intro v; kernel_rfl) P5 (by kernel_rfl) (by intro x y; kernel_rfl) (by intro x y; kernel_rfl) fun h6 t6 x6 y6 P6 => wpAny_bind (wpAny_mkInt' (wpAny_bind (cput (s := { s with heap := h6, toks := t6 + 1 }) (by intro v; kernel_rfl) P6 (by kernel_rfl) (by intro x y; kernel_rfl) (by intro x y; kernel_rfl) fun h7 t7 x7 y7 P7 => wpAny_pure ?_)))))))))))
  have P7' : Pr (fun b x => h4.get? b = some x ∧ b ≠ Pt ∧ b ≠ nsA) h7 Pt nsA (tabObj #[]) (dOf #[⟨x5, .str "__module__" y5, pmLaw⟩, ⟨x6, .str "__qualname__" y6, .str "cmp_to_key.<locals>.K" t5⟩, ⟨x7, .str "__firstlineno__" y7, .int 135 t6⟩] 3) := P7.cast (by kernel_rfl) (by kernel_rfl)
  clear P7 P6 P5
  show wpAny (model prog w) A _ _ _ { s with heap := h7, toks := t7 }
  refine wpAny_bind (wpAny_run (codeAny_body (by kernel_rfl) (by kernel_rfl) (cls_body (s := { s with heap := h7, toks := t7 }) X hm hgP P7' fun h8 t8 hs ts tm ts1 sl f ep8 kK nK nKs eN mth eS => ?_)))
  clear P7'
  have nSl : sl ≠ nsA := fun q => by rw [q, eN] at eS; have := congrArg Obj.data (Option.some.inj eS); (first | exact none_some this | exact some_none this | (obtain rfl := Option.some.inj this) | cases this)
  have P8 : Pr (fun b o => h8.get? b = some o ∧ b ≠ sl ∧ b ≠ nsA) h8 sl nsA _ _ := ⟨eS, eN, fun b o e => ⟨e.2, e.1⟩, nSl⟩
  have g5 : ∀ A', wpAny (model prog w) A' (List.mapM mkText [("obj" : Str)]) (fun vs s' => vs = [.str "obj" t8] ∧ s' = { s with heap := h8, toks := t8 + 1 }) (fun _ _ => False) { s with heap := h8, toks := t8 } := fun A' => by
    rw [List.mapM_cons]
    refine wpAny_bind (wpAny_mkText (wpAny_bind ?_))
    rw [List.mapM_nil]
    exact wpAny_pure (wpAny_pure ⟨rfl, rfl⟩)
  refine wpAny_bind (wpAny_onRaise (wpAny_bind (wpAny_mono (g5 A) (fun vs s' hv => ?_) fun _ _ e => e.elim)))
  obtain ⟨rfl, rfl⟩ := hv
  refine wpAny_bind (wpAny_newTextTuple ?_)
  generalize hst9 : h8.objs.size = st9
  have est : (h8.push { cls := Value.type "tuple", data := Data.seq #[Value.str "obj" t8] }).get? st9 = some ⟨.type "tuple", none, .seq #[.str "obj" t8] 0, #[]⟩ := by rw [← hst9]; exact Heap.get?_push_size _ rfl
  have nst : ∀ b o, h8.get? b = some o → b ≠ st9 := fun b o e => by rw [← hst9]; exact Nat.ne_of_lt (Heap.lt_size e)
  have P9 := (P8.more (h' := h8.push { cls := Value.type "tuple", data := Data.seq #[Value.str "obj" t8] }) fun b o e => Heap.get?_push_of_some _ e).add est (nst _ _ P8.c).symm (nst _ _ P8.n).symm
  refine wpAny_bind (cput (s := { s with heap := h8.push { cls := Value.type "tuple", data := Data.seq #[Value.str "obj" t8] }, toks := t8 + 1 }) (by intro v; kernel_rfl) P9 (by kernel_rfl) (by intro x y; kernel_rfl) (by intro x y; kernel_rfl) fun h10 t10 x10 y10 P10 => wpAny_pure ?_)
  clear P9
  dsimp only
  refine wpAny_ite_false (by decide) ?_
  refine wpAny_bind ?_
  let k : KF := { h := fun n => if n = 11 then x10 else hs n, t := fun n => if n = 11 then y10 else ts n, tm := tm, tq := t5, tl := t6, sl := sl, f := f, st := st9 }
  have kold : ∀ b o, h8.get? b = some o → b ≠ sl → b ≠ nsA → h10.get? b = some o := fun b o e n1 n2 => (P10.k b o (.inl ⟨e, n1, n2⟩)).2
  have hst10 : statOk (h10.get? 2) = true := by
    cases q : s.heap.get? 2 with
    | none => rw [q] at hst; (first | exact none_some hst | exact some_none hst | (obtain rfl := Option.some.inj hst) | cases hst)
    | some o =>
      have e4' : h4.get? 2 = some o := (k4 _ _ (x3 _ _ (by decide) (hk2 _ _ q))).2
      have nP2 : (2 : Addr) ≠ Pt := fun w => absurd (w ▸ Nat.lt_trans hz2 nsP) (Nat.lt_irrefl _)
      have e8 := kK 2 o ⟨e4', nP2, Nat.ne_of_lt hz2⟩
      have n2 : (2 : Addr) ≠ sl := nKs 2 o ⟨e4', nP2, Nat.ne_of_lt hz2⟩
      rw [kold _ _ e8 n2 (Nat.ne_of_lt hz2), ← q]; exact hst
  have mtK : ∀ i, i < 6 → MethAt h10 ca i (f i) := fun i hi => by
    obtain ⟨doc, c', ctv, e, cc, oc, vs, tt, ecc, eoc, ed, ev⟩ := mth i hi
    (first | exact none_some ecc | exact some_none ecc | (obtain rfl := Option.some.inj ecc) | cases ecc)
    refine ⟨doc, c', ctv, kold _ _ e (fun q => ?_) (fun q => ?_), c', oc, vs, tt, rfl, kold _ _ eoc (fun q => ?_) (fun q => ?_), ed, ev⟩
    · rw [q, eS] at e; have := congrArg Obj.data (Option.some.inj e); (first | exact none_some this | exact some_none this | (obtain rfl := Option.some.inj this) | cases this)
    · rw [q, eN] at e; have := congrArg Obj.data (Option.some.inj e); (first | exact none_some this | exact some_none this | (obtain rfl := Option.some.inj this) | cases this)
    · rw [q, eS] at eoc; rw [← Option.some.inj eoc] at ed; (first | exact none_some ed | exact some_none ed | (obtain rfl := Option.some.inj ed) | cases ed)
    · rw [q, eN] at eoc; rw [← Option.some.inj eoc] at ed; (first | exact none_some ed | exact some_none ed | (obtain rfl := Option.some.inj ed) | cases ed)
  have hT0 : h10.get? T0 = some ⟨.type "tuple", none, .seq #[.type "object"] 0, #[]⟩ := by
    have e4' := (k4 _ _ (x3 T0 _ (fun q => by rw [q] at nT0; exact nT0 _ _ hP rfl) eT)).2
    have e8 := kK T0 _ ⟨e4', fun q => absurd (q ▸ Heap.lt_size eT) (Nat.not_lt.mpr lP), nT⟩
    exact kold _ _ e8 (nKs T0 _ ⟨e4', fun q => absurd (q ▸ Heap.lt_size eT) (Nat.not_lt.mpr lP), nT⟩) nT
  have keep : ∀ b o, b ≠ 92 → s.heap.get? b = some o → h10.get? b = some o := fun b o hb e => by
    have e4' := (k4 _ _ (x3 b _ hb (hk2 _ _ e))).2
    have e8 := kK b _ ⟨e4', fun q => absurd (q ▸ Heap.lt_size (hk2 _ _ e)) (Nat.not_lt.mpr lP), (k2' _ _ e).1⟩
    exact kold _ _ e8 (nKs b _ ⟨e4', fun q => absurd (q ▸ Heap.lt_size (hk2 _ _ e)) (Nat.not_lt.mpr lP), (k2' _ _ e).1⟩) (k2' _ _ e).1
  have hns10 : h10.get? nsA = some ⟨.type "dict", none, .dict (kEnt k) (ep8 + 1), #[]⟩ := P10.n.trans (by kernel_rfl)
  refine type_call (s := { s with heap := h10, toks := t10 }) (type_new (k := k) (lep := 0) (tep := 0) (ep := ep8 + 1) (t1 := ts1) (s := { s with heap := h10, toks := t10 }) hh hns10 hT0 P10.c hns (fun i hi => ?_) ⟨_, (P10.k st9 _ (.inr ⟨rfl, rfl⟩)).2, rfl⟩ hst10 fun h' t' C ns md x x' y y' z eC ens emd kold' => ?_)
  · obtain ⟨doc, c', ctv, e, _⟩ := mtK i hi
    exact ⟨_, e, rfl⟩
  · refine ⟨C, _, rfl, eC, rfl, wpAny_pure (hq C h' t' ⟨ns, md, T0, s.toks, t5, k, x, x', y, y', z, eC, ens, emd, fun i hi => (mtK i hi).keeps fun b o e => (kold' b o e).2⟩ (fun b o hb e => (kold' b o (keep b o hb e)).2) ⟨cC, ?_⟩ (fun o e => ?_) fun b o es ep h'' eb edb sb => ?_)⟩
    · have e4' := (k4 _ _ e92).2
      have e8 := kK 92 _ ⟨e4', fun q => absurd (q ▸ Heap.lt_size (hk2 _ _ hP)) (Nat.not_lt.mpr lP), (k2' _ _ hP).1⟩
      exact (kold' _ _ (kold _ _ e8 (nKs 92 _ ⟨e4', fun q => absurd (q ▸ Heap.lt_size (hk2 _ _ hP)) (Nat.not_lt.mpr lP), (k2' _ _ hP).1⟩) (k2' _ _ hP).1)).2
    · by_cases hC : C = 92
      · have e4' := (k4 _ _ e92).2
        have e8 := kK 92 _ ⟨e4', fun q => absurd (q ▸ Heap.lt_size (hk2 _ _ hP)) (Nat.not_lt.mpr lP), (k2' _ _ hP).1⟩
        exact (kold' 92 _ (kold _ _ e8 (nKs 92 _ ⟨e4', fun q => absurd (q ▸ Heap.lt_size (hk2 _ _ hP)) (Nat.not_lt.mpr lP), (k2' _ _ hP).1⟩) (k2' _ _ hP).1)).1.1 hC.symm
      · exact (kold' C o (keep C o hC e)).1.1 rfl
    · have hb92 : b ≠ 92 := fun q => by rw [q, hP] at eb; rw [← Option.some.inj eb] at edb; (first | exact none_some edb | exact some_none edb | (obtain rfl := Option.some.inj edb) | cases edb)
      obtain ⟨⟨nb1, nb2⟩, eb'⟩ := kold' b o (keep b o hb92 eb)
      have ne : ∀ c oc, h'.get? c = some oc → (∀ es ep, oc.data ≠ .dict es ep) → c ≠ b := fun c oc e hn q => by
        rw [q, eb'] at e
        rw [← Option.some.inj e] at hn
        exact hn _ _ edb
      refine ⟨ns, md, T0, s.toks, t5, k, x, x', y, y', z, (sb.2 _ nb1.symm).trans eC, (sb.2 _ nb2.symm).trans ens, (sb.2 _ (ne _ _ emd (fun _ _ h => by cases h))).trans emd, fun i hi => ?_⟩
      obtain ⟨doc, c', ctv, e, cc, oc, vs, tt, ecc, eoc, ed, ev⟩ := (mtK i hi).keeps (h' := h') fun b o e => (kold' b o e).2
      (first | exact none_some ecc | exact some_none ecc | (obtain rfl := Option.some.inj ecc) | cases ecc)
      exact ⟨doc, c', ctv, (sb.2 _ (ne _ _ e (fun _ _ h => by cases h))).trans e, c', oc, vs, tt, rfl, (sb.2 _ (ne _ _ eoc (fun _ _ h => by rw [ed] at h; (first | exact none_some h | exact some_none h | (obtain rfl := Option.some.inj h) | cases h)))).trans eoc, ed, ev⟩
end
end Mine

open PySem PySem.W PyProof.Rows PySem.Calls
namespace Mine
theorem hd96 {D : Wd} {B : Heap} (X : Std D) (G : Good D B) : CodeHd B 96 92 :=
  ⟨_, _, _, _, _, _, _, _, _, G.k 96 _ (by rw [X.K]; rfl), rfl, rfl, rfl, rfl, rfl, rfl, rfl, rfl, by decide⟩
def fd16 : FuncData := fdO 16 mFt 551 96 .none
theorem clsS_eq : clsS = .ClassDef "K" [.Name "object" ⟨135, 12, 135, 18⟩] [] clsBody [] [] clsScope none "K" ["obj"] clsPos := by kernel_rfl
def retS : Stmt := .Return (some (.Name "K" ⟨157, 11, 157, 12⟩)) ⟨157, 4, 157, 12⟩
theorem body16_eq : bodyOf 16 = [clsS, retS] := by kernel_rfl
def env16 (h : Heap) : Env := callEnvC fd16 h.objs.size 97
theorem env16_cells (h : Heap) : (env16 h).cells = [(("mycmp" : Str), h.objs.size + 1)] := by kernel_rfl
theorem cmp_call {D : Wd} (X : Std D) {A : Around} {B : Heap} {s : Shared} {L : Addr} {Q : Value → Shared → Prop} {E : Value → Shared → Prop} (hh : A.handled = none) (hd : A.depth + 8 < recursionLimit) (G : Good D B) (x : Ext B s.heap)
    (hP : s.heap.get? 92 = some (tabObj #[])) (hst : statOk (s.heap.get? 2) = true)
    (H : ∀ C ca h' t', KCls h' C ca → (∃ o, h'.get? ca = some o ∧ o.data = .cell (some (.ref L))) → (∀ b o, b ≠ 92 → s.heap.get? b = some o → h'.get? b = some o) →
      (∃ cC, h'.get? 92 = some (tabObj #[rawInt clsPos.line, rawInt clsPos.col, .ref cC])) → s.heap.objs.size ≤ h'.objs.size → Q (.ref C) { s with heap := h', toks := t' }) :
    wpAny (model D.prog D.w) A (call (.ref 97) [.ref L]) Q E s := by
  have ho : s.heap.get? 97 = some (fnO 16 mFt 551 96 .none) := x _ _ (G.k 97 _ (by rw [X.K]; rfl))
  have hcr : B.CodeRec (.ref 96) "cmp_to_key" := G.cod _ (by rw [X.codes]; exact List.mem_of_getElem? (i := 7) rfl)
  refine wpAny_call (codeAny_call_cells (fd := fd16) (body := bodyOf 16) (vals := [.ref L]) (binds := [(("mycmp" : Str), .ref L)]) (by lia) ho rfl (G.lim.keeps x) (hcr.keeps x) rfl (by kernel_rfl) rfl (fun y hy => ?_) (fun s₁ I => ?_) (by kernel_rfl) (by kernel_rfl) (by kernel_rfl))
  · rw [List.mem_singleton.mp hy]
    exact .inr ⟨by kernel_rfl, by kernel_rfl⟩
  change InCallC s (env16 s.heap).locals _ (env16 s.heap).cells _ s₁ at I
  change wpAny (model D.prog D.w) (A.deeper (env16 s.heap)) (execs (bodyOf 16) (env16 s.heap)) _ _ s₁
  have hk : ∀ b o, s.heap.get? b = some o → s₁.heap.get? b = some o := I.toInCall.keep
  have xk : ∀ b o, B.get? b = some o → s₁.heap.get? b = some o := fun b o e => hk b o (x b o e)
  have hA1 : (A.deeper (env16 s.heap)).handled = none := by rw [Around.deeper]; exact hh
  have hA2 : (A.deeper (env16 s.heap)).depth + 4 < recursionLimit := by show A.depth + 1 + 4 < _; lia
  have hb : D.mb "__build_class__" = some (.builtin "__build_class__") := X.blt _ (List.mem_of_getElem? (i := 13) rfl)
  have hob : D.mb "object" = some (.type "object") := X.blt _ (List.mem_of_getElem? (i := 7) rfl)
  have hog : D.mg "object" = none := X.glob _ (List.mem_of_getElem? (i := 26) rfl)
  have hmn : D.mg "__name__" = some pmLaw := X.glob _ (List.mem_of_getElem? (i := 34) rfl)
  have ecl := env16_cells s.heap
  generalize hca : s.heap.objs.size + 1 = ca at ecl
  have hcell : s₁.heap.IsCell ca (some (.ref L)) := by
    have := I.cell "mycmp" ca (by rw [ecl]; rfl)
    exact this
  rw [body16_eq, clsS_eq]
  refine wpAny_execs_cons ?_
  rw [arm_exec_ClassDef]
  refine wpAny_bind (wpAny_pure (wpAny_bind (wpAny_standAt (wpAny_bind ?_))))
  unfold buildClassGuard
  refine wpAny_bind (wpAny_nsGet (a := builtinsNs) (G.b.keeps xk) ?_)
  rw [hb]
  refine wpAny_pure (wpAny_bind (wpAny_holding (wpAny_bind ?_)))
  unfold evalArgs
  refine wpAny_bind (wpAny_items_cons (Calls.Name_function_global (env := env16 s.heap) (x := "object") (pos := ⟨135, 12, 135, 18⟩) (by kernel_rfl) (by kernel_rfl) ?_ (by rfl)) (by rfl))
  unfold loadGlobal
  refine wpAny_bind (wpAny_nsGet (a := mainGlobals) (G.g.keeps xk) ?_)
  rw [hog]
  refine wpAny_bind (wpAny_nsGet (a := builtinsNs) (G.b.keeps xk) ?_)
  rw [hob]
  refine wpAny_pure (wpAny_items_nil (wpAny_bind (wpAny_pure ?_)))
  refine wpAny_holding (wpAny_bind (wpAny_pure (wpAny_bind (wpAny_pure (wpAny_pure ?_)))))
  refine wpAny_bind (wpAny_standAt (wpAny_holding ?_))
  rw [show qualnameIn (env16 s.heap) "K" "K" = "cmp_to_key.<locals>.K" by kernel_rfl, show firstLineOf [] clsPos = 135 by kernel_rfl]
  have hcl : closureFor clsScope (env16 s.heap) = pure [(("mycmp" : Str), ca)] := by rw [← hca]; kernel_rfl
  have hB : ∀ P, (4 : Addr) ≠ P → s₁.heap.BuiltinsAt D.mg P := fun P hP => ⟨4, _, X.glob ("__builtins__", some (.ref 4)) (List.mem_of_getElem? (i := 33) rfl), by decide, by decide, hP, xk _ _ (G.k 4 _ (by rw [X.K]; rfl)), rfl, rfl, rfl⟩
  refine build_cls (mg := D.mg) hA1 hA2 (by rw [hmn]; rfl) hmn rfl rfl rfl hcl ((hd96 X G).keeps xk) (hk _ _ hP) (G.g.keeps xk) hB (G.lim.keeps xk) (stat_keep hst hk) fun C h' t' kc keep tab _ kd => ?_
  refine wpAny_bind (wpAny_pure (wpAny_bind (wpAny_standAt (wpAny_bind (wpAny_bindName ?_)))))
  obtain ⟨o0, es0, ep0, e0, d0, r0⟩ := id I.toInCall.ns
  have hL92 : (env16 s.heap).locals ≠ 92 := fun q => by
    rw [q, hk _ _ hP] at e0
    rw [← Option.some.inj e0] at d0; (first | exact none_some d0 | exact some_none d0 | (obtain rfl := Option.some.inj d0) | cases d0)
  have hn' : h'.Ns (env16 s.heap).locals _ := ⟨o0, es0, ep0, keep _ _ hL92 e0, d0, r0⟩
  refine wpAny_storeName_local (by kernel_rfl) hn' (fun h'' hns hs => wpAny_pure ?_) (by rfl)
  refine wpAny_execs_cons (wpAny_Return_some (wpAny_Name (wpAny_loadName_local (by kernel_rfl) (by kernel_rfl) hns (if_pos rfl) ?_) (by rfl)))
  have hLs : (env16 s.heap).locals = s.heap.objs.size := by kernel_rfl
  have kb : ∀ b o, b ≠ 92 → s.heap.get? b = some o → h''.get? b = some o := fun b o hb e =>
    (hs.2 b (fun q => by rw [q, hLs] at e; exact absurd (Heap.lt_size e) (Nat.lt_irrefl _))).trans (keep b o hb (hk b o e))
  obtain ⟨oc, eoc, doc⟩ := hcell
  have hca' : ca ≠ (env16 s.heap).locals := by rw [hLs, ← hca]; exact Nat.succ_ne_self _
  have eca : h''.get? ca = some oc := (hs.2 _ hca').trans (keep _ _ (fun q => by rw [q, hk _ _ hP] at eoc; rw [← Option.some.inj eoc] at doc; (first | exact none_some doc | exact some_none doc | (obtain rfl := Option.some.inj doc) | cases doc)) eoc)
  obtain ⟨h1, tk, hs1, _⟩ := I.done
  rw [hs1]
  refine H C ca h'' _ (kd _ o0 es0 ep0 h'' e0 d0 hs) ⟨oc, eca, doc⟩ kb ?_ ?_
  · obtain ⟨cC, e⟩ := tab
    exact ⟨cC, (hs.2 _ hL92.symm).trans e⟩
  · have := Heap.lt_size eca
    rw [← hca] at this
    exact Nat.le_of_lt (Nat.lt_of_succ_lt this)
end Mine

open PySem PySem.W PyProof.Rows PySem.Calls
namespace Mine
theorem lookup_all {K : Frag} {h : Heap} (hk : ∀ p ∈ K, h.get? p.1 = some p.2) {a : Addr} {o : Obj} (hm : (a, o) ∈ K) : K.lookup a = some o := by
  have : ∀ K : Frag, (a, o) ∈ K → ∃ o', K.lookup a = some o' := fun K => by
    induction K with
    | nil => intro h; (first | exact none_some h | exact some_none h | (obtain rfl := Option.some.inj h) | cases h)
    | cons p r ih =>
      intro hm
      rw [List.lookup_cons]
      by_cases e : a = p.1
      · exact ⟨p.2, by rw [e, beq_self_eq_true]⟩
      · rw [beq_eq_false_iff_ne.mpr e]
        exact ih ((List.mem_cons.mp hm).resolve_left fun q => e (by rw [← q]))
  obtain ⟨o', e⟩ := this K hm
  have h1 := hk _ (mem_of_lookupK e)
  have h2 := hk _ hm
  rw [e, ← h1, ← h2]
/-- the class's objects, as a written part -/
structure KP (K : Frag) (ca C ns md T0 : Addr) (t0 tq : Tok) (k : KF) (x x' : Int) (y y' z : Tok) : Prop where
  lC : K.lookup C = some (clsO ns C T0 t0 tq)
  lN : K.lookup ns = some (dOf (kEnt4 k x x' y y' md) 3)
  lM : K.lookup md = some ⟨.type "member_descriptor", none, .fields #[.str "obj" z, .ref C, .builtin "proto.slot", .builtin "proto.slot#set", rawInt 0], #[]⟩
  l0 : ∃ doc c' ctv, K.lookup (k.f 0) = some (fnK 0 ca doc c' ctv)
  l1 : ∃ doc c' ctv, K.lookup (k.f 1) = some (fnK 1 ca doc c' ctv)
theorem kp_of {h : Heap} {ca C ns md T0 : Addr} {t0 tq : Tok} {k : KF} {x x' : Int} {y y' z : Tok} (X : KIn h ca C ns md T0 t0 tq k x x' y y' z) : ∃ K : Frag, K.In h ∧ KP K ca C ns md T0 t0 tq k x x' y y' z := by
  obtain ⟨d0, c0, v0, e0, _⟩ := X.m 0 (by decide)
  obtain ⟨d1, c1, v1, e1, _⟩ := X.m 1 (by decide)
  let K : Frag := [(C, clsO ns C T0 t0 tq), (ns, dOf (kEnt4 k x x' y y' md) 3), (md, ⟨.type "member_descriptor", none, .fields #[.str "obj" z, .ref C, .builtin "proto.slot", .builtin "proto.slot#set", rawInt 0], #[]⟩), (k.f 0, fnK 0 ca d0 c0 v0), (k.f 1, fnK 1 ca d1 c1 v1)]
  have hk : ∀ p ∈ K, h.get? p.1 = some p.2 := by
    intro p hp
    simp only [K, List.mem_cons, List.not_mem_nil, or_false] at hp
    rcases hp with rfl | rfl | rfl | rfl | rfl
    · exact X.cls
    · exact X.ns
    · exact X.md
    · exact e0
    · exact e1
  exact ⟨K, fun a o e => hk _ (mem_of_lookupK e), lookup_all hk (.head _), lookup_all hk (.tail _ (.head _)), lookup_all hk (.tail _ (.tail _ (.head _))), ⟨_, _, _, lookup_all hk (.tail _ (.tail _ (.tail _ (.head _))))⟩, ⟨_, _, _, lookup_all hk (.tail _ (.tail _ (.tail _ (.tail _ (.head _)))))⟩⟩
section
variable {K : Frag} {ca C ns md T0 : Addr} {t0 tq : Tok} {k : KF} {x x' : Int} {y y' z : Tok} (P : KP K ca C ns md T0 t0 tq k x x' y y' z)
include P
theorem KP.nsl (name : Str) : nsIn K ns name = lookIn name (dOf (kEnt4 k x x' y y' md) 3) := by
  unfold nsIn lookIn
  rw [P.lN]
  dsimp only
  cases List.find? (fun x => x.key.isStr name) (kEnt4 k x x' y y' md).toList <;> rfl
theorem KP.own {name : Str} {v : Value} (e : ∀ ep, lookIn name (dOf (kEnt4 k x x' y y' md) ep) = some (some v)) : findIn K (.ref C) name = some (some v) := by
  unfold findIn
  dsimp only
  rw [P.lC]
  show alongIn K name [.ref C, .type "object"] = _
  unfold alongIn ownIn
  dsimp only
  rw [P.lC]
  dsimp only
  rw [P.nsl, e 3]
theorem KP.up {name : Str} {r : Option Value} (e : ∀ ep, lookIn name (dOf (kEnt4 k x x' y y' md) ep) = some none) (e2 : fastBuiltinOwn "object" name = r) : findIn K (.ref C) name = some r := by
  unfold findIn
  dsimp only
  rw [P.lC]
  show alongIn K name [.ref C, .type "object"] = _
  unfold alongIn ownIn
  dsimp only
  rw [P.lC]
  dsimp only
  rw [P.nsl, e 3]
  show alongIn K name [.type "object"] = _
  unfold alongIn ownIn
  dsimp only
  rw [e2]
  cases r <;> rfl
theorem KP.f_init : findIn K (.ref C) "__init__" = some (some (.ref (k.f 0))) := P.own fun ep => by kernel_rfl
theorem KP.f_lt : findIn K (.ref C) "__lt__" = some (some (.ref (k.f 1))) := P.own fun ep => by kernel_rfl
theorem KP.f_obj : findIn K (.ref C) "obj" = some (some (.ref md)) := P.own fun ep => by kernel_rfl
theorem KP.f_ga : findIn K (.ref C) "__getattribute__" = some (some (.builtin "object.__getattribute__")) := P.up (fun ep => by kernel_rfl) (by kernel_rfl)
theorem KP.f_gat : findIn K (.ref C) "__getattr__" = some none := P.up (fun ep => by kernel_rfl) (by kernel_rfl)
theorem KP.f_sa : findIn K (.ref C) "__setattr__" = some (some (.builtin "object.__setattr__")) := P.up (fun ep => by kernel_rfl) (by kernel_rfl)
theorem KP.cls : clsIn K C = some { name := "K", bases := [.type "object"], mro := [.ref C, .type "object"], ns, qualname := "cmp_to_key.<locals>.K", hasDict := false, slotNames := ["obj"] } := by unfold clsIn; rw [P.lC]
theorem KP.tC : typeIn K (.ref C) = some (.type "type") := by unfold typeIn; dsimp only; rw [P.lC]; rfl
theorem KP.tM : typeIn K (.ref md) = some (.type "member_descriptor") := by unfold typeIn; dsimp only; rw [P.lM]; rfl
theorem KP.t0' : typeIn K (.ref (k.f 0)) = some (.type "function") := by obtain ⟨_, _, _, e⟩ := P.l0; unfold typeIn; dsimp only; rw [e]; rfl
theorem KP.t1' : typeIn K (.ref (k.f 1)) = some (.type "function") := by obtain ⟨_, _, _, e⟩ := P.l1; unfold typeIn; dsimp only; rw [e]; rfl
theorem KP.mget : specialIn K (.ref md) "__get__" = some (some (.builtin "member_descriptor.__get__")) := by unfold specialIn; rw [P.tM]; kernel_rfl
theorem KP.mset : specialIn K (.ref md) "__set__" = some (some (.builtin "member_descriptor.__set__")) := by unfold specialIn; rw [P.tM]; kernel_rfl
theorem KP.takes : takesIn K (.ref md) = some true := by unfold takesIn; rw [P.mset]
theorem KP.taker : takerIn K C "obj" = some (some (.ref md)) := by unfold takerIn; rw [P.f_obj, Option.bind_some]; simp only [P.takes]; rfl
theorem KP.over : plainOver K C = true := by unfold plainOver; rw [P.cls]; rfl
theorem KP.slot : slotIn K md C = some 0 := by
  have e : recIn K md "member_descriptor" = some [.str "obj" z, .ref C, .builtin "proto.slot", .builtin "proto.slot#set", rawInt 0] := by unfold recIn; rw [P.lM]; rfl
  unfold slotIn
  rw [e, P.cls]
  simp [rawInt]
theorem KP.makes : makesIn K C = true := by
  have e1 : specialIn K (.ref C) "__call__" = some (some (.builtin "type.__call__")) := by unfold specialIn; rw [P.tC]; kernel_rfl
  have e2 : instIn K (.ref C) (.type "type") = some true := by unfold instIn; rw [P.tC]; kernel_rfl
  unfold makesIn
  rw [P.lC]
  dsimp only
  rw [e1, e2]
  simp
end
end Mine

open PySem PySem.W PyProof.Rows PySem.Calls
namespace Mine
/-- an object of the key class -/
def InstIn (h : Heap) (x C : Addr) (v : Value) : Prop := ∃ dx, h.get? x = some ⟨.ref C, some dx, .plain, #[some v]⟩ ∧ h.get? dx = some emptyDict
theorem InstIn.keeps {h h' : Heap} {x C : Addr} {v : Value} (X : InstIn h x C v) (k : ∀ b o, h.get? b = some o → h'.get? b = some o) : InstIn h' x C v := by obtain ⟨dx, a, b⟩ := X; exact ⟨dx, k _ _ a, k _ _ b⟩
abbrev fdK (i : Nat) (ca : Addr) (doc : Value) (c' : Addr) (ctv : Value) : FuncData := fnX (mName i) (mQual i) (mParams i) (mBody i) (mScope i) (mClos i ca) .none .none doc pmLaw none (.ref c') ctv
theorem bind0 (ca c' : Addr) (doc ctv a b : Value) : bindArgs (fdK 0 ca doc c' ctv) ⟨[a, b], []⟩ = pure [(("self" : Str), a), (("obj" : Str), b)] := by kernel_rfl
theorem bind1 (ca c' : Addr) (doc ctv a b : Value) : bindArgs (fdK 1 ca doc c' ctv) ⟨[a, b], []⟩ = pure [(("self" : Str), a), (("other" : Str), b)] := by kernel_rfl
theorem body0_eq : mBody 0 = [.Assign [.Attribute (.Name "self" ⟨140, 12, 140, 16⟩) "obj" ⟨140, 12, 140, 20⟩] (.Name "obj" ⟨140, 23, 140, 26⟩) ⟨140, 12, 140, 26⟩] := by kernel_rfl
section
variable {prog : Program} {w : World} {A : Around} {E : Value → Shared → Prop} {s : Shared} {ca C ns md T0 : Addr} {t0 tq : Tok} {k : KF} {x x' : Int} {y y' z : Tok}
theorem inst_make {v : Value} {Q : Value → Shared → Prop} (X : KIn s.heap ca C ns md T0 t0 tq k x x' y y' z) (hlim : s.heap.NoLimit) (hd : A.depth + 1 < recursionLimit)
    (hq : ∀ xi h' t', (∀ b o, s.heap.get? b = some o → h'.get? b = some o) → InstIn h' xi C v → s.heap.objs.size ≤ h'.objs.size → Q (.ref xi) { s with heap := h', toks := t' }) : wpAny (model prog w) A (call (.ref C) [v]) Q E s := by
  obtain ⟨K, KI, P⟩ := kp_of X
  obtain ⟨doc, c', ctv, e0, hrec⟩ := X.m 0 (by decide)
  obtain ⟨h, g, d, t, os⟩ := s
  dsimp only at *
  have kk : ∀ b o, h.get? b = some o → ((h.push emptyDict).push (instObj C h.objs.size)).get? b = some o := fun b o e => Heap.get?_push_of_some _ (Heap.get?_push_of_some _ e)
  have hx : ((h.push emptyDict).push (instObj C h.objs.size)).get? (h.objs.size + 1) = some (instObj C h.objs.size) := by heap_get
  have hdx : ((h.push emptyDict).push (instObj C h.objs.size)).get? h.objs.size = some emptyDict := by heap_get
  have hsz : ((h.push emptyDict).push (instObj C h.objs.size)).objs.size = h.objs.size + 2 := by rw [Heap.size_push, Heap.size_push]
  refine wpAny_call (make_core (makes_of KI P.makes) (looks_findIn KI P.f_init) (fun self => bind_fn KI self P.t0') (.inl rfl) ?_)
  generalize ((h.push emptyDict).push (instObj C h.objs.size)) = h1 at *
  refine codeAny_call_def (fd := fdK 0 ca doc c' ctv) (body := mBody 0) (binds := [(("self" : Str), .ref (h.objs.size + 1)), (("obj" : Str), v)]) hd (kk _ _ e0) rfl (hlim.keeps kk) (hrec.keeps kk) rfl (BindsTo.of_eq (bind0 _ _ _ _ _ _)) (by show ∀ x ∈ (mScope 0).names, x.2 ≠ .cell; decide +kernel) (fun y hy => ?_) (fun h2 hns hk2 => ?_) (by kernel_rfl) (by kernel_rfl) (by kernel_rfl)
  · simp only [List.mem_cons, List.not_mem_nil, or_false] at hy
    rcases hy with rfl | rfl <;> kernel_rfl
  rw [body0_eq]
  dsimp only at hns hk2 ⊢
  have k2 : ∀ b o, h.get? b = some o → h2.get? b = some o := fun b o e => hk2 b o (kk b o e)
  have F : Fr h h1.objs.size h2 _ := ⟨hns, k2, by rw [hsz]; lia⟩
  have N : News h h1.objs.size h2 [(h.objs.size + 1, instObj C h.objs.size), (h.objs.size, emptyDict)] := by
    intro p hp
    simp only [List.mem_cons, List.not_mem_nil, or_false] at hp
    rcases hp with rfl | rfl
    · exact ⟨hk2 _ _ hx, by rw [hsz]; exact Nat.ne_of_lt (Nat.lt_succ_self _), Heap.get?_none_of_le (Nat.le_succ _)⟩
    · exact ⟨hk2 _ _ hdx, by rw [hsz]; exact Nat.ne_of_lt (Nat.lt_trans (Nat.lt_succ_self _) (Nat.lt_succ_self _)), Heap.get?_none_of_le (Nat.le_refl _)⟩
  have I : InstAt h2 (h.objs.size + 1) (instObj C h.objs.size) C (some emptyDict) := ⟨hk2 _ _ hx, rfl, rfl, hk2 _ _ hdx⟩
  refine wpAny_execs_cons (plainObj_wpAny_Assign_Attribute (wpAny_Name (wpAny_loadName_local (v := v) (by kernel_rfl) (by kernel_rfl) hns (by kernel_rfl) (wpAny_Name (wpAny_loadName_local (v := .ref (h.objs.size + 1)) (by kernel_rfl) (by kernel_rfl) hns (by kernel_rfl) ?_) (by rfl))) (by rfl)) (by rfl))
  refine set_plain (KI.keeps k2) I P.f_sa (osa_descr KF.slot_mset (KI.keeps k2) I P.over P.taker P.tM (slot_set (pre := []) (post := [(h.objs.size, emptyDict)]) (ox := instObj C h.objs.size) F N (KI.keeps k2) I P.slot (by decide) (fun _ h => nomatch h) (fun p hp => ?_) rfl rfl fun h' F' N' => ?_))
  · rw [List.mem_singleton.mp hp]; exact Nat.ne_of_lt (Nat.lt_succ_self _)
  · refine wpAny_execs_nil ⟨rfl, hq (h.objs.size + 1) h' _ F'.keep ⟨h.objs.size, ?_, (N' _ (.tail _ (.head _))).1⟩ ?_⟩
    · exact (N' _ (.head _)).1.trans rfl
    · exact Nat.le_of_lt (Nat.lt_of_succ_lt (Heap.lt_size (N' _ (.head _)).1))
end
end Mine

open PySem PySem.W PyProof.Rows PySem.Calls
namespace Mine
def stm7 : Stmt := hdS ((bodyOf 28).drop 7)
def lam2 : Expr := match stm7 with
  | .Assign _ (.Call _ _ (k :: _) _) _ => (match k.value with
    | .Call _ (l :: _) _ _ => l
    | e => e)
  | _ => .Constant .none 0 ⟨0, 0, 0, 0⟩
def lam2Fo (c' : Addr) (ctv : Value) : Obj := kla_obj "<lambda>" qLam (lamOf lam2).1 (lamOf lam2).2.1 (lamOf lam2).2.2.1 [] pmLaw c' ctv
def cL2 : Cx := { scope := (lamOf lam2).2.2.1, ln := ["a", "b"] }
theorem bindL2 (c' : Addr) (ctv a b : Value) : bindArgs (kla_fn "<lambda>" qLam (lamOf lam2).1 (lamOf lam2).2.1 (lamOf lam2).2.2.1 [] pmLaw (.ref c') ctv) ⟨[a, b], []⟩ = pure [(("a" : Str), a), (("b" : Str), b)] := by kernel_rfl
theorem defL2 {D : Wd} {L c' : Addr} {ctv : Value} : DefAtD (D.plus L (lam2Fo c' ctv) c') L cL2 ["a", "b"] [] (.ex (lamOf lam2).2.1) where
  ex := ⟨_, _, plus_self _ _ _ _, rfl, ⟨c', rfl, .head _⟩, rfl, rfl, rfl, rfl, rfl, fun A Q E s vals _ hl q => by
    revert q; apply len_2 _ vals hl; intro a b q
    rw [bindL2]; exact wpAny_pure q, rfl, rfl, rfl⟩
  kinds := by decide +kernel
  pnd := by decide +kernel
  lnd := by decide +kernel
  cnd := by decide +kernel
  ln := by decide +kernel
  cn := by decide +kernel
theorem good_less {D : Wd} {B : Heap} {L c' : Addr} {fo : Obj} (hL : D.K.lookup L = none) (G : Good (D.plus L fo c') B) : Good D B where
  k := fun a o e => G.k a o (plus_other e fun q => by rw [q, hL] at e; (first | exact none_some e | exact some_none e | (obtain rfl := Option.some.inj e) | cases e))
  g := G.g
  b := G.b
  lim := G.lim
  cod := fun p hp => G.cod p (List.mem_cons_of_mem _ hp)
theorem CallSpec.plus {D : Wd} {L c' : Addr} {fo : Obj} {n : Nat} {f : Value} {Ws : List V} {res : V} (h : CallSpec D n f Ws res) (hL : D.K.lookup L = none) : CallSpec (D.plus L fo c') n f Ws res :=
  fun A B s vs Q E hA G x q H => h A B s vs Q E hA (good_less hL G) x q H
theorem key38 {D : Wd} (X : Std D) {L c' : Addr} {fo : Obj} (hL : 160 ≤ L) : keepIn (D.plus L fo c').K (.ref 38) = true := by
  unfold keepIn
  dsimp only
  rw [plus_other (o := fnO 2 mLoc 282 37 .none) (by rw [X.K]; rfl) (by intro e; rw [← e] at hL; revert hL; decide)]
  rfl
theorem noL {D : Wd} (X : Std D) {L : Addr} (hL : 160 ≤ L) : D.K.lookup L = none := by
  rw [X.K]
  cases q : K0.lookup L with
  | none => rfl
  | some o =>
    have := mem_of_lookupK q
    have h2 : ∀ p ∈ K0, p.1 < 160 := by decide +kernel
    exact absurd (h2 _ this) (Nat.not_lt.mpr hL)
/-- a pair that is sorted -/
abbrev vKp (t : List Nat) (k : Nat) : V := .list [vT t, .int (k : Int)]
theorem specL2 {D : Wd} (X : Std D) {L c' : Addr} {ctv : Value} (hL : 160 ≤ L) (n : Nat) (a b : List Nat) (i j : Nat) : CallSpec (D.plus L (lam2Fo c' ctv) c') (n + 2) (.ref L) [vKp a i, vKp b j] (.int (b2i (decide (b < a)) - b2i (decide (a < b)))) := by
  refine .ofT (.of (n := n + 1) defL2 rfl fun A env B h0 s rs ca Q E hA R _ _ H => ?_)
  change Rep _ cL2 env B s.heap rs ca [] { loc := [some (vKp a i), some (vKp b j)] } at R
  have hg : (D.plus L (lam2Fo c' ctv) c').mg "_strcoll" = some (.ref 38) := X.glob _ (List.mem_of_getElem? (i := 0) rfl)
  have T : Ex (D.plus L (lam2Fo c' ctv) c') (n + 1) cL2 { loc := [some (vKp a i), some (vKp b j)] } (lamOf lam2).2.1 (.int (b2i (decide (b < a)) - b2i (decide (a < b)))) { loc := [some (vKp a i), some (vKp b j)] } :=
    Ex.callK (Ex.glob hg rfl rfl) (Es.two (Ex.itemL (Ex.l 0) Ex.int (by rfl) (by decide)) (Ex.itemL (Ex.l 1) Ex.int (by rfl) (by decide))) (((spec2 X n a b).plus (noL X hL)).tn rfl) (key38 X hL)
  refine wpAny_bind (T A env B s rs ca [] _ E hA R fun v B1 p1 s1 n1 R1 q1 => ?_)
  exact wpAny_pure (H _ _ v B1 p1 s1 rs (.fz rfl) n1 R1 (fun _ h _ => h) q1)
end Mine

open PySem PySem.W PyProof.Rows PySem.Calls
namespace Mine
theorem body1_eq : mBody 1 = [.Return (some (.Compare (.Call (.Name "mycmp" ⟨143, 19, 143, 24⟩) [.Attribute (.Name "self" ⟨143, 25, 143, 29⟩) "obj" ⟨143, 25, 143, 33⟩, .Attribute (.Name "other" ⟨143, 35, 143, 40⟩) "obj" ⟨143, 35, 143, 44⟩] [] ⟨143, 19, 143, 45⟩) [.Lt] [.Constant (.int 0) 0 ⟨143, 48, 143, 49⟩] ⟨143, 19, 143, 49⟩)) ⟨143, 12, 143, 49⟩] := by kernel_rfl
theorem inst_get {prog : Program} {w : World} {A : Around} {E : Value → Shared → Prop} {s : Shared} {K : Frag} {ca C ns md T0 xi v : Addr} {t0 tq : Tok} {k : KF} {x x' : Int} {y y' z : Tok} {expr : Bool} {Q : Value → Shared → Prop} (P : KP K ca C ns md T0 t0 tq k x x' y y' z) (KI : K.In s.heap) (I : InstIn s.heap xi C (.ref v))
    (h : Q (.ref v) { s with toks := s.toks + 1 }) : wpAny (model prog w) A (getAttr (.ref xi) "obj" expr) Q E s := by
  obtain ⟨dx, e1, e2⟩ := I
  have I' : InstAt s.heap xi ⟨.ref C, some dx, .plain, #[some (.ref v)]⟩ C (some emptyDict) := ⟨e1, rfl, rfl, e2⟩
  exact get_bind KI I' P.f_ga (findObj_data (by rw [P.cls]; rfl) P.f_obj P.mget P.takes) P.f_gat (wpAny_call (slot_get (s := { s with toks := s.toks + 1 }) KI I' P.slot rfl (handed_on rfl h)))
/-- the frame's heap and all that comes behind holds what was -/
structure Nw (s s' : Shared) : Prop where
  keep : ∀ b o, s.heap.get? b = some o → s'.heap.get? b = some o
  size : s.heap.objs.size ≤ s'.heap.objs.size
  drawn : s'.drawn = s.drawn
  os : s'.os = s.os
  gens : GExt s.gens s'.gens
theorem Nw.refl (s : Shared) : Nw s s := ⟨fun _ _ e => e, Nat.le_refl _, rfl, rfl, .refl _⟩
theorem Nw.trans {s s' s'' : Shared} (x : Nw s s') (y : Nw s' s'') : Nw s s'' := ⟨fun b o e => y.keep b o (x.keep b o e), Nat.le_trans x.size y.size, y.drawn.trans x.drawn, y.os.trans x.os, x.gens.trans y.gens⟩
theorem b2i_lt (a b : List Nat) : decide (b2i (decide (b < a)) - b2i (decide (a < b)) < 0) = decide (a < b) := by
  by_cases h : a < b
  · have h2 : ¬ b < a := fun q => absurd (List.lt_trans h q) (List.lt_irrefl _)
    simp [h, h2, b2i]
  · by_cases h2 : b < a <;> simp [h, h2, b2i]
theorem lt_call {D : Wd} (X : Std D) {A : Around} {B : Heap} {s : Shared} {Q : Value → Shared → Prop} {E : Value → Shared → Prop} {ca C ns md T0 L c' xi xj : Addr} {t0 tq : Tok} {k : KF} {x x' : Int} {y y' z : Tok} {ctv vi vj : Value} {a b : List Nat} {i j : Nat}
    (hA : Room 4 A) (G : Good D B) (xB : Ext B s.heap) (KX : KIn s.heap ca C ns md T0 t0 tq k x x' y y' z) (hcell : s.heap.IsCell ca (some (.ref L))) (hL : 160 ≤ L) (eL : B.get? L = some (lam2Fo c' ctv)) (hc : B.CodeRec (.ref c') qLam)
    (I1 : InstIn s.heap xi C vi) (I2 : InstIn s.heap xj C vj) (q1 : VF B vi (vKp a i)) (q2 : VF B vj (vKp b j)) (H : ∀ s', Nw s s' → Q (.bool (decide (a < b))) s') :
    wpAny (model D.prog D.w) A (call (.ref (k.f 1)) [.ref xi, .ref xj]) Q E s := by
  obtain ⟨K, KI, P⟩ := kp_of KX
  obtain ⟨doc, c1, ctv1, e1, hrec⟩ := KX.m 1 (by decide)
  cases q1 with | list g1 r1 => ?_
  cases q2 with | list g2 r2 => ?_
  rename_i a1 vs1 a2 vs2
  have hlim := G.lim.keeps xB
  refine wpAny_call (codeAny_call_def (fd := fdK 1 ca doc c1 ctv1) (body := mBody 1) (binds := [(("self" : Str), .ref xi), (("other" : Str), .ref xj)]) (by have := hA.depth; lia) e1 rfl hlim hrec rfl (BindsTo.of_eq (bind1 _ _ _ _ _ _)) (by show ∀ x ∈ (mScope 1).names, x.2 ≠ .cell; decide +kernel) (fun y hy => ?_) (fun h2 hns hk2 => ?_) (by kernel_rfl) (by kernel_rfl) (by kernel_rfl))
  · simp only [List.mem_cons, List.not_mem_nil, or_false] at hy
    rcases hy with rfl | rfl <;> kernel_rfl
  rw [body1_eq]
  have hcell2 : h2.IsCell ca (some (.ref L)) := by obtain ⟨o, e, d⟩ := hcell; exact ⟨o, hk2 _ _ e, d⟩
  let KL : Frag := [(L, lam2Fo c' ctv)]
  have kin : ∀ h : Heap, (∀ b o, s.heap.get? b = some o → h.get? b = some o) → KL.In h := fun h hk p o e => by
    have := mem_of_lookupK e
    cases List.mem_singleton.mp this
    exact hk _ _ (xB _ _ eL)
  have kL : keepIn KL (.ref L) = true := by unfold keepIn; simp [KL, List.lookup_cons, lam2Fo]
  refine wpAny_execs_cons (wpAny_Return_some (wpAny_Compare1 (Call_ (wpAny_Name (wpAny_loadName_free (by kernel_rfl) (by kernel_rfl) (by kernel_rfl) hcell2 ?_ (by rfl)) (by rfl)) (by rfl)) (by rfl)))
  refine callWith_K (K := KL) (f := .ref L) (kin h2 hk2) kL (wpAny_items_cons (Attribute_name (wpAny_Name (wpAny_loadName_local (v := .ref xi) (by kernel_rfl) (by kernel_rfl) hns (by kernel_rfl) ?_) (by rfl))) (by rfl)) (by rfl) (by rfl)
  refine inst_get P (KI.keeps hk2) (I1.keeps hk2) ?_
  refine wpAny_items_cons (Attribute_name (wpAny_Name (wpAny_loadName_local (v := .ref xj) (by kernel_rfl) (by kernel_rfl) hns (by kernel_rfl) ?_) (by rfl))) (by rfl)
  refine inst_get P (KI.keeps hk2) (I2.keeps hk2) ?_
  refine wpAny_items_nil ⟨kin h2 hk2, ?_⟩
  have hA2 : Room 2 (A.deeper (callEnv (fdK 1 ca doc c1 ctv1) s.heap.objs.size (k.f 1))) := ⟨by rw [Around.deeper]; exact hA.handled, by show A.depth + 1 + 2 < _; have := hA.depth; lia, by show A.units + 3 + 8 * 2 + 8 < _; have := hA.units; lia⟩
  refine specL2 X hL 0 a b i j _ B _ [.ref a1, .ref a2] _ _ hA2 (good_plus G eL hc) (fun p o e => hk2 p o (xB p o e)) (.cons (.list g1 r1) (.cons (.list g2 r2) .nil)) fun v B' s' n' x' k' q' => ?_
  (first | exact none_some q' | exact some_none q' | (obtain rfl := Option.some.inj q') | cases q')
  refine wpAny_Constant_int ?_
  refine PyProof.Rows.lt_int ?_
  rw [b2i_lt]
  refine H _ ⟨fun p o e => k' p o (hk2 p o e), ?_, n'.drawn, n'.os, n'.gens⟩
  obtain ⟨o0, es0, ep0, e0, _⟩ := hns
  exact Nat.le_trans (Nat.le_of_lt (Heap.lt_size e0)) n'.size
end Mine

open PySem PySem.W PyProof.Rows PySem.Calls
namespace Mine
abbrev gp (p : Array Nat) (k : Nat) : Nat := p.getD k 0
theorem gp_of {p : Array Nat} {k x : Nat} (h : p[k]? = some x) : gp p k = x := by
  unfold gp; rw [Array.getD_eq_getD_getElem?, h]; rfl
theorem gp_eq {p q : Array Nat} {i j : Nat} (h : p[i]? = q[j]?) : gp p i = gp q j := by
  unfold gp; rw [Array.getD_eq_getD_getElem?, Array.getD_eq_getD_getElem?, h]
theorem gp_rev {p : Array Nat} {i j : Nat} (hj : j ≤ p.size) (k : Nat) : gp (kas_rev p i j) k = if i ≤ k ∧ k < j then gp p (i + j - 1 - k) else gp p k := by
  have h := getElem?_mirror_all (xs := p) (i := i) hj k
  by_cases c : i ≤ k ∧ k < j
  · rw [if_pos c] at h ⊢; exact gp_eq h
  · rw [if_neg c] at h ⊢; exact gp_eq h
theorem rev_size (p : Array Nat) (i j : Nat) : (kas_rev p i j).size = p.size := mirror_size _ _ _ _
theorem gp_bub {p : Array Nat} {src : Nat} (hs : src < p.size) {d : Nat} (hd : d ≤ src) (k : Nat) : gp (bubble p src d) k = if k = src - d then gp p src else if src - d < k ∧ k ≤ src then gp p (k - 1) else gp p k := by
  have h := getElem?_bubble hs d hd k
  by_cases c : k = src - d
  · rw [if_pos c] at h ⊢; exact gp_eq h
  · rw [if_neg c] at h ⊢
    by_cases c2 : src - d < k ∧ k ≤ src
    · rw [if_pos c2] at h ⊢; exact gp_eq h
    · rw [if_neg c2] at h ⊢; exact gp_eq h

/-- a strict weak order -/
structure Weak (lt : Nat → Nat → Bool) : Prop where
  as : ∀ a b, lt a b = true → lt b a = false
  neg : ∀ a b c, lt a b = false → lt b c = false → lt a c = false
def ltx (lt : Nat → Nat → Bool) (a b : Nat) : Prop := lt b a = false ∧ (lt a b = true ∨ a < b)
section
variable {lt : Nat → Nat → Bool} (W : Weak lt)
include W
theorem Weak.irr (a : Nat) : lt a a = false := by
  cases q : lt a a with
  | false => rfl
  | true => rw [W.as a a q] at q; (first | exact none_some q | exact some_none q | (obtain rfl := Option.some.inj q) | cases q)
theorem Weak.r {a b c : Nat} (h : lt a b = true) (h2 : lt c b = false) : lt a c = true := by
  cases q : lt a c with
  | true => rfl
  | false => rw [W.neg a c b q h2] at h; (first | exact none_some h | exact some_none h | (obtain rfl := Option.some.inj h) | cases h)
theorem Weak.l {a b c : Nat} (h : lt a b = true) (h2 : lt a c = false) : lt c b = true := by
  cases q : lt c b with
  | true => rfl
  | false => rw [W.neg a c b h2 q] at h; (first | exact none_some h | exact some_none h | (obtain rfl := Option.some.inj h) | cases h)
theorem Weak.tr {a b c : Nat} (h : lt a b = true) (h2 : lt b c = true) : lt a c = true := W.r h (W.as b c h2)
theorem ltx_tr {a b c : Nat} (h : ltx lt a b) (h2 : ltx lt b c) : ltx lt a c := by
  refine ⟨W.neg c b a h2.1 h.1, ?_⟩
  rcases h.2 with x | x
  · exact .inl (W.r x h2.1)
  · rcases h2.2 with y | y
    · exact .inl (W.l y h.1)
    · exact .inr (Nat.lt_trans x y)
end
structure Pre0 (n : Nat) (p : Array Nat) (m : Nat) : Prop where
  size : p.size = n
  le : m ≤ n
  low : ∀ i, i < m → gp p i < m
  id : ∀ i, m ≤ i → i < n → gp p i = i
def Asc (lt : Nat → Nat → Bool) (p : Array Nat) (m : Nat) : Prop := ∀ i j, i < j → j < m → ltx lt (gp p i) (gp p j)
def Desc (lt : Nat → Nat → Bool) (p : Array Nat) (m : Nat) : Prop := ∀ i j, i < j → j < m → ltx lt (gp p j) (gp p i)
theorem Pre0.rev {n m i j : Nat} {p : Array Nat} (h : Pre0 n p m) (hj : j ≤ m) : Pre0 n (kas_rev p i j) m := by
  have hjs : j ≤ p.size := by rw [h.size]; have := h.le; omega
  refine ⟨by rw [rev_size]; exact h.size, h.le, fun k hk => ?_, fun k hk hn => ?_⟩
  · rw [gp_rev hjs]
    split
    · exact h.low _ (by omega)
    · exact h.low _ hk
  · rw [gp_rev hjs, if_neg (by omega)]; exact h.id k hk hn
section
variable {σ : Type} {lt : Nat → Nat → Bool} (W : Weak lt) {n : Nat} {Inv : Shared → Prop} {cmp : Nat → Nat → (Bool → Shared → Prop) → Shared → Prop}
  (hc : ∀ i j C s, Inv s → i < n → j < n → (∀ s', Inv s' → C (lt i j) s') → cmp i j C s)
include W hc
omit W in
theorem asc_wp {p : Array Nat} (hp : Pre0 n p p.size) : ∀ (f k : Nat) (G : Nat → Shared → Prop) (s : Shared), Inv s → 1 ≤ k → k + f ≤ n → (∀ m s', Inv s' → k ≤ m → m ≤ k + f → (∀ i, k ≤ i → i < m → lt (gp p i) (gp p (i - 1)) = false) → (m < k + f → lt (gp p m) (gp p (m - 1)) = true) → G m s') → (kas_asc p f k).kasWp cmp G s
  | 0, k, G, s, hi, _, _, h => h k s hi (Nat.le_refl _) (Nat.le_refl _) (fun i h1 h2 => by lia) (fun h => by lia)
  | f + 1, k, G, s, hi, h1, hk, h => by
    have hb : ∀ i, i < n → gp p i < n := fun i hi => by have := hp.low i (by rw [hp.size]; exact hi); rwa [hp.size] at this
    refine hc _ _ _ s hi (hb k (by lia)) (hb (k - 1) (by lia)) fun s' hi' => ?_
    show KasT.kasWp cmp (if lt (gp p k) (gp p (k - 1)) = true then .ret k else kas_asc p f (k + 1)) G s'
    cases q : lt (gp p k) (gp p (k - 1)) with
    | true => exact h k s' hi' (Nat.le_refl _) (by lia) (fun i h1 h2 => by lia) (fun _ => q)
    | false =>
      refine asc_wp hp f (k + 1) G s' hi' (by lia) (by lia) fun m s2 hi2 hm1 hm2 hno hyes => h m s2 hi2 (by lia) (by lia) (fun i hi1 hi2 => ?_) (fun hm => hyes (by lia))
      by_cases e : i = k
      · subst e; exact q
      · exact hno i (by lia) hi2
omit hc in
theorem asc_more {p : Array Nat} {k m : Nat} (h1 : 1 ≤ k) (hp : Pre0 n p k) (ha : Asc lt p k) (hkm : k ≤ m) (hm : m ≤ n) (hno : ∀ i, k ≤ i → i < m → lt (gp p i) (gp p (i - 1)) = false) : Pre0 n p m ∧ Asc lt p m := by
  have hpre : ∀ j, k ≤ j → j ≤ m → Pre0 n p j := fun j h1 h2 => ⟨hp.size, by lia, fun i hi => by
    by_cases c : i < k
    · have := hp.low i c; lia
    · rw [hp.id i (by lia) (by lia)]; exact hi, fun i h3 h4 => hp.id i (by lia) h4⟩
  refine ⟨hpre m hkm (Nat.le_refl _), ?_⟩
  have step : ∀ d, k + d ≤ m → Asc lt p (k + d) := fun d => by
    induction d with
    | zero => intro _; exact ha
    | succ d ih =>
      intro hd i j hij hj
      have iha := ih (by lia)
      by_cases c : j < k + d
      · exact iha i j hij c
      · have ej : j = k + d := by lia
        subst ej
        have hid : gp p (k + d) = k + d := hp.id _ (by lia) (by lia)
        have hlow : gp p (k + d - 1) < k + d := (hpre (k + d) (by lia) (by lia)).low _ (by lia)
        have h2 : ltx lt (gp p (k + d - 1)) (gp p (k + d)) := ⟨hno (k + d) (by lia) (by lia), .inr (by rw [hid]; exact hlow)⟩
        by_cases c2 : i = k + d - 1
        · rw [c2]; exact h2
        · exact ltx_tr W (iha i (k + d - 1) (by lia) (by lia)) h2
  have := step (m - k) (by lia)
  rwa [show k + (m - k) = m by lia] at this
/-- a falling run, its last equals not yet turned -/
structure DInv (lt : Nat → Nat → Bool) (n : Nat) (p : Array Nat) (k q : Nat) : Prop where
  pre : Pre0 n p k
  hq : q + 1 ≤ k
  desc : Desc lt p (k - (q + 1))
  run : ∀ i, k - (q + 1) ≤ i → i < k → gp p i = i
  eq : ∀ i j, k - (q + 1) ≤ i → i < k → k - (q + 1) ≤ j → j < k → lt i j = false
  big : ∀ i j, i < k - (q + 1) → k - (q + 1) ≤ j → j < k → lt j (gp p i) = true
omit hc in
theorem DInv.turned {p : Array Nat} {k q : Nat} (h : DInv lt n p k q) : Pre0 n (kas_rev p (k - (q + 1)) k) k ∧ Desc lt (kas_rev p (k - (q + 1)) k) k ∧ (∀ e, lt e (k - 1) = true → ∀ i, i < k → lt e (gp (kas_rev p (k - (q + 1)) k) i) = true) := by
  have hq := h.hq
  have hks : k ≤ p.size := by rw [h.pre.size]; exact h.pre.le
  generalize hs0 : k - (q + 1) = s0 at *
  have hd := h.desc; have hr := h.run; have he := h.eq; have hb := h.big
  rw [hs0] at hd hr he hb
  have val : ∀ i, i < k → (i < s0 ∧ gp (kas_rev p s0 k) i = gp p i) ∨ (s0 ≤ i ∧ gp (kas_rev p s0 k) i = s0 + k - 1 - i) := fun i hi => by
    rw [gp_rev hks]
    by_cases c : s0 ≤ i
    · right
      rw [if_pos ⟨c, hi⟩, hr (s0 + k - 1 - i) (by lia) (by lia)]
      exact ⟨c, rfl⟩
    · left
      rw [if_neg (by lia)]; exact ⟨by lia, rfl⟩
  refine ⟨h.pre.rev (Nat.le_refl _), fun i j hij hj => ?_, fun e hE i hi => ?_⟩
  · rcases val i (by lia) with ⟨ci, ei⟩ | ⟨ci, ei⟩ <;> rcases val j hj with ⟨cj, ej⟩ | ⟨cj, ej⟩
    · rw [ei, ej]; exact hd i j hij cj
    · rw [ei, ej]
      have := hb i (s0 + k - 1 - j) ci (by lia) (by lia)
      exact ⟨W.as _ _ this, .inl this⟩
    · lia
    · rw [ei, ej]
      exact ⟨he _ _ (by lia) (by lia) (by lia) (by lia), .inr (by lia)⟩
  · rcases val i hi with ⟨ci, ei⟩ | ⟨ci, ei⟩
    · rw [ei]
      exact W.tr hE (hb i (k - 1) ci (by lia) (by lia))
    · rw [ei]
      exact W.r hE (he _ _ (by lia) (by lia) (by lia) (by lia))
theorem desc_wp : ∀ (f k q : Nat) (p : Array Nat) (G : Array Nat × Nat × Nat → Shared → Prop) (s : Shared), Inv s → k + f ≤ n → DInv lt n p k q → (∀ p' k' q' s', Inv s' → DInv lt n p' k' q' → G (p', k', q') s') → (kas_desc f p k q).kasWp cmp G s
  | 0, k, q, p, G, s, hi, _, hd, h => h p k q s hi hd
  | f + 1, k, q, p, G, s, hi, hk, hd, h => by
    have hq := hd.hq
    have ek : gp p k = k := hd.pre.id k (Nat.le_refl _) (by lia)
    have ek1 : gp p (k - 1) = k - 1 := hd.run (k - 1) (by lia) (by lia)
    refine hc _ _ _ s hi (by show gp p k < n; rw [ek]; lia) (by show gp p (k - 1) < n; rw [ek1]; lia) fun s' hi' => ?_
    show KasT.kasWp cmp (if lt (gp p k) (gp p (k - 1)) = true then (if q > 0 then kas_desc f (kas_rev p (k - (q + 1)) k) (k + 1) 0 else kas_desc f p (k + 1) 0) else .ask (gp p (k - 1)) (gp p k) fun d => if d = true then .ret (p, k, q) else kas_desc f p (k + 1) (q + 1)) G s'
    rw [ek, ek1]
    cases c : lt k (k - 1) with
    | true =>
      rw [if_pos rfl]
      have new : ∀ p', Pre0 n p' k → Desc lt p' k → (∀ i, i < k → lt k (gp p' i) = true) → DInv lt n p' (k + 1) 0 := fun p' h1 h2 h3 =>
        ⟨⟨h1.size, by lia, fun i hi => by
            by_cases e : i = k
            · subst e; rw [h1.id i (Nat.le_refl _) (by lia)]; exact Nat.lt_succ_self _
            · exact Nat.lt_succ_of_lt (h1.low i (by lia)), fun i h4 h5 => h1.id i (by lia) h5⟩, by lia, h2,
          fun i h4 h5 => by rw [show i = k by lia]; exact h1.id k (Nat.le_refl _) (by lia), fun i j h4 h5 h6 h7 => by rw [show i = k by lia, show j = k by lia]; exact W.irr k,
          fun i j h4 h5 h6 => by rw [show j = k by lia]; exact h3 i h4⟩
      obtain ⟨t1, t2, t3⟩ := hd.turned W
      by_cases hq0 : q > 0
      · rw [if_pos hq0]
        exact desc_wp f (k + 1) 0 _ G s' hi' (by lia) (new _ t1 t2 (t3 k c)) h
      · rw [if_neg hq0]
        have hq0' : q = 0 := by lia
        subst hq0'
        refine desc_wp f (k + 1) 0 _ G s' hi' (by lia) (new p hd.pre (fun i j hij hj => ?_) (fun i hi => ?_)) h
        · by_cases e : j = k - 1
          · rw [e, ek1]
            have := hd.big i (k - 1) (by lia) (by lia) (by lia)
            exact ⟨W.as _ _ this, .inl this⟩
          · exact hd.desc i j hij (by lia)
        · by_cases e : i = k - 1
          · rw [e, ek1]; exact c
          · exact W.tr c (hd.big i (k - 1) (by lia) (by lia) (by lia))
    | false =>
      rw [if_neg Bool.false_ne_true]
      refine hc _ _ _ s' hi' (by lia) (by lia) fun s2 hi2 => ?_
      show KasT.kasWp cmp (if lt (k - 1) k = true then .ret (p, k, q) else kas_desc f p (k + 1) (q + 1)) G s2
      cases c2 : lt (k - 1) k with
      | true => rw [if_pos rfl]; exact h p k q s2 hi2 hd
      | false =>
        rw [if_neg Bool.false_ne_true]
        have hsub : k + 1 - (q + 1 + 1) = k - (q + 1) := by lia
        have kk : ∀ i, k - (q + 1) ≤ i → i < k → lt i k = false ∧ lt k i = false := fun i h1 h2 => ⟨W.neg _ _ _ (hd.eq i (k - 1) h1 h2 (by lia) (by lia)) c2, W.neg _ _ _ c (hd.eq (k - 1) i (by lia) (by lia) h1 h2)⟩
        refine desc_wp f (k + 1) (q + 1) p G s2 hi2 (by lia) ⟨⟨hd.pre.size, by lia, fun i hi => ?_, fun i h4 h5 => hd.pre.id i (by lia) h5⟩, by lia, by rw [hsub]; exact hd.desc, fun i h1 h2 => ?_, fun i j h1 h2 h3 h4 => ?_, fun i j h1 h2 h3 => ?_⟩ h
        · by_cases e : i = k
          · subst e; rw [ek]; exact Nat.lt_succ_self _
          · exact Nat.lt_succ_of_lt (hd.pre.low i (by lia))
        · by_cases e : i = k
          · subst e; exact ek
          · exact hd.run i (by lia) (by lia)
        · by_cases e : i = k
          · by_cases e2 : j = k
            · rw [e, e2]; exact W.irr k
            · rw [e]; exact (kk j (by lia) (by lia)).2
          · by_cases e2 : j = k
            · rw [e2]; exact (kk i (by lia) (by lia)).1
            · exact hd.eq i j (by lia) (by lia) (by lia) (by lia)
        · by_cases e : j = k
          · rw [e]; exact W.l (hd.big i (k - 1) (by lia) (by lia) (by lia)) (kk (k - 1) (by lia) (by lia)).1
          · exact hd.big i j (by lia) (by lia) (by lia)
end
end Mine

open PySem PySem.W PyProof.Rows PySem.Calls
namespace Mine
section
variable {σ : Type} {lt : Nat → Nat → Bool} (W : Weak lt) {n : Nat} {Inv : Shared → Prop} {cmp : Nat → Nat → (Bool → Shared → Prop) → Shared → Prop}
  (hc : ∀ i j C s, Inv s → i < n → j < n → (∀ s', Inv s' → C (lt i j) s') → cmp i j C s)
include W hc
theorem Pre0.all {p : Array Nat} {m : Nat} (h : Pre0 n p m) : Pre0 n p p.size := ⟨h.size, by rw [h.size]; exact Nat.le_refl _, fun i hi => by
  rw [h.size] at hi ⊢
  by_cases c : i < m
  · have := h.low i c; have := h.le; omega
  · rw [h.id i (by omega) hi]; exact hi, fun i h1 h2 => by rw [h.size] at h1; omega⟩
theorem tail3_wp {p : Array Nat} {k : Nat} {G : Nat × Array Nat → Shared → Prop} {s : Shared} (hi : Inv s) (h1 : 1 ≤ k) (hp : Pre0 n p k) (hd : Desc lt p k) (h : ∀ m p' s', Inv s' → 1 ≤ m → Pre0 n p' m → Asc lt p' m → G (m, p') s') : (kas_tail3 k n p).kasWp cmp G s := by
  unfold kas_tail3
  rw [KasT.kasWp_bind]
  have hks : k ≤ p.size := by rw [hp.size]; exact hp.le
  have hpr := hp.rev (i := 0) (Nat.le_refl k)
  have ha : Asc lt (kas_rev p 0 k) k := fun i j hij hj => by
    rw [gp_rev hks, gp_rev hks, if_pos ⟨Nat.zero_le _, by omega⟩, if_pos ⟨Nat.zero_le _, hj⟩]
    exact hd _ _ (by omega) (by omega)
  refine asc_wp hc (Pre0.all W hc hpr) (n - k) k _ s hi h1 (by have := hp.le; omega) fun m s' hi' h2 h3 hno _ => ?_
  have := hp.le
  obtain ⟨q1, q2⟩ := asc_more W h1 hpr ha h2 (by omega) hno
  exact h m _ s' hi' (by omega) q1 q2
theorem descPart_wp {p : Array Nat} {k : Nat} {G : Nat × Array Nat → Shared → Prop} {s : Shared} (hi : Inv s) (h1 : 1 ≤ k) (hk : k < n) (hp : Pre0 n p k) (hd : Desc lt p k) (hb : ∀ i, i < k → lt k (gp p i) = true) (h : ∀ m p' s', Inv s' → 1 ≤ m → Pre0 n p' m → Asc lt p' m → G (m, p') s') : (kas_descPart k n p).kasWp cmp G s := by
  unfold kas_descPart
  rw [KasT.kasWp_bind]
  have hid : gp p k = k := hp.id k (Nat.le_refl _) hk
  refine desc_wp W hc (n - (k + 1)) (k + 1) 0 p _ s hi (by lia) ⟨⟨hp.size, hk, fun i hi' => ?_, fun i h2 h3 => hp.id i (by lia) h3⟩, by lia, hd, fun i h2 h3 => by rw [show i = k by lia]; exact hid, fun i j h2 h3 h4 h5 => by rw [show i = k by lia, show j = k by lia]; exact W.irr k, fun i j h2 h3 h4 => by rw [show j = k by lia]; exact hb i h2⟩ fun p' k' q' s' hi' hD => ?_
  · by_cases e : i = k
    · subst e; rw [hid]; exact Nat.lt_succ_self _
    · exact Nat.lt_succ_of_lt (hp.low i (by lia))
  · have hq' := hD.hq
    obtain ⟨t1, t2, _⟩ := hD.turned W
    show KasT.kasWp cmp (if q' > 0 then kas_tail3 k' n (kas_rev p' (k' - (q' + 1)) k') else kas_tail3 k' n p') G s'
    by_cases hq0 : q' > 0
    · rw [if_pos hq0]; exact tail3_wp W hc hi' (by lia) t1 t2 h
    · rw [if_neg hq0]
      have e0 : q' = 0 := by lia
      subst e0
      refine tail3_wp W hc hi' (by lia) hD.pre (fun i j hij hj => ?_) h
      by_cases e : j = k' - 1
      · have := hD.big i (k' - 1) (by lia) (by lia) (by lia)
        rw [e, hD.run (k' - 1) (by lia) (by lia)]
        exact ⟨W.as _ _ this, .inl this⟩
      · exact hD.desc i j hij (by lia)
theorem count_wp {G : Nat × Array Nat → Shared → Prop} {s : Shared} (hi : Inv s) (h2 : 2 ≤ n) (h : ∀ m p' s', Inv s' → 1 ≤ m → Pre0 n p' m → Asc lt p' m → G (m, p') s') : (kas_count n (List.toArray (List.range n))).kasWp cmp G s := by
  unfold kas_count
  rw [KasT.kasWp_bind]
  generalize hp0 : (List.toArray (List.range n) : Array Nat) = p
  have hsz : p.size = n := by rw [← hp0]; simp
  have hid : ∀ i, i < n → gp p i = i := fun i hi => by rw [← hp0]; exact gp_of (by simp [hi])
  have hpre : ∀ m, m ≤ n → Pre0 n p m := fun m hm => ⟨hsz, hm, fun i hi => by rw [hid i (by lia)]; exact hi, fun i _ h4 => hid i h4⟩
  refine asc_wp hc (by rw [hsz]; exact hpre n (Nat.le_refl _)) (n - 1) 1 _ s hi (Nat.le_refl _) (by lia) fun m s' hi' hm1 hm2 hno hyes => ?_
  obtain ⟨q1, q2⟩ := asc_more W (Nat.le_refl 1) (hpre 1 (by lia)) (fun i j hij hj => by lia) hm1 (by lia) hno
  show KasT.kasWp cmp (if (m == n) = true then .ret (m, p) else if m > 1 then .ask (gp p 0) (gp p (m - 1)) fun c => if c = true then .ret (m, p) else kas_descPart m n (kas_rev p 0 m) else kas_descPart m n p) G s'
  by_cases e : m = n
  · rw [if_pos (by simp [e])]
    exact h m p s' hi' hm1 q1 q2
  · rw [if_neg (by simp [e])]
    have hmn : m < n := by lia
    have hlt : lt m (m - 1) = true := by
      have := hyes (by lia)
      rwa [hid m hmn, hid (m - 1) (by lia)] at this
    by_cases hm : m > 1
    · rw [if_pos hm, hid 0 (by lia), hid (m - 1) (by lia)]
      refine hc _ _ _ s' hi' (by lia) (by lia) fun s2 hi2 => ?_
      show KasT.kasWp cmp (if lt 0 (m - 1) = true then .ret (m, p) else kas_descPart m n (kas_rev p 0 m)) G s2
      cases c : lt 0 (m - 1) with
      | true => rw [if_pos rfl]; exact h m p s2 hi2 hm1 q1 q2
      | false =>
        rw [if_neg Bool.false_ne_true]
        have up : ∀ i j, i ≤ j → j < m → lt j i = false := fun i j hij hj => by
          by_cases e : i = j
          · rw [e]; exact W.irr j
          · have := q2 i j (by lia) hj
            rw [hid i (by lia), hid j (by lia)] at this
            exact this.1
        have eqv : ∀ i j, i < m → j < m → lt i j = false := fun i j hi hj => W.neg i 0 j (up 0 i (by lia) hi) (W.neg 0 (m - 1) j c (up j (m - 1) (by lia) (by lia)))
        have hms : m ≤ p.size := by rw [hsz]; lia
        have val : ∀ i, i < m → gp (kas_rev p 0 m) i = m - 1 - i := fun i hi => by rw [gp_rev hms, if_pos ⟨Nat.zero_le _, hi⟩, hid _ (by lia)]; lia
        refine descPart_wp W hc hi2 (by lia) hmn (q1.rev (Nat.le_refl m)) (fun i j hij hj => ?_) (fun i hi => ?_) h
        · rw [val i (by lia), val j hj]
          exact ⟨eqv _ _ (by lia) (by lia), .inr (by lia)⟩
        · rw [val i hi]; exact W.r hlt (eqv _ _ (by lia) (by lia))
    · rw [if_neg hm]
      have e1 : m = 1 := by lia
      subst e1
      refine descPart_wp W hc hi' (by lia) hmn q1 (fun i j hij hj => by lia) (fun i hi => ?_) h
      rw [show i = 0 by lia, hid 0 (by lia)]; exact hlt
theorem place_wp {p : Array Nat} {k : Nat} (hk : k < n) (hp : Pre0 n p k) (ha : Asc lt p k) : ∀ (f l r : Nat) (G : Nat → Shared → Prop) (s : Shared), Inv s → l ≤ r → r ≤ k → r - l ≤ f → (∀ i, i < l → lt k (gp p i) = false) → (∀ i, r ≤ i → i < k → lt k (gp p i) = true) →
    (∀ l' s', Inv s' → l' ≤ k → (∀ i, i < l' → lt k (gp p i) = false) → (∀ i, l' ≤ i → i < k → lt k (gp p i) = true) → G l' s') → (kas_place p k f l r).kasWp cmp G s
  | 0, l, r, G, s, hi, hlr, hr, hf, h1, h2, h => by
    have : l = r := by lia
    subst this
    exact h l s hi hr h1 h2
  | f + 1, l, r, G, s, hi, hlr, hr, hf, h1, h2, h => by
    show KasT.kasWp cmp (if l ≥ r then .ret l else .ask (gp p k) (gp p ((l + r) / 2)) fun c => if c = true then kas_place p k f l ((l + r) / 2) else kas_place p k f ((l + r) / 2 + 1) r) G s
    by_cases e : l ≥ r
    · rw [if_pos e]
      have : l = r := by lia
      subst this
      exact h l s hi hr h1 h2
    · rw [if_neg e]
      have hid : gp p k = k := hp.id k (Nat.le_refl _) hk
      have hmid := hp.low ((l + r) / 2) (by lia)
      rw [hid]
      refine hc _ _ _ s hi hk (by lia) fun s' hi' => ?_
      show KasT.kasWp cmp (if lt k (gp p ((l + r) / 2)) = true then kas_place p k f l ((l + r) / 2) else kas_place p k f ((l + r) / 2 + 1) r) G s'
      cases c : lt k (gp p ((l + r) / 2)) with
      | true =>
        rw [if_pos rfl]
        refine place_wp hk hp ha f l ((l + r) / 2) G s' hi' (by lia) (by lia) (by lia) h1 (fun i hi1 hi2 => ?_) h
        by_cases e2 : i = (l + r) / 2
        · rw [e2]; exact c
        · exact W.r c (ha _ i (by lia) hi2).1
      | false =>
        rw [if_neg Bool.false_ne_true]
        refine place_wp hk hp ha f ((l + r) / 2 + 1) r G s' hi' (by lia) (by lia) (by lia) (fun i hi1 => ?_) h2 h
        by_cases e2 : i = (l + r) / 2
        · rw [e2]; exact c
        · exact W.neg _ _ _ c (ha i ((l + r) / 2) (by lia) (by lia)).1
theorem bin_wp : ∀ (f k : Nat) (p : Array Nat) (G : Array Nat → Shared → Prop) (s : Shared), Inv s → k + f = n → 1 ≤ k → Pre0 n p k → Asc lt p k → (∀ p' s', Inv s' → Pre0 n p' n → Asc lt p' n → G p' s') → (kas_bin f p k).kasWp cmp G s
  | 0, k, p, G, s, hi, hk, _, hp, ha, h => by
    have : k = n := by lia
    subst this
    exact h p s hi hp ha
  | f + 1, k, p, G, s, hi, hk, hk1, hp, ha, h => by
    show KasT.kasWp cmp ((kas_place p k k 0 k).bind fun l => kas_bin f (bubble p k (k - l)) (k + 1)) G s
    rw [KasT.kasWp_bind]
    have hkn : k < n := by lia
    have hks : k < p.size := by rw [hp.size]; exact hkn
    have hid : gp p k = k := hp.id k (Nat.le_refl _) hkn
    refine place_wp W hc hkn hp ha k 0 k _ s hi (Nat.zero_le _) (Nat.le_refl _) (by lia) (fun i hi => by lia) (fun i h1 h2 => by lia) fun l s' hi' hl h1 h2 => ?_
    have val : ∀ i, gp (bubble p k (k - l)) i = if i = l then k else if l < i ∧ i ≤ k then gp p (i - 1) else gp p i := fun i => by
      rw [gp_bub hks (by lia), show k - (k - l) = l by lia, hid]
    refine bin_wp f (k + 1) _ G s' hi' (by lia) (by lia) ⟨by rw [bubble_size]; exact hp.size, by lia, fun i hi => ?_, fun i h3 h4 => ?_⟩ (fun i j hij hj => ?_) h
    · rw [val]
      split
      · lia
      · split
        · have := hp.low (i - 1) (by lia); lia
        · have := hp.low i (by lia); lia
    · rw [val, if_neg (by lia), if_neg (by lia)]; exact hp.id i (by lia) h4
    · rw [val i, val j]
      by_cases ci : i = l
      · subst ci
        rw [if_pos rfl, if_neg (by lia), if_pos (by lia)]
        have := h2 (j - 1) (by lia) (by lia)
        exact ⟨W.as _ _ this, .inl this⟩
      · rw [if_neg ci]
        by_cases cj : j = l
        · subst cj
          rw [if_pos rfl, if_neg (by lia)]
          exact ⟨h1 i hij, .inr (hp.low i (by lia))⟩
        · rw [if_neg cj]
          split
          · rename_i c1
            rw [if_pos (by lia)]
            exact ha _ _ (by lia) (by lia)
          · split
            · exact ha _ _ (by lia) (by lia)
            · exact ha _ _ hij (by lia)
/-- the sort puts in order -/
theorem sort_wp {G : Array Nat → Shared → Prop} {s : Shared} (hi : Inv s) (h2 : 2 ≤ n) (h : ∀ p' s', Inv s' → Pre0 n p' n → Asc lt p' n → G p' s') : (kas_sort n).kasWp cmp G s := by
  unfold kas_sort
  rw [KasT.kasWp_bind]
  refine count_wp W hc hi h2 fun m p' s' hi' hm hp ha => ?_
  show KasT.kasWp cmp (if m < n then kas_bin (n - max m 1) p' (max m 1) else .ret p') G s'
  have e : max m 1 = m := by lia
  rw [e]
  by_cases c : m < n
  · rw [if_pos c]; exact bin_wp W hc (n - m) m p' G s' hi' (by lia) hm hp ha h
  · rw [if_neg c]
    have : m = n := by have := hp.le; lia
    subst this
    exact h p' s' hi' hp ha
end
end Mine

open PySem PySem.W PyProof.Rows PySem.Calls
namespace Mine
def ltT (ts : List (List Nat)) (i j : Nat) : Bool := decide (ts.getD i [] < ts.getD j [])
theorem lt_tri (a b : List Nat) : a < b ∨ a = b ∨ b < a := by
  by_cases h : a < b
  · exact .inl h
  · by_cases h2 : b < a
    · exact .inr (.inr h2)
    · exact .inr (.inl (List.le_antisymm (List.not_lt.mp h2) (List.not_lt.mp h)))
theorem weakT (ts : List (List Nat)) : Weak (ltT ts) where
  as := fun a b h => decide_eq_false (List.lt_asymm (of_decide_eq_true h))
  neg := fun a b c h1 h2 => by
    have h1 := of_decide_eq_false h1
    have h2 := of_decide_eq_false h2
    refine decide_eq_false (List.not_lt.mpr ?_)
    exact List.le_trans (List.not_lt.mp h2) (List.not_lt.mp h1)
theorem cnt_split (x : List Nat) : ∀ ts : List (List Nat), ∀ y, x < y → (ts.filter fun t => decide (t < x)).length + ts.count x ≤ (ts.filter fun t => decide (t < y)).length
  | [], y, _ => by simp
  | t :: r, y, h => by
    have ih := cnt_split x r y h
    rw [List.filter_cons, List.filter_cons, List.count_cons]
    by_cases h1 : t < x
    · have h2 : t < y := List.lt_trans h1 h
      have h3 : t ≠ x := fun e => by subst e; exact List.lt_irrefl t h1
      simp [h1, h2, h3]; lia
    · by_cases h3 : t = x
      · subst h3; simp [h1, h]; lia
      · simp only [h1, decide_false, Bool.false_eq_true, if_false]
        have : (t == x) = false := by simpa using h3
        rw [this]
        by_cases h4 : t < y
        · simp only [h4, decide_true, if_true, List.length_cons, Bool.false_eq_true, if_false]; lia
        · simp only [h4, decide_false, Bool.false_eq_true, if_false]; lia
theorem take_count {ts : List (List Nat)} {k m : Nat} (h : k < m) (hm : m ≤ ts.length) : (ts.take k).count (ts.getD k []) + 1 ≤ (ts.take m).count (ts.getD k []) := by
  have hk : k < ts.length := by lia
  have hx : ts[k]? = some (ts.getD k []) := by rw [List.getD_eq_getElem?_getD, List.getElem?_eq_getElem hk]; rfl
  generalize ts.getD k [] = x at hx
  have e : ts.take m = ts.take k ++ x :: (ts.take m).drop (k + 1) := by
    have h1 : (ts.take m)[k]? = some x := by rw [List.getElem?_take, if_pos h]; exact hx
    obtain ⟨hl, e⟩ := List.getElem?_eq_some_iff.mp h1
    have h2 : (ts.take m).take k = ts.take k := by rw [List.take_take, Nat.min_eq_left (by lia)]
    conv => lhs; rw [← List.take_append_drop k (ts.take m), h2, List.drop_eq_getElem_cons hl, e]
  rw [e, List.count_append, List.count_cons_self]; lia
theorem rank_mono {ts : List (List Nat)} {k k' : Nat} (hk : k < ts.length) (hk' : k' < ts.length) (h : ltx (ltT ts) k k') : rank ts k < rank ts k' := by
  unfold rank
  have hx := take_count (m := ts.length) hk (Nat.le_refl _)
  rw [List.take_length] at hx
  by_cases hlt : ts.getD k [] < ts.getD k' []
  · have := cnt_split (ts.getD k []) ts _ hlt
    lia
  · have hge : ¬ ts.getD k' [] < ts.getD k [] := of_decide_eq_false h.1
    have he : ts.getD k [] = ts.getD k' [] := by
      rcases lt_tri (ts.getD k []) (ts.getD k' []) with q | q | q
      · exact absurd q hlt
      · exact q
      · exact absurd q hge
    have hkk : k < k' := by
      rcases h.2 with q | q
      · exact absurd (of_decide_eq_true q) hlt
      · exact q
    rw [← he]
    have := take_count hkk (Nat.le_of_lt hk')
    lia
theorem fold_stay {ts : List (List Nat)} {k : Nat} : ∀ (ks : List Nat) (o : List V), (∀ k' ∈ ks, rank ts k' = rank ts k → k' = k) → o[rank ts k]? = some (.int k) → (ks.foldl (orderStep ts) o)[rank ts k]? = some (.int k)
  | [], o, _, h => h
  | a :: r, o, hu, h => by
    rw [List.foldl_cons]
    refine fold_stay r _ (fun k' hk' => hu k' (List.mem_cons_of_mem _ hk')) ?_
    unfold orderStep
    have hlt : rank ts k < o.length := (List.getElem?_eq_some_iff.mp h).1
    by_cases e : rank ts a = rank ts k
    · rw [hu a List.mem_cons_self e, List.getElem?_set_self hlt]
    · rw [List.getElem?_set_ne e]; exact h
theorem fold_set {ts : List (List Nat)} {k : Nat} : ∀ (ks : List Nat) (o : List V), k ∈ ks → (∀ k' ∈ ks, rank ts k' = rank ts k → k' = k) → rank ts k < o.length → (ks.foldl (orderStep ts) o)[rank ts k]? = some (.int k)
  | [], o, h, _, _ => nomatch h
  | a :: r, o, h, hu, hl => by
    rw [List.foldl_cons]
    have hu' := fun k' hk' => hu k' (List.mem_cons_of_mem _ hk')
    rcases List.mem_cons.mp h with rfl | h
    · exact fold_stay r _ hu' (by unfold orderStep; rw [List.getElem?_set_self hl])
    · exact fold_set r _ h hu' (by rw [orderStep_len]; exact hl)
theorem foldl_len (ts : List (List Nat)) : ∀ (ks : List Nat) (o : List V), (ks.foldl (orderStep ts) o).length = o.length
  | [], o => rfl
  | a :: r, o => by rw [List.foldl_cons, foldl_len ts r, orderStep_len]
/-- what the sort leaves is what the law reckons -/
theorem sorted_ordered {ts : List (List Nat)} {p : Array Nat} (hp : Pre0 ts.length p ts.length) (ha : Asc (ltT ts) p ts.length) : (p.toList.map fun (k : Nat) => V.int (k : Int)) = orderedV ts := by
  have hlow : ∀ i, i < ts.length → gp p i < ts.length := hp.low
  have hr : ∀ i, i < ts.length → rank ts (gp p i) = i := by
    have up : ∀ i, i < ts.length → i ≤ rank ts (gp p i) := fun i => by
      induction i with
      | zero => intro _; exact Nat.zero_le _
      | succ i ih =>
        intro hi
        have := rank_mono (hlow i (by lia)) (hlow (i + 1) hi) (ha i (i + 1) (Nat.lt_succ_self _) hi)
        have := ih (by lia)
        lia
    have down : ∀ d i, i + d + 1 = ts.length → rank ts (gp p i) ≤ i := fun d => by
      induction d with
      | zero => intro i hi; have := rank_lt (hlow i (by lia)); lia
      | succ d ih =>
        intro i hi
        have := rank_mono (hlow i (by lia)) (hlow (i + 1) (by lia)) (ha i (i + 1) (Nat.lt_succ_self _) (by lia))
        have := ih (i + 1) (by lia)
        lia
    intro i hi
    have := up i hi
    have := down (ts.length - 1 - i) i (by lia)
    lia
  have inj : ∀ k k', k < ts.length → k' < ts.length → rank ts k' = rank ts k → k' = k := fun k k' h1 h2 e => by
    by_cases c : k' = k
    · exact c
    · exfalso
      have : ltx (ltT ts) k k' ∨ ltx (ltT ts) k' k := by
        cases q1 : ltT ts k k' with
        | true => exact .inl ⟨(weakT ts).as _ _ q1, .inl q1⟩
        | false =>
          cases q2 : ltT ts k' k with
          | true => exact .inr ⟨q1, .inl q2⟩
          | false =>
            rcases Nat.lt_or_gt_of_ne c with h | h
            · exact .inr ⟨q1, .inr h⟩
            · exact .inl ⟨q2, .inr h⟩
      rcases this with h | h
      · have := rank_mono h1 h2 h; lia
      · have := rank_mono h2 h1 h; lia
  apply List.ext_getElem?
  intro i
  by_cases hi : i < ts.length
  · have hgi : p.toList[i]? = some (gp p i) := by
      have hs : i < p.size := by rw [hp.size]; exact hi
      rw [Array.getElem?_toList]
      unfold gp
      rw [Array.getD_eq_getD_getElem?, Array.getElem?_eq_getElem hs]; rfl
    rw [List.getElem?_map, hgi]
    unfold orderedV
    have := fold_set (ts := ts) (k := gp p i) (List.range ts.length) (List.replicate ts.length .none) (List.mem_range.mpr (hlow i hi)) (fun k' hk' e => inj _ _ (hlow i hi) (List.mem_range.mp hk') e) (by rw [hr i hi, List.length_replicate]; exact hi)
    rw [hr i hi] at this
    rw [this]; rfl
  · rw [List.getElem?_eq_none (by rw [List.length_map, Array.length_toList, hp.size]; lia), List.getElem?_eq_none (by unfold orderedV; rw [foldl_len, List.length_replicate]; lia)]
end Mine

open PySem PySem.W PyProof.Rows PySem.Calls
namespace Mine
theorem InstIn.same {h h' : Heap} {x C kS : Addr} {v : Value} {us : Array Value} {e : Nat} (X : InstIn h x C v) (ek : h.get? kS = some (seqObj "list" us e)) (s : Heap.SameBut kS h h') : InstIn h' x C v := by
  obtain ⟨dx, a, b⟩ := X
  refine ⟨dx, (s.2 _ fun q => ?_).trans a, (s.2 _ fun q => ?_).trans b⟩
  · rw [q, ek] at a; have := congrArg Obj.data (Option.some.inj a); (first | exact none_some this | exact some_none this | (obtain rfl := Option.some.inj this) | cases this)
  · rw [q, ek] at b; have := congrArg Obj.data (Option.some.inj b); (first | exact none_some this | exact some_none this | (obtain rfl := Option.some.inj this) | cases this)
/-- the lists of a sort: the one that is sorted, the one of the keys -/
structure Srt (s0 s : Shared) (a kS : Addr) (e1 : Nat) (kA : Array Value) (e : Nat) : Prop where
  nw : Nw s0 s
  ea : s.heap.get? a = some (seqObj "list" #[] e1)
  ek : s.heap.get? kS = some (seqObj "list" kA e)
  la : s0.heap.objs.size ≤ a
  lk : s0.heap.objs.size ≤ kS
  ne : kS ≠ a
theorem Srt.more {s0 s s' : Shared} {a kS : Addr} {e1 e : Nat} {kA : Array Value} (S : Srt s0 s a kS e1 kA e) (n : Nw s s') : Srt s0 s' a kS e1 kA e := ⟨S.nw.trans n, n.keep _ _ S.ea, n.keep _ _ S.ek, S.la, S.lk, S.ne⟩
theorem Srt.put {s0 s : Shared} {a kS : Addr} {e1 e e2 : Nat} {kA kB : Array Value} {h' : Heap} (S : Srt s0 s a kS e1 kA e) (hs : Heap.SameBut kS s.heap h') (ek : h'.get? kS = some (seqObj "list" kB e2)) : Srt s0 { s with heap := h' } a kS e1 kB e2 :=
  ⟨⟨fun b o eb => (hs.2 b fun q => by rw [q] at eb; exact absurd (Heap.lt_size eb) (Nat.not_lt.mpr S.lk)).trans (S.nw.keep b o eb), Nat.le_trans S.nw.size (Nat.le_of_eq hs.1.symm), S.nw.drawn, S.nw.os, S.nw.gens⟩, (hs.2 _ S.ne.symm).trans S.ea, ek, S.la, S.lk, S.ne⟩
/-- the keys of the first items -/
def Keys (h : Heap) (C : Addr) (vs : List Value) (kA : Array Value) (m : Nat) : Prop := kA.size = m ∧ ∀ j, j < m → ∃ x, kA[j]? = some (.ref x) ∧ InstIn h x C (vs.getD j .none)
theorem Keys.keeps {h h' : Heap} {C : Addr} {vs : List Value} {kA : Array Value} {m : Nat} (X : Keys h C vs kA m) (k : ∀ b o, h.get? b = some o → h'.get? b = some o) : Keys h' C vs kA m := ⟨X.1, fun j hj => let ⟨x, e, i⟩ := X.2 j hj; ⟨x, e, i.keeps k⟩⟩
theorem Keys.same {h h' : Heap} {C kS : Addr} {vs : List Value} {kA us : Array Value} {m e : Nat} (X : Keys h C vs kA m) (ek : h.get? kS = some (seqObj "list" us e)) (s : Heap.SameBut kS h h') : Keys h' C vs kA m := ⟨X.1, fun j hj => let ⟨x, e, i⟩ := X.2 j hj; ⟨x, e, i.same ek s⟩⟩
section
variable {prog : Program} {w : World} {A : Around} {s s0 : Shared} {C a kS : Addr} {vs : List Value} {lt : Nat → Nat → Bool} {f : Value} {e1 : Nat} {P : PySem.Fin → Shared → Prop} {E : Value → Shared → Prop}
theorem kitem_zip {kA : Array Value} {i : Nat} {k : Value} (hs : kA.size = vs.length) (e : kA[i]? = some k) : kas_item (kA.zip vs.toArray) i = (k, vs.getD i .none) := by
  have hi : i < kA.size := (Array.getElem?_eq_some_iff.mp e).1
  have hi2 : i < vs.length := by lia
  have hz : i < (kA.zip vs.toArray).size := by rw [Array.size_zip, hs]; simp; exact hi2
  unfold kas_item
  have e2 : kA[i] = k := (Array.getElem?_eq_some_iff.mp e).2
  simp only [Array.getD, dif_pos hz]
  simp [e2, hi2]
theorem sort_end {e : Nat} {kA : Array Value} (W : Weak lt) (S : Srt s0 s a kS e1 kA e) (Ks : Keys s.heap C vs kA vs.length) (h2 : 2 ≤ vs.length) (h64 : vs.length < 64)
    (cmp : ∀ s' i j xi xj, Nw s0 s' → i < vs.length → j < vs.length → InstIn s'.heap xi C (vs.getD i .none) → InstIn s'.heap xj C (vs.getD j .none) → ∀ C' : Bool → Shared → Prop, (∀ s'', Nw s' s'' → C' (lt i j) s'') → wpAny (model prog w) A (keyLt' oneType' (.ref xi) (.ref xj)) C' (fun _ _ => False) s')
    (H : ∀ c p s', Nw s0 s' → s'.heap.get? a = some (seqObj "list" (p.map fun i => vs.getD i .none) c) → Pre0 vs.length p vs.length → Asc lt p vs.length → P (.done (.ret .none)) s') :
    wpAny (model prog w) A (ksk_end a false vs.toArray e1 (.ref kS) kA) P E s := by
  unfold ksk_end
  rw [if_neg (by decide)]
  rw [if_neg (by rw [List.size_toArray]; lia), if_neg (by rw [List.size_toArray]; lia)]
  refine wpAny_bind ?_
  have hkA : kA = kA.toList.toArray := by simp
  have hkl : kA.toList.length = vs.length := by rw [Array.length_toList, Ks.1]
  rw [hkA]
  refine kas_kind (vs := kA.toList) (T := .ref C) (by rw [hkl]; exact h2) (fun v hv => ?_) rfl (by first | rfl | decide | simp) ?_
  · obtain ⟨j, hj⟩ := List.getElem?_of_mem hv
    have hjl : j < vs.length := by rw [← hkl]; exact (List.getElem?_eq_some_iff.mp hj).1
    obtain ⟨x, ex, dx, ei, _⟩ := Ks.2 j hjl
    rw [Array.getElem?_toList] at hj
    rw [ex] at hj
    (first | exact none_some hj | exact some_none hj | (obtain rfl := Option.some.inj hj) | cases hj)
    exact (Looks.ld (part := none) ei).andThen .now
  rw [← hkA]
  rw [if_neg (by decide)]
  have hzs : (kA.zip vs.toArray).size = vs.length := by rw [Array.size_zip, Ks.1, List.size_toArray, Nat.min_self]
  have est : SortSt.mk' oneType' (kA.zip vs.toArray) #[] 7 none = kas_st oneType' (kA.zip vs.toArray) (List.toArray (List.range vs.length)) := by
    have e := kas_range (kA.zip vs.toArray)
    rw [hzs] at e
    show SortSt.mk' oneType' (kA.zip vs.toArray) #[] 7 none = SortSt.mk' oneType' ((List.toArray (List.range vs.length)).map (kas_item (kA.zip vs.toArray))) #[] 7 none
    rw [e]
  dsimp only
  rw [est]
  have run := kas_runs (prog := prog) (w := w) (A := A) (E := E) (κ := oneType') (it := kA.zip vs.toArray) (Q := fun _ st' s' => ∃ p : Array Nat, arrOf st' = p.map (kas_item (kA.zip vs.toArray)) ∧ failedOf st' = none ∧ Nw s s' ∧ Pre0 vs.length p vs.length ∧ Asc lt p vs.length)
    (G := fun p s' => Nw s s' ∧ Pre0 vs.length p vs.length ∧ Asc lt p vs.length) (s := s) h2 h64 (fun p' st' s' _ a2 a3 a4 => ⟨p', a2, a3, a4⟩)
    (sort_wp W (Inv := fun s' => Nw s s') (fun i j C' s' hi hil hjl hC => by
      obtain ⟨xi, ei, Ii⟩ := Ks.2 i hil
      obtain ⟨xj, ej, Ij⟩ := Ks.2 j hjl
      unfold kas_cmp
      rw [kitem_zip Ks.1 ei, kitem_zip Ks.1 ej]
      exact cmp s' i j xi xj (S.nw.trans hi) hil hjl (Ii.keeps hi.keep) (Ij.keeps hi.keep) C' fun s'' n => hC s'' (hi.trans n)) (.refl s) h2 fun p' s' hi hp ha => ⟨hi, hp, ha⟩)
  refine wpAny_bind (wpAny_mono run ?_ fun _ _ e => e)
  rintro ⟨⟨⟩, st'⟩ s' ⟨p, har, hf, hn, hp, ha⟩
  have S' := S.more hn
  have Ks' := Ks.keeps hn.keep
  unfold ksk_tail
  have s1 := Heap.SameBut.update s'.heap kS (Obj.mapSeq fun _ => (#[] : Array Value))
  have na1 : (s'.heap.update kS (Obj.mapSeq fun _ => (#[] : Array Value))).get? a = some (seqObj "list" #[] e1) := (s1.2 a S.ne.symm).trans S'.ea
  have s2 := Heap.SameBut.update (s'.heap.update kS (Obj.mapSeq fun _ => (#[] : Array Value))) a (Obj.mapSeq fun _ => (arrOf st').map (·.2))
  have hc2 := get?_update_seq na1 fun _ => (arrOf st').map (·.2)
  generalize (if (((arrOf st').map (·.2)).size == (#[] : Array Value).size) = true then e1 else e1 + 1) = c2 at hc2
  have hout : (arrOf st').map (·.2) = p.map fun i => vs.getD i .none := by
    rw [har, Array.map_map]
    refine Array.map_congr_left fun i hi => ?_
    have hil : i < vs.length := by
      obtain ⟨m, hm⟩ := List.getElem?_of_mem (Array.mem_toList_iff.mpr hi)
      rw [Array.getElem?_toList] at hm
      have hml : m < vs.length := by rw [← hp.size]; exact (Array.getElem?_eq_some_iff.mp hm).1
      have := hp.low m hml
      rwa [gp_of hm] at this
    obtain ⟨xi, ei, _⟩ := Ks.2 i hil
    show (kas_item (kA.zip vs.toArray) i).2 = _
    rw [kitem_zip Ks.1 ei]
  have hosz : ((arrOf st').map (·.2)).size = vs.length := by rw [hout, Array.size_map, hp.size]
  dsimp only
  refine wpAny_bind (listUpdate_at S'.ek rfl ?_ (by rw [Ks.1, sizeLine_eq]; lia) (Nat.zero_le _))
  refine wpAny_bind (wpAny_letGo ?_)
  refine wpAny_bind (seqEpoch_at na1 rfl ?_)
  refine wpAny_bind (listUpdate_at na1 rfl ?_ (Nat.zero_le _) (Nat.le_trans (Nat.le_of_eq hosz) (by rw [sizeLine_eq]; lia)))
  rw [hf]
  simp only [bne_self_eq_false, Bool.false_eq_true, if_false]
  refine wpAny_pure (H c2 p _ ⟨fun b o eb => ?_, ?_, S'.nw.drawn, S'.nw.os, S'.nw.gens⟩ ?_ hp ha)
  · have h1 := S'.nw.keep b o eb
    have n1 : b ≠ kS := fun q => by rw [q] at eb; exact absurd (Heap.lt_size eb) (Nat.not_lt.mpr S.lk)
    have n2 : b ≠ a := fun q => by rw [q] at eb; exact absurd (Heap.lt_size eb) (Nat.not_lt.mpr S.la)
    exact (s2.2 b n2).trans ((s1.2 b n1).trans h1)
  · exact Nat.le_trans S'.nw.size (Nat.le_of_eq (s2.1.trans s1.1).symm)
  · rw [← hout]; exact hc2
end
end Mine

open PySem PySem.W PyProof.Rows PySem.Calls
namespace Mine
section
variable {prog : Program} {w : World} {A : Around} {s s0 : Shared} {C a kS : Addr} {vs : List Value} {lt : Nat → Nat → Bool} {f : Value} {e1 : Nat} {P : PySem.Fin → Shared → Prop} {E : Value → Shared → Prop}
theorem sort_rest (W : Weak lt) (S : Srt s0 s a kS e1 #[] 0) (h2 : 2 ≤ vs.length) (h64 : vs.length < 64)
    (turn : ∀ s' v, Nw s0 s' → v ∈ vs → ∀ Q' : Value → Shared → Prop, (∀ x s'', Nw s' s'' → InstIn s''.heap x C v → Q' (.ref x) s'') → wpAny (model prog w) A (call f [v]) Q' (fun _ _ => False) s')
    (cmp : ∀ s' i j xi xj, Nw s0 s' → i < vs.length → j < vs.length → InstIn s'.heap xi C (vs.getD i .none) → InstIn s'.heap xj C (vs.getD j .none) → ∀ C' : Bool → Shared → Prop, (∀ s'', Nw s' s'' → C' (lt i j) s'') → wpAny (model prog w) A (keyLt' oneType' (.ref xi) (.ref xj)) C' (fun _ _ => False) s')
    (H : ∀ c p s', Nw s0 s' → s'.heap.get? a = some (seqObj "list" (p.map fun i => vs.getD i .none) c) → Pre0 vs.length p vs.length → Asc lt p vs.length → P (.done (.ret .none)) s') :
    wpAny (model prog w) A (ksk_rest a f false vs.toArray e1 (.ref kS)) P E s := by
  unfold ksk_rest
  refine wpAny_bind (wpAny_rule ?_)
  rw [List.forIn_toArray]
  refine wpAny_bind (ksk_fold (fun i s' => ∃ kA e, Srt s0 s' a kS e1 kA e ∧ Keys s'.heap C vs kA i) vs 0 s ⟨#[], 0, S, rfl, fun j hj => absurd hj (Nat.not_lt_zero _)⟩ ?step ?done)
  case step =>
    rintro j x s' hx ⟨kA, e, S', Ks⟩
    simp only [Nat.zero_add] at Ks ⊢
    have hj : j < vs.length := (List.getElem?_eq_some_iff.mp hx).1
    have hxj : vs.getD j .none = x := by simp [List.getD, hx]
    refine wpAny_bind (wpAny_attempt (wpAny_mono (turn s' x S'.nw (List.mem_of_getElem? hx) (fun v s'' => ∃ y, v = .ref y ∧ Nw s' s'' ∧ InstIn s''.heap y C x) fun y s'' n i => ⟨y, rfl, n, i⟩) (fun v s'' he => ?_) fun _ _ hF => hF.elim))
    obtain ⟨y, rfl, n, I⟩ := he
    have S2 := S'.more n
    have K2 := Ks.keeps n.keep
    dsimp only
    have s1 := Heap.SameBut.update s''.heap kS (Obj.mapSeq (·.push (.ref y)))
    have hc2 := get?_update_seq S2.ek (·.push (.ref y))
    generalize (if ((kA.push (Value.ref y)).size == kA.size) = true then e else e + 1) = c2 at hc2
    refine wpAny_bind (listUpdate_at S2.ek rfl ?_ (by rw [Ks.1, sizeLine_eq]; lia) (Nat.le_trans (Nat.le_of_eq (Array.size_push ..)) (by rw [Ks.1, sizeLine_eq]; lia)))
    refine wpAny_pure ⟨rfl, kA.push (.ref y), c2, S2.put s1 hc2, ?_⟩
    have K3 := K2.same S2.ek s1
    refine ⟨by rw [Array.size_push, K3.1], fun m hm => ?_⟩
    by_cases e : m = j
    · subst e
      exact ⟨y, by rw [← K3.1]; simp, by rw [hxj]; exact I.same S2.ek s1⟩
    · obtain ⟨z, ez, iz⟩ := K3.2 m (by lia)
      refine ⟨z, ?_, iz⟩
      have hm2 : m < kA.size := (Array.getElem?_eq_some_iff.mp ez).1
      rw [Array.getElem?_push_lt hm2, (Array.getElem?_eq_some_iff.mp ez).2]
  case done =>
    rintro s' ⟨kA, e, S', Ks⟩
    rw [Nat.zero_add] at Ks
    refine wpAny_bind (listItems_at S'.ek rfl ?_)
    exact sort_end W S' Ks h2 h64 cmp H
theorem sort_key {C l : Addr} {Q : Value → Shared → Prop} (W : Weak lt) (hl : s.heap.IsList l vs.toArray) (h2 : 2 ≤ vs.length) (h64 : vs.length < 64)
    (turn : ∀ s' v, Nw s s' → v ∈ vs → ∀ Q' : Value → Shared → Prop, (∀ x s'', Nw s' s'' → InstIn s''.heap x C v → Q' (.ref x) s'') → wpAny (model prog w) A.in1.in1 (call (.ref C) [v]) Q' (fun _ _ => False) s')
    (cmp : ∀ s' i j xi xj, Nw s s' → i < vs.length → j < vs.length → InstIn s'.heap xi C (vs.getD i .none) → InstIn s'.heap xj C (vs.getD j .none) → ∀ C' : Bool → Shared → Prop, (∀ s'', Nw s' s'' → C' (lt i j) s'') → wpAny (model prog w) A.in1.in1 (keyLt' oneType' (.ref xi) (.ref xj)) C' (fun _ _ => False) s')
    (H : ∀ D c p s', Nw s s' → s.heap.objs.size ≤ D → s'.heap.get? D = some (seqObj "list" (p.map fun i => vs.getD i .none) c) → Pre0 vs.length p vs.length → Asc lt p vs.length → Q (.ref D) s') :
    wpAny (model prog w) A (call (.builtin "sorted") [.ref l] [(("key" : Str), .ref C)]) Q E s := by
  refine call_function_entry_kw kind_sorted plain_sorted entry_sorted (ksk_s1 _ _) ?_
  unfold Builtin.«sorted»
  refine wpAny_bind (m := checkCount "sorted" 1 1 _) (wpAny_pure ?_)
  refine wpAny_bind (PyProof.Rows.collect_list hl ?_ (by rw [sizeLine_eq]; lia))
  refine wpAny_bind (wpAny_newList ?_ (by rw [sizeLine_eq]; lia))
  have hsz : ((s.heap.push (seqObj "list" #[] 0)).update s.heap.objs.size (Obj.mapSeq (· ++ vs.toArray))).objs.size = s.heap.objs.size + 1 := by
    rw [Heap.size_update, size_push']
  have hoL : (((s.heap.push (seqObj "list" #[] 0)).update s.heap.objs.size (Obj.mapSeq (· ++ vs.toArray))).push (seqObj "list" vs.toArray 0)).get? (s.heap.objs.size + 1) = some (seqObj "list" vs.toArray 0) := by
    rw [← hsz]; exact Heap.get?_push_size _ rfl
  have keep : ∀ b o, s.heap.get? b = some o → (((s.heap.push (seqObj "list" #[] 0)).update s.heap.objs.size (Obj.mapSeq (· ++ vs.toArray))).push (seqObj "list" vs.toArray 0)).get? b = some o := fun b o q => by
    have hlt : b < s.heap.objs.size := Heap.lt_size q
    rw [Heap.get?_push_ne _ _ _ (by rw [hsz]; exact Nat.ne_of_lt (Nat.lt_succ_of_lt hlt)), Heap.get?_update_ne _ _ _ _ (Nat.ne_of_lt hlt), Heap.get?_push_ne _ _ _ (Nat.ne_of_lt hlt)]
    exact q
  have hsz2 : (((s.heap.push (seqObj "list" #[] 0)).update s.heap.objs.size (Obj.mapSeq (· ++ vs.toArray))).push (seqObj "list" vs.toArray 0)).objs.size = s.heap.objs.size + 2 := by rw [size_push', hsz]
  show wpAny _ _ _ _ _ { s with heap := ((s.heap.push (seqObj "list" #[] 0)).update s.heap.objs.size (Obj.mapSeq (· ++ vs.toArray))).push (seqObj "list" vs.toArray 0) }
  rw [hsz]
  generalize ((s.heap.push (seqObj "list" #[] 0)).update s.heap.objs.size (Obj.mapSeq (· ++ vs.toArray))).push (seqObj "list" vs.toArray 0) = h1 at hoL keep hsz2 ⊢
  refine wpAny_bind (wpAny_holding (wpAny_call_entry_kw slot_list_sort ⟨_, hoL, rfl⟩ entry_list_sort ?body (ksk_l1 _ _)))
  show wpAny (model prog w) A.in1.in1 (Builtin.«list.sort» ⟨[.ref (s.heap.objs.size + 1)], [(Str.ofString "key", .ref C)]⟩) _ _ _
  rw [ksk_t1]
  unfold ksk_tree
  have s1 := Heap.SameBut.update h1 (s.heap.objs.size + 1) (Obj.mapSeq fun _ => (#[] : Array Value))
  have ho1 := get?_update_seq hoL fun _ => (#[] : Array Value)
  generalize (if ((#[] : Array Value).size == vs.toArray.size) = true then 0 else 0 + 1) = e1 at ho1
  refine wpAny_bind (listItems_at hoL rfl ?_)
  refine wpAny_bind (listUpdate_at hoL rfl ?_ (by rw [List.size_toArray, sizeLine_eq]; lia) (Nat.zero_le _))
  generalize h1.update (s.heap.objs.size + 1) (Obj.mapSeq fun _ => (#[] : Array Value)) = h2' at s1 ho1 ⊢
  refine wpAny_bind (seqEpoch_at ho1 rfl ?_)
  refine wpAny_bind (wpAny_newTuple ?_ (by show vs.length ≤ _; rw [sizeLine_eq]; lia))
  refine wpAny_bind (wpAny_newList ?_ (Nat.zero_le _))
  refine wpAny_holding ?_
  have hz3 : (h2'.push (seqObj "tuple" vs.toArray 0)).objs.size = s.heap.objs.size + 3 := by rw [size_push', s1.1, hsz2]
  have S : Srt s { s with heap := (h2'.push (seqObj "tuple" vs.toArray 0)).push (seqObj "list" #[] 0) } (s.heap.objs.size + 1) (h2'.push (seqObj "tuple" vs.toArray 0)).objs.size e1 #[] 0 := by
    refine ⟨⟨fun b o e => Heap.get?_push_of_some _ (Heap.get?_push_of_some _ ((s1.2 b fun q => ?_).trans (keep b o e))), ?_, rfl, rfl, .refl _⟩, Heap.get?_push_of_some _ (Heap.get?_push_of_some _ ho1), Heap.get?_push_size _ rfl, Nat.le_succ _, by rw [hz3]; lia, fun q => ?_⟩
    · rw [q] at e; exact absurd (Heap.lt_size e) (Nat.not_lt.mpr (Nat.le_succ _))
    · show _ ≤ (Heap.push _ _).objs.size
      rw [size_push', hz3]; lia
    · rw [hz3] at q
      exact absurd (Nat.succ.inj q) (Nat.ne_of_gt (Nat.lt_trans (Nat.lt_succ_self _) (Nat.lt_succ_self _)))
  exact sort_rest (s0 := s) W S h2 h64 turn cmp fun c p s' n e hp ha => ⟨_, rfl, wpAny_pure ⟨_, rfl, H (s.heap.objs.size + 1) c p s' n (Nat.le_succ _) e hp ha⟩⟩
end
end Mine

open PySem PySem.W PyProof.Rows PySem.Calls
namespace Mine
def stepA (q : List (List Nat) × List Nat) (y : Int) : List (List Nat) × List Nat := if q.2 = [] then q else (q.1 ++ [sl q.2 (some (-y)) none], sl q.2 none (some (-y)))
theorem sl_pre_len {f : List Nat} {y : Int} (h : 1 ≤ y) (hf : f ≠ []) : (sl f none (some (-y))).length + 1 ≤ f.length := by
  have hp : 0 < f.length := List.length_pos_iff.mpr hf
  unfold sl
  simp only [List.length_take, List.length_drop, Option.elim]
  have := clipAt_cast f.length (-y)
  lia
theorem partsL_step : ∀ (ys : List Int) (q : List (List Nat) × List Nat), (∀ y ∈ ys, 1 ≤ y) → q.1.length + q.2.length ≤ 9 → partsL ys q = ys.foldl stepA q
  | [], q, _, _ => rfl
  | y :: r, q, hy, hq => by
    rw [List.foldl_cons, partsL]
    have h1 := hy y List.mem_cons_self
    have hr := fun z hz => hy z (List.mem_cons_of_mem _ hz)
    by_cases he : q.2 = []
    · rw [if_pos (.inl he)]
      have : ∀ l : List Int, l.foldl stepA q = q := fun l => by
        induction l with
        | nil => rfl
        | cons z l ih => rw [List.foldl_cons]; have : stepA q z = q := by unfold stepA; rw [if_pos he]
                         rw [this]; exact ih
      have hs : stepA q y = q := by unfold stepA; rw [if_pos he]
      rw [hs, this]
    · have hl := sl_pre_len h1 he
      have hp : 0 < q.2.length := List.length_pos_iff.mpr he
      rw [if_neg (fun h => h.elim he fun h => by lia)]
      have hs : stepA q y = (q.1 ++ [sl q.2 (some (-y)) none], sl q.2 none (some (-y))) := by unfold stepA; rw [if_neg he]
      rw [hs]
      exact partsL_step r _ hr (by simp; lia)
theorem stepA_nil (acc : List (List Nat)) : ∀ l : List Int, l.foldl stepA (acc, []) = (acc, [])
  | [] => rfl
  | z :: l => by rw [List.foldl_cons]; exact stepA_nil acc l
theorem stepA_end : ∀ (ys : List Int) (q : List (List Nat) × List Nat), (∀ y ∈ ys, 1 ≤ y) → q.2.length ≤ ys.length → (ys.foldl stepA q).2 = []
  | [], q, _, h => List.eq_nil_of_length_eq_zero (by simpa using h)
  | y :: r, q, hy, h => by
    rw [List.foldl_cons]
    by_cases he : q.2 = []
    · obtain ⟨acc, f⟩ := q
      dsimp only at he; subst he
      have : stepA (acc, []) y = (acc, []) := rfl
      rw [this, stepA_nil]
    · have hl := sl_pre_len (hy y List.mem_cons_self) he
      have hs : stepA q y = (q.1 ++ [sl q.2 (some (-y)) none], sl q.2 none (some (-y))) := by unfold stepA; rw [if_neg he]
      rw [hs]
      exact stepA_end r _ (fun z hz => hy z (List.mem_cons_of_mem _ hz)) (by dsimp only; rw [List.length_cons] at h; lia)
theorem due2_step : ∀ (ys : List Int) (gs : List (List Nat)) (f : List Nat), (∀ y ∈ ys, y ≠ 127) → ys.foldl due2 (gs, f) = ((ys.foldl stepA (gs.reverse, f)).1.reverse, (ys.foldl stepA (gs.reverse, f)).2)
  | [], gs, f, _ => by simp
  | y :: r, gs, f, hy => by
    rw [List.foldl_cons, List.foldl_cons]
    have h1 := hy y List.mem_cons_self
    have hr := fun z hz => hy z (List.mem_cons_of_mem _ hz)
    by_cases he : f = []
    · have e1 : due2 (gs, f) y = (gs, f) := by unfold due2; rw [if_neg (fun h => h.2 he)]
      have e2 : stepA (gs.reverse, f) y = (gs.reverse, f) := by unfold stepA; rw [if_pos he]
      rw [e1, e2]; exact due2_step r gs f hr
    · have e1 : due2 (gs, f) y = (sl f (some (-y)) none :: gs, sl f none (some (-y))) := by unfold due2; rw [if_pos ⟨h1, he⟩]
      have e2 : stepA (gs.reverse, f) y = ((sl f (some (-y)) none :: gs).reverse, sl f none (some (-y))) := by unfold stepA; rw [if_neg he]; simp
      rw [e1, e2]; exact due2_step r _ _ hr
theorem red_join : ∀ (r : List (List Nat)) (l : List (List Nat)), l ≠ [] → r.foldl redF (joinL [44] l) = joinL [44] (r.reverse ++ l)
  | [], l, _ => rfl
  | x :: r, l, h => by
    rw [List.foldl_cons, List.reverse_cons, List.append_assoc]
    obtain ⟨y, l', rfl⟩ := List.exists_cons_of_ne_nil h
    have : redF (joinL [44] (y :: l')) x = joinL [44] (x :: y :: l') := by unfold redF; rw [joinL]
    rw [this]
    exact red_join r (x :: y :: l') (by first | rfl | decide | simp)
theorem redL_join (ps : List (List Nat)) : redL ps = joinL [44] ps.reverse := by
  cases ps with
  | nil => rfl
  | cons x r => rw [redL, List.reverse_cons]; exact red_join r [x] (by first | rfl | decide | simp)
theorem foldl_due1 : ∀ (g s : List Int), (∀ y ∈ g, y ≠ 0) → g.foldl due1 s = s ++ g
  | [], s, _ => by simp
  | x :: r, s, h => by
    have hx := h x List.mem_cons_self
    rw [List.foldl_cons, foldl_due1 r _ fun y hy => h y (List.mem_cons_of_mem _ hy)]
    unfold due1
    simp [hx]
/-- the three kinds of grouping, and what the generator tells of it -/
inductive Kind (G' : List Int) : List Int → List Int → Bool → Prop
  | zero : Kind G' (G' ++ [0]) (G' ++ List.replicate 12 2) false
  | max : Kind G' (G' ++ [127]) G' true
  | none : Kind G' G' G' true
theorem gy_of : ∀ {G' : List Int} {r ys : List Int} {f : Bool}, (∀ y ∈ G', y ≠ 127 ∧ y ≠ 0) → ∀ {l : Option Int}, GY r (G'.getLast?.orElse fun _ => l) ys f → GY (G' ++ r) l (G' ++ ys) f
  | [], r, ys, f, _, l, h => by simpa using h
  | x :: G', r, ys, f, hx, l, h => by
    have h0 := hx x List.mem_cons_self
    refine .cons h0.1 h0.2 (gy_of (fun y hy => hx y (List.mem_cons_of_mem _ hy)) ?_)
    cases G' with
    | nil => simpa using h
    | cons y r' =>
      have hl : (y :: r').getLast? = some ((y :: r').getLast (by first | rfl | decide | simp)) := List.getLast?_eq_some_getLast (by first | rfl | decide | simp)
      rw [List.getLast?_cons_cons, hl] at h
      rw [hl]
      exact h
theorem kind_gy {G0 g ys : List Int} {f : Bool} (h : ∀ y ∈ G0, 1 ≤ y ∧ y ≤ 4) (k : Kind (G0 ++ [3, 2]) g ys f) : GY g none ys f := by
  have hG : ∀ y ∈ G0 ++ [3, 2], y ≠ 127 ∧ y ≠ 0 := fun y hy => by
    rcases List.mem_append.mp hy with hy | hy
    · have := h y hy; lia
    · simp at hy; lia
  cases k with
  | zero => exact gy_of hG (by simp; exact .zero 11)
  | max => have := gy_of (ys := []) (f := true) (r := [127]) hG (l := none) .max; simpa using this
  | none => have := gy_of (ys := []) (f := true) (r := []) hG (l := none) .nil; simpa using this
theorem due_eq {G0 g ys : List Int} {fb : Bool} (h : ∀ y ∈ G0, 1 ≤ y ∧ y ≤ 4) (k : Kind (G0 ++ [3, 2]) g ys fb) {f : List Nat} (hf : f.length ≤ 8) : redL (partsOut ys f) = dueL f g := by
  have hG : ∀ y ∈ G0 ++ [3, 2], 1 ≤ y ∧ y ≤ 4 := fun y hy => by
    rcases List.mem_append.mp hy with hy | hy
    · exact h y hy
    · simp at hy; lia
  have hys : ∀ y ∈ ys, 1 ≤ y ∧ y ≤ 4 := fun y hy => by
    cases k with
    | zero =>
      rcases List.mem_append.mp hy with hy | hy
      · exact hG y hy
      · rw [List.eq_of_mem_replicate hy]; lia
    | max => exact hG y hy
    | none => exact hG y hy
  have hp : partsL ys ([], f) = ys.foldl stepA ([], f) := partsL_step ys _ (fun y hy => (hys y hy).1) (by simp; lia)
  -- what the law's own sizes do
  have key : (g.foldl due1 []).foldl due2 ([], f) = ((ys.foldl stepA ([], f)).1.reverse, (ys.foldl stepA ([], f)).2) := by
    have hG0 : ∀ y ∈ G0 ++ [3, 2], y ≠ 0 := fun y hy => by have := hG y hy; lia
    have hGm : ∀ y ∈ G0 ++ [3, 2], y ≠ 127 := fun y hy => by have := hG y hy; lia
    cases k with
    | zero =>
      rw [List.foldl_append, foldl_due1 _ _ hG0, List.nil_append, List.foldl_cons, List.foldl_nil]
      have e : due1 (G0 ++ [3, 2]) 0 = (G0 ++ [3, 2]) ++ List.replicate 9 2 := by
        unfold due1
        rw [if_pos (by rfl)]
        congr 1
        have : sl (G0 ++ [3, 2]) (some (-1)) none = [2] := by
          unfold sl
          simp only [Option.elim]
          have hc := clipAt_cast (G0 ++ [3, 2]).length (-1)
          have : clipAt (G0 ++ [3, 2]).length (-1) = G0.length + 1 := by simp at hc ⊢; lia
          rw [this, List.drop_append, List.drop_of_length_le (by lia), List.nil_append]
          simp
        rw [this]; rfl
      rw [e, due2_step _ _ _ (fun y hy => by
        rcases List.mem_append.mp hy with hy | hy
        · exact hGm y hy
        · rw [List.eq_of_mem_replicate hy]; decide)]
      have split : ∀ m, ((G0 ++ [3, 2]) ++ List.replicate m 2).foldl stepA (([] : List (List Nat)).reverse, f) = (List.replicate m 2).foldl stepA ((G0 ++ [3, 2]).foldl stepA ([], f)) := fun m => by rw [List.foldl_append]; rfl
      have h12 : ((G0 ++ [3, 2]) ++ List.replicate 12 2).foldl stepA ([], f) = ((G0 ++ [3, 2]) ++ List.replicate 9 2).foldl stepA ([], f) := by
        have e12 : List.replicate 12 (2 : Int) = List.replicate 9 2 ++ List.replicate 3 2 := by rfl
        rw [e12, ← List.append_assoc, List.foldl_append]
        have hn := stepA_end ((G0 ++ [3, 2]) ++ List.replicate 9 2) ([], f) (fun y hy => by
          rcases List.mem_append.mp hy with hy | hy
          · exact (hG y hy).1
          · rw [List.eq_of_mem_replicate hy]; decide) (by simp; lia)
        generalize ((G0 ++ [3, 2]) ++ List.replicate 9 2).foldl stepA ([], f) = q at hn
        obtain ⟨a, b⟩ := q
        dsimp only at hn; subst hn
        exact stepA_nil _ _
      rw [h12]; rfl
    | max =>
      rw [List.foldl_append, foldl_due1 _ _ hG0, List.nil_append, List.foldl_cons, List.foldl_nil]
      have e : due1 (G0 ++ [3, 2]) 127 = (G0 ++ [3, 2]) ++ [127] := by unfold due1; rfl
      rw [e, List.foldl_append, due2_step _ _ _ hGm, List.foldl_cons, List.foldl_nil]
      unfold due2
      rw [if_neg (fun h => h.1 rfl)]; rfl
    | none =>
      rw [foldl_due1 _ _ hG0, List.nil_append, due2_step _ _ _ hGm]; rfl
  unfold dueL partsOut
  rw [key, hp, redL_join]
  generalize ys.foldl stepA ([], f) = q
  obtain ⟨a, b⟩ := q
  dsimp only
  by_cases hb : b = []
  · rw [if_neg (by simp [hb]), if_neg (by simp [hb])]
  · rw [if_pos hb, if_pos hb, List.reverse_append]; rfl
end Mine

open PySem PySem.W PyProof.Rows PySem.Calls
namespace Mine
theorem strip_eq (m : List Nat) (h : 1 ≤ commas m) : stripL 2 m 3 (commas m - 1) = strippedL m := by
  unfold stripL strippedL blanks
  obtain ⟨k, hk⟩ : ∃ k, commas m = k + 1 := ⟨commas m - 1, (Nat.sub_add_cancel h).symm⟩
  rw [hk, pad_two, pad_three]
theorem inner_of (X : List Nat) : sl ([40, 63, 115, 58] ++ X ++ [41, 92, 90]) (some 4) (some (-3)) = X := by
  unfold sl
  simp only [Option.elim]
  have h4 := clipAt_cast ([40, 63, 115, 58] ++ X ++ [41, 92, 90]).length 4
  have h3 := clipAt_cast ([40, 63, 115, 58] ++ X ++ [41, 92, 90]).length (-3)
  have e4 : clipAt ([40, 63, 115, 58] ++ X ++ [41, 92, 90]).length 4 = 4 := by simp at h4 ⊢; lia
  have e3 : clipAt ([40, 63, 115, 58] ++ X ++ [41, 92, 90]).length (-3) = 4 + X.length := by simp at h3 ⊢; lia
  rw [e4, e3, show 4 + X.length - 4 = X.length by lia]
  simp
theorem takes_made (t0 : Bk) (bs : List Bk) (w : List Nat) : takesL (joinOut t0 bs) w = takesGo (t0 ++ outB bs).flatten w (t0 ++ outB bs).flatten.length ([0], 0, 0) := by
  unfold takesL joinOut
  rw [inner_of]
  simp
theorem takesGo_nil (X w : List Nat) (k d : Nat) : ∀ f, takesGo X w f ([], k, d) = false
  | 0 => by simp [takesGo]
  | f + 1 => by simp [takesGo]
theorem tk_step {X w pl : List Nat} {k d f : Nat} {q' : List Nat × Nat × Nat} (hk : k < X.length) (hs : takeStep X w (pl, k, d) = some q') (he : pl = [] → q'.1 = []) : takesGo X w (f + 1) (pl, k, d) = takesGo X w f q' := by
  by_cases h : pl = []
  · obtain ⟨a, b, c⟩ := q'
    have := he h
    dsimp only at this
    subst h; subst this
    rw [takesGo_nil, takesGo_nil]
  · rw [takesGo, if_pos ⟨hk, h⟩, hs]
theorem tk_end {X w pl : List Nat} {k d : Nat} (hk : X.length ≤ k) : ∀ f, takesGo X w f (pl, k, d) = (decide (d ≠ 1) && decide (w.length ∈ pl))
  | 0 => rfl
  | f + 1 => by rw [takesGo, if_neg (fun h => absurd h.1 (Nat.not_lt.mpr hk))]
theorem spread_take (w pl : List Nat) : spread w (pl.take 1) = spread w pl := by
  cases pl with
  | nil => rfl
  | cons x r => rfl
theorem spread_nil (w : List Nat) : spread w [] = [] := rfl
/-- a plain sign of the text -/
def chr (w pl : List Nat) (s : Nat) : List Nat := (pl.filter fun k => decide (k < w.length ∧ (s = 63 ∨ s = w.getD k 0))).map (· + 1)
theorem fit_star (w pl : List Nat) : fitStep w pl 42 = spread w pl := rfl
theorem fit_chr (w pl : List Nat) {s : Nat} (h : s ≠ 42) : fitStep w pl s = chr w pl s := by unfold fitStep chr; rw [if_neg h]
theorem step_chr (X w pl : List Nat) (k s x : Nat) (hx : X.getD k 0 = x) (h : (x = 46 ∧ s = 63) ∨ (x = s ∧ x ≠ 46 ∧ x ≠ 63)) : stepPl X w pl k 1 = chr w pl s := by
  unfold stepPl chr
  rw [Nat.add_sub_cancel, hx]
  congr 1
  refine List.filter_congr fun p _ => ?_
  rw [decide_eq_decide]
  rcases h with ⟨rfl, rfl⟩ | ⟨rfl, h1, h2⟩
  · simp
  · simp only [h1, h2, false_or]
    exact ⟨fun ⟨a, b⟩ => ⟨a, b.symm⟩, fun ⟨a, b⟩ => ⟨a, b.symm⟩⟩
theorem chr_nil (w : List Nat) (s : Nat) : chr w [] s = [] := rfl

/-- patterns of ? and commas -/
def dotOf (c : Nat) : Nat := if c = 63 then 46 else c
theorem plain_tr : ∀ (pat : List Nat) (acc : List (Option (List Nat))), (∀ c ∈ pat, c = 63 ∨ c = 44) → pat.foldl trStep acc = acc ++ pat.map fun c => some [dotOf c]
  | [], acc, _ => by simp
  | c :: r, acc, h => by
    have hc := h c List.mem_cons_self
    rw [List.foldl_cons, plain_tr r _ fun d hd => h d (List.mem_cons_of_mem _ hd), List.map_cons]
    have e : trStep acc c = acc ++ [some [dotOf c]] := by
      unfold trStep dotOf
      rcases hc with rfl | rfl <;> rfl
    rw [e, List.append_assoc]; rfl
theorem flat1 : ∀ (l : List Nat), ((l.map fun c => [dotOf c]).flatten : List Nat) = l.map dotOf
  | [] => rfl
  | c :: r => by rw [List.map_cons, List.flatten_cons, flat1 r]; rfl
theorem plain_parts {pat : List Nat} (h : ∀ c ∈ pat, c = 63 ∨ c = 44) (hl : pat.length ≤ 200) : Parts pat (pat.map fun c => [dotOf c]) [] where
  sign := fun c hc => by rcases h c hc with rfl | rfl <;> simp [okSign]
  len := hl
  eq := by rw [plain_tr pat [] h]; simp
  ok := trivial
  n := by simp; lia
  b := fun b hb => nil_elim hb
  z := by rw [outB, List.append_nil, flat1, List.length_map]; lia
theorem plain_go (pat w : List Nat) (h : ∀ c ∈ pat, c = 63 ∨ c = 44) : ∀ (n k f : Nat) (pl : List Nat), k + n = pat.length → n ≤ f → takesGo (pat.map dotOf) w f (pl, k, 0) = decide (w.length ∈ (pat.drop k).foldl (fitStep w) pl)
  | 0, k, f, pl, hk, hf => by
    have hk' : k = pat.length := by lia
    rw [tk_end (by rw [List.length_map]; lia), hk', List.drop_length, Bool.eq_iff_iff, List.foldl_nil, Bool.and_eq_true]
    simp only [decide_eq_true_iff]
    exact ⟨fun h => h.2, fun h => ⟨by decide, h⟩⟩
  | n + 1, k, 0, pl, hk, hf => by lia
  | n + 1, k, f + 1, pl, hk, hf => by
    have hlt : k < pat.length := by lia
    have hx : pat[k]? = some (pat.getD k 0) := by rw [List.getD_eq_getElem?_getD, List.getElem?_eq_getElem hlt]; rfl
    have hc := h (pat.getD k 0) (List.mem_of_getElem? hx)
    have hdr : pat.drop k = pat.getD k 0 :: pat.drop (k + 1) := by
      rw [List.drop_eq_getElem_cons hlt, List.getD_eq_getElem?_getD, List.getElem?_eq_getElem hlt]; rfl
    have hX : (pat.map dotOf).getD k 0 = dotOf (pat.getD k 0) := by
      rw [List.getD_eq_getElem?_getD, List.getElem?_map, hx]; rfl
    have hXd : (pat.map dotOf).drop k = dotOf (pat.getD k 0) :: (pat.map dotOf).drop (k + 1) := by
      rw [← List.map_drop, hdr, List.map_cons, List.map_drop]
    have hb : behindL (pat.map dotOf) k ≠ [42] := by
      unfold behindL
      intro e
      have : 42 ∈ ((pat.map dotOf).drop (k + 1)).take 1 := by rw [e]; exact .head _
      obtain ⟨c, hcm, he⟩ := List.mem_map.mp (List.mem_of_mem_drop (List.mem_of_mem_take this))
      rcases h c hcm with rfl | rfl <;> (first | exact none_some he | exact some_none he | (obtain rfl := Option.some.inj he) | cases he)
    rw [hdr, List.foldl_cons]
    generalize hcc : pat.getD k 0 = c at hc hX hXd
    have hd46 : dotOf c = 46 ∨ dotOf c = 44 := by rcases hc with rfl | rfl <;> simp [dotOf]
    have hs : takeStep (pat.map dotOf) w (pl, k, 0) = some (stepPl (pat.map dotOf) w pl k 1, k + 1, 0) := by
      unfold takeStep
      dsimp only
      rw [hX, hXd]
      rw [if_neg (by
        rintro ⟨e, _⟩
        rw [List.take_succ_cons] at e
        have := (List.cons.inj e).1
        rcases hd46 with h | h <;> rw [h] at this <;> (first | exact none_some this | exact some_none this | (obtain rfl := Option.some.inj this) | cases this))]
      rw [if_neg (by rintro ⟨_, e⟩; (first | exact none_some e | exact some_none e | (obtain rfl := Option.some.inj e) | cases e))]
      rw [if_neg (by rintro ⟨e, _⟩; exact hb (List.cons.inj e).2)]
      have h92 : dotOf c ≠ 92 := by rcases hd46 with h | h <;> rw [h] <;> decide
      rw [if_neg (by
        rintro (e | ⟨e, _⟩)
        · rcases hd46 with h | h <;> rw [h] at e <;> revert e <;> decide
        · exact h92 e)]
      rw [if_neg h92]
    rw [tk_step (by rw [List.length_map]; exact hlt) hs (fun e => by subst e; rfl)]
    rw [step_chr _ w pl k c (dotOf c) hX (by rcases hc with rfl | rfl <;> simp [dotOf])]
    rw [← fit_chr w pl (by rcases hc with rfl | rfl <;> decide)]
    exact plain_go pat w h n (k + 1) f _ (by lia) (by lia)
theorem plain_ok {pat : List Nat} (h : ∀ c ∈ pat, c = 63 ∨ c = 44) (w : List Nat) : takesL (joinOut (pat.map fun c => [dotOf c]) []) w = fitsL pat w := by
  rw [takes_made, outB, List.append_nil, flat1, plain_go pat w h pat.length 0 _ [0] (by lia) (by rw [List.length_map]; exact Nat.le_refl _)]
  rfl
end Mine

open PySem PySem.W PyProof.Rows PySem.Calls
namespace Mine
theorem end_eq {w a b : List Nat} {d : Nat} (hd : d ≠ 1) (h : a = b) : (decide (d ≠ 1) && decide (w.length ∈ a)) = decide (w.length ∈ b) := by subst h; rw [Bool.eq_iff_iff, Bool.and_eq_true]; simp only [decide_eq_true_iff]; exact ⟨fun h => h.2, fun h => ⟨hd, h⟩⟩
end Mine
namespace Mine
/-- *,*,* -/
theorem pA : Parts [42, 44, 42, 44, 42] [] [[[44]], [[44]], []] where
  sign := fun c hc => by simp at hc; unfold okSign; lia
  len := by decide
  eq := rfl
  ok := ⟨by simp, by simp, trivial⟩
  n := by decide
  b := by decide
  z := by decide
theorem pB : Parts [63, 44, 42] [[46], [44]] [[]] where
  sign := fun c hc => by simp at hc; unfold okSign; lia
  len := by decide
  eq := rfl
  ok := trivial
  n := by decide
  b := by decide
  z := by decide
theorem pC : Parts [42, 53, 44, 42] [] [[[53], [44]], []] where
  sign := fun c hc => by simp at hc; unfold okSign; lia
  len := by decide
  eq := rfl
  ok := ⟨by simp, trivial⟩
  n := by decide
  b := by decide
  z := by decide
theorem pD : Parts [42, 44, 63, 53, 42] [] [[[44], [46], [53]], []] where
  sign := fun c hc => by simp at hc; unfold okSign; lia
  len := by decide
  eq := rfl
  ok := ⟨by simp, trivial⟩
  n := by decide
  b := by decide
  z := by decide
theorem pE : Parts [42, 52, 63, 42] [] [[[52], [46]], []] where
  sign := fun c hc => by simp at hc; unfold okSign; lia
  len := by decide
  eq := rfl
  ok := ⟨by simp, trivial⟩
  n := by decide
  b := by decide
  z := by decide
/-- a step of the law's reader on a written text -/
theorem o_open {X w pl : List Nat} {k f : Nat} (h : (X.drop k).take 6 = open6) (hk : k < X.length) : takesGo X w (f + 1) (pl, k, 0) = takesGo X w f (spread w pl, k + 6, 1) :=
  tk_step hk (by unfold takeStep; rw [if_pos ⟨h, rfl⟩]) (fun e => by subst e; rfl)
theorem o_close {X w pl : List Nat} {k f : Nat} (h : X.getD k 0 = 41) (hk : k < X.length) : takesGo X w (f + 1) (pl, k, 1) = takesGo X w f (pl.take 1, k + 1, 0) :=
  tk_step hk (by unfold takeStep; rw [if_neg (by rintro ⟨_, e⟩; (first | exact none_some e | exact some_none e | (obtain rfl := Option.some.inj e) | cases e)), if_pos ⟨h, rfl⟩]) (fun e => by subst e; rfl)
theorem o_star {X w pl : List Nat} {k f : Nat} (h1 : (X.drop k).take 6 ≠ open6) (h : X.getD k 0 :: behindL X k = [46, 42]) (hk : k < X.length) : takesGo X w (f + 1) (pl, k, 0) = takesGo X w f (spread w pl, k + 2, 2) :=
  tk_step hk (by unfold takeStep; rw [if_neg (fun e => h1 e.1), if_neg (by rintro ⟨_, e⟩; (first | exact none_some e | exact some_none e | (obtain rfl := Option.some.inj e) | cases e)), if_pos ⟨h, rfl⟩]) (fun e => by subst e; rfl)
theorem o_chr {X w pl : List Nat} {k f d s : Nat} (h1 : ¬ ((X.drop k).take 6 = open6 ∧ d = 0)) (h2 : ¬ (X.getD k 0 = 41 ∧ d = 1)) (h3 : ¬ (X.getD k 0 :: behindL X k = [46, 42] ∧ d = 0)) (h4 : ¬ (X.getD k 0 ∈ signs)) (h5 : X.getD k 0 ≠ 92)
    (hs : (X.getD k 0 = 46 ∧ s = 63) ∨ (X.getD k 0 = s ∧ X.getD k 0 ≠ 46 ∧ X.getD k 0 ≠ 63)) (hk : k < X.length) : takesGo X w (f + 1) (pl, k, d) = takesGo X w f (chr w pl s, k + 1, d) :=
  tk_step hk (by
    unfold takeStep
    dsimp only
    rw [if_neg h1, if_neg h2, if_neg h3, if_neg (by rintro (e | ⟨e, _⟩); exact h4 e; exact h5 e), if_neg h5, step_chr X w pl k s _ rfl hs]) (fun e => by subst e; rfl)
theorem okB_ (w : List Nat) : takesL (joinOut [[46], [44]] [[]]) w = fitsL [63, 44, 42] w := by
  rw [takes_made]
  show takesGo [46, 44, 46, 42] w 4 ([0], 0, 0) = _
  rw [o_chr (s := 63) (by decide) (by decide) (by decide) (by decide) (by decide) (by decide) (by decide), o_chr (s := 44) (by decide) (by decide) (by decide) (by decide) (by decide) (by decide) (by decide), o_star (by decide) (by decide) (by decide), tk_end (by decide)]
  exact end_eq (by decide) rfl
theorem okC_ (w : List Nat) : takesL (joinOut [] [[[53], [44]], []]) w = fitsL [42, 53, 44, 42] w := by
  rw [takes_made]
  show takesGo [40, 63, 62, 46, 42, 63, 53, 44, 41, 46, 42] w 11 ([0], 0, 0) = _
  rw [o_open (by decide) (by decide), o_chr (s := 53) (by decide) (by decide) (by decide) (by decide) (by decide) (by decide) (by decide), o_chr (s := 44) (by decide) (by decide) (by decide) (by decide) (by decide) (by decide) (by decide), o_close (by decide) (by decide), o_star (by decide) (by decide) (by decide), tk_end (by decide), spread_take]
  exact end_eq (by decide) rfl
theorem okD_ (w : List Nat) : takesL (joinOut [] [[[44], [46], [53]], []]) w = fitsL [42, 44, 63, 53, 42] w := by
  rw [takes_made]
  show takesGo [40, 63, 62, 46, 42, 63, 44, 46, 53, 41, 46, 42] w 12 ([0], 0, 0) = _
  rw [o_open (by decide) (by decide), o_chr (s := 44) (by decide) (by decide) (by decide) (by decide) (by decide) (by decide) (by decide), o_chr (s := 63) (by decide) (by decide) (by decide) (by decide) (by decide) (by decide) (by decide), o_chr (s := 53) (by decide) (by decide) (by decide) (by decide) (by decide) (by decide) (by decide), o_close (by decide) (by decide), o_star (by decide) (by decide) (by decide), tk_end (by decide), spread_take]
  exact end_eq (by decide) rfl
theorem okE_ (w : List Nat) : takesL (joinOut [] [[[52], [46]], []]) w = fitsL [42, 52, 63, 42] w := by
  rw [takes_made]
  show takesGo [40, 63, 62, 46, 42, 63, 52, 46, 41, 46, 42] w 11 ([0], 0, 0) = _
  rw [o_open (by decide) (by decide), o_chr (s := 52) (by decide) (by decide) (by decide) (by decide) (by decide) (by decide) (by decide), o_chr (s := 63) (by decide) (by decide) (by decide) (by decide) (by decide) (by decide) (by decide), o_close (by decide) (by decide), o_star (by decide) (by decide) (by decide), tk_end (by decide), spread_take]
  exact end_eq (by decide) rfl
theorem okA_ (w : List Nat) : takesL (joinOut [] [[[44]], [[44]], []]) w = fitsL [42, 44, 42, 44, 42] w := by
  rw [takes_made]
  show takesGo [40, 63, 62, 46, 42, 63, 44, 41, 40, 63, 62, 46, 42, 63, 44, 41, 46, 42] w 18 ([0], 0, 0) = _
  rw [o_open (by decide) (by decide), o_chr (s := 44) (by decide) (by decide) (by decide) (by decide) (by decide) (by decide) (by decide), o_close (by decide) (by decide), o_open (by decide) (by decide), o_chr (s := 44) (by decide) (by decide) (by decide) (by decide) (by decide) (by decide) (by decide), o_close (by decide) (by decide), o_star (by decide) (by decide) (by decide), tk_end (by decide), spread_take, spread_take]
  exact end_eq (by decide) rfl
end Mine

open PySem PySem.W PyProof.Rows PySem.Calls
namespace Mine
theorem def28 {D : Wd} (X : Std D) : DefAt D 159 c28 ["script"] (bodyOf 28) :=
  X.defAt 18 17 28 (mod := mLaw) (tok := 575) (code := 158) (dflt := .none) rfl rfl rfl rfl rfl rfl rfl rfl rfl (len_1 fun a => by kernel_rfl) rfl rfl rfl (by decide +kernel) (by decide +kernel) (by decide +kernel) (by decide +kernel) (by decide +kernel) (by decide +kernel)
/-- the law's own values -/
def sizesOf (script : List Int) : List Int := (script.take 2).map fun x => 1 + x.fmod 4
def totalOf (script : List Int) : Int := (script.take 2).sum
def endOf (t : Int) : List Int := if t.fmod 3 = 0 then [0] else if t.fmod 3 = 1 then [127] else []
def groupOf (script : List Int) : List Int := sizesOf script ++ [3, 2] ++ endOf (totalOf script)
def numsOf (script : List Int) : List Int := (script.drop 2).take 3 ++ [7, 1234567, 89, 4500, 12345678, 4501, 89]
def digL (m : Nat) : List Nat := (Nat.toDigits 10 m).map Char.toNat
def rowsOf (script : List Int) : List (List Nat) := (numsOf script).map fun x => digL (x.fmod (10 ^ 8)).toNat
def st28 (script : List Int) (a b c d e f g : Option V) : St := { loc := [some (vI script), a, b, c, d, e], cel := [f, g] }
def stmt28 (i : Nat) : Stmt := hdS ((bodyOf 28).drop i)
theorem str_dig (x : Int) (h : 0 ≤ x) : (Str.ofString (toString x) : Str) = S (digL x.toNat) := by
  obtain ⟨m, rfl⟩ := Int.eq_ofNat_of_zero_le h
  have := PyProof.Rows.text_ofNat m
  rw [show (Int.ofNat m) = ((m : Nat) : Int) from rfl] at this
  rw [this]; rfl
theorem fmod3 (t : Int) : t.fmod 3 = 0 ∨ t.fmod 3 = 1 ∨ t.fmod 3 = 2 := by
  have h1 := Int.fmod_nonneg_of_pos t (b := 3) (by decide)
  have h2 := Int.fmod_lt_of_pos t (b := 3) (by decide)
  lia
theorem endAt (t : Int) : at? [vI [0], vI [127], vI []] (t.fmod 3) = some (vI (endOf t)) := by
  unfold endOf
  rcases fmod3 t with h | h | h <;> rw [h] <;> rfl
theorem fmod8 (x : Int) : 0 ≤ x.fmod (10 ^ 8) ∧ x.fmod (10 ^ 8) < 100000000 := by
  have h1 := Int.fmod_nonneg_of_pos x (b := 10 ^ 8) (by decide)
  have h2 := Int.fmod_lt_of_pos x (b := 10 ^ 8) (by decide)
  exact ⟨h1, by have : (10 : Int) ^ 8 = 100000000 := by decide
                omega⟩
section
variable {D : Wd} (X : Std D) {n : Nat} (script : List Int) (hs : script.length ≤ 1000)
include X hs
theorem law0 : S1 D n c28 (st28 script none none none none none none none) (stmt28 0) .next (st28 script (some (vI (sizesOf script))) (some (.int (totalOf script))) none none none none none) := by
  have hz' := sizeLine_eq
  have ht : sl script none (some 2) = script.take 2 := sl_take script 2
  show S1 D n c28 { loc := [some (vI script), none, none, none, none, none], cel := [none, none] } _ _ _
  refine S1.tupSwap (names := ["sizes", "total"]) (Ws := [vI (sizesOf script), .int (totalOf script)]) (Es.two (Ex.cast (Ex.compM (fun W => match W with | .int x => .int (1 + x.fmod 4) | _ => W) (Ie.list (Ex.sliceI (Ex.l 0) .none (.some Ex.int) (by lia))) (fun W hW => ?_) ?_) ?_) (Ex.cast (Ex.callB (Ex.b X 23 4) (Es.one (Ex.sliceI (Ex.l 0) .none (.some Ex.int) (by lia))) Tn.sum) ?_)) rfl (.cons (Sto.l 2) (.cons (Sto.l 1) .nil)) (by first | decide | (rw [hz']; simp)) (fun env h => by cases env; (first | exact none_some h | exact some_none h | (obtain rfl := Option.some.inj h) | cases h); rfl)
  · obtain ⟨x, hx, rfl⟩ := List.mem_map.mp hW
    exact ⟨Ex.bin Ex.int (Ex.bin (Ex.l 0) Ex.int (T2.modInt (by decide))) T2.addInt, rfl⟩
  · rw [List.length_map]; have := sl_len script none (some 2); lia
  · rw [ht]; unfold sizesOf vI; rw [List.map_map, List.map_map]; rfl
  · rw [ht]; rfl
omit X in
theorem law1 : S1 D n c28 (st28 script (some (vI (sizesOf script))) (some (.int (totalOf script))) none none none none none) (stmt28 1) .next (st28 script (some (vI (sizesOf script))) (some (.int (totalOf script))) none none none (some (vI (groupOf script))) none) := by
  have hz' := sizeLine_eq
  have hl : (sizesOf script).length ≤ 2 := by unfold sizesOf; simp; lia
  have he : (endOf (totalOf script)).length ≤ 1 := by unfold endOf; split; simp; split <;> simp
  show S1 D n c28 { loc := [some (vI script), some (vI (sizesOf script)), some (.int (totalOf script)), none, none, none], cel := [none, none] } _ _ _
  refine S1.assign (W := vI (groupOf script)) (Ex.bin (a := vI (sizesOf script ++ [3, 2])) (b := vI (endOf (totalOf script))) (Ex.bin (Ex.l 1) (Ex.list (Es.two Ex.int Ex.int) rfl (by first | decide | (rw [hz']; simp))) (T2.addL rfl rfl (by rw [List.length_map]; simp; lia) (by unfold vI; rw [List.map_append]; rfl))) (Ex.itemL (Ex.list (Es.cons (Ex.list (Es.one Ex.int) rfl (by first | decide | (rw [hz']; simp))) (Es.two (Ex.list (Es.one Ex.int) rfl (by first | decide | (rw [hz']; simp))) (Ex.list Es.nil rfl (by first | rfl | decide | simp))) (by intros; rfl)) rfl (by first | decide | (rw [hz']; simp))) (Ex.bin (Ex.l 2) Ex.int (T2.modInt (by decide))) (endAt (totalOf script)) (by rcases fmod3 (totalOf script) with h | h | h <;> rw [h] <;> decide)) (T2.addL rfl rfl (by rw [List.length_map, List.length_map]; simp; lia) (by unfold groupOf vI; rw [List.map_append]))) (Sto.k 0)
theorem law2 : S1 D n c28 (st28 script (some (vI (sizesOf script))) (some (.int (totalOf script))) none none none (some (vI (groupOf script))) none) (stmt28 2) .next (st28 script (some (vI (sizesOf script))) (some (.int (totalOf script))) (some (vTs (rowsOf script))) none none (some (vI (groupOf script))) none) := by
  have hz' := sizeLine_eq
  have hsl : sl script (some 2) (some 5) = (script.drop 2).take 3 := sl_nat script 2 5 (by decide)
  show S1 D n c28 { loc := [some (vI script), some (vI (sizesOf script)), some (.int (totalOf script)), none, none, none], cel := [some (vI (groupOf script)), none] } _ _ _
  refine S1.compM 3 (st1 := { loc := [some (vI script), some (vI (sizesOf script)), some (.int (totalOf script)), none, none, none], cel := [some (vI (groupOf script)), none] }) (W := vTs (rowsOf script)) (items := (numsOf script).map .int) (fun W => match W with | .int x => vT (digL (x.fmod (10 ^ 8)).toNat) | _ => W)
    (Ie.list (Ex.bin (Ex.sliceI (Ex.l 0) (.some Ex.int) (.some Ex.int) (by omega)) (Ex.list (Es.cons Ex.int (Es.cons Ex.int (Es.cons Ex.int (Es.cons Ex.int (Es.cons Ex.int (Es.two Ex.int Ex.int) (by intros; rfl)) (by intros; rfl)) (by intros; rfl)) (by intros; rfl)) (by intros; rfl)) rfl (by first | decide | (rw [hz']; simp))) (T2.addL rfl rfl ?_ ?_))) (fun W hW => ?_) ?_ ?_
  · rw [List.length_map, hsl]; simp; omega
  · rw [hsl]; unfold numsOf; rw [List.map_append]; rfl
  · obtain ⟨x, hx, rfl⟩ := List.mem_map.mp hW
    obtain ⟨h1, h2⟩ := fmod8 x
    refine ⟨Ex.cast (Ex.callT (Ex.b X 24 5) (Es.one (Ex.bin (Ex.l 0) (Ex.bin Ex.int Ex.int (T2.powInt (by decide) (by decide) (by decide))) (T2.modInt (by decide)))) (Tn.strInt ?_)) ?_, rfl⟩
    · show (x.fmod (10 ^ 8)).natAbs.log2 < 1920
      have : (x.fmod (10 ^ 8)).natAbs < 2 ^ 27 := by omega
      by_cases h0 : (x.fmod (10 ^ 8)).natAbs = 0
      · rw [h0]; decide
      · exact (Nat.log2_lt h0).mpr (Nat.lt_of_lt_of_le this (Nat.pow_le_pow_right (by decide) (by decide)))
    · show V.str (Str.ofString (toString (x.fmod (10 ^ 8)))) = _
      rw [str_dig _ h1]
  · rw [List.length_map]; unfold numsOf; simp; omega
  · unfold rowsOf vTs; rw [List.map_map, List.map_map]; rfl
end
end Mine

open PySem PySem.W PyProof.Rows PySem.Calls
namespace Mine
theorem key120 {D : Wd} (X : Std D) : keepIn D.K (.ref 120) = true := by rw [X.K]; decide +kernel
theorem key52 {D : Wd} (X : Std D) : keepIn D.K (.ref 52) = true := by rw [X.K]; decide +kernel
theorem key134 {D : Wd} (X : Std D) : keepIn D.K (.ref 134) = true := by rw [X.K]; decide +kernel
theorem key139 {D : Wd} (X : Std D) : keepIn D.K (.ref 139) = true := by rw [X.K]; decide +kernel
theorem key154 {D : Wd} (X : Std D) : keepIn D.K (.ref 154) = true := by rw [X.K]; decide +kernel
/-- a text of the law's: figures and commas -/
structure TextOk (t : List Nat) : Prop where
  ne : t ≠ []
  len : t.length ≤ 40
  sig : ∀ c ∈ t, c = 44 ∨ (48 ≤ c ∧ c ≤ 57)
theorem TextOk.head {t : List Nat} (h : TextOk t) : t.head? ≠ some 32 := fun e => by
  have := h.sig 32 (List.mem_of_mem_head? (by rw [e]; rfl)); lia
theorem TextOk.last {t : List Nat} (h : TextOk t) : t.getLast? ≠ some 32 := fun e => by
  have := h.sig 32 (List.mem_of_getLast? e); omega
theorem commas_pos (t : List Nat) : 1 ≤ commas t := by
  unfold commas Txt.split
  split
  · simp
  · split
    · simp
    · rw [length_partsBetween]; lia
def patOf (t : List Nat) : List Nat := t.map fun c => if c = 44 then 44 else 63
section
variable {D : Wd} (X : Std D) {n : Nat} (script : List Int) {a b : Option V} {g : List Int} {rows ts : List (List Nat)}
include X
/-- if texts != [_law_due(row, grouping) for row in rows]: return False -/
theorem law4 {d e : Option V} (hr : ∀ r ∈ rows, r.length ≤ 100) (hn : rows.length ≤ 1000) (hg : g.length ≤ 20) (hx : ∀ x ∈ g, 0 ≤ x ∧ x ≤ 1000) (heq : ts = rows.map fun r => dueL r g) :
    S1 D (n + 1) c28 (st28 script a b (some (vTs rows)) d e (some (vI g)) (some (vTs ts))) (stmt28 4) .next (st28 script a b (some (vTs rows)) d e (some (vI g)) (some (vTs ts))) := by
  show S1 D (n + 1) c28 { loc := [some (vI script), a, b, some (vTs rows), d, e], cel := [some (vI g), some (vTs ts)] } _ _ _
  refine S1.ite (b := false) (st1 := { loc := [some (vI script), a, b, some (vTs rows), d, e], cel := [some (vI g), some (vTs ts)] }) (Tr.cast (Tr.cmp (b := vTs (rows.map fun r => dueL r g)) (Ex.k 1) (Ex.cast (Ex.compM (fun W => match W with | .str x => vT (dueL x.cps.toList g) | _ => W) (Ie.list (Ex.l 3)) (fun W hW => ?_) (by rw [List.length_map]; lia)) ?_) (T2.neStrs rfl rfl)) (by simp [heq])) (by first | exact fun h => ft_elim h | exact fun h => nil_elim h | exact fun h => nomatch h) (fun _ => Sx.nil)
  · obtain ⟨r, hr', rfl⟩ := List.mem_map.mp hW
    refine ⟨?_, rfl⟩
    show Ex _ _ _ _ _ (vT (dueL (S r).cps.toList g)) _
    rw [S_list]
    exact Ex.callK (Ex.g X 10) (Es.two (Ex.l 0) (Ex.k 0)) ((spec21 X n r g (hr r hr') hg hx).tn rfl) (key120 X)
  · unfold vTs
    rw [List.map_map, List.map_map]
    congr 1
/-- the strips -/
theorem law6 {c d e : Option V} (ht : ∀ t ∈ ts, TextOk t) (hn : ts.length ≤ 1000) : S1 D (n + 1) c28 (st28 script a b c d e (some (vI g)) (some (vTs ts))) (stmt28 6) .next (st28 script a b c d e (some (vI g)) (some (vTs ts))) := by
  have hz' := sizeLine_eq
  show S1 D (n + 1) c28 { loc := [some (vI script), a, b, c, d, e], cel := [some (vI g), some (vTs ts)] } _ _ _
  refine S1.ite (b := false) (st1 := { loc := [some (vI script), a, b, c, d, e], cel := [some (vI g), some (vTs ts)] }) (Tr.cast (Tr.cmp (a := vTs (ts.map strippedL)) (b := vTs (ts.map strippedL)) (Ex.cast (Ex.compM (fun W => match W with | .str x => vT (strippedL x.cps.toList) | _ => W) (Ie.list (Ex.k 1)) (fun W hW => ?_) (by rw [List.length_map]; lia)) ?_) (Ex.cast (Ex.compM (fun W => match W with | .str x => vT (strippedL x.cps.toList) | _ => W) (Ie.list (Ex.k 1)) (fun W hW => ?_) (by rw [List.length_map]; lia)) ?_) (T2.neStrs rfl rfl)) (by first | rfl | decide | simp)) (by first | exact fun h => ft_elim h | exact fun h => nil_elim h | exact fun h => nomatch h) (fun _ => Sx.nil)
  · obtain ⟨t, ht', rfl⟩ := List.mem_map.mp hW
    have hk := ht t ht'
    have hl := hk.len
    refine ⟨?_, rfl⟩
    show Ex _ _ _ _ _ (vT (strippedL (S t).cps.toList)) _
    rw [S_list, ← strip_eq t (commas_pos t)]
    refine Ex.callK (Ex.g X 2) (Es.two (Ex.bin (Ex.bin (Ex.s (l := [32, 32])) (Ex.l 0) (T2.addS (by simp; lia))) (Ex.s (l := [32, 32, 32])) (T2.addS (by simp; lia))) (Ex.cast (Ex.bin (Ex.lenSplit (Ex.b X 19 0) (Ex.l 0) (Ex.s (l := [44])) (by lia)) Ex.int T2.subInt) (b := .int ((commas t - 1 : Nat) : Int)) (by have := commas_pos t; rw [V.int.injEq]; lia))) ((spec5 X n 2 3 (commas t - 1) t hk.head hk.ne hk.last (by lia)).tn rfl) (key52 X)
  · unfold vTs
    rw [List.map_map, List.map_map]
    congr 1
  · obtain ⟨t, ht', rfl⟩ := List.mem_map.mp hW
    refine ⟨?_, rfl⟩
    show Ex _ _ _ _ _ (vT (strippedL (S t).cps.toList)) _
    rw [S_list]
    exact Ex.callK (Ex.g X 12) (Es.one (Ex.l 0)) ((spec23 X n t (by have := (ht t ht').len; lia)).tn rfl) (key134 X)
  · unfold vTs
    rw [List.map_map, List.map_map]
    congr 1
/-- the patterns -/
theorem law8 {c d e : Option V} (ht : ∀ t ∈ ts, TextOk t) (hn : ts.length ≤ 1000) : S1 D n c28 (st28 script a b c d e (some (vI g)) (some (vTs ts))) (stmt28 8) .next (st28 script a b c d (some (vTs (ts.map patOf))) (some (vI g)) (some (vTs ts))) := by
  have hz' := sizeLine_eq
  show S1 D n c28 { loc := [some (vI script), a, b, c, d, e], cel := [some (vI g), some (vTs ts)] } _ _ _
  refine S1.compM 5 (st1 := { loc := [some (vI script), a, b, c, d, e], cel := [some (vI g), some (vTs ts)] }) (W := vTs (ts.map patOf)) (items := ts.map fun x => vT x) (fun W => match W with | .str x => vT (patOf x.cps.toList) | _ => W) (Ie.list (Ex.k 1)) (fun W hW => ?_) (by rw [List.length_map]; lia) ?_
  · obtain ⟨t, ht', rfl⟩ := List.mem_map.mp hW
    have hl := (ht t ht').len
    refine ⟨?_, rfl⟩
    show Ex _ _ _ _ _ (vT (patOf (S t).cps.toList)) _
    rw [S_list]
    refine Ex.cast (Ex.meth (Ex.s (l := [])) Gm.join (Es.one (Ex.cast (Ex.compM (fun W => match W with | .str x => vT (patOf x.cps.toList) | _ => W) (Ie.strS (Ex.l 0)) (fun W hW => ?_) (by rw [List.length_map]; lia)) (b := vTs (t.map fun c => patOf [c])) ?_)) (Tn.join (ls := t.map fun c => patOf [c]) ?_)) ?_
    · obtain ⟨ch, hch, rfl⟩ := List.mem_map.mp hW
      refine ⟨?_, rfl⟩
      show Ex _ _ _ _ _ (vT (patOf (S [ch]).cps.toList)) _
      rw [S_list]
      refine Ex.ite (b := decide (ch = 44)) (st1 := _) (Tr.cast (Tr.cmp (Ex.l 0) (Ex.s (l := [44])) T2.eqS) (by first | rfl | decide | simp)) (fun h => ?_) (fun h => ?_)
      · have : ch = 44 := of_decide_eq_true h
        subst this; exact Ex.l 0
      · have : ¬ ch = 44 := of_decide_eq_false h
        show Ex _ _ _ _ _ (vT (patOf [ch])) _
        rw [show patOf [ch] = [63] by simp [patOf, this]]
        exact Ex.s (l := [63])
    · unfold vTs
      rw [List.map_map, List.map_map]
      congr 1
    congr 1
    · rw [List.map_map]
      have : ∀ l : List Nat, (l.map (List.length ∘ fun c => patOf [c])).sum = l.length := fun l => by
        induction l with
        | nil => rfl
        | cons x r ih => rw [List.map_cons, List.sum_cons, ih]; simp [patOf]; lia
      rw [this]; simp; lia
    · rw [joinL_nil]
      have : ∀ l : List Nat, ((l.map fun c => patOf [c]).flatten : List Nat) = patOf l := fun l => by
        induction l with
        | nil => rfl
        | cons x r ih => rw [List.map_cons, List.flatten_cons, ih]; rfl
      rw [this]
  · unfold vTs
    rw [List.map_map, List.map_map]
    congr 1
end
end Mine

open PySem PySem.W PyProof.Rows PySem.Calls
namespace Mine
theorem InstIn.at {h : Heap} {x C : Addr} {v : Value} (X : InstIn h x C v) : ∃ ox od, InstAt h x ox C od := by obtain ⟨dx, a, b⟩ := X; exact ⟨⟨.ref C, some dx, .plain, #[some v]⟩, some emptyDict, a, rfl, rfl, b⟩
theorem key97 {D : Wd} (X : Std D) : keepIn D.K (.ref 97) = true := by rw [X.K]; decide +kernel
def pairsV (ts : List (List Nat)) : V := .list ((List.range ts.length).map fun k => vKp (ts.getD k []) k)
def ordV (ts : List (List Nat)) (p : Array Nat) : V := .list (p.toList.map fun k => vKp (ts.getD k []) k)
def sortArg : Expr := match stm7 with
  | .Assign _ (.Call _ (e :: _) _ _) _ => e
  | _ => .Constant .none 0 ⟨0, 0, 0, 0⟩
def stm7Pos : Pos := match stm7 with
  | .Assign _ (.Call _ _ _ p) _ => p
  | _ => ⟨0, 0, 0, 0⟩
def cmpPos : Pos := match stm7 with
  | .Assign _ (.Call _ _ (k :: _) _) _ => (match k.value with
    | .Call _ _ _ p => p
    | _ => ⟨0, 0, 0, 0⟩)
  | _ => ⟨0, 0, 0, 0⟩
def kwPos : Pos := match stm7 with
  | .Assign _ (.Call _ _ (k :: _) _) _ => k.pos
  | _ => ⟨0, 0, 0, 0⟩
def stm7P : Pos := match stm7 with
  | .Assign _ _ p => p
  | _ => ⟨0, 0, 0, 0⟩
theorem stm7_eq : stm7 = .Assign [.Name "ordered" ⟨244, 4, 244, 11⟩] (.Call (.Name "sorted" ⟨244, 14, 244, 20⟩) [sortArg] [⟨some "key", .Call (.Name "cmp_to_key" ⟨244, 68, 244, 78⟩) [lam2] [] cmpPos, kwPos⟩] stm7Pos) stm7P := by kernel_rfl
section
variable {D : Wd} (X : Std D) {n : Nat} (script : List Int) {g : List Int} {rows ts : List (List Nat)}
include X
theorem sortArg_ex {a b d e : Option V} (hl : rows.length = ts.length) (hn : ts.length ≤ 1000) : Ex D n c28 (st28 script a b (some (vTs rows)) d e (some (vI g)) (some (vTs ts))) sortArg (pairsV ts) (st28 script a b (some (vTs rows)) d e (some (vI g)) (some (vTs ts))) := by
  have hz' := sizeLine_eq
  show Ex D n c28 { loc := [some (vI script), a, b, some (vTs rows), d, e], cel := [some (vI g), some (vTs ts)] } _ _ _
  refine Ex.cast (Ex.compM (items := (rangeL 0 rows.length).map .int) (fun W => match W with | .int k => vKp (ts.getD k.toNat []) k.toNat | _ => W) (Ie.range1 (Ex.b X 21 2) (Ex.cast (Ex.callB (Ex.b X 19 0) (Es.one (Ex.l 3)) (Tn.lenL (by rw [List.length_map, hl]; lia))) (b := .int (rows.length : Nat)) (by rw [List.length_map])) (by rw [hl]; lia)) (fun W hW => ?_) ?_) ?_
  · rw [rangeL_nat, hl] at hW
    obtain ⟨k, hk, rfl⟩ := List.mem_map.mp hW
    have hk' := List.mem_range.mp hk
    refine ⟨Ex.list (Es.two (Ex.itemL (Ex.k 1) (Ex.l 0) (getT hk') (by lia)) (Ex.l 0)) rfl (by first | decide | (rw [hz']; simp)), rfl⟩
  · rw [rangeL_nat, hl]; simp; lia
  · rw [rangeL_nat, hl, List.map_map]; rfl
omit X in
theorem vfs_perm {B : Heap} {m : Nat} {gv : Nat → V} {vs : List Value} (h : VFs B vs ((List.range m).map gv)) : ∀ l : List Nat, (∀ k ∈ l, k < m) → VFs B (l.map fun i => vs.getD i .none) (l.map gv)
  | [], _ => .nil
  | k :: l, hl => by
    have hk := hl k List.mem_cons_self
    obtain ⟨v, hv, q⟩ := h.get (i := k) (x := gv k) (by rw [List.getElem?_map, List.getElem?_range hk]; rfl)
    refine .cons ?_ (vfs_perm h l fun x hx => hl x (List.mem_cons_of_mem _ hx))
    show VF B (vs.getD k .none) (gv k)
    rw [List.getD_eq_getElem?_getD, hv]
    exact q
theorem law7 {a b d e : Option V} (hl : rows.length = ts.length) (h2 : 2 ≤ ts.length) (h64 : ts.length < 64) {A : Around} {env : Env} {B : Heap} {s : Shared} {ps : Array Value} {rest : List (Addr × Obj)} {ca p : List Addr} {Q : Flow → Shared → Prop} {E : Value → Shared → Prop}
    (hA : Room (n + 12) A) (hcode : env.code = .ref 158) (hqual : env.qual = "law.<locals>.") (hst : statOk (B.get? 2) = true) (htab : TabOk B ps)
    (R : Rep D c28 env B s.heap ((156, tabObj ps) :: (92, tabObj #[]) :: rest) ca p (st28 script a b (some (vTs rows)) d e (some (vI g)) (some (vTs ts))))
    (H : ∀ B' p' s' ps' qs' pm, Nx s s' B B' p p' → Pre0 ts.length pm ts.length → Asc (ltT ts) pm ts.length → Rep D c28 env B' s'.heap ((156, tabObj ps') :: (92, tabObj qs') :: rest) ca p' (st28 script a b (some (vTs rows)) (some (ordV ts pm)) e (some (vI g)) (some (vTs ts))) → Q .next s') :
    wpAny (model D.prog D.w) A (exec (stmt28 7) env) Q E s := by
  show wpAny _ A (exec stm7 env) _ _ _
  rw [stm7_eq]
  have hswap : swapsWith (.Call (.Name "sorted" ⟨244, 14, 244, 20⟩) [sortArg] [⟨some "key", .Call (.Name "cmp_to_key" ⟨244, 68, 244, 78⟩) [lam2] [] cmpPos, kwPos⟩] stm7Pos) (some (.Name "ordered" ⟨244, 4, 244, 11⟩)) stm7P.line env = pure false := rfl
  have hev : eval (.Call (.Name "sorted" ⟨244, 14, 244, 20⟩) [sortArg] [⟨some "key", .Call (.Name "cmp_to_key" ⟨244, 68, 244, 78⟩) [lam2] [] cmpPos, kwPos⟩] stm7Pos) env = (do callWith stm7Pos (← eval (.Name "sorted" ⟨244, 14, 244, 20⟩) env) [] (backTo stm7Pos (starEach [sortArg] env)) (backToKw stm7Pos (keywordEach [⟨some "key", .Call (.Name "cmp_to_key" ⟨244, 68, 244, 78⟩) [lam2] [] cmpPos, kwPos⟩] env))) := rfl
  refine wpAny_Assign_Name ?_ hswap
  rw [hev]
  refine wpAny_bind ((Ex.b (D := D) (n := n + 12) (c := c28) X 27 8 (x := "sorted") (pos := ⟨244, 14, 244, 20⟩)) A env B s _ ca p _ E hA R fun v B1 p1 s1 n1 R1 q1 => ?_)
  cases (show VF B1 v (.raw (.builtin "sorted")) from q1)
  refine callWith_kw (wpAny_items_cons (sortArg_ex X script hl (by lia) A env B1 s1 _ ca p1 _ E hA R1 fun l B2 p2 s2 n2 R2 q2 => wpAny_items_nil (kws_cons (Call_ ?_ (by rfl)))) (by rfl)) (by rfl) (by rfl) (by rfl) (by rfl)
  refine (Ex.g (D := D) (n := n + 12) (c := c28) X 7 (x := "cmp_to_key") (pos := ⟨244, 68, 244, 78⟩)) A env B2 s2 _ ca p2 _ E hA R2 fun v3 B3 p3 s3 n3 R3 q3 => ?_
  cases (show VF B3 v3 (.raw (.ref 97)) from q3)
  have hbig : 160 ≤ s3.heap.objs.size := Heap.lt_size (R3.ext _ _ (R3.good.k 159 _ (by rw [X.K]; rfl)))
  have n123 := (n1.trans n2).trans n3
  have htab3 : TabOk B3 ps := htab.imp id fun ⟨c', e', r⟩ => ⟨c', e', r.keeps n123.ext⟩
  have hTr : TriplesOk ps.toList := by
    rcases htab3 with rfl | ⟨c', rfl, _⟩
    · exact True.intro
    · exact True.intro
  have hCA : codeAmong (lamOf lam2).2.2.2 ps.toList = none := by
    rcases htab3 with rfl | ⟨c', rfl, _⟩
    · rfl
    · kernel_rfl
  have hlam : lam2 = .Lambda (lamOf lam2).1 (lamOf lam2).2.1 (lamOf lam2).2.2.1 (lamOf lam2).2.2.2 := by kernel_rfl
  refine callWith_K R3.good.k (key97 X) (wpAny_items_cons ?_ (by rfl)) (by rfl) (by rfl)
  rw [hlam]
  refine lam_make X (F := []) (ps := ps) R3 hcode hTr (by kernel_rfl) (by kernel_rfl) (by rw [hqual]; kernel_rfl) (.inl hCA) fun L c' ctv B4 s4 ps4 hL _ hca hrec n4 R4 hfo => ?_
  change Rep D c28 env B4 s4.heap ((156, tabObj ps4) :: (92, tabObj #[]) :: rest) ca p3 _ at R4
  refine wpAny_items_nil ⟨R4.kh, ?_⟩
  have n4' := n123.trans n4
  have hst4 : statOk (s4.heap.get? 2) = true := stat_keep (stat_keep hst n4'.ext) R4.ext
  refine cmp_call X hA.handled (by have := hA.depth; lia) R4.good R4.ext (R4.held _ (.tail _ (.head _))) hst4 fun C cc h5 t5 kc hcc keep5 tab5 sz5 => ?_
  have hl4 := q2.fz rfl
  cases hl4 with | list hG hvs => ?_
  rename_i la vs
  have hvl : vs.length = ts.length := by rw [hvs.length]; simp
  obtain ⟨cC, e92⟩ := tab5
  obtain ⟨B5, e5, w5, g5, R5⟩ := Rep.evolve (hs := [(92, tabObj #[])]) (rs := (156, tabObj ps4) :: rest) (h' := h5) (R4.perm (List.Perm.swap ..)) [(92, tabObj #[rawInt clsPos.line, rawInt clsPos.col, .ref cC])] (fun b o hb e => keep5 b o (fun q => hb (by rw [q]; exact .head _)) e) (fun q hq => by rw [List.mem_singleton.mp hq]; exact e92) (by first | rfl | decide | simp) (fun b hb => .inl hb)
  have n5 : Nx s4 { s4 with heap := h5, toks := t5 } B4 B5 p3 p3 := ⟨e5, w5, sz5, .refl _, rfl, rfl, .refl _, fun _ h => .inl h⟩
  obtain ⟨ns, md, T0, t0, tq, kf, x, x', y, y', z, KX⟩ := kc
  have hG5 : LstAt B5 la vs := isList_ext ((n3.ext.trans n4.ext).trans e5) hG
  have hvs5 := hvs.ext ((n3.ext.trans n4.ext).trans e5)
  have eL5 := e5 _ _ hfo
  have hrec5 := hrec.keeps e5
  have hg5 : Good D B5 := R5.good
  refine kws_nil ?_
  show wpAny _ A (call (.builtin "sorted") [.ref la] [(("key" : Str), .ref C)]) _ _ _
  have hu : A.in1.in1.units < cLine := by show A.units + 1 + 1 < _; have := hA.units; lia
  have hA4 : Room 4 A.in1.in1 := ⟨hA.handled, by show A.depth + 4 < _; have := hA.depth; lia, by show A.units + 1 + 1 + 8 * 4 + 8 < _; have := hA.units; lia⟩
  refine sort_key (vs := vs) (lt := ltT ts) (weakT ts) (isList_ext R5.ext hG5).is (by lia) (by lia) (fun s' v nw hv Q' hQ => ?_) (fun s' i j xi xj nw hi hj Ii Ij C' hC => ?_) fun Dl cl pm s' nw hD eD hp ha => ?_
  · have KX' : KIn s'.heap cc C ns md T0 t0 tq kf x x' y y' z := ⟨nw.keep _ _ KX.cls, nw.keep _ _ KX.ns, nw.keep _ _ KX.md, fun i hi => (KX.m i hi).keeps nw.keep⟩
    exact inst_make KX' ((hg5.lim.keeps R5.ext).keeps nw.keep) (by show A.depth + 1 < _; have := hA.depth; lia) fun xi h' t' kp ii sz => hQ xi _ ⟨kp, sz, rfl, rfl, .refl _⟩ ii
  · have KX' : KIn s'.heap cc C ns md T0 t0 tq kf x x' y y' z := ⟨nw.keep _ _ KX.cls, nw.keep _ _ KX.ns, nw.keep _ _ KX.md, fun i hi => (KX.m i hi).keeps nw.keep⟩
    obtain ⟨K, KI, P⟩ := kp_of KX'
    obtain ⟨oc, eoc, doc⟩ := hcc
    have vf : ∀ i, i < vs.length → VF B5 (vs.getD i .none) (vKp (ts.getD i []) i) := fun i hi => by
      have := vfs_perm hvs5 [i] (fun k hk => by rw [List.mem_singleton.mp hk, ← hvl]; exact hi)
      cases this with | cons h _ => exact h
    rw [keyLt'_oneType, oneLt'_eq]
    simp only [if_true]
    refine wpAny_bind (wpAny_cRoomFor hu ?_)
    obtain ⟨ox, od, I'⟩ := Ii.at
    refine wpAny_bind (ifBound_K KI I' P.f_lt (by unfold isFn; rw [P.t1']; rfl) ?_)
    refine lt_call X hA4 hg5 (fun b o e => nw.keep b o (R5.ext b o e)) KX' ⟨oc, nw.keep _ _ eoc, doc⟩ (Nat.le_trans hbig hL) eL5 hrec5 Ii Ij (vf i hi) (vf j hj) fun s'' n' => ?_
    exact wpAny_truthy_bool (hC s'' n')
  · rw [hvl] at hp ha
    obtain ⟨B6, e6, w6, g6, R6⟩ := R5.grow (h' := s'.heap) nw.keep
    have n6 : Nx { s4 with heap := h5, toks := t5 } s' B5 B6 p3 p3 := ⟨e6, w6, nw.size, .refl _, nw.drawn, nw.os, nw.gens, fun _ h => .inl h⟩
    have earr : (pm.map fun i => vs.getD i .none) = (pm.toList.map fun i => vs.getD i .none).toArray := by
      apply Array.toList_inj.mp
      rw [Array.toList_map]
    rw [earr] at eD
    have hlist : LstAt B6 Dl (pm.toList.map fun i => vs.getD i .none) := ⟨cl, g6 Dl _ hD eD⟩
    have hval : VF B6 (.ref Dl) (ordV ts pm) := .list hlist (vfs_perm (hvs5.ext e6) pm.toList fun k hk => by
      obtain ⟨m, hm⟩ := List.getElem?_of_mem hk
      rw [Array.getElem?_toList] at hm
      have hml : m < ts.length := by rw [← hp.size]; exact (Array.getElem?_eq_some_iff.mp hm).1
      have := hp.low m hml
      rwa [gp_of hm] at this)
    exact (Sto.l (D := D) (n := n + 12) (c := c28) (W := ordV ts pm) 4 (x := "ordered")) A env B6 s' _ ca p3 _ E (.ref Dl) hA R6 (.of hval) fun s7 n7 R7 => H B6 p3 s7 ps4 _ pm (((n4'.trans n5).trans n6).trans n7) hp ha (R7.perm (List.Perm.swap ..))
end
end Mine

open PySem PySem.W PyProof.Rows PySem.Calls
namespace Mine
def iter3 : Expr := match cmp3 with
  | .ListComp _ (⟨_, it, _, _⟩ :: _) _ _ => it
  | e => e
def pos3 : Pos := match cmp3 with
  | .ListComp _ _ _ p => p
  | _ => ⟨0, 0, 0, 0⟩
def tpos3 : Pos := match cmp3 with
  | .ListComp _ (⟨.Name _ p, _, _, _⟩ :: _) _ _ => p
  | _ => ⟨0, 0, 0, 0⟩
def spos3 : Pos × Pos := match stmt28 3 with
  | .Assign (.Name _ p :: _) _ q => (p, q)
  | _ => (⟨0, 0, 0, 0⟩, ⟨0, 0, 0, 0⟩)
theorem cmp3_eq : cmp3 = .ListComp (cmpElt cmp3) [⟨.Name "row" tpos3, iter3, [], 0⟩] (cmpScope cmp3) pos3 := by kernel_rfl
theorem stmt3_eq : stmt28 3 = .Assign [.Name "texts" spos3.1] cmp3 spos3.2 := by kernel_rfl
section
variable {D : Wd} (X : Std D) {n : Nat} (script : List Int) {g ys : List Int} {fin : Bool} {rows ts : List (List Nat)}
include X
theorem law3 {a b d e : Option V} (hY : GY g none ys fin) (hf : fin = true ∨ 11 ≤ ys.length) (hr : ∀ r ∈ rows, r ≠ [] ∧ r.length ≤ 100) (hn : rows.length ≤ 1000) {A : Around} {env : Env} {B : Heap} {s : Shared} {ps : Array Value} {rest : List (Addr × Obj)} {ca p : List Addr} {Q : Flow → Shared → Prop} {E : Value → Shared → Prop}
    (hA : Room (n + 3) A) (hcode : env.code = .ref 158) (hqual : env.qual = "law.<locals>.") (htab : TabOk B ps)
    (R : Rep D c28 env B s.heap ((156, tabObj ps) :: rest) ca p (st28 script a b (some (vTs rows)) d e (some (vI g)) none))
    (H : ∀ B' p' s' ps', Nx s s' B B' p p' → TabOk B' ps' → Rep D c28 env B' s'.heap ((156, tabObj ps') :: rest) ca p' (st28 script a b (some (vTs rows)) d e (some (vI g)) (some (vTs (rows.map fun r => redL (partsOut ys r))))) → Q .next s') :
    wpAny (model D.prog D.w) A (exec (stmt28 3) env) Q E s := by
  have hz' := sizeLine_eq
  rw [stmt3_eq]
  have hswap : swapsWith cmp3 (some (.Name "texts" spos3.1)) spos3.2.line env = pure false := by
    have h := R.scope
    (first | exact none_some env | exact some_none env | (obtain rfl := Option.some.inj env) | cases env)
    (first | exact none_some h | exact some_none h | (obtain rfl := Option.some.inj h) | cases h)
    kernel_rfl
  refine wpAny_Assign_Name ?_ hswap
  rw [cmp3_eq]
  refine compT (D := D) (n := n + 3) (c := c28) (st1 := st28 script a b (some (vTs rows)) d e (some (vI g)) none) (items := rows.map fun r => vT r) (Us := (rows.map fun r => redL (partsOut ys r)).map fun t => vT t) (J := J1 rest) (J1_ext rest) (Ie.list (Ex.l 3)) (by constructor <;> decide +kernel) (by simp; lia) (by intros; rfl) (fun i W hW => ?_) (by first | rfl | decide | simp) hA ⟨ps, rfl, htab⟩ R fun v B' p' s' rs' hJ n' R' q => ?_
  · rw [List.getElem?_map] at hW
    obtain ⟨r, hr', rfl⟩ := Option.map_eq_some_iff.mp hW
    obtain ⟨h1, h2⟩ := hr r (List.mem_of_getElem? hr')
    refine ⟨vT (redL (partsOut ys r)), by rw [List.getElem?_map, List.getElem?_map, hr']; rfl, rfl, ?_⟩
    rw [hcode, hqual]
    exact elt_texts X n hY hf h1 h2 rfl
  · obtain ⟨ps', rfl, ht⟩ := hJ
    exact (Sto.k (D := D) (n := n + 3) (c := c28) (W := vTs (rows.map fun r => redL (partsOut ys r))) 1 (x := "texts")) A env B' s' _ ca p' _ E v hA R' q fun s7 n7 R7 => H B' p' s7 ps' (n'.trans n7) ht R7
end
end Mine

open PySem PySem.W PyProof.Rows PySem.Calls
namespace Mine
abbrev lstO (acc : Array Value) (c : Nat) : Obj := { cls := .type "list", dict := none, data := .seq acc c, slots := #[] }
section
variable {prog : Program} {w : World} {A : Around} {E : Value → Shared → Prop} {ga S : Addr} {J : Nat → Array Value → Shared → Prop} {Qe : Array Value → Shared → Prop}
def StepsOn (prog : Program) (w : World) (A : Around) (E : Value → Shared → Prop) (ga S : Addr) (J : Nat → Array Value → Shared → Prop) (Qe : Array Value → Shared → Prop) : Prop :=
  ∀ k acc s', J k acc s' → wpAny (model prog w) A (pyNext (.ref ga)) (fun o s'' => (∃ c, s''.heap.get? S = some (lstO acc c)) ∧ match o with
    | none => Qe acc s''
    | some v => acc.size < 1000 ∧ ∀ h' c', Heap.SameBut S s''.heap h' → h'.get? S = some (lstO (acc.push v) c') → ∃ k', k' < k ∧ J k' (acc.push v) { s'' with heap := h' }) E s'
theorem extend_steps {R : Result → Shared → Prop} {res : Value} (st : StepsOn prog w A.in1 E ga S J Qe) (hq : ∀ acc s', Qe acc s' → R (.ok (.ret res)) s') (he : ∀ e s', E e s' → R (.error e) s') :
    ∀ k acc s', J k acc s' → codeAny (model prog w) A (.builtin "list.extend.loop" ⟨[.ref S, .ref ga, res], []⟩) R s' := by
  intro k
  induction k using Nat.strongRecOn with
  | _ k ih =>
    intro acc s' hJ
    refine codeAny_builtin F.entry_extend_loop ?_
    rw [Around.under_plainId F.plain_extend_loop _]
    show wpAny _ A.in1 (pyNext (.ref ga) >>= _) _ _ s'
    refine wpAny_bind (wpAny_mono (st k acc s' hJ) (fun o s'' ho => ?_) fun e s'' h => he e s'' h)
    obtain ⟨⟨c, hS⟩, ho⟩ := ho
    cases o with
    | none => exact wpAny_pure (hq acc s'' ho)
    | some v =>
      obtain ⟨hz, ho⟩ := ho
      show wpAny _ A.in1 (updateSeq S (·.push v) >>= _) _ _ _
      have hz' := sizeLine_eq
      refine wpAny_bind (wpAny_updateSeq hS rfl (wpAny_pure ⟨plainId_quiet F.plain_extend_loop _, ?_⟩) (by rw [hz']; lia) (by show (acc.push v).size ≤ sizeLine + 1; rw [Array.size_push, hz']; lia))
      have hc2 := get?_update_seq (c := "list") (n := c) hS (·.push v)
      obtain ⟨k', hk', hJ'⟩ := ho _ _ (Heap.SameBut.update _ _ _) hc2
      exact ih k' hk' _ _ hJ'
theorem call_list_steps {g : Nat} {s : Shared} {Q : Value → Shared → Prop} (hgen : s.heap.IsGen ga g) (st : StepsOn prog w A.in1.in1 E ga s.heap.objs.size J (fun acc s' => Q (.ref s.heap.objs.size) s'))
    (start : ∀ h' c', (∀ b o, s.heap.get? b = some o → h'.get? b = some o) → s.heap.objs.size < h'.objs.size → h'.get? s.heap.objs.size = some (lstO #[] c') → ∃ k, J k #[] { s with heap := h' }) : wpAny (model prog w) A (call (.type "list") [.ref ga]) Q E s := by
  generalize hSs : s.heap.objs.size = S at st start ⊢
  have hga : ga < s.heap.objs.size := by obtain ⟨o, _, _, ho, _⟩ := hgen; exact Heap.lt_size ho
  have hSI : S ≠ ga := by rw [← hSs]; exact Nat.ne_of_gt hga
  refine callType_codes (Q₁ := fun obj s₁ => obj = .ref S ∧ s₁ = { s with heap := s.heap.push { cls := .type "list", data := .seq #[] } }) F.called_list (F.typeCall_list_1 _) F.entry_list_init
    (code_list_new _ ⟨by rw [hSs], rfl⟩) fun obj s₁ h₁ => ?_
  obtain ⟨rfl, rfl⟩ := h₁
  have hS : (s.heap.push { cls := .type "list", data := .seq #[] }).get? S = some { cls := .type "list", data := .seq #[] } := by rw [← hSs]; exact Heap.get?_push_size _ rfl
  have up : ∀ b o, s.heap.get? b = some o → (s.heap.push { cls := .type "list", data := .seq #[] }).get? b = some o := fun b o e => Heap.get?_push_of_some _ e
  have hsz : S < (s.heap.push { cls := .type "list", data := .seq #[] }).objs.size := by rw [Heap.size_push, hSs]; exact Nat.lt_succ_self _
  have lt : ∀ b o, s.heap.get? b = some o → b ≠ S := fun b o e => by rw [← hSs]; exact Nat.ne_of_lt (Heap.lt_size e)
  refine ⟨⟨_, hS, rfl⟩, F.args_list_init_2 _ _, ?_⟩
  show wpAny _ A.in1.in1 (do let old ← Builtin.List.listItems (.ref S); Builtin.List.listUpdate (.ref S) (fun _ => #[]); letGo old.toList.reverse; Builtin.List.listExtendWith (.ref S) (.ref ga) .none) _ _ _
  refine wpAny_bind ?_
  unfold Builtin.List.listItems
  refine wpAny_bind (wpAny_seqItems hS rfl (wpAny_pure ?_))
  show wpAny _ A.in1.in1 (updateSeq S (fun _ => #[]) >>= fun _ => letGo (#[] : Array Value).toList.reverse >>= fun _ => Builtin.List.listExtendWith (.ref S) (.ref ga) .none) _ _ _
  refine wpAny_bind (wpAny_updateSeq hS rfl ?_)
  have hS₂ := Heap.get?_update_self (Obj.mapSeq (fun _ => (#[] : Array Value))) hS rfl
  have up2 : ∀ b o, s.heap.get? b = some o → ((s.heap.push { cls := .type "list", data := .seq #[] }).update S (Obj.mapSeq (fun _ => (#[] : Array Value)))).get? b = some o := fun b o e => (Heap.get?_update_other _ _ (Ne.symm (lt b o e))).trans (up b o e)
  have hsz2 : S < ((s.heap.push { cls := .type "list", data := .seq #[] }).update S (Obj.mapSeq (fun _ => (#[] : Array Value)))).objs.size := by rw [Heap.size_after_update]; exact hsz
  refine wpAny_bind (wpAny_letGo ?_)
  generalize (s.heap.push { cls := .type "list", data := .seq #[] }).update S (Obj.mapSeq (fun _ => (#[] : Array Value))) = h2 at hS₂ up2 hsz2 ⊢
  have hT2 : ∀ t', ({ s with heap := h2, toks := t' } : Shared).TypeIs (.ref ga) "generator" := fun _ => Heap.IsGen.typeIs (s := { s with heap := h2 }) (hgen.keeps up2)
  unfold Builtin.List.listExtendWith
  refine wpAny_bind (wpAny_typeOf (hT2 _) ?_)
  have h1 : Builtin.List.listSameRef (.ref S) (.ref ga) = false := by simp [Builtin.List.listSameRef, hSI]
  have h2' : (Value.type "generator" == Value.type "list") = false := by decide
  have h3 : (Value.type "generator" == Value.type "tuple") = false := by decide
  simp only [h1, h2', h3, Bool.or_false, Bool.false_eq_true, if_false]
  refine wpAny_bind (wpAny_pyIter_gen (hgen.keeps up2) ?_)
  refine wpAny_bind (wpAny_holding ?_)
  unfold Builtin.List.listLengthHint
  refine wpAny_bind (wpAny_specialOf (hT2 _) F.gen_no_len ?_)
  show wpAny _ A.in1.in1 (specialOf (Value.ref ga) (Str.ofString "__length_hint__") >>= _) _ _ _
  refine wpAny_bind (wpAny_specialOf (hT2 _) F.gen_no_hint ?_)
  refine wpAny_pure ?_
  show wpAny _ A.in1.in1 (rule "list.extend.makes-room" >>= fun _ => Builtin.List.listTouch (.ref S) >>= fun _ => again (.builtin "list.extend.loop" ⟨[.ref S, .ref ga, .none], []⟩)) _ _ _
  refine wpAny_bind (wpAny_rule ?_)
  refine wpAny_bind ?_
  show wpAny _ A.in1.in1 (updateSeq S (·.push .none) >>= fun _ => updateSeq S (·.pop)) _ _ _
  refine wpAny_bind (wpAny_updateSeq hS₂ rfl ?_)
  have hS₃ := Heap.get?_update_self (Obj.mapSeq (·.push Value.none)) hS₂ rfl
  refine wpAny_updateSeq (hz := by seq_fits) hS₃ rfl ?_
  have hS₄ : ∃ c', ((h2.update S (Obj.mapSeq (·.push Value.none))).update S (Obj.mapSeq (·.pop))).get? S = some (lstO #[] c') := ⟨_, Heap.get?_update_self (Obj.mapSeq (·.pop)) hS₃ rfl⟩
  obtain ⟨c4, hS₄⟩ := hS₄
  have up4 : ∀ b o, s.heap.get? b = some o → ((h2.update S (Obj.mapSeq (·.push Value.none))).update S (Obj.mapSeq (·.pop))).get? b = some o :=
    fun b o e => (Heap.get?_update_other _ _ (Ne.symm (lt b o e))).trans ((Heap.get?_update_other _ _ (Ne.symm (lt b o e))).trans (up2 b o e))
  have hsz4 : S < ((h2.update S (Obj.mapSeq (·.push Value.none))).update S (Obj.mapSeq (·.pop))).objs.size := by rw [Heap.size_after_update, Heap.size_after_update]; exact hsz2
  obtain ⟨k, hJ⟩ := start _ _ up4 hsz4 hS₄
  exact wpAny_pure ⟨plainId_quiet F.plain_extend_loop _, extend_steps st (fun acc s' h => ⟨rfl, h⟩) (fun e s' h => h) k #[] _ hJ⟩
end
end Mine

open PySem PySem.W PyProof.Rows PySem.Calls
namespace Mine
theorem Ny.refl (s : Shared) (B : Heap) : Ny s s B B := ⟨.refl B, fun _ _ e => .inl e, Nat.le_refl _, rfl, rfl⟩
theorem Ny.trans {s s' s'' : Shared} {B B' B'' : Heap} (x : Ny s s' B B') (y : Ny s' s'' B' B'') : Ny s s'' B B'' :=
  ⟨x.ext.trans y.ext, fun b o e => (y.new b o e).elim (fun e' => x.new b o e') fun e' => .inr (Nat.le_trans x.size e'), Nat.le_trans x.size y.size, y.drawn.trans x.drawn, y.os.trans x.os⟩
section
variable {D : Wd} {c : Cx} {st : St} {A : Around} {envc : Env} {B B0 : Heap} {s : Shared} {rs hold : List (Addr × Obj)} {ca p : List Addr} {ga C : Addr} {g : Nat} {all ys : List Int} {g0 : Array GenState} {Q : Value → Shared → Prop} {E : Value → Shared → Prop}
theorem listGen (hh : A.handled = none) (hd : A.depth < recursionLimit) (R : Rep D c envc B s.heap (hold ++ rs) ca p st) (hgen : B.IsGen ga g) (base : Ext B0 B) (run : GRun D A.in1.in1 g C B0 all true ys hold s) (gx : GExt g0 s.gens) (hle : g0.size ≤ g) (hy : ys.length ≤ 900)
    (H : ∀ Sl s' B', Ny s s' B B' → GExt g0 s'.gens → Rep D c envc B' s'.heap rs ca p st → VF B' (.ref Sl) (vI ys) → Q (.ref Sl) s') : wpAny (model D.prog D.w) A (call (.type "list") [.ref ga]) Q E s := by
  refine call_list_steps (g := g) (hgen.keeps R.ext) (J := fun k acc s' => ∃ B' hold' ys' dn cc, k = ys'.length ∧ ys = dn ++ ys' ∧ VFs B' acc.toList (dn.map .int) ∧ Ny s s' B B' ∧ GExt g0 s'.gens ∧ Rep D c envc B' s'.heap (hold' ++ ((s.heap.objs.size, lstO acc cc) :: rs)) ca p st ∧ GRun D A.in1.in1 g C B0 all true ys' hold' s') (fun k acc s' hJ => ?_) fun h' c' up sz eS => ?_
  · obtain ⟨B', hold', ys', dn, cc, hk, hys, hv, n1, gx1, R1, run1⟩ := hJ
    have hgen1 : B'.IsGen ga g := hgen.keeps n1.ext
    cases ys' with
    | nil =>
      refine gend (A := A.in1.in1) hh hd R1 hgen1 (base.trans n1.ext) run1 gx1 hle fun s2 B2 n2 gx2 R2 => ⟨⟨cc, R2.held _ (.head _)⟩, ?_⟩
      obtain ⟨B3, e3, w3, g3, R3⟩ := R2.freeze
      have hS : LstAt B3 s.heap.objs.size acc.toList := ⟨cc, by rw [g3]⟩
      rw [List.append_nil] at hys
      subst hys
      have n12 := n1.trans n2
      exact H _ s2 B3 ⟨n12.ext.trans e3, fun b o e => (w3 b o e).elim (n12.new b o) fun z => .inr (Nat.le_of_eq z.symm), n12.size, n12.drawn, n12.os⟩ gx2 R3 (.list hS ((hv.ext n2.ext).ext e3))
    | cons y ys' =>
      refine gnext (A := A.in1.in1) hh hd R1 hgen1 (base.trans n1.ext) run1 gx1 hle fun t s2 B2 hold2 n2 gx2 R2 run2 => ?_
      refine ⟨⟨cc, R2.held _ (List.mem_append_right _ (.head _))⟩, ?_, fun h' c' hs e => ⟨ys'.length, by rw [hk]; exact Nat.lt_succ_self _, ?_⟩⟩
      · have := hv.length
        rw [Array.length_toList, List.length_map] at this
        have h2 : ys.length = dn.length + (y :: ys').length := by rw [hys, List.length_append]
        lia
      · refine ⟨B2, hold2, ys', dn ++ [y], c', rfl, by rw [hys]; simp, ?_, ?_, gx2, ?_, run2.keep rfl⟩
        · rw [Array.toList_push, List.map_append]
          exact (hv.ext n2.ext).append (.cons (.int y t) .nil)
        · exact n1.trans ⟨n2.ext, n2.new, Nat.le_trans n2.size (Nat.le_of_eq hs.1.symm), n2.drawn, n2.os⟩
        · exact ((R2.perm List.perm_middle).rehold hs e).perm List.perm_middle.symm
  · refine ⟨ys.length, B, hold, ys, [], c', rfl, rfl, .nil, ⟨.refl B, fun _ _ e => .inl e, Nat.le_of_lt sz, rfl, rfl⟩, gx, ?_, run.keep rfl⟩
    exact (R.hold up (Nat.le_refl _) eS).perm List.perm_middle.symm
end
end Mine

open PySem PySem.W PyProof.Rows PySem.Calls
namespace Mine
def fivePats : List (List Nat) := [[42, 44, 42, 44, 42], [63, 44, 42], [42, 53, 44, 42], [42, 44, 63, 53, 42], [42, 52, 63, 42]]
theorem patOf_ok (t : List Nat) : ∀ c ∈ patOf t, c = 63 ∨ c = 44 := by
  intro c hc
  obtain ⟨x, _, rfl⟩ := List.mem_map.mp hc
  by_cases h : x = 44 <;> simp [h]
/-- what _law_right answers -/
theorem right_spec {D : Wd} (X : Std D) (n : Nat) {ts : List (List Nat)} (ht : ∀ t ∈ ts, TextOk t) (hn : ts.length ≤ 1000) {pat : List Nat} (hp : pat ∈ ts.map patOf ++ fivePats) : CallSpec D (n + 4) (.ref 154) [vT pat, vTs ts] (.bool true) := by
  have hl : ∀ x ∈ ts, x.length ≤ 1000 := fun x hx => Nat.le_trans (ht x hx).len (by decide)
  have go : ∀ {t0 : Bk} {bs : List Bk}, Parts pat t0 bs → (t0 ++ outB bs).flatten.length ≤ 800 → (∀ w, takesL (joinOut t0 bs) w = fitsL pat w) → CallSpec D (n + 4) (.ref 154) [vT pat, vTs ts] (.bool true) := fun {t0 bs} P hz h => by
    have s := spec27 X n P hz ts hn hl
    rw [show (takesL (joinOut t0 bs)) = fitsL pat from funext h, decide_eq_true rfl] at s
    exact s
  rcases List.mem_append.mp hp with hp | hp
  · obtain ⟨t, ht', rfl⟩ := List.mem_map.mp hp
    have hk := (ht t ht').len
    have hlen : (patOf t).length = t.length := by unfold patOf; rw [List.length_map]
    exact go (plain_parts (patOf_ok t) (by lia)) (by rw [outB, List.append_nil, flat1, List.length_map]; lia) (plain_ok (patOf_ok t))
  · simp only [fivePats, List.mem_cons, List.not_mem_nil, or_false] at hp
    rcases hp with rfl | rfl | rfl | rfl | rfl
    · exact go pA (by decide) okA_
    · exact go pB (by decide) okB_
    · exact go pC (by decide) okC_
    · exact go pD (by decide) okD_
    · exact go pE (by decide) okE_
section
variable {D : Wd} (X : Std D) {n : Nat} (script : List Int) {a b : Option V} {g : List Int} {ts : List (List Nat)}
include X
/-- if [one[1] for one in ordered] != _law_ordered(texts): return False -/
theorem law9 {c e : Option V} {pm : Array Nat} (hn : ts.length ≤ 1000) (hp : Pre0 ts.length pm ts.length) (ha : Asc (ltT ts) pm ts.length) : S1 D (n + 1) c28 (st28 script a b c (some (ordV ts pm)) e (some (vI g)) (some (vTs ts))) (stmt28 9) .next (st28 script a b c (some (ordV ts pm)) e (some (vI g)) (some (vTs ts))) := by
  have ho := sorted_ordered hp ha
  have hm : (pm.toList.map fun (k : Nat) => V.int (k : Int)) = (pm.toList.map fun (k : Nat) => (k : Int)).map .int := by rw [List.map_map]; rfl
  have hps : pm.toList.length ≤ 1000 := by rw [Array.length_toList, hp.size]; exact hn
  show S1 D (n + 1) c28 { loc := [some (vI script), a, b, c, some (ordV ts pm), e], cel := [some (vI g), some (vTs ts)] } _ _ _
  refine S1.ite (b := false) (st1 := { loc := [some (vI script), a, b, c, some (ordV ts pm), e], cel := [some (vI g), some (vTs ts)] }) (Tr.cast (Tr.cmp (a := vI (pm.toList.map fun (k : Nat) => (k : Int))) (b := vI (pm.toList.map fun (k : Nat) => (k : Int))) (Ex.cast (Ex.compM (fun W => match W with | .list [_, y] => y | _ => W) (Ie.list (Ex.l 4)) (fun W hW => ?_) (by rw [List.length_map]; lia)) ?_) (Ex.cast (Ex.callK (Ex.g X 13) (Es.one (Ex.k 1)) ((spec24 X n ts hn).tn rfl) (key139 X)) ?_) (T2.neInts rfl rfl)) (by first | rfl | decide | simp)) (by first | exact fun h => ft_elim h | exact fun h => nil_elim h | exact fun h => nomatch h) (fun _ => Sx.nil)
  · obtain ⟨k, hk, rfl⟩ := List.mem_map.mp hW
    exact ⟨Ex.itemL (Ex.l 0) Ex.int (by rfl) (by decide), rfl⟩
  · unfold vI
    rw [List.map_map, List.map_map]
    congr 1
  · rw [← ho, hm]
/-- return [one for one in patterns + [..] if not _law_right(one, texts)] == [] -/
theorem law10 {c d : Option V} (ht : ∀ t ∈ ts, TextOk t) (hn : ts.length ≤ 900) : S1 D (n + 4) c28 (st28 script a b c d (some (vTs (ts.map patOf))) (some (vI g)) (some (vTs ts))) (stmt28 10) (.ret (.bool true)) (st28 script a b c d (some (vTs (ts.map patOf))) (some (vI g)) (some (vTs ts))) := by
  have hz' := sizeLine_eq
  show S1 D (n + 4) c28 { loc := [some (vI script), a, b, c, d, some (vTs (ts.map patOf))], cel := [some (vI g), some (vTs ts)] } _ _ _
  refine S1.ret (Ex.cast (Ex.cmp (a := vTs []) (b := vTs []) (Ex.cast (Ex.compF (items := (ts.map patOf ++ fivePats).map fun x => vT x) (fun _ => false) (fun W => W) (Ie.list (Ex.bin (Ex.l 5) (Ex.list (Es.cons (Ex.s (l := [42, 44, 42, 44, 42])) (Es.cons (Ex.s (l := [63, 44, 42])) (Es.cons (Ex.s (l := [42, 53, 44, 42])) (Es.two (Ex.s (l := [42, 44, 63, 53, 42])) (Ex.s (l := [42, 52, 63, 42]))) (by intros; rfl)) (by intros; rfl)) (by intros; rfl)) rfl (by first | decide | (rw [hz']; simp))) (T2.addL rfl rfl (by simp; lia) (by rw [List.map_append]; rfl)))) (fun W hW => ?_) (fun W hW h => nomatch h) (by simp [fivePats]; lia)) ?_) (Ex.list Es.nil rfl (by first | rfl | decide | simp)) (T2.eqStrs (xs := []) (ys := []) rfl rfl)) (by first | rfl | decide | simp))
  · obtain ⟨pat, hp, rfl⟩ := List.mem_map.mp hW
    exact Tr.not (b := true) (Tr.plain (Ex.callK (Ex.g X 16) (Es.two (Ex.l 0) (Ex.k 1)) ((right_spec X n ht (by lia) hp).tn rfl) (key154 X)) Ty.bool)
  · simp
end
end Mine

open PySem PySem.W PyProof.Rows PySem.Calls
namespace Mine
theorem T2.isNoneNone {D : Wd} {n : Nat} {c : Cx} {st : St} : T2 D n c st .none .none (fun _ => compareOp .Is) (.bool true) st := T2.mk fun A env B s rs ca p Q E v u hA R q r H => by
  cases (show VF B v _ from q); cases (show VF B u _ from r)
  unfold compareOp
  first
    | exact wpAny_pure (H _ B p _ (.refl ..) R (.of (.bool _)))
    | (refine wpAny_bind (wpAny_pure ?_); exact wpAny_pure (H _ B p _ (.refl ..) R (.of (.bool _))))
def Sl (Ls : List Addr) (h h' : Heap) : Prop := ∀ b ∈ Ls, ∀ o, h.get? b = some o → (∀ vs, o.data ≠ .fields vs) → ∃ sl, h'.get? b = some { o with slots := sl }
theorem Sl.trans {Ls : List Addr} {h1 h2 h3 : Heap} (x : Sl Ls h1 h2) (y : Sl Ls h2 h3) : Sl Ls h1 h3 := fun b hb o e hn =>
  let ⟨_, e1⟩ := x b hb o e hn; let ⟨sl, e2⟩ := y b hb _ e1 hn; ⟨sl, e2⟩
theorem Sl.up {Ls : List Addr} {h h' : Heap} (x : h.UpToSlots h') : Sl Ls h h' := fun b _ o e hn => x b o e hn
theorem Sl.on {Ls : List Addr} {h h' : Heap} (k : ∀ b ∈ Ls, ∀ o, h.get? b = some o → h'.get? b = some o) : Sl Ls h h' := fun b hb o e _ => ⟨o.slots, k b hb o e⟩
def Fl (l : List Env) : List Addr := l.filterMap (·.frame)
theorem funFrames_on {h h' base : Heap} : ∀ {l : List Env}, (∀ b ∈ Fl l, ∀ o, h.get? b = some o → h'.get? b = some o) → h.FunFrames base l → h'.FunFrames base l
  | [], _, _ => trivial
  | env :: rest, k, hl => by
    obtain ⟨hk, ⟨L, o, hf, hn, ho, hd⟩, hr⟩ := hl
    have e : Fl (env :: rest) = L :: Fl rest := by unfold Fl; rw [List.filterMap_cons, hf]
    exact ⟨hk, ⟨L, o, hf, hn, k L (by rw [e]; exact .head _) o ho, hd⟩, funFrames_on (fun b hb => k b (by rw [e]; exact .tail _ hb)) hr⟩
section
variable {M : Model} {A : Around} {E : Value → Shared → Prop} {s : Shared} {base h : Heap} {env : Env} {outer l : List Env} {L e : Addr} {cls a0 : Value} {args : List Value} {Q : Unit → Shared → Prop}
theorem looks_made (hfr : A.frames = some (env :: outer)) (hf : env.frame = some L) (hkb : base.StaysIn h) (hl : h.FunFrames base (env :: outer)) (hx : Heap.MadeExcOf h s.heap e cls args)
    (hQ : ∀ h' t, Heap.HeldW base (env :: outer) e cls (.ref t) L h' → h'.TupAt t args → s.heap.UpToSlots h' → Q () { s with heap := h' }) : wpAny M A (noteFrame (.ref e) env) Q E s := by
  obtain ⟨t, he, htn, ht⟩ := hx.there
  have hen : base.get? e = none := by
    cases hq : base.get? e with
    | none => rfl
    | some o' => have := hkb e o' hq; rw [hx.new] at this; (first | exact none_some this | exact some_none this | (obtain rfl := Option.some.inj this) | cases this)
  unfold noteFrame
  simp only [hf]
  refine wpAny_bind (wpAny_field he rfl (x := .none) rfl ?_)
  rw [if_neg (by decide)]
  refine wpAny_entryW hfr (hl.of_keeps fun b o hb _ => ⟨o, hx.keeps b o hb, rfl⟩) hf he (fun b o hb => hx.keeps b o (hkb b o hb)) hen rfl (by first | rfl | decide | simp) rfl fun h' hN => ?_
  obtain ⟨k1, k2, k3, k4⟩ := hN
  exact hQ h' t ⟨k1, hen, k2, k3⟩ (Heap.TupAt.of_slots ⟨_, _, ht, rfl, rfl⟩ k4) k4
theorem flies_again (hh : Heap.HeldW base l e cls a0 L s.heap) (hQ : ∀ h', Heap.HeldW base l e cls a0 L h' → s.heap.UpToSlots h' → Q () { s with heap := h' }) : wpAny M A (setFlight (.ref e) (some L)) Q E s := by
  obtain ⟨hkb, hen, hl, oe, vs, T, oT, ts, he, hcls, hd, h1, hnT, hTe, hT, hdT, h3⟩ := hh
  have hsz3 : 3 < ts.size := (Array.getElem?_eq_some_iff.mp h3).1
  have other : ∀ b, b ≠ T → (s.heap.update T (Obj.mapFields (·.setIfInBounds 3 ((some L : Option Addr).elim Value.none fun f => rawInt f)))).get? b = s.heap.get? b :=
    fun b hb => Heap.get?_update_other _ _ (Ne.symm hb)
  have noRecord : ∀ b o, s.heap.get? b = some o → (∀ vs, o.data ≠ .fields vs) → b ≠ T := fun b o hb hnf q => by
    rw [q, hT] at hb; injection hb with hb; subst hb; exact hnf ts hdT
  unfold setFlight
  refine wpAny_bind (wpAny_field he hd h1 ?_)
  rw [if_pos (show (Value.ref T != Value.none) = true from by simp)]
  refine wpAny_setField hT hdT hsz3 (hQ _ ⟨fun b o hbo => (other b fun q => by rw [q, hnT] at hbo; (first | exact none_some hbo | exact some_none hbo | (obtain rfl := Option.some.inj hbo) | cases hbo)).trans (hkb b o hbo), hen, hl.of_keeps fun b o hb hnf => ⟨o, (other b (noRecord b o hb hnf)).trans hb, rfl⟩, ?_⟩ fun b o hb hnf => ⟨o.slots, (other b (noRecord b o hb hnf)).trans hb⟩)
  exact ⟨oe, vs, T, _, _, (other e (Ne.symm hTe)).trans he, hcls, hd, h1, hnT, hTe, Heap.get?_update_self _ hT (Obj.isFreed_of_fields (Obj.data_mapFields hdT _)), Obj.data_mapFields hdT _, by simp [hsz3]⟩
theorem leaves_held (hf : env.frame = some L) (hh : Heap.HeldW base (env :: outer) e cls a0 L s.heap) (hQ : ∀ h', Heap.FlyingW base outer e cls a0 h' → s.heap.UpToSlots h' → Q () { s with heap := h' }) : wpAny M A (leaving env (.ref e)) Q E s := by
  unfold leaving
  refine wpAny_bind (wpAny_noteFrame_againW hf hh.2.2.2 (wpAny_landsW hh fun h' hfl k => ?_))
  obtain ⟨k1, k2, ⟨_, _, k3⟩, k4⟩ := hfl
  exact hQ h' ⟨k1, k2, k3, k4⟩ k
theorem held_field {Q : Value → Shared → Prop} (hh : Heap.HeldW base l e cls a0 L s.heap) (hQ : ∀ T, Q (.ref T) s) : wpAny M A (field (.ref e) 1) Q E s := by
  obtain ⟨hkb, hen, hl, oe, vs, T, oT, ts, he, hcls, hd, h1, hnT, hTe, hT, hdT, h3⟩ := hh
  exact wpAny_field he hd h1 (hQ T)
end
def badG : Str := "invalid grouping"
/-- a generator's part that ends by its refusal -/
def R5 (base : Heap) (outer : List Env) : GenEnd := fun _ s₀ r s₁ => ∃ e t tk, r = .error (.ref e) ∧ Heap.FlyingW base outer e (.type "ValueError") (.ref t) s₁.heap ∧ s₁.heap.TupAt t [.str badG tk] ∧ Sl (Fl outer) s₀.heap s₁.heap ∧ s₁.drawn = s₀.drawn ∧ s₁.os = s₀.os ∧ GExt s₀.gens s₁.gens
section
variable {D : Wd} {env : Env} {B0 B base : Heap} {a : Addr} {A : Around} {n m : Nat} {outer : List Env} {vs : List Value} {r : List Int} {Y : Protocol} {s : Shared}
theorem seg_raise4 (X : Std D) (hfr : A.frames = some outer) (hA1 : ∀ I kf p', Room n (A.over (loop4 I env) [fr4 kf (.func (bodyOf 4) env) p'])) (hG : LstAt B0 a vs) (hvs : VFs B0 vs (((0 : Int) :: r).map .int)) (T : GStart D env B0 a s B)
    (hkb : base.StaysIn s.heap) (hoff : base.get? env.locals = none) (hff : s.heap.FunFrames base outer) (hne : env.locals ∉ Fl outer) : Seg (model D.prog D.w) A (R5 base outer) Y m s (.func (bodyOf 4) env) ((model D.prog D.w).den (.func (bodyOf 4) env)) [] s := by
  refine seg_begin4 hG T fun kf p' s2 B2 ob rs _ k2 hit G2 => ?_
  refine seg_enter4 (x := none) (i := 0) (hA1 _ _ _) hG hvs rfl hit G2 fun s3 B3 o3 K H hK hH hit3 G3 => ?_
  have hA' := hA1 s.heap.objs.size kf p'
  refine seg_cons ?_
  refine seg_if (n := n) (b := false) (Tr.cast (Tr.cmp (Ex.l 2) (Ex.gInt X 32) T2.eqInt) (by first | rfl | decide | simp)) hA' G3.R fun B4 p4 s4 n4 R4 => ?_
  have G4 := G3.step n4 R4 rfl
  rw [if_neg Bool.false_ne_true]
  refine seg_nil ?_
  refine seg_cons ?_
  refine seg_if (n := n) (b := true) (Tr.cast (Tr.cmp (Ex.l 2) Ex.int T2.eqInt) (by first | rfl | decide | simp)) hA' G4.R fun B5 p5 s5 n5 R5' => ?_
  have G5 := G4.step n5 R5' rfl
  rw [if_pos rfl]
  refine seg_cons ?_
  refine seg_if (n := n) (b := true) (Tr.cmp (a := .none) (Ex.l 1) Ex.none T2.isNoneNone) hA' G5.R fun B6 p6 s6 n6 R6 => ?_
  have G6 := G5.step n6 R6 rfl
  rw [if_pos rfl]
  refine seg_cons ?_
  refine seg_wrap (Raise_madeB F.excCall_ValueError F.excRaise_ValueError hA'.handled ((Ex.b X 30 11 : Ex D n c4 (st4 a none ((some (0 : Int)).map .int)) _ _ _) _ env B6 s6 _ [] [] _ _ hA' G6.R fun v B7 p7 s7 n7 R7 q7 => ?_))
  have G7 := G6.step n7 R7 rfl
  cases (show VF B7 v (.raw (.type "ValueError")) from q7)
  refine ⟨rfl, (Es.one (D := D) (n := n) (c := c4) (st := st4 a none ((some (0 : Int)).map .int)) (W := .str badG) (Ex.s (by rfl))) _ env B7 s7 _ [] [] _ _ _ hA' G7.R fun vs8 B8 p8 s8 n8 R8 q8 => ?_⟩
  have G8 := G7.step n8 R8 rfl
  apply VRs.one q8; intro v8 q8 
  cases (show VF B8 v8 (.str badG) from q8.1) with | str _ tk => ?_
  refine ⟨by size_fits, fun h9 e hm => ?_⟩
  have aft := G8.aft
  have kb : base.StaysIn s8.heap := fun b o q => aft.1 b o (fun z => by rw [z, hoff] at q; (first | exact none_some q | exact some_none q | (obtain rfl := Option.some.inj q) | cases q)) (fun z => by rw [z, hkb.fresh] at q; (first | exact none_some q | exact some_none q | (obtain rfl := Option.some.inj q) | cases q)) (hkb b o q)
  have kF : ∀ b ∈ Fl outer, ∀ o, s.heap.get? b = some o → s8.heap.get? b = some o := fun b hb o q => aft.1 b o (fun z => hne (z ▸ hb)) (fun z => absurd (Heap.lt_size q) (by rw [z]; exact Nat.lt_irrefl _)) q
  obtain ⟨mm, ⟨oL, es, ep, eL, dL, _⟩, _⟩ := G8.R.loc
  have ff : s8.heap.FunFrames base (env :: outer) := ⟨by rw [T.scope]; decide +kernel, ⟨env.locals, oL, T.frame, hoff, eL, fun vs q => by rw [dL] at q; cases q⟩, funFrames_on kF hff⟩
  rw [hH]
  show Seg _ A _ _ _ _ _ ((do noteFrame (.ref e) env; theTreesLotGoes (.ref e) : Sem Unit) >>= fun _ => Sem.raise (.ref e)) _ _
  refine seg_bind (wpAny_bind (looks_made (outer := outer) (by unfold Around.over; dsimp only; rw [hfr]; rfl) T.frame kb ff hm.of fun h10 t hh ht up => wpAny_theTreesLotGoes ?_))
  refine seg_leaf (.error (.ref e)) (k2 _ _ (held_field hh fun T' => ⟨rfl, ?_⟩))
  rw [T.frame]
  refine flies_again hh fun h11 hh2 up2 => leaves_held T.frame hh2 fun h12 hfl up3 => ?_
  exact ⟨e, t, tk, rfl, hfl, (ht.of_slots up2).of_slots up3, ((Sl.on kF).trans (Sl.on fun b _ o q => hm.keeps b o q)).trans (Sl.up ((up.trans up2).trans up3)), aft.2.2.1, aft.2.2.2.1, aft.2.2.2.2⟩
end
end Mine

open PySem PySem.W PyProof.Rows PySem.Calls
namespace Mine
theorem ve_stop : isSubtype (.type "ValueError") (.type "StopIteration") = pure false := by rw [isSubtype_type]; kernel_rfl
section
variable {D : Wd} {env : Env} {B0 B base : Heap} {a ga : Addr} {A : Around} {n m g : Nat} {outer : List Env} {vs : List Value} {r : List Int} {s : Shared} {g0 : Array GenState} {Q : Option Value → Shared → Prop} {E : Value → Shared → Prop}
theorem next_raise (X : Std D) (hA : Room (n + 1) A) (hfr : A.frames = some outer) (hlim : s.heap.NoLimit) (hg : base.IsGen ga g) (hgs : s.gens[g]? = some (.fresh (.func (bodyOf 4) env))) (hG : LstAt B0 a vs) (hvs : VFs B0 vs (((0 : Int) :: r).map .int)) (T : GStart D env B0 a (s.setGen g .running) B)
    (hkb : base.StaysIn s.heap) (hoff : base.get? env.locals = none) (hff : s.heap.FunFrames base outer) (hne : env.locals ∉ Fl outer) (gx : GExt g0 s.gens) (hle : g0.size ≤ g)
    (H : ∀ e t tk s', Heap.FlyingW base outer e (.type "ValueError") (.ref t) s'.heap → s'.heap.TupAt t [.str badG tk] → Sl (Fl outer) s.heap s'.heap → s'.drawn = s.drawn → s'.os = s.os → GExt g0 s'.gens → E (.ref e) s') : wpAny (model D.prog D.w) A (pyNext (.ref ga)) Q E s := by
  refine next_by hlim (by have := hA.depth; lia) (hg.keeps hkb) hgs hA.handled ?_
  refine wpAny_resumeQ (R := R5 base outer) (Y := fun _ _ _ _ _ => False) (n := 0) hgs ⟨rfl, seg_raise4 X (n := n) hfr (fun I kf p' => roomL hA env I kf p') hG hvs T hkb hoff hff hne⟩ (fun x s₁ hx => ?_) (fun v s₁ gs' hb hy => hy.elim)
  obtain ⟨e, t, tk, rfl, hfl, ht, sl, k3, k4, k5⟩ := hx
  have hE := H e t tk (s₁.setGen g .finished) hfl ht sl k3 k4 (((gx.set hle rfl).trans k5).set hle rfl)
  obtain ⟨ob, hob, hobc⟩ := hfl.there
  have hty : (s₁.setGen g .finished).TypeIs (.ref e) "ValueError" := ⟨ob, hob, hobc⟩
  obtain ⟨og, nm, qn, hog, hoc, hod⟩ := hg.keeps hfl.1
  refine wpAny_pure ?_
  show wpAny _ A.in1 (Builtin.Generator.genLeft (α := PySem.Fin) (.ref ga) (.ref e)) _ _ (s₁.setGen g .finished)
  unfold Builtin.Generator.genLeft Builtin.Generator.madeByALambda
  refine wpAny_bind (wpAny_bind (wpAny_load hog (wpAny_pure ?_)))
  refine wpAny_bind (wpAny_isInstance hty ve_stop ?_)
  rw [Bool.and_false, if_neg Bool.false_ne_true]
  unfold Builtin.Generator.genEscaped
  refine wpAny_bind (wpAny_isInstance hty ve_stop ?_)
  rw [Bool.not_false, if_pos rfl]
  exact wpAny_throw ⟨"ValueError", hty, ve_stop, hE⟩
end
end Mine

open PySem PySem.W PyProof.Rows PySem.Calls
namespace Mine
section
variable {D : Wd} {env : Env} {B0 B : Heap} {a ga C : Addr} {oC : Obj} {A : Around} {n g : Nat} {outer : List Env} {vs : List Value} {r : List Int} {s : Shared} {g0 : Array GenState} {Q : Value → Shared → Prop} {E : Value → Shared → Prop}
theorem list_raise (X : Std D) (hA : Room (n + 1) A.in1.in1) (hfr : A.frames = some outer) (hgs : s.gens[g]? = some (.fresh (.func (bodyOf 4) env))) (xB : Ext B s.heap) (G : Good D B) (hg : B.IsGen ga g) (base0 : Ext B0 B) (hC : s.heap.get? C = some oC) (offC : B.get? C = none) (hCL : env.locals = C)
    (hS : ∀ s'' B'', Ext B'' s''.heap → Good D B'' → Ext B0 B'' → s''.heap.get? C = some oC → B''.get? C = none → GStart D env B0 a s'' B'') (hG : LstAt B0 a vs) (hvs : VFs B0 vs (((0 : Int) :: r).map .int))
    (hff : ∀ base, (∀ b ∈ Fl outer, base.get? b = none) → s.heap.FunFrames base outer) (hfo : ∀ b ∈ Fl outer, B.get? b = none ∧ b ≠ C) (gx : GExt g0 s.gens) (hle : g0.size ≤ g)
    (H : ∀ base e t tk s', (∀ b o, b ∉ C :: Fl outer → s.heap.get? b = some o → base.get? b = some o) → Heap.FlyingW base outer e (.type "ValueError") (.ref t) s'.heap → s'.heap.TupAt t [.str badG tk] → Sl (Fl outer) s.heap s'.heap → s'.drawn = s.drawn → s'.os = s.os → GExt g0 s'.gens → E (.ref e) s') : wpAny (model D.prog D.w) A (call (.type "list") [.ref ga]) Q E s := by
  refine call_list_steps (g := g) (J := fun k acc s' => k = 0 ∧ ∃ h', s' = { s with heap := h' } ∧ Ext s.heap h') (hg.keeps xB) (fun k acc s' hJ => ?_) fun h' c' up sz eS => ⟨0, rfl, h', rfl, up⟩
  obtain ⟨rfl, h', rfl, up⟩ := hJ
  generalize hbase : hideAll h' (C :: Fl outer) = base
  have hb : ∀ b o, b ∉ C :: Fl outer → h'.get? b = some o → base.get? b = some o := fun b o hn e => by rw [← hbase]; exact hideAll_get _ e hn
  have hbn : ∀ b ∈ C :: Fl outer, base.get? b = none := fun b hb => by rw [← hbase]; exact hideAll_none _ hb
  have hbs : base.StaysIn h' := fun b o e => of_hideAll _ (by rw [hbase]; exact e)
  have hB : ∀ b o, B.get? b = some o → base.get? b = some o := fun b o e => hb b o (fun hm => by
    rcases List.mem_cons.mp hm with rfl | hm
    · rw [offC] at e; (first | exact none_some e | exact some_none e | (obtain rfl := Option.some.inj e) | cases e)
    · rw [(hfo b hm).1] at e; (first | exact none_some e | exact some_none e | (obtain rfl := Option.some.inj e) | cases e)) (up b o (xB b o e))
  have hne : env.locals ∉ Fl outer := fun m => (hfo _ m).2 hCL
  exact next_raise (n := n) X (base := base) (B0 := B0) (B := B) hA hfr ((G.lim.keeps xB).keeps up) (hg.keeps hB) hgs hG hvs (hS _ B (fun b o e => up b o (xB b o e)) G base0 (up _ _ hC) offC) hbs (hCL ▸ hbn C (.head _)) (funFrames_on (fun b _ o e => up b o e) (hff base fun b hb => hbn b (.tail _ hb))) hne gx hle
    fun e t tk s' hfl ht sl k1 k2 k3 => H base e t tk s' (fun b o hn q => hb b o hn (up b o q)) hfl ht ((Sl.on fun b _ o q => up b o q).trans sl) k1 k2 k3
end
def c22 : Cx := { scope := scopeOf 22, ln := ["grouping", "error"] }
theorem def22 {D : Wd} (X : Std D) : DefAt D 127 c22 ["grouping"] (bodyOf 22) :=
  X.defAt 12 11 22 (mod := mLaw) (tok := 575) (code := 126) (dflt := .none) rfl rfl rfl rfl rfl rfl rfl rfl rfl (len_1 fun a => by kernel_rfl) rfl rfl rfl (by decide +kernel) (by decide +kernel) (by decide +kernel) (by decide +kernel) (by decide +kernel) (by decide +kernel)
def st22 (G : List Int) : St := { loc := [some (vI G), none] }
def ev22 : Expr := match bodyOf 22 with
  | .Try (.Return (some e) _ :: _) _ _ _ _ :: _ => e
  | _ => .Constant .none 0 ⟨0, 0, 0, 0⟩
section
variable {D : Wd} {n : Nat} {A : Around} {env : Env} {B : Heap} {s : Shared} {rs : List (Addr × Obj)} {ca p : List Addr} {G ys : List Int} {Q : Value → Shared → Prop} {E : Value → Shared → Prop}
theorem ev22_ (X : Std D) (hA : Room n A) (R : Rep D c22 env B s.heap rs ca p (st22 G))
    (H : ∀ B1 p1 s1 v, Nx s s1 B B1 p p1 → Rep D c22 env B1 s1.heap rs ca p1 (st22 G) → VF B1 v (vI G) → wpAny (model D.prog D.w) A (call (.ref 45) [v]) (fun gv s2 => wpAny (model D.prog D.w) A (call (.type "list") [gv]) Q E s2) E s1) : wpAny (model D.prog D.w) A (eval ev22 env) Q E s := by
  refine Call_ ((Ex.b (D := D) (n := n) (c := c22) (st := st22 G) X 22 3) A env B s rs ca p _ E hA R fun v B1 p1 s1 n1 R1 q1 => ?_) (by rfl)
  cases (show VF B1 v (.raw (.type "list")) from q1)
  refine callWith_type1 (wpAny_items_cons (Call_ ((Ex.g (D := D) (n := n) (c := c22) (st := st22 G) X 1) A env B1 s1 rs ca p1 _ E hA R1 fun v B2 p2 s2 n2 R2 q2 => ?_) (by rfl)) (by rfl)) (by rfl) (by rfl)
  cases (show VF B2 v (.raw (.ref 45)) from q2)
  refine callWith_K R2.good.k (key45 X) ((Es.one (D := D) (n := n) (c := c22) (st := st22 G) (W := vI G) (Ex.l 0) (by intros; rfl)) A env B2 s2 rs ca p2 _ E _ hA R2 fun vs B3 p3 s3 n3 R3 q3 => ⟨R3.kh, ?_⟩) (by rfl) rfl
  apply VRs.one q3; intro v q3 
  exact wpAny_mono (H B3 p3 s3 v ((n1.trans n2).trans n3) R3 q3.1) (fun gv s4 h => wpAny_items_nil h) fun _ _ x => x
theorem spec22 (X : Std D) (hY : GY G none ys true) (hy : ys.length ≤ 900) : CallSpec D (n + 3) (.ref 127) [vI G] (vI ys) :=
  .ofG (def22 X) rfl fun A env B s rs ca p Q E hA R H => by
    change Rep D c22 env B s.heap rs ca p (st22 G) at R
    refine wpAny_execs_cons (wpAny_Try_except (wpAny_execs_cons (wpAny_Return_some (ev22_ X hA R fun B1 p1 s1 v n1 R1 q1 => ?_))))
    have hA1 : Room (n + 1) A := ⟨hA.handled, by have := hA.depth; lia, by have := hA.units; lia⟩
    have hA2 : Room (n + 1) A.in1.in1 := ⟨hA.handled, by have := hA.depth; show A.depth + _ < _; lia, by have := hA.units; show A.units + 1 + 1 + 8 * (n + 1) + 8 < _; lia⟩
    refine gcall X hA1 hA2 R1 q1 hY fun ga g C s2 B2 oC n2 R2 hgen hg0 hlt run => ?_
    refine listGen hA.handled (by have := hA.depth; lia) R2 hgen n2.ext run n2.gens hg0 hy fun Sl s' B' ny gx' R' q' => ?_
    exact H (st22 G) (vI ys) (.fz rfl) (.ret (.ref Sl)) B' p1 s' (((n1.trans n2)).thenY ny (n1.gens.trans gx')) R' (show VR B' p1 _ _ from .of q')
end
end Mine

open PySem PySem.W PyProof.Rows PySem.Calls
namespace Mine
theorem ve_base : isSubtype (.type "ValueError") (.type "BaseException") = pure true := by rw [isSubtype_type]; kernel_rfl
theorem ve_self : isSubtype (.type "ValueError") (.type "ValueError") = pure true := by rw [isSubtype_type]; kernel_rfl
theorem ve_meta : isSubtype (.type ((Manifest.find? "ValueError").elim "type" fun x => x.metatype)) (.type "tuple") = pure false := by
  rw [show ((Manifest.find? "ValueError").elim "type" fun x => x.metatype) = "type" by decide +kernel, isSubtype_type]; kernel_rfl
theorem Sl.ns {Ls : List Addr} {h h' : Heap} {a : Addr} {m : Str → Option Value} (x : Sl Ls h h') (ha : a ∈ Ls) (hn : h.Ns a m) : h'.Ns a m := by
  obtain ⟨o, es, ep, ho, hd, r⟩ := hn
  obtain ⟨sl, hs⟩ := x a ha o ho fun vs q => by rw [hd] at q; (first | exact none_some q | exact some_none q | (obtain rfl := Option.some.inj q) | cases q)
  exact ⟨_, es, ep, hs, hd, r⟩
section
variable {D : Wd} {M : Model} {A : Around} {env : Env} {s : Shared} {x : Str} {pos : Pos} {v : Value} {Q : Value → Shared → Prop} {E : Value → Shared → Prop}
theorem name_b (hk : env.scope.kind = .function) (hg : env.globals = mainGlobals) (hb : env.builtins = builtinsNs) (ng : s.heap.Ns mainGlobals D.mg) (nb : s.heap.Ns builtinsNs D.mb) (e1 : D.mg x = none) (e2 : D.mb x = some v)
    (hl : env.kindOf x = some .globalImplicit) (hd : (x == ("__debug__" : Str)) = false) (h : Q v s) : wpAny M A (eval (.Name x pos) env) Q E s := by
  refine Calls.Name_function_global hk hl ?_ hd
  unfold loadGlobal
  rw [hg, hb]
  refine wpAny_bind (wpAny_nsGet ng ?_)
  rw [e1]
  refine wpAny_bind (wpAny_nsGet nb ?_)
  rw [e2]
  exact wpAny_pure h
end
section
variable {D : Wd} {n : Nat} {A : Around} {envL : Env} {B : Heap} {s : Shared} {L0 : Addr} {oL : Obj} {v : Value} {Q : Value → Shared → Prop} {E : Value → Shared → Prop}
theorem refused_raise (X : Std D) (hA : Room (n + 3) A) (hfr : A.frames = some [envL]) (hk : envL.scope.kind ≠ .module) (hfL : envL.frame = some L0) (hL : s.heap.get? L0 = some oL) (hLd : ∀ vs, oL.data ≠ .fields vs) (G : Good D B) (XE : Ext B s.heap) (hLB : B.get? L0 = none) (hv : VF B v (vI [0, 3]))
    (H : ∀ tk s', (∀ b o, b ≠ L0 → s.heap.get? b = some o → s'.heap.get? b = some o) → (∃ sl, s'.heap.get? L0 = some { oL with slots := sl }) → s.heap.objs.size ≤ s'.heap.objs.size → s'.drawn = s.drawn → s'.os = s.os → GExt s.gens s'.gens → Q (.str badG tk) s') : wpAny (model D.prog D.w) A (call (.ref 127) [v]) Q E s := by
  refine enter_def (Ws := [vI [0, 3]]) (def22 X) rfl hA G XE (.cons hv .nil) fun env s1 rs ca hfe hloc _ hA1 R hrs n1 => ?_
  change Rep D c22 env B s1.heap rs ca [] (st22 [0, 3]) at R
  have hfr1 : (A.deeper env).frames = some [env, envL] := by show A.frames.map _ = _; rw [hfr]; rfl
  refine wpAny_execs_cons (wpAny_Try_except (wpAny_execs_cons (wpAny_Return_some (ev22_ X hA1 R fun B2 p2 s2 v n2 R2 q2 => ?_))))
  have hA2 : Room (n + 1) (A.deeper env).in1.in1 := ⟨hA1.handled, by have := hA1.depth; show (A.deeper env).depth + _ < _; lia, by have := hA1.units; show (A.deeper env).units + 1 + 1 + 8 * (n + 1) + 8 < _; lia⟩
  cases q2 with | list hG hvs => ?_
  rename_i a vs
  refine gmake X (n := n + 1) hA1 R2 fun ga g C s3 B3 oC genv n3 R3 hg hle hf hC hCs hS => ?_
  have n13 := (n1.trans n2).trans n3
  have hF : Fl [env, envL] = [env.locals, L0] := by unfold Fl; rw [List.filterMap_cons, hfe, List.filterMap_cons, hfL]; rfl
  have hL0 : L0 < s.heap.objs.size := Heap.lt_size hL
  have hLne : L0 ≠ env.locals := by rw [hloc]; exact Nat.ne_of_lt hL0
  have hCge : s.heap.objs.size ≤ C := by rw [hCs]; exact (n1.trans n2).size
  -- what was there stands
  have keep3 : ∀ b o, s.heap.get? b = some o → s3.heap.get? b = some o := fun b o e => by
    cases q : B.get? b with
    | some o' =>
      have := XE b o' q
      rw [e] at this; (first | exact none_some this | exact some_none this | (obtain rfl := Option.some.inj this) | cases this)
      exact R3.ext b _ (n13.ext b _ q)
    | none => exact R3.held _ (List.mem_append_right _ (hrs b o e q))
  have offL : B3.get? L0 = none := by
    cases q : B3.get? L0 with
    | none => rfl
    | some o => exact (n13.new L0 o q).elim (fun e => by rw [hLB] at e; (first | exact none_some e | exact some_none e | (obtain rfl := Option.some.inj e) | cases e)) fun h => absurd hL0 (Nat.not_lt.mpr h)
  have offC : B3.get? C = none := (hold_facts (hold := [(C, oC)]) R3 _ (.head _)).2
  have offE : B3.get? env.locals = none := R3.off _ (.head _)
  have hC3 : s3.heap.get? C = some oC := R3.held _ (.head _)
  obtain ⟨m, hm, _⟩ := R3.loc
  obtain ⟨oE, es, ep, eE, dE, _⟩ := id hm
  have hCE : C ≠ env.locals := nd_loc R3.nd (List.mem_append_right _ (List.mem_append_right _ (.head _)))
  refine list_raise X (outer := [env, envL]) (g0 := s.gens) (E := fun e s' => _) hA2 hfr1 hf R3.ext R3.good hg n3.ext hC3 offC hC hS hG hvs (fun base hb => ?_) (fun b hb => ?_) n13.gens (Nat.le_trans (n1.trans n2).gens.size hle) fun base e t tk s4 hb hfl ht sl hdr hos hgx => ?_
  · exact ⟨by rw [R3.scope, R3.fn]; decide, ⟨env.locals, oE, hfe, hb _ (by rw [hF]; exact .head _), eE, fun vs q => by rw [dE] at q; cases q⟩, hk, ⟨L0, oL, hfL, hb _ (by rw [hF]; exact .tail _ (.head _)), keep3 _ _ hL, hLd⟩, trivial⟩
  · rw [hF] at hb
    rcases List.mem_cons.mp hb with rfl | hb
    · exact ⟨offE, Ne.symm hCE⟩
    · rw [List.mem_singleton.mp hb]
      exact ⟨offL, fun z => absurd hL0 (Nat.not_lt.mpr (z ▸ hCge))⟩
  have hsc : env.scope = c22.scope := R3.scope
  have mE : env.locals ∈ Fl [env, envL] := by rw [hF]; exact .head _
  have m0 : L0 ∈ Fl [env, envL] := by rw [hF]; exact .tail _ (.head _)
  have hBb : ∀ b o, B.get? b = some o → base.get? b = some o := fun b o q => hb b o (fun hm => by
    rw [hF] at hm
    rcases List.mem_cons.mp hm with rfl | hm
    · rw [n13.ext _ _ q] at offC; (first | exact none_some offC | exact some_none offC | (obtain rfl := Option.some.inj offC) | cases offC)
    · rcases List.mem_cons.mp hm with rfl | hm
      · rw [n13.ext _ _ q] at offE; (first | exact none_some offE | exact some_none offE | (obtain rfl := Option.some.inj offE) | cases offE)
      · rw [List.mem_singleton.mp hm, hLB] at q; (first | exact none_some q | exact some_none q | (obtain rfl := Option.some.inj q) | cases q)) (keep3 b o (XE b o q))
  refine wpAny_looks_onW hfr1 hfe hfl fun h5 hh5 up5 => ?_
  refine wpAny_landsW hh5 fun h6 hfl6 up6 => ?_
  refine wpAny_handleBy_builtin_as (X := "ValueError") (T := "ValueError") (b := true) ve_base ve_meta ve_self ?_
  have kB6 : ∀ b o, B.get? b = some o → h6.get? b = some o := fun b o q => hfl6.1 b o (hBb b o q)
  refine name_b (D := D) (env := env) (hsc ▸ R3.fn) R3.globals R3.builtins (G.g.keeps kB6) (G.b.keeps kB6) (X.glob _ (List.mem_of_getElem? (i := 30) rfl)) (X.blt _ (List.mem_of_getElem? (i := 11) rfl)) (by unfold Env.kindOf; rw [hsc]; rfl) (by rfl) ?_
  refine ⟨rfl, hfl6.there.imp fun ob h => h, ?_⟩
  rw [if_pos rfl]
  refine lands_againW hfl6 fun h7 hfl7 up7 => ?_
  have sl7 : Sl (Fl [env, envL]) s3.heap h7 := sl.trans (Sl.up ((up5.trans up6).trans up7))
  have hn7 : h7.Ns env.locals m := sl7.ns mE hm
  refine wpAny_storeName_local (by unfold Env.kindOf; rw [hsc]; rfl) hn7 (fun h8 hn8 hs8 => ?_) (by rw [hsc]; rfl)
  have kB8 : ∀ b o, B.get? b = some o → h8.get? b = some o := fun b o q => (hs8.2 b (fun z => by rw [z] at q; rw [n13.ext _ _ q] at offE; (first | exact none_some offE | exact some_none offE | (obtain rfl := Option.some.inj offE) | cases offE))).trans (hfl7.1 b o (hBb b o q))
  have ht7 : h7.TupAt t [.str badG tk] := ((ht.of_slots up5).of_slots up6).of_slots up7
  obtain ⟨oe, es', e1, e2, e3, e4⟩ := hfl7.first
  obtain ⟨oN, _, _, eN, dN, _⟩ := id hn7
  have hte : e ≠ env.locals := fun z => by rw [z, eN] at e1; (first | exact none_some e1 | exact some_none e1 | (obtain rfl := Option.some.inj e1) | cases e1); rw [dN] at e3; (first | exact none_some e3 | exact some_none e3 | (obtain rfl := Option.some.inj e3) | cases e3)
  have htt : t ≠ env.locals := fun z => by
    obtain ⟨ot, k, q1, _, q2⟩ := ht7
    rw [z, eN] at q1; (first | exact none_some q1 | exact some_none q1 | (obtain rfl := Option.some.inj q1) | cases q1); rw [dN] at q2; (first | exact none_some q2 | exact some_none q2 | (obtain rfl := Option.some.inj q2) | cases q2)
  have x8 : h8.ExcAt e "ValueError" (.ref t) := ⟨oe, es', (hs8.2 e hte).trans e1, e2, e3, e4⟩
  have t8 : h8.TupAt t [.str badG tk] := ht7.imp fun ot h => h.imp fun k h => ⟨(hs8.2 t htt).trans h.1, h.2⟩
  refine wpAny_execs_cons (wpAny_Return_some (Call_ (name_b (D := D) (env := env) (hsc ▸ R3.fn) R3.globals R3.builtins (G.g.keeps kB8) (G.b.keeps kB8) (X.glob _ (List.mem_of_getElem? (i := 24) rfl)) (X.blt _ (List.mem_of_getElem? (i := 5) rfl)) (by unfold Env.kindOf; rw [hsc]; rfl) (by rfl) ?_) (by rfl)))
  refine callWith_type1 (wpAny_items_cons (wpAny_Name (wpAny_loadName_local (hsc ▸ R3.fn) (by unfold Env.kindOf; rw [hsc]; rfl) hn8 (v := .ref e) (by rfl) (wpAny_items_nil ?_)) (by rfl)) (by rfl)) (by rfl) (by rfl)
  refine P.str_of_exc_one F.excStr_ValueError (by have := hA1.units; show (A.deeper env).units + 2 < _; lia) x8 t8 ?_
  refine wpAny_nameGoes (by unfold Env.kindOf; rw [hsc]; rfl) hn8 (by rw [hsc]; rfl) fun h9 m9 hn9 hs9 => ?_
  have hs79 := hs8.trans hs9
  refine H tk _ (fun b o hbL q => ?_) ?_ ?_ (hdr.trans n13.drawn) (hos.trans n13.os) hgx
  · have hbE : b ≠ env.locals := fun z => absurd (Heap.lt_size q) (by rw [z, hloc]; exact Nat.lt_irrefl _)
    refine (hs79.2 b hbE).trans (hfl7.1 b o (hb b o (fun hm => ?_) (keep3 b o q)))
    rw [hF] at hm
    rcases List.mem_cons.mp hm with rfl | hm
    · exact absurd (Heap.lt_size q) (Nat.not_lt.mpr hCge)
    · rcases List.mem_cons.mp hm with rfl | hm
      · exact hbE rfl
      · exact hbL (List.mem_singleton.mp hm)
  · obtain ⟨sl, e⟩ := sl7 L0 m0 oL (keep3 _ _ hL) hLd
    exact ⟨sl, (hs79.2 L0 hLne).trans e⟩
  · have := hn9.lt
    rw [hloc] at this
    exact Nat.le_of_lt this
end
end Mine

open PySem PySem.W PyProof.Rows PySem.Calls
namespace Mine
def badL : List Nat := [105, 110, 118, 97, 108, 105, 100, 32, 103, 114, 111, 117, 112, 105, 110, 103]
theorem key127 {D : Wd} (X : Std D) : keepIn D.K (.ref 127) = true := by rw [X.K]; decide +kernel
/-- the frame's table changes in its slots alone -/
theorem Rep.slots {D : Wd} {c : Cx} {env : Env} {B h h' : Heap} {rs : List (Addr × Obj)} {ca p : List Addr} {st : St} {oL : Obj} (R : Rep D c env B h rs ca p st) (hL : h.get? env.locals = some oL) (k : ∀ b o, b ≠ env.locals → h.get? b = some o → h'.get? b = some o) (hs : ∃ sl, h'.get? env.locals = some { oL with slots := sl }) : Rep D c env B h' rs ca p st := by
  have mC : ∀ a ∈ ca, a ≠ env.locals := fun a h => nd_loc R.nd (List.mem_append_left _ h)
  have mP : ∀ a ∈ p, a ≠ env.locals := fun a h => nd_loc R.nd (List.mem_append_right _ (List.mem_append_left _ h))
  obtain ⟨m, ⟨o, es, ep, e, d, r⟩, hl, hv⟩ := R.loc
  rw [hL] at e; (first | exact none_some e | exact some_none e | (obtain rfl := Option.some.inj e) | cases e)
  obtain ⟨sl, hs⟩ := hs
  exact { R with
    ext := fun b o q => k b o (fun z => by rw [z, R.off _ (.head _)] at q; (first | exact none_some q | exact some_none q | (obtain rfl := Option.some.inj q) | cases q)) (R.ext b o q)
    loc := ⟨m, ⟨_, es, ep, hs, d, r⟩, hl, hv⟩
    cel := ⟨R.cel.1, fun i a o q r => let ⟨ov, ⟨oc, ho, hd⟩, w⟩ := R.cel.2 i a o q r; ⟨ov, ⟨oc, k _ _ (mC _ (mem_ca q)) ho, hd⟩, w⟩⟩
    own := ⟨R.own.1, fun j a l q r => let ⟨vs, ⟨nn, hL⟩, w⟩ := R.own.2 j a l q r; ⟨vs, ⟨nn, k _ _ (mP _ (mem_ca q)) hL⟩, w⟩⟩
    held := fun q hq => k _ _ (nd_loc R.nd (List.mem_append_right _ (List.mem_append_right _ (List.mem_map_of_mem (f := (·.1)) hq)))) (R.held q hq) }
section
variable {D : Wd} {n : Nat} {script : List Int} {g : List Int} {ts : List (List Nat)} {a b c d e : Option V}
abbrev S5 (script : List Int) (a b c d e : Option V) (g : List Int) (ts : List (List Nat)) : St := { loc := [some (vI script), a, b, c, d, e], cel := [some (vI g), some (vTs ts)] }
theorem law5 (X : Std D) {A : Around} {env : Env} {B : Heap} {s : Shared} {rs : List (Addr × Obj)} {ca p : List Addr} {Q : Flow → Shared → Prop} {E : Value → Shared → Prop} (hA : Room (n + 3) A) (hfr : A.frames = some [env]) (hfe : env.frame = some env.locals)
    (R : Rep D c28 env B s.heap rs ca p (st28 script a b c d e (some (vI g)) (some (vTs ts))))
    (H : ∀ B' p' s', Nx s s' B B' p p' → Rep D c28 env B' s'.heap rs ca p' (st28 script a b c d e (some (vI g)) (some (vTs ts))) → Q .next s') :
    wpAny (model D.prog D.w) A (exec (stmt28 5) env) Q E s := by
  have hz' := sizeLine_eq
  change Rep D c28 env B s.heap rs ca p (S5 script a b c d e g ts) at R
  refine wpAny_If (isTrue_or (wpAny_isTrue_Compare1 (Call_ ((Ex.g (D := D) (n := n + 3) (c := c28) (st := S5 script a b c d e g ts) X 11) A env B s rs ca p _ E hA R fun v B1 p1 s1 n1 R1 q1 => ?_) (by rfl)) (by with_unfolding_all rfl)))
  cases (show VF B1 v (.raw (.ref 127)) from q1)
  refine callWith_K R1.good.k (key127 X) ((Es.one (D := D) (n := n + 3) (c := c28) (st := S5 script a b c d e g ts) (W := vI [0, 3]) (Ex.list (Es.two (Ex.int (i := 0)) (Ex.int (i := 3))) rfl (by first | decide | (rw [hz']; simp))) (by intros; rfl)) A env B1 s1 rs ca p1 _ E _ hA R1 fun vs B2 p2 s2 n2 R2 q2 => ⟨R2.kh, ?_⟩) (by rfl) rfl
  apply VRs.one q2; intro v q2 
  obtain ⟨m, ⟨oL, es, ep, eL, dL, _⟩, _⟩ := R2.loc
  refine refused_raise X hA hfr (by rw [R2.scope, R2.fn]; decide) hfe eL (fun vs q => by rw [dL] at q; (first | exact none_some q | exact some_none q | (obtain rfl := Option.some.inj q) | cases q)) R2.good R2.ext (R2.off _ (.head _)) q2.1 fun tk s3 k1 k2 k3 k4 k5 k6 => ?_
  have R3 := R2.slots eL k1 k2
  have n3 : Nx s s3 B B2 p p2 := (n1.trans n2).trans ⟨.refl B2, fun _ _ e => .inl e, k3, .refl _, k4, k5, k6, fun _ h => .inl h⟩
  refine (Ex.s (D := D) (n := n + 3) (c := c28) (st := S5 script a b c d e g ts) (l := badL) (by rfl)) A env B2 s3 rs ca p2 _ E hA R3 fun u B4 p4 s4 n4 R4 q4 => ?_
  refine (T2.neS (D := D) (n := n + 3) (c := c28) (st := S5 script a b c d e g ts) (a := badL) (b := badL)) A env B4 s4 rs ca p4 _ E _ u hA R4 (show VR B4 p4 (.str badG tk) (.str badG) from .of (.str ..)) q4 fun x B5 p5 s5 n5 R5 q5 => ?_
  cases (show VF B5 x (.bool false) from q5)
  refine wpAny_truthy_bool ?_
  refine isTrue_or ((Tr.cast (Tr.cmp (a := vI []) (b := vI []) (Ex.callK (Ex.g X 11) (Es.one (Ex.list (Es.two (Ex.int (i := 127)) (Ex.int (i := 3))) rfl (by first | decide | (rw [hz']; simp)))) ((spec22 X (G := [127, 3]) (ys := []) (.max) (by first | rfl | decide | simp)).tn rfl) (key127 X)) (Ex.list Es.nil rfl (by first | rfl | decide | simp)) (T2.neInts (xs := []) (ys := []) rfl rfl)) (by first | rfl | decide | simp) : Tr D (n + 3) c28 (S5 script a b c d e g ts) _ false (S5 script a b c d e g ts)) A env B5 s5 rs ca p5 _ E hA R5 fun B6 p6 s6 n6 R6 => isTrue_or ((Tr.cast (Tr.cmp (a := vI [3]) (b := vI [3]) (Ex.callK (Ex.g X 11) (Es.one (Ex.list (Es.cons (Ex.int (i := 3)) (Es.two (Ex.int (i := 127)) (Ex.int (i := 2))) (by intros; rfl)) rfl (by first | decide | (rw [hz']; simp)))) ((spec22 X (G := [3, 127, 2]) (ys := [3]) (.cons (by decide) (by decide) .max) (by first | rfl | decide | simp)).tn rfl) (key127 X)) (Ex.list (Es.one Ex.int) rfl (by first | decide | (rw [hz']; simp))) (T2.neInts (xs := [3]) (ys := [3]) rfl rfl)) (by first | rfl | decide | simp) : Tr D (n + 3) c28 (S5 script a b c d e g ts) _ false (S5 script a b c d e g ts)) A env B6 s6 rs ca p6 _ E hA R6 fun B7 p7 s7 n7 R7 => isTrue_or_nil ?_))
  exact wpAny_execs_nil (H B7 p7 s7 ((((n3.trans n4).trans n5).trans n6).trans n7) R7)
end
end Mine

open PySem PySem.W PyProof.Rows PySem.Calls
namespace Mine
theorem sizes_le (script : List Int) : ∀ y ∈ sizesOf script, 1 ≤ y ∧ y ≤ 4 := by
  intro y hy
  obtain ⟨x, _, rfl⟩ := List.mem_map.mp hy
  have h1 := Int.fmod_nonneg_of_pos x (b := 4) (by decide)
  have h2 := Int.fmod_lt_of_pos x (b := 4) (by decide)
  lia
theorem kind_of (script : List Int) : ∃ ys f, Kind (sizesOf script ++ [3, 2]) (groupOf script) ys f ∧ (f = true ∨ 11 ≤ ys.length) := by
  unfold groupOf endOf
  split
  · exact ⟨_, _, .zero, .inr (by first | rfl | decide | simp)⟩
  · split
    · exact ⟨_, _, .max, .inl rfl⟩
    · rw [List.append_nil]; exact ⟨_, _, .none, .inl rfl⟩
theorem group_le (script : List Int) : (groupOf script).length ≤ 20 ∧ ∀ x ∈ groupOf script, 0 ≤ x ∧ x ≤ 1000 := by
  have h2 : (sizesOf script).length ≤ 2 := by unfold sizesOf; simp; lia
  have h := sizes_le script
  unfold groupOf endOf
  constructor
  · split
    · simp; lia
    · split <;> simp <;> lia
  · intro x hx
    rcases List.mem_append.mp hx with hx | hx
    · rcases List.mem_append.mp hx with hx | hx
      · have := h x hx; lia
      · simp at hx; lia
    · revert hx
      split
      · simp; intro h; lia
      · split
        · simp; intro h; lia
        · intro h; (first | exact none_some h | exact some_none h | (obtain rfl := Option.some.inj h) | cases h)
theorem rows_ok (script : List Int) : 2 ≤ (rowsOf script).length ∧ (rowsOf script).length ≤ 10 ∧ ∀ r ∈ rowsOf script, r ≠ [] ∧ r.length ≤ 8 ∧ ∀ c ∈ r, 48 ≤ c ∧ c ≤ 57 := by
  refine ⟨by unfold rowsOf numsOf; simp, by unfold rowsOf numsOf; simp; lia, fun r hr => ?_⟩
  obtain ⟨x, _, rfl⟩ := List.mem_map.mp hr
  obtain ⟨h1, h2⟩ := fmod8 x
  unfold digL
  refine ⟨fun h => Nat.toDigits_ne_nil (List.map_eq_nil_iff.mp h), ?_, fun c hc => ?_⟩
  · rw [List.length_map]
    exact (Nat.length_toDigits_le_iff (by decide) (by decide)).mpr (by lia)
  · obtain ⟨d, hd, rfl⟩ := List.mem_map.mp hc
    have := Nat.isDigit_of_mem_toDigits (by decide) (by decide) hd
    simp only [Char.isDigit, Bool.and_eq_true, decide_eq_true_eq] at this
    exact ⟨this.1, this.2⟩
/-- how many signs in all -/
def tot (l : List (List Nat)) : Nat := (l.map List.length).sum
theorem tot_cons (x : List Nat) (l : List (List Nat)) : tot (x :: l) = x.length + tot l := rfl
theorem tot_snoc (l : List (List Nat)) (x : List Nat) : tot (l ++ [x]) = tot l + x.length := by unfold tot; simp
theorem tot_rev (l : List (List Nat)) : tot l.reverse = tot l := by unfold tot; rw [List.map_reverse, List.sum_reverse]
theorem joinL_sig : ∀ (l : List (List Nat)), ∀ c ∈ joinL [44] l, c = 44 ∨ ∃ p ∈ l, c ∈ p
  | [], c, h => nomatch h
  | [x], c, h => .inr ⟨x, .head _, h⟩
  | x :: y :: r, c, h => by
    rw [joinL] at h
    rcases List.mem_append.mp h with h | h
    · rcases List.mem_append.mp h with h | h
      · exact .inr ⟨x, .head _, h⟩
      · exact .inl (List.mem_singleton.mp h)
    · exact (joinL_sig (y :: r) c h).imp id fun ⟨p, hp, hc⟩ => ⟨p, .tail _ hp, hc⟩
theorem joinL_len : ∀ (l : List (List Nat)), (joinL [44] l).length ≤ tot l + l.length ∧ tot l ≤ (joinL [44] l).length
  | [] => ⟨Nat.le_refl _, Nat.le_refl _⟩
  | [x] => by rw [tot_cons]; show x.length ≤ x.length + tot [] + 1 ∧ x.length + 0 ≤ x.length; lia
  | x :: y :: r => by
    have := joinL_len (y :: r)
    rw [joinL, tot_cons, List.length_append, List.length_append, List.length_cons (a := x), List.length_singleton]
    lia
theorem stepA_inv {f : List Nat} : ∀ (ys : List Int) (q : List (List Nat) × List Nat), (∀ y ∈ ys, 1 ≤ y) → (∀ p ∈ q.1, p ≠ [] ∧ ∀ c ∈ p, c ∈ f) → (∀ c ∈ q.2, c ∈ f) → tot q.1 + q.2.length = f.length →
    (∀ p ∈ (ys.foldl stepA q).1, p ≠ [] ∧ ∀ c ∈ p, c ∈ f) ∧ (∀ c ∈ (ys.foldl stepA q).2, c ∈ f) ∧ tot (ys.foldl stepA q).1 + (ys.foldl stepA q).2.length = f.length
  | [], q, _, h1, h2, h3 => ⟨h1, h2, h3⟩
  | y :: r, q, hy, h1, h2, h3 => by
    rw [List.foldl_cons]
    by_cases he : q.2 = []
    · have hs : stepA q y = q := by unfold stepA; rw [if_pos he]
      rw [hs]; exact stepA_inv r q (fun z hz => hy z (.tail _ hz)) h1 h2 h3
    · have hl := sl_pre_len (hy y (.head _)) he
      have hs : stepA q y = (q.1 ++ [sl q.2 (some (-y)) none], sl q.2 none (some (-y))) := by unfold stepA; rw [if_neg he]
      have hb : (sl q.2 (some (-y)) none).length + (sl q.2 none (some (-y))).length = q.2.length := by
        unfold sl
        simp only [List.length_take, List.length_drop, Option.elim]
        have := clipAt_le q.2.length (-y)
        lia
      have m1 : ∀ c ∈ sl q.2 (some (-y)) none, c ∈ q.2 := fun c hc => List.mem_of_mem_drop (List.mem_of_mem_take hc)
      have m2 : ∀ c ∈ sl q.2 none (some (-y)), c ∈ q.2 := fun c hc => List.mem_of_mem_drop (List.mem_of_mem_take hc)
      rw [hs]
      refine stepA_inv r _ (fun z hz => hy z (.tail _ hz)) (fun p hp => ?_) (fun c hc => h2 c (m2 c hc)) ?_
      · rcases List.mem_append.mp hp with hp | hp
        · exact h1 p hp
        · rw [List.mem_singleton.mp hp]
          exact ⟨fun h => by rw [h, List.length_nil] at hb; lia, fun c hc => h2 c (m1 c hc)⟩
      · show tot (q.1 ++ [_]) + (sl q.2 none (some (-y))).length = _
        rw [tot_snoc]; lia
theorem tot_ge : ∀ (l : List (List Nat)), (∀ p ∈ l, p ≠ []) → l.length ≤ tot l
  | [], _ => Nat.le_refl _
  | x :: l, h => by
    have := tot_ge l fun p hp => h p (.tail _ hp)
    have hx : 0 < x.length := List.length_pos_iff.mpr (h x (.head _))
    rw [tot_cons, List.length_cons]; lia
theorem text_ok {ys : List Int} {f : List Nat} (hy : ∀ y ∈ ys, 1 ≤ y) (hne : f ≠ []) (hl : f.length ≤ 8) (hc : ∀ c ∈ f, 48 ≤ c ∧ c ≤ 57) : TextOk (redL (partsOut ys f)) := by
  have hp : partsL ys ([], f) = ys.foldl stepA ([], f) := partsL_step ys _ hy (by show 0 + f.length ≤ 9; lia)
  obtain ⟨h1, h2, h3⟩ := stepA_inv (f := f) ys ([], f) hy (fun p hp => nil_elim hp) (fun c hc => hc) (by show 0 + f.length = _; lia)
  have hfp : 0 < f.length := List.length_pos_iff.mpr hne
  obtain ⟨k1, k2⟩ : (∀ p ∈ partsOut ys f, p ≠ [] ∧ ∀ c ∈ p, c ∈ f) ∧ tot (partsOut ys f) = f.length := by
    unfold partsOut
    rw [hp]
    dsimp only
    split
    · rename_i hb
      exact ⟨fun p hp => (List.mem_append.mp hp).elim (h1 p) fun hp => by rw [List.mem_singleton.mp hp]; exact ⟨hb, h2⟩, by rw [tot_snoc]; exact h3⟩
    · rename_i hb
      have hb : (ys.foldl stepA ([], f)).2 = [] := Decidable.not_not.mp hb
      rw [hb] at h3
      exact ⟨h1, h3⟩
  rw [redL_join]
  have hj := joinL_len (partsOut ys f).reverse
  have hg := tot_ge (partsOut ys f) fun p hp => (k1 p hp).1
  rw [tot_rev, List.length_reverse, k2] at hj
  rw [k2] at hg
  refine ⟨fun h => by rw [h, List.length_nil] at hj; lia, by lia, fun c hc' => ?_⟩
  exact (joinL_sig _ c hc').imp id fun ⟨p, hp, hcp⟩ => hc c ((k1 p (List.mem_reverse.mp hp)).2 c hcp)
theorem kind_pos {G0 g ys : List Int} {f : Bool} (h : ∀ y ∈ G0, 1 ≤ y ∧ y ≤ 4) (k : Kind (G0 ++ [3, 2]) g ys f) : ∀ y ∈ ys, 1 ≤ y := by
  have hG : ∀ y ∈ G0 ++ [3, 2], 1 ≤ y := fun y hy => by
    rcases List.mem_append.mp hy with hy | hy
    · exact (h y hy).1
    · simp at hy; lia
  cases k with
  | zero => exact fun y hy => (List.mem_append.mp hy).elim (hG y) fun hy => by rw [List.eq_of_mem_replicate hy]; decide
  | max => exact hG
  | none => exact hG
end Mine

open PySem PySem.W PyProof.Rows PySem.Calls
namespace Mine
theorem S1.go {D : Wd} {n : Nat} {c : Cx} {st st' : St} {x : Stmt} {xs : List Stmt} {A : Around} {env : Env} {B : Heap} {s : Shared} {rs : List (Addr × Obj)} {ca p : List Addr} {Q : Flow → Shared → Prop} {E : Value → Shared → Prop} (h : S1 D n c st x .next st') (hA : Room n A) (R : Rep D c env B s.heap rs ca p st)
    (H : ∀ B' p' s', Nx s s' B B' p p' → Rep D c env B' s'.heap rs ca p' st' → wpAny (model D.prog D.w) A (execs xs env) Q E s') : wpAny (model D.prog D.w) A (execs (x :: xs) env) Q E s :=
  wpAny_execs_cons (h A env B s rs ca p _ E hA R fun fl B' p' s' n' R' q' => by
    cases fl with
    | next => exact H B' p' s' n' R'
    | _ => exact q'.elim)
theorem split_two {α β : Type} {rs : List (α × β)} {a b : α} {x y : β} (hne : a ≠ b) (ha : (a, x) ∈ rs) (hb : (b, y) ∈ rs) : ∃ rest, rs.Perm ((a, x) :: (b, y) :: rest) := by
  obtain ⟨l1, l2, rfl⟩ := List.append_of_mem ha
  have hb' : (b, y) ∈ l1 ++ l2 := by
    rcases List.mem_append.mp hb with h | h
    · exact List.mem_append_left _ h
    · rcases List.mem_cons.mp h with h | h
      · exact absurd (congrArg (·.1) h).symm hne
      · exact List.mem_append_right _ h
  obtain ⟨m1, m2, e⟩ := List.append_of_mem hb'
  refine ⟨m1 ++ m2, List.perm_middle.trans (List.Perm.cons _ ?_)⟩
  rw [e]
  exact List.perm_middle
theorem law_call {D : Wd} (X : Std D) {A : Around} (hA : Room 13 A) (hfr : A.frames = some []) {script : List Int} (hs : script.length ≤ 1000) {B : Heap} {s : Shared} {v : Value} (G : Good D B) (XE : Ext B s.heap) (hv : VF B v (vI script)) (hst : statOk (B.get? 2) = true)
    (h156 : s.heap.get? 156 = some (tabObj #[])) (h92 : s.heap.get? 92 = some (tabObj #[])) (o156 : B.get? 156 = none) (o92 : B.get? 92 = none) {Q : Value → Shared → Prop} {E : Value → Shared → Prop}
    (H : ∀ s' ps qs, Ext B s'.heap → s'.heap.get? 156 = some (tabObj ps) → s'.heap.get? 92 = some (tabObj qs) → GExt s.gens s'.gens → s'.os = s.os → Q (.bool true) s') : wpAny (model D.prog D.w) A (call (.ref 159) [v]) Q E s := by
  refine enter_def (Ws := [vI script]) (def28 X) rfl hA G XE (.cons hv .nil) fun env s1 rs ca hfe _ he hA1 R hrs n1 => ?_
  obtain ⟨o, fd, hK, hd, he⟩ := he
  rw [X.K] at hK
  rw [show K0.lookup 159 = some (fnO 28 mLaw 575 158 .none) by rfl] at hK
  (first | exact none_some hK | exact some_none hK | (obtain rfl := Option.some.inj hK) | cases hK)
  (first | exact none_some hd | exact some_none hd | (obtain rfl := Option.some.inj hd) | cases hd)
  have hcode : env.code = .ref 158 := by rw [he]; rfl
  have hqual : env.qual = "law.<locals>." := by rw [he]; rfl
  change Rep D c28 env B s1.heap rs ca [] (st28 script none none none none none none none) at R
  have hfr1 : (A.deeper env).frames = some [env] := by show A.frames.map _ = _; rw [hfr]; rfl
  generalize A.deeper env = A1 at hA1 hfr1 ⊢
  obtain ⟨rest, hperm⟩ := split_two (by decide) (hrs _ _ h156 o156) (hrs _ _ h92 o92)
  replace R := R.perm hperm
  obtain ⟨ys, f, hk, hkf⟩ := kind_of script
  have hsz := sizes_le script
  obtain ⟨hg1, hg2⟩ := group_le script
  obtain ⟨hr1, hr2, hr3⟩ := rows_ok script
  have hY := kind_gy hsz hk
  have hy := kind_pos hsz hk
  have hlen : ((rowsOf script).map fun r => redL (partsOut ys r)).length = (rowsOf script).length := List.length_map _
  have heq : ((rowsOf script).map fun r => redL (partsOut ys r)) = (rowsOf script).map fun r => dueL r (groupOf script) := List.map_congr_left fun r hr => due_eq hsz hk (hr3 r hr).2.1
  have hok : ∀ t ∈ ((rowsOf script).map fun r => redL (partsOut ys r)), TextOk t := fun t ht => by
    obtain ⟨r, hr, rfl⟩ := List.mem_map.mp ht
    exact text_ok hy (hr3 r hr).1 (hr3 r hr).2.1 (hr3 r hr).2.2
  show wpAny _ A1 (execs [stmt28 0, stmt28 1, stmt28 2, stmt28 3, stmt28 4, stmt28 5, stmt28 6, stmt28 7, stmt28 8, stmt28 9, stmt28 10] env) _ _ s1
  refine (law0 X script hs).go hA1 R fun B2 p2 s2 n2 R2 => ?_
  refine (law1 script hs).go hA1 R2 fun B3 p3 s3 n3 R3 => ?_
  refine (law2 X script hs).go hA1 R3 fun B4 p4 s4 n4 R4 => ?_
  have st4 := (((n1.trans n2).trans n3).trans n4)
  refine wpAny_execs_cons (law3 X (n := 9) script hY hkf (fun r hr => ⟨(hr3 r hr).1, Nat.le_trans (hr3 r hr).2.1 (by decide)⟩) (by lia) hA1 hcode hqual (.inl rfl) R4 fun B5 p5 s5 ps5 n5 ht5 R5 => ?_)
  generalize hts : ((rowsOf script).map fun r => redL (partsOut ys r)) = ts at hlen heq hok R5
  refine (law4 X (n := 11) script (fun r hr => Nat.le_trans (hr3 r hr).2.1 (by decide)) (by lia) hg1 hg2 heq).go hA1 R5 fun B6 p6 s6 n6 R6 => ?_
  refine wpAny_execs_cons (law5 X (n := 9) hA1 hfr1 hfe R6 fun B7 p7 s7 n7 R7 => ?_)
  refine (law6 X (n := 11) script hok (by lia)).go hA1 R7 fun B8 p8 s8 n8 R8 => ?_
  have n18 := (((st4.trans n5).trans n6).trans n7).trans n8
  refine wpAny_execs_cons (law7 X (n := 0) script hlen.symm (by lia) (by lia) hA1 hcode hqual ?_ (ht5.keeps ((n6.ext.trans n7.ext).trans n8.ext)) R8 fun B9 p9 s9 ps9 qs9 pm n9 hp ha R9 => ?_)
  · cases q : B.get? 2 with
    | none => rw [q] at hst; (first | exact none_some hst | exact some_none hst | (obtain rfl := Option.some.inj hst) | cases hst)
    | some o => rw [n18.ext 2 o q, ← q]; exact hst
  refine (law8 X (n := 12) script hok (by lia)).go hA1 R9 fun B10 p10 s10 n10 R10 => ?_
  refine (law9 X (n := 11) script (by lia) hp ha).go hA1 R10 fun B11 p11 s11 n11 R11 => ?_
  refine wpAny_execs_cons (law10 X (n := 8) script hok (by lia) A1 env B11 s11 _ ca p11 _ _ hA1 R11 fun fl B12 p12 s12 n12 R12 q12 => ?_)
  cases fl with
  | ret u =>
    cases (show VF B12 u (.bool true) from q12)
    have n112 := (((n18.trans n9).trans n10).trans n11).trans n12
    exact H s12 ps9 qs9 (fun b o e => R12.ext b o (n112.ext b o e)) (R12.held _ (.head _)) (R12.held _ (.tail _ (.head _))) n112.gens n112.os
  | _ => exact q12.elim
end Mine

open PySem PySem.W PyProof.Rows PySem.Calls
namespace Mine
theorem ns_map {h : Heap} {a : Addr} {m : Str → Option Value} (x : h.Ns a m) (y : Str) : m y = h.nsMap a y := by
  obtain ⟨o, es, ep, e, d, _, r⟩ := x
  unfold Heap.nsMap
  rw [e]
  dsimp only
  rw [d]
  exact (r y).symm
theorem wells {P : Params} {h : Heap} : ∀ (ns : List Int) (vs : List Value), WellAll P h vs (ns.map .int) → VFs h vs (ns.map .int)
  | [], vs, w => by cases w; exact .nil
  | n :: ns, vs, w => by
    cases w with
    | cons a b =>
      (first | exact none_some a | exact some_none a | (obtain rfl := Option.some.inj a) | cases a)
      exact .cons (.int ..) (wells ns _ b)
theorem vfs_on {h B : Heap} : ∀ {vs : List Value} {ns : List Int}, VFs h vs (ns.map .int) → VFs B vs (ns.map .int)
  | _, [], .nil => .nil
  | _, n :: ns, .cons a b => by
    (first | exact none_some a | exact some_none a | (obtain rfl := Option.some.inj a) | cases a)
    exact .cons (.int ..) (vfs_on b)
theorem codeRec_of {h : Heap} {c : Addr} {q : Str} (e : codeNm (h.get? c) = some q) : h.CodeRec (.ref c) q := by
  unfold codeNm at e
  split at e
  · rename_i cl d vs sl q'
    split at e
    · rename_i x t r
      (first | exact none_some e | exact some_none e | (obtain rfl := Option.some.inj e) | cases e)
      exact ⟨c, _, vs, t, rfl, q', rfl, r⟩
    · (first | exact none_some e | exact some_none e | (obtain rfl := Option.some.inj e) | cases e)
  · (first | exact none_some e | exact some_none e | (obtain rfl := Option.some.inj e) | cases e)
theorem value_not {R : WRecords} {t : WTm} {e : WCtx} {b : Bool} (h : WTm.value R t e = some (.bool b)) : WTm.value R (.not t) e = some (.bool (!b)) := by
  show (match WTm.value R t e with | some (.bool b) => some (WData.bool (!b)) | _ => none) = _
  rw [h]
theorem value_and {R : WRecords} {t u : WTm} {e : WCtx} (h : WTm.value R t e = some (.bool false)) : WTm.value R (.and t u) e = some (.bool false) := by
  show (match WTm.value R t e with | some (.bool false) => some (WData.bool false) | some (.bool true) => (match WTm.value R u e with | some (.bool x) => some (WData.bool x) | _ => none) | _ => none) = _
  rw [h]
theorem pre_len {R : WRecords} {xs : List WData} (h : WTm.holds R PySem.Challenge.rw_in0118_01.pre { args := [.list xs] } = true) : xs.length ≤ 63 := by
  have hv : WTm.value R (.not (.lt (.lit (.int 63)) (.len (.arg 0)))) { args := [.list xs] } = some (.bool (!decide ((63 : Int) < (xs.length : Int)))) := value_not rfl
  cases q : decide ((63 : Int) < (xs.length : Int)) with
  | false => have := of_decide_eq_false q; omega
  | true =>
    rw [q] at hv
    unfold WTm.holds at h
    rw [show PySem.Challenge.rw_in0118_01.pre = .and (.not (.lt (.lit (.int 63)) (.len (.arg 0)))) (.lit (.bool true)) from rfl, value_and hv] at h
    (first | exact none_some h | exact some_none h | (obtain rfl := Option.some.inj h) | cases h)
theorem wells_one {P : Params} {h : Heap} {vals : List Value} {ns : List Int} (w : WellAll P h vals [.list (ns.map .int)]) : ∃ l vs, vals = [.ref l] ∧ h.get? l = some ⟨.type "list", none, .seq vs.toArray 0, #[]⟩ ∧ VFs h vs (ns.map .int) := by
  cases w with
  | cons hw hn =>
    cases hn
    cases hw with
    | list hl hvs => exact ⟨_, _, rfl, hl, wells ns _ hvs⟩
theorem walk0 : WalkO view loose (XL view []) hook0.says PySem.Challenge.rw_in0118_01.row.toRowW dLaw [] fun f vs => PySem.call f vs := by
  intro w s₀ s₁ mg mb Gr Y a o pm cd doc dV kV ho hd hcr hdf hmg hgens args vals as hpre hlay hreads hwell hmods
  replace Y : Says0 s₁.heap := Y
  clear hlay hreads hd hcr hdf hmods ho
  obtain ⟨h1, h2⟩ := pre_splitW hpre
  clear hpre
  obtain ⟨d, r, rfl, h3, h4⟩ := hasAllW_cons h1
  obtain rfl := hasAllW_nil h4
  obtain ⟨xs, rfl, h5⟩ := hasW_list h3
  obtain ⟨ns, rfl⟩ := items_int h5
  have hlen : ns.length ≤ 63 := by have := pre_len h2; rwa [List.length_map] at this
  clear h1 h2 h3 h4 h5
  obtain ⟨l, vs, rfl, hl, hvs⟩ := wells_one hwell
  clear hwell
  have hgm : ∀ x, mg x = s₁.heap.nsMap mainGlobals x := ns_map Gr.T.g
  have hbm : ∀ x, mb x = s₁.heap.nsMap builtinsNs x := ns_map Gr.T.b
  have ha : a = 159 := by
    have e := Y.glob ("law", some (.ref 159)) (by decide +kernel)
    rw [← hgm] at e
    have : mg "law" = some (.ref a) := hmg
    rw [this] at e
    (first | exact none_some e | exact some_none e | (obtain rfl := Option.some.inj e) | cases e); rfl
  subst ha
  have keep : ∀ b o, b ≠ 156 → b ≠ 92 → s₁.heap.get? b = some o → (hideAll s₁.heap [156, 92]).get? b = some o := fun b o n1 n2 e => hideAll_get _ e (by simp [n1, n2])
  have ext : Ext (hideAll s₁.heap [156, 92]) s₁.heap := fun b o e => of_hideAll _ e
  have t156 := Y.tabs 156 (by decide)
  have t92 := Y.tabs 92 (by decide)
  have hl1 : l ≠ 156 := fun z => by rw [z, t156] at hl; (first | exact none_some hl | exact some_none hl | (obtain rfl := Option.some.inj hl) | cases hl)
  have hl2 : l ≠ 92 := fun z => by rw [z, t92] at hl; (first | exact none_some hl | exact some_none hl | (obtain rfl := Option.some.inj hl) | cases hl)
  have nsK : ∀ {b : Addr} {m : Str → Option Value}, b ≠ 156 → b ≠ 92 → s₁.heap.Ns b m → (hideAll s₁.heap [156, 92]).Ns b m := fun n1 n2 ⟨o, es, ep, e, r⟩ => ⟨o, es, ep, keep _ _ n1 n2 e, r⟩
  let D : Wd := { prog := P0, w := w, K := K0, mg := mg, mb := mb, codes := codes0 }
  have X : Std D := ⟨rfl, rfl, rfl, fun p hp => (hgm _).trans (Y.glob p hp), fun p hp => (hbm _).trans (Y.blt p hp)⟩
  have G : Good D (hideAll s₁.heap [156, 92]) := {
    k := fun b o e => keep b o (fun z => by rw [z] at e; (first | exact none_some e | exact some_none e | (obtain rfl := Option.some.inj e) | cases e)) (fun z => by rw [z] at e; (first | exact none_some e | exact some_none e | (obtain rfl := Option.some.inj e) | cases e)) (Y.objs (b, o) (mem_of_lookupK e))
    g := nsK (by decide) (by decide) Gr.T.g
    b := nsK (by decide) (by decide) Gr.T.b
    lim := let ⟨mc, e1, e2⟩ := Gr.T.nolimit; ⟨mc, nsK (by decide) (by decide) e1, e2⟩
    cod := fun p hp => by
      have hne : ∀ p ∈ codes0, p.1 ≠ 156 ∧ p.1 ≠ 92 := by decide +kernel
      obtain ⟨c, o, vs, t, e, g, r⟩ := codeRec_of (Y.codes p hp)
      have hc : p.1 = c := by cases e; rfl
      exact ⟨c, o, vs, t, e, keep _ _ (hc ▸ (hne p hp).1) (hc ▸ (hne p hp).2) g, r⟩ }
  refine law_call X (A := callerA) ⟨rfl, by decide +kernel, by decide +kernel⟩ rfl (script := ns) (by lia) G ext (.list ⟨0, keep _ _ hl1 hl2 hl⟩ (vfs_on hvs)) ?_ t156 t92 (hideAll_none _ (by decide)) (hideAll_none _ (by decide)) fun s' ps qs x1 x2 x3 x4 x5 => ?_
  · have e := Y.stat
    cases q : s₁.heap.get? 2 with
    | none => rw [q] at e; (first | exact none_some e | exact some_none e | (obtain rfl := Option.some.inj e) | cases e)
    | some o => rw [keep 2 o (by decide) (by decide) q, ← q]; exact e
  · refine ⟨.inl ⟨.bool true, .bool true, [], rfl, fun cls => ?_, .bool true, ?_, fun _ => ⟨.nil, fun a h => nomatch h⟩⟩, ⟨fun b o e => ?_, fun b o e => ?_⟩, x5, ?_⟩
    · rfl
    · refine postW_of (X := true) ?_ ?_ rfl
      · show WShape.has _ (.bool true) .bool = true
        simp [WShape.has, WShape.arms]
      · show WTm.value _ (.eq .res (.lit (.bool true))) _ = _
        exact congrArg some (congrArg WData.bool (by simp [same]))
    · by_cases b1 : b = 156
      · subst b1
        rw [t156] at e; (first | exact none_some e | exact some_none e | (obtain rfl := Option.some.inj e) | cases e)
        exact .inr (.inl ⟨⟨158, _, _, Y.objs _ (List.mem_of_getElem? (i := 22) rfl), rfl, rfl, rfl⟩, rfl, #[], ps, rfl, by rw [x2]; simp⟩)
      · by_cases b2 : b = 92
        · subst b2
          rw [t92] at e; (first | exact none_some e | exact some_none e | (obtain rfl := Option.some.inj e) | cases e)
          exact .inr (.inl ⟨⟨96, _, _, Y.objs _ (List.mem_of_getElem? (i := 21) rfl), rfl, rfl, rfl⟩, rfl, #[], qs, rfl, by rw [x3]; simp⟩)
        · exact .inl (x1 b o (keep b o b1 b2 e))
    · by_cases b1 : b = 156
      · exact ⟨_, b1 ▸ x2⟩
      · by_cases b2 : b = 92
        · exact ⟨_, b2 ▸ x3⟩
        · exact ⟨o, x1 b o (keep b o b1 b2 e)⟩
    · obtain ⟨gl, e, hg⟩ := x4
      rw [e, hgens]
      intro y hy
      exact hg y (by simpa using hy)
end Mine

theorem PySem.Challenge.cw_in0118_01_holds : PySem.Challenge.rw_in0118_01.Holds :=
  Mine.head0 Mine.walk0
