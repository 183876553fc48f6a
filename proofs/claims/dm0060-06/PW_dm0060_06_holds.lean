import PyProof.Rows.All
import Wide.All
import OpenK.AllK
import Wide.FinOn
import Open.Tops
import PySem.Challenge.RW_dm0060_06
open PySem PySem.W PyProof.Rows
set_option Elab.async false
set_option linter.unusedVariables false
set_option maxRecDepth 100000
namespace Mine
abbrev AnyT := Array Nat → (Nat → Bool) → Nat → Nat → Bool
noncomputable def anyL (as : Array Nat) (p : Nat → Bool) (a b : Nat) : Bool :=
  @Bool.rec (fun _ => Bool) (Array.any as p a b) (as.toList.any p) (Nat.beq a 0 && Nat.beq b as.size)
theorem anyL_eq : @Array.any Nat = anyL := by
  funext as p a b
  unfold anyL
  cases h : (Nat.beq a 0 && Nat.beq b as.size) with
  | false => rfl
  | true =>
    obtain ⟨h1, h2⟩ := Bool.and_eq_true_iff.mp h
    have e1 := Nat.eq_of_beq_eq_true h1
    have e2 := Nat.eq_of_beq_eq_true h2
    subst e1; subst e2
    exact Array.any_toList.symm
inductive Carrier (b : Builtin) : Type where
  | mk : Carrier b
def fromType {b : Builtin} (_ : Carrier b) : Builtin := b
noncomputable def newF (g : AnyT) (h : @Array.any Nat = g) : Builtin := by
  have key : Carrier PySem.Builtin.«type.__new__» := .mk
  delta PySem.Builtin.«type.__new__» at key
  exact fromType (h ▸ key)
theorem newF_eq (g : AnyT) (h : @Array.any Nat = g) : PySem.Builtin.«type.__new__» = newF g h := by
  subst h
  delta newF fromType
  rfl
noncomputable def newFast : Builtin := newF anyL anyL_eq
noncomputable def tbl (id : String) : Option Builtin := @Bool.rec (fun _ => Option Builtin) (treeTable id) (some newFast) (Nat.beq (code id) 29827186395103491166823348853)
theorem find_new : treeTable "type.__new__" = some PySem.Builtin.«type.__new__» := by
  unfold treeTable
  rfl
theorem code_new : code "type.__new__" = 29827186395103491166823348853 := by decide +kernel
theorem tbl_eq : treeTable = tbl := by
  funext id
  unfold tbl
  cases h : Nat.beq (code id) 29827186395103491166823348853 with
  | false => rfl
  | true =>
    have h1 := Nat.eq_of_beq_eq_true h
    show treeTable id = some newFast
    unfold treeTable
    rw [h1, ← code_new]
    have := find_new
    unfold treeTable at this
    rw [this]
    exact congrArg some (newF_eq anyL anyL_eq)
end Mine
lay_quick PySem.W.topFrame PySem.W.topAfter PySem.W.behindTheImports PySem.W.segRun PySem.W.topGo PySem.W.topRun PySem.W.segRunT PySem.W.topStub PySem.W.blockOf PySem.W.piecesOf PySem.W.SharedT.abs PySem.W.doneF PySem.W.staticsOk importedModules PySem.W.namesBound PySem.W.gensDone PySem.W.laidKept PySem.W.openSeen PySem.W.openGood PySem.W.view PySem.W.recOk PySem.Heap.isNs PySem.Heap.nsMap
open_shared Mine.A for PySem.Challenge.pw_dm0060_06 leaving 5
namespace Mine
abbrev pw : Program := PySem.Challenge.pw_dm0060_06
def stAt : List Stmt → Nat → Stmt
  | s :: _, 0 => s
  | _ :: r, n + 1 => stAt r n
  | [], _ => .Pass ⟨0, 0, 0, 0⟩
def clsBody : Stmt → List Stmt
  | .ClassDef _ _ _ b _ _ _ _ _ _ _ => b
  | _ => []
def fnParams : Stmt → Arguments
  | .FunctionDef _ a _ _ _ _ _ _ _ _ => a
  | _ => ⟨[], [], none, [], [], none, []⟩
def fnBody : Stmt → List Stmt
  | .FunctionDef _ _ b _ _ _ _ _ _ _ => b
  | _ => []
def fnScope : Stmt → Scope
  | .FunctionDef _ _ _ _ _ _ s _ _ _ => s
  | _ => default
def docAt (b : List Stmt) : Str := (docOf b).getD default
noncomputable def k1 (P : Params) : Obj := { cls := (.type "dict"), dict := none, data := (.dict [⟨PyData.keyHash P (Str.ofString "builtins"), (.str (Str.ofString "builtins") 162), (.ref 4)⟩, ⟨PyData.keyHash P (Str.ofString "__main__"), (.str (Str.ofString "__main__") 163), (.ref 5)⟩].toArray 2), slots := [].toArray }
noncomputable def k3 (P : Params) : Obj := { cls := (.type "dict"), dict := none, data := (.dict [⟨PyData.keyHash P (Str.ofString "__name__"), (.str (Str.ofString "__name__") 165), (.str (Str.ofString "law_dm0060_06") 575)⟩, ⟨PyData.keyHash P (Str.ofString "__doc__"), (.str (Str.ofString "__doc__") 166), .none⟩, ⟨PyData.keyHash P (Str.ofString "__package__"), (.str (Str.ofString "__package__") 167), .none⟩, ⟨PyData.keyHash P (Str.ofString "__loader__"), (.str (Str.ofString "__loader__") 168), (.builtin "__main__.__loader__#opaque")⟩, ⟨PyData.keyHash P (Str.ofString "__spec__"), (.str (Str.ofString "__spec__") 169), .none⟩, ⟨PyData.keyHash P (Str.ofString "__annotations__"), (.str (Str.ofString "__annotations__") 170), (.ref 6)⟩, ⟨PyData.keyHash P (Str.ofString "__builtins__"), (.str (Str.ofString "__builtins__") 171), (.ref 4)⟩, ⟨PyData.keyHash P (Str.ofString "__file__"), (.str (Str.ofString "__file__") 173), (.str (Str.ofString "/claim/cut.py") 172)⟩, ⟨PyData.keyHash P (Str.ofString "__cached__"), (.str (Str.ofString "__cached__") 174), .none⟩, ⟨PyData.keyHash P (Str.ofString "_wall"), (.str (Str.ofString "_wall") 193), (.ref 21)⟩, ⟨PyData.keyHash P (Str.ofString "_tuplegetter"), (.str (Str.ofString "_tuplegetter") 252), (.ref 60)⟩, ⟨PyData.keyHash P (Str.ofString "Match"), (.str (Str.ofString "Match") 380), (.ref 135)⟩, ⟨PyData.keyHash P (Str.ofString "_calculate_ratio"), (.str (Str.ofString "_calculate_ratio") 388), (.ref 145)⟩, ⟨PyData.keyHash P (Str.ofString "SequenceMatcher"), (.str (Str.ofString "SequenceMatcher") 574), (.ref 242)⟩, ⟨PyData.keyHash P (Str.ofString "_law_asked"), (.str (Str.ofString "_law_asked") 582), (.ref 251)⟩, ⟨PyData.keyHash P (Str.ofString "_law_noted"), (.str (Str.ofString "_law_noted") 592), (.ref 258)⟩, ⟨PyData.keyHash P (Str.ofString "law"), (.str (Str.ofString "law") 598), (.ref 263)⟩].toArray 17), slots := [].toArray }
noncomputable def k4 (_P : Params) : Obj := { cls := (.type "module"), dict := some 0, data := .plain, slots := [].toArray }
noncomputable def k20 (_P : Params) : Obj := { cls := (.type "code"), dict := none, data := (.fields [(.str (Str.ofString "_wall") 187), (.str (Str.ofString "_wall") 188), (.str (Str.ofString "/claim/cut.py") 189), (.int (1) 0), (.int (1) 0), (.int (0) 0), (.int (0) 0), (.int (3) 0), (.ref 15), (.bool true), (.int (181) 0), (.ref 16), .none, (.ref 17), (.ref 18), (.ref 19), (.int (191) 0), (.int (1) 0), (.str (Str.ofString "/claim/cut.py") 192)].toArray), slots := [].toArray }
noncomputable def k21 (_P : Params) : Obj := { cls := (.type "function"), dict := none, data := (.func { name := (Str.ofString "_wall"), qualname := (Str.ofString "_wall"), params := fnParams (stAt pw.main.body 0), body := .stmts (fnBody (stAt pw.main.body 0)), scope := fnScope (stAt pw.main.body 0), globals := 3, closure := [], defaults := .none, kwdefaults := .none, doc := .none, pyModule := (.str (Str.ofString "__main__") 164), annotations := none, code := (.ref 20), closureTuple := .none, builtins := 0 }), slots := [].toArray }
noncomputable def k34 (_P : Params) : Obj := { cls := (.type "code"), dict := none, data := (.fields [(.str (Str.ofString "__init__") 208), (.str (Str.ofString "_tuplegetter.__init__") 209), (.str (Str.ofString "/claim/cut.py") 210), (.int (7) 0), (.int (3) 0), (.int (0) 0), (.int (0) 0), (.int (3) 0), (.ref 29), (.bool true), (.int (181) 0), (.ref 30), .none, (.ref 31), (.ref 32), (.ref 33), (.int (214) 0), (.int (7) 0), (.str (Str.ofString "/claim/cut.py") 215)].toArray), slots := [].toArray }
noncomputable def k35 (_P : Params) : Obj := { cls := (.type "function"), dict := none, data := (.func { name := (Str.ofString "__init__"), qualname := (Str.ofString "_tuplegetter.__init__"), params := fnParams (stAt (clsBody (stAt pw.main.body 2)) 0), body := .stmts (fnBody (stAt (clsBody (stAt pw.main.body 2)) 0)), scope := fnScope (stAt (clsBody (stAt pw.main.body 2)) 0), globals := 3, closure := [], defaults := .none, kwdefaults := .none, doc := .none, pyModule := (.str (Str.ofString "cpy313.difflib") 194), annotations := none, code := (.ref 34), closureTuple := .none, builtins := 0 }), slots := [].toArray }
noncomputable def k36 (_P : Params) : Obj := { cls := (.type "tuple"), dict := none, data := (.seq [.none].toArray 0), slots := [].toArray }
noncomputable def k42 (_P : Params) : Obj := { cls := (.type "code"), dict := none, data := (.fields [(.str (Str.ofString "__get__") 217), (.str (Str.ofString "_tuplegetter.__get__") 218), (.str (Str.ofString "/claim/cut.py") 219), (.int (11) 0), (.int (3) 0), (.int (0) 0), (.int (0) 0), (.int (3) 0), (.ref 37), (.bool true), (.int (181) 0), (.ref 38), .none, (.ref 39), (.ref 40), (.ref 41), (.int (223) 0), (.int (11) 0), (.str (Str.ofString "/claim/cut.py") 224)].toArray), slots := [].toArray }
noncomputable def k43 (_P : Params) : Obj := { cls := (.type "function"), dict := none, data := (.func { name := (Str.ofString "__get__"), qualname := (Str.ofString "_tuplegetter.__get__"), params := fnParams (stAt (clsBody (stAt pw.main.body 2)) 1), body := .stmts (fnBody (stAt (clsBody (stAt pw.main.body 2)) 1)), scope := fnScope (stAt (clsBody (stAt pw.main.body 2)) 1), globals := 3, closure := [], defaults := (.ref 36), kwdefaults := .none, doc := .none, pyModule := (.str (Str.ofString "cpy313.difflib") 194), annotations := none, code := (.ref 42), closureTuple := .none, builtins := 0 }), slots := [].toArray }
noncomputable def k49 (_P : Params) : Obj := { cls := (.type "code"), dict := none, data := (.fields [(.str (Str.ofString "__set__") 226), (.str (Str.ofString "_tuplegetter.__set__") 227), (.str (Str.ofString "/claim/cut.py") 228), (.int (18) 0), (.int (3) 0), (.int (0) 0), (.int (0) 0), (.int (3) 0), (.ref 44), (.bool true), (.int (181) 0), (.ref 45), .none, (.ref 46), (.ref 47), (.ref 48), (.int (232) 0), (.int (18) 0), (.str (Str.ofString "/claim/cut.py") 233)].toArray), slots := [].toArray }
noncomputable def k50 (_P : Params) : Obj := { cls := (.type "function"), dict := none, data := (.func { name := (Str.ofString "__set__"), qualname := (Str.ofString "_tuplegetter.__set__"), params := fnParams (stAt (clsBody (stAt pw.main.body 2)) 2), body := .stmts (fnBody (stAt (clsBody (stAt pw.main.body 2)) 2)), scope := fnScope (stAt (clsBody (stAt pw.main.body 2)) 2), globals := 3, closure := [], defaults := .none, kwdefaults := .none, doc := .none, pyModule := (.str (Str.ofString "cpy313.difflib") 194), annotations := none, code := (.ref 49), closureTuple := .none, builtins := 0 }), slots := [].toArray }
noncomputable def k56 (_P : Params) : Obj := { cls := (.type "code"), dict := none, data := (.fields [(.str (Str.ofString "__delete__") 235), (.str (Str.ofString "_tuplegetter.__delete__") 236), (.str (Str.ofString "/claim/cut.py") 237), (.int (21) 0), (.int (2) 0), (.int (0) 0), (.int (0) 0), (.int (3) 0), (.ref 51), (.bool true), (.int (181) 0), (.ref 52), .none, (.ref 53), (.ref 54), (.ref 55), (.int (240) 0), (.int (21) 0), (.str (Str.ofString "/claim/cut.py") 241)].toArray), slots := [].toArray }
noncomputable def k57 (_P : Params) : Obj := { cls := (.type "function"), dict := none, data := (.func { name := (Str.ofString "__delete__"), qualname := (Str.ofString "_tuplegetter.__delete__"), params := fnParams (stAt (clsBody (stAt pw.main.body 2)) 3), body := .stmts (fnBody (stAt (clsBody (stAt pw.main.body 2)) 3)), scope := fnScope (stAt (clsBody (stAt pw.main.body 2)) 3), globals := 3, closure := [], defaults := .none, kwdefaults := .none, doc := .none, pyModule := (.str (Str.ofString "cpy313.difflib") 194), annotations := none, code := (.ref 56), closureTuple := .none, builtins := 0 }), slots := [].toArray }
noncomputable def k59 (P : Params) : Obj := { cls := (.type "dict"), dict := none, data := (.dict [⟨PyData.keyHash P (Str.ofString "__module__"), (.str (Str.ofString "__module__") 203), (.str (Str.ofString "cpy313.difflib") 194)⟩, ⟨PyData.keyHash P (Str.ofString "__firstlineno__"), (.str (Str.ofString "__firstlineno__") 207), (.int (5) 206)⟩, ⟨PyData.keyHash P (Str.ofString "__init__"), (.str (Str.ofString "__init__") 216), (.ref 35)⟩, ⟨PyData.keyHash P (Str.ofString "__get__"), (.str (Str.ofString "__get__") 225), (.ref 43)⟩, ⟨PyData.keyHash P (Str.ofString "__set__"), (.str (Str.ofString "__set__") 234), (.ref 50)⟩, ⟨PyData.keyHash P (Str.ofString "__delete__"), (.str (Str.ofString "__delete__") 242), (.ref 57)⟩, ⟨PyData.keyHash P (Str.ofString "__static_attributes__"), (.str (Str.ofString "__static_attributes__") 245), (.ref 58)⟩, ⟨PyData.keyHash P (Str.ofString "__dict__"), (.str (Str.ofString "__dict__") 247), (.ref 61)⟩, ⟨PyData.keyHash P (Str.ofString "__weakref__"), (.str (Str.ofString "__weakref__") 249), (.ref 62)⟩, ⟨PyData.keyHash P (Str.ofString "__doc__"), (.str (Str.ofString "__doc__") 250), .none⟩].toArray 4), slots := [].toArray }
noncomputable def k60 (_P : Params) : Obj := { cls := (.type "type"), dict := none, data := (.cls { name := (Str.ofString "_tuplegetter"), bases := [(.type "object")], mro := [(.ref 60), (.type "object")], ns := 59, qualname := (Str.ofString "_tuplegetter"), hasDict := true, slotNames := [], subclasses := [], abstract := false, collection := none, hasDel := false }), slots := [none, none, (some (.str (Str.ofString "_tuplegetter") 196)), (some (.str (Str.ofString "_tuplegetter") 204)), (some (.builtin "object.__new__")), (some (.bool true))].toArray }
noncomputable def k81 (_P : Params) : Obj := { cls := (.type "code"), dict := none, data := (.fields [(.str (Str.ofString "__new__") 274), (.str (Str.ofString "Match.__new__") 275), (.str (Str.ofString "/claim/cut.py") 276), (.int (29) 0), (.int (4) 0), (.int (0) 0), (.int (0) 0), (.int (3) 0), (.ref 76), (.bool true), (.int (181) 0), (.ref 77), .none, (.ref 78), (.ref 79), (.ref 80), (.int (281) 0), (.int (29) 0), (.str (Str.ofString "/claim/cut.py") 282)].toArray), slots := [].toArray }
noncomputable def k82 (_P : Params) : Obj := { cls := (.type "function"), dict := none, data := (.func { name := (Str.ofString "__new__"), qualname := (Str.ofString "Match.__new__"), params := fnParams (stAt (clsBody (stAt pw.main.body 3)) 4), body := .stmts (fnBody (stAt (clsBody (stAt pw.main.body 3)) 4)), scope := fnScope (stAt (clsBody (stAt pw.main.body 3)) 4), globals := 3, closure := [], defaults := .none, kwdefaults := .none, doc := (.str (docAt (fnBody (stAt (clsBody (stAt pw.main.body 3)) 4))) 283), pyModule := (.str (Str.ofString "cpy313.difflib") 194), annotations := none, code := (.ref 81), closureTuple := .none, builtins := 0 }), slots := [].toArray }
noncomputable def k88 (_P : Params) : Obj := { cls := (.type "code"), dict := none, data := (.fields [(.str (Str.ofString "_make") 285), (.str (Str.ofString "Match._make") 286), (.str (Str.ofString "/claim/cut.py") 287), (.int (33) 0), (.int (2) 0), (.int (0) 0), (.int (0) 0), (.int (3) 0), (.ref 83), (.bool true), (.int (181) 0), (.ref 84), .none, (.ref 85), (.ref 86), (.ref 87), (.int (291) 0), (.int (33) 0), (.str (Str.ofString "/claim/cut.py") 292)].toArray), slots := [].toArray }
noncomputable def k89 (_P : Params) : Obj := { cls := (.type "function"), dict := none, data := (.func { name := (Str.ofString "_make"), qualname := (Str.ofString "Match._make"), params := fnParams (stAt (clsBody (stAt pw.main.body 3)) 5), body := .stmts (fnBody (stAt (clsBody (stAt pw.main.body 3)) 5)), scope := fnScope (stAt (clsBody (stAt pw.main.body 3)) 5), globals := 3, closure := [], defaults := .none, kwdefaults := .none, doc := (.str (docAt (fnBody (stAt (clsBody (stAt pw.main.body 3)) 5))) 293), pyModule := (.str (Str.ofString "cpy313.difflib") 194), annotations := some 92, code := (.ref 88), closureTuple := .none, builtins := 0 }), slots := [].toArray }
noncomputable def k91 (_P : Params) : Obj := { cls := (.type "classmethod"), dict := some 90, data := (.fields [(.ref 89), (.bool false)].toArray), slots := [].toArray }
noncomputable def k99 (_P : Params) : Obj := { cls := (.type "code"), dict := none, data := (.fields [(.str (Str.ofString "_replace") 307), (.str (Str.ofString "Match._replace") 308), (.str (Str.ofString "/claim/cut.py") 309), (.int (41) 0), (.int (1) 0), (.int (1) 0), (.int (0) 0), (.int (11) 0), (.ref 94), (.bool true), (.int (181) 0), (.ref 95), .none, (.ref 96), (.ref 97), (.ref 98), (.int (314) 0), (.int (41) 0), (.str (Str.ofString "/claim/cut.py") 315)].toArray), slots := [].toArray }
noncomputable def k100 (_P : Params) : Obj := { cls := (.type "function"), dict := none, data := (.func { name := (Str.ofString "_replace"), qualname := (Str.ofString "Match._replace"), params := fnParams (stAt (clsBody (stAt pw.main.body 3)) 6), body := .stmts (fnBody (stAt (clsBody (stAt pw.main.body 3)) 6)), scope := fnScope (stAt (clsBody (stAt pw.main.body 3)) 6), globals := 3, closure := [((Str.ofString "__class__"), 68)], defaults := .none, kwdefaults := .none, doc := (.str (docAt (fnBody (stAt (clsBody (stAt pw.main.body 3)) 6))) 316), pyModule := (.str (Str.ofString "cpy313.difflib") 194), annotations := none, code := (.ref 99), closureTuple := (.ref 93), builtins := 0 }), slots := [].toArray }
noncomputable def k106 (_P : Params) : Obj := { cls := (.type "code"), dict := none, data := (.fields [(.str (Str.ofString "__repr__") 319), (.str (Str.ofString "Match.__repr__") 320), (.str (Str.ofString "/claim/cut.py") 321), (.int (52) 0), (.int (1) 0), (.int (0) 0), (.int (0) 0), (.int (3) 0), (.ref 101), (.bool true), (.int (181) 0), (.ref 102), .none, (.ref 103), (.ref 104), (.ref 105), (.int (323) 0), (.int (52) 0), (.str (Str.ofString "/claim/cut.py") 324)].toArray), slots := [].toArray }
noncomputable def k107 (_P : Params) : Obj := { cls := (.type "function"), dict := none, data := (.func { name := (Str.ofString "__repr__"), qualname := (Str.ofString "Match.__repr__"), params := fnParams (stAt (clsBody (stAt pw.main.body 3)) 8), body := .stmts (fnBody (stAt (clsBody (stAt pw.main.body 3)) 8)), scope := fnScope (stAt (clsBody (stAt pw.main.body 3)) 8), globals := 3, closure := [], defaults := .none, kwdefaults := .none, doc := (.str (docAt (fnBody (stAt (clsBody (stAt pw.main.body 3)) 8))) 325), pyModule := (.str (Str.ofString "cpy313.difflib") 194), annotations := none, code := (.ref 106), closureTuple := .none, builtins := 0 }), slots := [].toArray }
noncomputable def k113 (_P : Params) : Obj := { cls := (.type "code"), dict := none, data := (.fields [(.str (Str.ofString "_asdict") 327), (.str (Str.ofString "Match._asdict") 328), (.str (Str.ofString "/claim/cut.py") 329), (.int (56) 0), (.int (1) 0), (.int (0) 0), (.int (0) 0), (.int (3) 0), (.ref 108), (.bool true), (.int (181) 0), (.ref 109), .none, (.ref 110), (.ref 111), (.ref 112), (.int (331) 0), (.int (56) 0), (.str (Str.ofString "/claim/cut.py") 332)].toArray), slots := [].toArray }
noncomputable def k114 (_P : Params) : Obj := { cls := (.type "function"), dict := none, data := (.func { name := (Str.ofString "_asdict"), qualname := (Str.ofString "Match._asdict"), params := fnParams (stAt (clsBody (stAt pw.main.body 3)) 9), body := .stmts (fnBody (stAt (clsBody (stAt pw.main.body 3)) 9)), scope := fnScope (stAt (clsBody (stAt pw.main.body 3)) 9), globals := 3, closure := [], defaults := .none, kwdefaults := .none, doc := .none, pyModule := (.str (Str.ofString "cpy313.difflib") 194), annotations := none, code := (.ref 113), closureTuple := .none, builtins := 0 }), slots := [].toArray }
noncomputable def k120 (_P : Params) : Obj := { cls := (.type "code"), dict := none, data := (.fields [(.str (Str.ofString "__getnewargs__") 334), (.str (Str.ofString "Match.__getnewargs__") 335), (.str (Str.ofString "/claim/cut.py") 336), (.int (59) 0), (.int (1) 0), (.int (0) 0), (.int (0) 0), (.int (3) 0), (.ref 115), (.bool true), (.int (181) 0), (.ref 116), .none, (.ref 117), (.ref 118), (.ref 119), (.int (338) 0), (.int (59) 0), (.str (Str.ofString "/claim/cut.py") 339)].toArray), slots := [].toArray }
noncomputable def k121 (_P : Params) : Obj := { cls := (.type "function"), dict := none, data := (.func { name := (Str.ofString "__getnewargs__"), qualname := (Str.ofString "Match.__getnewargs__"), params := fnParams (stAt (clsBody (stAt pw.main.body 3)) 10), body := .stmts (fnBody (stAt (clsBody (stAt pw.main.body 3)) 10)), scope := fnScope (stAt (clsBody (stAt pw.main.body 3)) 10), globals := 3, closure := [], defaults := .none, kwdefaults := .none, doc := (.str (docAt (fnBody (stAt (clsBody (stAt pw.main.body 3)) 10))) 340), pyModule := (.str (Str.ofString "cpy313.difflib") 194), annotations := none, code := (.ref 120), closureTuple := .none, builtins := 0 }), slots := [].toArray }
noncomputable def k123 (P : Params) : Obj := { cls := (.type "dict"), dict := none, data := (.dict [⟨PyData.keyHash P (Str.ofString "index"), (.str (Str.ofString "index") 352), (.int (0) 346)⟩, ⟨PyData.keyHash P (Str.ofString "__doc__"), (.str (Str.ofString "__doc__") 354), (.str (Str.ofString "Alias for field number 0") 347)⟩].toArray 2), slots := [].toArray }
noncomputable def k124 (_P : Params) : Obj := { cls := (.ref 60), dict := some 123, data := .plain, slots := [].toArray }
noncomputable def k126 (P : Params) : Obj := { cls := (.type "dict"), dict := none, data := (.dict [⟨PyData.keyHash P (Str.ofString "index"), (.str (Str.ofString "index") 362), (.int (1) 356)⟩, ⟨PyData.keyHash P (Str.ofString "__doc__"), (.str (Str.ofString "__doc__") 364), (.str (Str.ofString "Alias for field number 1") 357)⟩].toArray 2), slots := [].toArray }
noncomputable def k127 (_P : Params) : Obj := { cls := (.ref 60), dict := some 126, data := .plain, slots := [].toArray }
noncomputable def k129 (P : Params) : Obj := { cls := (.type "dict"), dict := none, data := (.dict [⟨PyData.keyHash P (Str.ofString "index"), (.str (Str.ofString "index") 372), (.int (2) 366)⟩, ⟨PyData.keyHash P (Str.ofString "__doc__"), (.str (Str.ofString "__doc__") 374), (.str (Str.ofString "Alias for field number 2") 367)⟩].toArray 2), slots := [].toArray }
noncomputable def k130 (_P : Params) : Obj := { cls := (.ref 60), dict := some 129, data := .plain, slots := [].toArray }
noncomputable def k134 (P : Params) : Obj := { cls := (.type "dict"), dict := none, data := (.dict [⟨PyData.keyHash P (Str.ofString "__module__"), (.str (Str.ofString "__module__") 260), (.str (Str.ofString "cpy313.difflib") 194)⟩, ⟨PyData.keyHash P (Str.ofString "__firstlineno__"), (.str (Str.ofString "__firstlineno__") 264), (.int (23) 263)⟩, ⟨PyData.keyHash P (Str.ofString "__doc__"), (.str (Str.ofString "__doc__") 266), (.str (Str.ofString "Match(a, b, size)") 265)⟩, ⟨PyData.keyHash P (Str.ofString "__slots__"), (.str (Str.ofString "__slots__") 268), (.ref 73)⟩, ⟨PyData.keyHash P (Str.ofString "_fields"), (.str (Str.ofString "_fields") 272), (.ref 74)⟩, ⟨PyData.keyHash P (Str.ofString "_field_defaults"), (.str (Str.ofString "_field_defaults") 273), (.ref 75)⟩, ⟨PyData.keyHash P (Str.ofString "__new__"), (.str (Str.ofString "__new__") 284), (.ref 136)⟩, ⟨PyData.keyHash P (Str.ofString "_make"), (.str (Str.ofString "_make") 306), (.ref 91)⟩, ⟨PyData.keyHash P (Str.ofString "_replace"), (.str (Str.ofString "_replace") 317), (.ref 100)⟩, ⟨PyData.keyHash P (Str.ofString "__replace__"), (.str (Str.ofString "__replace__") 318), (.ref 100)⟩, ⟨PyData.keyHash P (Str.ofString "__repr__"), (.str (Str.ofString "__repr__") 326), (.ref 107)⟩, ⟨PyData.keyHash P (Str.ofString "_asdict"), (.str (Str.ofString "_asdict") 333), (.ref 114)⟩, ⟨PyData.keyHash P (Str.ofString "__getnewargs__"), (.str (Str.ofString "__getnewargs__") 341), (.ref 121)⟩, ⟨PyData.keyHash P (Str.ofString "__match_args__"), (.str (Str.ofString "__match_args__") 345), (.ref 122)⟩, ⟨PyData.keyHash P (Str.ofString "a"), (.str (Str.ofString "a") 355), (.ref 124)⟩, ⟨PyData.keyHash P (Str.ofString "b"), (.str (Str.ofString "b") 365), (.ref 127)⟩, ⟨PyData.keyHash P (Str.ofString "size"), (.str (Str.ofString "size") 375), (.ref 130)⟩, ⟨PyData.keyHash P (Str.ofString "__static_attributes__"), (.str (Str.ofString "__static_attributes__") 376), (.ref 132)⟩].toArray 2), slots := [].toArray }
noncomputable def k135 (_P : Params) : Obj := { cls := (.type "type"), dict := none, data := (.cls { name := (Str.ofString "Match"), bases := [(.type "tuple")], mro := [(.ref 135), (.type "tuple"), (.type "object")], ns := 134, qualname := (Str.ofString "Match"), hasDict := false, slotNames := [], subclasses := [], abstract := false, collection := none, hasDel := false }), slots := [(some (.ref 65)), none, (some (.str (Str.ofString "Match") 253)), (some (.str (Str.ofString "Match") 261)), (some .none), (some (.bool false))].toArray }
noncomputable def k144 (_P : Params) : Obj := { cls := (.type "code"), dict := none, data := (.fields [(.str (Str.ofString "_calculate_ratio") 381), (.str (Str.ofString "_calculate_ratio") 382), (.str (Str.ofString "/claim/cut.py") 383), (.int (66) 0), (.int (2) 0), (.int (0) 0), (.int (0) 0), (.int (3) 0), (.ref 139), (.bool true), (.int (181) 0), (.ref 140), .none, (.ref 141), (.ref 142), (.ref 143), (.int (386) 0), (.int (66) 0), (.str (Str.ofString "/claim/cut.py") 387)].toArray), slots := [].toArray }
noncomputable def k145 (_P : Params) : Obj := { cls := (.type "function"), dict := none, data := (.func { name := (Str.ofString "_calculate_ratio"), qualname := (Str.ofString "_calculate_ratio"), params := fnParams (stAt pw.main.body 4), body := .stmts (fnBody (stAt pw.main.body 4)), scope := fnScope (stAt pw.main.body 4), globals := 3, closure := [], defaults := .none, kwdefaults := .none, doc := .none, pyModule := (.str (Str.ofString "cpy313.difflib") 194), annotations := none, code := (.ref 144), closureTuple := .none, builtins := 0 }), slots := [].toArray }
noncomputable def k153 (_P : Params) : Obj := { cls := (.type "tuple"), dict := none, data := (.seq [.none, (.str (Str.ofString "") 404), (.str (Str.ofString "") 405), (.bool true)].toArray 0), slots := [].toArray }
noncomputable def k159 (_P : Params) : Obj := { cls := (.type "code"), dict := none, data := (.fields [(.str (Str.ofString "__init__") 406), (.str (Str.ofString "SequenceMatcher.__init__") 407), (.str (Str.ofString "/claim/cut.py") 408), (.int (145) 0), (.int (5) 0), (.int (0) 0), (.int (0) 0), (.int (3) 0), (.ref 154), (.bool true), (.int (181) 0), (.ref 155), .none, (.ref 156), (.ref 157), (.ref 158), (.int (414) 0), (.int (145) 0), (.str (Str.ofString "/claim/cut.py") 415)].toArray), slots := [].toArray }
noncomputable def k160 (_P : Params) : Obj := { cls := (.type "function"), dict := none, data := (.func { name := (Str.ofString "__init__"), qualname := (Str.ofString "SequenceMatcher.__init__"), params := fnParams (stAt (clsBody (stAt pw.main.body 5)) 1), body := .stmts (fnBody (stAt (clsBody (stAt pw.main.body 5)) 1)), scope := fnScope (stAt (clsBody (stAt pw.main.body 5)) 1), globals := 3, closure := [], defaults := (.ref 153), kwdefaults := .none, doc := (.str (docAt (fnBody (stAt (clsBody (stAt pw.main.body 5)) 1))) 416), pyModule := (.str (Str.ofString "cpy313.difflib") 194), annotations := none, code := (.ref 159), closureTuple := .none, builtins := 0 }), slots := [].toArray }
noncomputable def k166 (_P : Params) : Obj := { cls := (.type "code"), dict := none, data := (.fields [(.str (Str.ofString "set_seqs") 418), (.str (Str.ofString "SequenceMatcher.set_seqs") 419), (.str (Str.ofString "/claim/cut.py") 420), (.int (173) 0), (.int (3) 0), (.int (0) 0), (.int (0) 0), (.int (3) 0), (.ref 161), (.bool true), (.int (181) 0), (.ref 162), .none, (.ref 163), (.ref 164), (.ref 165), (.int (424) 0), (.int (173) 0), (.str (Str.ofString "/claim/cut.py") 425)].toArray), slots := [].toArray }
noncomputable def k167 (_P : Params) : Obj := { cls := (.type "function"), dict := none, data := (.func { name := (Str.ofString "set_seqs"), qualname := (Str.ofString "SequenceMatcher.set_seqs"), params := fnParams (stAt (clsBody (stAt pw.main.body 5)) 2), body := .stmts (fnBody (stAt (clsBody (stAt pw.main.body 5)) 2)), scope := fnScope (stAt (clsBody (stAt pw.main.body 5)) 2), globals := 3, closure := [], defaults := .none, kwdefaults := .none, doc := (.str (docAt (fnBody (stAt (clsBody (stAt pw.main.body 5)) 2))) 426), pyModule := (.str (Str.ofString "cpy313.difflib") 194), annotations := none, code := (.ref 166), closureTuple := .none, builtins := 0 }), slots := [].toArray }
noncomputable def k173 (_P : Params) : Obj := { cls := (.type "code"), dict := none, data := (.fields [(.str (Str.ofString "set_seq1") 428), (.str (Str.ofString "SequenceMatcher.set_seq1") 429), (.str (Str.ofString "/claim/cut.py") 430), (.int (184) 0), (.int (2) 0), (.int (0) 0), (.int (0) 0), (.int (3) 0), (.ref 168), (.bool true), (.int (181) 0), (.ref 169), .none, (.ref 170), (.ref 171), (.ref 172), (.int (433) 0), (.int (184) 0), (.str (Str.ofString "/claim/cut.py") 434)].toArray), slots := [].toArray }
noncomputable def k174 (_P : Params) : Obj := { cls := (.type "function"), dict := none, data := (.func { name := (Str.ofString "set_seq1"), qualname := (Str.ofString "SequenceMatcher.set_seq1"), params := fnParams (stAt (clsBody (stAt pw.main.body 5)) 3), body := .stmts (fnBody (stAt (clsBody (stAt pw.main.body 5)) 3)), scope := fnScope (stAt (clsBody (stAt pw.main.body 5)) 3), globals := 3, closure := [], defaults := .none, kwdefaults := .none, doc := (.str (docAt (fnBody (stAt (clsBody (stAt pw.main.body 5)) 3))) 435), pyModule := (.str (Str.ofString "cpy313.difflib") 194), annotations := none, code := (.ref 173), closureTuple := .none, builtins := 0 }), slots := [].toArray }
noncomputable def k180 (_P : Params) : Obj := { cls := (.type "code"), dict := none, data := (.fields [(.str (Str.ofString "set_seq2") 437), (.str (Str.ofString "SequenceMatcher.set_seq2") 438), (.str (Str.ofString "/claim/cut.py") 439), (.int (209) 0), (.int (2) 0), (.int (0) 0), (.int (0) 0), (.int (3) 0), (.ref 175), (.bool true), (.int (181) 0), (.ref 176), .none, (.ref 177), (.ref 178), (.ref 179), (.int (442) 0), (.int (209) 0), (.str (Str.ofString "/claim/cut.py") 443)].toArray), slots := [].toArray }
noncomputable def k181 (_P : Params) : Obj := { cls := (.type "function"), dict := none, data := (.func { name := (Str.ofString "set_seq2"), qualname := (Str.ofString "SequenceMatcher.set_seq2"), params := fnParams (stAt (clsBody (stAt pw.main.body 5)) 4), body := .stmts (fnBody (stAt (clsBody (stAt pw.main.body 5)) 4)), scope := fnScope (stAt (clsBody (stAt pw.main.body 5)) 4), globals := 3, closure := [], defaults := .none, kwdefaults := .none, doc := (.str (docAt (fnBody (stAt (clsBody (stAt pw.main.body 5)) 4))) 444), pyModule := (.str (Str.ofString "cpy313.difflib") 194), annotations := none, code := (.ref 180), closureTuple := .none, builtins := 0 }), slots := [].toArray }
noncomputable def k187 (_P : Params) : Obj := { cls := (.type "code"), dict := none, data := (.fields [(.str (Str.ofString "__chain_b") 446), (.str (Str.ofString "SequenceMatcher.__chain_b") 447), (.str (Str.ofString "/claim/cut.py") 448), (.int (236) 0), (.int (1) 0), (.int (0) 0), (.int (0) 0), (.int (3) 0), (.ref 182), (.bool true), (.int (181) 0), (.ref 183), .none, (.ref 184), (.ref 185), (.ref 186), (.int (461) 0), (.int (236) 0), (.str (Str.ofString "/claim/cut.py") 462)].toArray), slots := [].toArray }
noncomputable def k188 (_P : Params) : Obj := { cls := (.type "function"), dict := none, data := (.func { name := (Str.ofString "__chain_b"), qualname := (Str.ofString "SequenceMatcher.__chain_b"), params := fnParams (stAt (clsBody (stAt pw.main.body 5)) 5), body := .stmts (fnBody (stAt (clsBody (stAt pw.main.body 5)) 5)), scope := fnScope (stAt (clsBody (stAt pw.main.body 5)) 5), globals := 3, closure := [], defaults := .none, kwdefaults := .none, doc := .none, pyModule := (.str (Str.ofString "cpy313.difflib") 194), annotations := none, code := (.ref 187), closureTuple := .none, builtins := 0 }), slots := [].toArray }
noncomputable def k189 (_P : Params) : Obj := { cls := (.type "tuple"), dict := none, data := (.seq [(.int (0) 464), .none, (.int (0) 465), .none].toArray 0), slots := [].toArray }
noncomputable def k195 (_P : Params) : Obj := { cls := (.type "code"), dict := none, data := (.fields [(.str (Str.ofString "find_longest_match") 466), (.str (Str.ofString "SequenceMatcher.find_longest_match") 467), (.str (Str.ofString "/claim/cut.py") 468), (.int (260) 0), (.int (5) 0), (.int (0) 0), (.int (0) 0), (.int (3) 0), (.ref 190), (.bool true), (.int (181) 0), (.ref 191), .none, (.ref 192), (.ref 193), (.ref 194), (.int (488) 0), (.int (260) 0), (.str (Str.ofString "/claim/cut.py") 489)].toArray), slots := [].toArray }
noncomputable def k196 (_P : Params) : Obj := { cls := (.type "function"), dict := none, data := (.func { name := (Str.ofString "find_longest_match"), qualname := (Str.ofString "SequenceMatcher.find_longest_match"), params := fnParams (stAt (clsBody (stAt pw.main.body 5)) 6), body := .stmts (fnBody (stAt (clsBody (stAt pw.main.body 5)) 6)), scope := fnScope (stAt (clsBody (stAt pw.main.body 5)) 6), globals := 3, closure := [], defaults := (.ref 189), kwdefaults := .none, doc := (.str (docAt (fnBody (stAt (clsBody (stAt pw.main.body 5)) 6))) 490), pyModule := (.str (Str.ofString "cpy313.difflib") 194), annotations := none, code := (.ref 195), closureTuple := .none, builtins := 0 }), slots := [].toArray }
noncomputable def k202 (_P : Params) : Obj := { cls := (.type "code"), dict := none, data := (.fields [(.str (Str.ofString "get_matching_blocks") 492), (.str (Str.ofString "SequenceMatcher.get_matching_blocks") 493), (.str (Str.ofString "/claim/cut.py") 494), (.int (335) 0), (.int (1) 0), (.int (0) 0), (.int (0) 0), (.int (3) 0), (.ref 197), (.bool true), (.int (181) 0), (.ref 198), .none, (.ref 199), (.ref 200), (.ref 201), (.int (515) 0), (.int (335) 0), (.str (Str.ofString "/claim/cut.py") 516)].toArray), slots := [].toArray }
noncomputable def k203 (_P : Params) : Obj := { cls := (.type "function"), dict := none, data := (.func { name := (Str.ofString "get_matching_blocks"), qualname := (Str.ofString "SequenceMatcher.get_matching_blocks"), params := fnParams (stAt (clsBody (stAt pw.main.body 5)) 7), body := .stmts (fnBody (stAt (clsBody (stAt pw.main.body 5)) 7)), scope := fnScope (stAt (clsBody (stAt pw.main.body 5)) 7), globals := 3, closure := [], defaults := .none, kwdefaults := .none, doc := (.str (docAt (fnBody (stAt (clsBody (stAt pw.main.body 5)) 7))) 517), pyModule := (.str (Str.ofString "cpy313.difflib") 194), annotations := none, code := (.ref 202), closureTuple := .none, builtins := 0 }), slots := [].toArray }
noncomputable def k209 (_P : Params) : Obj := { cls := (.type "code"), dict := none, data := (.fields [(.str (Str.ofString "get_opcodes") 519), (.str (Str.ofString "SequenceMatcher.get_opcodes") 520), (.str (Str.ofString "/claim/cut.py") 521), (.int (383) 0), (.int (1) 0), (.int (0) 0), (.int (0) 0), (.int (3) 0), (.ref 204), (.bool true), (.int (181) 0), (.ref 205), .none, (.ref 206), (.ref 207), (.ref 208), (.int (523) 0), (.int (383) 0), (.str (Str.ofString "/claim/cut.py") 524)].toArray), slots := [].toArray }
noncomputable def k210 (_P : Params) : Obj := { cls := (.type "function"), dict := none, data := (.func { name := (Str.ofString "get_opcodes"), qualname := (Str.ofString "SequenceMatcher.get_opcodes"), params := fnParams (stAt (clsBody (stAt pw.main.body 5)) 8), body := .stmts (fnBody (stAt (clsBody (stAt pw.main.body 5)) 8)), scope := fnScope (stAt (clsBody (stAt pw.main.body 5)) 8), globals := 3, closure := [], defaults := .none, kwdefaults := .none, doc := .none, pyModule := (.str (Str.ofString "cpy313.difflib") 194), annotations := none, code := (.ref 209), closureTuple := .none, builtins := 0 }), slots := [].toArray }
noncomputable def k211 (_P : Params) : Obj := { cls := (.type "tuple"), dict := none, data := (.seq [(.int (3) 526)].toArray 0), slots := [].toArray }
noncomputable def k217 (_P : Params) : Obj := { cls := (.type "code"), dict := none, data := (.fields [(.str (Str.ofString "get_grouped_opcodes") 527), (.str (Str.ofString "SequenceMatcher.get_grouped_opcodes") 528), (.str (Str.ofString "/claim/cut.py") 529), (.int (386) 0), (.int (2) 0), (.int (0) 0), (.int (0) 0), (.int (3) 0), (.ref 212), (.bool true), (.int (181) 0), (.ref 213), .none, (.ref 214), (.ref 215), (.ref 216), (.int (532) 0), (.int (386) 0), (.str (Str.ofString "/claim/cut.py") 533)].toArray), slots := [].toArray }
noncomputable def k218 (_P : Params) : Obj := { cls := (.type "function"), dict := none, data := (.func { name := (Str.ofString "get_grouped_opcodes"), qualname := (Str.ofString "SequenceMatcher.get_grouped_opcodes"), params := fnParams (stAt (clsBody (stAt pw.main.body 5)) 9), body := .stmts (fnBody (stAt (clsBody (stAt pw.main.body 5)) 9)), scope := fnScope (stAt (clsBody (stAt pw.main.body 5)) 9), globals := 3, closure := [], defaults := (.ref 211), kwdefaults := .none, doc := .none, pyModule := (.str (Str.ofString "cpy313.difflib") 194), annotations := none, code := (.ref 217), closureTuple := .none, builtins := 0 }), slots := [].toArray }
noncomputable def k224 (_P : Params) : Obj := { cls := (.type "code"), dict := none, data := (.fields [(.str (Str.ofString "ratio") 535), (.str (Str.ofString "SequenceMatcher.ratio") 536), (.str (Str.ofString "/claim/cut.py") 537), (.int (389) 0), (.int (1) 0), (.int (0) 0), (.int (0) 0), (.int (3) 0), (.ref 219), (.bool true), (.int (181) 0), (.ref 220), .none, (.ref 221), (.ref 222), (.ref 223), (.int (540) 0), (.int (389) 0), (.str (Str.ofString "/claim/cut.py") 541)].toArray), slots := [].toArray }
noncomputable def k225 (_P : Params) : Obj := { cls := (.type "function"), dict := none, data := (.func { name := (Str.ofString "ratio"), qualname := (Str.ofString "SequenceMatcher.ratio"), params := fnParams (stAt (clsBody (stAt pw.main.body 5)) 10), body := .stmts (fnBody (stAt (clsBody (stAt pw.main.body 5)) 10)), scope := fnScope (stAt (clsBody (stAt pw.main.body 5)) 10), globals := 3, closure := [], defaults := .none, kwdefaults := .none, doc := (.str (docAt (fnBody (stAt (clsBody (stAt pw.main.body 5)) 10))) 542), pyModule := (.str (Str.ofString "cpy313.difflib") 194), annotations := none, code := (.ref 224), closureTuple := .none, builtins := 0 }), slots := [].toArray }
noncomputable def k231 (_P : Params) : Obj := { cls := (.type "code"), dict := none, data := (.fields [(.str (Str.ofString "quick_ratio") 544), (.str (Str.ofString "SequenceMatcher.quick_ratio") 545), (.str (Str.ofString "/claim/cut.py") 546), (.int (413) 0), (.int (1) 0), (.int (0) 0), (.int (0) 0), (.int (3) 0), (.ref 226), (.bool true), (.int (181) 0), (.ref 227), .none, (.ref 228), (.ref 229), (.ref 230), (.int (548) 0), (.int (413) 0), (.str (Str.ofString "/claim/cut.py") 549)].toArray), slots := [].toArray }
noncomputable def k232 (_P : Params) : Obj := { cls := (.type "function"), dict := none, data := (.func { name := (Str.ofString "quick_ratio"), qualname := (Str.ofString "SequenceMatcher.quick_ratio"), params := fnParams (stAt (clsBody (stAt pw.main.body 5)) 11), body := .stmts (fnBody (stAt (clsBody (stAt pw.main.body 5)) 11)), scope := fnScope (stAt (clsBody (stAt pw.main.body 5)) 11), globals := 3, closure := [], defaults := .none, kwdefaults := .none, doc := .none, pyModule := (.str (Str.ofString "cpy313.difflib") 194), annotations := none, code := (.ref 231), closureTuple := .none, builtins := 0 }), slots := [].toArray }
noncomputable def k238 (_P : Params) : Obj := { cls := (.type "code"), dict := none, data := (.fields [(.str (Str.ofString "real_quick_ratio") 551), (.str (Str.ofString "SequenceMatcher.real_quick_ratio") 552), (.str (Str.ofString "/claim/cut.py") 553), (.int (416) 0), (.int (1) 0), (.int (0) 0), (.int (0) 0), (.int (3) 0), (.ref 233), (.bool true), (.int (181) 0), (.ref 234), .none, (.ref 235), (.ref 236), (.ref 237), (.int (555) 0), (.int (416) 0), (.str (Str.ofString "/claim/cut.py") 556)].toArray), slots := [].toArray }
noncomputable def k239 (_P : Params) : Obj := { cls := (.type "function"), dict := none, data := (.func { name := (Str.ofString "real_quick_ratio"), qualname := (Str.ofString "SequenceMatcher.real_quick_ratio"), params := fnParams (stAt (clsBody (stAt pw.main.body 5)) 12), body := .stmts (fnBody (stAt (clsBody (stAt pw.main.body 5)) 12)), scope := fnScope (stAt (clsBody (stAt pw.main.body 5)) 12), globals := 3, closure := [], defaults := .none, kwdefaults := .none, doc := .none, pyModule := (.str (Str.ofString "cpy313.difflib") 194), annotations := none, code := (.ref 238), closureTuple := .none, builtins := 0 }), slots := [].toArray }
noncomputable def k241 (P : Params) : Obj := { cls := (.type "dict"), dict := none, data := (.dict [⟨PyData.keyHash P (Str.ofString "__module__"), (.str (Str.ofString "__module__") 396), (.str (Str.ofString "cpy313.difflib") 194)⟩, ⟨PyData.keyHash P (Str.ofString "__firstlineno__"), (.str (Str.ofString "__firstlineno__") 400), (.int (70) 399)⟩, ⟨PyData.keyHash P (Str.ofString "__doc__"), (.str (Str.ofString "__doc__") 402), (.str (docAt (clsBody (stAt pw.main.body 5))) 401)⟩, ⟨PyData.keyHash P (Str.ofString "__init__"), (.str (Str.ofString "__init__") 417), (.ref 160)⟩, ⟨PyData.keyHash P (Str.ofString "set_seqs"), (.str (Str.ofString "set_seqs") 427), (.ref 167)⟩, ⟨PyData.keyHash P (Str.ofString "set_seq1"), (.str (Str.ofString "set_seq1") 436), (.ref 174)⟩, ⟨PyData.keyHash P (Str.ofString "set_seq2"), (.str (Str.ofString "set_seq2") 445), (.ref 181)⟩, ⟨PyData.keyHash P (Str.ofString "_SequenceMatcher__chain_b"), (.str (Str.ofString "_SequenceMatcher__chain_b") 463), (.ref 188)⟩, ⟨PyData.keyHash P (Str.ofString "find_longest_match"), (.str (Str.ofString "find_longest_match") 491), (.ref 196)⟩, ⟨PyData.keyHash P (Str.ofString "get_matching_blocks"), (.str (Str.ofString "get_matching_blocks") 518), (.ref 203)⟩, ⟨PyData.keyHash P (Str.ofString "get_opcodes"), (.str (Str.ofString "get_opcodes") 525), (.ref 210)⟩, ⟨PyData.keyHash P (Str.ofString "get_grouped_opcodes"), (.str (Str.ofString "get_grouped_opcodes") 534), (.ref 218)⟩, ⟨PyData.keyHash P (Str.ofString "ratio"), (.str (Str.ofString "ratio") 543), (.ref 225)⟩, ⟨PyData.keyHash P (Str.ofString "quick_ratio"), (.str (Str.ofString "quick_ratio") 550), (.ref 232)⟩, ⟨PyData.keyHash P (Str.ofString "real_quick_ratio"), (.str (Str.ofString "real_quick_ratio") 557), (.ref 239)⟩, ⟨PyData.keyHash P (Str.ofString "__static_attributes__"), (.str (Str.ofString "__static_attributes__") 568), (.ref 240)⟩, ⟨PyData.keyHash P (Str.ofString "__dict__"), (.str (Str.ofString "__dict__") 570), (.ref 243)⟩, ⟨PyData.keyHash P (Str.ofString "__weakref__"), (.str (Str.ofString "__weakref__") 572), (.ref 244)⟩].toArray 3), slots := [].toArray }
noncomputable def k242 (_P : Params) : Obj := { cls := (.type "type"), dict := none, data := (.cls { name := (Str.ofString "SequenceMatcher"), bases := [(.type "object")], mro := [(.ref 242), (.type "object")], ns := 241, qualname := (Str.ofString "SequenceMatcher"), hasDict := true, slotNames := [], subclasses := [], abstract := false, collection := none, hasDel := false }), slots := [none, none, (some (.str (Str.ofString "SequenceMatcher") 389)), (some (.str (Str.ofString "SequenceMatcher") 397)), (some (.builtin "object.__new__")), (some (.bool true))].toArray }
noncomputable def k250 (_P : Params) : Obj := { cls := (.type "code"), dict := none, data := (.fields [(.str (Str.ofString "_law_asked") 577), (.str (Str.ofString "_law_asked") 578), (.str (Str.ofString "/claim/cut.py") 579), (.int (419) 0), (.int (2) 0), (.int (0) 0), (.int (0) 0), (.int (3) 0), (.ref 247), (.bool true), (.int (181) 0), (.ref 248), .none, .none, .none, (.ref 249), (.int (580) 0), (.int (419) 0), (.str (Str.ofString "/claim/cut.py") 581)].toArray), slots := [].toArray }
noncomputable def k251 (_P : Params) : Obj := { cls := (.type "function"), dict := none, data := (.func { name := (Str.ofString "_law_asked"), qualname := (Str.ofString "_law_asked"), params := fnParams (stAt pw.main.body 7), body := .stmts (fnBody (stAt pw.main.body 7)), scope := fnScope (stAt pw.main.body 7), globals := 3, closure := [], defaults := .none, kwdefaults := .none, doc := .none, pyModule := (.str (Str.ofString "law_dm0060_06") 575), annotations := none, code := (.ref 250), closureTuple := .none, builtins := 0 }), slots := [].toArray }
noncomputable def k257 (_P : Params) : Obj := { cls := (.type "code"), dict := none, data := (.fields [(.str (Str.ofString "_law_noted") 583), (.str (Str.ofString "_law_noted") 584), (.str (Str.ofString "/claim/cut.py") 585), (.int (424) 0), (.int (4) 0), (.int (0) 0), (.int (0) 0), (.int (3) 0), (.ref 252), (.bool true), (.int (181) 0), (.ref 253), .none, (.ref 254), (.ref 255), (.ref 256), (.int (590) 0), (.int (424) 0), (.str (Str.ofString "/claim/cut.py") 591)].toArray), slots := [].toArray }
noncomputable def k258 (_P : Params) : Obj := { cls := (.type "function"), dict := none, data := (.func { name := (Str.ofString "_law_noted"), qualname := (Str.ofString "_law_noted"), params := fnParams (stAt pw.main.body 8), body := .stmts (fnBody (stAt pw.main.body 8)), scope := fnScope (stAt pw.main.body 8), globals := 3, closure := [], defaults := .none, kwdefaults := .none, doc := .none, pyModule := (.str (Str.ofString "law_dm0060_06") 575), annotations := none, code := (.ref 257), closureTuple := .none, builtins := 0 }), slots := [].toArray }
noncomputable def k262 (_P : Params) : Obj := { cls := (.type "code"), dict := none, data := (.fields [(.str (Str.ofString "law") 593), (.str (Str.ofString "law") 594), (.str (Str.ofString "/claim/cut.py") 595), (.int (428) 0), (.int (1) 0), (.int (0) 0), (.int (0) 0), (.int (3) 0), (.ref 259), (.bool true), (.int (181) 0), (.ref 260), .none, .none, .none, (.ref 261), (.int (596) 0), (.int (428) 0), (.str (Str.ofString "/claim/cut.py") 597)].toArray), slots := [].toArray }
noncomputable def k263 (_P : Params) : Obj := { cls := (.type "function"), dict := none, data := (.func { name := (Str.ofString "law"), qualname := (Str.ofString "law"), params := fnParams (stAt pw.main.body 9), body := .stmts (fnBody (stAt pw.main.body 9)), scope := fnScope (stAt pw.main.body 9), globals := 3, closure := [], defaults := .none, kwdefaults := .none, doc := .none, pyModule := (.str (Str.ofString "law_dm0060_06") 575), annotations := none, code := (.ref 262), closureTuple := .none, builtins := 0 }), slots := [].toArray }
noncomputable def kt220 (_P : Params) : Obj := { cls := .none, dict := none, data := (.fields [].toArray), slots := [].toArray }
noncomputable def kt260 (_P : Params) : Obj := { cls := .none, dict := none, data := (.fields [].toArray), slots := [].toArray }
noncomputable def Kv (P : Params) : List (Option Obj) := [some (k1 P), some (k3 P), some (k4 P), some (k20 P), some (k21 P), some (k34 P), some (k35 P), some (k36 P), some (k42 P), some (k43 P), some (k49 P), some (k50 P), some (k56 P), some (k57 P), some (k59 P), some (k60 P), some (k81 P), some (k82 P), some (k88 P), some (k89 P), some (k91 P), some (k99 P), some (k100 P), some (k106 P), some (k107 P), some (k113 P), some (k114 P), some (k120 P), some (k121 P), some (k123 P), some (k124 P), some (k126 P), some (k127 P), some (k129 P), some (k130 P), some (k134 P), some (k135 P), some (k144 P), some (k145 P), some (k153 P), some (k159 P), some (k160 P), some (k166 P), some (k167 P), some (k173 P), some (k174 P), some (k180 P), some (k181 P), some (k187 P), some (k188 P), some (k189 P), some (k195 P), some (k196 P), some (k202 P), some (k203 P), some (k209 P), some (k210 P), some (k211 P), some (k217 P), some (k218 P), some (k224 P), some (k225 P), some (k231 P), some (k232 P), some (k238 P), some (k239 P), some (k241 P), some (k242 P), some (k250 P), some (k251 P), some (k257 P), some (k258 P), some (k262 P), some (k263 P), some (kt220 P), some (kt260 P)]
def Ka : List Addr := [1, 3, 4, 20, 21, 34, 35, 36, 42, 43, 49, 50, 56, 57, 59, 60, 81, 82, 88, 89, 91, 99, 100, 106, 107, 113, 114, 120, 121, 123, 124, 126, 127, 129, 130, 134, 135, 144, 145, 153, 159, 160, 166, 167, 173, 174, 180, 181, 187, 188, 189, 195, 196, 202, 203, 209, 210, 211, 217, 218, 224, 225, 231, 232, 238, 239, 241, 242, 250, 251, 257, 258, 262, 263, 220, 260]
def Kt : List Addr := [220, 260]
noncomputable def rest : List Stmt := pw.main.body.drop 5
noncomputable def codeB : Code := .body (behindTheImports pw) A.env_1
abbrev posK : Pos := ⟨66, 0, 69, 14⟩
abbrev q0 : Pos := ⟨0, 0, 0, 0⟩
abbrev annV : Option Value := some (.ref 6)
noncomputable def S4 (w : World) (os : OsState) : SharedT := ⟨A.tree_215 w.params, 146, {}, Array.mk [], {}, 389, os⟩
noncomputable def SB (w : World) (os : OsState) : SharedT := ⟨A.tree_4 w.params, 15, {}, Array.mk [], {}, 187, os⟩
noncomputable def S0 (w : World) (os : OsState) : Shared := ⟨boot_heap w.params, Array.mk [], boot_drawn, boot_toks, os⟩
noncomputable def qv : Program := view pw [9]
def loose : List Str := ["_wall", "_tuplegetter", "Match", "_calculate_ratio", "SequenceMatcher", "_law_asked", "_law_noted"]
def Xt (s : Shared) : Bool := recOk [] s
theorem obs_keeps : ∀ (as : List Addr) (os : List (Option Obj)) (h h' : Heap), (∀ o ∈ os, o.isSome = true) → as.map h.get? = os → (∀ b o, h.get? b = some o → h'.get? b = some o) → as.map h'.get? = os
  | [], os, _, _, _, e, _ => by rw [← e]; rfl
  | a :: as, [], _, _, _, e, _ => by cases e
  | a :: as, o :: os, h, h', hs, e, k => by
    obtain ⟨e1, e2⟩ := List.cons.inj e
    obtain ⟨x, rfl⟩ := Option.isSome_iff_exists.mp (hs _ (.head _))
    rw [List.map_cons, k _ _ e1, obs_keeps as os h h' (fun o ho => hs o (.tail _ ho)) e2 k]
theorem Kv_some (P : Params) : ∀ o ∈ Kv P, o.isSome = true := List.all_eq_true.mp (by kernel_rfl : (Kv P).all (·.isSome) = true)
noncomputable def hook : Hook := ⟨List (Option Obj), fun s => Ka.map s.heap.get?, fun w => Kv w.params, fun w h => Ka.map h.get? = Kv w.params, fun _ _ e => e, fun w h h' e k => obs_keeps _ _ h h' (Kv_some w.params) e k⟩
noncomputable def e1 (w : World) (os : OsState) : Option (Thread × Flow × Shared × Code × Pos) :=
  (topGo treeTable pw w 11 annV 12 (S0 w os) (topStub pw)).bind fun x =>
    (segRun treeTable pw w 11 annV 1 1 x.1 (blockOf (behindTheImports pw) A.env_1 codeB q0 [topFrame q0])).map fun r => (x.2, r)
noncomputable def e1r (w : World) (os : OsState) : Option (Thread × Flow × Shared × Code × Pos) := some (⟨denote treeTable codeB, codeB, q0, [topFrame q0]⟩, .next, (SB w os).abs, codeB, q0)
noncomputable def e2 (w : World) (os : OsState) :=
  (segRunT tbl pw w 11 annV 1 742 (S4 w os) (piecesOf rest A.env_1 codeB posK [topFrame q0])).bind fun r =>
    (topRun tbl pw w 11 annV 2 r.2.1.abs ⟨doneF .next, r.2.2.1, r.2.2.2, [topFrame q0]⟩).map fun s =>
      (r.1, r.2.2.1, (staticsOk (importedModules pw.main.body) (boot_heap w.params) s.heap && namesBound pw s.heap && gensDone s && laidKept (boot_heap w.params) s.heap), openSeen qv loose (importedModules pw.main.body) Xt true s, Ka.map s.heap.get?)
noncomputable def e2r (w : World) (_os : OsState) := some (Flow.next, codeB, true, openGood qv loose, Kv w.params)
noncomputable def e3 (w : World) (_os : OsState) := ((boot_heap w.params).isNs mainGlobals && (Array.mk [] : Array GenState).size == 0, (boot_heap w.params).objs.size, (boot_heap w.params).nsMap mainGlobals "__annotations__")
end Mine
lay_quick Mine.e1 Mine.e1r Mine.e2 Mine.e2r Mine.e3
namespace Mine
theorem e1q : ∀ (w : World) (os : OsState), PySem.W.Fast.tw2758588111626016893 w os = PySem.W.Fast.tw3336267605350037314 w os := by intro w os; kernel_rfl
theorem e2q : ∀ (w : World) (os : OsState), PySem.W.Fast.tw3392370520221732884 w os = PySem.W.Fast.tw4722635641337964970 w os := by intro w os; kernel_rfl
theorem e3q : ∀ (w : World) (os : OsState), PySem.W.Fast.tw133392957147307173 w os = (true, 11, annV) := by intro w os; kernel_rfl
theorem e1e (w : World) (os : OsState) : e1 w os = e1r w os := by rw [PySem.W.Fast.te2758588111626016893, PySem.W.Fast.te3336267605350037314]; exact e1q w os
theorem e2e (w : World) (os : OsState) : e2 w os = e2r w os := by rw [PySem.W.Fast.te3392370520221732884, PySem.W.Fast.te4722635641337964970]; exact e2q w os
theorem e3e (w : World) (os : OsState) : e3 w os = (true, 11, annV) := by rw [PySem.W.Fast.te133392957147307173]; exact e3q w os
theorem bodyE : behindTheImports pw = A.sts_4 ++ (A.sts_58 ++ (A.sts_207 ++ rest)) := by kernel_rfl
theorem openE : opening pw = plainProg pw.main.scope.names := by kernel_rfl
theorem fenceE (s : Shared) : fenceModules? pw s = some s := by kernel_rfl
theorem runs (w : World) (os : OsState) : ∃ s, topRun treeTable pw w 11 annV 2197 (S0 w os) (topStub pw) = some s ∧
    (staticsOk (importedModules pw.main.body) (boot_heap w.params) s.heap && namesBound pw s.heap && gensDone s && laidKept (boot_heap w.params) s.heap) = true ∧
    openSeen qv loose (importedModules pw.main.body) Xt true s = openGood qv loose ∧ Ka.map s.heap.get? = Kv w.params := by
  have h1 := e1e w os
  unfold e1 e1r at h1
  obtain ⟨⟨Sa, t0⟩, g1, g2⟩ := Option.bind_eq_some_iff.mp h1
  obtain ⟨r, g3, g4⟩ := Option.map_eq_some_iff.mp g2
  obtain ⟨rfl, rfl⟩ := Prod.mk.inj g4
  have h2 := e2e w os
  unfold e2 e2r at h2
  rw [← tbl_eq] at h2
  obtain ⟨⟨f, S', c, p'⟩, k1, k2⟩ := Option.bind_eq_some_iff.mp h2
  obtain ⟨s, k3, k4⟩ := Option.map_eq_some_iff.mp k2
  obtain ⟨rfl, k5⟩ := Prod.mk.inj k4
  obtain ⟨rfl, k6⟩ := Prod.mk.inj k5
  obtain ⟨k7, k8⟩ := Prod.mk.inj k6
  obtain ⟨k9, k10⟩ := Prod.mk.inj k8
  refine ⟨s, ?_, k7, k9, k10⟩
  have fin : topRun treeTable pw w 11 annV 2 S'.abs (restOf [] A.env_1 codeB p' [topFrame q0]) = some s := k3
  have pc := piece_app (segRun_of k1) fin
  rw [List.append_nil] at pc
  have ch := A.chain pw (behindTheImports pw) w os rest _ s pc
  rw [← bodyE] at ch
  exact go_top (n := 12) g1 (piece_block (n := 1) g3 ch)
theorem left_of {p q : Program} {loose : List Str} {Xt : Shared → Bool} {α : Type} {Yf : Shared → α} {Ya : World → α} {N : Nat} {H₀ : Params → Heap} {gs₀ : Array GenState} {d₀ : Drawn} {k₀ m₀ M : Nat} {ann : Option Value}
    (open_ : ∀ w : World, (fencedOpening treeTable p w N).map (fun s => (s.heap, s.gens, s.drawn, s.toks)) = some (H₀ w.params, gs₀, d₀, k₀))
    (size : ∀ w : World, ((H₀ w.params).isNs mainGlobals && gs₀.size == 0, (H₀ w.params).objs.size, (H₀ w.params).nsMap mainGlobals "__annotations__") = (true, m₀, ann))
    (run : ∀ (w : World) (os : OsState), ∃ s, topRun treeTable p w m₀ ann M ⟨H₀ w.params, gs₀, d₀, k₀, os⟩ (topStub p) = some s ∧
      (staticsOk (importedModules p.main.body) (H₀ w.params) s.heap && namesBound p s.heap && gensDone s && laidKept (H₀ w.params) s.heap) = true ∧
      openSeen q loose (importedModules p.main.body) Xt true s = openGood q loose ∧ Yf s = Ya w) (le : Nat.ble M N = true) : LeftO p q loose Xt Yf Ya N := by
  intro w
  obtain ⟨⟨h, gs, d, k, os⟩, e, e'⟩ := Option.map_eq_some_iff.mp (open_ w)
  obtain ⟨rfl, rfl, rfl, rfl⟩ : h = H₀ w.params ∧ gs = gs₀ ∧ d = d₀ ∧ k = k₀ := by simpa using e'
  obtain ⟨z1, z2, z3⟩ : _ ∧ _ ∧ _ := by simpa only [Prod.mk.injEq] using size w
  obtain ⟨s, r, l1, l2, l3⟩ := run w os
  have r := topRun_mono (N - M) _ _ _ _ r
  rw [show M + (N - M) = N by have := Nat.le_of_ble_eq_true le; omega] at r
  have t : topFrom treeTable p w N ⟨H₀ w.params, gs, d, k, os⟩ = some s := by
    unfold topFrom
    dsimp only
    rw [z1, z2, z3, r]
    show (match staticsOk (importedModules p.main.body) (H₀ w.params) s.heap && namesBound p s.heap && gensDone s && laidKept (H₀ w.params) s.heap with | true => _ | false => _) = _
    rw [l1]
  unfold openEnds
  rw [e]
  show (topFrom treeTable p w N _).map _ = _
  rw [t]
  exact congrArg some (Prod.ext l2 l3)
theorem left : LeftO pw qv loose Xt (Hook.obs hook) (Hook.val hook) 4394 :=
  left_of (M := 2197) (boot_open (p := pw) (N := 4394) openE (by decide) fenceE) (fun w => e3e w default) (fun w os => runs w os) (by decide)
theorem postG {c : ClaimW} {cl : Str → Option Addr} {mean : ExcName → Option Value} {args : List WData} {s₁ s' : Shared} (hr : ∀ cls, c.raises args cls = false) (hp : c.post args (.bool true) args = true)
    (h : OldK s₁.heap s'.heap ∧ s'.os = s₁.os ∧ AllBare s'.gens) : GoodWG c cl mean args s₁ (.ok (.ret (.bool true))) s' :=
  ⟨.inl ⟨_, .bool true, [], rfl, hr, .bool true, hp, fun _ => ⟨.nil, fun _ h => nomatch h⟩⟩, h⟩
theorem inK {P : Params} {h : Heap} {a : Addr} {o : Obj} (Y : Ka.map h.get? = Kv P) (e : (Ka.zip (Kv P)).lookup a = some (some o)) : h.get? a = some o := by
  rw [← Y] at e
  generalize Ka = l at e
  clear Y
  induction l with
  | nil => cases e
  | cons b l ih =>
    simp only [List.map_cons, List.zip_cons_cons, List.lookup_cons] at e
    by_cases hb : (a == b) = true
    · rw [hb] at e; cases beq_iff_eq.mp hb; exact Option.some.inj e
    · rw [Bool.not_eq_true] at hb; rw [hb] at e; exact ih e
def Walk : Prop := ∀ (w : World) (s₁ : Shared) (mb : Str → Option Value) (a : Addr) (vs : List Value) (ns : List Int),
  s₁.heap.Ns builtinsNs mb → (∀ x : Str, x ≠ "__name__" → mb x = bootBuiltins x) → s₁.heap.NoLimit → Ka.map s₁.heap.get? = Kv w.params → s₁.gens = #[] →
  s₁.heap.PlainList a vs.toArray → IntsAre vs ns → ns.length ≤ 63 → PyData.layable0 (.list (ns.map .int)) = true → 
  wpAny (model pw w) callerA (call (.ref 263) [.ref a]) (fun v s' => v = .bool true ∧ OldK s₁.heap s'.heap ∧ s'.os = s₁.os ∧ AllBare s'.gens) (fun _ _ => False) s₁
theorem plain_of {P : Params} {h : Heap} {a : Addr} {vs : List Value} {args : List WData} {vals : List Value} (hw : WellAll P h (.ref a :: vals) args) (hl : h.IsList a vs.toArray) : h.PlainList a vs.toArray := by
  obtain ⟨o, ho, hc, n, hd⟩ := hl
  cases hw with
  | cons hv _ =>
    cases hv with
    | @list _ vs' xs hg _ =>
      rw [ho] at hg
      injection hg with hg
      rw [hg] at hd hc
      injection hd with hd1 hd2
      refine ⟨0, ?_⟩
      rw [ho, hg, hd1]
    | _ => simp_all <;> (subst_vars; simp at hc)
theorem holds_of (walk : Walk) : PySem.Challenge.rw_dm0060_06.Holds := by
  o_law
  rename_i said
  refine PySem.W.holds_open (r := PySem.Challenge.rw_dm0060_06.row) (q := qv) (loose := loose) (Xt := Xt) (XP := fun _ _ => True) (Yf := Hook.obs hook) (Ya := Hook.val hook) (YP := Hook.says hook) left (Hook.of hook) (Hook.keeps hook) (fun _ _ => trivial) (fun _ _ _ _ _ => trivial) (by rfl) (by rfl) (by rfl) (fun s e => recFacts_of e) (by rfl) said (by decide +kernel) ⟨rfl, rfl, rfl, rfl, rfl, by decide +kernel⟩ ?hw ?hc
  case hw => w_witness2
  case hc =>
    intro w s₀ s₁ mg mb G Y a o pm cd doc dV kV ho hd hcd hD hmg hg args vals as hpre hlay hrd hwl hlo
    have T := G.T
    have Y : Ka.map s₁.heap.get? = Kv w.params := Y
    clear hD hcd hd ho G
    have ha : a = 263 := by
      obtain ⟨o3, es, ep, h3, hd3, _, hf⟩ := T.g
      have e3 : s₁.heap.get? 3 = some (k3 w.params) := inK Y (by rfl)
      rw [show mainGlobals = 3 from rfl, e3] at h3
      cases h3
      cases hd3
      have := (hf "law").trans hmg
      have e : (some (Value.ref 263) : Option Value) = some (.ref a) := this
      cases e; rfl
    subst ha
    have hwl2 := hwl
    wrow_args hpre hlay hrd hwl hlo
    rename_i hL hI hc1 hc2
    refine wpAny_mono (walk w s₁ mb _ _ _ T.b T.builtins T.nolimit Y hg (plain_of hwl2 (by assumption)) (by assumption) (by omega) (by assumption)) (fun v s' h => ?_) (fun _ _ h => h.elim)
    obtain ⟨rfl, h⟩ := h
    exact postG (fun _ => rfl) (postW_of rfl (w_eq_bool (k := true) (l := true) (w_res rfl) w_lit) rfl) h
end Mine
namespace Mine
inductive Key where
  | i (n : Int) | s (x : Str)
  deriving DecidableEq, Inhabited
inductive V where
  | none | bool (b : Bool) | int (i : Int) | flt (b : UInt64) | str (s : Str)
  | ty (n : String) | blt (n : String) | top (a : Addr)
  | ref (i : Nat) | obj (i : Nat) (C : Addr)
  | tup (xs : List V) | mat (C : Addr) (xs : List V) | lst (xs : List V) | fdict (kvs : List (Key × V)) | fset (ks : List Key)
  | bm (id : String) (x : V) | meth (f : Addr) (x : V) | view (ty : String) (x : V)
  | lam (params : Arguments) (body : Expr) (scope : Scope) (qual : Str) (cl : List (Str × Nat))
  | rng (a b c : Int) | enm (x : V) | mp (f x : V)
  deriving Inhabited
def Key.v : Key → V
  | .i n => .int n
  | .s x => .str x
inductive AO where
  | dead | list (xs : List V) | dict (kvs : List (Key × V)) | dictE (ep : Nat) (kvs : List (Key × V)) | set (ks : List Key) | setO (o : Obj) (ks : List Key) | inst (fs : List (Str × V)) | cell (v : Option V)
  deriving Inhabited
abbrev G := Addr → Option Obj
def Key.is : Key → Value → Bool
  | .i n, v => Value.isInt n v
  | .s x, v => Value.isStrOf x v
def Key.hash (w : World) : Key → Int
  | .i n => hashInt n
  | .s x => hashStr w x
theorem eqBool_int_str {prog : Program} {w : World} {A : Around} {E : Value → Shared → Prop} {s : Shared} {a : Int} {t : Tok} {b : Str} {u : Tok} {Q : Bool → Shared → Prop} (h : Q false s) :
    wpAny (model prog w) A (PySem.eqBool (.int a t) (.str b u)) Q E s := by
  unfold PySem.eqBool
  refine wpAny_holding ?_
  rw [if_neg (by simp)]
  exact wpAny_bind (EqMixed.eq_int_str (wpAny_truthy_bool h))
theorem eqBool_str_int {prog : Program} {w : World} {A : Around} {E : Value → Shared → Prop} {s : Shared} {a : Int} {t : Tok} {b : Str} {u : Tok} {Q : Bool → Shared → Prop} (h : Q false s) :
    wpAny (model prog w) A (PySem.eqBool (.str b u) (.int a t)) Q E s := by
  unfold PySem.eqBool
  refine wpAny_holding ?_
  rw [if_neg (by simp)]
  exact wpAny_bind (EqMixed.eq_str_int (wpAny_truthy_bool h))
def kk (prog : Program) (w : World) : KeyKind prog w Key where
  is := Key.is
  hash := Key.hash w
  inj := fun v a b ha hb => by
    cases a <;> cases b
    · rw [Value.isInt_inj v _ _ ha hb]
    · obtain ⟨t, rfl⟩ := Value.isInt_shape ha; cases hb
    · obtain ⟨t, rfl⟩ := Value.isInt_shape hb; cases ha
    · rw [Value.isStrOf_inj v _ _ ha hb]
  byValue := fun k v h => by
    cases k
    · obtain ⟨t, rfl⟩ := Value.isInt_shape h; rfl
    · obtain ⟨t, rfl⟩ := Value.isStrOf_shape h; rfl
  pyHash := fun {A E s k v Q} hv h => by
    cases k
    · obtain ⟨t, rfl⟩ := Value.isInt_shape hv; exact wpAny_pyHash_int h
    · obtain ⟨t, rfl⟩ := Value.isStrOf_shape hv; exact wpAny_pyHash_str h
  eqBool := fun {A E s a b u v Q} hu hv h => by
    cases a <;> cases b
    · obtain ⟨t, rfl⟩ := Value.isInt_shape hu
      obtain ⟨t', rfl⟩ := Value.isInt_shape hv
      refine wpAny_eqBool_int ?_
      have e : ∀ x y : Int, decide (Key.i x = Key.i y) = (x == y) := fun x y => by
        by_cases hxy : x = y <;> simp [hxy]
      rw [e] at h; exact h
    · obtain ⟨t, rfl⟩ := Value.isInt_shape hu
      obtain ⟨t', rfl⟩ := Value.isStrOf_shape hv
      exact eqBool_int_str (by simpa using h)
    · obtain ⟨t, rfl⟩ := Value.isStrOf_shape hu
      obtain ⟨t', rfl⟩ := Value.isInt_shape hv
      exact eqBool_str_int (by simpa using h)
    · obtain ⟨t, rfl⟩ := Value.isStrOf_shape hu
      obtain ⟨t', rfl⟩ := Value.isStrOf_shape hv
      refine wpAny_eqBool_str ?_
      have e : ∀ x y : Str, decide (Key.s x = Key.s y) = decide (x = y) := fun x y => by
        by_cases hxy : x = y <;> simp [hxy]
      rw [e] at h
      exact h
  «strs» := fun k x t v h => by
    cases k
    · simp [Key.is, Value.isInt] at h
    · exact (strKind prog w).«strs» _ x t v h
structure Cx where
  prog : Program
  w : World
  os : OsState
  tabs : List Addr
  tabq : Addr → Str
  h₀ : Heap
abbrev Cx.k (C : Cx) : KeyKind C.prog C.w Key := kk C.prog C.w
abbrev Cx.M (C : Cx) : Model := model C.prog C.w
/-- a set's object -/
def SetObj (C : Cx) (o : Obj) (ks : List Key) : Prop :=
  ∃ es ep t, o.ExactSet ∧ o.data = .set es ep t ∧ ElemsOf C.k es.toList ∧ (∀ k, k ∈ ks ↔ ∃ e ∈ es.toList, C.k.is k e.2 = true) ∧ ks.Nodup ∧ es.size = ks.length ∧ es.size < scanBound ∧
    t.fits es.size = true ∧ t.led = (!C.w.params.followText "set-order") ∧ t.place.toList.Pairwise (· < ·)
mutual
inductive Conc (C : Cx) (g : G) (ρ : List Addr) : V → Value → Prop
  | none : Conc C g ρ .none .none
  | bool (b : Bool) : Conc C g ρ (.bool b) (.bool b)
  | int (i : Int) (t : Tok) : Conc C g ρ (.int i) (.int i t)
  | flt (b : UInt64) (t : Tok) : Conc C g ρ (.flt b) (.float b t)
  | str (x : Str) (t : Tok) : Conc C g ρ (.str x) (.str x t)
  | ty (n : String) : Conc C g ρ (.ty n) (.type n)
  | blt (n : String) : Conc C g ρ (.blt n) (.builtin n)
  | top (a : Addr) : Conc C g ρ (.top a) (.ref a)
  | ref {i : Nat} {a : Addr} : ρ[i]? = some a → Conc C g ρ (.ref i) (.ref a)
  | obj {i : Nat} {K x dx : Addr} : g x = some ⟨.ref K, some dx, .plain, #[]⟩ → ρ[i]? = some dx → Conc C g ρ (.obj i K) (.ref x)
  | tup {xs : List V} {vs : List Value} {a : Addr} {o : Obj} {n : Nat} : g a = some o → o.cls = .type "tuple" → o.data = .seq vs.toArray n → Concs C g ρ xs vs → Conc C g ρ (.tup xs) (.ref a)
  | mat {K : Addr} {xs : List V} {vs : List Value} {a : Addr} {o : Obj} {n : Nat} : g a = some o → o.cls = .ref K → o.data = .seq vs.toArray n → o.dict = none → o.slots = #[] → Concs C g ρ xs vs → Conc C g ρ (.mat K xs) (.ref a)
  | lst {xs : List V} {vs : List Value} {a : Addr} {n : Nat} : g a = some { cls := .type "list", data := .seq vs.toArray n } → Concs C g ρ xs vs → Conc C g ρ (.lst xs) (.ref a)
  | fdict {kvs : List (Key × V)} {kvs' : List (Key × Value)} {a : Addr} {o : Obj} : g a = some o → o.IsDictOf C.k kvs' → C.h₀.get? a = Option.none → kvs'.map (·.1) = kvs.map (·.1) → Concs C g ρ (kvs.map (·.2)) (kvs'.map (·.2)) → Conc C g ρ (.fdict kvs) (.ref a)
  | fset {ks : List Key} {a : Addr} {o : Obj} : g a = some o → SetObj C o ks → Conc C g ρ (.fset ks) (.ref a)
  | bm {id : String} {v : V} {y : Value} {a : Addr} : g a = some { cls := .type "builtin_function_or_method", data := .fields #[.builtin id, y] } → Conc C g ρ v y → Conc C g ρ (.bm id v) (.ref a)
  | meth {f : Addr} {v : V} {y : Value} {a : Addr} : g a = some { cls := .type "method", data := .fields #[.ref f, y] } → Conc C g ρ v y → Conc C g ρ (.meth f v) (.ref a)
  | view {t : String} {v : V} {y : Value} {a : Addr} : g a = some { cls := .type t, data := .fields #[y] } → Conc C g ρ v y → Conc C g ρ (.view t v) (.ref a)
  | lam {params : Arguments} {body : Expr} {scope : Scope} {qual : Str} {cl : List (Str × Nat)} {a c : Addr} {o oc : Obj} {fd : FuncData} {vs : Array Value} {t : Tok} : g a = some o → o.cls = .type "function" → o.data = .func fd → fd.params = params → fd.body = .expr body →
      fd.scope = scope → fd.qualname = qual → fd.globals = mainGlobals → fd.builtins = builtinsNs → fd.defaults = .none → fd.kwdefaults = .none → fd.closure.map (·.1) = cl.map (·.1) → cl.map (fun x => ρ[x.2]?) = fd.closure.map (fun x => some x.2) →
      fd.code = .ref c → g c = some oc → oc.data = .fields vs → vs[1]? = some (.str qual t) → Conc C g ρ (.lam params body scope qual cl) (.ref a)
  | rng {a b c : Int} {x : Addr} {t t' t'' : Tok} : g x = some { cls := .type "range", data := .fields #[.int a t, .int b t', .int c t''] } → Conc C g ρ (.rng a b c) (.ref x)
inductive Concs (C : Cx) (g : G) (ρ : List Addr) : List V → List Value → Prop
  | nil : Concs C g ρ [] []
  | cons {x : V} {v : Value} {xs : List V} {vs : List Value} : Conc C g ρ x v → Concs C g ρ xs vs → Concs C g ρ (x :: xs) (v :: vs)
end
/-- what a value of a known form is -/
def Inv (C : Cx) (g : G) (ρ : List Addr) : V → Value → Prop
  | .none, x => x = .none
  | .bool b, x => x = .bool b
  | .int i, x => ∃ t, x = .int i t
  | .flt b, x => ∃ t, x = .float b t
  | .str s, x => ∃ t, x = .str s t
  | .ty n, x => x = .type n
  | .blt n, x => x = .builtin n
  | .top a, x => x = .ref a
  | .ref i, x => ∃ a, x = .ref a ∧ ρ[i]? = some a
  | .lst xs, x => ∃ vs a n, x = .ref a ∧ g a = some { cls := .type "list", data := .seq vs.toArray n } ∧ Concs C g ρ xs vs
  | .tup xs, x => ∃ vs a o n, x = .ref a ∧ g a = some o ∧ o.cls = .type "tuple" ∧ o.data = .seq vs.toArray n ∧ Concs C g ρ xs vs
  | _, _ => True
theorem Conc.toInv {C : Cx} {g : G} {ρ : List Addr} {v : V} {x : Value} (c : Conc C g ρ v x) : Inv C g ρ v x := by
  cases c with
  | ref h => exact ⟨_, rfl, h⟩
  | lst h c => exact ⟨_, _, _, rfl, h, c⟩
  | tup a b c d => exact ⟨_, _, _, _, rfl, a, b, c, d⟩
  | int _ t => exact ⟨t, rfl⟩
  | flt _ t => exact ⟨t, rfl⟩
  | str _ t => exact ⟨t, rfl⟩
  | none => rfl
  | bool => rfl
  | ty => rfl
  | blt => rfl
  | top => rfl
  | _ => trivial
def Sub (g g' : G) : Prop := ∀ a o, g a = some o → g' a = some o
theorem Sub.refl (g : G) : Sub g g := fun _ _ e => e
theorem Sub.trans {a b c : G} (x : Sub a b) (y : Sub b c) : Sub a c := fun _ _ e => y _ _ (x _ _ e)
theorem pre_get {ρ ρ' : List Addr} (p : ρ <+: ρ') {i : Nat} {a : Addr} (h : ρ[i]? = some a) : ρ'[i]? = some a := by
  obtain ⟨t, rfl⟩ := p
  rw [List.getElem?_append_left (by exact (List.getElem?_eq_some_iff.mp h).1)]
  exact h
theorem pre_cl {ρ ρ' : List Addr} (p : ρ <+: ρ') : ∀ {cl : List (Str × Nat)} {fc : List (Str × Addr)}, cl.map (fun x => ρ[x.2]?) = fc.map (fun x => some x.2) → cl.map (fun x => ρ'[x.2]?) = fc.map (fun x => some x.2)
  | [], [], _ => rfl
  | [], _ :: _, h => by cases h
  | _ :: _, [], h => by cases h
  | c :: cl, f :: fc, h => by
    simp only [List.map_cons, List.cons.injEq] at h ⊢
    exact ⟨pre_get p h.1, pre_cl p h.2⟩
mutual
theorem Conc.mono {C : Cx} {g g' : G} {ρ ρ' : List Addr} (hs : Sub g g') (hp : ρ <+: ρ') : ∀ {v : V} {x : Value}, Conc C g ρ v x → Conc C g' ρ' v x
  | _, _, .none => .none
  | _, _, .bool b => .bool b
  | _, _, .int i t => .int i t
  | _, _, .flt b t => .flt b t
  | _, _, .str x t => .str x t
  | _, _, .ty n => .ty n
  | _, _, .blt n => .blt n
  | _, _, .top a => .top a
  | _, _, .ref h => .ref (pre_get hp h)
  | _, _, .obj h k => .obj (hs _ _ h) (pre_get hp k)
  | _, _, .tup a b c d => .tup (hs _ _ a) b c (Concs.mono hs hp d)
  | _, _, .mat a b c x y d => .mat (hs _ _ a) b c x y (Concs.mono hs hp d)
  | _, _, .lst a d => .lst (hs _ _ a) (Concs.mono hs hp d)
  | _, _, .fdict a b c d e => .fdict (hs _ _ a) b c d (Concs.mono hs hp e)
  | _, _, .fset a b => .fset (hs _ _ a) b
  | _, _, .bm a b => .bm (hs _ _ a) (Conc.mono hs hp b)
  | _, _, .meth a b => .meth (hs _ _ a) (Conc.mono hs hp b)
  | _, _, .view a b => .view (hs _ _ a) (Conc.mono hs hp b)
  | _, _, .lam a b c d e f h i j k l m n o p q r => .lam (hs _ _ a) b c d e f h i j k l m (pre_cl hp n) o (hs _ _ p) q r
  | _, _, .rng a => .rng (hs _ _ a)
theorem Concs.mono {C : Cx} {g g' : G} {ρ ρ' : List Addr} (hs : Sub g g') (hp : ρ <+: ρ') : ∀ {v : List V} {x : List Value}, Concs C g ρ v x → Concs C g' ρ' v x
  | _, _, .nil => .nil
  | _, _, .cons a b => .cons (Conc.mono hs hp a) (Concs.mono hs hp b)
end
/-- the abstract heap -/
structure Hs where
  σ : Nat → AO
  nx : Nat
def Hs.upd (h : Hs) (i : Nat) (x : AO) : Hs := ⟨fun j => if j = i then x else h.σ j, h.nx⟩
def Hs.new (h : Hs) (x : AO) : Hs := ⟨fun j => if j = h.nx then x else h.σ j, h.nx + 1⟩
/-- a moment of the run: the frozen part, the addresses of the abstract heap, the state -/
structure Wd where
  g : G
  ρ : List Addr
  s : Shared
abbrev Conc' (C : Cx) (w : Wd) : V → Value → Prop := Conc C w.g w.ρ
abbrev Concs' (C : Cx) (w : Wd) : List V → List Value → Prop := Concs C w.g w.ρ
def ObjA (C : Cx) (g : G) (ρ : List Addr) (o : Obj) : AO → Prop
  | .dead => True
  | .list xs => ∃ vs n, o = { cls := .type "list", data := .seq vs n } ∧ Concs C g ρ xs vs.toList
  | .dict kvs => ∃ kvs' : List (Key × Value), o.IsDictOf C.k kvs' ∧ kvs'.map (·.1) = kvs.map (·.1) ∧ Concs C g ρ (kvs.map (·.2)) (kvs'.map (·.2))
  | .dictE ep kvs => ∃ kvs' : List (Key × Value), (∃ es, o.data = .dict es ep) ∧ o.IsDictOf C.k kvs' ∧ kvs'.map (·.1) = kvs.map (·.1) ∧ Concs C g ρ (kvs.map (·.2)) (kvs'.map (·.2))
  | .set ks => SetObj C o ks
  | .setO o' ks => o = o' ∧ SetObj C o ks
  | .inst fs => ∃ es n, o = W.dictOf es n ∧ es.length ≤ fs.length ∧ ∀ x, (match fs.lookup x with
      | some v => ∃ y, W.getL x es = some (some y) ∧ Conc C g ρ v y
      | none => W.getL x es = some none)
  | .cell v => ∃ v', o.data = .cell v' ∧ (match v with | some x => ∃ y, v' = some y ∧ Conc C g ρ x y | none => v' = none)
theorem ObjA.mono {C : Cx} {g g' : G} {ρ ρ' : List Addr} {o : Obj} {ao : AO} (R : ObjA C g ρ o ao) (hs : Sub g g') (hp : ρ <+: ρ') : ObjA C g' ρ' o ao := by
  cases ao with
  | dead => trivial
  | list xs => obtain ⟨vs, n, r, c⟩ := R; exact ⟨vs, n, r, c.mono hs hp⟩
  | dict kvs => obtain ⟨kvs', r, r2, c⟩ := R; exact ⟨kvs', r, r2, c.mono hs hp⟩
  | dictE ep kvs => obtain ⟨kvs', r0, r, r2, c⟩ := R; exact ⟨kvs', r0, r, r2, c.mono hs hp⟩
  | set ks => exact R
  | setO o' ks => exact R
  | inst fs =>
    obtain ⟨es, k, ho, hl, r⟩ := R
    refine ⟨es, k, ho, hl, fun x => ?_⟩
    have := r x
    cases q : fs.lookup x with
    | none => rw [q] at this; exact this
    | some v => rw [q] at this; obtain ⟨y, h1, h2⟩ := this; exact ⟨y, h1, h2.mono hs hp⟩
  | cell v =>
    obtain ⟨v', ho, r⟩ := R
    refine ⟨v', ho, ?_⟩
    cases v with
    | none => exact r
    | some x => obtain ⟨y, h1, h2⟩ := r; exact ⟨y, h1, h2.mono hs hp⟩
/-- a function's table of the codes made within it -/
def TabOk (q : Str) (g : G) (o : Obj) : Prop := ∃ ps, o = W.tabObj ps ∧ TriplesOk ps.toList ∧ ∀ pos cv, codeAmong pos ps.toList = some cv → ∃ c oc vs t, cv = .ref c ∧ g c = some oc ∧ oc.data = .fields vs ∧ vs[1]? = some (.str q t)
theorem TabOk.mono {q : Str} {g g' : G} {o : Obj} (h : TabOk q g o) (hs : Sub g g') : TabOk q g' o :=
  let ⟨ps, h1, h2, h3⟩ := h
  ⟨ps, h1, h2, fun pos cv e => let ⟨c, oc, vs, t, e1, e2, e3⟩ := h3 pos cv e; ⟨c, oc, vs, t, e1, hs _ _ e2, e3⟩⟩
structure Rep (C : Cx) (w : Wd) (h : Hs) : Prop where
  keep : ∀ a o, w.g a = some o → w.s.heap.get? a = some o
  len : w.ρ.length = h.nx
  nd : w.ρ.Nodup
  off : ∀ i a, w.ρ[i]? = some a → h.σ i ≠ .dead → w.g a = none
  dead : ∀ i, h.nx ≤ i → h.σ i = .dead
  obj : ∀ i a, w.ρ[i]? = some a → ∃ o, w.s.heap.get? a = some o ∧ ObjA C w.g w.ρ o (h.σ i)
  new : ∀ a ∈ w.ρ, C.h₀.get? a = none
  os : w.s.os = C.os
  bare : AllBare w.s.gens
  top : ∀ a o, C.h₀.get? a = some o → a ∉ C.tabs → w.g a = some o
  tab : ∀ a ∈ C.tabs, ∃ o, w.s.heap.get? a = some o ∧ TabOk (C.tabq a) w.g o
  offtab : ∀ a ∈ C.tabs, w.g a = none ∧ a ∉ w.ρ
structure Ext (C : Cx) (X : List Addr) (w w' : Wd) : Prop where
  sub : Sub w.g w'.g
  new : ∀ a o, w'.g a = some o → w.g a = some o ∨ w.s.heap.get? a = none ∨ a ∈ w.ρ
  pre : w.ρ <+: w'.ρ
  newρ : ∀ a ∈ w'.ρ, a ∈ w.ρ ∨ w.s.heap.get? a = none
  kept : ∀ b o, w.s.heap.get? b = some o → b ∉ w.ρ → b ∉ X → b ∉ C.tabs → w'.s.heap.get? b = some o
  live : ∀ b o, w.s.heap.get? b = some o → ∃ o', w'.s.heap.get? b = some o'
theorem get_none {h h' : Heap} {a : Addr} (live : ∀ b o, h.get? b = some o → ∃ o', h'.get? b = some o') (e : h'.get? a = none) : h.get? a = none := by
  cases q : h.get? a with
  | none => rfl
  | some o => obtain ⟨o', e'⟩ := live _ _ q; rw [e] at e'; cases e'
section
variable {C : Cx} {X : List Addr} {w w' w'' : Wd} {h h' : Hs}
theorem Ext.refl : Ext C X w w := ⟨.refl _, fun _ _ e => .inl e, List.prefix_refl _, fun _ h => .inl h, fun _ _ e _ _ _ => e, fun _ o e => ⟨o, e⟩⟩
theorem Ext.trans (x : Ext C X w w') (y : Ext C X w' w'') : Ext C X w w'' where
  sub := x.sub.trans y.sub
  new := fun a o e => (y.new a o e).elim (x.new a o) fun q => q.elim (fun q => .inr (.inl (get_none x.live q))) fun q => .inr (x.newρ a q).symm
  pre := x.pre.trans y.pre
  newρ := fun a e => (y.newρ a e).elim (x.newρ a) fun q => .inr (get_none x.live q)
  kept := fun b o e h1 h2 h3 => y.kept b o (x.kept b o e h1 h2 h3) (fun q => (x.newρ b q).elim h1 fun z => by rw [e] at z; cases z) h2 h3
  live := fun b o e => let ⟨_, e'⟩ := x.live b o e; y.live b _ e'
theorem Ext.widen {Y : List Addr} (x : Ext C X w w') (h : ∀ a ∈ X, a ∈ Y) : Ext C Y w w' :=
  ⟨x.sub, x.new, x.pre, x.newρ, fun b o e h1 h2 h3 => x.kept b o e h1 (fun q => h2 (h _ q)) h3, x.live⟩
theorem Ext.wide {Y : List Addr} (x : Ext C [] w w') : Ext C Y w w' := x.widen (by simp)
theorem Conc.ext {v : V} {x : Value} (c : Conc C w.g w.ρ v x) (e : Ext C X w w') : Conc C w'.g w'.ρ v x := c.mono e.sub e.pre
theorem Concs.ext {v : List V} {x : List Value} (c : Concs C w.g w.ρ v x) (e : Ext C X w w') : Concs C w'.g w'.ρ v x := c.mono e.sub e.pre
/-- another state with the same addresses -/
abbrev Wd.at (w : Wd) (hp : Heap) (k : Nat) : Wd := ⟨w.g, w.ρ, { w.s with heap := hp, toks := k }⟩
abbrev Wd.toks (w : Wd) (k : Nat) : Wd := ⟨w.g, w.ρ, { w.s with toks := k }⟩
theorem Ext.toks {k : Nat} : Ext C X w (w.toks k) := ⟨.refl _, fun _ _ e => .inl e, List.prefix_refl _, fun _ h => .inl h, fun _ _ e _ _ _ => e, fun _ o e => ⟨o, e⟩⟩
theorem Rep.toks {k : Nat} (R : Rep C w h) : Rep C (w.toks k) h := ⟨R.keep, R.len, R.nd, R.off, R.dead, R.obj, R.new, R.os, R.bare, R.top, R.tab, R.offtab⟩
theorem fresh_none {hp : Heap} {a : Addr} (h : hp.objs.size ≤ a) : hp.get? a = none := by
  cases q : hp.get? a with
  | none => rfl
  | some o => exact absurd (Heap.lt_size q) (Nat.not_lt.mpr h)
theorem Rep.off_fresh (R : Rep C w h) {a : Addr} (hn : w.s.heap.get? a = none) : w.g a = none ∧ a ∉ w.ρ ∧ a ∉ C.tabs := by
  refine ⟨?_, fun q => ?_, fun q => ?_⟩
  · cases e : w.g a with
    | none => rfl
    | some o => rw [R.keep a o e] at hn; cases hn
  · obtain ⟨i, hi⟩ := List.getElem?_of_mem q
    obtain ⟨o, ho, _⟩ := R.obj i a hi
    rw [ho] at hn; cases hn
  · obtain ⟨o, ho, _⟩ := R.tab a q; rw [ho] at hn; cases hn
/-- the heap grows, what stood stands -/
theorem Rep.grow {hp : Heap} {k : Nat} (R : Rep C w h) (hk : ∀ b o, w.s.heap.get? b = some o → hp.get? b = some o) : Rep C (w.at hp k) h where
  keep := fun a o e => hk _ _ (R.keep a o e)
  len := R.len
  nd := R.nd
  off := R.off
  dead := R.dead
  obj := fun i a h3 => let ⟨o, h4, h5⟩ := R.obj i a h3; ⟨o, hk _ _ h4, h5⟩
  new := R.new
  os := R.os
  bare := R.bare
  top := R.top
  tab := fun a ha => let ⟨o, e, q⟩ := R.tab a ha; ⟨o, hk _ _ e, q⟩
  offtab := R.offtab
theorem Ext.grow {hp : Heap} {k : Nat} (hk : ∀ b o, w.s.heap.get? b = some o → hp.get? b = some o) : Ext C X w (w.at hp k) where
  sub := .refl _
  new := fun _ _ e => .inl e
  pre := List.prefix_refl _
  newρ := fun _ h => .inl h
  kept := fun b o e _ _ _ => hk b o e
  live := fun b o e => ⟨o, hk b o e⟩
/-- a step that changes objects that are neither frozen nor in the abstract heap -/
theorem Rep.apart {hp : Heap} {k : Nat} {wr : List Addr} (R : Rep C w h) (hk : ∀ b o, b ∉ wr → w.s.heap.get? b = some o → hp.get? b = some o) (h1 : ∀ a ∈ wr, w.g a = none ∧ a ∉ w.ρ ∧ a ∉ C.tabs) : Rep C (w.at hp k) h where
  keep := fun a o e => hk a o (fun q => by rw [(h1 a q).1] at e; cases e) (R.keep a o e)
  len := R.len
  nd := R.nd
  off := R.off
  dead := R.dead
  obj := fun i a h3 => let ⟨o, h4, h5⟩ := R.obj i a h3; ⟨o, hk a o (fun q => (h1 a q).2.1 (List.mem_of_getElem? h3)) h4, h5⟩
  new := R.new
  os := R.os
  bare := R.bare
  top := R.top
  tab := fun a ha => let ⟨o, e, z⟩ := R.tab a ha; ⟨o, hk a o (fun q => (h1 a q).2.2 ha) e, z⟩
  offtab := R.offtab
theorem nodup_inj {ρ : List Addr} (h : ρ.Nodup) {i j : Nat} {a : Addr} (hi : ρ[i]? = some a) (hj : ρ[j]? = some a) : i = j := by
  obtain ⟨l1, e1⟩ := List.getElem?_eq_some_iff.mp hi
  obtain ⟨l2, e2⟩ := List.getElem?_eq_some_iff.mp hj
  have e := e1.trans e2.symm
  rcases Nat.lt_trichotomy i j with q | q | q
  · exact absurd e (List.pairwise_iff_getElem.mp h i j l1 l2 q)
  · exact q
  · exact absurd e.symm (List.pairwise_iff_getElem.mp h j i l2 l1 q)
/-- one object of the abstract heap changes -/
theorem Rep.change {hp : Heap} {a : Addr} {i k : Nat} {o' : Obj} {ao : AO} (R : Rep C w h) (hi : w.ρ[i]? = some a) (hd : h.σ i ≠ .dead) (hs : ∀ b o, b ≠ a → w.s.heap.get? b = some o → hp.get? b = some o) (ho : hp.get? a = some o') (hr : ObjA C w.g w.ρ o' ao) : Rep C (w.at hp k) (h.upd i ao) where
  keep := fun b o e => hs b o (fun q => by subst q; rw [R.off _ _ hi hd] at e; cases e) (R.keep b o e)
  len := R.len
  nd := R.nd
  off := fun j b h1 h2 => by
    by_cases hj : j = i
    · subst hj; exact R.off j b h1 hd
    · refine R.off j b h1 ?_; simpa [Hs.upd, hj] using h2
  dead := fun j hj => by
    have hl : i < h.nx := by rw [← R.len]; exact (List.getElem?_eq_some_iff.mp hi).1
    have hj : h.nx ≤ j := hj
    have : j ≠ i := by omega
    simpa [Hs.upd, this] using R.dead j hj
  obj := fun j b h1 => by
    by_cases hj : j = i
    · subst hj
      have h1 : w.ρ[j]? = some b := h1
      rw [hi] at h1; cases h1
      exact ⟨o', ho, by simpa [Hs.upd] using hr⟩
    · obtain ⟨o, h4, h5⟩ := R.obj j b h1
      exact ⟨o, hs b o (fun q => hj (nodup_inj R.nd h1 (q ▸ hi))) h4, by simpa [Hs.upd, hj] using h5⟩
  new := R.new
  os := R.os
  bare := R.bare
  top := R.top
  tab := fun b hb => let ⟨o, e, z⟩ := R.tab b hb; ⟨o, hs b o (fun q => (R.offtab b hb).2 (q ▸ List.mem_of_getElem? hi)) e, z⟩
  offtab := R.offtab
theorem Ext.change {hp : Heap} {a : Addr} {i k : Nat} {o' : Obj} (hi : w.ρ[i]? = some a) (hs : ∀ b o, b ≠ a → w.s.heap.get? b = some o → hp.get? b = some o) (ho : hp.get? a = some o') : Ext C X w (w.at hp k) where
  sub := .refl _
  new := fun _ _ e => .inl e
  pre := List.prefix_refl _
  newρ := fun _ h => .inl h
  kept := fun b o e h1 _ _ => hs b o (fun q => h1 (q ▸ List.mem_of_getElem? hi)) e
  live := fun b o e => by
    by_cases hb : b = a
    · subst hb; exact ⟨o', ho⟩
    · exact ⟨o, hs b o hb e⟩
/-- a new frozen object -/
def gset (g : G) (a : Addr) (o : Obj) : G := fun b => if b = a then some o else g b
theorem gset_self {g : G} {a : Addr} {o : Obj} : gset g a o a = some o := if_pos rfl
theorem gset_sub {g : G} {a : Addr} {o : Obj} (h : g a = none) : Sub g (gset g a o) := fun b x e => by
  unfold gset; rw [if_neg (fun q => by subst q; rw [h] at e; cases e)]; exact e
theorem push_keeps {h : Heap} {o : Obj} : ∀ b x, h.get? b = some x → (h.push o).get? b = some x := fun _ _ e => Heap.get?_push_of_some o e
abbrev Wd.frz (w : Wd) (a : Addr) (o : Obj) (hp : Heap) (k : Nat) : Wd := ⟨gset w.g a o, w.ρ, { w.s with heap := hp, toks := k }⟩
theorem Rep.frozen {hp : Heap} {a : Addr} {o : Obj} {k : Nat} (R : Rep C w h) (hn : w.s.heap.get? a = none) (hk : ∀ b x, w.s.heap.get? b = some x → hp.get? b = some x) (ho : hp.get? a = some o) : Rep C (w.frz a o hp k) h := by
  have off := R.off_fresh hn
  have hs := gset_sub (o := o) off.1
  refine ⟨fun b x e => ?_, R.len, R.nd, fun i b h1 h2 => ?_, R.dead, fun i b h1 => ?_, R.new, R.os, R.bare, fun b x e ht => hs _ _ (R.top b x e ht), fun b hb => let ⟨x, e, z⟩ := R.tab b hb; ⟨x, hk _ _ e, z.mono hs⟩, fun b hb => ⟨?_, (R.offtab b hb).2⟩⟩
  · have e : gset w.g a o b = some x := e
    unfold gset at e
    split at e
    · rename_i q; cases e; rw [q]; exact ho
    · exact hk _ _ (R.keep b x e)
  · show gset w.g a o b = none
    unfold gset
    rw [if_neg (fun q : b = a => off.2.1 (q ▸ List.mem_of_getElem? h1))]; exact R.off i b h1 h2
  · obtain ⟨x, h4, h5⟩ := R.obj i b h1
    exact ⟨x, hk _ _ h4, h5.mono hs (List.prefix_refl _)⟩
  · show gset w.g a o b = none
    unfold gset
    rw [if_neg (fun q : b = a => off.2.2 (q ▸ hb))]; exact (R.offtab b hb).1
theorem Ext.frozen {hp : Heap} {a : Addr} {o : Obj} {k : Nat} (R : Rep C w h) (hn : w.s.heap.get? a = none) (hk : ∀ b x, w.s.heap.get? b = some x → hp.get? b = some x) : Ext C X w (w.frz a o hp k) where
  sub := gset_sub (R.off_fresh hn).1
  new := fun b x e => by
    have e : gset w.g a o b = some x := e
    unfold gset at e
    split at e
    · rename_i q; right; left; rw [q]; exact hn
    · exact .inl e
  pre := List.prefix_refl _
  newρ := fun _ h => .inl h
  kept := fun b x e _ _ _ => hk b x e
  live := fun b x e => ⟨x, hk b x e⟩
/-- a new object of the abstract heap -/
abbrev Wd.more (w : Wd) (a : Addr) (hp : Heap) (k : Nat) : Wd := ⟨w.g, w.ρ ++ [a], { w.s with heap := hp, toks := k }⟩
theorem Rep.fresh {hp : Heap} {a : Addr} {o : Obj} {k : Nat} {ao : AO} (R : Rep C w h) (hn : w.s.heap.get? a = none) (hk : ∀ b x, w.s.heap.get? b = some x → hp.get? b = some x) (ho : hp.get? a = some o) (hA : ObjA C w.g (w.ρ ++ [a]) o ao) (h0 : C.h₀.get? a = none) : Rep C (w.more a hp k) (h.new ao) := by
  have off := R.off_fresh hn
  refine ⟨fun b x e => hk _ _ (R.keep b x e), by show (w.ρ ++ [a]).length = h.nx + 1; simp [R.len], ?_, fun i b h1 h2 => ?_, fun i hi => ?_, fun i b h1 => ?_, fun b hb => ?_, R.os, R.bare, R.top, fun b hb => let ⟨x, e, z⟩ := R.tab b hb; ⟨x, hk _ _ e, z⟩, fun b hb => ⟨(R.offtab b hb).1, fun q => ?_⟩⟩
  · exact List.nodup_append.mpr ⟨R.nd, by simp, fun b hb c hc => by rw [List.mem_singleton.mp hc]; intro q; exact off.2.1 (q ▸ hb)⟩
  · have h1 : (w.ρ ++ [a])[i]? = some b := h1
    by_cases hi : i < w.ρ.length
    · rw [List.getElem?_append_left hi] at h1
      refine R.off i b h1 ?_
      have : i ≠ h.nx := by rw [← R.len]; omega
      simpa [Hs.new, this] using h2
    · rw [List.getElem?_append_right (Nat.le_of_not_lt hi)] at h1
      have hb : b = a := by
        cases q : i - w.ρ.length with
        | zero => rw [q] at h1; simpa using h1.symm
        | succ m => rw [q] at h1; simp at h1
      rw [hb]; exact off.1
  · have hi : h.nx + 1 ≤ i := hi
    have : i ≠ h.nx := by omega
    simpa [Hs.new, this] using R.dead i (by omega)
  · have h1 : (w.ρ ++ [a])[i]? = some b := h1
    by_cases hi : i < w.ρ.length
    · rw [List.getElem?_append_left hi] at h1
      obtain ⟨x, h4, h5⟩ := R.obj i b h1
      have : i ≠ h.nx := by rw [← R.len]; omega
      exact ⟨x, hk _ _ h4, by simpa [Hs.new, this] using h5.mono (.refl _) (List.prefix_append _ _)⟩
    · rw [List.getElem?_append_right (Nat.le_of_not_lt hi)] at h1
      have h0 : i - w.ρ.length = 0 := by
        cases q : i - w.ρ.length with
        | zero => rfl
        | succ m => rw [q] at h1; simp at h1
      have hi' : i = h.nx := by rw [← R.len]; omega
      rw [h0] at h1
      cases h1
      exact ⟨o, ho, by simpa [Hs.new, hi'] using hA⟩
  · have hb : b ∈ w.ρ ++ [a] := hb
    rcases List.mem_append.mp hb with q | q
    · exact R.new b q
    · rw [List.mem_singleton.mp q]; exact h0
  · have q : b ∈ w.ρ ++ [a] := q
    rcases List.mem_append.mp q with q | q
    · exact (R.offtab b hb).2 q
    · exact off.2.2 (List.mem_singleton.mp q ▸ hb)
theorem Ext.fresh {hp : Heap} {a : Addr} {k : Nat} (hn : w.s.heap.get? a = none) (hk : ∀ b x, w.s.heap.get? b = some x → hp.get? b = some x) : Ext C X w (w.more a hp k) where
  sub := .refl _
  new := fun _ _ e => .inl e
  pre := List.prefix_append _ _
  newρ := fun b h => (List.mem_append.mp h).imp id fun q => by rw [List.mem_singleton.mp q]; exact hn
  kept := fun b x e _ _ _ => hk b x e
  live := fun b x e => ⟨x, hk b x e⟩
theorem Rep.more_at (R : Rep C w h) {a : Addr} : (w.ρ ++ [a])[h.nx]? = some a := by rw [← R.len]; simp
/-- a fresh address is none of the top's -/
theorem Rep.fresh0 (R : Rep C w h) {a : Addr} (hn : w.s.heap.get? a = none) : C.h₀.get? a = none := by
  cases q : C.h₀.get? a with
  | none => rfl
  | some o =>
    by_cases ht : a ∈ C.tabs
    · obtain ⟨x, hx, _⟩ := R.tab a ht; rw [hn] at hx; cases hx
    · rw [R.keep _ _ (R.top a o q ht)] at hn; cases hn
/-- less may be known -/
def AO.le : AO → AO → Prop
  | _, .dead => True
  | .dictE _ kvs, .dict kvs' => kvs = kvs'
  | .setO _ ks, .set ks' => ks = ks'
  | x, y => x = y
theorem AO.le_refl (x : AO) : x.le x := by cases x <;> simp [AO.le]
theorem ObjA.le {g : G} {ρ : List Addr} {o : Obj} {x y : AO} (R : ObjA C g ρ o x) (l : x.le y) : ObjA C g ρ o y := by
  cases y with
  | dead => trivial
  | dict kvs =>
    cases x <;> simp only [AO.le] at l
    case dictE ep kvs' => subst l; obtain ⟨k, _, r⟩ := R; exact ⟨k, r⟩
    all_goals first | (cases l; done) | (cases l; exact R)
  | set ks =>
    cases x <;> simp only [AO.le] at l
    case setO o' ks' => subst l; exact R.2
    all_goals first | (cases l; done) | (cases l; exact R)
  | _ => cases x <;> simp only [AO.le] at l <;> first | (cases l; done) | (cases l; exact R)
def Hs.Le (h h' : Hs) : Prop := h.nx = h'.nx ∧ ∀ i, (h.σ i).le (h'.σ i)
theorem AO.le_dead {x y : AO} (l : x.le y) (hy : y ≠ .dead) : x ≠ .dead := by
  intro q; subst q; cases y <;> simp_all [AO.le]
theorem Rep.weaken (R : Rep C w h) (l : h.Le h') : Rep C w h' where
  keep := R.keep
  len := R.len.trans l.1
  nd := R.nd
  off := fun i a h1 h2 => R.off i a h1 (AO.le_dead (l.2 i) h2)
  dead := fun i hi => by
    have h1 := l.2 i
    rw [R.dead i (by rw [l.1]; exact hi)] at h1
    revert h1
    cases h'.σ i <;> simp [AO.le]
  obj := fun i a h1 => let ⟨o, h2, h3⟩ := R.obj i a h1; ⟨o, h2, h3.le (l.2 i)⟩
  new := R.new
  os := R.os
  bare := R.bare
  top := R.top
  tab := R.tab
  offtab := R.offtab
end
abbrev Loc := List (Str × V)
/-- a frame: the environment, and where its cells lie -/
structure Fr where
  env : Env
  cel : List (Str × Nat)
structure Frm (C : Cx) (w : Wd) (F : Fr) (loc : Loc) : Prop where
  ns : ∃ m, w.s.heap.Ns F.env.locals m ∧ ∀ x v, loc.lookup x = some v → ∃ y, m x = some y ∧ Conc C w.g w.ρ v y
  off : w.g F.env.locals = none
  offρ : F.env.locals ∉ w.ρ
  offt : F.env.locals ∉ C.tabs
  cells : ∀ x i, F.cel.lookup x = some i → ∃ a, F.env.cells.lookup x = some a ∧ w.ρ[i]? = some a
  kind : F.env.scope.kind = .function
  globals : F.env.globals = mainGlobals
  blt : F.env.builtins = builtinsNs
/-- a frame behind a step that does not touch it -/
theorem Frm.ext {C : Cx} {X : List Addr} {w w' : Wd} {F : Fr} {loc : Loc} (f : Frm C w F loc) (e : Ext C X w w') (hX : F.env.locals ∉ X) : Frm C w' F loc := by
  obtain ⟨m, ⟨o, es, ep, ho, r⟩, hm⟩ := f.ns
  refine ⟨⟨m, ⟨o, es, ep, e.kept _ _ ho f.offρ hX f.offt, r⟩, fun x v hx => ?_⟩, ?_, ?_, f.offt, fun x i hx => ?_, f.kind, f.globals, f.blt⟩
  · obtain ⟨y, h1, h2⟩ := hm x v hx
    exact ⟨y, h1, h2.ext e⟩
  · cases q : w'.g F.env.locals with
    | none => rfl
    | some o' =>
      rcases e.new _ _ q with h | h | h
      · rw [f.off] at h; cases h
      · rw [ho] at h; cases h
      · exact absurd h f.offρ
  · intro q
    rcases e.newρ _ q with h | h
    · exact f.offρ h
    · rw [ho] at h; cases h
  · obtain ⟨a, h1, h2⟩ := f.cells x i hx
    exact ⟨a, h1, pre_get e.pre h2⟩
theorem Frm.ext0 {C : Cx} {w w' : Wd} {F : Fr} {loc : Loc} (f : Frm C w F loc) (e : Ext C [] w w') : Frm C w' F loc := f.ext e (by simp)
theorem Frm.live {C : Cx} {w : Wd} {F : Fr} {loc : Loc} (f : Frm C w F loc) : ∃ o, w.s.heap.get? F.env.locals = some o := let ⟨_, ⟨o, _, _, ho, _⟩, _⟩ := f.ns; ⟨o, ho⟩
/-- room: the call depth that is left -/
structure AOk (A : Around) (n : Nat) : Prop where
  handled : A.handled = none
  depth : A.depth + 4 * n < recursionLimit
  units : A.units + 40 * n < cLine
end Mine
namespace Mine
/-- an expression -/
structure Ev (C : Cx) (n : Nat) (F : Fr) (loc : Loc) (h : Hs) (e : Expr) (Q : V → Hs → Prop) : Prop where
  run : ∀ (A : Around) (w : Wd) (Q' : Value → Shared → Prop) (E : Value → Shared → Prop), AOk A n → Rep C w h → Frm C w F loc →
    (∀ (x : Value) (v : V) (h' : Hs) (w' : Wd), Q v h' → Ext C [] w w' → Rep C w' h' → Conc C w'.g w'.ρ v x → Q' x w'.s) → wpAny C.M A (eval e F.env) Q' E w.s
/-- a test -/
structure EvB (C : Cx) (n : Nat) (F : Fr) (loc : Loc) (h : Hs) (e : Expr) (Q : Bool → Hs → Prop) : Prop where
  run : ∀ (A : Around) (w : Wd) (Q' : Bool → Shared → Prop) (E : Value → Shared → Prop), AOk A n → Rep C w h → Frm C w F loc →
    (∀ (b : Bool) (h' : Hs) (w' : Wd), Q b h' → Ext C [] w w' → Rep C w' h' → Q' b w'.s) → wpAny C.M A (isTrue e F.env (eval e F.env)) Q' E w.s
/-- operations on values -/
structure Op1 (C : Cx) (n : Nat) (f : Value → Sem Value) (h : Hs) (a : V) (Q : V → Hs → Prop) : Prop where
  run : ∀ (A : Around) (w : Wd) (Q' : Value → Shared → Prop) (E : Value → Shared → Prop) (x : Value), AOk A n → Rep C w h → Conc C w.g w.ρ a x →
    (∀ (r : Value) (v : V) (h' : Hs) (w' : Wd), Q v h' → Ext C [] w w' → Rep C w' h' → Conc C w'.g w'.ρ v r → Q' r w'.s) → wpAny C.M A (f x) Q' E w.s
structure Op2 (C : Cx) (n : Nat) (f : Value → Value → Sem Value) (h : Hs) (a b : V) (Q : V → Hs → Prop) : Prop where
  run : ∀ (A : Around) (w : Wd) (Q' : Value → Shared → Prop) (E : Value → Shared → Prop) (x y : Value), AOk A n → Rep C w h → Conc C w.g w.ρ a x → Conc C w.g w.ρ b y →
    (∀ (r : Value) (v : V) (h' : Hs) (w' : Wd), Q v h' → Ext C [] w w' → Rep C w' h' → Conc C w'.g w'.ρ v r → Q' r w'.s) → wpAny C.M A (f x y) Q' E w.s
/-- stores -/
structure Up2 (C : Cx) (n : Nat) (f : Value → Value → Sem Unit) (h : Hs) (a b : V) (Q : Hs → Prop) : Prop where
  run : ∀ (A : Around) (w : Wd) (Q' : Unit → Shared → Prop) (E : Value → Shared → Prop) (x y : Value), AOk A n → Rep C w h → Conc C w.g w.ρ a x → Conc C w.g w.ρ b y →
    (∀ (h' : Hs) (w' : Wd), Q h' → Ext C [] w w' → Rep C w' h' → Q' () w'.s) → wpAny C.M A (f x y) Q' E w.s
structure Up3 (C : Cx) (n : Nat) (f : Value → Value → Value → Sem Unit) (h : Hs) (a b c : V) (Q : Hs → Prop) : Prop where
  run : ∀ (A : Around) (w : Wd) (Q' : Unit → Shared → Prop) (E : Value → Shared → Prop) (x y z : Value), AOk A n → Rep C w h → Conc C w.g w.ρ a x → Conc C w.g w.ρ b y → Conc C w.g w.ρ c z →
    (∀ (h' : Hs) (w' : Wd), Q h' → Ext C [] w w' → Rep C w' h' → Q' () w'.s) → wpAny C.M A (f x y z) Q' E w.s
/-- the truth of a value -/
structure Tru (C : Cx) (n : Nat) (h : Hs) (a : V) (Q : Bool → Hs → Prop) : Prop where
  run : ∀ (A : Around) (w : Wd) (Q' : Bool → Shared → Prop) (E : Value → Shared → Prop) (x : Value), AOk A n → Rep C w h → Conc C w.g w.ρ a x →
    (∀ (b : Bool) (h' : Hs) (w' : Wd), Q b h' → Ext C [] w w' → Rep C w' h' → Q' b w'.s) → wpAny C.M A (truthy x) Q' E w.s
inductive Fl where
  | next | brk | cont | ret (v : V)
inductive ConcF (C : Cx) (w : Wd) : Fl → Flow → Prop
  | next : ConcF C w .next .next
  | brk : ConcF C w .brk .brk
  | cont : ConcF C w .cont .cont
  | ret {v : V} {x : Value} : Conc C w.g w.ρ v x → ConcF C w (.ret v) (.ret x)
/-- statements: one, a row of them; an assignment to a target -/
structure Ex (C : Cx) (n : Nat) (F : Fr) (loc : Loc) (h : Hs) (st : Stmt) (Q : Fl → Loc → Hs → Prop) : Prop where
  run : ∀ (A : Around) (w : Wd) (Q' : Flow → Shared → Prop) (E : Value → Shared → Prop), AOk A n → Rep C w h → Frm C w F loc →
    (∀ (f : Flow) (fl : Fl) (loc' : Loc) (h' : Hs) (w' : Wd), Q fl loc' h' → Ext C [F.env.locals] w w' → Rep C w' h' → Frm C w' F loc' → ConcF C w' fl f → Q' f w'.s) → wpAny C.M A (exec st F.env) Q' E w.s
structure Exs (C : Cx) (n : Nat) (F : Fr) (loc : Loc) (h : Hs) (sts : List Stmt) (Q : Fl → Loc → Hs → Prop) : Prop where
  run : ∀ (A : Around) (w : Wd) (Q' : Flow → Shared → Prop) (E : Value → Shared → Prop), AOk A n → Rep C w h → Frm C w F loc →
    (∀ (f : Flow) (fl : Fl) (loc' : Loc) (h' : Hs) (w' : Wd), Q fl loc' h' → Ext C [F.env.locals] w w' → Rep C w' h' → Frm C w' F loc' → ConcF C w' fl f → Q' f w'.s) → wpAny C.M A (execs sts F.env) Q' E w.s
structure As (C : Cx) (n : Nat) (F : Fr) (loc : Loc) (h : Hs) (t : Expr) (v : V) (Q : Loc → Hs → Prop) : Prop where
  run : ∀ (A : Around) (w : Wd) (Q' : Unit → Shared → Prop) (E : Value → Shared → Prop) (x : Value), AOk A n → Rep C w h → Frm C w F loc → Conc C w.g w.ρ v x →
    (∀ (loc' : Loc) (h' : Hs) (w' : Wd), Q loc' h' → Ext C [F.env.locals] w w' → Rep C w' h' → Frm C w' F loc' → Q' () w'.s) → wpAny C.M A (assign t F.env x) Q' E w.s
section
variable {C : Cx} {n : Nat} {F : Fr} {loc : Loc} {h : Hs} {Q : V → Hs → Prop} {QB : Bool → Hs → Prop} {QF : Fl → Loc → Hs → Prop} {QL : Loc → Hs → Prop} {QU : Hs → Prop}
theorem Ev.mono {e : Expr} {Q₀ : V → Hs → Prop} (H : Ev C n F loc h e Q₀) (k : ∀ v h', Q₀ v h' → Q v h') : Ev C n F loc h e Q :=
  ⟨fun A w Q' E a R f c => H.run A w Q' E a R f fun x v h' w' q => c x v h' w' (k _ _ q)⟩
theorem EvB.mono {e : Expr} {Q₀ : Bool → Hs → Prop} (H : EvB C n F loc h e Q₀) (k : ∀ v h', Q₀ v h' → QB v h') : EvB C n F loc h e QB :=
  ⟨fun A w Q' E a R f c => H.run A w Q' E a R f fun b h' w' q => c b h' w' (k _ _ q)⟩
theorem Exs.mono {e : List Stmt} {Q₀ : Fl → Loc → Hs → Prop} (H : Exs C n F loc h e Q₀) (k : ∀ f l h', Q₀ f l h' → QF f l h') : Exs C n F loc h e QF :=
  ⟨fun A w Q' E a R f c => H.run A w Q' E a R f fun x v l h' w' q => c x v l h' w' (k _ _ _ q)⟩
theorem Ev.weak {e : Expr} (H : Ev C n F loc h e fun v h' => ∃ h'', h'.Le h'' ∧ Q v h'') : Ev C n F loc h e Q :=
  ⟨fun A w Q' E a R f c => H.run A w Q' E a R f fun x v h' w' ⟨h'', le, q⟩ e' R' => c x v h'' w' q e' (R'.weaken le)⟩
/-- forget locals -/
theorem Frm.sub {w : Wd} {l : Loc} (f : Frm C w F loc) (hl : ∀ x v, l.lookup x = some v → loc.lookup x = some v) : Frm C w F l := by
  obtain ⟨m, a, b⟩ := f.ns
  exact ⟨⟨m, a, fun x v e => b x v (hl x v e)⟩, f.off, f.offρ, f.offt, f.cells, f.kind, f.globals, f.blt⟩
theorem ev_int {i : Int} {k : Nat} {p : Pos} (q : Q (.int i) h) : Ev C n F loc h (.Constant (.int i) k p) Q := ⟨fun A w Q' E _ R f c => wpAny_Constant_int (c _ _ _ (w.toks _) q .toks R.toks (.int i _))⟩
theorem ev_none {k : Nat} {p : Pos} (q : Q .none h) : Ev C n F loc h (.Constant .none k p) Q := ⟨fun A w Q' E _ R f c => wpAny_Constant_none (c _ _ _ w q .refl R .none)⟩
theorem ev_bool {b : Bool} {k : Nat} {p : Pos} (q : Q (.bool b) h) : Ev C n F loc h (.Constant (.bool b) k p) Q := ⟨fun A w Q' E _ R f c => wpAny_Constant_bool (c _ _ _ w q .refl R (.bool b))⟩
theorem ev_str {x : Str} {k : Nat} {p : Pos} (q : Q (.str x) h) : Ev C n F loc h (.Constant (.str x) k p) Q := ⟨fun A w Q' E _ R f c => wpAny_Constant_str (c _ _ _ (w.toks _) q .toks R.toks (.str x _))⟩
theorem ev_local {x : Str} {p : Pos} {v : V} (hk : F.env.kindOf x = some .local) (hl : loc.lookup x = some v) (q : Q v h) (hd : (x == ("__debug__" : Str)) = false := by decide) : Ev C n F loc h (.Name x p) Q := ⟨fun A w Q' E _ R f c => by
  obtain ⟨m, hn, hm⟩ := f.ns
  obtain ⟨y, h1, h2⟩ := hm x v hl
  exact wpAny_Name (wpAny_loadName_local f.kind hk hn h1 (c y v h w q .refl R h2)) hd⟩
theorem ev_bin {l r : Expr} {op : Operator} {p : Pos} (H : Ev C n F loc h l fun a h1 => Ev C n F loc h1 r fun b h2 => Op2 C n (binaryOp op) h2 a b Q) : Ev C n F loc h (.BinOp l op r p) Q := ⟨fun A w Q' E a0 R f c =>
  wpAny_BinOp (H.run A w _ _ a0 R f fun x a h1 w1 q1 e1 R1 c1 => q1.run A w1 _ _ a0 R1 (f.ext0 e1) fun y b h2 w2 q2 e2 R2 c2 =>
    q2.run A w2 _ _ x y a0 R2 (c1.ext e2) c2 fun z v h3 w3 q3 e3 R3 c3 => c z v h3 w3 q3 (e1.trans (e2.trans e3)) R3 c3)⟩
theorem ev_cmp {l r : Expr} {op : CmpOp} {p : Pos} (H : Ev C n F loc h l fun a h1 => Ev C n F loc h1 r fun b h2 => Op2 C n (compareOp op) h2 a b Q) (hm : behindInMarks op r = false := by with_unfolding_all rfl) : Ev C n F loc h (.Compare l [op] [r] p) Q := ⟨fun A w Q' E a0 R f c =>
  wpAny_Compare1 (H.run A w _ _ a0 R f fun x a h1 w1 q1 e1 R1 c1 => q1.run A w1 _ _ a0 R1 (f.ext0 e1) fun y b h2 w2 q2 e2 R2 c2 =>
    q2.run A w2 _ _ x y a0 R2 (c1.ext e2) c2 fun z v h3 w3 q3 e3 R3 c3 => c z v h3 w3 q3 (e1.trans (e2.trans e3)) R3 c3) hm⟩
theorem ev_unary {x : Expr} {op : UnaryOp} {p : Pos} (H : Ev C n F loc h x fun a h1 => Op1 C n (unaryOp op) h1 a Q) : Ev C n F loc h (.UnaryOp op x p) Q := ⟨fun A w Q' E a0 R f c =>
  wpAny_UnaryOp (H.run A w _ _ a0 R f fun x a h1 w1 q1 e1 R1 c1 => q1.run A w1 _ _ x a0 R1 c1 fun z v h3 w3 q3 e3 R3 c3 => c z v h3 w3 q3 (e1.trans e3) R3 c3)⟩
theorem ev_ifexp {t a b : Expr} {p : Pos} (H : EvB C n F loc h t fun c h1 => if c then Ev C n F loc h1 a Q else Ev C n F loc h1 b Q) : Ev C n F loc h (.IfExp t a b p) Q := ⟨fun A w Q' E a0 R f c =>
  wpAny_IfExp (H.run A w _ _ a0 R f fun x h1 w1 q1 e1 R1 => by
    cases x
    · exact q1.run A w1 _ _ a0 R1 (f.ext0 e1) fun y b h2 w2 q2 e2 R2 c2 => c y b h2 w2 q2 (e1.trans e2) R2 c2
    · exact q1.run A w1 _ _ a0 R1 (f.ext0 e1) fun y b h2 w2 q2 e2 R2 c2 => c y b h2 w2 q2 (e1.trans e2) R2 c2)⟩
theorem ev_and2 {a b : Expr} {p : Pos} (H : Ev C n F loc h a fun v h1 => Tru C n h1 v fun t h2 => if t then Ev C n F loc h2 b Q else Q v h2) : Ev C n F loc h (.BoolOp .And [a, b] p) Q := ⟨fun A w Q' E a0 R f c =>
  wpAny_And2 (H.run A w _ _ a0 R f fun x v h1 w1 q1 e1 R1 c1 => q1.run A w1 _ _ x a0 R1 c1 fun t h2 w2 q2 e2 R2 => by
    cases t
    · exact c x v h2 w2 q2 (e1.trans e2) R2 (c1.ext e2)
    · exact q2.run A w2 _ _ a0 R2 (f.ext0 (e1.trans e2)) fun y b h3 w3 q3 e3 R3 c3 => c y b h3 w3 q3 (e1.trans (e2.trans e3)) R3 c3)⟩
theorem evB_value {e : Expr} (H : Ev C n F loc h e fun v h1 => Tru C n h1 v QB) (he : ∀ whole, isTrue e F.env whole = (do let v ← whole; standAt e.pos; holding [v] (truthy v)) := by intro _; rfl) : EvB C n F loc h e QB := ⟨fun A w Q' E a0 R f c =>
  wpAny_isTrue_value (H.run A w _ _ a0 R f fun x v h1 w1 q1 e1 R1 c1 => q1.run A w1 _ _ x a0 R1 c1 fun b h2 w2 q2 e2 R2 => c b h2 w2 q2 (e1.trans e2) R2) (he _)⟩
theorem evB_cmp {l r : Expr} {op : CmpOp} {p : Pos} (H : Ev C n F loc h l fun a h1 => Ev C n F loc h1 r fun b h2 => Op2 C n (compareOp op) h2 a b fun v h3 => Tru C n h3 v QB) (hm : behindInMarks op r = false := by with_unfolding_all rfl) : EvB C n F loc h (.Compare l [op] [r] p) QB := ⟨fun A w Q' E a0 R f c =>
  wpAny_isTrue_Compare1 (H.run A w _ _ a0 R f fun x a h1 w1 q1 e1 R1 c1 => q1.run A w1 _ _ a0 R1 (f.ext0 e1) fun y b h2 w2 q2 e2 R2 c2 =>
    q2.run A w2 _ _ x y a0 R2 (c1.ext e2) c2 fun z v h3 w3 q3 e3 R3 c3 => q3.run A w3 _ _ z a0 R3 c3 fun b h4 w4 q4 e4 R4 => c b h4 w4 q4 (e1.trans (e2.trans (e3.trans e4))) R4) hm⟩
theorem evB_not {x : Expr} {p : Pos} (H : EvB C n F loc h x fun b h1 => QB (!b) h1) : EvB C n F loc h (.UnaryOp .Not x p) QB := ⟨fun A w Q' E a0 R f c =>
  wpAny_isTrue_Not (H.run A w _ _ a0 R f fun b h1 w1 q1 e1 R1 => c _ h1 w1 q1 e1 R1)⟩
theorem evB_and_nil {p : Pos} (q : QB true h) : EvB C n F loc h (.BoolOp .And [] p) QB := ⟨fun A w Q' E a0 R f c => isTrue_and_nil (c _ h w q .refl R)⟩
theorem evB_and {x : Expr} {r : List Expr} {p : Pos} (H : EvB C n F loc h x fun b h1 => if b then EvB C n F loc h1 (.BoolOp .And r p) QB else QB false h1) : EvB C n F loc h (.BoolOp .And (x :: r) p) QB := ⟨fun A w Q' E a0 R f c =>
  isTrue_and (H.run A w _ _ a0 R f fun b h1 w1 q1 e1 R1 => by
    cases b
    · exact c _ h1 w1 q1 e1 R1
    · exact q1.run A w1 _ _ a0 R1 (f.ext0 e1) fun b h2 w2 q2 e2 R2 => c b h2 w2 q2 (e1.trans e2) R2)⟩
theorem evB_or_nil {p : Pos} (q : QB false h) : EvB C n F loc h (.BoolOp .Or [] p) QB := ⟨fun A w Q' E a0 R f c => isTrue_or_nil (c _ h w q .refl R)⟩
theorem evB_or {x : Expr} {r : List Expr} {p : Pos} (H : EvB C n F loc h x fun b h1 => if b then QB true h1 else EvB C n F loc h1 (.BoolOp .Or r p) QB) : EvB C n F loc h (.BoolOp .Or (x :: r) p) QB := ⟨fun A w Q' E a0 R f c =>
  isTrue_or (H.run A w _ _ a0 R f fun b h1 w1 q1 e1 R1 => by
    cases b
    · exact q1.run A w1 _ _ a0 R1 (f.ext0 e1) fun b h2 w2 q2 e2 R2 => c b h2 w2 q2 (e1.trans e2) R2
    · exact c _ h1 w1 q1 e1 R1)⟩
theorem tru_bool {b : Bool} (q : QB b h) : Tru C n h (.bool b) QB := ⟨fun A w Q' E x a0 R c k => by cases c; exact wpAny_truthy_bool (k b h w q .refl R)⟩
theorem exs_nil (q : QF .next loc h) : Exs C n F loc h [] QF := ⟨fun A w Q' E a0 R f c => wpAny_execs_nil (c _ _ _ h w q .refl R f .next)⟩
theorem exs_cons {st : Stmt} {rest : List Stmt} (H : Ex C n F loc h st fun fl loc1 h1 => match fl with | .next => Exs C n F loc1 h1 rest QF | fl => QF fl loc1 h1) : Exs C n F loc h (st :: rest) QF := ⟨fun A w Q' E a0 R f c =>
  wpAny_execs_cons (H.run A w _ _ a0 R f fun fl' fl l1 h1 w1 q1 e1 R1 f1 c1 => by
    cases c1 with
    | next => exact q1.run A w1 _ _ a0 R1 f1 fun fl' fl l2 h2 w2 q2 e2 R2 f2 c2 => c fl' fl l2 h2 w2 q2 (e1.trans e2) R2 f2 c2
    | brk => exact c _ _ l1 h1 w1 q1 e1 R1 f1 .brk
    | cont => exact c _ _ l1 h1 w1 q1 e1 R1 f1 .cont
    | ret cx => exact c _ _ l1 h1 w1 q1 e1 R1 f1 (.ret cx))⟩
theorem ex_if {t : Expr} {b o : List Stmt} {p : Pos} (H : EvB C n F loc h t fun c h1 => if c then Exs C n F loc h1 b QF else Exs C n F loc h1 o QF) : Ex C n F loc h (.If t b o p) QF := ⟨fun A w Q' E a0 R f c =>
  wpAny_If (H.run A w _ _ a0 R f fun x h1 w1 q1 e1 R1 => by
    cases x
    · exact q1.run A w1 _ _ a0 R1 (f.ext0 e1) fun fl' fl l2 h2 w2 q2 e2 R2 f2 c2 => c fl' fl l2 h2 w2 q2 (e1.wide.trans e2) R2 f2 c2
    · exact q1.run A w1 _ _ a0 R1 (f.ext0 e1) fun fl' fl l2 h2 w2 q2 e2 R2 f2 c2 => c fl' fl l2 h2 w2 q2 (e1.wide.trans e2) R2 f2 c2)⟩
theorem ex_return {e : Expr} {p : Pos} (H : Ev C n F loc h e fun v h1 => QF (.ret v) loc h1) : Ex C n F loc h (.Return (some e) p) QF := ⟨fun A w Q' E a0 R f c =>
  wpAny_Return_some (H.run A w _ _ a0 R f fun x v h1 w1 q1 e1 R1 c1 => c _ _ loc h1 w1 q1 e1.wide R1 (f.ext0 e1) (.ret c1))⟩
theorem ex_return0 {p : Pos} (q : QF (.ret .none) loc h) : Ex C n F loc h (.Return none p) QF := ⟨fun A w Q' E a0 R f c => wpAny_Return_none (c _ _ loc h w q .refl R f (.ret .none))⟩
theorem ex_expr {e : Expr} {p : Pos} (H : Ev C n F loc h e fun v h1 => QF .next loc h1) (hi : interactive F.env = false := by rfl) (hs : swapsWith e none p.line F.env = pure false := by rfl) : Ex C n F loc h (.Expr e p) QF := ⟨fun A w Q' E a0 R f c =>
  wpAny_Expr_any (H.run A w _ _ a0 R f fun x v h1 w1 q1 e1 R1 c1 => c _ _ loc h1 w1 q1 e1.wide R1 (f.ext0 e1) .next) hi hs⟩
def upd (x : Str) (v : V) : Loc → Loc
  | [] => [(x, v)]
  | (y, u) :: r => if y = x then (x, v) :: r else (y, u) :: upd x v r
theorem lookup_upd {x y : Str} {v : V} : ∀ {l : Loc}, (upd x v l).lookup y = if y = x then some v else l.lookup y
  | [] => by
    by_cases h : y = x
    · subst h; simp [upd]
    · simp only [upd, List.lookup_cons, beq_eq_false_iff_ne.mpr h, if_neg h]
  | (z, u) :: r => by
    unfold upd
    by_cases hz : z = x
    · subst hz
      rw [if_pos rfl]
      by_cases h : y = z
      · subst h; simp
      · simp only [List.lookup_cons, beq_eq_false_iff_ne.mpr h, if_neg h]
    · rw [if_neg hz]
      by_cases h : y = z
      · subst h; simp [hz]
      · simp only [List.lookup_cons, beq_eq_false_iff_ne.mpr h]
        exact lookup_upd
/-- a local name stored -/
theorem store_local {w : Wd} {x : Str} {v : V} {y : Value} {A : Around} {Q' : Unit → Shared → Prop} {E : Value → Shared → Prop} (R : Rep C w h) (f : Frm C w F loc) (c : Conc C w.g w.ρ v y) (hk : F.env.kindOf x = some .local)
    (k : ∀ w', Ext C [F.env.locals] w w' → Rep C w' h → Frm C w' F (upd x v loc) → Q' () w'.s) : wpAny C.M A (storeName F.env x y) Q' E w.s := by
  obtain ⟨m, hn, hm⟩ := f.ns
  refine wpAny_storeName_local hk hn (fun h' hn' hs => k (w.at h' _) ?_ (R.apart (wr := [F.env.locals]) (fun b o hb e => (hs.2 b (by simpa using hb)).trans e) (by simp; exact ⟨f.off, f.offρ, f.offt⟩)) ?_) (by rw [f.kind]; rfl)
  · obtain ⟨o', _, _, ho', _⟩ := hn'
    refine ⟨.refl _, fun _ _ e => .inl e, List.prefix_refl _, fun _ h => .inl h, fun b o e h1 h2 h3 => (hs.2 b (by simpa using h2)).trans e, fun b o e => ?_⟩
    by_cases hb : b = F.env.locals
    · exact ⟨o', hb ▸ ho'⟩
    · exact ⟨o, (hs.2 b hb).trans e⟩
  · refine ⟨⟨_, hn', fun z u hz => ?_⟩, f.off, f.offρ, f.offt, f.cells, f.kind, f.globals, f.blt⟩
    rw [lookup_upd] at hz
    by_cases e : z = x
    · rw [if_pos e] at hz; cases hz; exact ⟨y, if_pos e, c⟩
    · rw [if_neg e] at hz; obtain ⟨w', h1, h2⟩ := hm z u hz; exact ⟨w', (if_neg e).trans h1, h2⟩
theorem as_local {x : Str} {p : Pos} {v : V} (hk : F.env.kindOf x = some .local) (q : QL (upd x v loc) h) : As C n F loc h (.Name x p) v QL := ⟨fun A w Q' E y a0 R f c k =>
  wpAny_assign_Name (store_local R f c hk fun w' e' R' f' => k _ h w' q e' R' f')⟩
/-- an assignment with one target, by the target's own rule -/
theorem ex_assign {t e : Expr} {p : Pos} (H : Ev C n F loc h e fun v h1 => As C n F loc h1 t v fun loc2 h2 => QF .next loc2 h2) (hs : swapsWith e (some t) p.line F.env = pure false := by rfl) (hw : swappedStores [t] e F.env = pure none := by rfl) (he : (assignEach [t] F.env).map (·.2) = [assign t F.env] := by rfl) :
    Ex C n F loc h (.Assign [t] e p) QF := ⟨fun A w Q' E a0 R f c =>
  wpAny_Assign_stores (H.run A w _ _ a0 R f fun x v h1 w1 q1 e1 R1 c1 => by
    rw [he]
    exact q1.run A w1 _ _ x a0 R1 (f.ext0 e1) c1 fun l2 h2 w2 q2 e2 R2 f2 => c _ _ l2 h2 w2 q2 (e1.wide.trans e2) R2 f2 .next) hs hw⟩
theorem ex_assign2 {t u e : Expr} {p : Pos} (H : Ev C n F loc h e fun v h1 => As C n F loc h1 t v fun loc2 h2 => As C n F loc2 h2 u v fun loc3 h3 => QF .next loc3 h3) (hw : swappedStores [t, u] e F.env = pure none := by rfl) (he : (assignEach [t, u] F.env).map (·.2) = [assign t F.env, assign u F.env] := by rfl) :
    Ex C n F loc h (.Assign [t, u] e p) QF := ⟨fun A w Q' E a0 R f c =>
  wpAny_Assign_two (H.run A w _ _ a0 R f fun x v h1 w1 q1 e1 R1 c1 =>
    q1.run A w1 _ _ x a0 R1 (f.ext0 e1) c1 fun l2 h2 w2 q2 e2 R2 f2 => q2.run A w2 _ _ x a0 R2 f2 (c1.ext e2) fun l3 h3 w3 q3 e3 R3 f3 => c _ _ l3 h3 w3 q3 (e1.wide.trans (e2.trans e3)) R3 f3 .next) he hw⟩
end
end Mine
namespace Mine
section
variable {C : Cx} {n : Nat} {F : Fr} {loc : Loc} {h : Hs} {Q : V → Hs → Prop} {QB : Bool → Hs → Prop} {QF : Fl → Loc → Hs → Prop} {QL : Loc → Hs → Prop} {QU : Hs → Prop}
theorem op2_pure {f : Value → Value → Sem Value} {a b v : V} (q : Q v h) (H : ∀ (A : Around) (w : Wd) (Q' : Value → Shared → Prop) (E : Value → Shared → Prop) (x y : Value), AOk A n → Rep C w h → Conc C w.g w.ρ a x → Conc C w.g w.ρ b y →
    (∀ (r : Value) (k : Nat), Conc C w.g w.ρ v r → Q' r { w.s with toks := k }) → wpAny C.M A (f x y) Q' E w.s) : Op2 C n f h a b Q :=
  ⟨fun A w Q' E x y a0 R c1 c2 k => H A w Q' E x y a0 R c1 c2 fun r t c => k r v h (w.toks t) q .toks R.toks c⟩
theorem add_int {a b : Int} (q : Q (.int (a + b)) h) : Op2 C n (binaryOp .Add) h (.int a) (.int b) Q := op2_pure q fun A w Q' E x y a0 R c1 c2 k => by obtain ⟨_, rfl⟩ := c1.toInv; obtain ⟨_, rfl⟩ := c2.toInv; exact PyProof.Rows.add_int (k _ _ (.int _ _))
theorem sub_int {a b : Int} (q : Q (.int (a - b)) h) : Op2 C n (binaryOp .Sub) h (.int a) (.int b) Q := op2_pure q fun A w Q' E x y a0 R c1 c2 k => by obtain ⟨_, rfl⟩ := c1.toInv; obtain ⟨_, rfl⟩ := c2.toInv; exact PyProof.Rows.sub_int (k _ _ (.int _ _))
theorem mod_int {a b : Int} (hb : b ≠ 0) (q : Q (.int (a.fmod b)) h) : Op2 C n (binaryOp .Mod) h (.int a) (.int b) Q := op2_pure q fun A w Q' E x y a0 R c1 c2 k => by obtain ⟨_, rfl⟩ := c1.toInv; obtain ⟨_, rfl⟩ := c2.toInv; exact PyProof.Rows.mod_int' hb (k _ _ (.int _ _))
theorem div_int {a b : Int} (hb : b ≠ 0) (hp : Builtin.divisionGoesByPylong a b = false) (q : Q (.int (a.fdiv b)) h) : Op2 C n (binaryOp .FloorDiv) h (.int a) (.int b) Q := op2_pure q fun A w Q' E x y a0 R c1 c2 k => by obtain ⟨_, rfl⟩ := c1.toInv; obtain ⟨_, rfl⟩ := c2.toInv; exact PyProof.Rows.floordiv_int hb (k _ _ (.int _ _)) (.inl ‹_›)
theorem eq_int {a b : Int} (q : Q (.bool (a == b)) h) : Op2 C n (compareOp .Eq) h (.int a) (.int b) Q := op2_pure q fun A w Q' E x y a0 R c1 c2 k => by obtain ⟨_, rfl⟩ := c1.toInv; obtain ⟨_, rfl⟩ := c2.toInv; exact PyProof.Rows.eq_int (k _ _ (.bool _))
theorem gt_int {a b : Int} (q : Q (.bool (decide (b < a))) h) : Op2 C n (compareOp .Gt) h (.int a) (.int b) Q := op2_pure q fun A w Q' E x y a0 R c1 c2 k => by obtain ⟨_, rfl⟩ := c1.toInv; obtain ⟨_, rfl⟩ := c2.toInv; exact PyProof.Rows.gt_int (k _ _ (.bool _))
theorem ge_int {a b : Int} (q : Q (.bool (decide (b ≤ a))) h) : Op2 C n (compareOp .GtE) h (.int a) (.int b) Q := op2_pure q fun A w Q' E x y a0 R c1 c2 k => by obtain ⟨_, rfl⟩ := c1.toInv; obtain ⟨_, rfl⟩ := c2.toInv; exact PyProof.Rows.ge_int (k _ _ (.bool _))
/-- cells -/
theorem Rep.cell {w : Wd} {i : Nat} {a : Addr} {v : V} (R : Rep C w h) (hi : w.ρ[i]? = some a) (hv : h.σ i = .cell (some v)) : ∃ y, w.s.heap.IsCell a (some y) ∧ Conc C w.g w.ρ v y := by
  obtain ⟨o, h1, h2⟩ := R.obj i a hi
  rw [hv] at h2
  obtain ⟨v', h3, y, rfl, c⟩ := h2
  exact ⟨y, ⟨o, h1, h3⟩, c⟩
theorem ev_cell {x : Str} {p : Pos} {i : Nat} {v : V} (hk : F.env.kindOf x = some .cell) (hc : F.cel.lookup x = some i) (hv : h.σ i = .cell (some v)) (q : Q v h) (hd : (x == ("__debug__" : Str)) = false := by decide) : Ev C n F loc h (.Name x p) Q := ⟨fun A w Q' E _ R f c => by
  obtain ⟨a, h1, h2⟩ := f.cells x i hc
  obtain ⟨y, h3, h4⟩ := R.cell h2 hv
  exact wpAny_Name (wpAny_loadName_cell f.kind hk h1 h3 (c y v h w q .refl R h4)) hd⟩
theorem ev_free {x : Str} {p : Pos} {i : Nat} {v : V} (hk : F.env.kindOf x = some .free) (hc : F.cel.lookup x = some i) (hv : h.σ i = .cell (some v)) (q : Q v h) (hd : (x == ("__debug__" : Str)) = false := by decide) (hd' : (x == ("__classdict__" : Str)) = false := by decide) : Ev C n F loc h (.Name x p) Q := ⟨fun A w Q' E _ R f c => by
  obtain ⟨a, h1, h2⟩ := f.cells x i hc
  obtain ⟨y, h3, h4⟩ := R.cell h2 hv
  exact wpAny_Name (wpAny_loadName_free f.kind hk h1 h3 (c y v h w q .refl R h4) hd') hd⟩
theorem store_cell {w : Wd} {x : Str} {i : Nat} {u : Option V} {v : V} {y : Value} {A : Around} {Q' : Unit → Shared → Prop} {E : Value → Shared → Prop} (R : Rep C w h) (f : Frm C w F loc) (c : Conc C w.g w.ρ v y) (hk : F.env.kindOf x = some .cell) (hc : F.cel.lookup x = some i) (hv : h.σ i = .cell u)
    (k : ∀ w', Ext C [] w w' → Rep C w' (h.upd i (.cell (some v))) → Q' () w'.s) : wpAny C.M A (storeName F.env x y) Q' E w.s := by
  obtain ⟨a, h1, h2⟩ := f.cells x i hc
  obtain ⟨o, h3, h4⟩ := R.obj i a h2
  rw [hv] at h4
  obtain ⟨v', h5, _⟩ := h4
  refine wpAny_storeName_cell f.kind hk h1 ⟨o, h3, h5⟩ fun h' hc' hs => ?_
  obtain ⟨o', h6, h7⟩ := hc'
  have hs' : ∀ b o, b ≠ a → w.s.heap.get? b = some o → h'.get? b = some o := fun b o hb e => (hs.2 b hb).trans e
  exact k (w.at h' w.s.toks) (Ext.change h2 hs' h6) (R.change h2 (by rw [hv]; simp) hs' h6 ⟨_, h7, y, rfl, c⟩)
theorem as_cell {x : Str} {p : Pos} {i : Nat} {u : Option V} {v : V} (hk : F.env.kindOf x = some .cell) (hc : F.cel.lookup x = some i) (hv : h.σ i = .cell u) (q : QL loc (h.upd i (.cell (some v)))) : As C n F loc h (.Name x p) v QL := ⟨fun A w Q' E y a0 R f c k =>
  wpAny_assign_Name (store_cell R f c hk hc hv fun w' e' R' => k _ _ w' q e'.wide R' (f.ext0 e'))⟩
/-- the names of the top -/
structure Tp (C : Cx) (mg mb : Str → Option Value) : Prop where
  g : C.h₀.Ns mainGlobals mg
  b : C.h₀.Ns builtinsNs mb
  gt : mainGlobals ∉ C.tabs
  bt : builtinsNs ∉ C.tabs
  lim : ∃ mc, C.h₀.Ns cStatics mc ∧ mc "sys.recursionlimit" = none
  limt : cStatics ∉ C.tabs
theorem Rep.up {w : Wd} {a : Addr} {o : Obj} (R : Rep C w h) (e : C.h₀.get? a = some o) (ht : a ∉ C.tabs) : w.s.heap.get? a = some o := R.keep _ _ (R.top _ _ e ht)
theorem Rep.ns {w : Wd} {a : Addr} {m : Str → Option Value} (R : Rep C w h) (hn : C.h₀.Ns a m) (ht : a ∉ C.tabs) : w.s.heap.Ns a m := by
  obtain ⟨o, es, ep, ho, r⟩ := hn
  exact ⟨o, es, ep, R.up ho ht, r⟩
/-- a value that stands by itself -/
def VOf : V → Value → Prop
  | .top a, .ref b => a = b
  | .blt x, .builtin y => x = y
  | .ty x, .type y => x = y
  | _, _ => False
theorem VOf.conc {v : V} {x : Value} (hv : VOf v x) (g : G) (ρ : List Addr) : Conc C g ρ v x := by
  cases v <;> cases x <;> first | exact hv.elim | (cases hv; constructor)
theorem ev_global {mg mb : Str → Option Value} {x : Str} {p : Pos} {v : V} {y : Value} (T : Tp C mg mb) (hk : F.env.kindOf x = some .globalImplicit) (hv : mg x = some y) (hc : VOf v y) (q : Q v h) (hd : (x == ("__debug__" : Str)) = false := by decide) : Ev C n F loc h (.Name x p) Q := ⟨fun A w Q' E _ R f c =>
  Calls.Name_function_global f.kind hk (Calls.loadGlobal_global (by rw [f.globals]; exact R.ns T.g T.gt) hv (c y v h w q .refl R (hc.conc _ _))) hd⟩
theorem ev_builtin {mg mb : Str → Option Value} {x : Str} {p : Pos} {v : V} {y : Value} (T : Tp C mg mb) (hk : F.env.kindOf x = some .globalImplicit) (hm : mg x = none) (hv : mb x = some y) (hc : VOf v y) (q : Q v h) (hd : (x == ("__debug__" : Str)) = false := by decide) : Ev C n F loc h (.Name x p) Q := ⟨fun A w Q' E _ R f c =>
  Calls.Name_function_global f.kind hk (Calls.loadGlobal_builtin (by rw [f.globals]; exact R.ns T.g T.gt) hm (by rw [f.blt]; exact R.ns T.b T.bt) hv (c y v h w q .refl R (hc.conc _ _))) hd⟩
end
/-- a row of expressions -/
structure Evs (C : Cx) (n : Nat) (F : Fr) (loc : Loc) (h : Hs) (es : List Expr) (Q : List V → Hs → Prop) : Prop where
  run : ∀ (A : Around) (w : Wd) (pos : Pos) (Q' : List Value → Shared → Prop) (E : Value → Shared → Prop), AOk A n → Rep C w h → Frm C w F loc →
    (∀ (xs : List Value) (vs : List V) (h' : Hs) (w' : Wd), Q vs h' → Ext C [] w w' → Rep C w' h' → Concs C w'.g w'.ρ vs xs → Q' xs w'.s) → wpAny C.M A (spliced (backTo pos (starEach es F.env))) Q' E w.s
/-- keywords -/
structure Evk (C : Cx) (n : Nat) (F : Fr) (loc : Loc) (h : Hs) (ks : List Keyword) (Q : List V → Hs → Prop) : Prop where
  run : ∀ (A : Around) (w : Wd) (pos : Pos) (Q' : List Value → Shared → Prop) (E : Value → Shared → Prop), AOk A n → Rep C w h → Frm C w F loc →
    (∀ (xs : List Value) (vs : List V) (h' : Hs) (w' : Wd), Q vs h' → Ext C [] w w' → Rep C w' h' → Concs C w'.g w'.ρ vs xs → Q' xs w'.s) → wpAny C.M A (evalAll ((backToKw pos (keywordEach ks F.env)).map (·.2))) Q' E w.s
/-- a call of a value -/
structure Cl (C : Cx) (n : Nat) (h : Hs) (f : V) (args : List V) (kw : List (Str × V)) (Q : V → Hs → Prop) : Prop where
  run : ∀ (A : Around) (w : Wd) (Q' : Value → Shared → Prop) (E : Value → Shared → Prop) (fx : Value) (xs : List Value) (ks : List (Str × Value)), AOk A n → Rep C w h → Conc C w.g w.ρ f fx → Concs C w.g w.ρ args xs →
    ks.map (·.1) = kw.map (·.1) → Concs C w.g w.ρ (kw.map (·.2)) (ks.map (·.2)) →
    (∀ (r : Value) (v : V) (h' : Hs) (w' : Wd), Q v h' → Ext C [] w w' → Rep C w' h' → Conc C w'.g w'.ρ v r → Q' r w'.s) → wpAny C.M A (call fx xs ks) Q' E w.s
/-- what the machine asks of a thing that it calls -/
def Kp (C : Cx) (f : V) : Prop := ∀ (w : Wd) (h : Hs) (fx : Value), Rep C w h → Conc C w.g w.ρ f fx → ∃ k, W.Looks C.M w.s.heap (keeperOf fx) k
section
variable {C : Cx} {n : Nat} {F : Fr} {loc : Loc} {h : Hs} {Q : V → Hs → Prop} {QS : List V → Hs → Prop} {QB : Bool → Hs → Prop} {QF : Fl → Loc → Hs → Prop}
theorem Cl.mono {f : V} {args : List V} {kw : List (Str × V)} {Q₀ : V → Hs → Prop} (H : Cl C n h f args kw Q₀) (k : ∀ v h', Q₀ v h' → Q v h') : Cl C n h f args kw Q :=
  ⟨fun A w Q' E fx xs ks a R cf ca hk ck c => H.run A w Q' E fx xs ks a R cf ca hk ck fun x v h' w' q => c x v h' w' (k _ _ q)⟩
theorem evs_nil (q : QS [] h) : Evs C n F loc h [] QS := ⟨fun A w pos Q' E a0 R f c => wpAny_pure (c [] [] h w q .refl R .nil)⟩
theorem evs_cons {e : Expr} {es : List Expr} (H : Ev C n F loc h e fun v h1 => Evs C n F loc h1 es fun vs h2 => QS (v :: vs) h2) (he : starEach (e :: es) F.env = (false, eval e F.env) :: starEach es F.env := by rfl) : Evs C n F loc h (e :: es) QS :=
  ⟨fun A w pos Q' E a0 R f c => by
    rw [he]
    show wpAny _ _ (spliced ((false, eval e F.env) :: backTo pos (starEach es F.env))) Q' E w.s
    unfold spliced
    refine wpAny_bind (H.run A w _ _ a0 R f fun x v h1 w1 q1 e1 R1 c1 => ?_)
    refine wpAny_bind (wpAny_pure (wpAny_bind (wpAny_holding (q1.run A w1 pos _ _ a0 R1 (f.ext0 e1) fun xs vs h2 w2 q2 e2 R2 c2 => ?_))))
    exact wpAny_pure (c _ _ h2 w2 q2 (e1.trans e2) R2 (.cons (c1.ext e2) c2))⟩
theorem evk_nil (q : QS [] h) : Evk C n F loc h [] QS := ⟨fun A w pos Q' E a0 R f c => wpAny_pure (c [] [] h w q .refl R .nil)⟩
theorem Concs.length {g : G} {ρ : List Addr} : ∀ {vs : List V} {xs : List Value}, Concs C g ρ vs xs → xs.length = vs.length
  | _, _, .nil => rfl
  | _, _, .cons _ c => by simp [c.length]
theorem Concs.app {g : G} {ρ : List Addr} : ∀ {a b : List V} {x y : List Value}, Concs C g ρ a x → Concs C g ρ b y → Concs C g ρ (a ++ b) (x ++ y)
  | _, _, _, _, .nil, k => k
  | _, _, _, _, .cons h t, k => .cons h (t.app k)
def noStar : List Expr → Bool
  | [] => true
  | .Starred .. :: _ => false
  | _ :: r => noStar r
def kwNames : List Keyword → Option (List Str)
  | [] => some []
  | ⟨some x, _, _⟩ :: r => (kwNames r).map (x :: ·)
  | ⟨none, _, _⟩ :: _ => none
theorem star_shape {env : Env} {es : List Expr} {pos : Pos} (h : noStar es = true) : backTo pos (starEach es env) = [] ∨ ∃ t r, backTo pos (starEach es env) = (false, t) :: r := by
  cases es with
  | nil => exact .inl rfl
  | cons e es => cases e <;> first | (cases h; done) | exact .inr ⟨_, _, rfl⟩
theorem kw_shape {env : Env} {pos : Pos} : ∀ {ks : List Keyword} {ns : List Str}, kwNames ks = some ns → (backToKw pos (keywordEach ks env)).all (·.1.isSome) = true ∧ (backToKw pos (keywordEach ks env)).filterMap (·.1) = ns
  | [], ns, e => by cases e; exact ⟨rfl, rfl⟩
  | ⟨some x, _, _⟩ :: r, ns, e => by
    obtain ⟨ms, h1, rfl⟩ := Option.map_eq_some_iff.mp e
    obtain ⟨h2, h3⟩ := kw_shape (env := env) (pos := pos) h1
    exact ⟨by show (true && _) = true; exact h2, by show x :: _ = x :: _; exact congrArg _ h3⟩
  | ⟨none, _, _⟩ :: _, _, e => by cases e
theorem evalArgs_rest {M : Model} {A : Around} {E : Value → Shared → Prop} {s : Shared} {f : Value} {bt : List (Bool × Sem Value)} {kws : List (Option Str × Sem Value)} {Q : Args → Shared → Prop} (hb : bt = [] ∨ ∃ t r, bt = (false, t) :: r) (hk : kws.all (·.1.isSome) = true)
    (h : wpAny M A (spliced bt) (fun xs s₁ => wpAny M A (evalAll (kws.map (·.2))) (fun ys s₂ => Q ⟨xs, (kws.filterMap (·.1)).zip ys⟩ s₂) E s₁) E s) : wpAny M A (evalArgs f true bt kws) Q E s := by
  unfold evalArgs
  rcases hb with rfl | ⟨t, r, rfl⟩
  · show wpAny M A (spliced [] >>= _) Q E s
    refine wpAny_bind (wpAny_mono h (fun xs s₁ h₁ => wpAny_bind (wpAny_pure (wpAny_holding ?_))) fun _ _ x => x)
    dsimp only
    rw [if_pos hk]
    exact wpAny_bind (wpAny_mono h₁ (fun ys s₂ h₂ => wpAny_bind (wpAny_pure (wpAny_pure h₂))) fun _ _ x => x)
  · show wpAny M A (spliced ((false, t) :: r) >>= _) Q E s
    refine wpAny_bind (wpAny_mono h (fun xs s₁ h₁ => wpAny_bind (wpAny_pure (wpAny_holding ?_))) fun _ _ x => x)
    dsimp only
    rw [if_pos hk]
    exact wpAny_bind (wpAny_mono h₁ (fun ys s₂ h₂ => wpAny_bind (wpAny_pure (wpAny_pure h₂))) fun _ _ x => x)
theorem args_all {A : Around} {w : Wd} {pos : Pos} {f : Value} {es : List Expr} {ks : List Keyword} {ns : List Str} {Q' : Args → Shared → Prop} {E : Value → Shared → Prop} {QA : List V → List V → Hs → Prop}
    (hs : noStar es = true) (hn : kwNames ks = some ns) (H : Evs C n F loc h es fun vs h1 => Evk C n F loc h1 ks fun kv h2 => QA vs kv h2) (a0 : AOk A n) (R : Rep C w h) (fm : Frm C w F loc)
    (k : ∀ (xs : List Value) (kx : List (Str × Value)) (vs kv : List V) (h' : Hs) (w' : Wd), QA vs kv h' → Ext C [] w w' → Rep C w' h' → Concs C w'.g w'.ρ vs xs → kx.map (·.1) = (ns.zip kv).map (·.1) → Concs C w'.g w'.ρ ((ns.zip kv).map (·.2)) (kx.map (·.2)) → Q' ⟨xs, kx⟩ w'.s) :
    wpAny C.M A (evalArgs f true (backTo pos (starEach es F.env)) (backToKw pos (keywordEach ks F.env))) Q' E w.s := by
  obtain ⟨k1, k2⟩ := kw_shape (env := F.env) (pos := pos) hn
  refine evalArgs_rest (star_shape hs) k1 (H.run A w pos _ _ a0 R fm fun xs vs h1 w1 q1 e1 R1 c1 => q1.run A w1 pos _ _ a0 R1 (fm.ext0 e1) fun ys kv h2 w2 q2 e2 R2 c2 => ?_)
  rw [k2]
  have z1 : ∀ (l : List Str) (a b : List Value) (c d : List V), Concs C w2.g w2.ρ c a → (l.zip a).map (·.1) = (l.zip c).map (·.1) ∧ Concs C w2.g w2.ρ ((l.zip c).map (·.2)) ((l.zip a).map (·.2)) := by
    intro l
    induction l with
    | nil => intro a b c d cc; exact ⟨rfl, .nil⟩
    | cons x l ih =>
      intro a b c d cc
      cases cc with
      | nil => exact ⟨rfl, .nil⟩
      | cons cx cxs => obtain ⟨i1, i2⟩ := ih _ b _ d cxs; exact ⟨by simp [i1], .cons cx i2⟩
  obtain ⟨i1, i2⟩ := z1 ns ys ys kv kv c2
  exact k xs _ vs kv h2 w2 q2 (e1.trans e2) R2 (c1.ext e2) i1 i2
theorem kp_blt {id : String} : Kp C (.blt id) := fun w h fx R c => by cases c; exact ⟨.machine, W.Looks.of_pure rfl⟩
theorem kp_ty {id : String} : Kp C (.ty id) := fun w h fx R c => by cases c; exact ⟨.machine, W.Looks.of_pure rfl⟩
theorem callWith_any {M : Model} {A : Around} {E : Value → Shared → Prop} {s : Shared} {Q : Value → Shared → Prop} {pos : Pos} {f : Value} {first : List Value} {args : List (Bool × Sem Value)} {keywords : List (Option Str × Sem Value)}
    (h : wpAny M A (evalArgs f true args keywords) (fun a s₁ => (∃ k, W.Looks M s₁.heap (keeperOf f) k) ∧ wpAny M A (call f (first ++ a.pos) a.kw) Q E s₁) E s) : wpAny M A (callWith pos f first args keywords) Q E s := by
  unfold callWith
  refine wpAny_bind (wpAny_holding (wpAny_mono h (fun a s₁ h₁ => wpAny_bind (wpAny_standAt ?_)) fun _ _ x => x))
  obtain ⟨⟨k, L⟩, h₁⟩ := h₁
  refine wpAny_bind (L.here ?_)
  have tail : ∀ {t : Sem Value}, wpAny M A t Q E s₁ → wpAny M A (t >>= fun r => holding [r] point >>= fun _ => pure r) Q E s₁ :=
    fun ht => wpAny_bind (wpAny_mono ht (fun r s₂ hr => wpAny_bind (wpAny_holding (wpAny_point (wpAny_pure hr)))) fun _ _ x => x)
  have marked (mk : Value) : wpAny M A (callMarked mk f (first ++ a.pos) a.kw) Q E s₁ := by unfold callMarked; exact Calls.wpAny_keep h₁
  have oper (l : List Value) : wpAny M A (operate l (call f (first ++ a.pos) a.kw)) Q E s₁ := fun Γ p hΓ => by rw [Sem.wp_operate]; exact h₁ Γ p hΓ
  cases k <;> cases (args.any (·.1) || keywords.any (·.1.isNone)) <;> dsimp only <;> first | exact tail h₁ | exact tail (marked _) | exact tail (oper _) | (split <;> first | exact tail h₁ | exact tail (marked _) | exact tail (oper _))
/-- a call of a name -/
theorem ev_call {x : Str} {p' p : Pos} {es : List Expr} {ks : List Keyword} {ns : List Str} (H : Ev C n F loc h (.Name x p') fun f h1 => Kp C f ∧ Evs C n F loc h1 es fun vs h2 => Evk C n F loc h2 ks fun kv h3 => Cl C n h3 f vs (ns.zip kv) Q) (hs : noStar es = true := by rfl) (hn : kwNames ks = some ns := by rfl) :
    Ev C n F loc h (.Call (.Name x p') es ks p) Q := ⟨fun A w Q' E a0 R f c =>
  wpAny_Call_ofName (H.run A w _ _ a0 R f fun fx fv h1 w1 ⟨kp, q1⟩ e1 R1 c1 => callWith_any (args_all hs hn q1 a0 R1 (f.ext0 e1) fun xs kx vs kv h2 w2 q2 e2 R2 c2 hnm c3 => ⟨kp w2 h2 fx R2 (c1.ext e2),
    q2.run A w2 _ _ fx ([] ++ xs) kx a0 R2 (c1.ext e2) c2 hnm c3 fun r v h3 w3 q3 e3 R3 c4 => c r v h3 w3 q3 (e1.trans (e2.trans e3)) R3 c4⟩))⟩
end
end Mine
namespace Mine
/-- what a call's frame is at its start -/
def celFrom (nx : Nat) : List (Str × NameKind) → List (Str × Nat) → List (Str × Nat)
  | [], acc => acc
  | (x, k) :: r, acc => if k == .cell then celFrom (nx + 1) r ((x, nx) :: acc) else celFrom nx r acc
def hsCells : List (Str × NameKind) → Hs → Hs
  | [], h => h
  | (_, k) :: r, h => if k == .cell then hsCells r (h.new (.cell none)) else hsCells r h
def bindAll (names : List (Str × NameKind)) (cel : List (Str × Nat)) : List (Str × V) → Loc → Hs → Option (Loc × Hs)
  | [], loc, h => some (loc, h)
  | (x, v) :: r, loc, h => match names.lookup x, cel.lookup x with
    | some .local, _ => bindAll names cel r (upd x v loc) h
    | some .cell, some i => match h.σ i with
      | .cell _ => bindAll names cel r loc (h.upd i (.cell (some v)))
      | _ => none
    | _, _ => none
section
variable {C : Cx} {n : Nat} {F : Fr} {loc : Loc} {h : Hs} {Q : V → Hs → Prop} {QB : Bool → Hs → Prop} {QF : Fl → Loc → Hs → Prop}
def CelOk (ρ : List Addr) (cel : List (Str × Nat)) (cells : List (Str × Addr)) : Prop := ∀ x i, cel.lookup x = some i → ∃ a, cells.lookup x = some a ∧ ρ[i]? = some a
theorem CelOk.pre {ρ ρ' : List Addr} {cel : List (Str × Nat)} {cells : List (Str × Addr)} (k : CelOk ρ cel cells) (p : ρ <+: ρ') : CelOk ρ' cel cells := fun x i e => let ⟨a, h1, h2⟩ := k x i e; ⟨a, h1, pre_get p h2⟩
theorem CelOk.cons {ρ : List Addr} {cel : List (Str × Nat)} {cells : List (Str × Addr)} {x : Str} {i : Nat} {a : Addr} (k : CelOk ρ cel cells) (hi : ρ[i]? = some a) : CelOk ρ ((x, i) :: cel) ((x, a) :: cells) := fun y j e => by
  rw [List.lookup_cons] at e ⊢
  cases q : y == x with
  | true => rw [q] at e; cases e; exact ⟨a, rfl, hi⟩
  | false => rw [q] at e; exact k y j e
theorem lay_cells {X : List Addr} {A : Around} {E : Value → Shared → Prop} (f : Str × NameKind → List (Str × Addr) → Sem (ForInStep (List (Str × Addr))))
    (hf : ∀ name kind cells, f (name, kind) cells = if kind == .cell then (do let a ← alloc { cls := .type "cell", data := .cell none }; pure (.yield ((name, a) :: cells))) else pure (.yield cells)) :
    ∀ (names : List (Str × NameKind)) (cel : List (Str × Nat)) (cells : List (Str × Addr)) (w : Wd) (h : Hs) (Q' : List (Str × Addr) → Shared → Prop), Rep C w h → CelOk w.ρ cel cells →
      (∀ cells' w', Ext C X w w' → Rep C w' (hsCells names h) → CelOk w'.ρ (celFrom h.nx names cel) cells' → Q' cells' w'.s) → wpAny C.M A (forIn names cells f) Q' E w.s
  | [], cel, cells, w, h, Q', R, k, c => by rw [List.forIn_nil]; exact wpAny_pure (c cells w .refl R k)
  | (name, kind) :: r, cel, cells, w, h, Q', R, k, c => by
    rw [List.forIn_cons, hf]
    unfold hsCells celFrom at c
    split at c
    · rename_i hk
      rw [if_pos hk]
      refine wpAny_bind (wpAny_bind (wpAny_alloc (wpAny_pure ?_)))
      have hn : w.s.heap.get? w.s.heap.objs.size = none := fresh_none (Nat.le_refl _)
      have e1 : Ext C X w (w.more w.s.heap.objs.size (w.s.heap.push { cls := .type "cell", data := .cell none }) w.s.toks) := Ext.fresh hn push_keeps
      have R1 := R.fresh (k := w.s.toks) (ao := .cell none) (o := { cls := .type "cell", data := .cell none }) hn push_keeps (Heap.get?_push_size _ rfl) ⟨none, rfl, rfl⟩ (R.fresh0 hn)
      exact lay_cells f hf r _ _ _ _ Q' R1 ((k.pre e1.pre).cons R.more_at) fun cells' w' e' R' k' => c cells' w' (e1.trans e') R' k'
    · rename_i hk
      rw [if_neg hk]
      exact wpAny_bind (wpAny_pure (lay_cells f hf r cel cells w h Q' R k c))
theorem bind_params {A : Around} {E : Value → Shared → Prop} {F : Fr} (f : Str × Value → PUnit → Sem (ForInStep PUnit)) (hf : ∀ n v u, f (n, v) u = (do storeName F.env n v; pure (.yield ⟨⟩))) :
    ∀ (ab : List (Str × V)) (bs : List (Str × Value)) (loc loc' : Loc) (w : Wd) (h h' : Hs) (Q' : PUnit → Shared → Prop), bindAll F.env.scope.names F.cel ab loc h = some (loc', h') → bs.map (·.1) = ab.map (·.1) → Concs C w.g w.ρ (ab.map (·.2)) (bs.map (·.2)) → Rep C w h → Frm C w F loc →
      (∀ w', Ext C [F.env.locals] w w' → Rep C w' h' → Frm C w' F loc' → Q' ⟨⟩ w'.s) → wpAny C.M A (forIn bs ⟨⟩ f) Q' E w.s
  | [], [], loc, loc', w, h, h', Q', hb, _, _, R, fm, k => by
    cases hb; rw [List.forIn_nil]; exact wpAny_pure (k w .refl R fm)
  | [], _ :: _, _, _, _, _, _, _, _, e, _, _, _, _ => by cases e
  | _ :: _, [], _, _, _, _, _, _, _, e, _, _, _, _ => by cases e
  | (x, v) :: ab, (x', y) :: bs, loc, loc', w, h, h', Q', hb, e, c, R, fm, k => by
    simp only [List.map_cons, List.cons.injEq] at e
    obtain ⟨rfl, e⟩ := e
    cases c with
    | cons c1 c2 =>
      rw [List.forIn_cons, hf]
      refine wpAny_bind (wpAny_bind ?_)
      unfold bindAll at hb
      split at hb
      · rename_i hk
        exact store_local R fm c1 hk fun w1 e1 R1 f1 => wpAny_pure (bind_params f hf ab bs _ loc' w1 h h' Q' hb e (c2.ext e1) R1 f1 fun w2 e2 R2 f2 => k w2 (e1.trans e2) R2 f2)
      · rename_i i hk hi
        split at hb
        · rename_i u hu
          exact store_cell R fm c1 hk hi hu fun w1 e1 R1 => wpAny_pure (bind_params f hf ab bs loc loc' w1 _ h' Q' hb e (c2.ext e1) R1 (fm.ext0 e1) fun w2 e2 R2 f2 => k w2 (e1.wide.trans e2) R2 f2)
        · cases hb
      · cases hb
/-- a new frame: around = none -/
theorem new_env {A : Around} {E : Value → Shared → Prop} {scope : Scope} {cl : List (Str × Addr)} {cel₀ : List (Str × Nat)} {ab : List (Str × V)} {bs : List (Str × Value)} {qual : Str} {func : Option Addr} {code : Value} {w : Wd} {loc' : Loc} {h h1 : Hs} {Q' : Env → Shared → Prop}
    (hk : scope.kind = .function) (R : Rep C w h) (k0 : CelOk w.ρ cel₀ cl) (hb : bindAll scope.names (celFrom h.nx scope.names cel₀) ab [] (hsCells scope.names h) = some (loc', h1)) (hn : bs.map (·.1) = ab.map (·.1)) (hc : Concs C w.g w.ρ (ab.map (·.2)) (bs.map (·.2)))
    (k : ∀ L cells w', w.s.heap.get? L = none → Ext C [L] w w' → Rep C w' h1 → Frm C w' ⟨newEnv scope L mainGlobals cells qual func code none builtinsNs, celFrom h.nx scope.names cel₀⟩ loc' → Q' (newEnv scope L mainGlobals cells qual func code none builtinsNs) w'.s) :
    wpAny C.M A (newFunctionEnv scope mainGlobals cl bs qual func code none builtinsNs) Q' E w.s := by
  simp only [newFunctionEnv, Option.isSome_none, Bool.false_eq_true, if_false]
  refine wpAny_bind (wpAny_alloc ?_)
  have hn0 : w.s.heap.get? w.s.heap.objs.size = none := fresh_none (Nat.le_refl _)
  have R0 : Rep C (w.at (w.s.heap.push { cls := .type "frame", data := .dict #[] }) w.s.toks) h := R.grow push_keeps
  have e0 : Ext C [w.s.heap.objs.size] w (w.at (w.s.heap.push { cls := .type "frame", data := .dict #[] }) w.s.toks) := Ext.grow push_keeps
  refine wpAny_bind (lay_cells (X := []) _ (fun name kind cells => by cases hkc : kind == NameKind.cell <;> simp [hkc]) scope.names cel₀ cl (w.at (w.s.heap.push { cls := .type "frame", data := .dict #[] }) w.s.toks) h _ R0 k0 fun cells w1 e1 R1 k1 => ?_)
  have off := R.off_fresh hn0
  have hL : w1.s.heap.get? w.s.heap.objs.size = some { cls := .type "frame", data := .dict #[] } := e1.kept _ _ (Heap.get?_push_size _ rfl) off.2.1 (by simp) off.2.2
  have F1 : Frm C w1 ⟨newEnv scope w.s.heap.objs.size mainGlobals cells qual func code none builtinsNs, celFrom h.nx scope.names cel₀⟩ [] := by
    refine ⟨⟨fun _ => none, ⟨_, #[], 0, hL, rfl, fun _ he => by simp at he, fun _ => rfl⟩, fun x v hx => by cases hx⟩, ?_, ?_, off.2.2, k1, hk, rfl, rfl⟩
    · cases q : w1.g w.s.heap.objs.size with
      | none => exact q
      | some o =>
        rcases e1.new _ _ q with z | z | z
        · have z : w.g w.s.heap.objs.size = some o := z
          rw [off.1] at z; cases z
        · have z : (w.s.heap.push _).get? w.s.heap.objs.size = none := z
          rw [Heap.get?_push_size _ rfl] at z; cases z
        · exact absurd z off.2.1
    · intro q
      rcases e1.newρ _ q with z | z
      · exact off.2.1 z
      · have z : (w.s.heap.push _).get? w.s.heap.objs.size = none := z; rw [Heap.get?_push_size _ rfl] at z; cases z
  refine wpAny_bind (bind_params (F := ⟨newEnv scope w.s.heap.objs.size mainGlobals cells qual func code none builtinsNs, celFrom h.nx scope.names cel₀⟩) _ (fun _ _ _ => rfl) ab bs [] loc' w1 _ h1 _ hb hn (hc.ext (e0.trans e1.wide)) R1 F1 fun w2 e2 R2 f2 => wpAny_pure ?_)
  exact k _ cells w2 hn0 (e0.trans (e1.wide.trans e2)) R2 f2
/-- the tail of an extension, forgetting a frame that is new -/
theorem Ext.under {X : List Addr} {L : Addr} {w w' : Wd} (x : Ext C [L] w w') (hL : w.s.heap.get? L = none) : Ext C X w w' :=
  ⟨x.sub, x.new, x.pre, x.newρ, fun b o e h1 _ h3 => x.kept b o e h1 (fun q => by rw [List.mem_singleton.mp q, hL] at e; cases e) h3, x.live⟩
theorem AOk.deeper {A : Around} {e : Env} (h : AOk A (n + 1)) : AOk (A.deeper e) n := ⟨h.handled, by have := h.depth; show A.depth + 1 + 4 * n < _; omega, by have := h.units; show A.units + 3 + 40 * n < _; omega⟩
theorem AOk.room {A : Around} (h : AOk A n) : A.depth < recursionLimit := by have := h.depth; omega
theorem AOk.less {A : Around} {m : Nat} (h : AOk A n) (hm : m ≤ n) : AOk A m := ⟨h.handled, by have := h.depth; omega, by have := h.units; omega⟩
/-- how a call's arguments are bound -/
def Binds (C : Cx) (fd : FuncData) (args : List V) (kw : List (Str × V)) (ab : List (Str × V)) : Prop :=
  ∀ (w : Wd) (h : Hs) (xs : List Value) (ks : List (Str × Value)), Rep C w h → Concs C w.g w.ρ args xs → ks.map (·.1) = kw.map (·.1) → Concs C w.g w.ρ (kw.map (·.2)) (ks.map (·.2)) →
    ∃ bs : List (Str × Value), BindsTo w.s fd ⟨xs, ks⟩ bs ∧ bs.map (·.1) = ab.map (·.1) ∧ Concs C w.g w.ρ (ab.map (·.2)) (bs.map (·.2))
/-- a function of the top -/
structure FnOk (C : Cx) (f : Addr) (fd : FuncData) (body : List Stmt) : Prop where
  at_ : ∃ o, C.h₀.get? f = some o ∧ o.data = .func fd
  off : f ∉ C.tabs
  co : fd.scope.isCoroutine = false
  gen : fd.scope.isGenerator = false
  body : fd.body = .stmts body
  kind : fd.scope.kind = .function
  globals : fd.globals = mainGlobals
  blt : fd.builtins = builtinsNs
  closure : fd.closure = []
  code : ∃ c o vs t, fd.code = .ref c ∧ C.h₀.get? c = some o ∧ o.data = .fields vs ∧ vs[1]? = some (.str fd.qualname t) ∧ c ∉ C.tabs
  lim : ∃ mc, C.h₀.Ns cStatics mc ∧ mc "sys.recursionlimit" = none
  limt : cStatics ∉ C.tabs
theorem kp_fn {f : Addr} {fd : FuncData} {body : List Stmt} (K : FnOk C f fd body) : Kp C (.top f) := fun w h fx R c => by
  cases c
  obtain ⟨o, ho, hd⟩ := K.at_
  refine ⟨.frame, fun A Q E s' hk q => ?_⟩
  unfold keeperOf
  refine wpAny_bind (wpAny_load (hk _ _ (R.up ho K.off)) ?_)
  rw [hd]; exact wpAny_pure q
def envFn (f : Addr) (fd : FuncData) (L : Addr) (cells : List (Str × Addr)) : Env := newEnv fd.scope L mainGlobals cells (fd.qualname ++ ".<locals>.") (some f) fd.code none builtinsNs
def RetQ (Q : V → Hs → Prop) : Fl → Loc → Hs → Prop
  | .ret v, _, h => Q v h
  | .next, _, h => Q .none h
  | _, _, _ => False
theorem NoLimit_up {w : Wd} (R : Rep C w h) (l : ∃ mc, C.h₀.Ns cStatics mc ∧ mc "sys.recursionlimit" = none) (lt : cStatics ∉ C.tabs) : w.s.heap.NoLimit := by
  obtain ⟨mc, ns, hm⟩ := l
  exact ⟨mc, R.ns ns lt, hm⟩
theorem cl_fn {f : Addr} {fd : FuncData} {body : List Stmt} {args : List V} {kw ab : List (Str × V)} {loc : Loc} {h1 : Hs} (K : FnOk C f fd body) (hb : Binds C fd args kw ab) (hent : bindAll fd.scope.names (celFrom h.nx fd.scope.names []) ab [] (hsCells fd.scope.names h) = some (loc, h1))
    (H : ∀ L cells, Exs C n ⟨envFn f fd L cells, celFrom h.nx fd.scope.names []⟩ loc h1 body (RetQ Q)) : Cl C (n + 1) h (.top f) args kw Q := ⟨by
  intro A w Q' E fx xs ks a0 R cf cx hk ck c
  obtain rfl := cf.toInv
  obtain ⟨o, ho, hd⟩ := K.at_
  obtain ⟨cd, oc, vs, t, h1', h2, h3, h4, h5⟩ := K.code
  refine wpAny_call (codeAny_call_function a0.room (R.up ho K.off) hd K.co K.gen K.body ⟨cd, oc, vs, t, h1', R.up h2 h5, h3, h4⟩ ?_)
  obtain ⟨bs, hbs, hn, hc⟩ := hb w h xs ks R cx hk ck
  refine hbs _ _ _ _ ?_
  rw [K.globals, K.closure, K.blt]
  refine new_env K.kind R (fun x i e => by cases e) hent hn hc fun L cells w1 hL e1 R1 f1 => ⟨NoLimit_up R1 K.lim K.limt, codeAny_func ?_⟩
  refine (H L cells).run (A.deeper _) w1 _ _ a0.deeper R1 f1 fun fv fl l2 h2 w2 q2 e2 R2 f2 c2 => ?_
  have e3 : Ext C [] w w2 := (e1.trans e2).under hL
  cases c2 with
  | ret cv => exact c _ _ h2 w2 q2 e3 R2 cv
  | next => exact c _ _ h2 w2 q2 e3 R2 .none
  | brk => exact q2.elim
  | cont => exact q2.elim⟩
theorem cel_lookup {ρ : List Addr} : ∀ {cl : List (Str × Nat)} {fc : List (Str × Addr)}, fc.map (·.1) = cl.map (·.1) → cl.map (fun x => ρ[x.2]?) = fc.map (fun x => some x.2) → CelOk ρ cl fc
  | [], [], _, _ => fun x i e => by cases e
  | [], _ :: _, h, _ => by cases h
  | _ :: _, [], h, _ => by cases h
  | (x, i) :: cl, (y, a) :: fc, h, h' => by
    simp only [List.map_cons, List.cons.injEq] at h h'
    obtain ⟨rfl, h⟩ := h
    exact (cel_lookup h h'.2).cons h'.1
/-- a lambda called -/
theorem cl_lam {params : Arguments} {body : Expr} {scope : Scope} {qual : Str} {cl : List (Str × Nat)} {args : List V} {kw ab : List (Str × V)} {loc : Loc} {h1 : Hs} {mg mb : Str → Option Value} (T : Tp C mg mb) (hk0 : scope.kind = .function) (hco : scope.isCoroutine = false) (hgen : scope.isGenerator = false)
    (hb : ∀ fd : FuncData, fd.params = params → fd.defaults = .none → fd.kwdefaults = .none → Binds C fd args kw ab) (hent : bindAll scope.names (celFrom h.nx scope.names cl) ab [] (hsCells scope.names h) = some (loc, h1))
    (H : ∀ f L cells code, Ev C n ⟨newEnv scope L mainGlobals cells (qual ++ ".<locals>.") (some f) code none builtinsNs, celFrom h.nx scope.names cl⟩ loc h1 body Q) : Cl C (n + 1) h (.lam params body scope qual cl) args kw Q := ⟨by
  intro A w Q' E fx xs ks a0 R cf cx hk ck c
  cases cf with
  | @lam _ _ _ _ _ a cd o oc fd vs t g1 g2 g3 g4 g5 g6 g7 g8 g9 g10 g11 g12 g13 g14 g15 g16 g17 =>
    subst g6; subst g7
    refine wpAny_call (W.kla_callFunE a0.room (R.keep _ _ g1) g3 hco hgen g5 ⟨cd, oc, vs, t, g14, R.keep _ _ g15, g16, g17⟩ ?_)
    obtain ⟨bs, hbs, hn, hc⟩ := hb fd g4 g10 g11 w h xs ks R cx hk ck
    refine hbs _ _ _ _ ?_
    rw [g8, g9]
    refine new_env hk0 R (cel_lookup g12 g13) hent hn hc fun L cells w1 hL e1 R1 f1 => ⟨NoLimit_up R1 T.lim T.limt, W.kla_codeExpr ?_⟩
    refine (H a L cells fd.code).run (A.deeper _) w1 _ _ a0.deeper R1 f1 fun x v h2 w2 q2 e2 R2 c2 => ?_
    exact c _ _ h2 w2 q2 ((e1.trans e2.wide).under hL) R2 c2⟩
theorem kp_lam {params : Arguments} {body : Expr} {scope : Scope} {qual : Str} {cl : List (Str × Nat)} : Kp C (.lam params body scope qual cl) := fun w h fx R c => by
  cases c with
  | lam g1 g2 g3 =>
    refine ⟨.frame, fun A Q E s' hk q => ?_⟩
    unfold keeperOf
    refine wpAny_bind (wpAny_load (hk _ _ (R.keep _ _ g1)) ?_)
    rw [g3]; exact wpAny_pure q
/-- the written part of the top -/
def InC (C : Cx) (K : W.Frag) : Prop := ∀ a o, K.lookup a = some o → C.h₀.get? a = some o ∧ a ∉ C.tabs
theorem InC.here {K : W.Frag} {w : Wd} (I : InC C K) (R : Rep C w h) : K.In w.s.heap := fun a o e => R.up (I a o e).1 (I a o e).2
/-- an attribute read -/
structure Get (C : Cx) (n : Nat) (h : Hs) (a : V) (name : Str) (Q : V → Hs → Prop) : Prop where
  run : ∀ (A : Around) (w : Wd) (Q' : Value → Shared → Prop) (E : Value → Shared → Prop) (x : Value) (ex : Bool), AOk A n → Rep C w h → Conc C w.g w.ρ a x →
    (∀ (r : Value) (v : V) (h' : Hs) (w' : Wd), Q v h' → Ext C [] w w' → Rep C w' h' → Conc C w'.g w'.ρ v r → Q' r w'.s) → wpAny C.M A (getAttr x name ex) Q' E w.s
theorem ev_attr {o : Expr} {attr : Str} {p : Pos} (H : Ev C n F loc h o fun a h1 => Get C n h1 a attr Q) (hb : attributeBase o attr F.env (eval o F.env) = eval o F.env := by rfl) : Ev C n F loc h (.Attribute o attr p) Q := ⟨fun A w Q' E a0 R f c => by
  rw [arm_eval_Attribute, hb]
  refine wpAny_bind (H.run A w _ _ a0 R f fun y v h1 w1 q1 e1 R1 c1 => wpAny_bind (wpAny_standAt (wpAny_bind (wpAny_holding (q1.run A w1 _ _ y true a0 R1 c1 fun z v2 h2 w2 q2 e2 R2 c2 => ?_)))))
  refine wpAny_bind (wpAny_letTemporaryGo (wpAny_pure (c z v2 h2 w2 q2 (e1.trans e2) R2 c2)))⟩
theorem conc_handed {g : G} {ρ : List Addr} {v : V} {y : Value} (c : Conc C g ρ v y) (h : ∀ id, v ≠ .blt id) : W.handedIn y = true := by
  cases c <;> first | rfl | exact absurd rfl (h _)
theorem Rep.inst {w : Wd} {i : Nat} {dx : Addr} {fs : List (Str × V)} (R : Rep C w h) (hx : w.ρ[i]? = some dx) (hi : h.σ i = .inst fs) : ∃ es n, w.s.heap.get? dx = some (W.dictOf es n) ∧ es.length ≤ fs.length ∧ ∀ x, (match fs.lookup x with
      | some v => ∃ y, W.getL x es = some (some y) ∧ Conc C w.g w.ρ v y
      | none => W.getL x es = some none) := by
  obtain ⟨o, h1, h2⟩ := R.obj i dx hx
  rw [hi] at h2
  obtain ⟨es, k, rfl, h3⟩ := h2
  exact ⟨es, k, h1, h3⟩
theorem get_field {K : W.Frag} {i : Nat} {cl : Addr} {fs : List (Str × V)} {name : Str} {v : V} {attr : Option Value} (I : InC C K) (hi : h.σ i = .inst fs) (hv : fs.lookup name = some v) (hb : ∀ id, v ≠ .blt id)
    (hg : W.plainGet K cl name = true) (hh : W.hasDictIn K cl = true) (ha : W.findIn K (.ref cl) name = some attr) (hn : W.noGet K attr = true) (q : Q v h) : Get C n h (.obj i cl) name Q := ⟨by
  intro A w Q' E x ex a0 R cx c
  cases cx with
  | obj gx hx =>
    obtain ⟨es, k, ho, hl, hf⟩ := R.inst hx hi
    have := hf name
    rw [hv] at this
    obtain ⟨y, h1, c1⟩ := this
    exact W.get_value (I.here R) ⟨R.keep _ _ gx, rfl, rfl, ho⟩ (W.plainGet_of hg).1 (W.findObj_own hh ha hn (by rw [W.lookIn_dict]; exact h1)) (conc_handed c1 hb) (c y v h (w.toks _) q .toks R.toks c1)⟩
/-- a method's callee: the function and the arguments that go first -/
structure Mth (C : Cx) (n : Nat) (h : Hs) (a : V) (name : Str) (Q : V → List V → Hs → Prop) : Prop where
  run : ∀ (A : Around) (w : Wd) (Q' : Value × List Value → Shared → Prop) (E : Value → Shared → Prop) (x : Value) (pl : Sem Bool), AOk A n → Rep C w h → Conc C w.g w.ρ a x →
    (∀ (r : Value) (fs : List Value) (f : V) (first : List V) (h' : Hs) (w' : Wd), Q f first h' → Ext C [] w w' → Rep C w' h' → Conc C w'.g w'.ρ f r → Concs C w'.g w'.ρ first fs → Q' (r, fs) w'.s) → wpAny C.M A (getMethod x name pl) Q' E w.s
theorem mth_own {K : W.Frag} {i : Nat} {cl f : Addr} {fs : List (Str × V)} {name : Str} {QM : V → List V → Hs → Prop} (I : InC C K) (hi : h.σ i = .inst fs) (hv : fs.lookup name = none)
    (hg : W.plainGet K cl name = true) (hf : W.findIn K (.ref cl) name = some (some (.ref f))) (ht : W.isFn K (.ref f) = true) (q : QM (.top f) [.obj i cl] h) : Mth C n h (.obj i cl) name QM := ⟨by
  intro A w Q' E x pl a0 R cx c
  cases cx with
  | obj gx hx =>
    obtain ⟨es, k, ho, hl, hff⟩ := R.inst hx hi
    have := hff name
    rw [hv] at this
    refine W.method_fn (od := some (W.dictOf es k)) (I.here R) ⟨R.keep _ _ gx, rfl, rfl, ho⟩ (W.plainGet_of hg).1 (W.plainGet_of hg).2 hf (beq_iff_eq.mp ht) (by show (W.lookIn name (W.dictOf es k)).map _ = _; rw [W.lookIn_dict, this]; rfl) (c _ _ _ _ h w q .refl R (.top f) (.cons (.obj gx hx) .nil))⟩
/-- a method called -/
theorem ev_mcall {o : Expr} {name : Str} {p' p : Pos} {es : List Expr} {ks : List Keyword} {ns : List Str} (H : Ev C n F loc h o fun a h1 => Mth C n h1 a name fun f first h2 => Kp C f ∧ Evs C n F loc h2 es fun vs h3 => Evk C n F loc h3 ks fun kv h4 => Cl C n h4 f (first ++ vs) (ns.zip kv) Q)
    (hs : noStar es = true := by rfl) (hn : kwNames ks = some ns := by rfl) (hb : attributeBase o name F.env (eval o F.env) = eval o F.env := by rfl)
    (hf : methodCallForm (es.length + ks.length) (backTo p (starEach es F.env)) (backToKw p (keywordEach ks F.env)) = true := by rfl) (hl : (p'.endLine == p.line) = true := by rfl) :
    Ev C n F loc h (.Call (.Attribute o name p') es ks p) Q := ⟨fun A w Q' E a0 R f c => by
  rw [arm_eval_Call, hb]
  refine wpAny_bind (H.run A w _ _ a0 R f fun x a h1 w1 q1 e1 R1 c1 => wpAny_bind (wpAny_standAt ?_))
  have hpos : methodCallPos true o F.env p' p = pure p := by unfold methodCallPos; simp [hl]
  unfold methodCall
  rw [hf, hpos]
  refine wpAny_bind (wpAny_holding ?_)
  show wpAny _ _ (getMethod x name _) _ _ _
  refine q1.run A w1 _ _ x _ a0 R1 c1 fun r fs fv first h2 w2 ⟨kp, q2⟩ e2 R2 c2 c3 => wpAny_bind (wpAny_pure ?_)
  have f2 := (f.ext0 e1).ext0 e2
  refine callWith_any (args_all hs hn q2 a0 R2 f2 fun xs kx vs kv h3 w3 q3 e3 R3 c4 hnm c5 => ⟨kp w3 h3 r R3 (c2.ext e3),
    q3.run A w3 _ _ r (fs ++ xs) kx a0 R3 (c2.ext e3) ((c3.ext e3).app c4) hnm c5 fun z v h4 w4 q4 e4 R4 c6 => c z v h4 w4 q4 (e1.trans (e2.trans (e3.trans e4))) R4 c6⟩)⟩
end
end Mine
namespace Mine
theorem look_some {name : Str} {es : List DictEntry} {n : Nat} (hl : (W.getL name es).isSome = true) : (!es.toArray.any (·.key.isStr name) && es.toArray.any (·.refKey)) = false := by
  rw [← Array.any_toList, ← Array.any_toList]
  show (!es.any _ && es.any _) = false
  unfold W.getL at hl
  cases q : es.find? (·.key.isStr name) with
  | some en => rw [List.any_eq_true.mpr ⟨en, List.mem_of_find?_eq_some q, List.find?_some q⟩]; rfl
  | none =>
    rw [q] at hl
    cases z : es.any (·.refKey) with
    | false => rw [Bool.and_false]
    | true => rw [z] at hl; cases hl
theorem putL_length (name : Str) (hsh : Int) (key v : Value) : ∀ es : List DictEntry, (W.putL name hsh key v es).length ≤ es.length + 1
  | [] => Nat.le_refl _
  | e :: r => by
    unfold W.putL
    split
    · simp
    · have := putL_length name hsh key v r; simp only [List.length_cons]; omega
theorem putL_same {name : Str} {hsh : Int} {key v : Value} : ∀ {es : List DictEntry}, es.any (·.key.isStr name) = true → (W.putL name hsh key v es).length = es.length
  | [], h => by cases h
  | e :: r, h => by
    unfold W.putL
    cases q : e.key.isStr name with
    | true => rw [if_pos rfl]; rfl
    | false =>
      rw [List.any_cons, q, Bool.false_or] at h
      rw [if_neg (by simp)]
      simp [putL_same h]
theorem getL_any {name : Str} {y : Value} {es : List DictEntry} (h : W.getL name es = some (some y)) : es.any (·.key.isStr name) = true := by
  unfold W.getL at h
  cases q : es.find? (·.key.isStr name) with
  | some e => exact List.any_eq_true.mpr ⟨e, List.mem_of_find?_eq_some q, by have := List.find?_some (p := fun z : DictEntry => z.key.isStr name) q; exact this⟩
  | none =>
    rw [q] at h
    cases z : es.any (·.refKey) with
    | true => simp [z] at h
    | false => simp [z] at h
theorem upd_same {x : Str} {v u : V} : ∀ {l : Loc}, l.lookup x = some u → (upd x v l).length = l.length
  | [], h => by cases h
  | (y, z) :: r, h => by
    unfold upd
    by_cases e : y = x
    · rw [if_pos e]; rfl
    · rw [if_neg e]
      rw [List.lookup_cons, beq_eq_false_iff_ne.mpr (Ne.symm e)] at h
      simp [upd_same h]
theorem upd_new {x : Str} {v : V} : ∀ {l : Loc}, l.lookup x = none → (upd x v l).length = l.length + 1
  | [], h => rfl
  | (y, z) :: r, h => by
    unfold upd
    by_cases e : y = x
    · subst e; simp at h
    · rw [if_neg e]
      rw [List.lookup_cons, beq_eq_false_iff_ne.mpr (Ne.symm e)] at h
      simp [upd_new h]
theorem isStr_other {k : Value} {x name : Str} (h : k.isStr name = true) (hx : x ≠ name) : k.isStr x = false := by
  cases k <;> try rfl
  rename_i y t
  have e : (y == name) = true := h
  show (y == x) = false
  rw [beq_iff_eq.mp e]
  exact beq_eq_false_iff_ne.mpr (Ne.symm hx)
theorem putL_find_other {name x : Str} {hsh : Int} {t : Tok} {v : Value} (hx : x ≠ name) : ∀ es : List DictEntry, (W.putL name hsh (.str name t) v es).find? (·.key.isStr x) = es.find? (·.key.isStr x)
  | [] => by
    show List.find? _ [_] = none
    rw [List.find?_cons, show (Value.str name t).isStr x = false from isStr_other (by show (name == name) = true; simp) hx]; rfl
  | e :: r => by
    unfold W.putL
    cases q : e.key.isStr name with
    | true => rw [if_pos rfl, List.find?_cons, List.find?_cons]; simp only [isStr_other q hx]
    | false => rw [if_neg (by simp), List.find?_cons, List.find?_cons, putL_find_other hx r]
theorem putL_find_self {name : Str} {hsh : Int} {t : Tok} {v : Value} : ∀ es : List DictEntry, ∃ e, (W.putL name hsh (.str name t) v es).find? (·.key.isStr name) = some e ∧ e.val = v
  | [] => ⟨_, by show List.find? _ [_] = some _; rw [List.find?_cons, show (Value.str name t).isStr name = true from by show (name == name) = true; simp], rfl⟩
  | e :: r => by
    unfold W.putL
    cases q : e.key.isStr name with
    | true => rw [if_pos rfl, List.find?_cons]; simp only [q]; exact ⟨_, rfl, rfl⟩
    | false =>
      rw [if_neg (by simp), List.find?_cons]; simp only [q]
      exact putL_find_self r
theorem putL_ref {name : Str} {hsh : Int} {t : Tok} {v : Value} : ∀ es : List DictEntry, (W.putL name hsh (.str name t) v es).any (·.refKey) = es.any (·.refKey)
  | [] => rfl
  | e :: r => by
    unfold W.putL
    cases q : e.key.isStr name with
    | true => rw [if_pos rfl, List.any_cons, List.any_cons]; rfl
    | false => rw [if_neg (by simp), List.any_cons, List.any_cons, putL_ref r]
theorem putL_get (name : Str) (hsh : Int) (t : Tok) (v : Value) (x : Str) (es : List DictEntry) : W.getL x (W.putL name hsh (.str name t) v es) = if x = name then some (some v) else W.getL x es := by
  by_cases h : x = name
  · subst h
    obtain ⟨e, h1, h2⟩ := putL_find_self (name := x) (hsh := hsh) (t := t) (v := v) es
    rw [if_pos rfl]
    unfold W.getL
    rw [h1, ← h2]
  · rw [if_neg h]
    unfold W.getL
    rw [putL_find_other h, putL_ref]
/-- an attribute stored in an instance's own dict: only that dict changes -/
theorem setattr_same {prog : Program} {w : World} {A : Around} {E : Value → Shared → Prop} {s : Shared} {K : W.Frag} {x Cl dx : Addr} {es : List DictEntry} {n : Nat} {name : Str} {v : Value} {Q : Unit → Shared → Prop}
    (X : K.In s.heap) (hx : s.heap.get? x = some ⟨.ref Cl, some dx, .plain, #[]⟩) (hdx : s.heap.get? dx = some (W.dictOf es n))
    (hs : W.findIn K (.ref Cl) "__setattr__" = some (some (.builtin "object.__setattr__"))) (hp : W.plainOver K Cl = true) (ht : W.takerIn K Cl name = some none) (hh : W.hasDictIn K Cl = true)
    (hl : (W.getL name es).isSome = true) (hz : es.length ≤ 50)
    (h : ∀ h' tk, Heap.SameBut dx s.heap h' → h'.get? dx = some (W.dictOf (W.putL name (PyData.keyHash w.params name) (.str name (s.toks + 1)) v es) (W.putN name es n)) → Q () { s with heap := h', toks := tk }) :
    wpAny (model prog w) A (setAttr (.ref x) name v) Q E s := by
  have I : W.InstAt s.heap x ⟨.ref Cl, some dx, .plain, #[]⟩ Cl (some (W.dictOf es n)) := ⟨hx, rfl, rfl, hdx⟩
  refine W.set_plain X I hs (W.osa_open (s := { s with toks := s.toks + 1 }) X I hp ht fun b => ?_)
  obtain ⟨cd, hc, hd'⟩ := W.any_some hh
  refine wpAny_bind (wpAny_pure (wpAny_bind (wpAny_bind (wpAny_loadPart (s := { s with toks := s.toks + 1 }) hx ?_))))
  dsimp only
  refine wpAny_bind ((W.looks_clsIn (M := model prog w) (h := s.heap) X hc).here (s := { s with toks := s.toks + 1 }) ?_)
  rw [hd']
  refine wpAny_pure (a := some dx) (wpAny_bind (wpAny_pure (wpAny_bind ?_)))
  unfold nsSet
  refine wpAny_bind (wpAny_bind (wpAny_askSetting (wpAny_pure (wpAny_bind (wpAny_mkText (wpAny_bind (wpAny_loadPart (s := { s with toks := s.toks + 1 + 1 }) hdx ?_)))))))
  dsimp only
  rw [aRefKeyMayBeTheName_at, look_some (n := n) hl]
  have hput := W.putName_dict name (PyData.keyHash w.params name) (.str name (s.toks + 1)) v es n
  have hsame : Heap.SameBut dx s.heap (s.heap.update dx (Obj.putName name (PyData.keyHash w.params name) (.str name (s.toks + 1)) v)) := Heap.SameBut.update ..
  have hget : (s.heap.update dx (Obj.putName name (PyData.keyHash w.params name) (.str name (s.toks + 1)) v)).get? dx = some (W.dictOf (W.putL name (PyData.keyHash w.params name) (.str name (s.toks + 1)) v es) (W.putN name es n)) := by
    rw [Heap.get?_update_self _ hdx (by rw [hput]; rfl), hput]
  refine wpAny_updatePart (s := { s with toks := s.toks + 1 + 1 }) hdx ?_
  refine wpAny_bind (wpAny_lookBehind hget (pastItsLine_dict (by rw [List.size_toArray, sizeLine_eq]; have := putL_length name (PyData.keyHash w.params name) (.str name (s.toks + 1)) v es; omega)) ?_)
  exact wpAny_pure (h _ _ hsame hget)
section
variable {C : Cx} {n : Nat} {F : Fr} {loc : Loc} {h : Hs} {Q : V → Hs → Prop} {QB : Bool → Hs → Prop} {QF : Fl → Loc → Hs → Prop} {QL : Loc → Hs → Prop} {QU : Hs → Prop}
theorem set_field {K : W.Frag} {i : Nat} {cl : Addr} {fs : List (Str × V)} {name : Str} {v : V} (I : InC C K) (hi : h.σ i = .inst fs)
    (hs : W.findIn K (.ref cl) "__setattr__" = some (some (.builtin "object.__setattr__"))) (hpo : W.plainOver K cl = true) (ht : W.takerIn K cl name = some none) (hh : W.hasDictIn K cl = true) (q : QU (h.upd i (.inst (upd name v fs)))) (hz : fs.length < 50 := by decide) :
    Up2 C n (fun x y => setAttr x name y) h (.obj i cl) v QU := ⟨by
  intro A w Q' E x y a0 R cx cy c
  cases cx with
  | obj gx hx =>
    obtain ⟨es, k, ho, hl, hf⟩ := R.inst hx hi
    have hsome : (W.getL name es).isSome = true := by
      have := hf name
      cases q : fs.lookup name with
      | none => rw [q] at this; rw [this]; rfl
      | some u => rw [q] at this; obtain ⟨z, h1, _⟩ := this; rw [h1]; rfl
    refine setattr_same (I.here R) (R.keep _ _ gx) ho hs hpo ht hh hsome (by omega) fun h' tk sb hget => ?_
    have hr : ObjA C w.g w.ρ (W.dictOf (W.putL name (PyData.keyHash C.w.params name) (.str name (w.s.toks + 1)) y es) (W.putN name es k)) (.inst (upd name v fs)) := by
      refine ⟨_, _, rfl, ?_, fun z => ?_⟩
      · have hfn := hf name
        cases q : fs.lookup name with
        | some u =>
          rw [q] at hfn
          obtain ⟨z, h1, _⟩ := hfn
          rw [putL_same (getL_any h1), upd_same q]; exact hl
        | none =>
          rw [upd_new q]
          exact Nat.le_trans (putL_length ..) (Nat.add_le_add_right hl 1)
      · rw [putL_get, lookup_upd]
        by_cases e : z = name
        · rw [if_pos e, if_pos e]; exact ⟨y, rfl, cy⟩
        · rw [if_neg e, if_neg e]; exact hf z
    have sb' : ∀ b o, b ≠ _ → w.s.heap.get? b = some o → h'.get? b = some o := fun b o hb e => (sb.2 b hb).trans e
    exact c _ (w.at h' tk) q (Ext.change hx sb' hget) (R.change hx (by rw [hi]; simp) sb' hget hr)⟩
theorem as_attr {o : Expr} {attr : Str} {p : Pos} {v : V} (H : Ev C n F loc h o fun a h1 => Up2 C n (fun x y => setAttr x attr y) h1 a v fun h2 => QL loc h2) : As C n F loc h (.Attribute o attr p) v QL := ⟨fun A w Q' E y a0 R f c k => by
  rw [arm_assign_Attribute]
  refine wpAny_bind (wpAny_holding (H.run A w _ _ a0 R f fun x a h1 w1 q1 e1 R1 c1 => wpAny_bind (wpAny_standAt ?_)))
  refine wpAny_bind (wpAny_holding (q1.run A w1 _ _ x y a0 R1 c1 (c.ext e1) fun h2 w2 q2 e2 R2 => wpAny_release ?_))
  exact k _ h2 w2 q2 (e1.trans e2).wide R2 ((f.ext0 e1).ext0 e2)⟩
theorem as_sub {o i : Expr} {p : Pos} {v : V} (H : Ev C n F loc h o fun a h1 => Ev C n F loc h1 i fun b h2 => Up3 C n setItem h2 a b v fun h3 => QL loc h3) : As C n F loc h (.Subscript o i p) v QL := ⟨fun A w Q' E y a0 R f c k => by
  rw [arm_assign_Subscript]
  refine wpAny_bind (wpAny_holding (H.run A w _ _ a0 R f fun x a h1 w1 q1 e1 R1 c1 => wpAny_bind (wpAny_holding (q1.run A w1 _ _ a0 R1 (f.ext0 e1) fun x2 b h2 w2 q2 e2 R2 c2 => wpAny_bind (wpAny_standAt ?_)))))
  refine wpAny_bind (wpAny_holding (q2.run A w2 _ _ x x2 y a0 R2 (c1.ext e2) c2 ((c.ext e1).ext e2) fun h3 w3 q3 e3 R3 => wpAny_release ?_))
  exact k _ h3 w3 q3 (e1.trans (e2.trans e3)).wide R3 (((f.ext0 e1).ext0 e2).ext0 e3)⟩
theorem ex_del_sub {o i : Expr} {p' p : Pos} (H : Ev C n F loc h o fun a h1 => Ev C n F loc h1 i fun b h2 => Up2 C n delItem h2 a b fun h3 => QF .next loc h3) : Ex C n F loc h (.Delete [.Subscript o i p'] p) QF := ⟨fun A w Q' E a0 R f c => by
  refine wpAny_Delete (wpAny_deleteEach_cons ?_)
  rw [arm_delete_Subscript]
  refine wpAny_bind (H.run A w _ _ a0 R f fun x a h1 w1 q1 e1 R1 c1 => wpAny_bind (wpAny_holding (q1.run A w1 _ _ a0 R1 (f.ext0 e1) fun x2 b h2 w2 q2 e2 R2 c2 => wpAny_bind (wpAny_standAt ?_))))
  refine wpAny_bind (wpAny_holding (q2.run A w2 _ _ x x2 a0 R2 (c1.ext e2) c2 fun h3 w3 q3 e3 R3 => wpAny_release (wpAny_deleteEach_nil ?_)))
  exact c _ _ loc h3 w3 q3 (e1.trans (e2.trans e3)).wide R3 (((f.ext0 e1).ext0 e2).ext0 e3) .next⟩
end
end Mine
namespace Mine
/-- an iterator at work: its objects wr, its state J, the items that it hands out, what the abstract heap must be while it does, the targets that it takes -/
structure Itr (C : Cx) (n : Nat) (it : Value) (wr : List Addr) (J : Nat → Heap → Prop) (ok : Hs → Prop) (tg : Expr → Prop) (src : V) (x0 : Value) (items : List V) : Prop where
  next : ∀ (A : Around) (w : Wd) (h : Hs) (k : Nat) (v : V) (t : Expr) (Q' : Value → Shared → Prop) (E : Value → Shared → Prop), AOk A n → Rep C w h → Conc C w.g w.ρ src x0 → ok h → J k w.s.heap → (∀ b ∈ wr, w.g b = none ∧ b ∉ w.ρ ∧ b ∉ C.tabs) → items[k]? = some v → tg t →
    (∀ (x : Value) (w' : Wd), Ext C wr w w' → w'.ρ = w.ρ → Rep C w' h → J (k + 1) w'.s.heap → Conc C w'.g w'.ρ v x → Q' x w'.s) →
    wpAny C.M A (pyNext it) (fun r s₁ => match r with | some x => wpAny C.M A (letOwnedTupleGo t it x) (fun _ => Q' x) E s₁ | none => False) E w.s
  stop : ∀ (A : Around) (w : Wd) (h : Hs) (k : Nat) (Q' : Option Value → Shared → Prop) (E : Value → Shared → Prop), AOk A n → Rep C w h → Conc C w.g w.ρ src x0 → ok h → J k w.s.heap → (∀ b ∈ wr, w.g b = none ∧ b ∉ w.ρ ∧ b ∉ C.tabs) → items[k]? = none →
    (∀ (hp : Heap) (tk : Nat), (∀ b o, b ∉ wr → w.s.heap.get? b = some o → hp.get? b = some o) → Q' none { w.s with heap := hp, toks := tk }) → wpAny C.M A (pyNext it) Q' E w.s
  keep : ∀ k hp hp', J k hp → (∀ b ∈ wr, hp'.get? b = hp.get? b) → J k hp'
  live : ∀ k hp, J k hp → ∀ b ∈ wr, ∃ o, hp.get? b = some o
  self : ∀ (A : Around) (k : Nat) (s : Shared) (Q' : Value → Shared → Prop) (E : Value → Shared → Prop), J k s.heap → Q' it s → wpAny C.M A (pyIter it) Q' E s
/-- how a value is iterated -/
structure Its (C : Cx) (n : Nat) (h : Hs) (tg : Expr → Prop) (src : V) (K : Hs → (Hs → Prop) → List V → Prop) : Prop where
  run : ∀ (A : Around) (w : Wd) (Q' : Value → Shared → Prop) (E : Value → Shared → Prop) (x0 : Value), AOk A n → Rep C w h → Conc C w.g w.ρ src x0 →
    (∀ (it : Value) (wr : List Addr) (J : Nat → Heap → Prop) (w' : Wd) (h1 : Hs) (ok : Hs → Prop) (items : List V) (src' : V) (x' : Value), K h1 ok items → Ext C [] w w' → Rep C w' h1 → (∀ b ∈ wr, w.s.heap.get? b = none) → (∀ b ∈ wr, w'.g b = none ∧ b ∉ w'.ρ ∧ b ∉ C.tabs) → J 0 w'.s.heap → Conc C w'.g w'.ρ src' x' → Itr C n it wr J ok tg src' x' items → Q' it w'.s) →
    wpAny C.M A (pyIter x0) Q' E w.s
/-- for, turn by turn -/
def FoW (C : Cx) (n : Nat) (F : Fr) (ok : Hs → Prop) (t : Expr) (b : List Stmt) (QF : Fl → Loc → Hs → Prop) : List V → Loc → Hs → Prop
  | [], loc, h => ok h ∧ QF .next loc h
  | v :: vs, loc, h => ok h ∧ As C n F loc h t v fun loc1 h1 => Exs C n F loc1 h1 b fun fl loc2 h2 => match fl with
    | .next | .cont => FoW C n F ok t b QF vs loc2 h2
    | .brk => QF .next loc2 h2
    | .ret u => QF (.ret u) loc2 h2
theorem for_step {prog : Program} {w : World} {A : Around} {s : Shared} {R : Result → Shared → Prop} {target : Expr} {it : Value} {body : List Stmt} {env : Env}
    (h : wpAny (model prog w) A (pyNext it) (fun r s₁ => match r with
      | none => R (.ok .next) s₁
      | some v => wpAny (model prog w) A (letOwnedTupleGo target it v) (fun _ s₁' => wpAny (model prog w) A (assign target env v) (fun _ s₂ => wpAny (model prog w) A (execs body env) (fun f s₃ => match f with
          | .next | .cont => codeAny (model prog w) A (.forLoop target it body [] env) R s₃
          | .brk => R (.ok .next) s₃
          | .ret v => R (.ok (.ret v)) s₃) (fun _ _ => False) s₂) (fun _ _ => False) s₁') (fun _ _ => False) s₁) (fun _ _ => False) s) : codeAny (model prog w) A (.forLoop target it body [] env) R s := by
  refine codeAny_of_tree ?_
  show wpAny _ A ((forTurn target it body [] env).onRaise (fun x => do noteFrame x env; theTreesLotGoes x)) _ _ s
  refine wpAny_noted ?_
  simp only [forTurn]
  refine wpAny_bind (wpAny_standAt (wpAny_bind (wpAny_onRaise (wpAny_mono h (fun r s₁ h₁ => ?_) fun _ _ h' => h'.elim))))
  cases r with
  | none => exact wpAny_pure ⟨rfl, codeAny_block (wpAny_execs_nil h₁)⟩
  | some v =>
    refine wpAny_bind (wpAny_mono h₁ (fun _ s₁' h₁ => ?_) fun _ _ h' => h'.elim)
    refine wpAny_bind (wpAny_mono h₁ (fun _ s₂ h₂ => wpAny_bind (wpAny_mono h₂ (fun f s₃ h₃ => ?_) fun _ _ h' => h'.elim)) fun _ _ h' => h'.elim)
    cases f with
    | next => exact wpAny_pure ⟨rfl, h₃⟩
    | cont => exact wpAny_pure ⟨rfl, h₃⟩
    | brk => exact wpAny_pure h₃
    | ret v => exact wpAny_pure h₃
section
variable {C : Cx} {n : Nat} {F : Fr} {loc : Loc} {h : Hs} {Q : V → Hs → Prop} {QB : Bool → Hs → Prop} {QF : Fl → Loc → Hs → Prop} {QL : Loc → Hs → Prop}
/-- a step that touches only an iterator's objects, seen from ahead of the iterator -/
theorem Ext.base {X : List Addr} {wr : List Addr} {w0 w : Wd} {hp : Heap} {tk : Nat} (e : Ext C X w0 w) (hf : ∀ b ∈ wr, w0.s.heap.get? b = none) (ha : ∀ b ∈ wr, b ∉ w.ρ) (hk : ∀ b o, b ∉ wr → w.s.heap.get? b = some o → hp.get? b = some o) : Ext C X w0 (w.at hp tk) where
  sub := e.sub
  new := e.new
  pre := e.pre
  newρ := e.newρ
  kept := fun b o e0 h1 h2 h3 => hk b o (fun q => by rw [hf b q] at e0; cases e0) (e.kept b o e0 h1 h2 h3)
  live := fun b o e0 => let ⟨o', e1⟩ := e.live b o e0; ⟨o', hk b o' (fun q => by rw [hf b q] at e0; cases e0) e1⟩
theorem Ext.baseX {X wr : List Addr} {w0 w w' : Wd} (e : Ext C X w0 w) (hf : ∀ b ∈ wr, w0.s.heap.get? b = none) (e1 : Ext C wr w w') : Ext C X w0 w' := by
  have e2 : Ext C (X ++ wr) w0 w' := (e.widen (fun a h => by simp [h])).trans (e1.widen (fun a h => by simp [h]))
  exact ⟨e2.sub, e2.new, e2.pre, e2.newρ, fun b o e0 h1 h2 h3 => e2.kept b o e0 h1 (fun q => by
    rcases List.mem_append.mp q with q | q
    · exact h2 q
    · rw [hf b q] at e0; cases e0) h3, e2.live⟩
theorem apart_ext {X wr : List Addr} {w w' : Wd} (ha : ∀ b ∈ wr, w.g b = none ∧ b ∉ w.ρ ∧ b ∉ C.tabs) (hl : ∀ b ∈ wr, ∃ o, w.s.heap.get? b = some o) (e : Ext C X w w') : ∀ b ∈ wr, w'.g b = none ∧ b ∉ w'.ρ ∧ b ∉ C.tabs := fun b hb => by
  obtain ⟨h1, h2, h3⟩ := ha b hb
  obtain ⟨o, ho⟩ := hl b hb
  refine ⟨?_, fun q => ?_, h3⟩
  · cases q : w'.g b with
    | none => rfl
    | some o' =>
      rcases e.new _ _ q with z | z | z
      · rw [h1] at z; cases z
      · rw [ho] at z; cases z
      · exact absurd z h2
  · rcases e.newρ _ q with z | z
    · exact h2 z
    · rw [ho] at z; cases z
theorem Frm.apart {wr : List Addr} {w : Wd} {hp : Heap} {tk : Nat} (f : Frm C w F loc) (hk : ∀ b o, b ∉ wr → w.s.heap.get? b = some o → hp.get? b = some o) (hL : F.env.locals ∉ wr) : Frm C (w.at hp tk) F loc := by
  obtain ⟨m, ⟨o, es, ep, ho, r⟩, hm⟩ := f.ns
  exact ⟨⟨m, ⟨o, es, ep, hk _ o hL ho, r⟩, hm⟩, f.off, f.offρ, f.offt, f.cells, f.kind, f.globals, f.blt⟩
theorem for_code {src : V} {x0 it : Value} {wr : List Addr} {J : Nat → Heap → Prop} {ok : Hs → Prop} {tg : Expr → Prop} {items : List V} {t : Expr} {b : List Stmt} (T : Itr C n it wr J ok tg src x0 items) (ht : tg t) :
    ∀ (vs : List V) (k : Nat) (A : Around) (w0 w : Wd) (loc : Loc) (h : Hs) (Rr : Result → Shared → Prop), items.drop k = vs → FoW C n F ok t b QF vs loc h → AOk A n → Rep C w h → Frm C w F loc → Conc C w.g w.ρ src x0 → J k w.s.heap → (∀ b ∈ wr, w0.s.heap.get? b = none) →
    (∀ b ∈ wr, w.g b = none ∧ b ∉ w.ρ ∧ b ∉ C.tabs) → F.env.locals ∉ wr → Ext C [F.env.locals] w0 w →
    (∀ (f : Flow) (fl : Fl) (loc' : Loc) (h' : Hs) (w' : Wd), QF fl loc' h' → Ext C [F.env.locals] w0 w' → Rep C w' h' → Frm C w' F loc' → ConcF C w' fl f → Rr (.ok f) w'.s) →
    codeAny C.M A (.forLoop t it b [] F.env) Rr w.s := by
  intro vs
  induction vs with
  | nil =>
    intro k A w0 w loc h Rr hd hW a0 R f c0 hJ hf ha hL e0 q
    have hk : items[k]? = none := by rw [← List.head?_drop, hd]; rfl
    refine for_step (T.stop A w h k _ _ a0 R c0 hW.1 hJ ha hk fun hp tk keep => ?_)
    exact q _ _ loc h (w.at hp tk) hW.2 (e0.base hf (fun b hb => (ha b hb).2.1) keep) (R.apart keep ha) (f.apart keep hL) .next
  | cons v vs ih =>
    intro k A w0 w loc h Rr hd hW a0 R f c0 hJ hf ha hL e0 q
    have hk : items[k]? = some v := by rw [← List.head?_drop, hd]; rfl
    refine for_step (wpAny_mono (T.next A w h k v t (fun x s₁' => wpAny C.M A (assign t F.env x) (fun _ s₂ => wpAny C.M A (execs b F.env) (fun f s₃ => match f with
          | .next | .cont => codeAny C.M A (.forLoop t it b [] F.env) Rr s₃
          | .brk => Rr (.ok .next) s₃
          | .ret v => Rr (.ok (.ret v)) s₃) (fun _ _ => False) s₂) (fun _ _ => False) s₁') (fun _ _ => False) a0 R c0 hW.1 hJ ha hk ht fun x w1 e1 hρ R1 hJ1 cx => ?_) (fun r s₁ h₁ => ?_) fun _ _ z => z)
    · have f1 : Frm C w1 F loc := f.ext e1 hL
      refine hW.2.run A w1 _ _ x a0 R1 f1 cx fun loc2 h2 w2 q2 e2 R2 f2 => ?_
      refine q2.run A w2 _ _ a0 R2 f2 fun fw fl loc3 h3 w3 q3 e3 R3 f3 c3 => ?_
      have e23 := e2.trans e3
      have l1 := T.live _ _ hJ1
      have ha1 := apart_ext ha (T.live _ _ hJ) e1
      have ha3 := apart_ext ha1 l1 e23
      have e03 : Ext C [F.env.locals] w0 w3 := (e0.baseX hf e1).trans e23
      have hJ3 : J (k + 1) w3.s.heap := T.keep _ _ _ hJ1 fun b hb => by
        obtain ⟨o, ho⟩ := l1 b hb
        rw [ho]; exact e23.kept b o ho (ha1 b hb).2.1 (by simp; rintro rfl; exact hL hb) (ha1 b hb).2.2
      have go : FoW C n F ok t b QF vs loc3 h3 → codeAny C.M A (.forLoop t it b [] F.env) Rr w3.s := fun hW' =>
        ih (k + 1) A w0 w3 loc3 h3 Rr (by rw [← List.drop_drop, hd]; rfl) hW' a0 R3 f3 ((c0.ext e1).ext e23) hJ3 hf ha3 hL e03 q
      cases c3 with
      | next => exact go q3
      | cont => exact go q3
      | brk => exact q _ _ loc3 h3 w3 q3 e03 R3 f3 .next
      | ret cv => exact q _ _ loc3 h3 w3 q3 e03 R3 f3 (.ret cv)
    · cases r with
      | none => exact h₁.elim
      | some x => exact h₁
theorem ex_for {t it : Expr} {b : List Stmt} {p : Pos} {tg : Expr → Prop} (H : Ev C n F loc h it fun src h1 => Its C n h1 tg src fun h2 ok items => FoW C n F ok t b QF items loc h2) (ht : tg t) (hs : ∀ x, foldedSetIterable it F.env x = pure x := by intro _; rfl) : Ex C n F loc h (.For t it b [] p) QF := ⟨fun A w Q' E a0 R f c => by
  refine wpAny_For (H.run A w _ _ a0 R f fun x src h1 w1 q1 e1 R1 c1 => q1.run A w1 _ _ x a0 R1 c1 fun itv wr J w2 h2 ok items src' x' q2 e2 R2 hf ha hJ c2 T => ?_) hs
  have f2 := (f.ext0 e1).ext0 e2
  have hL : F.env.locals ∉ wr := fun z => by
    obtain ⟨o, ho⟩ := (f.ext0 e1).live
    have := hf _ z; rw [ho] at this; cases this
  exact for_code T ht items 0 A w1 w2 loc h2 _ rfl q2 a0 R2 f2 c2 hJ hf ha hL e2.wide fun fw fl l h' w' q e' R' f' c' => c fw fl l h' w' q (e1.wide.trans e') R' f' c'⟩
end
end Mine
namespace Mine
theorem compTurn_one (elt t1 i1 : Expr) (f1 : List Expr) (scope : Scope) (pos : Pos) (it acc : Value) (env : Env) :
    compTurn (.ListComp elt [⟨t1, i1, f1, 0⟩] scope pos) 0 it acc env = (standAt i1.pos >>= fun _ => pyNext it >>= fun r => match r with
      | none => pure (.done .next)
      | some v => letOwnedTupleGo t1 it v >>= fun _ => assign t1 env v >>= fun _ => compTests f1 env >>= fun ok =>
        (if ok = true then ((eval elt env >>= fun x => call (.builtin "list.append") [acc, x] >>= fun _ => pure ()) >>= fun _ => again (.compLoop (.ListComp elt [⟨t1, i1, f1, 0⟩] scope pos) 0 it acc env))
          else again (.compLoop (.ListComp elt [⟨t1, i1, f1, 0⟩] scope pos) 0 it acc env))) := by
  unfold compTurn compTests
  simp only [bind_pure]
  rfl
theorem compTurn_dict (k v t1 i1 : Expr) (f1 : List Expr) (scope : Scope) (pos : Pos) (it : Value) (d : Addr) (env : Env) :
    compTurn (.DictComp k v [⟨t1, i1, f1, 0⟩] scope pos) 0 it (.ref d) env = (standAt i1.pos >>= fun _ => pyNext it >>= fun r => match r with
      | none => pure (.done .next)
      | some x => letOwnedTupleGo t1 it x >>= fun _ => assign t1 env x >>= fun _ => compTests f1 env >>= fun ok =>
        (if ok = true then ((eval k env >>= fun kv => holding [kv] (eval v env) >>= fun vv => standAt { k.pos with endLine := v.pos.endLine, endCol := v.pos.endCol } >>= fun _ => holding [kv, vv] (dictSet d kv vv)) >>= fun _ => again (.compLoop (.DictComp k v [⟨t1, i1, f1, 0⟩] scope pos) 0 it (.ref d) env))
          else again (.compLoop (.DictComp k v [⟨t1, i1, f1, 0⟩] scope pos) 0 it (.ref d) env))) := by
  unfold compTurn compTests
  simp only [bind_pure]
  rfl
/-- a tree of a statement's kind, in a frame -/
structure Bd (C : Cx) (n : Nat) (F : Fr) (ρ0 : List Addr) (t : Sem Unit) (loc : Loc) (h : Hs) (Q : Loc → Hs → Prop) : Prop where
  run : ∀ (A : Around) (w : Wd) (Q' : Unit → Shared → Prop) (E : Value → Shared → Prop), ρ0 <+: w.ρ → AOk A n → Rep C w h → Frm C w F loc →
    (∀ (loc' : Loc) (h' : Hs) (w' : Wd), Q loc' h' → Ext C [F.env.locals] w w' → Rep C w' h' → Frm C w' F loc' → Q' () w'.s) → wpAny C.M A t Q' E w.s
/-- a comprehension's tests -/
def TestsW (C : Cx) (n : Nat) (F : Fr) (loc : Loc) (Q : Bool → Hs → Prop) : List Expr → Hs → Prop
  | [], h => Q true h
  | c :: cs, h => EvB C n F loc h c fun b h1 => if b then TestsW C n F loc Q cs h1 else Q false h1
/-- one turn, and all of them -/
def TurnW (C : Cx) (n : Nat) (F : Fr) (t : Expr) (fs : List Expr) (body : Loc → Hs → (Loc → Hs → Prop) → Prop) (v : V) (loc : Loc) (h : Hs) (Q : Loc → Hs → Prop) : Prop :=
  As C n F loc h t v fun l1 h1 => TestsW C n F l1 (fun b h2 => if b then body l1 h2 Q else Q l1 h2) fs h1
def LpW (ok : Hs → Prop) (turn : V → Loc → Hs → (Loc → Hs → Prop) → Prop) (Q : Loc → Hs → Prop) : List V → Loc → Hs → Prop
  | [], loc, h => ok h ∧ Q loc h
  | v :: vs, loc, h => ok h ∧ turn v loc h fun l1 h1 => LpW ok turn Q vs l1 h1
section
variable {C : Cx} {n : Nat} {F : Fr} {loc : Loc} {h : Hs} {Q : V → Hs → Prop} {QB : Bool → Hs → Prop} {QF : Fl → Loc → Hs → Prop} {QL : Loc → Hs → Prop}
theorem tests_run (fs : List Expr) : ∀ (A : Around) (w : Wd) (h : Hs) (Q' : Bool → Shared → Prop) (E : Value → Shared → Prop), TestsW C n F loc QB fs h → AOk A n → Rep C w h → Frm C w F loc →
    (∀ (b : Bool) (h' : Hs) (w' : Wd), QB b h' → Ext C [] w w' → Rep C w' h' → Q' b w'.s) → wpAny C.M A (compTests fs F.env) Q' E w.s := by
  have skip : ∀ (fs : List Expr) (A : Around) (s : Shared) (Q' : Bool → Shared → Prop) (E : Value → Shared → Prop), Q' false s → wpAny C.M A (forIn fs false fun c r => if r = true then do let ok ← isTrue c F.env (eval c F.env); pure (ForInStep.yield ok) else pure (ForInStep.yield r)) Q' E s := by
    intro fs
    induction fs with
    | nil => intro A s Q' E q; rw [List.forIn_nil]; exact wpAny_pure q
    | cons c fs ih => intro A s Q' E q; rw [List.forIn_cons]; exact wpAny_bind (wpAny_pure (ih A s Q' E q))
  have main : ∀ (fs : List Expr) (A : Around) (w : Wd) (h : Hs) (Q' : Bool → Shared → Prop) (E : Value → Shared → Prop), TestsW C n F loc QB fs h → AOk A n → Rep C w h → Frm C w F loc →
      (∀ (b : Bool) (h' : Hs) (w' : Wd), QB b h' → Ext C [] w w' → Rep C w' h' → Q' b w'.s) → wpAny C.M A (forIn fs true fun c r => if r = true then do let ok ← isTrue c F.env (eval c F.env); pure (ForInStep.yield ok) else pure (ForInStep.yield r)) Q' E w.s := by
    intro fs
    induction fs with
    | nil => intro A w h Q' E H a0 R f c; rw [List.forIn_nil]; exact wpAny_pure (c _ h w H .refl R)
    | cons e fs ih =>
      intro A w h Q' E H a0 R f c
      rw [List.forIn_cons]
      simp only [if_true]
      refine wpAny_bind (wpAny_bind (H.run A w _ _ a0 R f fun b h1 w1 q1 e1 R1 => wpAny_pure ?_))
      cases b with
      | true => exact ih A w1 h1 Q' E q1 a0 R1 (f.ext0 e1) fun b h2 w2 q2 e2 R2 => c b h2 w2 q2 (e1.trans e2) R2
      | false => exact skip fs A w1.s Q' E (c _ h1 w1 q1 e1 R1)
  intro A w h Q' E H a0 R f c
  unfold compTests
  exact wpAny_bind (main fs A w h _ E H a0 R f fun b h' w' q e' R' => wpAny_pure (c b h' w' q e' R'))
theorem loop_run {src : V} {x0 it : Value} {wr : List Addr} {J : Nat → Heap → Prop} {ok : Hs → Prop} {tg : Expr → Prop} {items : List V} {t : Expr} {fs : List Expr} {c : Code} {tree : Sem Fin} {body : Sem Unit} {p : Pos} {bodyW : Loc → Hs → (Loc → Hs → Prop) → Prop}
    (T : Itr C n it wr J ok tg src x0 items) (ht : tg t)
    (htree : tree = (standAt p >>= fun _ => pyNext it >>= fun r => match r with
      | none => pure (.done .next)
      | some v => letOwnedTupleGo t it v >>= fun _ => assign t F.env v >>= fun _ => compTests fs F.env >>= fun okb => (if okb = true then (body >>= fun _ => again c) else again c)))
    (hq : c.quiet = true) (hstep : ∀ (A : Around) (R : Result → Shared → Prop) (s : Shared), wpAny C.M A tree (fun fin s' => match fin with | .done f => R (.ok f) s' | .again c' => c'.quiet = true ∧ codeAny C.M A c' R s') (fun _ _ => False) s → codeAny C.M A c R s)
    {ρ0 : List Addr} (hbody : ∀ loc h Q, bodyW loc h Q → Bd C n F ρ0 body loc h Q) :
    ∀ (vs : List V) (k : Nat) (A : Around) (w0 w : Wd) (loc : Loc) (h : Hs) (Rr : Result → Shared → Prop), items.drop k = vs → LpW ok (TurnW C n F t fs bodyW) QL vs loc h → ρ0 <+: w.ρ → AOk A n → Rep C w h → Frm C w F loc → Conc C w.g w.ρ src x0 → J k w.s.heap → (∀ b ∈ wr, w0.s.heap.get? b = none) →
    (∀ b ∈ wr, w.g b = none ∧ b ∉ w.ρ ∧ b ∉ C.tabs) → F.env.locals ∉ wr → Ext C [F.env.locals] w0 w →
    (∀ (loc' : Loc) (h' : Hs) (w' : Wd), QL loc' h' → Ext C [F.env.locals] w0 w' → ρ0 <+: w'.ρ → Rep C w' h' → Frm C w' F loc' → Rr (.ok .next) w'.s) →
    codeAny C.M A c Rr w.s := by
  intro vs
  induction vs with
  | nil =>
    intro k A w0 w loc h Rr hd hW hρ0 a0 R f c0 hJ hf ha hL e0 q
    have hk : items[k]? = none := by rw [← List.head?_drop, hd]; rfl
    refine hstep A Rr w.s ?_
    rw [htree]
    refine wpAny_bind (wpAny_standAt (wpAny_bind (T.stop A w h k _ _ a0 R c0 hW.1 hJ ha hk fun hp tk keep => wpAny_pure ?_)))
    exact q loc h (w.at hp tk) hW.2 (e0.base hf (fun b hb => (ha b hb).2.1) keep) hρ0 (R.apart keep ha) (f.apart keep hL)
  | cons v vs ih =>
    intro k A w0 w loc h Rr hd hW hρ0 a0 R f c0 hJ hf ha hL e0 q
    have hk : items[k]? = some v := by rw [← List.head?_drop, hd]; rfl
    refine hstep A Rr w.s ?_
    rw [htree]
    refine wpAny_bind (wpAny_standAt (wpAny_bind (wpAny_mono (T.next A w h k v t (fun x s₁' => wpAny C.M A (assign t F.env x >>= fun _ => compTests fs F.env >>= fun okb => (if okb = true then (body >>= fun _ => again c) else again c)) (fun fin s' => match fin with | .done f => Rr (.ok f) s' | .again c' => c'.quiet = true ∧ codeAny C.M A c' Rr s') (fun _ _ => False) s₁')
        (fun _ _ => False) a0 R c0 hW.1 hJ ha hk ht fun x w1 e1 hρ R1 hJ1 cx => ?_) (fun r s₁ h₁ => ?_) fun _ _ z => z)))
    · have f1 : Frm C w1 F loc := f.ext e1 hL
      have l1 := T.live _ _ hJ1
      have ha1 := apart_ext ha (T.live _ _ hJ) e1
      have go : ∀ (loc3 : Loc) (h3 : Hs) (w3 : Wd), Ext C [F.env.locals] w1 w3 → Rep C w3 h3 → Frm C w3 F loc3 → LpW ok (TurnW C n F t fs bodyW) QL vs loc3 h3 → codeAny C.M A c Rr w3.s := fun loc3 h3 w3 e23 R3 f3 hW' => by
        have ha3 := apart_ext ha1 l1 e23
        have e03 : Ext C [F.env.locals] w0 w3 := (e0.baseX hf e1).trans e23
        have hJ3 : J (k + 1) w3.s.heap := T.keep _ _ _ hJ1 fun b hb => by
          obtain ⟨o, ho⟩ := l1 b hb
          rw [ho]; exact e23.kept b o ho (ha1 b hb).2.1 (by simp; rintro rfl; exact hL hb) (ha1 b hb).2.2
        exact ih (k + 1) A w0 w3 loc3 h3 Rr (by rw [← List.drop_drop, hd]; rfl) hW' (hρ0.trans (e1.pre.trans e23.pre)) a0 R3 f3 ((c0.ext e1).ext e23) hJ3 hf ha3 hL e03 q
      have hT : TurnW C n F t fs bodyW v loc h fun l1 h1 => LpW ok (TurnW C n F t fs bodyW) QL vs l1 h1 := hW.2
      refine wpAny_bind (hT.run A w1 _ _ x a0 R1 f1 cx fun loc2 h2 w2 q2 e2 R2 f2 => ?_)
      refine wpAny_bind (tests_run fs A w2 h2 _ _ q2 a0 R2 f2 fun b h3 w3 q3 e3 R3 => ?_)
      cases b with
      | false => exact wpAny_pure ⟨hq, go loc2 h3 w3 (e2.trans e3.wide) R3 (f2.ext0 e3) q3⟩
      | true =>
        refine wpAny_bind ((hbody _ _ _ q3).run A w3 _ _ (hρ0.trans (e1.pre.trans (e2.pre.trans e3.pre))) a0 R3 (f2.ext0 e3) fun loc4 h4 w4 q4 e4 R4 f4 => wpAny_pure ⟨hq, ?_⟩)
        exact go loc4 h4 w4 (e2.trans (e3.wide.trans e4)) R4 f4 q4
    · cases r with
      | none => exact h₁.elim
      | some x => exact wpAny_bind h₁
/-- the cells that a made function or a comprehension takes along -/
def cloA (cel : List (Str × Nat)) : List (Str × NameKind) → List (Str × Nat) → Option (List (Str × Nat))
  | [], acc => some acc
  | (x, k) :: r, acc => if k == .free then (match cel.lookup x with | some i => cloA cel r ((x, i) :: acc) | none => none) else cloA cel r acc
theorem closure_for {w : Wd} {scope : Scope} {cl : List (Str × Nat)} (f : Frm C w F loc) (hc : cloA F.cel scope.names [] = some cl) : ∃ fc, closureFor scope F.env = pure fc ∧ fc.map (·.1) = cl.map (·.1) ∧ cl.map (fun x => w.ρ[x.2]?) = fc.map (fun x => some x.2) := by
  have main : ∀ (names : List (Str × NameKind)) (acc cl : List (Str × Nat)) (ac : List (Str × Addr)), cloA F.cel names acc = some cl → ac.map (·.1) = acc.map (·.1) → acc.map (fun x => w.ρ[x.2]?) = ac.map (fun x => some x.2) →
      ∃ fc, (forIn names ac fun (x : Str × NameKind) (cs : List (Str × Addr)) => if (x.2 == .free) = true then (do let a ← cellOf F.env x.1; pure (ForInStep.yield ((x.1, a) :: cs))) else pure (ForInStep.yield cs) : Sem (List (Str × Addr))) = pure fc ∧ fc.map (·.1) = cl.map (·.1) ∧ cl.map (fun x => w.ρ[x.2]?) = fc.map (fun x => some x.2) := by
    intro names
    induction names with
    | nil => intro acc cl ac hc h1 h2; cases hc; exact ⟨ac, rfl, h1, h2⟩
    | cons nk r ih =>
      obtain ⟨x, k⟩ := nk
      intro acc cl ac hc h1 h2
      unfold cloA at hc
      split at hc
      · rename_i hk
        split at hc
        · rename_i i hi
          obtain ⟨a, h3, h4⟩ := f.cells x i hi
          obtain ⟨fc, h5, h6, h7⟩ := ih ((x, i) :: acc) cl ((x, a) :: ac) hc (by simp [h1]) (by simp [h2, h4])
          refine ⟨fc, ?_, h6, h7⟩
          rw [List.forIn_cons]
          simp only [hk, if_true]
          have : cellOf F.env x = pure a := by unfold cellOf; rw [h3]
          rw [this]
          exact h5
        · cases hc
      · rename_i hk
        obtain ⟨fc, h5, h6, h7⟩ := ih acc cl ac hc h1 h2
        refine ⟨fc, ?_, h6, h7⟩
        rw [List.forIn_cons]
        simp only [hk, if_false, Bool.false_eq_true]
        exact h5
  obtain ⟨fc, h1, h2, h3⟩ := main scope.names [] cl [] hc rfl rfl
  refine ⟨fc, ?_, h2, h3⟩
  unfold closureFor
  show (forIn scope.names [] _ >>= fun cs => pure cs) = pure fc
  rw [bind_pure]
  exact h1
/-- a comprehension's frame -/
def compEnv (scope : Scope) (env : Env) (L : Addr) (cells : List (Str × Addr)) : Env :=
  { scope := relabel scope env, locals := L, globals := env.globals, cells := cells, qual := env.qual, func := none, code := env.code, frame := env.frame, builtins := env.builtins }
theorem comp_env {A : Around} {E : Value → Shared → Prop} {scope : Scope} {cl : List (Str × Nat)} {fc : List (Str × Addr)} {w : Wd} {h : Hs} {Q' : Env → Shared → Prop}
    (hk : scope.kind = .function) (R : Rep C w h) (f : Frm C w F loc) (k0 : CelOk w.ρ cl fc)
    (k : ∀ L cells w', w.s.heap.get? L = none → Ext C [] w w' → Rep C w' (hsCells scope.names h) → Frm C w' ⟨compEnv scope F.env L cells, celFrom h.nx scope.names cl⟩ [] → Q' { scope := scope, locals := L, globals := F.env.globals, cells := cells, qual := F.env.qual, func := none, code := F.env.code, frame := F.env.frame, builtins := F.env.builtins } w'.s) :
    wpAny C.M A (newFunctionEnv scope F.env.globals fc [] F.env.qual none .none (some F.env)) Q' E w.s := by
  simp only [newFunctionEnv, Option.isSome_some, if_true]
  refine wpAny_bind (wpAny_alloc ?_)
  have hn0 : w.s.heap.get? w.s.heap.objs.size = none := fresh_none (Nat.le_refl _)
  have R0 : Rep C (w.at (w.s.heap.push { cls := .type "dict", data := .dict #[] }) w.s.toks) h := R.grow push_keeps
  have e0 : Ext C [] w (w.at (w.s.heap.push { cls := .type "dict", data := .dict #[] }) w.s.toks) := Ext.grow push_keeps
  refine wpAny_bind (lay_cells (X := []) _ (fun name kind cells => by cases hkc : kind == NameKind.cell <;> simp) scope.names cl fc (w.at (w.s.heap.push { cls := .type "dict", data := .dict #[] }) w.s.toks) h _ R0 k0 fun cells w1 e1 R1 k1 => ?_)
  have off := R.off_fresh hn0
  have hL : w1.s.heap.get? w.s.heap.objs.size = some { cls := .type "dict", data := .dict #[] } := e1.kept _ _ (Heap.get?_push_size _ rfl) off.2.1 (by simp) off.2.2
  have F1 : Frm C w1 ⟨compEnv scope F.env w.s.heap.objs.size cells, celFrom h.nx scope.names cl⟩ [] := by
    refine ⟨⟨fun _ => none, ⟨_, #[], 0, hL, rfl, fun _ he => by simp at he, fun _ => rfl⟩, fun x v hx => by cases hx⟩, ?_, ?_, off.2.2, k1, hk, f.globals, f.blt⟩
    · cases q : w1.g w.s.heap.objs.size with
      | none => exact q
      | some o =>
        rcases e1.new _ _ q with z | z | z
        · have z : w.g w.s.heap.objs.size = some o := z
          rw [off.1] at z; cases z
        · have z : (w.s.heap.push _).get? w.s.heap.objs.size = none := z
          rw [Heap.get?_push_size _ rfl] at z; cases z
        · exact absurd z off.2.1
    · intro q
      rcases e1.newρ _ q with z | z
      · exact off.2.1 z
      · have z : (w.s.heap.push _).get? w.s.heap.objs.size = none := z; rw [Heap.get?_push_size _ rfl] at z; cases z
  refine wpAny_bind ?_
  rw [List.forIn_nil]
  exact wpAny_pure (wpAny_pure (k _ cells w1 hn0 (e0.trans e1) R1 F1))
end
end Mine
namespace Mine
section
variable {C : Cx} {n : Nat} {F : Fr} {loc : Loc} {h : Hs} {Q : V → Hs → Prop} {QB : Bool → Hs → Prop} {QF : Fl → Loc → Hs → Prop} {QL : Loc → Hs → Prop}
theorem Rep.list {w : Wd} {i : Nat} {a : Addr} {xs : List V} (R : Rep C w h) (hi : w.ρ[i]? = some a) (hs : h.σ i = .list xs) : ∃ vs, w.s.heap.PlainList a vs ∧ Concs C w.g w.ρ xs vs.toList := by
  obtain ⟨o, h1, h2⟩ := R.obj i a hi
  rw [hs] at h2
  obtain ⟨vs, k, rfl, c⟩ := h2
  exact ⟨vs, ⟨k, h1⟩, c⟩
/-- one list changes -/
theorem Rep.setList {w : Wd} {hp : Heap} {i tk : Nat} {a : Addr} {xs ys : List V} {vs : Array Value} (R : Rep C w h) (hi : w.ρ[i]? = some a) (hs : h.σ i = .list xs) (hl : hp.PlainList a vs) (hsb : ∀ b o, b ≠ a → w.s.heap.get? b = some o → hp.get? b = some o) (c : Concs C w.g w.ρ ys vs.toList) : Rep C (w.at hp tk) (h.upd i (.list ys)) ∧ ∀ X, Ext C X w (w.at hp tk) := by
  obtain ⟨k, e⟩ := hl
  exact ⟨R.change hi (by rw [hs]; simp) hsb e ⟨vs, k, rfl, c⟩, fun X => Ext.change hi hsb e⟩
theorem app_list {w : Wd} {i : Nat} {a : Addr} {xs : List V} {v : V} {x : Value} {A : Around} {Q' : Value → Shared → Prop} {E : Value → Shared → Prop} (R : Rep C w h) (hi : w.ρ[i]? = some a) (hs : h.σ i = .list xs) (hz : xs.length ≤ sizeLine) (cx : Conc C w.g w.ρ v x)
    (k : ∀ w', (∀ X, Ext C X w w') → Rep C w' (h.upd i (.list (xs ++ [v]))) → Q' .none w'.s) : wpAny C.M A (call (.builtin "list.append") [.ref a, x]) Q' E w.s := by
  obtain ⟨vs, hl, c⟩ := R.list hi hs
  refine wpAny_list_append_plain hl (fun h' hl' sb => ?_) (by rw [← Array.length_toList, c.length]; exact hz)
  obtain ⟨R', e'⟩ := R.setList (tk := w.s.toks) hi hs hl' (fun b o hb e => (sb.2 b hb).trans e) (ys := xs ++ [v]) (by rw [Array.toList_push]; exact c.app (.cons cx .nil))
  exact k _ e' R'
/-- what a list comprehension's innermost turn does -/
def EmL (C : Cx) (n : Nat) (F : Fr) (p : Nat) (elt : Expr) (loc : Loc) (h : Hs) (Q : Loc → Hs → Prop) : Prop :=
  Ev C n F loc h elt fun v h1 => ∃ xs, h1.σ p = .list xs ∧ xs.length ≤ sizeLine ∧ Q loc (h1.upd p (.list (xs ++ [v])))
theorem EmL.bd {ρ0 : List Addr} {p : Nat} {D : Addr} {elt : Expr} (hD : ρ0[p]? = some D) (H : EmL C n F p elt loc h QL) : Bd C n F ρ0 (eval elt F.env >>= fun x => call (.builtin "list.append") [.ref D, x] >>= fun _ => pure ()) loc h QL := ⟨fun A w Q' E hρ a0 R f c => by
  refine wpAny_bind (H.run A w _ _ a0 R f fun x v h1 w1 ⟨xs, hs, hz, q1⟩ e1 R1 c1 => wpAny_bind ?_)
  exact app_list R1 (pre_get (hρ.trans e1.pre) hD) hs hz c1 fun w2 e2 R2 => wpAny_pure (c loc _ w2 q1 (e1.wide.trans (e2 _)) R2 ((f.ext0 e1).ext0 (e2 _)))⟩
theorem comp_stepL {A : Around} {elt : Expr} {gens : List Comprehension} {sc : Scope} {p : Pos} {depth : Nat} {it acc : Value} {env : Env} : ∀ (R : Result → Shared → Prop) (s : Shared), wpAny C.M A (compTurn (.ListComp elt gens sc p) depth it acc env) (fun fin s' => match fin with | .done f => R (.ok f) s' | .again c' => c'.quiet = true ∧ codeAny C.M A c' R s') (fun _ _ => False) s → codeAny C.M A (.compLoop (.ListComp elt gens sc p) depth it acc env) R s := by
  intro R s H
  refine codeAny_of_tree ?_
  rw [Around.under_of_weight (A := A) (c := .compLoop (.ListComp elt gens sc p) depth it acc env) (by rfl)]
  exact wpAny_noted (wpAny_mono H (fun _ _ q => q) fun _ _ z => z.elim)
theorem comp_stepD {A : Around} {k v : Expr} {gens : List Comprehension} {sc : Scope} {p : Pos} {depth : Nat} {it acc : Value} {env : Env} : ∀ (R : Result → Shared → Prop) (s : Shared), wpAny C.M A (compTurn (.DictComp k v gens sc p) depth it acc env) (fun fin s' => match fin with | .done f => R (.ok f) s' | .again c' => c'.quiet = true ∧ codeAny C.M A c' R s') (fun _ _ => False) s → codeAny C.M A (.compLoop (.DictComp k v gens sc p) depth it acc env) R s := by
  intro R s H
  refine codeAny_of_tree ?_
  rw [Around.under_of_weight (A := A) (c := .compLoop (.DictComp k v gens sc p) depth it acc env) (by rfl)]
  exact wpAny_noted (wpAny_mono H (fun _ _ q => q) fun _ _ z => z.elim)
/-- a comprehension's iterator is asked for its iterator once more -/
theorem comp_startL {A : Around} {elt : Expr} {gens : List Comprehension} {g : Comprehension} {sc : Scope} {p : Pos} {depth : Nat} {it acc : Value} {env : Env} {R : Result → Shared → Prop} {s : Shared} (hg : gens[depth]? = some g) (ha : g.is_async = 0) (hs : ∀ (Q' : Value → Shared → Prop) (E : Value → Shared → Prop), Q' it s → wpAny C.M A (pyIter it) Q' E s)
    (H : codeAny C.M A (.compLoop (.ListComp elt gens sc p) depth it acc env) R s) : codeAny C.M A (.compStart (.ListComp elt gens sc p) depth it acc env) R s := by
  refine codeAny_of_tree ?_
  rw [Around.under_of_weight (A := A) (c := .compStart (.ListComp elt gens sc p) depth it acc env) (by rfl)]
  show wpAny _ _ ((compStart (.ListComp elt gens sc p) depth it acc env).onRaise (fun x => do noteFrame x env; standAt theWindowsPlace)) _ _ s
  refine wpAny_notedAt ?_
  unfold compStart
  have hc : (clausesOf (.ListComp elt gens sc p))[depth]? = some g := hg
  rw [hc]
  have hb : ((some g).elim false fun x => x.is_async != 0) = false := by simp [ha]
  rw [hb]
  simp only [Bool.false_eq_true, if_false]
  refine wpAny_bind (wpAny_askSetting ?_)
  split
  · exact wpAny_bind (wpAny_pure (wpAny_pure (And.intro rfl H)))
  · exact wpAny_bind (wpAny_rule (wpAny_bind (wpAny_standAt (wpAny_bind (hs _ _ (wpAny_pure (And.intro rfl H)))))))
theorem comp_startD {A : Around} {k v : Expr} {gens : List Comprehension} {g : Comprehension} {sc : Scope} {p : Pos} {depth : Nat} {it acc : Value} {env : Env} {R : Result → Shared → Prop} {s : Shared} (hg : gens[depth]? = some g) (ha : g.is_async = 0) (hs : ∀ (Q' : Value → Shared → Prop) (E : Value → Shared → Prop), Q' it s → wpAny C.M A (pyIter it) Q' E s)
    (H : codeAny C.M A (.compLoop (.DictComp k v gens sc p) depth it acc env) R s) : codeAny C.M A (.compStart (.DictComp k v gens sc p) depth it acc env) R s := by
  refine codeAny_of_tree ?_
  rw [Around.under_of_weight (A := A) (c := .compStart (.DictComp k v gens sc p) depth it acc env) (by rfl)]
  show wpAny _ _ ((compStart (.DictComp k v gens sc p) depth it acc env).onRaise (fun x => do noteFrame x env; standAt theWindowsPlace)) _ _ s
  refine wpAny_notedAt ?_
  unfold compStart
  have hc : (clausesOf (.DictComp k v gens sc p))[depth]? = some g := hg
  rw [hc]
  have hb : ((some g).elim false fun x => x.is_async != 0) = false := by simp [ha]
  rw [hb]
  simp only [Bool.false_eq_true, if_false]
  refine wpAny_bind (wpAny_askSetting ?_)
  split
  · exact wpAny_bind (wpAny_pure (wpAny_pure (And.intro rfl H)))
  · exact wpAny_bind (wpAny_rule (wpAny_bind (wpAny_standAt (wpAny_bind (hs _ _ (wpAny_pure (And.intro rfl H)))))))
/-- the names of a comprehension's scope are its own -/
def namesOk (names : List (Str × NameKind)) : Bool := names.all fun x => x.2 != .local || names.lookup x.1 == some .local
theorem namesOk_spec {names : List (Str × NameKind)} (hn : namesOk names = true) : ∀ x ∈ names, x.2 = .local → names.lookup x.1 = some .local := fun x hx hl => by
  have := List.all_eq_true.mp hn x hx
  simpa [hl] using this
/-- a comprehension's loop, whatever it gathers -/
def CompOk (C : Cx) (n : Nat) (e t : Expr) (tw : Fr → Nat → V → Loc → Hs → (Loc → Hs → Prop) → Prop) : Prop :=
  ∀ (F : Fr) (p : Nat) (D : Addr) (ρ0 : List Addr) (it : Value) (wr : List Addr) (J : Nat → Heap → Prop) (ok : Hs → Prop) (src : V) (x0 : Value) (items : List V), ρ0[p]? = some D → Itr C n it wr J ok (· = t) src x0 items →
    ∀ (A : Around) (w0 w : Wd) (loc : Loc) (h : Hs) (Rr : Result → Shared → Prop) (QL : Loc → Hs → Prop), LpW ok (tw F p) QL items loc h → ρ0 <+: w.ρ → AOk A n → Rep C w h → Frm C w F loc → Conc C w.g w.ρ src x0 → J 0 w.s.heap → (∀ b ∈ wr, w0.s.heap.get? b = none) →
    (∀ b ∈ wr, w.g b = none ∧ b ∉ w.ρ ∧ b ∉ C.tabs) → F.env.locals ∉ wr → Ext C [F.env.locals] w0 w →
    (∀ (loc' : Loc) (h' : Hs) (w' : Wd), QL loc' h' → Ext C [F.env.locals] w0 w' → w.ρ <+: w'.ρ → Rep C w' h' → Frm C w' F loc' → Rr (.ok .next) w'.s) →
    codeAny C.M A (.compStart e 0 it (.ref D) F.env) Rr w.s
theorem compOk_one {elt t i : Expr} {fs : List Expr} {scope : Scope} {pos : Pos} : CompOk C n (.ListComp elt [⟨t, i, fs, 0⟩] scope pos) t (fun F p => TurnW C n F t fs (EmL C n F p elt)) := by
  intro F p D ρ0 it wr J ok src x0 items hD T A w0 w loc h Rr QL hW hρ a0 R f c0 hJ hf ha hL e0 q
  refine comp_startL (g := ⟨t, i, fs, 0⟩) rfl rfl (fun Q' E z => T.self A 0 _ _ _ hJ z) ?_
  exact loop_run (QL := QL) (ρ0 := w.ρ) T rfl (compTurn_one elt t i fs scope pos it (.ref D) F.env) rfl (fun A R s z => comp_stepL R s z) (fun loc h Q z => EmL.bd (pre_get hρ hD) z) items 0 A w0 w loc h Rr rfl hW (List.prefix_refl _) a0 R f c0 hJ hf ha hL e0 q
/-- a comprehension, up to the end of its loop -/
theorem comp_core {e : Expr} {scope : Scope} {pos : Pos} {t i : Expr} {fs : List Expr} {gs : List Comprehension} {newAcc : Sem Value} {ao : AO} {use : Option (Value → Sem Unit)} {cl : List (Str × Nat)} {A : Around} {w : Wd} {E : Value → Shared → Prop} {Q' : Value → Shared → Prop} {tw : Fr → Nat → V → Loc → Hs → (Loc → Hs → Prop) → Prop} {QA : Nat → Hs → Prop}
    (hok : CompOk C n e t tw) (hcl : clausesOf e = ⟨t, i, fs, 0⟩ :: gs) (hs : ∀ x, foldedSetIterable i F.env x = pure x) (hclo : cloA F.cel scope.names [] = some cl) (hk : scope.kind = .function) (hnm : namesOk scope.names = true)
    (hacc : ∀ (w : Wd) (h : Hs) (Q' : Value → Shared → Prop) (E : Value → Shared → Prop), Rep C w h → (∀ D w', w.s.heap.get? D = none → w'.ρ = w.ρ ++ [D] → Ext C [] w w' → Rep C w' (h.new ao) → Q' (.ref D) w'.s) → wpAny C.M A newAcc Q' E w.s)
    (a0 : AOk A n) (R : Rep C w h) (f : Frm C w F loc)
    (H : Ev C n F loc h i fun src h1 => Its C n h1 (· = t) src fun h2 ok items => ∀ L cells, LpW ok (tw ⟨compEnv scope F.env L cells, celFrom (h2.nx + 1) scope.names cl⟩ h2.nx) (fun _ h' => QA h2.nx h') items [] (hsCells scope.names (h2.new ao)))
    (Hend : ∀ (L : Addr) (cells : List (Str × Addr)) (cel : List (Str × Nat)) (D : Addr) (p : Nat) (loc' : Loc) (h' : Hs) (w1 w' : Wd), QA p h' → Ext C [] w w1 → w1.s.heap.get? L = none → Ext C [L] w1 w' → w'.ρ[p]? = some D → Rep C w' h' → Frm C w' ⟨compEnv scope F.env L cells, cel⟩ loc' → compPost C.M A E use Q' (.ref D) L (.ok .next) w'.s) :
    wpAny C.M A (comprehension e scope F.env pos newAcc false (eval i F.env) use) Q' E w.s := by
  obtain ⟨fc, hfc, hm1, hm2⟩ := closure_for f hclo
  refine wpAny_comprehension_free (g := ⟨t, i, fs, 0⟩) hcl hs hfc hk (namesOk_spec hnm) (H.run A w _ _ a0 R f fun x src h1 w1 q1 e1 R1 c1 => q1.run A w1 _ _ x a0 R1 c1 fun it wr J w2 h2 ok items src' x' q2 e2 R2 hf ha hJ c2 T => ?_)
  refine hacc w2 h2 _ _ R2 fun D w3 hD hρ e3 R3 => ?_
  have f3 : Frm C w3 F loc := ((f.ext0 e1).ext0 e2).ext0 e3
  have k3 : CelOk w3.ρ cl fc := (cel_lookup hm1 hm2).pre (e1.pre.trans (e2.pre.trans e3.pre))
  refine comp_env hk R3 f3 k3 fun L cells w4 hL e4 R4 f4 => ?_
  have hL1 : w1.s.heap.get? L = none := get_none (e2.trans e3).live hL
  have l2 := T.live _ _ hJ
  have l3 : ∀ b ∈ wr, ∃ o, w4.s.heap.get? b = some o := fun b hb => let ⟨o, ho⟩ := l2 b hb; (e3.trans e4).live b o ho
  have hLw : L ∉ wr := fun z => by
    obtain ⟨o, ho⟩ := l2 L z
    obtain ⟨o', ho'⟩ := e3.live L o ho
    rw [hL] at ho'; cases ho'
  have hp : w4.ρ[h2.nx]? = some D := pre_get e4.pre (by rw [hρ]; exact R2.more_at)
  refine hok ⟨compEnv scope F.env L cells, celFrom (h2.nx + 1) scope.names cl⟩ h2.nx D w4.ρ it wr J ok src' x' items hp T A w1 w4 [] _ _ (fun _ h' => QA h2.nx h') (q2 L cells) (List.prefix_refl _) a0 R4 f4 ((c2.ext e3).ext e4) (T.keep _ _ _ hJ fun b hb => ?_) hf (apart_ext ha l2 (e3.trans e4)) hLw (e2.trans (e3.trans e4)).wide fun loc' h' w' z e' hp' R' f' => ?_
  · obtain ⟨o, ho⟩ := l2 b hb
    rw [ho]; exact (e3.trans e4).kept b o ho (ha b hb).2.1 (by simp) (ha b hb).2.2
  · exact Hend L cells _ D h2.nx loc' h' w1 w' z e1 hL1 e' (pre_get hp' hp) R' f'
theorem acc_list {A : Around} : ∀ (w : Wd) (h : Hs) (Q' : Value → Shared → Prop) (E : Value → Shared → Prop), Rep C w h → (∀ D w', w.s.heap.get? D = none → w'.ρ = w.ρ ++ [D] → Ext C [] w w' → Rep C w' (h.new (.list [])) → Q' (.ref D) w'.s) → wpAny C.M A (newList []) Q' E w.s := fun w h Q' E R c => by
  have hn : w.s.heap.get? w.s.heap.objs.size = none := fresh_none (Nat.le_refl _)
  exact wpAny_newList (c _ (w.more _ _ w.s.toks) hn rfl (Ext.fresh hn push_keeps) (R.fresh hn push_keeps (Heap.get?_push_size _ rfl) ⟨#[], 0, rfl, .nil⟩ (R.fresh0 hn)))
/-- the end of a comprehension whose value is handed on -/
theorem comp_end {A : Around} {E : Value → Shared → Prop} {Q' : Value → Shared → Prop} {scope : Scope} {L : Addr} {cells : List (Str × Addr)} {cel : List (Str × Nat)} {D : Addr} {p : Nat} {loc' : Loc} {h' : Hs} {w w1 w' : Wd} (e1 : Ext C [] w w1) (hL : w1.s.heap.get? L = none) (e' : Ext C [L] w1 w') (hp : w'.ρ[p]? = some D) (R' : Rep C w' h') (f' : Frm C w' ⟨compEnv scope F.env L cells, cel⟩ loc')
    (c : ∀ w'', Ext C [] w w'' → Rep C w'' h' → w''.ρ[p]? = some D → Q' (.ref D) w''.s) : compPost C.M A E none Q' (.ref D) L (.ok .next) w'.s := by
  obtain ⟨m, hn, _⟩ := f'.ns
  refine ⟨m, hn, fun hp' sb => c (w'.at hp' w'.s.toks) (e1.trans (Ext.under (Ext.base (wr := [L]) e' (by simpa using hL) (by simp; exact f'.offρ) fun b o hb e => (sb.2 b (by simpa using hb)).trans e) hL)) (R'.apart (wr := [L]) (fun b o hb e => (sb.2 b (by simpa using hb)).trans e) (by simpa using ⟨f'.off, f'.offρ, f'.offt⟩)) hp⟩
/-- the end of one whose value is stored first -/
theorem comp_end_use {A : Around} {E : Value → Shared → Prop} {Q' : Value → Shared → Prop} {scope : Scope} {L : Addr} {cells : List (Str × Addr)} {cel : List (Str × Nat)} {D : Addr} {p : Nat} {loc' : Loc} {h' : Hs} {w w1 w' : Wd} {t : Expr} (a0 : AOk A n) (f : Frm C w F loc) (e1 : Ext C [] w w1) (hL : w1.s.heap.get? L = none) (e' : Ext C [L] w1 w') (hp : w'.ρ[p]? = some D) (R' : Rep C w' h') (f' : Frm C w' ⟨compEnv scope F.env L cells, cel⟩ loc')
    (H : As C n F loc h' t (.ref p) QL) (c : ∀ loc2 h2 w'', QL loc2 h2 → Ext C [F.env.locals] w w'' → Rep C w'' h2 → Frm C w'' F loc2 → Q' .none w''.s) : compPost C.M A E (some (assign t F.env)) Q' (.ref D) L (.ok .next) w'.s := by
  have hne : F.env.locals ≠ L := by
    obtain ⟨o, ho⟩ := (f.ext0 e1).live
    rintro rfl; rw [hL] at ho; cases ho
  have fo : Frm C w' F loc := (f.ext0 e1).ext e' (by simpa using hne)
  show wpAny C.M A (assign t F.env (.ref D)) _ E w'.s
  refine H.run A w' _ _ _ a0 R' fo (.ref hp) fun loc2 h2 w2 q2 e2 R2 f2 => ?_
  have f2' := f'.ext e2 (by simpa [compEnv] using fun z : L = F.env.locals => hne z.symm)
  obtain ⟨m, hn, _⟩ := f2'.ns
  refine ⟨m, hn, fun hp' sb => ?_⟩
  have e3 : Ext C [L, F.env.locals] w1 w2 := (e'.widen (by simp)).trans (e2.widen (by simp))
  have e4 : Ext C [L, F.env.locals] w1 (w2.at hp' w2.s.toks) := Ext.base (wr := [L]) e3 (by simpa using hL) (by simp; exact f2'.offρ) fun b o hb e => (sb.2 b (by simpa using hb)).trans e
  have e5 : Ext C [F.env.locals] w1 (w2.at hp' w2.s.toks) := ⟨e4.sub, e4.new, e4.pre, e4.newρ, fun b o e h1 h2 h3 => e4.kept b o e h1 (fun q => by
    rcases List.mem_cons.mp q with q | q
    · rw [q, hL] at e; cases e
    · exact h2 q) h3, e4.live⟩
  exact c loc2 h2 _ q2 (e1.wide.trans e5) (R2.apart (wr := [L]) (fun b o hb e => (sb.2 b (by simpa using hb)).trans e) (by simpa using ⟨f2'.off, f2'.offρ, f2'.offt⟩)) (f2.apart (wr := [L]) (fun b o hb e => (sb.2 b (by simpa using hb)).trans e) (by simpa using hne))
theorem ev_listcomp {elt t i : Expr} {fs : List Expr} {gs : List Comprehension} {scope : Scope} {pos : Pos} {cl : List (Str × Nat)} {tw : Fr → Nat → V → Loc → Hs → (Loc → Hs → Prop) → Prop} (hok : CompOk C n (.ListComp elt (⟨t, i, fs, 0⟩ :: gs) scope pos) t tw)
    (H : Ev C n F loc h i fun src h1 => Its C n h1 (· = t) src fun h2 ok items => ∀ L cells, LpW ok (tw ⟨compEnv scope F.env L cells, celFrom (h2.nx + 1) scope.names cl⟩ h2.nx) (fun _ h' => Q (.ref h2.nx) h') items [] (hsCells scope.names (h2.new (.list []))))
    (hclo : cloA F.cel scope.names [] = some cl := by rfl) (hk : scope.kind = .function := by rfl) (hnm : namesOk scope.names = true := by rfl) (hs : ∀ x, foldedSetIterable i F.env x = pure x := by intro _; rfl) : Ev C n F loc h (.ListComp elt (⟨t, i, fs, 0⟩ :: gs) scope pos) Q := ⟨fun A w Q' E a0 R f c => by
  rw [eval_ListComp]
  exact comp_core (use := none) (QA := fun p h' => Q (.ref p) h') hok rfl hs hclo hk hnm acc_list a0 R f H fun L cells cel D p loc' h' w1 w' q e1 hL e' hp R' f' => comp_end e1 hL e' hp R' f' fun w'' e'' R'' hp'' => c _ _ h' w'' q e'' R'' (.ref hp'')⟩
theorem ex_assign_listcomp {elt t i u : Expr} {fs : List Expr} {gs : List Comprehension} {scope : Scope} {pos p : Pos} {cl : List (Str × Nat)} {tw : Fr → Nat → V → Loc → Hs → (Loc → Hs → Prop) → Prop} (hok : CompOk C n (.ListComp elt (⟨t, i, fs, 0⟩ :: gs) scope pos) t tw)
    (hsw : swapsWith (.ListComp elt (⟨t, i, fs, 0⟩ :: gs) scope pos) (some u) p.line F.env = pure true)
    (H : Ev C n F loc h i fun src h1 => Its C n h1 (· = t) src fun h2 ok items => ∀ L cells, LpW ok (tw ⟨compEnv scope F.env L cells, celFrom (h2.nx + 1) scope.names cl⟩ h2.nx) (fun _ h' => As C n F loc h' u (.ref h2.nx) fun loc2 h2 => QF .next loc2 h2) items [] (hsCells scope.names (h2.new (.list []))))
    (hclo : cloA F.cel scope.names [] = some cl := by rfl) (hk : scope.kind = .function := by rfl) (hnm : namesOk scope.names = true := by rfl) (hs : ∀ x, foldedSetIterable i F.env x = pure x := by intro _; rfl) (he : (assignEach [u] F.env).map (·.2) = [assign u F.env] := by rfl) : Ex C n F loc h (.Assign [u] (.ListComp elt (⟨t, i, fs, 0⟩ :: gs) scope pos) p) QF := ⟨fun A w Q' E a0 R f c => by
  rw [exec_Assign_arm]
  refine wpAny_bind (wpAny_standAt ?_)
  have : swapsWithSole [u] (.ListComp elt (⟨t, i, fs, 0⟩ :: gs) scope pos) p.line F.env = pure true := hsw
  rw [this]
  refine wpAny_bind (wpAny_pure ?_)
  rw [if_pos rfl, he]
  refine wpAny_bind ?_
  show wpAny _ A (do let _ ← comprehension (.ListComp elt (⟨t, i, fs, 0⟩ :: gs) scope pos) scope F.env _ (newList []) false (eval i F.env) (some (assign u F.env))) _ _ w.s
  refine wpAny_bind (comp_core (use := some (assign u F.env)) (QA := fun p h' => As C n F loc h' u (.ref p) fun loc2 h2 => QF .next loc2 h2) hok rfl hs hclo hk hnm acc_list a0 R f H fun L cells cel D p loc' h' w1 w' q e1 hL e' hp R' f' => comp_end_use a0 f e1 hL e' hp R' f' q fun loc2 h2 w'' q2 e'' R'' f'' => ?_)
  exact wpAny_pure (wpAny_pure (c _ _ loc2 h2 w'' q2 e'' R'' f'' .next))⟩
end
end Mine
namespace Mine
def owned : List String := ["enumerate", "zip", "dict_itemiterator", "dict_reverseitemiterator", "odict_iterator", "itertools.zip_longest", "itertools.pairwise"]
theorem letGo_other {M : Model} {A : Around} {E : Value → Shared → Prop} {s : Shared} {t : Expr} {I : Addr} {o : Obj} {nm : String} {x : Value} {Q : Unit → Shared → Prop} (ho : s.heap.get? I = some o) (hc : o.cls = .type nm) (hn : owned.contains nm = false) (q : Q () s) : wpAny M A (letOwnedTupleGo t (.ref I) x) Q E s := by
  have main : wpAny M A (do
      let (.ref r, .ref a) := (Value.ref I, x) | return
      let o ← load r
      match o.cls, o.data with
      | .type n, .fields vs =>
        if owned.contains n && vs[0]? == some (rawInt a) then
          rule "for.unpacks-the-owned-tuple"
          updateField r 0 .none
      | _, _ => pure ()) Q E s := by
    cases x <;> try exact wpAny_pure q
    refine wpAny_bind (wpAny_load ho ?_)
    rw [hc]
    cases o.data <;> try exact wpAny_pure q
    dsimp only
    rw [hn]
    simp only [Bool.false_and, Bool.false_eq_true, if_false]
    exact wpAny_pure q
  cases t <;> first | exact wpAny_pure q | exact main
section
variable {C : Cx} {n : Nat} {F : Fr} {loc : Loc} {h : Hs} {Q : V → Hs → Prop} {QB : Bool → Hs → Prop} {QF : Fl → Loc → Hs → Prop} {QL : Loc → Hs → Prop} {K : Hs → (Hs → Prop) → List V → Prop} {tg : Expr → Prop}
theorem itr_walks {I : Addr} {J : Nat → Heap → Prop} {ok : Hs → Prop} {src : V} {x0 : Value} {items : List V}
    (hcls : ∀ k hp, J k hp → ∃ o nm, hp.get? I = some o ∧ o.cls = .type nm ∧ owned.contains nm = false) (hkeep : ∀ k hp hp', J k hp → hp'.get? I = hp.get? I → J k hp')
    (hself : ∀ (A : Around) (k : Nat) (s : Shared) (Q' : Value → Shared → Prop) (E : Value → Shared → Prop), J k s.heap → Q' (.ref I) s → wpAny C.M A (pyIter (.ref I)) Q' E s)
    (hW : ∀ (A : Around) (w : Wd) (h : Hs) (k : Nat), AOk A n → Rep C w h → Conc C w.g w.ρ src x0 → ok h → J k w.s.heap → w.g I = none → I ∉ w.ρ → ∃ (fp : List Addr) (m : Nat) (P : Nat → Value → Prop) (St : Nat → Heap → Prop), Walks C.prog C.w A I fp [I] m P St ∧ items.length = m ∧ k ≤ m ∧ St k w.s.heap ∧
      (∀ v x, items[k]? = some v → P k x → Conc C w.g w.ρ v x) ∧ (∀ hp', St (k + 1) hp' → k < m → J (k + 1) hp')) : Itr C n (.ref I) [I] J ok tg src x0 items where
  next := fun A w h k v t Q' E a0 R c0 hok hJ ha hk _ q => by
    obtain ⟨h1, h2, h3⟩ := ha I (by simp)
    obtain ⟨fp, m, P, St, W, hm, hkm, hst, hP, hJ'⟩ := hW A w h k a0 R c0 hok hJ h1 h2
    have hlt : k < m := by rw [← hm]; exact (List.getElem?_eq_some_iff.mp hk).1
    refine W.item k w.s _ _ hlt hst fun x hp tk hx hst' keep => ?_
    have hJ1 := hJ' hp hst' hlt
    obtain ⟨o, nm, ho, hc, hn⟩ := hcls _ _ hJ1
    refine letGo_other (s := { w.s with heap := hp, toks := tk }) ho hc hn (q x (w.at hp tk) ⟨.refl _, fun _ _ e => .inl e, List.prefix_refl _, fun _ z => .inl z, fun b o e _ hb _ => keep b o hb e, fun b o' e => ?_⟩ rfl (R.apart keep ha) hJ1 (hP v x hk hx))
    by_cases hb : b = I
    · exact ⟨o, hb ▸ ho⟩
    · exact ⟨o', keep b o' (by simpa using hb) e⟩
  stop := fun A w h k Q' E a0 R c0 hok hJ ha hk q => by
    obtain ⟨h1, h2, h3⟩ := ha I (by simp)
    obtain ⟨fp, m, P, St, W, hm, hkm, hst, _, _⟩ := hW A w h k a0 R c0 hok hJ h1 h2
    have : k = m := by have := List.getElem?_eq_none_iff.mp hk; omega
    subst this
    exact W.done w.s _ _ hst fun hp tk keep => q hp tk keep
  keep := fun k hp hp' hJ e => hkeep k hp hp' hJ (e I (by simp))
  live := fun k hp hJ b hb => by obtain ⟨o, _, ho, _⟩ := hcls k hp hJ; exact ⟨o, by rw [List.mem_singleton.mp hb]; exact ho⟩
  self := hself
theorem Concs.get {g : G} {ρ : List Addr} : ∀ {vs : List V} {xs : List Value}, Concs C g ρ vs xs → ∀ {k : Nat} {v : V}, vs[k]? = some v → ∃ x, xs[k]? = some x ∧ Conc C g ρ v x
  | _, _, .nil, k, v, h => by simp at h
  | _, _, .cons a c, 0, v, h => by cases h; exact ⟨_, rfl, a⟩
  | _, _, .cons a c, k + 1, v, h => c.get (k := k) h
/-- a list, frozen or not -/
def IsLst (h : Hs) : V → List V → Prop
  | .lst xs, ys => xs = ys
  | .ref i, ys => h.σ i = .list ys
  | _, _ => False
theorem IsLst.at {v : V} {xs : List V} {x : Value} {w : Wd} (hv : IsLst h v xs) (R : Rep C w h) (c : Conc C w.g w.ρ v x) : ∃ a vs, x = .ref a ∧ w.s.heap.PlainList a vs ∧ Concs C w.g w.ρ xs vs.toList ∧ ((∃ o, w.g a = some o) ∨ a ∈ w.ρ) := by
  cases v with
  | lst ys =>
    cases hv
    cases c with
    | lst hg cs => exact ⟨_, _, rfl, ⟨_, R.keep _ _ hg⟩, by simpa using cs, .inl ⟨_, hg⟩⟩
  | ref i =>
    cases c with
    | ref hi =>
      obtain ⟨vs, hl, cs⟩ := R.list hi hv
      exact ⟨_, vs, rfl, hl, cs, .inr (List.mem_of_getElem? hi)⟩
  | _ => exact hv.elim
theorem its_list {v : V} {xs : List V} (hv : IsLst h v xs) (q : K h (fun h' => IsLst h' v xs) xs) : Its C n h tg v K := ⟨fun A w Q' E x0 a0 R c k => by
  obtain ⟨l, vs, rfl, hl, cs, hin⟩ := hv.at R c
  have hn : w.s.heap.get? w.s.heap.objs.size = none := fresh_none (Nat.le_refl _)
  have off := R.off_fresh hn
  refine wpAny_pyIter_list hl.isList (k (.ref w.s.heap.objs.size) [w.s.heap.objs.size] (fun j hp => j ≤ xs.length ∧ hp.IsListIter w.s.heap.objs.size l j) (w.at _ w.s.toks) h _ xs v (.ref l) q (Ext.grow push_keeps) (R.grow push_keeps) (by simpa using hn) (by simpa using off) ⟨Nat.zero_le _, _, Heap.get?_push_size _ rfl, rfl, rfl⟩ c ?_)
  refine itr_walks (fun k hp hJ => let ⟨o, e1, e2, _⟩ := hJ.2; ⟨o, _, e1, e2, rfl⟩) (fun k hp hp' hJ e => ⟨hJ.1, let ⟨o, e1, r⟩ := hJ.2; ⟨o, e.trans e1, r⟩⟩) (fun A k s Q' E hJ q => wpAny_pyIter_listiter hJ.2 q) fun A' w' h' j a1 R' c' hok hJ hg hρ => ?_
  obtain ⟨l', vs', e, hl', cs', hin'⟩ := IsLst.at hok R' c'
  cases e
  have hlen : vs'.size = xs.length := by rw [← Array.length_toList, cs'.length]
  have hne : l ≠ w.s.heap.objs.size := by
    rintro rfl
    rcases hin' with ⟨o, z⟩ | z
    · rw [hg] at z; cases z
    · exact hρ z
  refine ⟨_, _, _, _, Walks.list a1.handled _ l hne vs', hlen.symm, by rw [hlen]; exact hJ.1, ⟨hJ.2, hl'.isList⟩, fun v x hv hx => ?_, fun hp' st hlt => ⟨by rw [← hlen]; exact hlt, st.1⟩⟩
  obtain ⟨y, hy, cy⟩ := cs'.get hv
  have hx : vs'[j]? = some x := hx
  rw [← Array.getElem?_toList, hy] at hx
  cases hx; exact cy⟩
def rangeV (a c : Int) (m : Nat) : List V := (List.range m).map fun (i : Nat) => V.int (a + (i : Int) * c)
theorem its_rng {a b c : Int} (hs : Builtin.Range.small a b c = true) (h0 : 0 ≤ Builtin.Range.rangeSize a b c) (q : K h (fun _ => True) (rangeV a c (Builtin.Range.rangeSize a b c).toNat)) : Its C n h tg (.rng a b c) K := ⟨fun A w Q' E x0 a0 R cc k => by
  cases cc with
  | @rng _ _ _ x t t' t'' hg =>
    have hn : w.s.heap.get? w.s.heap.objs.size = none := fresh_none (Nat.le_refl _)
    have off := R.off_fresh hn
    have hlen : (rangeV a c (Builtin.Range.rangeSize a b c).toNat).length = (Builtin.Range.rangeSize a b c).toNat := by simp [rangeV]
    refine wpAny_pyIter_range (R.keep _ _ hg) hs (k (.ref w.s.heap.objs.size) [w.s.heap.objs.size] (fun j hp => j ≤ (Builtin.Range.rangeSize a b c).toNat ∧ IsRangeIter hp w.s.heap.objs.size (a + (j : Nat) * c) (((Builtin.Range.rangeSize a b c).toNat : Int) - (j : Nat)) c) (w.at _ w.s.toks) h _ _ .none .none q (Ext.grow push_keeps) (R.grow push_keeps) (by simpa using hn) (by simpa using off) ⟨Nat.zero_le _, ?_⟩ .none ?_)
    · have : ((Builtin.Range.rangeSize a b c).toNat : Int) = Builtin.Range.rangeSize a b c := Int.toNat_of_nonneg h0
      have e : (w.s.heap.push { cls := .type "range_iterator", data := .fields #[rawInt a, rawInt (Builtin.Range.rangeSize a b c), rawInt c] }).get? w.s.heap.objs.size = _ := Heap.get?_push_size _ rfl
      simpa [IsRangeIter, this, rawInt] using e
    · refine itr_walks (fun k hp hJ => ⟨_, _, hJ.2, rfl, rfl⟩) (fun k hp hp' hJ e => ⟨hJ.1, e.trans hJ.2⟩) (fun A k s Q' E hJ q => wpAny_pyIter_rangeiter hJ.2 q) fun A' w' h' j a1 R' c' hok hJ hg' hρ => ?_
      refine ⟨_, _, _, _, Walks.range a1.handled _ a c (Builtin.Range.rangeSize a b c).toNat, hlen, hJ.1, hJ.2, fun v x hv hx => ?_, fun hp' st hlt => ⟨hlt, st⟩⟩
      obtain ⟨t, rfl⟩ := hx
      have : v = .int (a + (j : Int) * c) := by
        simp only [rangeV, List.getElem?_map, Option.map_eq_some_iff] at hv
        obtain ⟨i, hi, rfl⟩ := hv
        rw [List.getElem?_range (by have := (List.getElem?_eq_some_iff.mp hi).1; simpa using this)] at hi
        cases hi; rfl
      rw [this]; exact .int _ _⟩
end
end Mine
namespace Mine
/-- association lists in their order -/
def kget {β : Type} (kvs : List (Key × β)) (k : Key) : Option β := (kvs.find? fun kv => kv.1 = k).map (·.2)
def kput {β : Type} (kvs : List (Key × β)) (k : Key) (v : β) : List (Key × β) := if kvs.any (fun kv => kv.1 = k) then kvs.map (fun kv => if kv.1 = k then (kv.1, v) else kv) else kvs ++ [(k, v)]
def kdel {β : Type} (kvs : List (Key × β)) (k : Key) : List (Key × β) := kvs.filter fun kv => !decide (kv.1 = k)
inductive DRel (C : Cx) (g : G) (ρ : List Addr) : List (Key × V) → List (Key × Value) → Prop
  | nil : DRel C g ρ [] []
  | cons {k : Key} {v : V} {y : Value} {a : List (Key × V)} {b : List (Key × Value)} : Conc C g ρ v y → DRel C g ρ a b → DRel C g ρ ((k, v) :: a) ((k, y) :: b)
section
variable {C : Cx} {g : G} {ρ : List Addr}
theorem DRel.of : ∀ {a : List (Key × V)} {b : List (Key × Value)}, b.map (·.1) = a.map (·.1) → Concs C g ρ (a.map (·.2)) (b.map (·.2)) → DRel C g ρ a b
  | [], [], _, _ => .nil
  | [], _ :: _, h, _ => by cases h
  | _ :: _, [], h, _ => by cases h
  | (k, v) :: a, (k', y) :: b, h, c => by
    simp only [List.map_cons, List.cons.injEq] at h
    obtain ⟨rfl, h⟩ := h
    cases c with
    | cons c1 c2 => exact .cons c1 (DRel.of h c2)
theorem DRel.keys {a : List (Key × V)} {b : List (Key × Value)} (r : DRel C g ρ a b) : b.map (·.1) = a.map (·.1) := by
  induction r with
  | nil => rfl
  | cons _ _ ih => simp [ih]
theorem DRel.vals {a : List (Key × V)} {b : List (Key × Value)} (r : DRel C g ρ a b) : Concs C g ρ (a.map (·.2)) (b.map (·.2)) := by
  induction r with
  | nil => exact .nil
  | cons c _ ih => exact .cons c ih
theorem DRel.length {a : List (Key × V)} {b : List (Key × Value)} (r : DRel C g ρ a b) : b.length = a.length := by
  have := congrArg List.length r.keys; simpa using this
theorem DRel.get {a : List (Key × V)} {b : List (Key × Value)} (r : DRel C g ρ a b) (k : Key) : (∀ v, kget a k = some v → ∃ y, valueAt b k = some y ∧ Conc C g ρ v y) ∧ (kget a k = none → valueAt b k = none) := by
  induction r with
  | nil => exact ⟨fun v h => by simp [kget] at h, fun _ => rfl⟩
  | @cons k' v' y' a b c _ ih =>
    by_cases hk : k' = k
    · subst hk
      exact ⟨fun v h => by simp [kget] at h; subst h; exact ⟨y', by simp [valueAt], c⟩, fun h => by simp [kget] at h⟩
    · have e1 : kget ((k', v') :: a) k = kget a k := by simp [kget, hk]
      have e2 : valueAt ((k', y') :: b) k = valueAt b k := by simp [valueAt, hk]
      rw [e1, e2]; exact ih
theorem DRel.map_put {a : List (Key × V)} {b : List (Key × Value)} (r : DRel C g ρ a b) (k : Key) {v : V} {y : Value} (c : Conc C g ρ v y) : DRel C g ρ (a.map fun kv => if kv.1 = k then (kv.1, v) else kv) (b.map fun kv => if kv.1 = k then (kv.1, y) else kv) := by
  induction r with
  | nil => exact .nil
  | @cons k' v' y' a b c' _ ih =>
    simp only [List.map_cons]
    by_cases hk : k' = k
    · rw [if_pos hk, if_pos hk]; exact .cons c ih
    · rw [if_neg hk, if_neg hk]; exact .cons c' ih
theorem DRel.app {a a' : List (Key × V)} {b b' : List (Key × Value)} (r : DRel C g ρ a b) (r' : DRel C g ρ a' b') : DRel C g ρ (a ++ a') (b ++ b') := by
  induction r with
  | nil => exact r'
  | cons c _ ih => exact .cons c ih
theorem DRel.any {a : List (Key × V)} {b : List (Key × Value)} (r : DRel C g ρ a b) (k : Key) : b.any (fun kv => decide (kv.1 = k)) = a.any (fun kv => decide (kv.1 = k)) := by
  induction r with
  | nil => rfl
  | cons c _ ih => simp [ih]
theorem DRel.put {a : List (Key × V)} {b : List (Key × Value)} (r : DRel C g ρ a b) (k : Key) {v : V} {y : Value} (c : Conc C g ρ v y) : DRel C g ρ (kput a k v) (stored b k y) := by
  unfold kput stored
  rw [r.any k]
  split
  · exact r.map_put k c
  · exact r.app (.cons c .nil)
theorem DRel.del {a : List (Key × V)} {b : List (Key × Value)} (r : DRel C g ρ a b) (k : Key) : DRel C g ρ (kdel a k) (without b k) := by
  unfold kdel without
  induction r with
  | nil => exact .nil
  | @cons k' v' y' a b c' _ ih =>
    simp only [List.filter_cons]
    by_cases hk : k' = k
    · simp [hk]; simpa using ih
    · simp [hk]; exact .cons c' (by simpa using ih)
end
section
variable {C : Cx} {n : Nat} {F : Fr} {loc : Loc} {h : Hs} {Q : V → Hs → Prop} {QB : Bool → Hs → Prop} {QF : Fl → Loc → Hs → Prop} {QL : Loc → Hs → Prop} {QU : Hs → Prop} {K : Hs → (Hs → Prop) → List V → Prop} {tg : Expr → Prop} {QM : V → List V → Hs → Prop}
theorem key_is {g : G} {ρ : List Addr} {k : Key} {x : Value} (c : Conc C g ρ k.v x) : C.k.is k x = true := by
  cases k with
  | i n => cases c; simp [kk, Key.is, Value.isInt]
  | s y => cases c; simp [kk, Key.is, Value.isStrOf]
theorem key_scan {g : G} {ρ : List Addr} {k : Key} {x : Value} (c : Conc C g ρ k.v x) : x.scannable = true := by
  cases k <;> cases c <;> rfl
theorem key_conc {g : G} {ρ : List Addr} {k : Key} {x : Value} (c : C.k.is k x = true) : Conc C g ρ k.v x := by
  cases k with
  | i n => obtain ⟨t, rfl⟩ := Value.isInt_shape c; exact .int _ _
  | s y => obtain ⟨t, rfl⟩ := Value.isStrOf_shape c; exact .str _ _
/-- a dict, frozen or not -/
def IsDct (h : Hs) : V → List (Key × V) → Prop
  | .fdict a, b => a = b
  | .ref i, b => h.σ i = .dict b ∨ ∃ ep, h.σ i = .dictE ep b
  | _, _ => False
theorem IsDct.at {v : V} {kvs : List (Key × V)} {x : Value} {w : Wd} (hv : IsDct h v kvs) (R : Rep C w h) (c : Conc C w.g w.ρ v x) : ∃ a kvs', x = .ref a ∧ w.s.heap.DictOf C.k a kvs' ∧ DRel C w.g w.ρ kvs kvs' ∧ C.h₀.get? a = none ∧ ((∃ o, w.g a = some o) ∨ a ∈ w.ρ) := by
  cases v with
  | fdict b =>
    cases hv
    cases c with
    | fdict hg ho h0 hk cs => exact ⟨_, _, rfl, Heap.dictOf_iff.mpr ⟨_, R.keep _ _ hg, ho⟩, .of hk cs, h0, .inl ⟨_, hg⟩⟩
  | ref i =>
    cases c with
    | ref hi =>
      obtain ⟨o, h1, h2⟩ := R.obj i _ hi
      rcases hv with hv | ⟨ep, hv⟩
      · rw [hv] at h2
        obtain ⟨kvs', h3, h4, h5⟩ := h2
        exact ⟨_, kvs', rfl, Heap.dictOf_iff.mpr ⟨o, h1, h3⟩, .of h4 h5, R.new _ (List.mem_of_getElem? hi), .inr (List.mem_of_getElem? hi)⟩
      · rw [hv] at h2
        obtain ⟨kvs', _, h3, h4, h5⟩ := h2
        exact ⟨_, kvs', rfl, Heap.dictOf_iff.mpr ⟨o, h1, h3⟩, .of h4 h5, R.new _ (List.mem_of_getElem? hi), .inr (List.mem_of_getElem? hi)⟩
  | _ => exact hv.elim
/-- the abstract heap's dict changes -/
theorem Rep.setDict {w : Wd} {hp : Heap} {i tk : Nat} {a : Addr} {kvs : List (Key × V)} {kvs' : List (Key × Value)} (R : Rep C w h) (hi : w.ρ[i]? = some a) (hs : h.σ i ≠ .dead) (hl : hp.DictOf C.k a kvs') (hsb : ∀ b o, b ≠ a → w.s.heap.get? b = some o → hp.get? b = some o) (c : DRel C w.g w.ρ kvs kvs') : Rep C (w.at hp tk) (h.upd i (.dict kvs)) ∧ ∀ X, Ext C X w (w.at hp tk) := by
  obtain ⟨o, ho, hd⟩ := Heap.dictOf_iff.mp hl
  exact ⟨R.change hi hs hsb ho ⟨kvs', hd, c.keys, c.vals⟩, fun X => Ext.change hi hsb ho⟩
/-- a dict that can be written -/
theorem IsDct.mut {i : Nat} {kvs : List (Key × V)} {x : Value} {w : Wd} (hv : h.σ i = .dict kvs) (R : Rep C w h) (c : Conc C w.g w.ρ (.ref i) x) : ∃ a kvs', x = .ref a ∧ w.ρ[i]? = some a ∧ w.s.heap.DictOf C.k a kvs' ∧ DRel C w.g w.ρ kvs kvs' ∧ C.h₀.get? a = none := by
  obtain ⟨a, kvs', rfl, h1, h2, h3, _⟩ := IsDct.at (v := .ref i) (.inl hv) R c
  cases c with
  | ref hi => exact ⟨a, kvs', rfl, hi, h1, h2, h3⟩
/-- where sys.modules lies -/
def SysIn (C : Cx) : Prop := ∃ o, C.h₀.get? sysModules = some o
theorem SysIn.ne {a : Addr} (S : SysIn C) (h0 : C.h₀.get? a = none) : (a == sysModules) = false := by
  rw [beq_eq_false_iff_ne]; rintro rfl; obtain ⟨o, ho⟩ := S; rw [h0] at ho; cases ho
theorem ev_dict0 {p : Pos} (q : Q (.ref h.nx) (h.new (.dict []))) : Ev C n F loc h (.Dict [] [] p) Q := ⟨fun A w Q' E a0 R f c => by
  have hn : w.s.heap.get? w.s.heap.objs.size = none := fresh_none (Nat.le_refl _)
  refine wpAny_Dict_empty ?_
  refine c _ _ _ (w.more _ _ w.s.toks) q (Ext.fresh hn push_keeps) (R.fresh (o := { cls := .type "dict", data := .dict #[] }) hn push_keeps (Heap.get?_push_size _ rfl) ?_ (R.fresh0 hn)) (.ref R.more_at)
  obtain ⟨o, ho, hd⟩ := Heap.dictOf_iff.mp (Heap.DictOf.new (knd := C.k) w.s.heap)
  rw [Heap.get?_push_size _ rfl] at ho; cases ho
  exact ⟨[], hd, rfl, .nil⟩⟩
theorem dct_get {v : V} {k : Key} {u : V} {kvs : List (Key × V)} (hv : IsDct h v kvs) (hu : kget kvs k = some u) (q : Q u h) : Op2 C n getItem h v k.v Q := ⟨fun A w Q' E x y a0 R cx cy c => by
  obtain ⟨a, kvs', rfl, hd, r, h0, _⟩ := hv.at R cx
  obtain ⟨z, h1, h2⟩ := (r.get k).1 u hu
  exact wpAny_getItem_of (key_is cy) hd.mapOf h1 (c _ _ h (w.toks _) q .toks R.toks h2)⟩
theorem dct_set {i : Nat} {k : Key} {u : V} {kvs : List (Key × V)} (hv : h.σ i = .dict kvs) (hz : kvs.length ≤ sizeLine) (q : QU (h.upd i (.dict (kput kvs k u)))) : Up3 C n setItem h (.ref i) k.v u QU := ⟨fun A w Q' E x y z a0 R cx cy cz c => by
  obtain ⟨a, kvs', rfl, hi, hd, r, h0⟩ := IsDct.mut hv R cx
  refine wpAny_setItem_pairs (key_is cy) hd (fun h' hd' sb => ?_) (by rw [r.length]; exact hz)
  obtain ⟨R', e'⟩ := R.setDict (tk := w.s.toks + 1) hi (by rw [hv]; simp) hd' (fun b o hb e => (sb.2 b hb).trans e) (r.put k cz)
  exact c _ _ q (e' _) R'⟩
theorem dct_del {i : Nat} {k : Key} {kvs : List (Key × V)} (hv : h.σ i = .dict kvs) (hk : (kget kvs k).isSome = true) (hz : kvs.length ≤ sizeLine) (q : QU (h.upd i (.dict (kdel kvs k)))) : Up2 C n delItem h (.ref i) k.v QU := ⟨fun A w Q' E x y a0 R cx cy c => by
  obtain ⟨a, kvs', rfl, hi, hd, r, h0⟩ := IsDct.mut hv R cx
  obtain ⟨u, hu⟩ := Option.isSome_iff_exists.mp hk
  obtain ⟨z, h1, h2⟩ := (r.get k).1 u hu
  refine wpAny_delItem_slot hd.typeIs (by decide) F.slot_dict_delitem (call_meetsIn F.slot_dict_delitem hd.typeIs F.entry_dict_delitem (F.args_dict_delitem_2 _ _) (meets_dict_delitem_pairs C.k a (key_is cy)) ⟨kvs', hd, by rw [r.length]; exact hz, by rw [h1]; rfl, fun h' hd' sb => ?_⟩)
  obtain ⟨R', e'⟩ := R.setDict (tk := w.s.toks + 1) hi (by rw [hv]; simp) hd' (fun b o hb e => (sb.2 b hb).trans e) (r.del k)
  exact c _ _ q (e' _) R'⟩
/-- methods of built-in types -/
theorem mth_dct {v : V} {name : Str} {id : String} {kvs : List (Key × V)} (hv : IsDct h v kvs) (slot : Slot "dict" name id) (ht : typeOf (.builtin id) = pure (.type "method_descriptor")) (q : QM (.blt id) [v] h) : Mth C n h v name QM := ⟨fun A w Q' E x pl a0 R cx c => by
  obtain ⟨a, kvs', rfl, hd, r, h0, _⟩ := hv.at R cx
  exact getMethod_builtin hd.typeIs F.plainAttrs_dict slot ht (fun b e => by cases e; obtain ⟨o, es, ep, ho, hc, _⟩ := hd; exact ⟨o, ho, hc.2.1⟩) (c _ _ _ _ h w q .refl R (.blt id) (.cons cx .nil))⟩
end
end Mine
namespace Mine
section
variable {C : Cx} {n : Nat} {F : Fr} {loc : Loc} {h : Hs} {Q : V → Hs → Prop} {QB : Bool → Hs → Prop} {QF : Fl → Loc → Hs → Prop} {QL : Loc → Hs → Prop} {QU : Hs → Prop} {K : Hs → (Hs → Prop) → List V → Prop} {tg : Expr → Prop} {QM : V → List V → Hs → Prop}
/-- an object that lies apart becomes frozen -/
theorem Rep.adopt {w : Wd} {a : Addr} {o : Obj} (R : Rep C w h) (ho : w.s.heap.get? a = some o) (hg : w.g a = none) (hρ : a ∉ w.ρ) (ht : a ∉ C.tabs) : Rep C ⟨gset w.g a o, w.ρ, w.s⟩ h := by
  have hs := gset_sub (o := o) hg
  refine ⟨fun b x e => ?_, R.len, R.nd, fun i b h1 h2 => ?_, R.dead, fun i b h1 => ?_, R.new, R.os, R.bare, fun b x e h2 => hs _ _ (R.top b x e h2), fun b hb => let ⟨x, e, z⟩ := R.tab b hb; ⟨x, e, z.mono hs⟩, fun b hb => ⟨?_, (R.offtab b hb).2⟩⟩
  · have e : gset w.g a o b = some x := e
    unfold gset at e
    split at e
    · rename_i q; cases e; rw [q]; exact ho
    · exact R.keep b x e
  · show gset w.g a o b = none
    unfold gset
    rw [if_neg (fun q : b = a => hρ (q ▸ List.mem_of_getElem? h1))]; exact R.off i b h1 h2
  · obtain ⟨x, h4, h5⟩ := R.obj i b h1
    exact ⟨x, h4, h5.mono hs (List.prefix_refl _)⟩
  · show gset w.g a o b = none
    unfold gset
    rw [if_neg (fun q : b = a => ht (q ▸ hb))]; exact (R.offtab b hb).1
theorem itr_walksT {it : Addr} {wr : List Addr} {J : Nat → Heap → Prop} {ok : Hs → Prop} {src : V} {x0 : Value} {items : List V} (htg : ∀ t, tg t → ∃ elts k p, t = Expr.Tuple elts k p)
    (hlive : ∀ k hp, J k hp → ∀ b ∈ wr, ∃ o, hp.get? b = some o) (hkeep : ∀ k hp hp', J k hp → (∀ b ∈ wr, hp'.get? b = hp.get? b) → J k hp')
    (hself : ∀ (A : Around) (k : Nat) (s : Shared) (Q' : Value → Shared → Prop) (E : Value → Shared → Prop), J k s.heap → Q' (.ref it) s → wpAny C.M A (pyIter (.ref it)) Q' E s)
    (hW : ∀ (A : Around) (w : Wd) (h : Hs) (k : Nat), AOk A n → Rep C w h → Conc C w.g w.ρ src x0 → ok h → J k w.s.heap → (∀ b ∈ wr, w.g b = none ∧ b ∉ w.ρ ∧ b ∉ C.tabs) → ∃ (fp : List Addr) (m : Nat) (P : Nat → Array Value → Prop) (St : Nat → Heap → Prop) (Mid : Nat → Addr → Heap → Prop), WalksT C.prog C.w A it fp wr m P St Mid ∧ items.length = m ∧ k ≤ m ∧ St k w.s.heap ∧
      (∀ v xs, items[k]? = some v → P k xs → ∃ vs, v = .tup vs ∧ Concs C w.g w.ρ vs xs.toList) ∧ (∀ hp', St (k + 1) hp' → k < m → J (k + 1) hp')) : Itr C n (.ref it) wr J ok tg src x0 items where
  next := fun A w h k v t Q' E a0 R c0 hok hJ ha hk ht q => by
    obtain ⟨fp, m, P, St, Mid, W, hm, hkm, hst, hP, hJ'⟩ := hW A w h k a0 R c0 hok hJ ha
    have hlt : k < m := by rw [← hm]; exact (List.getElem?_eq_some_iff.mp hk).1
    obtain ⟨elts, kk, p, rfl⟩ := htg t ht
    refine W.item k w.s _ _ hlt hst fun T vals hp tk hx hT htup hmid keep => ?_
    refine W.go elts kk p k T { w.s with heap := hp, toks := tk } _ _ hmid fun hp' hst' keep' => ?_
    have hTw := W.apart _ _ _ hmid
    have hJ1 := hJ' hp' hst' hlt
    obtain ⟨vs, rfl, cs⟩ := hP v vals hk hx
    obtain ⟨o, ho, hc, m', hd⟩ := htup
    have ho' : hp'.get? T = some o := keep' T o hTw ho
    have keep2 : ∀ b o, b ∉ wr → w.s.heap.get? b = some o → hp'.get? b = some o := fun b o hb e => keep' b o hb (keep b o hb e)
    have hn : w.s.heap.get? T = none := fresh_none hT
    have off := R.off_fresh hn
    have R1 : Rep C (w.at hp' tk) h := R.apart keep2 ha
    have R2 := R1.adopt ho' off.1 off.2.1 off.2.2
    have hs := gset_sub (o := o) off.1
    refine q (.ref T) ⟨gset w.g T o, w.ρ, { w.s with heap := hp', toks := tk }⟩ ⟨hs, fun b x e => ?_, List.prefix_refl _, fun _ z => .inl z, fun b x e _ hb _ => keep2 b x hb e, fun b x e => ?_⟩ rfl R2 hJ1 (.tup gset_self hc (by rw [hd]) ((cs.mono hs (List.prefix_refl _))))
    · have e : gset w.g T o b = some x := e
      unfold gset at e
      split at e
      · rename_i z; right; left; rw [z]; exact hn
      · exact .inl e
    · by_cases hb : b ∈ wr
      · exact hlive _ _ hJ1 b hb
      · exact ⟨x, keep2 b x hb e⟩
  stop := fun A w h k Q' E a0 R c0 hok hJ ha hk q => by
    obtain ⟨fp, m, P, St, Mid, W, hm, hkm, hst, _, _⟩ := hW A w h k a0 R c0 hok hJ ha
    have : k = m := by have := List.getElem?_eq_none_iff.mp hk; omega
    subst this
    exact W.done w.s _ _ hst fun hp tk keep => q hp tk keep
  keep := hkeep
  live := hlive
  self := hself
/-- an expression and its iterator -/
structure ItE (C : Cx) (n : Nat) (F : Fr) (loc : Loc) (h : Hs) (tg : Expr → Prop) (e : Expr) (K : Hs → (Hs → Prop) → List V → Prop) : Prop where
  run : ∀ (A : Around) (w : Wd) (Q' : Value → Shared → Prop) (E : Value → Shared → Prop), AOk A n → Rep C w h → Frm C w F loc →
    (∀ (it : Value) (wr : List Addr) (J : Nat → Heap → Prop) (w1 w' : Wd) (h1 : Hs) (ok : Hs → Prop) (items : List V) (src : V) (x0 : Value), K h1 ok items → Ext C [] w w1 → Ext C [] w1 w' → Rep C w' h1 → (∀ b ∈ wr, w1.s.heap.get? b = none) → (∀ b ∈ wr, w'.g b = none ∧ b ∉ w'.ρ ∧ b ∉ C.tabs) → J 0 w'.s.heap → Conc C w'.g w'.ρ src x0 → Itr C n it wr J ok tg src x0 items → Q' it w'.s) →
    wpAny C.M A (eval e F.env) (fun x s₁ => wpAny C.M A (pyIter x) Q' E s₁) E w.s
theorem ex_forI {t it : Expr} {b : List Stmt} {p : Pos} (H : ItE C n F loc h tg it fun h2 ok items => FoW C n F ok t b QF items loc h2) (ht : tg t) (hs : ∀ x, foldedSetIterable it F.env x = pure x := by intro _; rfl) : Ex C n F loc h (.For t it b [] p) QF := ⟨fun A w Q' E a0 R f c => by
  refine wpAny_For (H.run A w _ _ a0 R f fun itv wr J w1 w2 h2 ok items src x q2 e1 e2 R2 hf ha hJ c1 T => ?_) hs
  have f2 := (f.ext0 e1).ext0 e2
  have hL : F.env.locals ∉ wr := fun z => by
    obtain ⟨o, ho⟩ := (f.ext0 e1).live
    have := hf _ z; rw [ho] at this; cases this
  exact for_code T ht items 0 A w1 w2 loc h2 _ rfl q2 a0 R2 f2 c1 hJ hf ha hL e2.wide fun fw fl l h' w' q e' R' f' c' => c fw fl l h' w' q (e1.wide.trans e') R' f' c'⟩
def enumV : Nat → List V → List V
  | _, [] => []
  | k, v :: vs => .tup [.int k, v] :: enumV (k + 1) vs
theorem enumV_length : ∀ (k : Nat) (xs : List V), (enumV k xs).length = xs.length
  | _, [] => rfl
  | k, v :: vs => by simp [enumV, enumV_length (k + 1) vs]
theorem enumV_get : ∀ (k : Nat) (xs : List V) (j : Nat) (v : V), (enumV k xs)[j]? = some v → ∃ u, xs[j]? = some u ∧ v = .tup [.int ((k + j : Nat) : Int), u]
  | _, [], j, v, e => by simp [enumV] at e
  | k, u :: us, 0, v, e => by simp [enumV] at e; exact ⟨u, rfl, e.symm⟩
  | k, u :: us, j + 1, v, e => by
    obtain ⟨z, h1, h2⟩ := enumV_get (k + 1) us j v (by simpa [enumV] using e)
    exact ⟨z, by simpa using h1, by rw [h2]; congr 3; omega⟩
/-- enumerate of a list -/
theorem ite_enum {x : Str} {p' p : Pos} {e : Expr} {mg mb : Str → Option Value} (T : Tp C mg mb) (hx : x = ("enumerate" : Str)) (hk : F.env.kindOf x = some .globalImplicit) (hm : mg x = none) (hv : mb x = some (.type "enumerate"))
    (htg : ∀ t, tg t → ∃ elts k p, t = Expr.Tuple elts k p) (H : Ev C n F loc h e fun src h1 => ∃ xs, IsLst h1 src xs ∧ K h1 (fun h' => IsLst h' src xs) (enumV 0 xs))
    (he : starEach [e] F.env = [(false, eval e F.env)] := by rfl) (hd : (x == ("__debug__" : Str)) = false := by decide) : ItE C n F loc h tg (.Call (.Name x p') [e] [] p) K := ⟨fun A w Q' E a0 R f c => by
  refine wpAny_Call_ofName ?_
  refine Calls.Name_function_global f.kind hk (Calls.loadGlobal_builtin (by rw [f.globals]; exact R.ns T.g T.gt) hm (by rw [f.blt]; exact R.ns T.b T.bt) hv ?_) hd
  refine callWith_any (evalArgs_rest ?_ rfl ?_)
  · rw [he]; exact .inr ⟨_, _, rfl⟩
  rw [he]
  show wpAny _ _ (spliced [(false, eval e F.env)]) _ _ _
  unfold spliced
  refine wpAny_bind (H.run A w _ _ a0 R f fun y src h1 w1 ⟨xs, hl, q1⟩ e1 R1 c1 => ?_)
  refine wpAny_bind (wpAny_pure (wpAny_bind (wpAny_holding (wpAny_pure (wpAny_pure (wpAny_pure ⟨⟨.machine, W.Looks.of_pure rfl⟩, ?_⟩))))))
  obtain ⟨l, vs, rfl, hpl, cs, hin⟩ := hl.at R1 c1
  refine call_enumerate_list hpl.isList fun hp hen hit hsz keep => ?_
  refine wpAny_pyIter_enum hen ?_
  have hn0 : w1.s.heap.get? w1.s.heap.objs.size = none := fresh_none (Nat.le_refl _)
  have hn1 : w1.s.heap.get? (w1.s.heap.objs.size + 1) = none := fresh_none (Nat.le_succ _)
  have o0 := R1.off_fresh hn0
  have o1 := R1.off_fresh hn1
  refine c (.ref (w1.s.heap.objs.size + 1)) [w1.s.heap.objs.size + 1, w1.s.heap.objs.size] (fun k hp => k ≤ xs.length ∧ (∃ old, IsEnum hp (w1.s.heap.objs.size + 1) w1.s.heap.objs.size k old) ∧ hp.IsListIter w1.s.heap.objs.size l k) w1 (w1.at hp w1.s.toks) h1 _ _ src (.ref l) q1 e1 (Ext.grow keep) (R1.grow keep) (by simp; exact ⟨hn1, hn0⟩) (by simp; exact ⟨o1, o0⟩) ⟨Nat.zero_le _, ⟨_, hen⟩, hit⟩ c1 ?_
  refine itr_walksT htg (fun k hp hJ b hb => ?_) (fun k hp hp' hJ hb => ?_) (fun A k s Q' E hJ q => let ⟨_, ⟨_, hen'⟩, _⟩ := hJ; wpAny_pyIter_enum hen' q) (fun A' w' h' j a1 R' c' hok hJ ha => ?_)
  · obtain ⟨_, ⟨old, hen'⟩, hit'⟩ := hJ
    rcases List.mem_cons.mp hb with rfl | hb
    · exact ⟨_, hen'⟩
    · rw [List.mem_singleton.mp hb]; obtain ⟨o, ho, _⟩ := hit'; exact ⟨o, ho⟩
  · obtain ⟨hj, ⟨old, hen'⟩, ⟨o, ho, r⟩⟩ := hJ
    exact ⟨hj, ⟨old, (hb _ (by simp)).trans hen'⟩, o, (hb _ (by simp)).trans ho, r⟩
  · obtain ⟨l', vs', e', hl', cs', hin'⟩ := IsLst.at hok R' c'
    cases e'
    have hlen : vs'.size = xs.length := by rw [← Array.length_toList, cs'.length]
    have hne : ∀ b ∈ [w1.s.heap.objs.size + 1, w1.s.heap.objs.size], l ≠ b := fun b hb => by
      rintro rfl
      rcases hin' with ⟨o, z⟩ | z
      · rw [(ha _ hb).1] at z; cases z
      · exact (ha _ hb).2.1 z
    refine ⟨_, _, _, _, _, WalksT.enumerate a1.handled (w1.s.heap.objs.size + 1) w1.s.heap.objs.size l (Nat.succ_ne_self _) (hne _ (by simp)) (hne _ (by simp)) vs', by rw [enumV_length, hlen], by rw [hlen]; exact hJ.1, ⟨hJ.2.1, hJ.2.2, hl'.isList⟩, fun v ys hv hx => ?_, fun hp' st hlt => ⟨by rw [← hlen]; exact hlt, by simpa using st.1, st.2.1⟩⟩
    obtain ⟨u, hu, rfl⟩ := enumV_get 0 xs j v hv
    obtain ⟨t, z, hz, rfl⟩ := hx
    obtain ⟨y, hy, cy⟩ := cs'.get hu
    rw [← Array.getElem?_toList, hy] at hz
    cases hz
    exact ⟨_, rfl, by simpa using Concs.cons (.int _ _) (.cons cy .nil)⟩⟩
/-- keys and items of a dict -/
theorem Rep.epoch {w : Wd} {i : Nat} {a : Addr} {kvs : List (Key × V)} (R : Rep C w h) (hi : w.ρ[i]? = some a) (hv : h.σ i = .dict kvs) : ∃ ep, Rep C w (h.upd i (.dictE ep kvs)) := by
  obtain ⟨o, h1, h2⟩ := R.obj i a hi
  rw [hv] at h2
  obtain ⟨kvs', h3, h4, h5⟩ := h2
  obtain ⟨es, ep, r⟩ := id h3
  refine ⟨ep, ?_⟩
  have := R.change (hp := w.s.heap) (k := w.s.toks) (ao := .dictE ep kvs) hi (by rw [hv]; simp) (fun b o _ e => e) h1 ⟨kvs', ⟨es, r.2.1⟩, h3, h4, h5⟩
  exact this
theorem Rep.dictE {w : Wd} {i : Nat} {a : Addr} {ep : Nat} {kvs : List (Key × V)} (R : Rep C w h) (hi : w.ρ[i]? = some a) (hv : h.σ i = .dictE ep kvs) : ∃ kvs', w.s.heap.DictAt C.k a kvs' ep ∧ DRel C w.g w.ρ kvs kvs' := by
  obtain ⟨o, h1, h2⟩ := R.obj i a hi
  rw [hv] at h2
  obtain ⟨kvs', ⟨es', he'⟩, ⟨es, ep', hx, hd, r⟩, h4, h5⟩ := h2
  rw [he'] at hd; cases hd
  exact ⟨kvs', ⟨o, es', h1, hx, he', r⟩, .of h4 h5⟩
theorem cl_keys {S : SysIn C} {v : V} {kvs : List (Key × V)} (hv : IsDct h v kvs) (q : Q (.view "dict_keys" v) h) : Cl C n h (.blt "dict.keys") [v] [] Q := ⟨fun A w Q' E fx xs ks a0 R cf cx hk ck c => by
  obtain rfl := cf.toInv
  cases cx with
  | cons cx cn =>
    cases cn
    cases ks with
    | cons _ _ => cases hk
    | nil =>
      obtain ⟨a, kvs', rfl, hd, r, h0, _⟩ := hv.at R cx
      have hn : w.s.heap.get? w.s.heap.objs.size = none := fresh_none (Nat.le_refl _)
      refine call_meetsIn PySem.F.slot_dict_keys hd.typeIs PySem.F.entry_dict_keys (PySem.F.args_dict_keys_1 _) (W.kdl_meets_keys C.k a (S.ne h0)) ⟨⟨kvs', hd⟩, ?_⟩
      exact c _ _ h (w.frz _ _ _ w.s.toks) q (Ext.frozen R hn push_keeps) (R.frozen hn push_keeps (Heap.get?_push_size _ rfl)) (.view gset_self (cx.mono (gset_sub (R.off_fresh hn).1) (List.prefix_refl _)))⟩
theorem cl_items {S : SysIn C} {v : V} {kvs : List (Key × V)} (hv : IsDct h v kvs) (q : Q (.view "dict_items" v) h) : Cl C n h (.blt "dict.items") [v] [] Q := ⟨fun A w Q' E fx xs ks a0 R cf cx hk ck c => by
  obtain rfl := cf.toInv
  cases cx with
  | cons cx cn =>
    cases cn
    cases ks with
    | cons _ _ => cases hk
    | nil =>
      obtain ⟨a, kvs', rfl, hd, r, h0, _⟩ := hv.at R cx
      have hn : w.s.heap.get? w.s.heap.objs.size = none := fresh_none (Nat.le_refl _)
      refine call_meetsIn PySem.F.slot_dict_items hd.typeIs PySem.F.entry_dict_items (PySem.F.args_dict_items_1 _) (meets_dict_items C.k a (S.ne h0)) ⟨⟨kvs', hd⟩, ?_⟩
      exact c _ _ h (w.frz _ _ _ w.s.toks) q (Ext.frozen R hn push_keeps) (R.frozen hn push_keeps (Heap.get?_push_size _ rfl)) (.view gset_self (cx.mono (gset_sub (R.off_fresh hn).1) (List.prefix_refl _)))⟩
theorem its_keys {i : Nat} {kvs : List (Key × V)} (hv : h.σ i = .dict kvs) (q : ∀ ep, K (h.upd i (.dictE ep kvs)) (fun h' => h'.σ i = .dictE ep kvs) (kvs.map (·.1.v))) : Its C n h tg (.view "dict_keys" (.ref i)) K := ⟨fun A w Q' E x0 a0 R c k => by
  cases c with
  | @view _ _ y av hg cy => cases cy with
    | @ref _ a hi =>
      obtain ⟨ep, R1⟩ := R.epoch hi hv
      obtain ⟨kvs', hd, r⟩ := R1.dictE (ep := ep) (kvs := kvs) hi (by simp [Hs.upd])
      have hn : w.s.heap.get? w.s.heap.objs.size = none := fresh_none (Nat.le_refl _)
      have off := R.off_fresh hn
      refine W.kdl_pyIter_keys ⟨_, R.keep _ _ hg, rfl, rfl⟩ hd (k (.ref w.s.heap.objs.size) [w.s.heap.objs.size] (fun j hp => j ≤ kvs.length ∧ hp.IsKeyIter w.s.heap.objs.size a j kvs.length ep) (w.at _ w.s.toks) _ _ _ (.ref i) (.ref a) (q ep) (Ext.grow push_keeps) (R1.grow push_keeps) (by simpa using hn) (by simpa using off) ⟨Nat.zero_le _, _, Heap.get?_push_size _ rfl, rfl, by rw [r.length]; rfl⟩ (.ref hi) ?_)
      refine itr_walks (fun k hp hJ => let ⟨o, e1, e2, _⟩ := hJ.2; ⟨o, _, e1, e2, rfl⟩) (fun k hp hp' hJ e => ⟨hJ.1, let ⟨o, e1, r⟩ := hJ.2; ⟨o, e.trans e1, r⟩⟩) (fun A k s Q' E hJ q => wpAny_pyIter_keyiter hJ.2 q) fun A' w' h' j a1 R' c' hok hJ hg' hρ => ?_
      cases c' with
      | ref hi' =>
          obtain ⟨kvs2, hd2, r2⟩ := R'.dictE hi' hok
          have hne : a ≠ w.s.heap.objs.size := by rintro rfl; exact hρ (List.mem_of_getElem? hi')
          refine ⟨_, _, _, _, Walks.dictKeys a1.handled _ a hne kvs2 ep, by simp [r2.length], by rw [r2.length]; exact hJ.1, ⟨by rw [r2.length]; exact hJ.2, hd2⟩, fun v x hv hx => ?_, fun hp' st hlt => ⟨by rw [← r2.length]; exact hlt, by rw [← r2.length]; exact st.1⟩⟩
          obtain ⟨k', y', h1, h2⟩ := hx
          have : v = k'.v := by
            have e1 : (kvs2.map (·.1))[j]? = some k' := by rw [List.getElem?_map, h1]; rfl
            rw [r2.keys, List.getElem?_map] at e1
            rw [List.getElem?_map] at hv
            obtain ⟨z, hz, rfl⟩ := Option.map_eq_some_iff.mp hv
            rw [hz] at e1; cases e1; rfl
          rw [this]; exact key_conc h2⟩
end
end Mine
namespace Mine
/-- setdefault keeps the order -/
theorem setDefault_pairs {prog : Program} {w : World} {knd : KeyKind prog w Key} {A : Around} {E : Value → Shared → Prop} {s : Shared} {d : Addr} {kvs : List (Key × Value)} {k : Key} {key dflt : Value} {Q : Value → Shared → Prop} (hkey : knd.is k key = true) (hm : s.heap.DictOf knd d kvs) (hsz : kvs.length ≤ sizeLine)
    (hthere : ∀ v, valueAt kvs k = some v → Q v { s with toks := s.toks + 1 })
    (hnew : valueAt kvs k = none → ∀ h', h'.DictOf knd d (kvs ++ [(k, dflt)]) → Heap.SameBut d s.heap h' → Q dflt { s with heap := h', toks := s.toks + 1 }) : wpAny (model prog w) A (dictSetDefault d key dflt) Q E s := by
  obtain ⟨o, es, ep, ho, hc, hd, hk, hp, hn⟩ := hm
  have hes : es.size ≤ sizeLine := by rw [← Array.length_toList, hp.length]; exact hsz
  have hidx : (es.findIdx? fun e => knd.is k e.key) = kvs.findIdx? fun kv => decide (kv.1 = k) := by rw [← hp.findIdx k]; cases es; simp
  unfold dictSetDefault
  refine wpAny_holding (wpAny_bind (knd.pyHash hkey (wpAny_bind (wpAny_dictFind_of (s := { s with toks := s.toks + 1 }) hkey ho hd hk ?_))))
  cases hi : es.findIdx? fun e => knd.is k e.key with
  | some i =>
    have hl : (es.toList.findIdx? fun e => knd.is k e.key) = some i := by rw [← hi]; cases es; simp
    obtain ⟨e, he, hek, hev⟩ := hp.at hl
    have he' : es[i]? = some e := by rw [← he]; cases es; simp
    refine wpAny_bind (wpAny_dictEntries (s := { s with toks := s.toks + 1 }) ho hd ?_)
    rw [he']
    exact wpAny_bind (wpAny_rule (wpAny_pure (hthere e.val hev)))
  | none =>
    have hnot : k ∉ kvs.map (·.1) := not_mem_of_findIdx_none (hidx ▸ hi)
    have hv : valueAt kvs k = none := by
      unfold valueAt
      rw [List.find?_eq_none.mpr fun kv hkv => by simpa using fun e : kv.1 = k => hnot (List.mem_map.mpr ⟨kv, hkv, e⟩)]; rfl
    refine wpAny_bind (wpAny_rule (wpAny_bind (wpAny_updateDictKeys (hz := hes) (s := { s with toks := s.toks + 1 }) ho hd (wpAny_pure (hnew hv _ ⟨_, _, ep + 1, Heap.get?_update_self _ ho (Obj.isFreed_of_dict (Obj.data_mapDictKeys hd _)),
      hc.mapDictKeys _, Obj.data_mapDictKeys hd _, hk.push hkey _, ?_, ?_⟩ (Heap.SameBut.update ..))))))
    · have := hp.append hkey (knd.hash k) dflt
      cases es; simpa using this
    · rw [List.map_append, List.nodup_append]
      exact ⟨hn, by simp, fun a ha b hb => by simp at hb; subst hb; exact fun e => hnot (e ▸ ha)⟩
theorem meets_setdefault {prog : Program} {w : World} (knd : KeyKind prog w Key) {k : Key} {key : Value} (d : Addr) (hkey : knd.is k key = true) (hd : (d == sysModules) = false) (dflt : Value) :
    MeetsIn prog w (Builtin.«dict.setdefault» ⟨[.ref d, key, dflt], []⟩) (fun _ R s => ∃ kvs, s.heap.DictOf knd d kvs ∧ kvs.length ≤ sizeLine ∧
      (∀ v, valueAt kvs k = some v → R (.ok (.ret v)) { s with toks := s.toks + 1 }) ∧
      (valueAt kvs k = none → ∀ h', h'.DictOf knd d (kvs ++ [(k, dflt)]) → Heap.SameBut d s.heap h' → R (.ok (.ret dflt)) { s with heap := h', toks := s.toks + 1 })) :=
  .of_wp fun A R s ⟨kvs, hm, hz, h1, h2⟩ => by
    unfold Builtin.«dict.setdefault»
    refine wpAny_bind ?_
    unfold Builtin.Dict.keyAndDefault
    refine wpAny_bind (wpAny_notOrdered_dict hm.typeIs ?_)
    show wpAny _ _ (pure (d, key, some dflt)) _ _ s
    refine wpAny_pure ?_
    show wpAny _ _ (if (d == sysModules) = true then _ else (dictSetDefault d key dflt >>= _)) _ _ s
    rw [if_neg (by rw [hd]; exact Bool.false_ne_true)]
    exact wpAny_bind (setDefault_pairs hkey hm hz (fun v hv => wpAny_pure ⟨v, rfl, h1 v hv⟩) fun hn h' hm' hs' => wpAny_pure ⟨dflt, rfl, h2 hn h' hm' hs'⟩)
theorem DRel.at {C : Cx} {g : G} {ρ : List Addr} {a : List (Key × V)} {b : List (Key × Value)} (r : DRel C g ρ a b) : ∀ {j : Nat} {k : Key} {u : V}, a[j]? = some (k, u) → ∃ y, b[j]? = some (k, y) ∧ Conc C g ρ u y := by
  induction r with
  | nil => intro j k u hz; simp at hz
  | cons cc _ ih =>
    intro j k u hz
    cases j with
    | zero => simp at hz; obtain ⟨rfl, rfl⟩ := hz; exact ⟨_, rfl, cc⟩
    | succ j => exact ih (by simpa using hz)
section
variable {C : Cx} {n : Nat} {F : Fr} {loc : Loc} {h : Hs} {Q : V → Hs → Prop} {QB : Bool → Hs → Prop} {QF : Fl → Loc → Hs → Prop} {QL : Loc → Hs → Prop} {QU : Hs → Prop} {K : Hs → (Hs → Prop) → List V → Prop} {tg : Expr → Prop} {QM : V → List V → Hs → Prop}
theorem cl_setdefault {S : SysIn C} {i : Nat} {d : V} {k : Key} {kvs : List (Key × V)} (hv : h.σ i = .dict kvs) (hz : kvs.length ≤ sizeLine) (q1 : ∀ u, kget kvs k = some u → Q u h) (q2 : kget kvs k = none → Q d (h.upd i (.dict (kvs ++ [(k, d)])))) : Cl C n h (.blt "dict.setdefault") [.ref i, k.v, d] [] Q := ⟨fun A w Q' E fx xs ks a0 R cf cx hk ck c => by
  obtain rfl := cf.toInv
  cases cx with
  | cons cx cx' => cases cx' with
    | cons cy cx'' => cases cx'' with
      | cons cd cn =>
        cases cn
        cases ks with
        | cons _ _ => cases hk
        | nil =>
          obtain ⟨a, kvs', rfl, hi, hd, r, h0⟩ := IsDct.mut hv R cx
          refine call_meetsIn PySem.F.slot_dict_setdefault hd.typeIs PySem.F.entry_dict_setdefault (PySem.F.args_dict_setdefault_3 _ _ _) (meets_setdefault C.k a (key_is cy) (S.ne h0) _) ⟨kvs', hd, by rw [r.length]; exact hz, fun y hy => ?_, fun hy h' hd' sb => ?_⟩
          · cases z : kget kvs k with
            | none => rw [(r.get k).2 z] at hy; cases hy
            | some u => obtain ⟨y', h1, h2⟩ := (r.get k).1 u z; rw [h1] at hy; cases hy; exact c _ _ h (w.toks _) (q1 u z) .toks R.toks h2
          · cases z : kget kvs k with
            | some u => obtain ⟨y', h1, h2⟩ := (r.get k).1 u z; rw [h1] at hy; cases hy
            | none =>
              obtain ⟨R', e'⟩ := R.setDict (tk := w.s.toks + 1) hi (by rw [hv]; simp) hd' (fun b o hb e => (sb.2 b hb).trans e) (r.app (.cons cd .nil))
              exact c _ _ _ _ (q2 z) (e' _) R' cd⟩
theorem pyIter_itemiter {prog : Program} {w : World} {A : Around} {E : Value → Shared → Prop} {s : Shared} {it d : Addr} {i n ep : Nat} {ok ov : Value} {Q : Value → Shared → Prop} (hit : IsItemIter s.heap it d i n ep ok ov) (hq : Q (.ref it) s) : wpAny (model prog w) A (pyIter (.ref it)) Q E s := by
  have hT : s.TypeIs (.ref it) "dict_itemiterator" := ⟨_, hit, rfl⟩
  have entry : entryFor table "dict_itemiterator.__iter__" = some Builtin.«dict_keyiterator.__iter__» := entryFor_alias (id' := "dict_keyiterator.__iter__") (by kernel_rfl) (by first | rfl | decide +kernel) (by decide +kernel) (by kernel_rfl)
  refine wpAny_pyIter_slot hT PySem.F.slot_dict_itemiterator_iter (wpAny_call_entry PySem.F.slot_dict_itemiterator_iter hT entry ?_ (PySem.F.args_dict_itemiterator_iter_1 _))
  show wpAny _ _ (ret (.ref it)) _ _ s
  exact wpAny_pure ⟨_, rfl, "dict_itemiterator", _, hT, PySem.F.slot_dict_itemiterator_next.lookup, hq⟩
theorem its_items {i : Nat} {kvs : List (Key × V)} (htg : ∀ t, tg t → ∃ elts k p, t = Expr.Tuple elts k p) (hv : h.σ i = .dict kvs) (q : ∀ ep, K (h.upd i (.dictE ep kvs)) (fun h' => h'.σ i = .dictE ep kvs) (kvs.map fun kv => .tup [kv.1.v, kv.2])) : Its C n h tg (.view "dict_items" (.ref i)) K := ⟨fun A w Q' E x0 a0 R c k => by
  cases c with
  | @view _ _ y av hg cy => cases cy with
    | @ref _ a hi =>
      obtain ⟨ep, R1⟩ := R.epoch hi hv
      obtain ⟨kvs', hd, r⟩ := R1.dictE (ep := ep) (kvs := kvs) hi (by simp [Hs.upd])
      have hn : w.s.heap.get? w.s.heap.objs.size = none := fresh_none (Nat.le_refl _)
      have off := R.off_fresh hn
      refine wpAny_pyIter_items ⟨_, R.keep _ _ hg, rfl, rfl⟩ hd (k (.ref w.s.heap.objs.size) [w.s.heap.objs.size] (fun j hp => j ≤ kvs.length ∧ ∃ o1 o2, IsItemIter hp w.s.heap.objs.size a j kvs.length ep o1 o2) (w.at _ w.s.toks) _ _ _ (.ref i) (.ref a) (q ep) (Ext.grow push_keeps) (R1.grow push_keeps) (by simpa using hn) (by simpa using off) ⟨Nat.zero_le _, .none, .none, ?_⟩ (.ref hi) ?_)
      · have e : (w.s.heap.push { cls := .type "dict_itemiterator", data := .fields #[.none, .bool false, .ref a, .int 0 0, .int kvs'.length 0, .int ep 0, .none, .none] }).get? w.s.heap.objs.size = _ := Heap.get?_push_size _ rfl
        rw [r.length] at e; rw [r.length]; exact e
      · refine ⟨fun A' w' h' j v t Q' E a1 R' c' hok hJ ha hkj ht q => ?_, fun A' w' h' j Q' E a1 R' c' hok hJ ha hkj q => ?_, fun j hp hp' hJ e => ?_, fun j hp hJ b hb => ?_, fun A j s Q' E hJ q => ?_⟩
        · cases c' with
          | ref hi' =>
            obtain ⟨kvs2, hd2, r2⟩ := R'.dictE hi' hok
            obtain ⟨hj, o1, o2, hit⟩ := hJ
            obtain ⟨elts, kn, p, rfl⟩ := htg t ht
            rw [List.getElem?_map] at hkj
            obtain ⟨⟨k0, u0⟩, hz, rfl⟩ := Option.map_eq_some_iff.mp hkj
            have hlt := (List.getElem?_eq_some_iff.mp hz).1
            have hget := r2.at hz
            obtain ⟨y0, hy, cy0⟩ := hget
            rw [← r2.length] at hit
            refine wpAny_pyNext_items_item hit hd2 hy fun key hp hkey hout htup hsz keep => ?_
            refine wpAny_letOwnedTupleGo_items (s := { w'.s with heap := hp }) hout fun hp' hit' sb => ?_
            have hT : w'.s.heap.get? w'.s.heap.objs.size = none := fresh_none (Nat.le_refl _)
            have offT := R'.off_fresh hT
            have hIT : w'.s.heap.objs.size ≠ w.s.heap.objs.size := fun e => by rw [e] at hT; have := hit; rw [IsItemIter, hT] at this; cases this
            have ho' : hp'.get? w'.s.heap.objs.size = some { cls := .type "tuple", data := .seq #[key, y0] } := (sb.2 _ hIT).trans htup
            have keep2 : ∀ b o, b ∉ [w.s.heap.objs.size] → w'.s.heap.get? b = some o → hp'.get? b = some o := fun b o hb e => (sb.2 b (by simpa using hb)).trans (keep b o (by simpa using hb) e)
            have R1' : Rep C (w'.at hp' w'.s.toks) h' := R'.apart keep2 ha
            have R2' := R1'.adopt ho' offT.1 offT.2.1 offT.2.2
            have hs := gset_sub (o := { cls := .type "tuple", data := .seq #[key, y0] }) offT.1
            refine q (.ref w'.s.heap.objs.size) ⟨gset w'.g w'.s.heap.objs.size _, w'.ρ, { w'.s with heap := hp' }⟩ ⟨hs, fun b x e => ?_, List.prefix_refl _, fun _ z => .inl z, fun b x e _ hb _ => keep2 b x hb e, fun b x e => ?_⟩ rfl R2' ⟨by omega, _, _, by rw [← r2.length]; exact hit'⟩
              (.tup (vs := [key, y0]) gset_self rfl rfl (.cons ((key_conc hkey).mono hs (List.prefix_refl _)) (.cons (cy0.mono hs (List.prefix_refl _)) .nil)))
            · have e : gset w'.g w'.s.heap.objs.size _ b = some x := e
              unfold gset at e
              split at e
              · rename_i z; right; left; rw [z]; exact hT
              · exact .inl e
            · by_cases hb : b = w.s.heap.objs.size
              · exact ⟨_, hb ▸ hit'⟩
              · exact ⟨x, keep2 b x (by simpa using hb) e⟩
        · cases c' with
          | ref hi' =>
            obtain ⟨kvs2, hd2, r2⟩ := R'.dictE hi' hok
            obtain ⟨hj, o1, o2, hit⟩ := hJ
            rw [← r2.length] at hit
            have : kvs2[j]? = none := by
              rw [List.getElem?_eq_none_iff] at hkj ⊢
              rw [r2.length]; simpa using hkj
            exact wpAny_pyNext_items_end a1.handled hit hd2 this fun hp eb => q hp w'.s.toks fun b o hb e => eb b o (by simpa using hb) e
        · obtain ⟨hj, o1, o2, hit⟩ := hJ
          exact ⟨hj, o1, o2, (e _ (by simp)).trans hit⟩
        · obtain ⟨hj, o1, o2, hit⟩ := hJ
          exact ⟨_, by rw [List.mem_singleton.mp hb]; exact hit⟩
        · obtain ⟨hj, o1, o2, hit⟩ := hJ
          exact pyIter_itemiter hit q⟩
end
end Mine
namespace Mine
/-- the places of a set's table rise -/
def Rises (xs : Array Nat) : Prop := xs.toList.Pairwise (· < ·)
theorem Rises.lt {xs : Array Nat} (r : Rises xs) {i j : Nat} (hj : j < xs.size) (hij : i < j) : xs[i]'(Nat.lt_trans hij hj) < xs[j] := by
  have := List.pairwise_iff_getElem.mp r i j (by simpa using Nat.lt_trans hij hj) (by simpa using hj) hij
  simpa using this
theorem below_go {xs : Array Nat} (r : Rises xs) (j : Nat) : ∀ (fuel lo hi : Nat), hi - lo ≤ fuel → lo ≤ hi → hi ≤ xs.size → (∀ i (h : i < xs.size), i < lo → xs[i] < j) → (∀ i (h : i < xs.size), hi ≤ i → j ≤ xs[i]) →
    SetTable.below.go xs j fuel lo hi ≤ xs.size ∧ (∀ i (h : i < xs.size), i < SetTable.below.go xs j fuel lo hi → xs[i] < j) ∧ (∀ i (h : i < xs.size), SetTable.below.go xs j fuel lo hi ≤ i → j ≤ xs[i])
  | 0, lo, hi, hf, hlh, hs, h1, h2 => by
    have : lo = hi := by omega
    subst this
    unfold SetTable.below.go
    exact ⟨hs, h1, h2⟩
  | fuel + 1, lo, hi, hf, hlh, hs, h1, h2 => by
    unfold SetTable.below.go
    by_cases hlt : lo < hi
    · rw [if_pos hlt]
      have hm : (lo + hi) / 2 < xs.size := by omega
      have e : xs.getD ((lo + hi) / 2) j = xs[(lo + hi) / 2] := by simp [Array.getD, hm]
      dsimp only
      rw [e]
      by_cases hc : xs[(lo + hi) / 2] < j
      · rw [if_pos hc]
        refine below_go r j fuel _ hi (by omega) (by omega) hs (fun i h hi' => ?_) h2
        rcases Nat.lt_or_eq_of_le (Nat.le_of_lt_succ hi') with z | z
        · exact Nat.lt_trans (r.lt hm z) hc
        · subst z; exact hc
      · rw [if_neg hc]
        refine below_go r j fuel lo _ (by omega) (by omega) (by omega) h1 (fun i h hi' => ?_)
        rcases Nat.lt_or_eq_of_le hi' with z | z
        · exact Nat.le_trans (Nat.le_of_not_lt hc) (Nat.le_of_lt (r.lt h z))
        · subst z; exact Nat.le_of_not_lt hc
    · rw [if_neg hlt]
      have : lo = hi := by omega
      subst this
      exact ⟨hs, h1, h2⟩
theorem below_spec {xs : Array Nat} (r : Rises xs) (j : Nat) : SetTable.below xs j ≤ xs.size ∧ (∀ i (h : i < xs.size), i < SetTable.below xs j → xs[i] < j) ∧ (∀ i (h : i < xs.size), SetTable.below xs j ≤ i → j ≤ xs[i]) :=
  below_go r j _ 0 _ (by omega) (Nat.zero_le _) (Nat.le_refl _) (fun _ _ h => absurd h (Nat.not_lt_zero _)) (fun i h h' => absurd h (Nat.not_lt.mpr h'))
theorem not_at {xs : Array Nat} (r : Rises xs) {j : Nat} (hn : xs[SetTable.below xs j]? ≠ some j) : ∀ i (h : i < xs.size), xs[i] ≠ j := fun i h e => by
  obtain ⟨h1, h2, h3⟩ := below_spec r j
  by_cases hi : i < SetTable.below xs j
  · exact absurd e (Nat.ne_of_lt (h2 i h hi))
  · have hle := Nat.le_of_not_lt hi
    have hb : SetTable.below xs j < xs.size := Nat.lt_of_le_of_lt hle h
    rcases Nat.lt_or_eq_of_le hle with z | z
    · have := r.lt h z
      have := h3 _ hb (Nat.le_refl _)
      omega
    · refine hn ?_
      rw [Array.getElem?_eq_getElem hb]
      subst z; rw [e]
theorem insert_rises {xs : Array Nat} (r : Rises xs) {j : Nat} (hn : ∀ i (h : i < xs.size), xs[i] ≠ j) : Rises (SetTable.insertAt xs (SetTable.below xs j) j) := by
  obtain ⟨h1, h2, h3⟩ := below_spec r j
  unfold Rises
  rw [SetTable.toList_insertAt]
  have hr : xs.toList.Pairwise (· < ·) := r
  have hsplit : xs.toList = xs.toList.take (SetTable.below xs j) ++ xs.toList.drop (SetTable.below xs j) := (List.take_append_drop _ _).symm
  have hp := hr
  rw [hsplit, List.pairwise_append] at hp
  have A : ∀ a ∈ xs.toList.take (SetTable.below xs j), a < j := fun a ha => by
    obtain ⟨i, hi, rfl⟩ := List.getElem_of_mem ha
    simp only [List.length_take, Array.length_toList] at hi
    simp only [List.getElem_take, Array.getElem_toList]
    exact h2 i (by omega) (by omega)
  have B : ∀ b ∈ xs.toList.drop (SetTable.below xs j), j < b := fun b hb => by
    obtain ⟨i, hi, rfl⟩ := List.getElem_of_mem hb
    simp only [List.length_drop, Array.length_toList] at hi
    simp only [List.getElem_drop, Array.getElem_toList]
    exact Nat.lt_of_le_of_ne (h3 _ (by omega) (by omega)) (Ne.symm (hn _ _))
  simp only [List.pairwise_append, List.pairwise_cons]
  refine ⟨hp.1, ⟨B, hp.2.1⟩, fun a ha b hb => ?_⟩
  rcases List.mem_cons.mp hb with rfl | hb
  · exact A a ha
  · exact hp.2.2 a ha b hb
theorem probe_free {t : SetTable} (r : Rises t.place) (hashAt : Nat → Int) (h : Int) : ∀ (fuel : Nat) (p : SetTable.Probe) (j : Nat) (dm : Option Nat), (∀ d, p.dummy = some d → t.place[SetTable.below t.place d]? ≠ some d) → SetTable.probe.go t hashAt h fuel p = some (.empty j dm) →
    t.place[SetTable.below t.place j]? ≠ some j ∧ ∀ d, dm = some d → t.place[SetTable.below t.place d]? ≠ some d
  | 0, p, j, dm, _, e => by cases e
  | fuel + 1, p, j, dm, hd, e => by
    unfold SetTable.probe.go at e
    have hs : ∀ k, (t.slot k = .empty ∨ t.slot k = .dummy) → t.place[SetTable.below t.place k]? ≠ some k := fun k hk z => by
      unfold SetTable.slot at hk
      dsimp only at hk
      rw [if_pos (by simpa using z)] at hk
      rcases hk with hk | hk <;> cases hk
    split at e
    · rename_i hsl
      cases e
      exact ⟨hs _ (.inl hsl), hd⟩
    · rename_i hsl
      refine probe_free r hashAt h fuel _ j dm (fun d hd' => ?_) e
      have : (t.advance { p with dummy := some p.j }).dummy = some p.j := by unfold SetTable.advance; split <;> rfl
      rw [this] at hd'; cases hd'
      exact hs _ (.inr hsl)
    · split at e
      · cases e
      · refine probe_free r hashAt h fuel _ j dm (fun d hd' => hd d ?_) e
        have : (t.advance p).dummy = p.dummy := by unfold SetTable.advance; split <;> rfl
        rw [this] at hd'; exact hd'
theorem freeSlot_free {t : SetTable} (r : Rises t.place) {h : Int} {slot : Nat} {b : Bool} (e : t.freeSlot h = some (slot, b)) : ∀ i (hi : i < t.place.size), t.place[i] ≠ slot := by
  unfold SetTable.freeSlot at e
  split at e
  · rename_i j dm hp
    cases e
    obtain ⟨h1, h2⟩ := probe_free r _ _ _ _ j dm (fun d hd => by cases hd) hp
    cases dm with
    | none => exact not_at r h1
    | some d => exact not_at r (h2 d rfl)
  · cases e
theorem standIn_rises (t : SetTable) (n : Nat) : Rises (t.standIn n).place := by
  unfold Rises
  show (Array.range n).toList.Pairwise (· < ·)
  rw [Array.toList_range]
  exact List.pairwise_lt_range
theorem layNew_rises {t : SetTable} (r : Rises t.place) (es : Array (Int × Value)) (h : Int) (x : Value) : Rises (layNew t es h x).2.1.place ∧ (layNew t es h x).2.1.led = t.led := by
  unfold layNew
  split
  · rename_i slot b e
    have hi := insert_rises r (freeSlot_free r e)
    have aux : ∀ (t' : SetTable) (m : Nat), Rises t'.place → t'.led = t.led → Rises (t'.orStandIn m).place ∧ (t'.orStandIn m).led = t.led := fun t' m h1 h2 => by
      unfold SetTable.orStandIn
      by_cases hc : t'.fits m = true
      · rw [if_pos hc]; exact ⟨h1, h2⟩
      · rw [if_neg hc]; exact ⟨standIn_rises _ _, h2⟩
    exact aux (t.put slot).1 _ hi rfl
  · exact ⟨standIn_rises _ _, rfl⟩
theorem filterMap_rises {β : Type} (f : Nat → Option β) : ∀ (l : List Nat), l.Pairwise (· < ·) → ((l.filterMap fun j => (f j).map (j, ·)).map (·.1)).Pairwise (· < ·) := by
  intro l hl
  have : (l.filterMap fun j => (f j).map (j, ·)).map (·.1) = l.filter fun j => (f j).isSome := by
    clear hl
    induction l with
    | nil => rfl
    | cons a l ih =>
      simp only [List.filterMap_cons, List.filter_cons]
      cases f a <;> simp [ih]
  rw [this]
  exact hl.filter _
theorem relayAll_rises {t : SetTable} (r : Rises t.place) (es : Array (Int × Value)) (wanted : Nat) : Rises (relayAll t es wanted).2.1.place ∧ (relayAll t es wanted).2.1.led = t.led := by
  unfold relayAll
  split
  · rename_i t' order e
    dsimp only
    split
    · unfold SetTable.relaid SetTable.laid at e
      obtain ⟨owner, h1, h2⟩ := Option.bind_eq_some_iff.mp e
      cases h2
      refine ⟨?_, rfl⟩
      show (_ : List Nat).toArray.toList.Pairwise _
      exact filterMap_rises _ _ List.pairwise_lt_range
    · exact ⟨standIn_rises _ _, rfl⟩
  · exact ⟨standIn_rises _ _, rfl⟩
/-- a set in the heap -/
def SetAt (C : Cx) (hp : Heap) (a : Addr) (ks : List Key) : Prop := ∃ o, hp.get? a = some o ∧ SetObj C o ks
section
variable {C : Cx} {A : Around} {E : Value → Shared → Prop} {s : Shared} {a : Addr} {ks : List Key}
theorem SetAt.setOf (x : SetAt C s.heap a ks) : s.heap.SetOf C.k a (fun k => decide (k ∈ ks)) ks.length := by
  obtain ⟨o, ho, es, ep, t, h1, h2, h3, h4, h5, h6, h7, h8, _⟩ := x
  exact ⟨o, es, ep, t, ho, h1, h2, h3, fun k => by rw [decide_eq_true_eq]; exact h4 k, h7, h8, h6⟩
theorem SetAt.typeIs (x : SetAt C s.heap a ks) : s.TypeIs (.ref a) "set" := x.setOf.typeIs
theorem set_store {o : Obj} {es es' : Array (Int × Value)} {ep : Nat} {t t' : SetTable} {ks' : List Key} (ho : s.heap.get? a = some o) (hx : o.ExactSet) (hd : o.data = .set es ep t) (hel : ElemsOf C.k es'.toList) (hm : ∀ k, k ∈ ks' ↔ ∃ e ∈ es'.toList, C.k.is k e.2 = true) (hn : ks'.Nodup) (hl : es'.size = ks'.length) (hb : es'.size < scanBound) (hf : t'.fits es'.size = true)
    (hled : t'.led = (!C.w.params.followText "set-order")) (hr : Rises t'.place) {Q : Unit → Shared → Prop}
    (q : ∀ h', Heap.SameBut a s.heap h' → (∃ o', h'.get? a = some o' ∧ o'.ExactSet ∧ o'.data = .set es' (ep + 1) t') → SetAt C h' a ks' → Q () { s with heap := h' }) : wpAny C.M A (storeSet a es' t') Q E s := by
  refine wpAny_storeSet_of ho hd ?_ (fits_of_scanBound hb)
  have hg : (s.heap.update a (Obj.putSet es' t')).get? a = some { o with data := .set es' (ep + 1) t' } := by
    have := Heap.get?_update_self (Obj.putSet es' t') ho (by rw [putSet_of es' t' hd]; rfl)
    rw [putSet_of es' t' hd] at this; exact this
  exact q _ (Heap.SameBut.update ..) ⟨_, hg, hx, rfl⟩ ⟨_, hg, es', ep + 1, t', hx, rfl, hel, hm, hn, hl, hb, hf, hled, hr⟩
def sadd (ks : List Key) (k : Key) : List Key := if k ∈ ks then ks else ks ++ [k]
theorem setAdd_strong {k : Key} {x : Value} {Q : Bool → Shared → Prop} (hkey : C.k.is k x = true) (hsc : x.scannable = true) (hS : SetAt C s.heap a ks) (hroom : ks.length + 1 < scanBound)
    (q : ∀ b h', Heap.SameBut a s.heap h' → SetAt C h' a (sadd ks k) → Q b { s with heap := h' }) : wpAny C.M A (setAddHashed a x (C.k.hash k)) Q E s := by
  obtain ⟨o, ho, es, ep, t, hex, hd, hel, hmem, hnd, hlen, hb, hf, hled, hr⟩ := id hS
  unfold setAddHashed setAddHashedIn
  refine wpAny_holding (wpAny_bind (wpAny_setState_of ho hd hf ?_))
  dsimp only
  rw [byScan_of hsc hb hel]
  simp only [↓reduceIte]
  unfold setAddByScan
  refine wpAny_bind (wpAny_bind (wpAny_rule (wpAny_bind (wpAny_setScan_of hkey ho hd hf hel ?_))))
  cases hr' : List.findIdx? (fun e => C.k.is k e.2) es.toList with
  | some j =>
    obtain ⟨hj, hpj, _⟩ := List.findIdx?_eq_some_iff_getElem.mp hr'
    have hin : k ∈ ks := (hmem k).mpr ⟨es.toList[j], List.getElem_mem hj, hpj⟩
    refine wpAny_pure (wpAny_pure ?_)
    have := q false s.heap (Heap.SameBut.refl a s.heap) (by unfold sadd; rw [if_pos hin]; exact hS)
    exact this
  | none =>
    dsimp only
    have hnin : k ∉ ks := fun hk => by
      obtain ⟨e, he, hp⟩ := (hmem k).mp hk
      have := List.findIdx?_eq_none_iff.mp hr' e he; rw [hp] at this; cases this
    have hperm := layNew_perm t es (C.k.hash k) x
    have hfits := layNew_fits t es (C.k.hash k) x
    obtain ⟨hris, hle⟩ := layNew_rises hr es (C.k.hash k) x
    generalize hL : layNew t es (C.k.hash k) x = L at hperm hfits hris hle ⊢
    obtain ⟨es1, t1, wasDummy, gave⟩ := L
    dsimp only at hperm hfits hris hle ⊢
    rw [Array.toList_push] at hperm
    have hel1 : ElemsOf C.k es1.toList := (hel.push hkey hsc).perm hperm
    have hmem1 : ∀ k', k' ∈ ks ++ [k] ↔ ∃ e ∈ es1.toList, C.k.is k' e.2 = true := fun k' => by
      have := mem_push_iff (S := fun k => decide (k ∈ ks)) hkey (fun k => by rw [decide_eq_true_eq]; exact hmem k) hperm k'
      simpa using this
    have hsz1 : es1.size = (ks ++ [k]).length := by rw [← Array.length_toList, hperm.length_eq]; simp [hlen]
    have hb1 : es1.size < scanBound := by rw [hsz1]; simpa using hroom
    have hnd1 : (ks ++ [k]).Nodup := List.nodup_append.mpr ⟨hnd, by simp, fun a ha b hb => by simp at hb; subst hb; exact fun e => hnin (e ▸ ha)⟩
    have hsadd : sadd ks k = ks ++ [k] := by unfold sadd; rw [if_neg hnin]
    have hgw : ∀ (b : Bool) {s₁ : Shared} {Q' : Unit → Shared → Prop}, Q' () s₁ → wpAny C.M A (match b with | true => rule "set.scan.the-table-gave-way" | false => pure ()) Q' E s₁ :=
      fun b s₁ Q' hq => by cases b <;> first | exact wpAny_pure hq | exact wpAny_rule hq
    have tail : ∀ (g : Bool → Sem Unit) (hg : ∀ (b : Bool) (s₁ : Shared) (Q' : Unit → Shared → Prop), Q' () s₁ → wpAny C.M A (g b) Q' E s₁) (t2 : SetTable) (Rr : Option Bool → Shared → Prop), t2.fits es1.size = true → t2.led = t1.led → Rises t2.place →
        (∀ h', Heap.SameBut a s.heap h' → SetAt C h' a (sadd ks k) → Rr (some true) { s with heap := h' }) → wpAny C.M A (do
        storeSet a es1 t2
        if (!wasDummy && t2.tooFull) = true then do
            g (relayAll t2 es1 (SetTable.grown es1.size)).2.2
            storeSet a (relayAll t2 es1 (SetTable.grown es1.size)).1 (relayAll t2 es1 (SetTable.grown es1.size)).2.1
            pure (some true)
          else pure (some true)) Rr E s := by
      intro g hg t2 Rr f2 l2 r2 q2
      have hl2 : t2.led = (!C.w.params.followText "set-order") := l2.trans (hle.trans hled)
      refine wpAny_bind (set_store (ks' := ks ++ [k]) ho hex hd hel1 hmem1 hnd1 hsz1 hb1 f2 hl2 r2 fun h1 sb1 ⟨o1, ho1, hx1, hd1⟩ hS1 => ?_)
      split
      · have hp := relayAll_perm t2 es1 (SetTable.grown es1.size)
        have hfr := relayAll_fits t2 es1 (SetTable.grown es1.size)
        obtain ⟨hrr, hrl⟩ := relayAll_rises r2 es1 (SetTable.grown es1.size)
        generalize relayAll t2 es1 (SetTable.grown es1.size) = Rl at hp hfr hrr hrl ⊢
        obtain ⟨es2, t3, gave2⟩ := Rl
        dsimp only at hp hfr hrr hrl ⊢
        have hsz2 : es2.size = (ks ++ [k]).length := by rw [← Array.length_toList, hp.length_eq, Array.length_toList, hsz1]
        refine wpAny_bind (hg _ _ _ ?_)
        refine wpAny_bind (set_store (s := { s with heap := h1 }) (ks' := ks ++ [k]) ho1 hx1 hd1 (hel1.perm hp) (fun k' => (hmem1 k').trans ⟨fun ⟨e, he, z⟩ => ⟨e, hp.mem_iff.mpr he, z⟩, fun ⟨e, he, z⟩ => ⟨e, hp.mem_iff.mp he, z⟩⟩) hnd1 hsz2 (by rw [hsz2, ← hsz1]; exact hb1) hfr (hrl.trans hl2) hrr fun h2 sb2 _ hS2 => ?_)
        exact wpAny_pure (q2 h2 (sb1.trans sb2) (hsadd ▸ hS2))
      · exact wpAny_pure (q2 h1 sb1 (hsadd ▸ hS1))
    refine wpAny_bind (hgw _ ?_)
    split
    · refine wpAny_bind ?_
      rw [hashByValue_scannable 8 hsc]
      refine wpAny_pure ?_
      refine tail _ ?_ _ _ ?_ ?_ ?_ fun h' sb hS' => wpAny_pure (q true h' sb hS')
      · intro b s₁ Q' hq; cases b <;> first | exact wpAny_pure hq | exact wpAny_rule hq
      · split
        · exact hfits
        · exact SetTable.fits_plain_off hfits
      · split <;> rfl
      · split
        · exact hris
        · exact hris
    · refine wpAny_bind (wpAny_pure ?_)
      simp only [↓reduceIte]
      refine tail _ ?_ t1 _ hfits rfl hris fun h' sb hS' => wpAny_pure (q true h' sb hS')
      intro b s₁ Q' hq; cases b <;> first | exact wpAny_pure hq | exact wpAny_rule hq
end
end Mine
namespace Mine
section
variable {C : Cx} {A : Around} {E : Value → Shared → Prop} {s : Shared}
abbrev freshSet (C : Cx) : Obj := { cls := .type "set", dict := none, data := .set #[] 0 (.fresh 0 0 (!C.w.params.followText "set-order")) }
theorem freshSet_obj : SetObj C (freshSet C) [] := ⟨#[], 0, _, ⟨rfl, rfl, rfl⟩, rfl, fun e he => by simp at he, fun k => by simp, List.nodup_nil, rfl, by decide, rfl, rfl, by simp [SetTable.fresh]⟩
theorem set_new_code {rest : List Value} (hr : rest = [] ∨ ∃ a, rest = [a]) {Q₁ : Value → Shared → Prop} (q : Q₁ (.ref s.heap.objs.size) { s with heap := s.heap.push (freshSet C) }) :
    codeAny C.M A (.call (.builtin "set.__new__") ⟨.type "set" :: rest, []⟩) (wants Q₁ E) s := by
  have hck : checkBuiltinCall "set.__new__" ⟨.type "set" :: rest, []⟩ = pure () := by
    rcases hr with rfl | ⟨a, rfl⟩
    · exact PySem.F.newCall_set_0
    · exact PySem.F.newCall_set_1 a
  refine codeAny_of_tree ?_
  show wpAny _ A.in1 (do checkBuiltinCall "set.__new__" ⟨.type "set" :: rest, []⟩; again (.builtin "set.__new__" ⟨.type "set" :: rest, []⟩)) _ _ s
  refine wpAny_bind (wpAny_of_eq hck (wpAny_pure ⟨plainId_quiet PySem.F.plain_set_new _, codeAny_builtin PySem.F.entry_set_new ?_⟩))
  rw [Around.under_plainId PySem.F.plain_set_new _]
  unfold Builtin.«set.__new__» Builtin.Frozenset.newClass
  have hsub := sub_set_self
  obtain ⟨hp, g, d, tk, os⟩ := s
  dsimp only
  rcases hr with rfl | ⟨a, rfl⟩
  · wp_walk
    refine wpAny_askSetting (wpAny_pure ?_)
    dsimp only
    simp only [newObj]
    refine wpAny_bind (wpAny_alloc (wpAny_pure ?_))
    exact wpAny_pure q
  · wp_walk
    refine wpAny_askSetting (wpAny_pure ?_)
    dsimp only
    simp only [newObj]
    refine wpAny_bind (wpAny_alloc (wpAny_pure ?_))
    exact wpAny_pure q
set_option maxHeartbeats 2000000 in
/-- set(..), given what its __init__ does -/
theorem set_call {rest : List Value} (hr : rest = [] ∨ ∃ a, rest = [a]) {Q : Value → Shared → Prop}
    (hinit : wpAny C.M A.in1.in1 (Builtin.«set.__init__» ⟨.ref s.heap.objs.size :: rest, []⟩) (fun fin s₂ => fin = .done (.ret .none) ∧ Q (.ref s.heap.objs.size) s₂) E { s with heap := s.heap.push (freshSet C) }) : wpAny C.M A (call (.type "set") rest) Q E s := by
  obtain ⟨c, tl, hmro⟩ := PySem.F.called_set.mro
  have hmade := PySem.F.called_set.made
  have hsub := PySem.F.called_set.sub
  refine wpAny_call (codeAny_of_tree ?_)
  show wpAny _ _ (callAny (.type "set") _) _ _ _
  refine wpAny_pure ⟨Code.quiet_builtin _ (by decide +kernel), codeAny_builtin PySem.F.entry_type_call ?_⟩
  rw [Around.under_plain (weight_type_call_type "set" rest []) rfl]
  have h1 := PySem.F.called_set.notType
  have h2 := PySem.F.called_set.canCreate
  have hct : checkTypeCall "set" ⟨rest, []⟩ = pure () := by
    rcases hr with rfl | ⟨a, rfl⟩
    · exact PySem.F.typeCall_set_0
    · exact PySem.F.typeCall_set_1 a
  repeat (any_goals (first | assumption | wp_step))
  refine codeAny_mono (set_new_code hr (E := E) (Q₁ := fun obj s₁ => obj = .ref s.heap.objs.size ∧ s₁ = { s with heap := s.heap.push (freshSet C) }) ⟨rfl, rfl⟩) fun r s₁ hr' => ?_
  cases r with
  | error e => exact hr'
  | ok fl =>
    cases fl with
    | ret obj =>
      obtain ⟨rfl, rfl⟩ := hr'
      have hS : (s.heap.push (freshSet C)).get? s.heap.objs.size = some (freshSet C) := Heap.get?_push_size _ rfl
      have hT : Shared.TypeIs { s with heap := s.heap.push (freshSet C) } (.ref s.heap.objs.size) "set" := ⟨_, hS, rfl⟩
      have hli := PySem.F.called_set.init.lookup
      have hbi := PySem.F.called_set.init.bind (.ref s.heap.objs.size)
      repeat (any_goals (first | assumption | wp_step))
      have hck : wpAny C.M A.in1.in1 (checkBuiltinCall "set.__init__" ⟨[.ref s.heap.objs.size] ++ rest, []⟩) (fun _ s₁ => wpAny C.M A.in1.in1 (Builtin.«set.__init__» ⟨[.ref s.heap.objs.size] ++ rest, []⟩)
          (fun fin s' => match fin with | .done f => wants (fun r s₂ => r = .none ∧ Q (.ref s.heap.objs.size) s₂) E (.ok f) s' | .again c' => c'.quiet = true ∧ codeAny C.M A.in1 c' (wants (fun r s₂ => r = .none ∧ Q (.ref s.heap.objs.size) s₂) E) s') (fun e s' => wants (fun r s₂ => r = .none ∧ Q (.ref s.heap.objs.size) s₂) E (.error e) s') s₁)
          (fun e s' => wants (fun r s₂ => r = .none ∧ Q (.ref s.heap.objs.size) s₂) E (.error e) s') { s with heap := s.heap.push (freshSet C) } := by
        have body : wpAny C.M A.in1.in1 (Builtin.«set.__init__» ⟨[.ref s.heap.objs.size] ++ rest, []⟩)
          (fun fin s' => match fin with | .done f => wants (fun r s₂ => r = .none ∧ Q (.ref s.heap.objs.size) s₂) E (.ok f) s' | .again c' => c'.quiet = true ∧ codeAny C.M A.in1 c' (wants (fun r s₂ => r = .none ∧ Q (.ref s.heap.objs.size) s₂) E) s') (fun e s' => wants (fun r s₂ => r = .none ∧ Q (.ref s.heap.objs.size) s₂) E (.error e) s') { s with heap := s.heap.push (freshSet C) } :=
          wpAny_mono hinit (fun fin s₂ h₂ => by obtain ⟨rfl, hq⟩ := h₂; exact ⟨rfl, hq⟩) fun _ _ x => x
        rcases hr with rfl | ⟨a, rfl⟩
        · exact check_set_init hT body
        · exact check_set_init_1 hT body
      refine codeAny_mono (codeAny_call_builtin (R := wants (fun r s₂ => r = .none ∧ Q (.ref s.heap.objs.size) s₂) E) PySem.F.called_set.init.plain PySem.F.entry_set_init hck) fun r₂ s₂ hr₂ => ?_
      cases r₂ with
      | error e => exact hr₂
      | ok fl₂ =>
        cases fl₂ with
        | ret r =>
          obtain ⟨rfl, hq⟩ := hr₂
          repeat (any_goals (first | assumption | wp_step))
        | _ => exact hr₂.elim
    | _ => exact hr'.elim
theorem set_call0 {Q : Value → Shared → Prop} (q : Q (.ref s.heap.objs.size) { s with heap := s.heap.push (freshSet C) }) : wpAny C.M A (call (.type "set") []) Q E s := by
  refine set_call (.inl rfl) ?_
  unfold Builtin.«set.__init__» noKeywords
  wp_walk
  exact ⟨rfl, q⟩
/-- the loop of set(list) -/
theorem set_loop {l I S : Addr} (hh : A.handled = none) (hne : l ≠ I) (hSI : S ≠ I) (hSl : S ≠ l) (items : Array Value) (keys : List Key) (hlen : keys.length = items.size) (hk : ∀ (i : Nat) (k : Key) (v : Value), keys[i]? = some k → items[i]? = some v → C.k.is k v = true ∧ v.scannable = true) {R : Result → Shared → Prop} :
    ∀ (m i : Nat) (s : Shared) (ks : List Key), items.size - i = m → i ≤ items.size → s.heap.IsListIter I l i → s.heap.IsList l items → SetAt C s.heap S ks → ks.length + (items.size - i) < scanBound →
      (∀ (h' : Heap) (tk : Nat), (∀ b o, b ≠ S → b ≠ I → s.heap.get? b = some o → h'.get? b = some o) → SetAt C h' S ((keys.drop i).foldl sadd ks) → R (.ok (.ret .none)) { s with heap := h', toks := tk }) →
      codeAny C.M A (.builtin "set.update.loop" ⟨[.ref S, .ref I], []⟩) R s := by
  intro m
  induction m with
  | zero =>
    intro i s ks hm hi hit hl hS hb q
    have hin : i = items.size := by omega
    refine codeAny_builtin PyProof.Rows.F.entry_set_update_loop ?_
    rw [Around.under_plainId PyProof.Rows.F.plain_set_update_loop _]
    show wpAny _ A.in1 (pyNext (.ref I) >>= _) _ _ s
    refine wpAny_bind (wpAny_pyNext_list_end (by simpa using hh) hit hl (by rw [hin]; simp) fun h' he => ?_)
    show wpAny _ A.in1 (ret Value.none) _ _ _
    refine wpAny_pure (q h' s.toks (fun b o hb1 hb2 e => he b o hb2 e) ?_)
    obtain ⟨o, ho, r⟩ := hS
    have : keys.drop i = [] := by rw [List.drop_eq_nil_iff]; omega
    rw [this]
    exact ⟨o, he S o hSI ho, r⟩
  | succ m ih =>
    intro i s ks hm hi hit hl hS hb q
    have hlt : i < items.size := by omega
    have hlk : i < keys.length := by omega
    refine codeAny_builtin PyProof.Rows.F.entry_set_update_loop ?_
    rw [Around.under_plainId PyProof.Rows.F.plain_set_update_loop _]
    show wpAny _ A.in1 (pyNext (.ref I) >>= _) _ _ s
    refine wpAny_bind (wpAny_pyNext_list_item hit hl (Array.getElem?_eq_getElem hlt) fun h' hit' sb => ?_)
    obtain ⟨hkey, hsc⟩ := hk i keys[i] items[i] (List.getElem?_eq_getElem hlk) (Array.getElem?_eq_getElem hlt)
    have hS' : SetAt C h' S ks := let ⟨o, ho, r⟩ := hS; ⟨o, (sb.2 S hSI).trans ho, r⟩
    show wpAny _ A.in1 (holding [items[i]] (setAdd S items[i]) >>= _) _ _ _
    refine wpAny_bind (wpAny_holding ?_)
    unfold setAdd
    refine wpAny_holding (wpAny_bind (C.k.pyHash hkey ?_))
    refine setAdd_strong (s := { s with heap := h', toks := s.toks + 1 }) hkey hsc hS' (by omega) fun b h2 sb2 hS2 => ?_
    have hlen2 : (sadd ks keys[i]).length ≤ ks.length + 1 := by unfold sadd; split <;> simp
    refine wpAny_pure ⟨plainId_quiet PyProof.Rows.F.plain_set_update_loop _, ih (i + 1) _ _ (by omega) hlt ?_ ?_ hS2 ?_ fun h3 tk keep hS3 => ?_⟩
    · obtain ⟨o, ho, r⟩ := hit'; exact ⟨o, (sb2.2 I (Ne.symm hSI)).trans ho, r⟩
    · obtain ⟨o, ho, r⟩ := hl; exact ⟨o, (sb2.2 l (Ne.symm hSl)).trans ((sb.2 l hne).trans ho), r⟩
    · omega
    · refine q h3 tk (fun b o hb1 hb2 e => keep b o hb1 hb2 ((sb2.2 b hb1).trans ((sb.2 b hb2).trans e))) ?_
      have : keys.drop i = keys[i] :: keys.drop (i + 1) := List.drop_eq_getElem_cons hlk
      rw [this]; exact hS3
end
end Mine
namespace Mine
namespace FF
end FF
theorem perm_erase {α : Type} : ∀ (l : List α) (i : Nat) (h : i < l.length), (l[i] :: l.eraseIdx i).Perm l
  | a :: l, 0, _ => by simp
  | a :: l, i + 1, h => by
    simp only [List.getElem_cons_succ, List.eraseIdx_cons_succ]
    exact (List.Perm.swap a _ _).trans ((perm_erase l i (by simpa using h)).cons a)
theorem pick_go {α : Type} (next : Nat → Nat) : ∀ (fuel k : Nat) (left : List α) (out : Array α), left.length ≤ fuel → (pickOrder.go next fuel k left out).toList.Perm (out.toList ++ left)
  | 0, k, left, out, h => by
    have : left = [] := List.length_eq_zero_iff.mp (by omega)
    subst this; unfold pickOrder.go; simp
  | fuel + 1, k, left, out, h => by
    unfold pickOrder.go
    by_cases hl : left = []
    · subst hl; simp
    · have hlt : next k % left.length < left.length := Nat.mod_lt _ (List.length_pos_iff.mpr hl)
      rw [List.getElem?_eq_getElem hlt]
      dsimp only
      refine (pick_go next fuel (k + 1) _ _ (by rw [List.length_eraseIdx_of_lt hlt]; omega)).trans ?_
      simp only [Array.toList_push, List.append_assoc, List.cons_append, List.nil_append]
      exact (perm_erase left _ hlt).append_left _
theorem pick_perm {α : Type} (next : Nat → Nat) (xs : Array α) : (pickOrder next xs).toList.Perm xs.toList := by
  unfold pickOrder
  simpa using pick_go next xs.size 0 xs.toList #[] (by simp)
theorem wpAny_choose' {α : Type} {M : Model} {A : Around} {E : Value → Shared → Prop} {s : Shared} {src : Source} {n : Nat} {Q : Nat → Shared → Prop} (hn : 0 < n) (h : ∀ i d, i < n → Q i { s with drawn := d }) : wpAny M A (choose src n) Q E s := fun Γ p _ => ⟨Nat.ne_of_gt hn, h _ _ (Nat.mod_lt _ hn)⟩
theorem draw_order {α : Type} {M : Model} {A : Around} {E : Value → Shared → Prop} : ∀ (n : Nat) (xs : List α) (s : Shared) (Q : List α → Shared → Prop), xs.length ≤ n → (∀ ys d, ys.Perm xs → Q ys { s with drawn := d }) → wpAny M A (drawOrder n xs) Q E s
  | 0, xs, s, Q, hn, h => by
    have : xs = [] := List.length_eq_zero_iff.mp (by omega)
    subst this; unfold drawOrder; exact wpAny_pure (h [] s.drawn .nil)
  | n + 1, [], s, Q, hn, h => by unfold drawOrder; exact wpAny_pure (h [] s.drawn .nil)
  | n + 1, x :: xs, s, Q, hn, h => by
    unfold drawOrder
    refine wpAny_bind (wpAny_choose' (α := α) (by simp) fun i d hi => ?_)
    rw [List.getElem?_eq_getElem hi]
    dsimp only
    refine wpAny_bind (draw_order n _ _ _ (by rw [List.length_eraseIdx_of_lt hi]; simpa using hn) fun ys d' hp => wpAny_pure (h _ d' ?_))
    exact (hp.cons _).trans (perm_erase _ i hi)
section
variable {C : Cx} {n : Nat} {A : Around} {E : Value → Shared → Prop} {s : Shared} {a I : Addr} {h : Hs} {ks : List Key}
abbrev setIter (first : Value) (k : Nat) (a : Addr) (m ep : Nat) : Obj := { cls := .type "set_iterator", dict := none, data := .fields #[first, .int k 0, .ref a, .int m 0, .int ep 0], slots := #[] }
theorem stop_raise {R : Fin → Shared → Prop} (hh : A.handled = none) (q : ∀ h', (∀ b o, s.heap.get? b = some o → h'.get? b = some o) → (∀ e, (∃ o, h'.get? e = some o ∧ o.cls = .type "StopIteration") → E (.ref e) { s with heap := h' })) :
    wpAny C.M A (do raiseNew (← newExc (.type "StopIteration") []) : Sem Fin) R E s := by
  refine wpAny_bind ?_
  simp only [newExc, newTuple]
  refine wpAny_bind (wpAny_newObj_type ?_ (by size_fits))
  refine wpAny_bind (m := firstArgMember _ _) (wpAny_of_eq (a := Value.none) (by first | rfl | (simp only [firstArgMember]; rfl)) ?_)
  refine wpAny_newObj_type ?_ (by size_fits)
  simp only [raiseNew]
  refine wpAny_bind (wpAny_handled ?_)
  rw [hh]
  refine wpAny_bind (wpAny_pure (wpAny_throw ?_))
  exact q _ (fun b o e => Heap.get?_push_of_some _ (Heap.get?_push_of_some _ e)) _ ⟨_, Heap.get?_push_size _ rfl, rfl⟩
/-- one step of a set's iterator whose order is not drawn -/
theorem set_next_item {o : Obj} {es : Array (Int × Value)} {ep slot k nx : Nat} {t : SetTable} {x : Value} {Q : Option Value → Shared → Prop} (hI : s.heap.get? I = some (setIter (.int slot 0) k a es.size ep)) (ho : s.heap.get? a = some o) (hd : o.data = .set es ep t) (hf : t.fits es.size = true)
    (hn : ∀ (A' : Around) (Q' : Option (Value × Nat) → Shared → Prop) (E' : Value → Shared → Prop), Q' (some (x, nx)) s → wpAny C.M A' (setNext a slot k ep) Q' E' s)
    (q : ∀ h', h'.get? I = some (setIter (.int nx 0) (k + 1) a es.size ep) → Heap.SameBut I s.heap h' → Q (some x) { s with heap := h' }) : wpAny C.M A (pyNext (.ref I)) Q E s := by
  have hT : s.TypeIs (.ref I) "set_iterator" := ⟨_, hI, rfl⟩
  unfold pyNext
  refine wpAny_bind (wpAny_attempt (wpAny_callSpecial?_slot (name := Str.ofString "__next__") hT FF.slot_setiter_next (wpAny_call_entry FF.slot_setiter_next hT FF.entry_setiter_next ?_ (FF.args_setiter_next _))))
  unfold Builtin.«set_iterator.__next__»
  refine wpAny_bind (m := slotArgs "__next__" 0 _) (wpAny_pure ?_)
  dsimp only
  refine wpAny_bind (wpAny_fieldsOf hI rfl ?_)
  dsimp only
  refine wpAny_bind (wpAny_setEntries_of ho hd hf ?_)
  rw [if_neg (by simp)]
  refine wpAny_bind (hn _ _ _ ?_)
  dsimp only
  refine wpAny_bind (wpAny_setField_rec hI (by simp) fun h1 e1 sb1 => ?_)
  refine wpAny_bind (wpAny_setField_rec (s := { s with heap := h1 }) e1 (by simp) fun h2 e2 sb2 => ?_)
  refine wpAny_pure ⟨x, rfl, ?_⟩
  exact wpAny_pure (q h2 (by simpa [rawInt, setIter, Int.natCast_add] using e2) (sb1.trans sb2))
theorem set_next_end {o : Obj} {es : Array (Int × Value)} {ep slot k : Nat} {t : SetTable} {Q : Option Value → Shared → Prop} (hh : A.handled = none) (hI : s.heap.get? I = some (setIter (.int slot 0) k a es.size ep)) (ho : s.heap.get? a = some o) (hd : o.data = .set es ep t) (hf : t.fits es.size = true)
    (hn : ∀ (A' : Around) (Q' : Option (Value × Nat) → Shared → Prop) (E' : Value → Shared → Prop), Q' none s → wpAny C.M A' (setNext a slot k ep) Q' E' s)
    (q : ∀ h', Heap.ExtBut I s.heap h' → Q none { s with heap := h' }) : wpAny C.M A (pyNext (.ref I)) Q E s := by
  have hT : s.TypeIs (.ref I) "set_iterator" := ⟨_, hI, rfl⟩
  unfold pyNext
  refine wpAny_bind (wpAny_attempt (wpAny_callSpecial?_slot (name := Str.ofString "__next__") hT FF.slot_setiter_next (wpAny_call_entry FF.slot_setiter_next hT FF.entry_setiter_next ?_ (FF.args_setiter_next _))))
  unfold Builtin.«set_iterator.__next__»
  refine wpAny_bind (m := slotArgs "__next__" 0 _) (wpAny_pure ?_)
  dsimp only
  refine wpAny_bind (wpAny_fieldsOf hI rfl ?_)
  dsimp only
  refine wpAny_bind (wpAny_setEntries_of ho hd hf ?_)
  rw [if_neg (by simp)]
  refine wpAny_bind (hn _ _ _ ?_)
  dsimp only
  refine wpAny_bind (wpAny_setField_rec hI (by simp) fun h1 e1 sb1 => ?_)
  refine stop_raise (by simpa using hh) fun h' keep e he => ?_
  obtain ⟨oe, ho', hc'⟩ := he
  refine wpAny_bind (wpAny_isInstance (T := "StopIteration") (b := true) ⟨oe, ho', hc'⟩ isSubtype_stop ?_)
  exact wpAny_pure (q h' fun b ob hb e => keep b ob ((sb1.2 b hb).trans e))
end
end Mine
namespace Mine
section
variable {C : Cx} {n : Nat} {A : Around} {E : Value → Shared → Prop} {s : Shared} {a I : Addr} {h : Hs} {ks : List Key}
theorem set_next_draw_item {o : Obj} {es : Array (Int × Value)} {ep k pl : Nat} {t : SetTable} {T : Addr} {oT : Obj} {places : List Nat} {nT : Nat} {e : Int × Value} {Q : Option Value → Shared → Prop} (hI : s.heap.get? I = some (setIter (.ref T) k a es.size ep)) (hT' : s.heap.get? T = some oT) (hTd : oT.data = .seq (places.map fun (i : Nat) => rawInt i).toArray nT)
    (ho : s.heap.get? a = some o) (hd : o.data = .set es ep t) (hf : t.fits es.size = true) (hk : places[k]? = some pl) (he : es[pl]? = some e)
    (q : ∀ h', h'.get? I = some (setIter (.ref T) (k + 1) a es.size ep) → Heap.SameBut I s.heap h' → Q (some e.2) { s with heap := h' }) : wpAny C.M A (pyNext (.ref I)) Q E s := by
  have hT : s.TypeIs (.ref I) "set_iterator" := ⟨_, hI, rfl⟩
  unfold pyNext
  refine wpAny_bind (wpAny_attempt (wpAny_callSpecial?_slot (name := Str.ofString "__next__") hT FF.slot_setiter_next (wpAny_call_entry FF.slot_setiter_next hT FF.entry_setiter_next ?_ (FF.args_setiter_next _))))
  unfold Builtin.«set_iterator.__next__»
  refine wpAny_bind (m := slotArgs "__next__" 0 _) (wpAny_pure ?_)
  dsimp only
  refine wpAny_bind (wpAny_fieldsOf hI rfl ?_)
  dsimp only
  refine wpAny_bind (wpAny_setEntries_of ho hd hf ?_)
  rw [if_neg (by simp)]
  refine wpAny_bind (wpAny_seqItems hT' hTd ?_)
  have hg : (places.map fun (i : Nat) => rawInt i).toArray[(k : Int).toNat]? = some (rawInt pl) := by simp [hk]
  dsimp only
  rw [hg]
  dsimp only [rawInt]
  refine wpAny_bind ?_
  unfold setNextDrawn
  refine wpAny_bind (wpAny_setState_of ho hd hf ?_)
  dsimp only
  rw [if_neg (by simp)]
  have he' : es[(pl : Int).toNat]? = some (e.1, e.2) := by simpa using he
  rw [he']
  refine wpAny_pure ?_
  refine wpAny_bind (wpAny_setField_rec hI (by simp) fun h1 e1 sb1 => wpAny_pure ⟨_, rfl, wpAny_pure (q h1 (by simpa [rawInt, setIter, Int.natCast_add] using e1) sb1)⟩)
theorem set_next_draw_end {o : Obj} {es : Array (Int × Value)} {ep k : Nat} {t : SetTable} {T : Addr} {oT : Obj} {places : List Nat} {nT : Nat} {Q : Option Value → Shared → Prop} (hh : A.handled = none) (hI : s.heap.get? I = some (setIter (.ref T) k a es.size ep)) (hT' : s.heap.get? T = some oT) (hTd : oT.data = .seq (places.map fun (i : Nat) => rawInt i).toArray nT)
    (ho : s.heap.get? a = some o) (hd : o.data = .set es ep t) (hf : t.fits es.size = true) (hk : places[k]? = none)
    (q : ∀ h', Heap.ExtBut I s.heap h' → Q none { s with heap := h' }) : wpAny C.M A (pyNext (.ref I)) Q E s := by
  have hT : s.TypeIs (.ref I) "set_iterator" := ⟨_, hI, rfl⟩
  unfold pyNext
  refine wpAny_bind (wpAny_attempt (wpAny_callSpecial?_slot (name := Str.ofString "__next__") hT FF.slot_setiter_next (wpAny_call_entry FF.slot_setiter_next hT FF.entry_setiter_next ?_ (FF.args_setiter_next _))))
  unfold Builtin.«set_iterator.__next__»
  refine wpAny_bind (m := slotArgs "__next__" 0 _) (wpAny_pure ?_)
  dsimp only
  refine wpAny_bind (wpAny_fieldsOf hI rfl ?_)
  dsimp only
  refine wpAny_bind (wpAny_setEntries_of ho hd hf ?_)
  rw [if_neg (by simp)]
  refine wpAny_bind (wpAny_seqItems hT' hTd ?_)
  have hg : (places.map fun (i : Nat) => rawInt i).toArray[(k : Int).toNat]? = none := by simpa using hk
  dsimp only
  rw [hg]
  dsimp only
  refine wpAny_bind (wpAny_setField_rec hI (by simp) fun h1 e1 sb1 => ?_)
  refine wpAny_bind (wpAny_setField_rec (s := { s with heap := h1 }) e1 (by simp) fun h2 e2 sb2 => ?_)
  refine stop_raise (by simpa using hh) fun h' keep e he => ?_
  obtain ⟨oe, ho', hc'⟩ := he
  refine wpAny_bind (wpAny_isInstance (T := "StopIteration") (b := true) ⟨oe, ho', hc'⟩ isSubtype_stop ?_)
  exact wpAny_pure (q h' fun b ob hb e => keep b ob ((sb2.2 b hb).trans ((sb1.2 b hb).trans e)))
theorem setNext_text {o : Obj} {es : Array (Int × Value)} {ep slot k : Nat} {t : SetTable} {Q : Option (Value × Nat) → Shared → Prop} (hx : C.w.params.followText "set-order" = true) (ho : s.heap.get? a = some o) (hd : o.data = .set es ep t) (hf : t.fits es.size = true)
    (q : Q ((pickOrder (C.w.params.setOrder a ep) es)[k]?.map fun e => (e.2, slot)) s) : wpAny C.M A (setNext a slot k ep) Q E s := by
  unfold setNext setsByText
  refine wpAny_bind (wpAny_setState_of ho hd hf ?_)
  dsimp only
  refine wpAny_bind (wpAny_bind (wpAny_askSetting (wpAny_pure ?_)))
  show wpAny _ _ (if C.w.params.followText "set-order" = true then _ else _) _ _ _
  rw [if_pos hx, if_neg (by simp)]
  refine wpAny_bind ?_
  unfold setWalk setsByText
  refine wpAny_bind (wpAny_setState_of ho hd hf ?_)
  dsimp only
  refine wpAny_bind (wpAny_bind (wpAny_askSetting (wpAny_pure ?_)))
  show wpAny _ _ (if C.w.params.followText "set-order" = true then _ else _) _ _ _
  rw [if_pos hx]
  exact wpAny_bind (wpAny_askSetting (wpAny_pure (wpAny_pure q)))
theorem setNext_plain {o : Obj} {es : Array (Int × Value)} {ep slot k : Nat} {t : SetTable} {Q : Option (Value × Nat) → Shared → Prop} (hx : C.w.params.followText "set-order" = false) (hdr : (!t.plain && decide (es.size > 1)) = false) (hled : t.led = true) (ho : s.heap.get? a = some o) (hd : o.data = .set es ep t) (hf : t.fits es.size = true) (hr : Rises t.place)
    (hs : slot = match k with | 0 => 0 | k + 1 => t.place.getD k 0 + 1) (hkl : k ≤ es.size)
    (q : Q (match es[k]?, t.place[k]? with | some (_, x), some j => some (x, j + 1) | _, _ => none) s) : wpAny C.M A (setNext a slot k ep) Q E s := by
  have hsz : t.place.size = es.size := by simp only [SetTable.fits, Bool.and_eq_true, beq_iff_eq] at hf; exact hf.1
  have hb : SetTable.below t.place slot = k := by
    obtain ⟨b1, b2, b3⟩ := below_spec hr slot
    rcases Nat.lt_trichotomy (SetTable.below t.place slot) k with z | z | z
    · cases k with
      | zero => omega
      | succ k =>
        have hk : k < t.place.size := by omega
        have e : slot = t.place[k] + 1 := by rw [hs]; simp [Array.getD, hk]
        have := b3 k hk (by omega)
        omega
    · exact z
    · exfalso
      have hkp : k < t.place.size := by omega
      have h1 := b2 k hkp z
      cases k with
      | zero => have hs : slot = 0 := hs
                omega
      | succ k =>
        have hk : k < t.place.size := by omega
        have e : slot = t.place[k] + 1 := by rw [hs]; simp [Array.getD, hk]
        have := hr.lt hkp (Nat.lt_succ_self k)
        omega
  unfold setNext setsByText
  refine wpAny_bind (wpAny_setState_of ho hd hf ?_)
  dsimp only
  refine wpAny_bind (wpAny_bind (wpAny_askSetting (wpAny_pure ?_)))
  show wpAny _ _ (if C.w.params.followText "set-order" = true then _ else _) _ _ _
  rw [if_neg (by rw [hx]; simp)]
  show wpAny _ _ (if (!t.plain && decide (es.size > 1)) = true then _ else _) _ _ _
  rw [if_neg (by rw [hdr]; simp)]
  have hm : wpAny C.M A (if (!t.led && !es.isEmpty) = true then unsupported "set:maker-not-led" else pure ()) (fun _ s' => wpAny C.M A (pure (match es[SetTable.below t.place slot]?, t.place[SetTable.below t.place slot]? with | some (_, x), some j => some (x, j + 1) | _, _ => none)) Q E s') E s := by
    rw [hled, if_neg (by simp), hb]
    exact wpAny_pure (wpAny_pure q)
  exact wpAny_bind hm
/-- the state may change in what the abstract heap does not show -/
theorem Rep.growS {w : Wd} {s' : Shared} (R : Rep C w h) (hk : ∀ b o, w.s.heap.get? b = some o → s'.heap.get? b = some o) (ho : s'.os = w.s.os) (hg : s'.gens = w.s.gens) : Rep C ⟨w.g, w.ρ, s'⟩ h where
  keep := fun a o e => hk _ _ (R.keep a o e)
  len := R.len
  nd := R.nd
  off := R.off
  dead := R.dead
  obj := fun i a h3 => let ⟨o, h4, h5⟩ := R.obj i a h3; ⟨o, hk _ _ h4, h5⟩
  new := R.new
  os := ho.trans R.os
  bare := by show AllBare s'.gens; rw [hg]; exact R.bare
  top := R.top
  tab := fun a ha => let ⟨o, e, q⟩ := R.tab a ha; ⟨o, hk _ _ e, q⟩
  offtab := R.offtab
theorem Ext.growS {X : List Addr} {w : Wd} {s' : Shared} (hk : ∀ b o, w.s.heap.get? b = some o → s'.heap.get? b = some o) : Ext C X w ⟨w.g, w.ρ, s'⟩ where
  sub := .refl _
  new := fun _ _ e => .inl e
  pre := List.prefix_refl _
  newρ := fun _ h => .inl h
  kept := fun b o e _ _ _ => hk b o e
  live := fun b o e => ⟨o, hk b o e⟩
theorem Rep.setO {w : Wd} {i : Nat} {a : Addr} {o : Obj} {ks : List Key} (R : Rep C w h) (hi : w.ρ[i]? = some a) (hv : h.σ i = .setO o ks) : w.s.heap.get? a = some o ∧ SetObj C o ks := by
  obtain ⟨o', h1, h2⟩ := R.obj i a hi
  rw [hv] at h2
  obtain ⟨rfl, h3⟩ := h2
  exact ⟨h1, h3⟩
theorem Rep.toSetO {w : Wd} {i : Nat} {a : Addr} {ks : List Key} (R : Rep C w h) (hi : w.ρ[i]? = some a) (hv : h.σ i = .set ks) : ∃ o, w.s.heap.get? a = some o ∧ SetObj C o ks ∧ Rep C w (h.upd i (.setO o ks)) := by
  obtain ⟨o, h1, h2⟩ := R.obj i a hi
  rw [hv] at h2
  exact ⟨o, h1, h2, R.change (hp := w.s.heap) (k := w.s.toks) hi (by rw [hv]; simp) (fun b o _ e => e) h1 ⟨rfl, h2⟩⟩
/-- the keys that entries are -/
theorem keys_of {es : List (Int × Value)} (hel : ElemsOf C.k es) : ∃ l : List Key, l.length = es.length ∧ ∀ (i : Nat) (e : Int × Value), es[i]? = some e → ∃ k, l[i]? = some k ∧ C.k.is k e.2 = true := by
  induction es with
  | nil => exact ⟨[], rfl, fun i e h => by simp at h⟩
  | cons x es ih =>
    obtain ⟨⟨k, hk, _⟩, _⟩ := hel.head
    obtain ⟨l, h1, h2⟩ := ih hel.tail
    refine ⟨k :: l, by simp [h1], fun i e h => ?_⟩
    cases i with
    | zero => simp at h; subst h; exact ⟨k, rfl, hk⟩
    | succ i => exact h2 i e (by simpa using h)
theorem nodup_of_cover : ∀ {ks l : List Key}, ks.Nodup → l.length = ks.length → (∀ k, k ∈ ks ↔ k ∈ l) → l.Perm ks := by
  have main : ∀ (ks l : List Key), ks.Nodup → l.length = ks.length → (∀ k, k ∈ ks → k ∈ l) → l.Perm ks := by
    intro ks
    induction ks with
    | nil =>
      intro l _ hl _
      have : l = [] := List.length_eq_zero_iff.mp (by simpa using hl)
      rw [this]
    | cons k ks ih =>
      intro l hn hl hc
      have hk : k ∈ l := hc k (by simp)
      have hn' := List.nodup_cons.mp hn
      refine (List.perm_cons_erase hk).trans ((ih (l.erase k) hn'.2 ?_ fun x hx => ?_).cons k)
      · rw [List.length_erase_of_mem hk, hl]; simp
      · have hne : x ≠ k := fun e => hn'.1 (e ▸ hx)
        exact (List.mem_erase_of_ne hne).mpr (hc x (by simp [hx]))
  intro ks l hn hl hc
  exact main ks l hn hl fun k h => (hc k).mp h
/-- an order of a set's entries is an order of its keys -/
theorem order_keys {es ys : List (Int × Value)} {ks : List Key} (hel : ElemsOf C.k es) (hm : ∀ k, k ∈ ks ↔ ∃ e ∈ es, C.k.is k e.2 = true) (hn : ks.Nodup) (hl : es.length = ks.length) (hp : ys.Perm es) :
    ∃ l : List Key, l.Perm ks ∧ l.length = ys.length ∧ ∀ (i : Nat) (e : Int × Value), ys[i]? = some e → ∃ k, l[i]? = some k ∧ C.k.is k e.2 = true := by
  obtain ⟨l, h1, h2⟩ := keys_of (hel.perm hp)
  refine ⟨l, nodup_of_cover hn (by rw [h1, hp.length_eq, hl]) fun k => ?_, h1, h2⟩
  rw [hm k]
  constructor
  · rintro ⟨e, he, hk⟩
    obtain ⟨i, hi⟩ := List.getElem?_of_mem (hp.mem_iff.mpr he)
    obtain ⟨k', h3, h4⟩ := h2 i e hi
    rw [C.k.inj e.2 k k' hk h4]; exact List.mem_of_getElem? h3
  · intro hk
    obtain ⟨i, hi⟩ := List.getElem?_of_mem hk
    have hlt : i < ys.length := by rw [← h1]; exact (List.getElem?_eq_some_iff.mp hi).1
    obtain ⟨k', h3, h4⟩ := h2 i ys[i] (List.getElem?_eq_getElem hlt)
    rw [hi] at h3; cases h3
    exact ⟨ys[i], hp.mem_iff.mp (List.getElem_mem hlt), h4⟩
end
end Mine
namespace Mine
namespace FF
end FF
section
variable {C : Cx} {n : Nat} {h : Hs} {K : Hs → (Hs → Prop) → List V → Prop} {tg : Expr → Prop}
theorem pyIter_setiter {A : Around} {E : Value → Shared → Prop} {s : Shared} {I a : Addr} {first : Value} {k m ep : Nat} {Q : Value → Shared → Prop} (hI : s.heap.get? I = some (setIter first k a m ep)) (q : Q (.ref I) s) : wpAny C.M A (pyIter (.ref I)) Q E s := by
  have hT : s.TypeIs (.ref I) "set_iterator" := ⟨_, hI, rfl⟩
  refine wpAny_pyIter_slot hT FF.slot_setiter_iter (wpAny_call_entry FF.slot_setiter_iter hT FF.entry_setiter_iter ?_ (FF.args_setiter_iter _))
  show wpAny _ _ (ret (.ref I)) _ _ s
  exact wpAny_pure ⟨_, rfl, "set_iterator", _, hT, FF.slot_setiter_next.lookup, q⟩
/-- an iterator of a set: its step and its end told apart from the rest -/
theorem itr_set {I a : Addr} {i : Nat} {o : Obj} {ks : List Key} {es : Array (Int × Value)} {ep : Nat} {t : SetTable} {wr : List Addr} {J : Nat → Heap → Prop} {ys : List (Int × Value)} {l : List Key} (hIw : I ∈ wr) (hd : o.data = .set es ep t) (hf : t.fits es.size = true)
    (hl : l.length = ys.length) (hk : ∀ (i : Nat) (e : Int × Value), ys[i]? = some e → ∃ k, l[i]? = some k ∧ C.k.is k e.2 = true)
    (hJI : ∀ k hp, J k hp → ∃ first, hp.get? I = some (setIter first k a es.size ep)) (hlive : ∀ k hp, J k hp → ∀ b ∈ wr, ∃ o, hp.get? b = some o) (hkeep : ∀ k hp hp', J k hp → (∀ b ∈ wr, hp'.get? b = hp.get? b) → J k hp') (hle : ∀ k hp, J k hp → k ≤ ys.length)
    (hitem : ∀ (A : Around) (s : Shared) (k : Nat) (e : Int × Value) (Q : Option Value → Shared → Prop) (E : Value → Shared → Prop), J k s.heap → s.heap.get? a = some o → ys[k]? = some e → (∀ h', J (k + 1) h' → Heap.SameBut I s.heap h' → Q (some e.2) { s with heap := h' }) → wpAny C.M A (pyNext (.ref I)) Q E s)
    (hend : ∀ (A : Around) (s : Shared) (k : Nat) (Q : Option Value → Shared → Prop) (E : Value → Shared → Prop), A.handled = none → J k s.heap → s.heap.get? a = some o → ys[k]? = none → (∀ h', Heap.ExtBut I s.heap h' → Q none { s with heap := h' }) → wpAny C.M A (pyNext (.ref I)) Q E s) :
    Itr C n (.ref I) wr J (fun h' => h'.σ i = .setO o ks) tg (.ref i) (.ref a) (l.map Key.v) where
  next := fun A w h k v t Q' E a0 R c0 hok hJ ha hkv ht q => by
    cases c0 with
    | ref hi =>
      obtain ⟨ho, hS⟩ := R.setO hi hok
      rw [List.getElem?_map] at hkv
      obtain ⟨k0, hk0, rfl⟩ := Option.map_eq_some_iff.mp hkv
      have hlt : k < ys.length := by rw [← hl]; exact (List.getElem?_eq_some_iff.mp hk0).1
      obtain ⟨k1, h1, h2⟩ := hk k ys[k] (List.getElem?_eq_getElem hlt)
      rw [hk0] at h1; cases h1
      refine hitem A w.s k ys[k] _ _ hJ ho (List.getElem?_eq_getElem hlt) fun hp hJ' sb => ?_
      obtain ⟨first, hI⟩ := hJI _ _ hJ'
      have keep : ∀ b o, b ∉ wr → w.s.heap.get? b = some o → hp.get? b = some o := fun b o hb e => (sb.2 b fun z => hb (z ▸ hIw)).trans e
      refine letGo_other (s := { w.s with heap := hp }) hI rfl rfl (q ys[k].2 (w.at hp w.s.toks) ⟨.refl _, fun _ _ e => .inl e, List.prefix_refl _, fun _ z => .inl z, fun b o e _ hb _ => keep b o hb e, fun b o' e => ?_⟩ rfl (R.apart keep ha) hJ' (key_conc h2))
      by_cases hb : b ∈ wr
      · exact hlive _ _ hJ' b hb
      · exact ⟨o', keep b o' hb e⟩
  stop := fun A w h k Q' E a0 R c0 hok hJ ha hkv q => by
    cases c0 with
    | ref hi =>
      obtain ⟨ho, hS⟩ := R.setO hi hok
      have : ys[k]? = none := by
        rw [List.getElem?_map, Option.map_eq_none_iff, List.getElem?_eq_none_iff] at hkv
        rw [List.getElem?_eq_none_iff]; omega
      exact hend A w.s k _ _ a0.handled hJ ho this fun hp eb => q hp w.s.toks fun b o hb e => eb b o (fun z => hb (z ▸ hIw)) e
  keep := hkeep
  live := hlive
  self := fun A k s Q' E hJ q => let ⟨first, hI⟩ := hJI k _ hJ; pyIter_setiter hI q
theorem its_set {i : Nat} {ks : List Key} (hv : h.σ i = .set ks) (q : ∀ (o : Obj) (l : List Key), l.Perm ks → K (h.upd i (.setO o ks)) (fun h' => h'.σ i = .setO o ks) (l.map Key.v)) : Its C n h tg (.ref i) K := ⟨fun A w Q' E x0 a0 R c kk => by
  cases c with
  | @ref _ a hi =>
    obtain ⟨o, ho, hS, R1⟩ := R.toSetO hi hv
    obtain ⟨es, ep, t, hex, hd, hel, hmem, hnd, hlen, hb, hf, hled, hr⟩ := hS
    have hT : w.s.TypeIs (.ref a) "set" := ⟨o, ho, hex.1⟩
    have hel' : es.toList.length = ks.length := by simpa using hlen
    refine wpAny_pyIter_slot hT PySem.F.slot_set_iter (wpAny_call_entry PySem.F.slot_set_iter hT FF.entry_set_iter ?_ (PySem.F.args_set_iter_1 _))
    unfold Builtin.«frozenset.__iter__» Builtin.Frozenset.slot0
    refine wpAny_bind (wpAny_bind (m := slotArgs "__iter__" 0 _) (wpAny_pure ?_))
    unfold Builtin.Frozenset.addrOf
    refine wpAny_pure ?_
    unfold Builtin.Frozenset.sizeOf
    refine wpAny_bind (wpAny_bind (wpAny_setEntries_of ho hd hf (wpAny_pure ?_)))
    refine wpAny_bind ?_
    unfold setDrawn setsByText
    refine wpAny_bind (wpAny_setState_of ho hd hf ?_)
    dsimp only
    refine wpAny_bind (wpAny_bind (wpAny_askSetting (wpAny_pure ?_)))
    refine wpAny_pure ?_
    have hn0 : w.s.heap.get? w.s.heap.objs.size = none := fresh_none (Nat.le_refl _)
    have off0 := R.off_fresh hn0
    have fin : ∀ (J : Nat → Heap → Prop) (ys : List (Int × Value)) (slot0 : Nat), slot0 = 0 → ys.Perm es.toList → J 0 (w.s.heap.push (setIter (.int 0 0) 0 a es.size ep)) →
        (∀ l : List Key, l.length = ys.length → (∀ (i : Nat) (e : Int × Value), ys[i]? = some e → ∃ k, l[i]? = some k ∧ C.k.is k e.2 = true) → Itr C n (.ref w.s.heap.objs.size) [w.s.heap.objs.size] J (fun h' => h'.σ i = .setO o ks) tg (.ref i) (.ref a) (l.map Key.v)) →
        wpAny C.M A.in1 (do ret (← newFields "set_iterator" [rawInt 0, rawInt 0, .ref a, rawInt es.size, rawInt (← setEpoch a)])) (fun fin s' => ∃ v, fin = .done (.ret v) ∧ ∃ T' r, s'.TypeIs v T' ∧ typeLookup (.type T') "__next__" = pure (some r) ∧ Q' v s') E w.s := by
      intro J ys slot0 hs0 hp hJ0 hI
      obtain ⟨l, hl1, hl2, hl3⟩ := order_keys hel hmem hnd hel' hp
      refine wpAny_bind (wpAny_setEpoch_of ho hd hf ?_)
      refine wpAny_bind (wpAny_newObj_type (wpAny_pure ⟨_, rfl, "set_iterator", _, ⟨_, Heap.get?_push_size _ rfl, rfl⟩, FF.slot_setiter_next.lookup, ?_⟩))
      exact kk (.ref w.s.heap.objs.size) [w.s.heap.objs.size] J (w.at _ w.s.toks) _ _ _ (.ref i) (.ref a) (q o l hl1) (Ext.grow push_keeps) (R1.grow push_keeps) (by simpa using hn0) (by simpa using off0) hJ0 (.ref hi) (hI l hl2 hl3)
    cases hx : C.w.params.followText "set-order" with
    | true =>
      show wpAny _ _ (if (!C.w.params.followText "set-order" && _) = true then _ else _) _ _ _
      rw [if_neg (by rw [hx]; simp)]
      refine wpAny_bind (wpAny_pure ?_)
      have hpk := pick_perm (C.w.params.setOrder a ep) es
      refine fin (fun k hp => k ≤ es.size ∧ hp.get? w.s.heap.objs.size = some (setIter (.int (0 : Nat) 0) k a es.size ep)) _ 0 rfl hpk ⟨Nat.zero_le _, Heap.get?_push_size _ rfl⟩ fun l hl2 hl3 => ?_
      have hsz : (pickOrder (C.w.params.setOrder a ep) es).toList.length = es.size := by rw [hpk.length_eq]; simp
      refine itr_set (by simp) hd hf hl2 hl3 (fun k hp hJ => ⟨_, hJ.2⟩) (fun k hp hJ b hb => (List.mem_singleton.mp hb) ▸ ⟨_, hJ.2⟩) (fun k hp hp' hJ e => ⟨hJ.1, (e _ (by simp)).trans hJ.2⟩) (fun k hp hJ => by rw [hsz]; exact hJ.1) ?_ ?_
      · intro A' s k e Q E hJ ho' hy q'
        have hlt : k < es.size := by rw [← hsz]; exact (List.getElem?_eq_some_iff.mp hy).1
        refine set_next_item (slot := 0) (nx := 0) hJ.2 ho' hd hf (fun A'' Q'' E'' z => setNext_text hx ho' hd hf ?_) fun h' e' sb => q' h' ⟨hlt, e'⟩ sb
        rw [← Array.getElem?_toList, hy]; exact z
      · intro A' s k Q E hh hJ ho' hy q'
        refine set_next_end (slot := 0) hh hJ.2 ho' hd hf (fun A'' Q'' E'' z => setNext_text hx ho' hd hf ?_) q'
        rw [← Array.getElem?_toList, hy]; exact z
    | false =>
      have hled' : t.led = true := by rw [hled, hx]; rfl
      cases hdr : (!t.plain && decide (es.size > 1)) with
      | false =>
        show wpAny _ _ (if (!C.w.params.followText "set-order" && (!t.plain && decide (es.size > 1))) = true then _ else _) _ _ _
        rw [if_neg (by rw [hdr]; simp)]
        refine wpAny_bind (wpAny_pure ?_)
        have hpsz : t.place.size = es.size := by simp only [SetTable.fits, Bool.and_eq_true, beq_iff_eq] at hf; exact hf.1
        refine fin (fun k hp => k ≤ es.size ∧ hp.get? w.s.heap.objs.size = some (setIter (.int ((match k with | 0 => 0 | k + 1 => t.place.getD k 0 + 1 : Nat) : Int) 0) k a es.size ep)) es.toList 0 rfl (.refl _) ⟨Nat.zero_le _, Heap.get?_push_size _ rfl⟩ fun l hl2 hl3 => ?_
        refine itr_set (by simp) hd hf hl2 hl3 (fun k hp hJ => ⟨_, hJ.2⟩) (fun k hp hJ b hb => (List.mem_singleton.mp hb) ▸ ⟨_, hJ.2⟩) (fun k hp hp' hJ e => ⟨hJ.1, (e _ (by simp)).trans hJ.2⟩) (fun k hp hJ => by simpa using hJ.1) ?_ ?_
        · intro A' s k e Q E hJ ho' hy q'
          have hlt : k < es.size := by simpa using (List.getElem?_eq_some_iff.mp hy).1
          have hpl : k < t.place.size := by omega
          refine set_next_item (nx := t.place.getD k 0 + 1) hJ.2 ho' hd hf (fun A'' Q'' E'' z => setNext_plain hx hdr hled' ho' hd hf hr rfl hJ.1 ?_) fun h' e' sb => q' h' ⟨hlt, e'⟩ sb
          rw [← Array.getElem?_toList, hy, Array.getElem?_eq_getElem hpl]
          have : t.place.getD k 0 = t.place[k] := by simp [Array.getD, hpl]
          rw [this] at z; exact z
        · intro A' s k Q E hh hJ ho' hy q'
          refine set_next_end hh hJ.2 ho' hd hf (fun A'' Q'' E'' z => setNext_plain hx hdr hled' ho' hd hf hr rfl hJ.1 ?_) q'
          rw [← Array.getElem?_toList, hy]; exact z
      | true =>
        show wpAny _ _ (if (!C.w.params.followText "set-order" && (!t.plain && decide (es.size > 1))) = true then _ else _) _ _ _
        rw [if_pos (by rw [hdr, hx]; rfl)]
        refine wpAny_bind (draw_order _ _ _ _ (by simp) fun pl d hp => ?_)
        refine wpAny_bind (wpAny_newObj_type ?_ (by show (pl.map fun (i : Nat) => rawInt i).toArray.size ≤ _; rw [List.size_toArray, List.length_map, hp.length_eq, List.length_range]; have := fits_of_scanBound hb; exact this))
        have hT0 : (w.s.heap.push { cls := .type "tuple", data := .seq (pl.map fun (i : Nat) => rawInt i).toArray }).get? w.s.heap.objs.size = some _ := Heap.get?_push_size _ rfl
        have ho1 : (w.s.heap.push { cls := .type "tuple", data := .seq (pl.map fun (i : Nat) => rawInt i).toArray }).get? a = some o := Heap.get?_push_of_some _ ho
        refine wpAny_bind (wpAny_setEpoch_of (s := { w.s with drawn := d, heap := w.s.heap.push { cls := .type "tuple", data := .seq (pl.map fun (i : Nat) => rawInt i).toArray } }) ho1 hd hf ?_)
        refine wpAny_bind (wpAny_newObj_type (wpAny_pure ⟨_, rfl, "set_iterator", _, ⟨_, Heap.get?_push_size _ rfl, rfl⟩, FF.slot_setiter_next.lookup, ?_⟩))
        have hys : (pl.filterMap fun j => es[j]?).Perm es.toList := (hp.filterMap _).trans (by rw [filterMap_getElem?_range])
        have hall : ∀ (k : Nat), (pl.filterMap fun j => es[j]?)[k]? = (pl[k]?).bind fun j => es[j]? := by
          have hmem' : ∀ j ∈ pl, j < es.size := fun j hj => by simpa using hp.mem_iff.mp hj
          clear hp hT0 ho1 hys
          intro k
          induction pl generalizing k with
          | nil => simp
          | cons j pl ih =>
            have hj := hmem' j (by simp)
            rw [List.filterMap_cons, Array.getElem?_eq_getElem hj]
            cases k with
            | zero => simp [hj]
            | succ k => simpa using ih (fun j hj => hmem' j (by simp [hj])) k
        have hylen : (pl.filterMap fun j => es[j]?).length = es.size := by rw [hys.length_eq]; simp
        have hpllen : pl.length = es.size := by rw [hp.length_eq]; simp
        obtain ⟨l, hl1, hl2, hl3⟩ := order_keys hel hmem hnd hel' hys
        have hszT : (w.s.heap.push { cls := .type "tuple", data := .seq (pl.map fun (i : Nat) => rawInt i).toArray }).objs.size = w.s.heap.objs.size + 1 := Heap.size_push ..
        have hn1 : w.s.heap.get? (w.s.heap.objs.size + 1) = none := fresh_none (Nat.le_succ _)
        have off1 := R.off_fresh hn1
        show Q' (.ref (w.s.heap.push { cls := .type "tuple", data := .seq (pl.map fun (i : Nat) => rawInt i).toArray }).objs.size) _
        rw [hszT]
        have keep : ∀ b o, w.s.heap.get? b = some o → ((w.s.heap.push { cls := .type "tuple", data := .seq (pl.map fun (i : Nat) => rawInt i).toArray }).push (setIter (.ref w.s.heap.objs.size) 0 a es.size ep)).get? b = some o := fun b o e => Heap.get?_push_of_some _ (Heap.get?_push_of_some _ e)
        have hIget : ((w.s.heap.push { cls := .type "tuple", data := .seq (pl.map fun (i : Nat) => rawInt i).toArray }).push (setIter (.ref w.s.heap.objs.size) 0 a es.size ep)).get? (w.s.heap.objs.size + 1) = some (setIter (.ref w.s.heap.objs.size) 0 a es.size ep) := by rw [← hszT]; exact Heap.get?_push_size _ rfl
        refine kk (.ref (w.s.heap.objs.size + 1)) [w.s.heap.objs.size + 1, w.s.heap.objs.size] (fun k hp => k ≤ es.size ∧ hp.get? (w.s.heap.objs.size + 1) = some (setIter (.ref w.s.heap.objs.size) k a es.size ep) ∧ hp.get? w.s.heap.objs.size = some { cls := .type "tuple", data := .seq (pl.map fun (i : Nat) => rawInt i).toArray })
          ⟨w.g, w.ρ, { w.s with drawn := d, heap := (w.s.heap.push { cls := .type "tuple", data := .seq (pl.map fun (i : Nat) => rawInt i).toArray }).push (setIter (.ref w.s.heap.objs.size) 0 a es.size ep) }⟩ _ _ _ (.ref i) (.ref a) (q o l hl1) (Ext.growS keep) (R1.growS keep rfl rfl) (by simp; exact ⟨hn1, hn0⟩) (by simp; exact ⟨off1, off0⟩) ⟨Nat.zero_le _, hIget, Heap.get?_push_of_some _ hT0⟩ (.ref hi) ?_
        refine itr_set (ys := pl.filterMap fun j => es[j]?) (by simp) hd hf hl2 hl3 (fun k hp hJ => ⟨_, hJ.2.1⟩) (fun k hp hJ b hb => ?_) (fun k hp hp' hJ e => ⟨hJ.1, (e _ (by simp)).trans hJ.2.1, (e _ (by simp)).trans hJ.2.2⟩) (fun k hp hJ => by rw [hylen]; exact hJ.1) ?_ ?_
        · rcases List.mem_cons.mp hb with rfl | hb
          · exact ⟨_, hJ.2.1⟩
          · rw [List.mem_singleton.mp hb]; exact ⟨_, hJ.2.2⟩
        · intro A' s k e Q E hJ ho' hy q'
          have hlt : k < es.size := by rw [← hylen]; exact (List.getElem?_eq_some_iff.mp hy).1
          have hpk : pl[k]? = some pl[k] := List.getElem?_eq_getElem (by omega)
          rw [hall k, hpk] at hy
          exact set_next_draw_item hJ.2.1 hJ.2.2 rfl ho' hd hf hpk hy fun h' e' sb => q' h' ⟨hlt, e', (sb.2 _ (Nat.ne_of_lt (Nat.lt_succ_self _))).trans hJ.2.2⟩ sb
        · intro A' s k Q E hh hJ ho' hy q'
          have : pl[k]? = none := by
            rw [List.getElem?_eq_none_iff] at hy ⊢; omega
          exact set_next_draw_end hh hJ.2.1 hJ.2.2 rfl ho' hd hf this q'⟩
end
end Mine
namespace Mine
section
variable {C : Cx} {n : Nat} {F : Fr} {loc : Loc} {h : Hs} {Q : V → Hs → Prop} {QB : Bool → Hs → Prop} {QM : V → List V → Hs → Prop}
/-- calls with written arguments -/
theorem cl1 {f a : V} (H : ∀ (A : Around) (w : Wd) (Q' : Value → Shared → Prop) (E : Value → Shared → Prop) (fx x : Value), AOk A n → Rep C w h → Conc C w.g w.ρ f fx → Conc C w.g w.ρ a x →
    (∀ (r : Value) (v : V) (h' : Hs) (w' : Wd), Q v h' → Ext C [] w w' → Rep C w' h' → Conc C w'.g w'.ρ v r → Q' r w'.s) → wpAny C.M A (call fx [x]) Q' E w.s) : Cl C n h f [a] [] Q := ⟨fun A w Q' E fx xs ks a0 R cf cx hk ck c => by
  cases cx with
  | cons cx cn =>
    cases cn
    cases ks with
    | cons _ _ => cases hk
    | nil => exact H A w Q' E fx _ a0 R cf cx c⟩
theorem cl2 {f a b : V} (H : ∀ (A : Around) (w : Wd) (Q' : Value → Shared → Prop) (E : Value → Shared → Prop) (fx x y : Value), AOk A n → Rep C w h → Conc C w.g w.ρ f fx → Conc C w.g w.ρ a x → Conc C w.g w.ρ b y →
    (∀ (r : Value) (v : V) (h' : Hs) (w' : Wd), Q v h' → Ext C [] w w' → Rep C w' h' → Conc C w'.g w'.ρ v r → Q' r w'.s) → wpAny C.M A (call fx [x, y]) Q' E w.s) : Cl C n h f [a, b] [] Q := ⟨fun A w Q' E fx xs ks a0 R cf cx hk ck c => by
  cases cx with
  | cons cx cx' => cases cx' with
    | cons cy cn =>
      cases cn
      cases ks with
      | cons _ _ => cases hk
      | nil => exact H A w Q' E fx _ _ a0 R cf cx cy c⟩
theorem cl0 {f : V} (H : ∀ (A : Around) (w : Wd) (Q' : Value → Shared → Prop) (E : Value → Shared → Prop) (fx : Value), AOk A n → Rep C w h → Conc C w.g w.ρ f fx →
    (∀ (r : Value) (v : V) (h' : Hs) (w' : Wd), Q v h' → Ext C [] w w' → Rep C w' h' → Conc C w'.g w'.ρ v r → Q' r w'.s) → wpAny C.M A (call fx []) Q' E w.s) : Cl C n h f [] [] Q := ⟨fun A w Q' E fx xs ks a0 R cf cx hk ck c => by
  cases cx
  cases ks with
  | cons _ _ => cases hk
  | nil => exact H A w Q' E fx a0 R cf c⟩
/-- a set, frozen or not -/
def IsSet (h : Hs) : V → List Key → Prop
  | .fset a, b => a = b
  | .ref i, b => h.σ i = .set b ∨ ∃ o, h.σ i = .setO o b
  | _, _ => False
theorem IsSet.at {v : V} {ks : List Key} {x : Value} {w : Wd} (hv : IsSet h v ks) (R : Rep C w h) (c : Conc C w.g w.ρ v x) : ∃ a, x = .ref a ∧ SetAt C w.s.heap a ks := by
  cases v with
  | fset b =>
    cases hv
    cases c with
    | fset hg ho => exact ⟨_, rfl, _, R.keep _ _ hg, ho⟩
  | ref i =>
    cases c with
    | ref hi =>
      obtain ⟨o, h1, h2⟩ := R.obj i _ hi
      rcases hv with hv | ⟨o', hv⟩
      · rw [hv] at h2; exact ⟨_, rfl, o, h1, h2⟩
      · rw [hv] at h2; exact ⟨_, rfl, o, h1, h2.2⟩
  | _ => exact hv.elim
theorem cl_set0 (q : Q (.ref h.nx) (h.new (.set []))) : Cl C n h (.ty "set") [] [] Q := cl0 fun A w Q' E fx a0 R cf c => by
  obtain rfl := cf.toInv
  have hn : w.s.heap.get? w.s.heap.objs.size = none := fresh_none (Nat.le_refl _)
  exact set_call0 (c _ _ _ (w.more _ _ w.s.toks) q (Ext.fresh hn push_keeps) (R.fresh hn push_keeps (Heap.get?_push_size _ rfl) freshSet_obj (R.fresh0 hn)) (.ref R.more_at))
theorem mth_set_add {v : V} {ks : List Key} (hv : IsSet h v ks) (q : QM (.blt "set.add") [v] h) : Mth C n h v "add" QM := ⟨fun A w Q' E x pl a0 R cx c => by
  obtain ⟨a, rfl, hS⟩ := hv.at R cx
  exact getMethod_set_add hS.setOf (c _ _ _ _ h w q .refl R (.blt _) (.cons cx .nil))⟩
theorem cl_set_add {i : Nat} {k : Key} {ks : List Key} (hv : h.σ i = .set ks) (hz : ks.length + 1 < scanBound) (q : Q .none (h.upd i (.set (sadd ks k)))) : Cl C n h (.blt "set.add") [.ref i, k.v] [] Q := cl2 fun A w Q' E fx x y a0 R cf cx cy c => by
  obtain rfl := cf.toInv
  cases cx with
  | ref hi =>
    obtain ⟨o, h1, h2⟩ := R.obj i _ hi
    rw [hv] at h2
    have hS : SetAt C w.s.heap _ ks := ⟨o, h1, h2⟩
    refine wpAny_call_entry PySem.F.slot_set_add hS.typeIs PySem.F.entry_set_add ?_ (PySem.F.args_set_add_2 _ _)
    unfold Builtin.«set.add» Builtin.Frozenset.oneOther
    simp only [List.isEmpty_nil, bind_assoc]
    unfold Builtin.Frozenset.addrOf setAdd
    refine wpAny_bind (wpAny_pure ?_)
    try dsimp only
    refine wpAny_bind (wpAny_pure ?_)
    try dsimp only
    refine wpAny_bind (wpAny_holding (wpAny_bind (C.k.pyHash (key_is cy) ?_)))
    refine setAdd_strong (s := { w.s with toks := w.s.toks + 1 }) (key_is cy) (key_scan cy) hS hz fun b h' sb ⟨o', ho', hS'⟩ => ?_
    show wpAny _ _ (ret Value.none) _ _ _
    have sb' : ∀ b o, b ≠ _ → w.s.heap.get? b = some o → h'.get? b = some o := fun b o hb e => (sb.2 b hb).trans e
    exact wpAny_pure ⟨_, rfl, c _ _ _ (w.at h' _) q (Ext.change hi sb' ho') (R.change hi (by rw [hv]; simp) sb' ho' hS') .none⟩
/-- set(list) -/
theorem cl_set_list {v : V} {xs : List V} {keys : List Key} (hv : IsLst h v xs) (hk : xs = keys.map Key.v) (hz : xs.length < scanBound) (q : Q (.ref h.nx) (h.new (.set (keys.foldl sadd [])))) : Cl C n h (.ty "set") [v] [] Q := cl1 fun A w Q' E fx x a0 R cf cx c => by
  obtain rfl := cf.toInv
  obtain ⟨l, vs, rfl, hl, cs, hin⟩ := hv.at R cx
  subst hk
  have hn : w.s.heap.get? w.s.heap.objs.size = none := fresh_none (Nat.le_refl _)
  refine set_call (.inr ⟨_, rfl⟩) ?_
  have hl1 : (w.s.heap.push (freshSet C)).IsList l vs := hl.isList.push _
  have hll : l < w.s.heap.objs.size := by obtain ⟨k, e⟩ := hl; exact Heap.lt_size e
  have hsls := PySem.F.sub_list_set
  have hslf := PySem.F.sub_list_frozenset
  have hne : (Value.type "list" == Value.type "dict") = false := by decide
  obtain ⟨nl, hol⟩ := hl
  have hol' : (w.s.heap.push (freshSet C)).get? l = some { cls := .type "list", dict := none, data := .seq vs nl, slots := #[] } := Heap.get?_push_of_some _ hol
  unfold Builtin.«set.__init__» noKeywords Builtin.Frozenset.updateFrom
  generalize hPI : pyIter = PI
  wp_walk
  subst hPI
  refine wpAny_pyIter_list hl1 ?_
  refine wpAny_bind (wpAny_runValue ?_)
  have hsz : (w.s.heap.push (freshSet C)).objs.size = w.s.heap.objs.size + 1 := Heap.size_push ..
  have hsv : vs.size = (keys.map Key.v).length := by rw [← Array.length_toList, cs.length]
  refine set_loop (l := l) (I := (w.s.heap.push (freshSet C)).objs.size) (S := w.s.heap.objs.size) (by simpa using a0.handled) (Nat.ne_of_lt (by rw [hsz]; exact Nat.lt_succ_of_lt hll)) (Nat.ne_of_lt (by rw [hsz]; exact Nat.lt_succ_self _)) (Nat.ne_of_gt hll) vs keys (by rw [hsv]; simp) (fun j k v hj hv => ?_) _ 0 _ [] rfl (Nat.zero_le _) ⟨_, Heap.get?_push_size _ rfl, rfl, rfl⟩ (hl1.push _) ⟨_, Heap.get?_push_of_some _ (Heap.get?_push_size _ rfl), freshSet_obj⟩ (by rw [hsv]; simpa using hz) fun h' tk keep hS => ?_
  · obtain ⟨y, hy, cy⟩ := cs.get (k := j) (v := k.v) (by rw [List.getElem?_map, hj]; rfl)
    rw [Array.getElem?_toList, hv] at hy
    cases hy
    exact ⟨key_is cy, key_scan cy⟩
  · refine wpAny_pure ?_
    obtain ⟨o', ho', hS'⟩ := hS
    show wpAny _ _ (ret Value.none) _ _ _
    have keep' : ∀ b o, w.s.heap.get? b = some o → h'.get? b = some o := fun b o e => keep b o (Nat.ne_of_lt (Heap.lt_size e)) (Nat.ne_of_lt (by rw [hsz]; exact Nat.lt_succ_of_lt (Heap.lt_size e))) (Heap.get?_push_of_some _ (Heap.get?_push_of_some _ e))
    exact wpAny_pure ⟨rfl, c _ _ _ (w.more _ h' tk) q (Ext.fresh hn keep') (R.fresh hn keep' ho' hS' (R.fresh0 hn)) (.ref R.more_at)⟩
end
end Mine
namespace Mine
namespace FF
end FF
section
variable {C : Cx} {n : Nat} {A : Around} {E : Value → Shared → Prop} {s : Shared} {a b : Addr} {ka kb : List Key}
theorem quiet_eq {x : Value} {Q : Bool → Shared → Prop} (hx : x.scannable = true) (q : Q true s) : wpAny C.M A (Builtin.Frozenset.quietEq x) Q E s := by
  unfold Builtin.Frozenset.quietEq
  cases x <;> first | (cases hx; done) | exact wpAny_pure q
theorem walk_unseen {oa ob : Obj} {es es' : Array (Int × Value)} {ep ep' : Nat} {t t' : SetTable} {Q : List (Int × Value) → Shared → Prop} (ha : s.heap.get? a = some oa) (hb : s.heap.get? b = some ob) (hda : oa.data = .set es ep t) (hdb : ob.data = .set es' ep' t') (hfa : t.fits es.size = true) (hfb : t'.fits es'.size = true)
    (ea : ElemsOf C.k es.toList) (eb : ElemsOf C.k es'.toList) (q : Q es.toList s) : wpAny C.M A (Builtin.Frozenset.walkUnseen a b) Q E s := by
  unfold Builtin.Frozenset.walkUnseen
  refine wpAny_bind (wpAny_setEntries_of ha hda hfa ?_)
  refine wpAny_bind (wpAny_setEntries_of hb hdb hfb ?_)
  have hall : ∀ e ∈ es.toList ++ es'.toList, e.2.scannable = true := fun e he => by
    rcases List.mem_append.mp he with z | z
    · exact (ea e z).2
    · exact (eb e z).2
  refine wpAny_bind (wpAny_forIn_list _ (fun rest b s' => s' = s ∧ b = (none, ()) ∧ ∀ e ∈ rest, e.2.scannable = true) _ ?_ ?_ _ _ ⟨rfl, rfl, hall⟩)
  · rintro ⟨h1, x⟩ rest b s' ⟨rfl, rfl, hr⟩
    refine wpAny_bind (quiet_eq (hr (h1, x) (by simp)) ?_)
    exact wpAny_pure ⟨rfl, rfl, fun e he => hr e (by simp [he])⟩
  · rintro b s' ⟨rfl, rfl, _⟩
    exact wpAny_pure q
theorem subset_of {id : String} {oa ob : Obj} {es es' : Array (Int × Value)} {ep ep' : Nat} {t t' : SetTable} {Q : Bool → Shared → Prop} (ha : s.heap.get? a = some oa) (hb : s.heap.get? b = some ob) (hda : oa.data = .set es ep t) (hdb : ob.data = .set es' ep' t') (hfa : t.fits es.size = true) (hfb : t'.fits es'.size = true)
    (ea : ElemsOf C.k es.toList) (hma : ∀ k, k ∈ ka ↔ ∃ e ∈ es.toList, C.k.is k e.2 = true) (hSb : SetAt C s.heap b kb) (hsz : es.size = es'.size) (q : Q (ka.all (· ∈ kb)) s) : wpAny C.M A (Builtin.Frozenset.subsetOf id a b) Q E s := by
  have eb : ElemsOf C.k es'.toList := by
    obtain ⟨o, ho, es2, ep2, t2, _, hd2, h3, _⟩ := hSb
    rw [hb] at ho; cases ho
    rw [hdb] at hd2; cases hd2
    exact h3
  have hSof := hSb.setOf
  unfold Builtin.Frozenset.subsetOf Builtin.Frozenset.sizeOf
  refine wpAny_bind (wpAny_bind (wpAny_setEntries_of ha hda hfa (wpAny_pure ?_)))
  refine wpAny_bind (wpAny_bind (wpAny_setEntries_of hb hdb hfb (wpAny_pure ?_)))
  rw [if_neg (by rw [hsz]; simp)]
  refine wpAny_bind (wpAny_setEpoch_of ha hda hfa ?_)
  refine wpAny_bind (walk_unseen ha hb hda hdb hfa hfb ea eb ?_)
  refine wpAny_bind (wpAny_mono (wpAny_forIn_list _ (fun rest b' s' => s' = s ∧ b' = (none, ()) ∧ ∃ pre, pre ++ rest = es.toList ∧ ∀ e ∈ pre, ∀ k, C.k.is k e.2 = true → k ∈ kb) (fun b' s' => s' = s ∧ (b' = (none, ()) ∧ ka.all (· ∈ kb) = true ∨ b' = (some false, ()) ∧ ka.all (· ∈ kb) = false)) ?_ ?_ es.toList (none, ()) ⟨rfl, rfl, [], rfl, fun e he => by cases he⟩) (fun b' s' hz => ?_) fun _ _ x => x)
  · rintro ⟨h1, x⟩ rest b' s' ⟨rfl, rfl, pre, hp, hpre⟩
    have hmem : (h1, x) ∈ es.toList := by rw [← hp]; simp
    obtain ⟨⟨k, hk, hh⟩, hsc⟩ := ea _ hmem
    have hh : h1 = C.k.hash k := hh
    subst hh
    refine wpAny_bind (wpAny_holding (wpAny_setFind_of hk hsc hSof fun r hr => ?_))
    have hka : k ∈ ka := (hma k).mpr ⟨_, hmem, hk⟩
    cases hkb : decide (k ∈ kb) with
    | false =>
      have : r = none := by rw [hkb] at hr; simpa using hr
      rw [this]
      refine wpAny_pure ⟨rfl, .inr ⟨rfl, ?_⟩⟩
      rw [← Bool.not_eq_true, List.all_eq_true]
      intro z; have := z k hka; rw [hkb] at this; cases this
    | true =>
      have : r.isNone = false := by rw [hkb] at hr; cases r <;> simp_all
      rw [this]
      unfold Builtin.Frozenset.unchanged
      refine wpAny_bind (wpAny_bind (wpAny_setEpoch_of ha hda hfa ?_))
      rw [if_neg (by simp)]
      refine wpAny_pure (wpAny_pure ⟨rfl, rfl, pre ++ [(C.k.hash k, x)], by rw [← hp]; simp, fun e he k' hk' => ?_⟩)
      rcases List.mem_append.mp he with z | z
      · exact hpre e z k' hk'
      · rw [List.mem_singleton.mp z] at hk'
        rw [C.k.inj x k' k hk' hk]; simpa using hkb
  · rintro b' s' ⟨rfl, rfl, pre, hp, hpre⟩
    refine ⟨rfl, .inl ⟨rfl, List.all_eq_true.mpr fun k hk => ?_⟩⟩
    obtain ⟨e, he, hk'⟩ := (hma k).mp hk
    rw [List.append_nil] at hp
    simpa using hpre e (hp ▸ he) k hk'
  · obtain ⟨rfl, ⟨rfl, hz⟩ | ⟨rfl, hz⟩⟩ := hz
    · rw [hz] at q; exact wpAny_pure q
    · rw [hz] at q; exact wpAny_pure q
theorem set_eq_call {Q : Value → Shared → Prop} (ha : SetAt C s.heap a ka) (hb : SetAt C s.heap b kb) (q : Q (.bool (decide (ka.length = kb.length) && ka.all (· ∈ kb))) s) : wpAny C.M A (call (.builtin "set.__eq__") [.ref a, .ref b]) Q E s := by
  have hTa := ha.typeIs
  have hTb := hb.typeIs
  obtain ⟨oa, hoa, es, ep, t, hxa, hda, hea, hma, hna, hla, _, hfa, _⟩ := id ha
  obtain ⟨ob, hob, es', ep', t', hxb, hdb, heb, hmb, hnb, hlb, _, hfb, _⟩ := id hb
  refine wpAny_call_entry PySem.F.slot_set_eq hTa FF.entry_set_eq ?_ (PySem.F.args_set_eq_2 _ _)
  show wpAny _ _ (Builtin.Frozenset.slot1 "__eq__" ⟨[.ref a, .ref b], []⟩ >>= _) _ _ _
  refine wpAny_bind (wpAny_pure ?_)
  dsimp only
  unfold Builtin.Frozenset.isAnySet
  refine wpAny_bind (wpAny_bind (m := isInstance _ _) (wpAny_isInstance hTb sub_set_self (wpAny_pure ?_)))
  show wpAny _ _ (if (!true) = true then _ else _) _ _ _
  rw [if_neg (by simp)]
  refine wpAny_bind (m := Builtin.Frozenset.addrOf _) (wpAny_pure ?_)
  refine wpAny_bind (m := Builtin.Frozenset.addrOf _) (wpAny_pure ?_)
  unfold Builtin.Frozenset.sizeOf
  refine wpAny_bind (wpAny_bind (wpAny_setEntries_of hoa hda hfa (wpAny_pure ?_)))
  refine wpAny_bind (wpAny_bind (wpAny_setEntries_of hob hdb hfb (wpAny_pure ?_)))
  refine wpAny_bind ?_
  by_cases hl : es.size = es'.size
  · rw [if_neg (by simp [hl])]
    refine wpAny_bind (wpAny_bind (m := isInstance _ _) (wpAny_isInstance hTa FF.sub_set_frozen (wpAny_pure ?_)))
    rw [if_neg (by simp)]
    refine subset_of hoa hob hda hdb hfa hfb hea hma hb hl (wpAny_pure ⟨_, rfl, ?_⟩)
    have : decide (ka.length = kb.length) = true := by rw [← hla, ← hlb, hl]; simp
    rw [this, Bool.true_and] at q; exact q
  · rw [if_pos (by simp [hl])]
    have : decide (ka.length = kb.length) = false := by rw [← hla, ← hlb]; simpa using hl
    rw [this, Bool.false_and] at q
    exact wpAny_pure (wpAny_pure ⟨_, rfl, q⟩)
end
section
variable {C : Cx} {n : Nat} {h : Hs} {Q : V → Hs → Prop}
theorem set_eq {u v : V} {ka kb : List Key} (hu : IsSet h u ka) (hv : IsSet h v kb) (q : Q (.bool (decide (ka.length = kb.length) && ka.all (· ∈ kb))) h) : Op2 C n (compareOp .Eq) h u v Q := ⟨fun A w Q' E x y a0 R cx cy c => by
  obtain ⟨a, rfl, ha⟩ := hu.at R cx
  obtain ⟨b, rfl, hb⟩ := hv.at R cy
  show wpAny _ _ (richCompare .Eq _ _) _ _ _
  refine wpAny_richCompare_same_room ha.typeIs hb.typeIs PySem.F.slot_set_eq (set_eq_call ha hb ⟨by simp, c _ _ h w q .refl R (.bool _)⟩) (by have := a0.units; omega)⟩
end
end Mine
namespace Mine
/-- a thing whose items are not told by a Python method -/
def NotPy (C : Cx) (h : Hs) (a : V) : Prop := ∀ (A : Around) (w : Wd) (x : Value) (Q' : Bool → Shared → Prop) (E : Value → Shared → Prop), Rep C w h → Conc C w.g w.ρ a x → Q' false w.s → wpAny C.M A (getitemInPython x) Q' E w.s
/-- a part of a slice -/
structure EvO (C : Cx) (n : Nat) (F : Fr) (loc : Loc) (h : Hs) (e : Option Expr) (Q : V → Hs → Prop) : Prop where
  run : ∀ (A : Around) (w : Wd) (Q' : Value → Shared → Prop) (E : Value → Shared → Prop), AOk A n → Rep C w h → Frm C w F loc →
    (∀ (x : Value) (v : V) (h' : Hs) (w' : Wd), Q v h' → Ext C [] w w' → Rep C w' h' → Conc C w'.g w'.ρ v x → Q' x w'.s) → wpAny C.M A (evalPart e F.env) Q' E w.s
/-- a slice of a thing -/
structure Slc (C : Cx) (n : Nat) (h : Hs) (o l u st : V) (Q : V → Hs → Prop) : Prop where
  run : ∀ (A : Around) (w : Wd) (Q' : Value → Shared → Prop) (E : Value → Shared → Prop) (x vl vu vs : Value) (a : Addr), AOk A n → Rep C w h → Conc C w.g w.ρ o x → Conc C w.g w.ρ l vl → Conc C w.g w.ρ u vu → Conc C w.g w.ρ st vs → w.s.heap.get? a = some { cls := .type "slice", data := .fields #[vl, vu, vs] } →
    (∀ (r : Value) (v : V) (h' : Hs) (w' : Wd), Q v h' → Ext C [] w w' → Rep C w' h' → Conc C w'.g w'.ρ v r → Q' r w'.s) → wpAny C.M A (getItem x (.ref a)) Q' E w.s
section
variable {C : Cx} {n : Nat} {F : Fr} {loc : Loc} {h : Hs} {Q : V → Hs → Prop} {QB : Bool → Hs → Prop} {QF : Fl → Loc → Hs → Prop} {QL : Loc → Hs → Prop} {QU : Hs → Prop} {QM : V → List V → Hs → Prop}
theorem notPy_of {a : V} {T id : String} (hl : typeLookup (.type T) "__getitem__" = pure (some (.builtin id))) (H : ∀ w x, Rep C w h → Conc C w.g w.ρ a x → w.s.TypeIs x T) : NotPy C h a := fun A w x Q' E R c q => by
  have hT := H w x R c
  rw [getitemInPython_of_ne hT.not_modules]
  refine wpAny_bind (wpAny_specialOf hT hl ?_)
  exact wpAny_pure q
theorem ev_sub {o i : Expr} {p : Pos} (H : Ev C n F loc h o fun a h1 => Ev C n F loc h1 i fun b h2 => NotPy C h2 a ∧ Op2 C n getItem h2 a b Q) (hs : ∀ x y, subscripted i false x y = operate [x, y] (getItem x y) := by intro _ _; rfl) : Ev C n F loc h (.Subscript o i p) Q := ⟨fun A w Q' E a0 R f c => by
  refine Subscript_ (H.run A w _ _ a0 R f fun x a h1 w1 q1 e1 R1 c1 => q1.run A w1 _ _ a0 R1 (f.ext0 e1) fun y b h2 w2 q2 e2 R2 c2 => ?_)
  unfold subscriptTail
  refine wpAny_bind (q2.1 A w2 x _ _ R2 (c1.ext e2) (wpAny_bind ?_))
  rw [hs]
  refine wpAny_operating (q2.2.run A w2 _ _ x y a0 R2 (c1.ext e2) c2 fun z v h3 w3 q3 e3 R3 c3 => ?_)
  exact wpAny_bind (wpAny_letTemporaryGo (wpAny_pure (c z v h3 w3 q3 (e1.trans (e2.trans e3)) R3 c3)))⟩
theorem evO_none (q : Q .none h) : EvO C n F loc h none Q := ⟨fun A w Q' E a0 R f c => wpAny_pure (c _ _ h w q .refl R .none)⟩
theorem evO_some {e : Expr} (H : Ev C n F loc h e Q) : EvO C n F loc h (some e) Q := ⟨fun A w Q' E a0 R f c => H.run A w Q' E a0 R f c⟩
theorem ev_slice {o : Expr} {lo hi st : Option Expr} {p p' : Pos} (H : Ev C n F loc h o fun a h1 => EvO C n F loc h1 lo fun l h2 => EvO C n F loc h2 hi fun u h3 => EvO C n F loc h3 st fun s h4 => NotPy C h4 a ∧ Slc C n h4 a l u s Q) : Ev C n F loc h (.Subscript o (.Slice lo hi st p) p') Q := ⟨fun A w Q' E a0 R f c => by
  refine Subscript_ (H.run A w _ _ a0 R f fun x a h1 w1 q1 e1 R1 c1 => wpAny_Slice (q1.run A w1 _ _ a0 R1 (f.ext0 e1) fun y l h2 w2 q2 e2 R2 c2 => q2.run A w2 _ _ a0 R2 ((f.ext0 e1).ext0 e2) fun z u h3 w3 q3 e3 R3 c3 => q3.run A w3 _ _ a0 R3 (((f.ext0 e1).ext0 e2).ext0 e3) fun t s h4 w4 q4 e4 R4 c4 => ?_))
  have e5 : Ext C [] w4 (w4.at (w4.s.heap.push { cls := .type "slice", data := .fields #[y, z, t] }) w4.s.toks) := Ext.grow push_keeps
  have R5 := R4.grow (k := w4.s.toks) (push_keeps (o := { cls := .type "slice", data := .fields #[y, z, t] }))
  unfold subscriptTail
  refine wpAny_bind (q4.1 A (w4.at _ w4.s.toks) x _ _ R5 ((((c1.ext e2).ext e3).ext e4).ext e5) (wpAny_bind ?_))
  have fin : wpAny C.M A (getItem x (.ref w4.s.heap.objs.size)) (fun r s₃ => wpAny C.M A (letTemporaryGo o x r >>= fun _ => pure r) Q' E s₃) E (w4.at (w4.s.heap.push { cls := .type "slice", data := .fields #[y, z, t] }) w4.s.toks).s :=
    q4.2.run A (w4.at _ w4.s.toks) _ _ x y z t _ a0 R5 ((((c1.ext e2).ext e3).ext e4).ext e5) (((c2.ext e3).ext e4).ext e5) ((c3.ext e4).ext e5) (c4.ext e5) (Heap.get?_push_size _ rfl) fun r v h6 w6 q6 e6 R6 c6 => wpAny_bind (wpAny_letTemporaryGo (wpAny_pure (c r v h6 w6 q6 (e1.trans (e2.trans (e3.trans (e4.trans (e5.trans e6))))) R6 c6)))
  cases st with
  | none => exact wpAny_operating fin
  | some e => exact wpAny_operating fin⟩
/-- displays -/
theorem ev_list {es : List Expr} {p : Pos} (H : Evs C n F loc h es fun vs h1 => vs.length ≤ sizeLine ∧ Q (.ref h1.nx) (h1.new (.list vs))) : Ev C n F loc h (.List es p) Q := ⟨fun A w Q' E a0 R f c =>
  wpAny_List (H.run A w p _ _ a0 R f fun xs vs h1 w1 ⟨hz, q1⟩ e1 R1 c1 => by
    have hn : w1.s.heap.get? w1.s.heap.objs.size = none := fresh_none (Nat.le_refl _)
    exact ⟨by rw [c1.length]; exact hz, c _ _ _ (w1.more _ _ w1.s.toks) q1 (e1.trans (Ext.fresh hn push_keeps)) (R1.fresh hn push_keeps (Heap.get?_push_size _ rfl) ⟨xs.toArray, 0, rfl, by simpa using c1.mono (.refl _) (List.prefix_append _ _)⟩ (R1.fresh0 hn)) (.ref R1.more_at)⟩)⟩
/-- a display that is known to stay as it is -/
theorem ev_listF {es : List Expr} {p : Pos} (H : Evs C n F loc h es fun vs h1 => vs.length ≤ sizeLine ∧ Q (.lst vs) h1) : Ev C n F loc h (.List es p) Q := ⟨fun A w Q' E a0 R f c =>
  wpAny_List (H.run A w p _ _ a0 R f fun xs vs h1 w1 ⟨hz, q1⟩ e1 R1 c1 => by
    have hn : w1.s.heap.get? w1.s.heap.objs.size = none := fresh_none (Nat.le_refl _)
    exact ⟨by rw [c1.length]; exact hz, c _ _ _ (w1.frz _ _ _ w1.s.toks) q1 (e1.trans (Ext.frozen R1 hn push_keeps)) (R1.frozen hn push_keeps (Heap.get?_push_size _ rfl)) (.lst gset_self (c1.mono (gset_sub (R1.off_fresh hn).1) (List.prefix_refl _)))⟩)⟩
/-- index into a list -/
theorem notPy_lst {v : V} {xs : List V} (hv : IsLst h v xs) : NotPy C h v := notPy_of slot_list_getitem.lookup fun w x R c => by
  obtain ⟨a, vs, rfl, hl, _⟩ := hv.at R c; exact hl.isList.typeIs
theorem lst_get {v u : V} {xs : List V} {k : Int} {j : Nat} (hv : IsLst h v xs) (hz : xs.length ≤ sizeLine) (hj : seqIndex? k xs.length = some j) (hu : xs[j]? = some u) (q : Q u h) : Op2 C n getItem h v (.int k) Q := ⟨fun A w Q' E x y a0 R cx cy c => by
  obtain ⟨a, vs, rfl, hl, cs, _⟩ := hv.at R cx
  cases cy with
  | int _ t =>
    obtain ⟨z, hz', cz⟩ := cs.get hu
    have hlen : vs.size = xs.length := by rw [← Array.length_toList, cs.length]
    have hsl : (sizeLine : Int) < 2 ^ 63 := by decide
    have hx : vs[j]? = some z := by rw [← Array.getElem?_toList]; exact hz'
    unfold seqIndex? at hj
    by_cases h0 : k < 0
    · simp only [h0, if_true] at hj
      split at hj
      · rename_i hb
        simp only [Bool.and_eq_true, decide_eq_true_eq] at hb
        cases hj
        exact wpAny_getItem_list_neg hl.isList h0 (by rw [hlen]; omega) (by omega) (by rw [hlen]; exact hx) (c _ _ h w q .refl R cz)
      · cases hj
    · simp only [h0, if_false] at hj
      split at hj
      · rename_i hb
        simp only [Bool.and_eq_true, decide_eq_true_eq] at hb
        cases hj
        exact wpAny_getItem_list hl.isList (by omega) (by omega) hx (c _ _ h w q .refl R cz)
      · cases hj⟩
theorem lst_getN {v u : V} {xs : List V} {j : Nat} (hv : IsLst h v xs) (hz : xs.length ≤ sizeLine) (hu : xs[j]? = some u) (q : Q u h) : Op2 C n getItem h v (.int (j : Int)) Q :=
  lst_get hv hz (by
    have := (List.getElem?_eq_some_iff.mp hu).1
    have h0 : ¬ ((j : Int) < 0) := by omega
    unfold seqIndex?
    simp only [h0, if_false]
    rw [if_pos (by simp; omega)]; simp) hu q
def partV : Option Int → V
  | none => .none
  | some i => .int i
theorem part_is {g : G} {ρ : List Addr} {k : Option Int} {x : Value} (c : Conc C g ρ (partV k) x) : IsPart x k := by
  cases k <;> cases c <;> constructor
def pick {α : Type} (xs : List α) (lo hi st : Option Int) : List α :=
  (sliceRange (sliceBounds lo hi st xs.length).1 (sliceBounds lo hi st xs.length).2.1 (sliceBounds lo hi st xs.length).2.2).filterMap (xs[·]?)
theorem pick_plain {α : Type} (xs : List α) (lo hi : Option Int) : pick xs lo hi none = (xs.drop (lo.elim 0 (clipAt xs.length))).take (hi.elim xs.length (clipAt xs.length) - lo.elim 0 (clipAt xs.length)) := by
  unfold pick
  rw [sliceBounds_plain]
  simp only [sliceRange_one]
  have := pick_run xs.toArray (lo.elim 0 (clipAt xs.length)) (hi.elim xs.length (clipAt xs.length) - lo.elim 0 (clipAt xs.length))
  simpa using this
theorem Concs.picked {g : G} {ρ : List Addr} {xs : List V} {vs : List Value} (cs : Concs C g ρ xs vs) : ∀ l : List Nat, Concs C g ρ (l.filterMap (xs[·]?)) (l.filterMap (vs[·]?))
  | [] => .nil
  | i :: l => by
    simp only [List.filterMap_cons]
    cases e : xs[i]? with
    | none =>
      have : vs[i]? = none := by rw [List.getElem?_eq_none_iff, cs.length]; exact List.getElem?_eq_none_iff.mp e
      rw [this]; exact cs.picked l
    | some v => obtain ⟨x, hx, cx⟩ := cs.get e; rw [hx]; exact .cons cx (cs.picked l)
theorem slc_list {v : V} {xs : List V} {lo hi st : Option Int} (hv : IsLst h v xs) (hz : xs.length ≤ sizeLine) (h0 : st ≠ some 0) (q : Q (.ref h.nx) (h.new (.list (pick xs lo hi st)))) : Slc C n h v (partV lo) (partV hi) (partV st) Q := ⟨fun A w Q' E x vl vu vst a a0 R cx cl cu cst hs c => by
  obtain ⟨b, vs, rfl, hl, cs, _⟩ := hv.at R cx
  have hlen : vs.size = xs.length := by rw [← Array.length_toList, cs.length]
  have hn : w.s.heap.get? w.s.heap.objs.size = none := fresh_none (Nat.le_refl _)
  refine wpAny_getItem_list_slice hl.isList ⟨_, hs, rfl, rfl⟩ (part_is cl) (part_is cu) (part_is cst) h0 (c _ _ _ (w.more _ _ w.s.toks) q (Ext.fresh hn push_keeps) (R.fresh hn push_keeps (Heap.get?_push_size _ rfl) ⟨_, 0, rfl, ?_⟩ (R.fresh0 hn)) (.ref R.more_at)) (by rw [hlen]; exact hz)
  unfold slicePick pick
  rw [hlen]
  have := (cs.picked (sliceRange (sliceBounds lo hi st xs.length).1 (sliceBounds lo hi st xs.length).2.1 (sliceBounds lo hi st xs.length).2.2)).mono (.refl _) (List.prefix_append w.ρ [w.s.heap.objs.size])
  simpa using this⟩
theorem add_list {u v : V} {xs ys : List V} (hu : IsLst h u xs) (hv : IsLst h v ys) (hz : xs.length + ys.length ≤ sizeLine) (q : Q (.ref h.nx) (h.new (.list (xs ++ ys)))) : Op2 C n (binaryOp .Add) h u v Q := ⟨fun A w Q' E x y a0 R cx cy c => by
  obtain ⟨a, vs, rfl, ⟨na, ha⟩, cs, _⟩ := hu.at R cx
  obtain ⟨b, us, rfl, ⟨nb, hb⟩, cu, _⟩ := hv.at R cy
  have hn : w.s.heap.get? w.s.heap.objs.size = none := fresh_none (Nat.le_refl _)
  have hl1 : vs.size = xs.length := by rw [← Array.length_toList, cs.length]
  have hl2 : us.size = ys.length := by rw [← Array.length_toList, cu.length]
  refine concat_meets ⟨_, ha, rfl⟩ ⟨_, hb, rfl⟩ noFill_list_add seq_list_add PySem.F.slot_list_add PySem.F.entry_list_add (PySem.F.args_list_add_2 _ _) (list_addW a b vs us na nb none none #[] #[] (by rw [hl1, hl2]; exact hz)) ⟨ha, hb, ?_⟩
  exact c _ _ _ (w.more _ _ w.s.toks) q (Ext.fresh hn push_keeps) (R.fresh hn push_keeps (Heap.get?_push_size _ rfl) ⟨_, 0, rfl, by simpa using (cs.app cu).mono (.refl _) (List.prefix_append _ _)⟩ (R.fresh0 hn)) (.ref R.more_at)⟩
theorem foldl_rep {α : Type} (xs : Array α) : ∀ (k : Nat) (acc : Array α), (List.foldl (fun x1 x2 => x1 ++ x2) acc (List.replicate k xs)).toList = acc.toList ++ (List.replicate k xs.toList).flatten
  | 0, acc => by simp
  | k + 1, acc => by rw [List.replicate_succ, List.foldl_cons, foldl_rep xs k]; simp [List.replicate_succ]
theorem Concs.rep {g : G} {ρ : List Addr} {xs : List V} {vs : List Value} (cs : Concs C g ρ xs vs) : ∀ k : Nat, Concs C g ρ (List.replicate k xs).flatten (List.replicate k vs).flatten
  | 0 => .nil
  | k + 1 => by simp only [List.replicate_succ, List.flatten_cons]; exact cs.app (cs.rep k)
theorem mul_list {u : V} {xs : List V} {k : Int} (hu : IsLst h u xs) (hlo : -(2 ^ 63 : Int) ≤ k) (hhi : k < 2 ^ 63) (hz : xs.length * k.toNat ≤ 2 ^ 24) (q : Q (.ref h.nx) (h.new (.list (List.replicate k.toNat xs).flatten))) : Op2 C n (binaryOp .Mult) h u (.int k) Q := ⟨fun A w Q' E x y a0 R cx cy c => by
  obtain ⟨l, items, rfl, ⟨na, hl⟩, cs, _⟩ := hu.at R cx
  cases cy with
  | int _ t =>
    have hn : w.s.heap.get? w.s.heap.objs.size = none := fresh_none (Nat.le_refl _)
    have hl1 : items.size = xs.length := by rw [← Array.length_toList, cs.length]
    rw [← hl1] at hz
    refine wpAny_binaryOp_repeat_ref (T := "list") (U := "int") (by decide) ⟨_, hl, rfl⟩ (fun s' => typeIs_int s' k t) noFill_list_mul PySem.F.fills_int_mul PySem.F.slot_int_rmul repeat_list PySem.F.slot_int_index.lookup
      (call_meets PySem.F.slot_int_rmul (typeIs_int w.s k t) PySem.F.entry_int_rmul (PySem.F.args_int_rmul_2 _ _) (int___rmul___int_list k t l items na)
        ⟨hl, rfl, ⟨_, hl, rfl⟩, call_meets PySem.F.slot_list_mul ⟨_, hl, rfl⟩ PySem.F.entry_list_mul (PySem.F.args_list_mul_2 _ _)
          (AutoListH.list___mul___list_int_3 l items na k t (by simp [Builtin.List.listFitsIndex]; omega) (by omega) (by simp [Builtin.List.listTooLong, sizeLine]; omega))
          ⟨hl, ?_⟩⟩)
    refine c _ _ _ (w.more _ _ w.s.toks) q (Ext.fresh hn push_keeps) (R.fresh hn push_keeps (Heap.get?_push_size _ rfl) ⟨_, 0, rfl, ?_⟩ (R.fresh0 hn)) (.ref R.more_at)
    have e := foldl_rep items (if items.isEmpty = true then 0 else k.toNat) #[]
    rw [e]
    have cr := (cs.mono (.refl _) (List.prefix_append w.ρ [w.s.heap.objs.size])).rep k.toNat
    by_cases he : items.isEmpty = true
    · have h1 : items = #[] := by simpa using he
      subst h1
      have h2 : xs = [] := List.eq_nil_of_length_eq_zero (by rw [← hl1]; rfl)
      subst h2
      simpa using cr
    · rw [if_neg he]; simpa using cr⟩
theorem len_list {v : V} {xs : List V} (hv : IsLst h v xs) (hz : xs.length ≤ sizeLine) (q : Q (.int xs.length) h) : Cl C n h (.blt "len") [v] [] Q := cl1 fun A w Q' E fx x a0 R cf cx c => by
  obtain rfl := cf.toInv
  obtain ⟨a, vs, rfl, hl, cs, _⟩ := hv.at R cx
  have hlen : vs.size = xs.length := by rw [← Array.length_toList, cs.length]
  have hsl : (sizeLine : Int) < 2 ^ 63 := by decide
  exact Calls.call_len_list hl.isList (by rw [hlen]; omega) (c _ _ h (w.toks _) q .toks R.toks (by rw [hlen]; exact .int _ _))
end
end Mine
namespace Mine
-- what a value shows
mutual
inductive Dat (h : Hs) : V → PyData → Prop
  | none : Dat h .none .none
  | bool (b : Bool) : Dat h (.bool b) (.bool b)
  | int (i : Int) : Dat h (.int i) (.int i)
  | str (x : Str) : Dat h (.str x) (.str x)
  | tup {xs : List V} {ds : List PyData} : Dats h xs ds → Dat h (.tup xs) (.tuple ds)
  | lst {xs : List V} {ds : List PyData} : Dats h xs ds → Dat h (.lst xs) (.list ds)
  | ref {i : Nat} {xs : List V} {ds : List PyData} : h.σ i = .list xs → Dats h xs ds → Dat h (.ref i) (.list ds)
inductive Dats (h : Hs) : List V → List PyData → Prop
  | nil : Dats h [] []
  | cons {v : V} {d : PyData} {vs : List V} {ds : List PyData} : Dat h v d → Dats h vs ds → Dats h (v :: vs) (d :: ds)
end
section
variable {C : Cx} {w : Wd} {h : Hs}
mutual
theorem Dat.reads (R : Rep C w h) : ∀ {v : V} {d : PyData}, Dat h v d → ∀ {x : Value}, Conc C w.g w.ρ v x → ∃ as, Reads w.s.heap x d as
  | _, _, .none, _, c => by cases c; exact ⟨_, .none⟩
  | _, _, .bool b, _, c => by cases c; exact ⟨_, .bool _⟩
  | _, _, .int i, _, c => by cases c; exact ⟨_, .int _ _⟩
  | _, _, .str x, _, c => by cases c; exact ⟨_, .str _ _⟩
  | _, _, .tup ds, _, c => by
    cases c with
    | tup hg hc hd cs => obtain ⟨as, r⟩ := Dats.reads R ds cs; exact ⟨_, .tuple (R.keep _ _ hg) hc hd (by simpa using r)⟩
  | _, _, .lst ds, _, c => by
    cases c with
    | lst hg cs => obtain ⟨as, r⟩ := Dats.reads R ds cs; exact ⟨_, .list (R.keep _ _ hg) rfl rfl (by simpa using r)⟩
  | _, _, .ref hi ds, _, c => by
    cases c with
    | ref ha =>
      obtain ⟨vs, ⟨k, e⟩, cs⟩ := R.list ha hi
      obtain ⟨as, r⟩ := Dats.reads R ds cs
      exact ⟨_, .list e rfl rfl r⟩
theorem Dats.reads (R : Rep C w h) : ∀ {vs : List V} {ds : List PyData}, Dats h vs ds → ∀ {xs : List Value}, Concs C w.g w.ρ vs xs → ∃ as, ReadsAll w.s.heap xs ds as
  | _, _, .nil, _, c => by cases c; exact ⟨_, .nil⟩
  | _, _, .cons a b, _, c => by
    cases c with
    | cons c1 c2 =>
      obtain ⟨as, r⟩ := Dat.reads R a c1
      obtain ⟨bs, s⟩ := Dats.reads R b c2
      exact ⟨_, .cons r s⟩
end
theorem Dats.map {α : Type} (f : α → V) (g : α → PyData) : ∀ (as : List α), (∀ a ∈ as, Dat h (f a) (g a)) → Dats h (as.map f) (as.map g)
  | [], _ => .nil
  | a :: as, H => .cons (H a (by simp)) (Dats.map f g as fun b hb => H b (by simp [hb]))
theorem dat_ints (ns : List Int) : Dats h (ns.map V.int) (ns.map PyData.int) := .map _ _ ns fun a _ => .int a
theorem dat_lst {v : V} {xs : List V} {ds : List PyData} (hv : IsLst h v xs) (d : Dats h xs ds) : Dat h v (.list ds) := by
  cases v <;> first | exact hv.elim | skip
  · exact .ref hv d
  · cases hv; exact .lst d
/-- such as the comparisons take -/
structure Dok (d : PyData) : Prop where
  lay : d.canLay0 = true
  depth : d.depth ≤ 8
theorem dok_int (i : Int) : Dok (.int i) := ⟨rfl, by simp [PyData.depth]⟩
theorem lay_all {ds : List PyData} : (∀ d ∈ ds, d.canLay0 = true) → PyData.canLayAll0 ds = true := by
  induction ds with
  | nil => intro _; rfl
  | cons a l ih => intro H; simp [PyData.canLayAll0, H a (by simp), ih fun d hd => H d (by simp [hd])]
theorem depth_all {k : Nat} {ds : List PyData} : (∀ d ∈ ds, d.depth ≤ k) → PyData.depthAll ds ≤ k := by
  induction ds with
  | nil => intro _; simp [PyData.depthAll]
  | cons a l ih =>
    intro H
    have h1 := H a (by simp)
    have h2 := ih fun d hd => H d (by simp [hd])
    simp only [PyData.depthAll]
    omega
theorem dok_list {ds : List PyData} (H : ∀ d ∈ ds, d.canLay0 = true ∧ d.depth ≤ 7) : Dok (.list ds) :=
  ⟨lay_all fun d hd => (H d hd).1, by have := depth_all fun d hd => (H d hd).2; simp only [PyData.depth]; omega⟩
theorem dok_ints (ns : List Int) : Dok (.list (ns.map PyData.int)) := dok_list fun d hd => by
  obtain ⟨i, _, rfl⟩ := List.mem_map.mp hd; exact ⟨rfl, by simp [PyData.depth]⟩
theorem eqvAll_map {α : Type} [DecidableEq α] (f : α → PyData) (hf : ∀ a b, PyData.eqv (f a) (f b) = decide (a = b)) : ∀ as bs : List α, PyData.eqvAll (as.map f) (bs.map f) = decide (as = bs)
  | [], [] => by simp [PyData.eqvAll]
  | [], _ :: _ => by simp [PyData.eqvAll]
  | _ :: _, [] => by simp [PyData.eqvAll]
  | a :: as, b :: bs => by
    simp only [List.map_cons, PyData.eqvAll, hf, eqvAll_map f hf as bs]
    by_cases e : a = b <;> by_cases e' : as = bs <;> simp [e, e']
theorem eqv_int (a b : Int) : PyData.eqv (.int a) (.int b) = decide (a = b) := by
  simp only [PyData.eqv]; by_cases e : a = b <;> simp [e]
theorem eqv_ints (a b : List Int) : PyData.eqv (.list (a.map PyData.int)) (.list (b.map PyData.int)) = decide (a = b) := by simp only [PyData.eqv]; exact eqvAll_map _ eqv_int a b
end
section
variable {C : Cx} {n : Nat} {h : Hs} {Q : V → Hs → Prop}
theorem dat_eq {a b : V} {da db : PyData} (ha : Dat h a da) (hb : Dat h b db) (ka : Dok da) (kb : Dok db) (q : Q (.bool (PyData.eqv da db)) h) : Op2 C (n + 1) (compareOp .Eq) h a b Q := ⟨fun A w Q' E x y a0 R cx cy c => by
  obtain ⟨as, ra⟩ := ha.reads R cx
  obtain ⟨bs, rb⟩ := hb.reads R cy
  have h1 := a0.units
  have h2 := ka.depth
  exact SeqAt.compareEq_reads ra rb ka.lay kb.lay (by omega) (c _ _ h w q .refl R (.bool _))⟩
theorem dat_ne {a b : V} {da db : PyData} (ha : Dat h a da) (hb : Dat h b db) (ka : Dok da) (kb : Dok db) (q : Q (.bool (!PyData.eqv da db)) h) : Op2 C (n + 1) (compareOp .NotEq) h a b Q := ⟨fun A w Q' E x y a0 R cx cy c => by
  obtain ⟨as, ra⟩ := ha.reads R cx
  obtain ⟨bs, rb⟩ := hb.reads R cy
  have h1 := a0.units
  have h2 := ka.depth
  exact SeqAt.compareNe_reads ra rb ka.lay kb.lay (by omega) (c _ _ h w q .refl R (.bool _))⟩
theorem dat_notIn {a b : V} {da : PyData} {db : List PyData} (ha : Dat h a da) (hb : Dat h b (.list db)) (ka : Dok da) (kb : Dok (.list db)) (q : Q (.bool (!db.any fun y => PyData.eqv y da)) h) : Op2 C (n + 1) (compareOp .NotIn) h a b Q := ⟨fun A w Q' E x y a0 R cx cy c => by
  obtain ⟨as, ra⟩ := ha.reads R cx
  obtain ⟨bs, rb⟩ := hb.reads R cy
  have h1 := a0.units
  have h2 := ka.depth
  exact SeqAt.notIn_list_reads rb ra kb.lay ka.lay (by omega) (c _ _ h w q .refl R (.bool _))⟩
theorem any_ints (x : Int) : ∀ ns : List Int, (ns.map PyData.int).any (fun y => PyData.eqv y (.int x)) = decide (x ∈ ns)
  | [] => by simp
  | a :: l => by
    simp only [List.map_cons, List.any_cons, eqv_int, any_ints x l]
    by_cases e : a = x
    · simp [e]
    · have : x ≠ a := fun q => e q.symm
      simp [e, this]
/-- dicts -/
def dctEq (a b : List (Key × PyData)) : Bool := a.length == b.length && a.all fun kd => match kget b kd.1 with | none => false | some e => PyData.eqv kd.2 e
inductive DatD (h : Hs) : List (Key × V) → List (Key × PyData) → Prop
  | nil : DatD h [] []
  | cons {k : Key} {v : V} {d : PyData} {a : List (Key × V)} {b : List (Key × PyData)} : Dat h v d → DatD h a b → DatD h ((k, v) :: a) ((k, d) :: b)
theorem DatD.map {α : Type} (k : α → Key) (f : α → V) (g : α → PyData) : ∀ (as : List α), (∀ a ∈ as, Dat h (f a) (g a)) → DatD h (as.map fun a => (k a, f a)) (as.map fun a => (k a, g a))
  | [], _ => .nil
  | a :: as, H => .cons (H a (by simp)) (DatD.map k f g as fun b hb => H b (by simp [hb]))
theorem DatD.length {a : List (Key × V)} {b : List (Key × PyData)} (r : DatD h a b) : a.length = b.length := by
  induction r with
  | nil => rfl
  | cons _ _ ih => simp [ih]
theorem DatD.get {a : List (Key × V)} {b : List (Key × PyData)} (r : DatD h a b) (k : Key) : (∀ d, kget b k = some d → ∃ v, kget a k = some v ∧ Dat h v d) ∧ (kget b k = none → kget a k = none) := by
  induction r with
  | nil => exact ⟨fun v h => by simp [kget] at h, fun _ => rfl⟩
  | @cons k' v' y' a b c _ ih =>
    by_cases hk : k' = k
    · subst hk
      exact ⟨fun v h => by simp [kget] at h; subst h; exact ⟨v', by simp [kget], c⟩, fun h => by simp [kget] at h⟩
    · have e1 : kget ((k', v') :: a) k = kget a k := by simp [kget, hk]
      have e2 : kget ((k', y') :: b) k = kget b k := by simp [kget, hk]
      rw [e1, e2]; exact ih
theorem kget_mem {β : Type} {b : List (Key × β)} {k : Key} {d : β} (e : kget b k = some d) : (k, d) ∈ b := by
  unfold kget at e
  obtain ⟨p, hp, rfl⟩ := Option.map_eq_some_iff.mp e
  have h1 := List.find?_some hp
  have h2 := List.mem_of_find?_eq_some hp
  have : p.1 = k := by simpa using h1
  rw [← this]; exact h2
theorem dct_hits {w : Wd} {A : Around} {kb : List (Key × V)} {kb' : List (Key × Value)} {db : List (Key × PyData)} (R : Rep C w h) (hu : A.units + 8 < cLine) (rb : DRel C w.g w.ρ kb kb') (tb : DatD h kb db) (ob : ∀ kd ∈ db, Dok kd.2) :
    ∀ {ka : List (Key × V)} {ka' : List (Key × Value)} {da : List (Key × PyData)}, DRel C w.g w.ρ ka ka' → DatD h ka da → (∀ kd ∈ da, Dok kd.2) →
      W.KeqHits A w.s kb' ka' (da.all fun kd => match kget db kd.1 with | none => false | some e => PyData.eqv kd.2 e) := by
  intro ka ka' da ra
  induction ra generalizing da with
  | nil => intro ta _; cases ta; exact .nil
  | @cons k v y a b c r ih =>
    intro ta oa
    cases ta with
    | @cons _ _ d _ da' dv ta' =>
      simp only [List.all_cons]
      cases q : kget db k with
      | none =>
        have := (rb.get k).2 ((tb.get k).2 q)
        simpa using W.KeqHits.miss (A := A) (s := w.s) (v := y) (r := b) this
      | some e =>
        obtain ⟨u, hu', du⟩ := (tb.get k).1 e q
        obtain ⟨z, hz, cz⟩ := (rb.get k).1 u hu'
        obtain ⟨as, r1⟩ := dv.reads R c
        obtain ⟨bs, r2⟩ := du.reads R cz
        have o1 := oa (k, d) (by simp)
        have o2 := ob (k, e) (kget_mem q)
        have h2 := o1.depth
        exact .hit hz (SeqAt.eqAt_reads d e A w.s y z as bs r1 r2 o1.lay o2.lay (by dsimp only at h2; omega)) (ih ta' fun kd hkd => oa kd (by simp [hkd]))
theorem dct_ne {S : SysIn C} {a b : V} {ka kb : List (Key × V)} {da db : List (Key × PyData)} (ha : IsDct h a ka) (hb : IsDct h b kb) (ta : DatD h ka da) (tb : DatD h kb db) (oa : ∀ kd ∈ da, Dok kd.2) (ob : ∀ kd ∈ db, Dok kd.2) (q : Q (.bool (!dctEq da db)) h) : Op2 C (n + 1) (compareOp .NotEq) h a b Q := ⟨fun A w Q' E x y a0 R cx cy c => by
  obtain ⟨x, ka', rfl, d1, r1, n1, _⟩ := ha.at R cx
  obtain ⟨y, kb', rfl, d2, r2, n2, _⟩ := hb.at R cy
  have h1 := a0.units
  refine W.keq_ne (S.ne n1) (S.ne n2) d1 d2 (by omega) (fun _ => dct_hits R (by show A.units + 1 + 8 < cLine; omega) r2 tb ob r1 ta oa) ?_
  rw [r1.length, r2.length, ta.length, tb.length]
  exact c _ _ h w q .refl R (.bool _)⟩
end
end Mine
namespace Mine
def V.isNone : V → Bool
  | .none => true
  | _ => false
section
variable {C : Cx} {n : Nat} {F : Fr} {loc : Loc} {h : Hs} {Q : V → Hs → Prop} {QB : Bool → Hs → Prop} {QF : Fl → Loc → Hs → Prop} {QL : Loc → Hs → Prop} {QU : Hs → Prop} {QM : V → List V → Hs → Prop}
/-- range -/
theorem cl_range1 {b : Int} (q : Q (.rng 0 b 1) h) : Cl C n h (.ty "range") [.int b] [] Q := cl1 fun A w Q' E fx x a0 R cf cx c => by
  obtain rfl := cf.toInv; obtain ⟨_, rfl⟩ := cx.toInv
  have hn : w.s.heap.get? w.s.heap.objs.size = none := fresh_none (Nat.le_refl _)
  exact call_range_1 (c _ _ h (w.frz _ _ _ _) q (Ext.frozen R hn push_keeps) (R.frozen hn push_keeps (Heap.get?_push_size _ rfl)) (.rng gset_self))
theorem cl_range2 {a b : Int} (q : Q (.rng a b 1) h) : Cl C n h (.ty "range") [.int a, .int b] [] Q := cl2 fun A w Q' E fx x y a0 R cf cx cy c => by
  obtain rfl := cf.toInv; obtain ⟨_, rfl⟩ := cx.toInv; cases cy
  have hn : w.s.heap.get? w.s.heap.objs.size = none := fresh_none (Nat.le_refl _)
  exact call_range_2 (c _ _ h (w.frz _ _ _ _) q (Ext.frozen R hn push_keeps) (R.frozen hn push_keeps (Heap.get?_push_size _ rfl)) (.rng gset_self))
/-- the numbers of a range of step one -/
theorem small_one {a b : Int} (ha : -(2 ^ 61 : Int) ≤ a) (ha' : a ≤ 2 ^ 61) (hb : -(2 ^ 61 : Int) ≤ b) (hb' : b ≤ 2 ^ 61) : Builtin.Range.small a b 1 = true := by
  unfold Builtin.Range.small
  rw [rangeSize_one]
  split <;> simp [Builtin.Range.rangeFitsLong] <;> omega
theorem size_one (a b : Int) : (Builtin.Range.rangeSize a b 1).toNat = (b - a).toNat := by
  rw [rangeSize_one]; split <;> omega
theorem size_one0 (a b : Int) : 0 ≤ Builtin.Range.rangeSize a b 1 := by
  rw [rangeSize_one]; split <;> omega
def upto (a : Int) (m : Nat) : List V := (List.range m).map fun (i : Nat) => V.int (a + (i : Int))
theorem rangeV_one (a : Int) (m : Nat) : rangeV a 1 m = upto a m := by simp [rangeV, upto]
theorem its_rng1 {K : Hs → (Hs → Prop) → List V → Prop} {tg : Expr → Prop} {a b : Int} (ha : -(2 ^ 61 : Int) ≤ a) (ha' : a ≤ 2 ^ 61) (hb : -(2 ^ 61 : Int) ≤ b) (hb' : b ≤ 2 ^ 61) (q : K h (fun _ => True) (upto a (b - a).toNat)) : Its C n h tg (.rng a b 1) K :=
  its_rng (small_one ha ha' hb hb') (size_one0 a b) (by rw [rangeV_one, size_one]; exact q)
/-- list(..) -/
theorem cl_list_list {v : V} {xs : List V} (hv : IsLst h v xs) (hz : xs.length ≤ sizeLine) (q : Q (.ref h.nx) (h.new (.list xs))) : Cl C n h (.ty "list") [v] [] Q := cl1 fun A w Q' E fx x a0 R cf cx c => by
  obtain rfl := cf.toInv
  obtain ⟨a, vs, rfl, ⟨k, hl⟩, cs, _⟩ := hv.at R cx
  have hn : w.s.heap.get? w.s.heap.objs.size = none := fresh_none (Nat.le_refl _)
  have hlen : vs.size = xs.length := by rw [← Array.length_toList, cs.length]
  exact call_list_seq (T := "list") a (.inl rfl) hl rfl rfl (fun h' c' hk hD => c _ _ _ (w.more _ h' w.s.toks) q (Ext.fresh hn hk) (R.fresh hn hk hD ⟨vs, c', rfl, cs.mono (.refl _) (List.prefix_append _ _)⟩ (R.fresh0 hn)) (.ref R.more_at)) (by rw [hlen]; exact hz)
theorem concs_of {g : G} {ρ : List Addr} : ∀ {xs : List V} {vs : List Value}, vs.length = xs.length → (∀ (j : Nat) (v : V) (x : Value), xs[j]? = some v → vs[j]? = some x → Conc C g ρ v x) → Concs C g ρ xs vs
  | [], [], _, _ => .nil
  | [], _ :: _, e, _ => by simp at e
  | _ :: _, [], e, _ => by simp at e
  | v :: xs, x :: vs, e, H => .cons (H 0 v x rfl rfl) (concs_of (by simpa using e) fun j v x hv hx => H (j + 1) v x (by simpa using hv) (by simpa using hx))
theorem cl_list_rng {a b : Int} (ha : -(2 ^ 61 : Int) ≤ a) (ha' : a ≤ 2 ^ 61) (hb : -(2 ^ 61 : Int) ≤ b) (hb' : b ≤ 2 ^ 61) (hz : (b - a).toNat ≤ 2 ^ 24) (q : Q (.ref h.nx) (h.new (.list (upto a (b - a).toNat)))) : Cl C n h (.ty "list") [.rng a b 1] [] Q := cl1 fun A w Q' E fx x a0 R cf cx c => by
  obtain rfl := cf.toInv
  cases cx with
  | rng hg =>
    have hn : w.s.heap.get? w.s.heap.objs.size = none := fresh_none (Nat.le_refl _)
    refine call_list_range a0.handled (R.keep _ _ hg) (small_one ha ha' hb hb') (n := (b - a).toNat) (by rw [← size_one]; exact (Int.toNat_of_nonneg (size_one0 a b)).symm) hz fun h' tk acc' c' hk hD hi => ?_
    refine c _ _ _ (w.more _ h' tk) q (Ext.fresh hn hk) (R.fresh hn hk hD ⟨acc', c', rfl, concs_of ?_ fun j v x hv hx => ?_⟩ (R.fresh0 hn)) (.ref R.more_at)
    · rw [Array.length_toList, hi.1]; simp [upto]
    · obtain ⟨t, rfl⟩ := hi.2 j x (by rw [← Array.getElem?_toList]; exact hx)
      simp only [upto, List.getElem?_map, Option.map_eq_some_iff] at hv
      obtain ⟨i, hi', rfl⟩ := hv
      rw [List.getElem?_range (by have := (List.getElem?_eq_some_iff.mp hi').1; simpa using this)] at hi'
      cases hi'
      rw [Int.mul_one]; exact .int _ _
theorem cl_list_dct {S : SysIn C} {v : V} {kvs : List (Key × V)} (hv : IsDct h v kvs) (hz : kvs.length ≤ sizeLine) (q : Q (.ref h.nx) (h.new (.list (kvs.map fun kv => kv.1.v)))) : Cl C n h (.ty "list") [v] [] Q := cl1 fun A w Q' E fx x a0 R cf cx c => by
  obtain rfl := cf.toInv
  obtain ⟨a, kvs', rfl, hd, r, h0, _⟩ := hv.at R cx
  obtain ⟨ep, hat⟩ := hd.dictAt
  have hn : w.s.heap.get? w.s.heap.objs.size = none := fresh_none (Nat.le_refl _)
  refine W.kdl_call (W.kdl_dict (knd := C.k) (kvs := kvs') (ep := ep) (S.ne h0)) a0.handled hat (by rw [r.length]; exact hz) fun h' tk acc' c' hk hD hi => ?_
  refine c _ _ _ (w.more _ h' tk) q (Ext.fresh hn hk) (R.fresh hn hk hD ⟨acc', c', rfl, concs_of ?_ fun j v x hv hx => ?_⟩ (R.fresh0 hn)) (.ref R.more_at)
  · rw [Array.length_toList, hi.1, r.length]; simp
  · obtain ⟨k, y, hy, hk'⟩ := hi.2 j x (by rw [← Array.getElem?_toList]; exact hx)
    have e : (kvs'.map (·.1))[j]? = some k := by rw [List.getElem?_map, hy]; rfl
    rw [r.keys, List.getElem?_map] at e
    rw [List.getElem?_map] at hv
    cases z : kvs[j]? with
    | none => rw [z] at hv; cases hv
    | some kv =>
      rw [z] at hv e
      cases hv
      have e : some kv.1 = some k := e
      cases e
      exact key_conc hk'
/-- methods of lists -/
theorem mth_lst {v : V} {name : Str} {id : String} {xs : List V} (hv : IsLst h v xs) (slot : Slot "list" name id) (ht : typeOf (.builtin id) = pure (.type "method_descriptor")) (q : QM (.blt id) [v] h) : Mth C n h v name QM := ⟨fun A w Q' E x pl a0 R cx c => by
  obtain ⟨a, vs, rfl, ⟨k, hl⟩, cs, _⟩ := hv.at R cx
  exact getMethod_builtin (Heap.IsList.typeIs ⟨_, hl, rfl, k, rfl⟩) PySem.F.plainAttrs_list slot ht (fun b e => by cases e; exact ⟨_, hl, rfl⟩) (c _ _ _ _ h w q .refl R (.blt id) (.cons cx .nil))⟩
theorem mth_append {v : V} {xs : List V} (hv : IsLst h v xs) (q : QM (.blt "list.append") [v] h) : Mth C n h v "append" QM := mth_lst hv slot_list_append type_list_append q
theorem cl_append {i : Nat} {xs : List V} {v : V} (hv : h.σ i = .list xs) (hz : xs.length ≤ sizeLine) (q : Q .none (h.upd i (.list (xs ++ [v])))) : Cl C n h (.blt "list.append") [.ref i, v] [] Q := cl2 fun A w Q' E fx x y a0 R cf cx cy c => by
  obtain rfl := cf.toInv
  cases cx with
  | ref hi => exact app_list R hi hv hz cy fun w' e' R' => c _ _ _ w' q (e' _) R' .none
/-- one thing or two -/
theorem is_ref_self {i : Nat} (q : Q (.bool true) h) : Op2 C n (compareOp .Is) h (.ref i) (.ref i) Q := ⟨fun A w Q' E x y a0 R cx cy c => by
  cases cx with
  | ref hi => cases cy with
    | ref hj => rw [hi] at hj; cases hj; exact wpAny_is_ref_self (c _ _ h w q .refl R (.bool _))⟩
theorem is_none_l {v : V} (hv : ∀ id, v ≠ .blt id) (q : Q (.bool v.isNone) h) : Op2 C n (compareOp .Is) h v .none Q := ⟨fun A w Q' E x y a0 R cx cy c => by
  cases cy
  refine PySem.is_none ?_
  have e : (x == Value.none) = v.isNone := by
    cases cx <;> first | rfl | (exact absurd rfl (hv _)) | skip
  rw [e]; exact c _ _ h w q .refl R (.bool _)⟩
end
end Mine
namespace Mine
section
variable {C : Cx} {n : Nat} {F : Fr} {loc : Loc} {h : Hs} {Q : V → Hs → Prop} {QB : Bool → Hs → Prop} {QF : Fl → Loc → Hs → Prop} {QL : Loc → Hs → Prop} {QU : Hs → Prop}
/-- what a dict comprehension's innermost turn does -/
def EmD (C : Cx) (n : Nat) (F : Fr) (p : Nat) (ke ve : Expr) (loc : Loc) (h : Hs) (Q : Loc → Hs → Prop) : Prop :=
  Ev C n F loc h ke fun kv h1 => Ev C n F loc h1 ve fun u h2 => ∃ k kvs, kv = Key.v k ∧ h2.σ p = .dict kvs ∧ kvs.length ≤ sizeLine ∧ Q loc (h2.upd p (.dict (kput kvs k u)))
theorem EmD.bd {ρ0 : List Addr} {p : Nat} {D : Addr} {ke ve : Expr} {ps : Pos} (hD : ρ0[p]? = some D) (H : EmD C n F p ke ve loc h QL) : Bd C n F ρ0 (eval ke F.env >>= fun kv => holding [kv] (eval ve F.env) >>= fun vv => standAt ps >>= fun _ => holding [kv, vv] (dictSet D kv vv)) loc h QL := ⟨fun A w Q' E hρ a0 R f c => by
  refine wpAny_bind (H.run A w _ _ a0 R f fun x kv h1 w1 q1 e1 R1 c1 => wpAny_bind (wpAny_holding (q1.run A w1 _ _ a0 R1 (f.ext0 e1) fun y u h2 w2 ⟨k, kvs, hk, hs, hz, q2⟩ e2 R2 c2 => wpAny_bind (wpAny_standAt (wpAny_holding ?_)))))
  subst hk
  have hi := pre_get (hρ.trans (e1.pre.trans e2.pre)) hD
  obtain ⟨a, kvs', ha, hi', hd, r, h0⟩ := IsDct.mut hs R2 (.ref hi)
  cases ha
  refine wpAny_dictSet_pairs (key_is (c1.ext e2)) hd (fun h' hd' sb => ?_) (by rw [r.length]; exact hz)
  obtain ⟨R', e'⟩ := R2.setDict (tk := w2.s.toks + 1) hi (by rw [hs]; simp) hd' (fun b o hb e => (sb.2 b hb).trans e) (r.put k c2)
  exact c loc _ _ q2 ((e1.wide.trans e2.wide).trans (e' _)) R' (((f.ext0 e1).ext0 e2).ext0 (e' _))⟩
theorem compOk_dict {ke ve t i : Expr} {fs : List Expr} {scope : Scope} {pos : Pos} : CompOk C n (.DictComp ke ve [⟨t, i, fs, 0⟩] scope pos) t (fun F p => TurnW C n F t fs (EmD C n F p ke ve)) := by
  intro F p D ρ0 it wr J ok src x0 items hD T A w0 w loc h Rr QL hW hρ a0 R f c0 hJ hf ha hL e0 q
  refine comp_startD (g := ⟨t, i, fs, 0⟩) rfl rfl (fun Q' E z => T.self A 0 _ _ _ hJ z) ?_
  exact loop_run (QL := QL) (ρ0 := w.ρ) T rfl (compTurn_dict ke ve t i fs scope pos it D F.env) rfl (fun A R s z => comp_stepD R s z) (fun loc h Q z => EmD.bd (pre_get hρ hD) z) items 0 A w0 w loc h Rr rfl hW (List.prefix_refl _) a0 R f c0 hJ hf ha hL e0 q
theorem acc_dict {A : Around} : ∀ (w : Wd) (h : Hs) (Q' : Value → Shared → Prop) (E : Value → Shared → Prop), Rep C w h → (∀ D w', w.s.heap.get? D = none → w'.ρ = w.ρ ++ [D] → Ext C [] w w' → Rep C w' (h.new (.dict [])) → Q' (.ref D) w'.s) → wpAny C.M A newDict Q' E w.s := fun w h Q' E R c => by
  have hn : w.s.heap.get? w.s.heap.objs.size = none := fresh_none (Nat.le_refl _)
  refine wpAny_newObj_type (c _ (w.more _ _ w.s.toks) hn rfl (Ext.fresh hn push_keeps) (R.fresh (o := { cls := .type "dict", data := .dict #[] }) hn push_keeps (Heap.get?_push_size _ rfl) ?_ (R.fresh0 hn))) 
  obtain ⟨o, ho, hd⟩ := Heap.dictOf_iff.mp (Heap.DictOf.new (knd := C.k) w.s.heap)
  rw [Heap.get?_push_size _ rfl] at ho; cases ho
  exact ⟨[], hd, rfl, .nil⟩
theorem ev_dictcomp {ke ve t i : Expr} {fs : List Expr} {gs : List Comprehension} {scope : Scope} {pos : Pos} {cl : List (Str × Nat)} {tw : Fr → Nat → V → Loc → Hs → (Loc → Hs → Prop) → Prop} (hok : CompOk C n (.DictComp ke ve (⟨t, i, fs, 0⟩ :: gs) scope pos) t tw)
    (H : Ev C n F loc h i fun src h1 => Its C n h1 (· = t) src fun h2 ok items => ∀ L cells, LpW ok (tw ⟨compEnv scope F.env L cells, celFrom (h2.nx + 1) scope.names cl⟩ h2.nx) (fun _ h' => Q (.ref h2.nx) h') items [] (hsCells scope.names (h2.new (.dict []))))
    (hclo : cloA F.cel scope.names [] = some cl := by rfl) (hk : scope.kind = .function := by rfl) (hnm : namesOk scope.names = true := by rfl) (hs : ∀ x, foldedSetIterable i F.env x = pure x := by intro _; rfl) : Ev C n F loc h (.DictComp ke ve (⟨t, i, fs, 0⟩ :: gs) scope pos) Q := ⟨fun A w Q' E a0 R f c => by
  show wpAny _ _ (comprehension (.DictComp ke ve (⟨t, i, fs, 0⟩ :: gs) scope pos) scope F.env (firstIterPos (⟨t, i, fs, 0⟩ :: gs) pos) newDict false (eval i F.env)) _ _ _
  exact comp_core (use := none) (QA := fun p h' => Q (.ref p) h') hok rfl hs hclo hk hnm acc_dict a0 R f H fun L cells cel D p loc' h' w1 w' q e1 hL e' hp R' f' => comp_end e1 hL e' hp R' f' fun w'' e'' R'' hp'' => c _ _ h' w'' q e'' R'' (.ref hp'')⟩
theorem ex_assign_dictcomp {ke ve t i u : Expr} {fs : List Expr} {gs : List Comprehension} {scope : Scope} {pos p : Pos} {cl : List (Str × Nat)} {tw : Fr → Nat → V → Loc → Hs → (Loc → Hs → Prop) → Prop} (hok : CompOk C n (.DictComp ke ve (⟨t, i, fs, 0⟩ :: gs) scope pos) t tw)
    (hsw : swapsWith (.DictComp ke ve (⟨t, i, fs, 0⟩ :: gs) scope pos) (some u) p.line F.env = pure true)
    (H : Ev C n F loc h i fun src h1 => Its C n h1 (· = t) src fun h2 ok items => ∀ L cells, LpW ok (tw ⟨compEnv scope F.env L cells, celFrom (h2.nx + 1) scope.names cl⟩ h2.nx) (fun _ h' => As C n F loc h' u (.ref h2.nx) fun loc2 h2 => QF .next loc2 h2) items [] (hsCells scope.names (h2.new (.dict []))))
    (hclo : cloA F.cel scope.names [] = some cl := by rfl) (hk : scope.kind = .function := by rfl) (hnm : namesOk scope.names = true := by rfl) (hs : ∀ x, foldedSetIterable i F.env x = pure x := by intro _; rfl) (he : (assignEach [u] F.env).map (·.2) = [assign u F.env] := by rfl) : Ex C n F loc h (.Assign [u] (.DictComp ke ve (⟨t, i, fs, 0⟩ :: gs) scope pos) p) QF := ⟨fun A w Q' E a0 R f c => by
  rw [exec_Assign_arm]
  refine wpAny_bind (wpAny_standAt ?_)
  have : swapsWithSole [u] (.DictComp ke ve (⟨t, i, fs, 0⟩ :: gs) scope pos) p.line F.env = pure true := hsw
  rw [this]
  refine wpAny_bind (wpAny_pure ?_)
  rw [if_pos rfl, he]
  refine wpAny_bind ?_
  show wpAny _ A (do let _ ← comprehension (.DictComp ke ve (⟨t, i, fs, 0⟩ :: gs) scope pos) scope F.env _ newDict false (eval i F.env) (some (assign u F.env))) _ _ w.s
  refine wpAny_bind (comp_core (use := some (assign u F.env)) (QA := fun p h' => As C n F loc h' u (.ref p) fun loc2 h2 => QF .next loc2 h2) hok rfl hs hclo hk hnm acc_dict a0 R f H fun L cells cel D p loc' h' w1 w' q e1 hL e' hp R' f' => comp_end_use a0 f e1 hL e' hp R' f' q fun loc2 h2 w'' q2 e'' R'' f'' => ?_)
  exact wpAny_pure (wpAny_pure (c _ _ loc2 h2 w'' q2 e'' R'' f'' .next))⟩
/-- xs[:] = ys -/
theorem setAll_plain {A : Around} {E : Value → Shared → Prop} {s : Shared} {l b sl : Addr} {items items2 : Array Value} {Q : Unit → Shared → Prop} (hl : s.heap.PlainList l items) (hb : s.heap.PlainList b items2) (hlb : l ≠ b) (hs : s.heap.IsSliceOf sl .none .none .none) (hz : items.size + items2.size ≤ sizeLine)
    (hQ : ∀ h', h'.PlainList l items2 → Heap.SameBut l s.heap h' → Q () { s with heap := h' }) : wpAny C.M A (setItem (.ref l) (.ref sl) (.ref b)) Q E s := by
  obtain ⟨n0, ho⟩ := id hl
  obtain ⟨n1, hob⟩ := id hb
  obtain ⟨os, hos, hcs, hds⟩ := id hs
  have hTs : s.TypeIs (.ref sl) "slice" := ⟨os, hos, hcs⟩
  have hl' := hl.isList
  have hb' := hb.isList
  unfold setItem
  refine wpAny_holding ?_
  refine wpAny_bind (wpAny_sequenceKey hl'.typeIs (by decide) ?_)
  refine wpAny_bind (wpAny_callSpecial?_slot (name := Str.ofString "__setitem__") hl'.typeIs slot_list_setitem
    (wpAny_call_entry slot_list_setitem hl'.typeIs entry_list_setitem ?_ (args_list_setitem _ _ _)))
  show wpAny _ _ (Builtin.List.listSubscript? (.ref sl) >>= _) _ _ s
  refine wpAny_bind ?_
  unfold Builtin.List.listSubscript?
  refine wpAny_bind (wpAny_specialOf hTs slice_no_index ?_)
  simp only [Option.isNone_none, if_true]
  refine wpAny_pure ?_
  show wpAny _ _ (typeOf (.ref sl) >>= _) _ _ s
  refine wpAny_bind (wpAny_typeOf hTs ?_)
  rw [if_neg (by decide)]
  rw [listSliceParts_eq]
  have hstep : ¬ ((rawPart none == rawInt 0) = true) := Bool.false_ne_true
  refine wpAny_bind (wpAny_bind (wpAny_field hos hds (x := .none) rfl (wpAny_bind (wpAny_listPart .none ?_))))
  rw [if_neg hstep]
  refine wpAny_bind (wpAny_field hos hds (x := .none) rfl (wpAny_bind (wpAny_listPart .none ?_)))
  refine wpAny_bind (wpAny_field hos hds (x := .none) rfl (wpAny_bind (wpAny_listPart .none (wpAny_pure ?_))))
  have hsr : Builtin.List.listSameRef (.ref l) (.ref b) = false := by simp [Builtin.List.listSameRef, hlb]
  simp only [hsr, Bool.false_eq_true, if_false]
  unfold Builtin.List.listAllItems
  refine wpAny_bind (wpAny_bind (wpAny_typeOf hb'.typeIs ?_))
  rw [if_pos (by rfl)]
  unfold Builtin.List.listItems
  refine wpAny_bind (wpAny_seqItems hob rfl (wpAny_pure ?_))
  refine wpAny_bind (wpAny_bind (wpAny_seqItems ho rfl (wpAny_pure ?_)))
  refine wpAny_bind (wpAny_of_eq (sliceIndices_raw none none none items.size (by simp)) ?_)
  have eb : sliceBounds none none none items.size = (0, (items.size : Int), 1) := by simp [sliceBounds]
  rw [eb]
  dsimp only
  rw [if_pos (by rfl)]
  refine wpAny_bind (wpAny_rule ?_)
  rw [if_neg (by simp [Builtin.List.listTooLong]; omega)]
  show wpAny _ _ (updateSeq l _ >>= _) _ _ _
  have hsz : items2.size ≤ sizeLine := by omega
  have ee : (items.extract 0 (0 : Int).toNat ++ items2 ++ items.extract (max 0 (items.size : Int)).toNat items.size) = items2 := by
    have : (max 0 (items.size : Int)).toNat = items.size := by omega
    rw [this]; simp
  refine wpAny_bind (wpAny_updateSeq (hz := by omega) (_hz' := by first | (rw [ee]; omega) | (simp only [ee]; omega) | (show _ ≤ _; trace_state; omega)) ho rfl ?_)
  refine wpAny_bind (wpAny_letGo ?_)
  have hfin : (s.heap.update l (Obj.mapSeq fun xs => xs.extract 0 (0 : Int).toNat ++ items2 ++ xs.extract (max 0 (items.size : Int)).toNat xs.size)).PlainList l items2 := by
    have := Heap.get?_update_self (Obj.mapSeq fun xs => xs.extract 0 (0 : Int).toNat ++ items2 ++ xs.extract (max 0 (items.size : Int)).toNat xs.size) ho rfl
    simp only [Obj.mapSeq, ee] at this
    exact ⟨_, this⟩
  exact wpAny_pure ⟨.none, rfl, wpAny_pure (hQ _ hfin (Heap.SameBut.update ..))⟩
theorem as_all {o : Expr} {p p' : Pos} {j : Nat} {ys : List V} (H : Ev C n F loc h o fun a h1 => ∃ i xs, a = .ref i ∧ i ≠ j ∧ h1.σ i = .list xs ∧ h1.σ j = .list ys ∧ xs.length + ys.length ≤ sizeLine ∧ QL loc (h1.upd i (.list ys))) : As C n F loc h (.Subscript o (.Slice none none none p') p) (.ref j) QL := ⟨fun A w Q' E y a0 R f c k => by
  rw [arm_assign_Subscript]
  refine wpAny_bind (wpAny_holding (H.run A w _ _ a0 R f fun x a h1 w1 ⟨i, xs, hai, hij, hi, hj, hz, q1⟩ e1 R1 c1 => wpAny_bind (wpAny_holding (wpAny_Slice (wpAny_pure (wpAny_pure (wpAny_pure ?_)))))))
  subst hai
  have e2 : Ext C [] w1 (w1.at (w1.s.heap.push { cls := .type "slice", data := .fields #[.none, .none, .none] }) w1.s.toks) := Ext.grow push_keeps
  have R2 := R1.grow (k := w1.s.toks) (push_keeps (o := { cls := .type "slice", data := .fields #[.none, .none, .none] }))
  refine wpAny_bind (wpAny_standAt (wpAny_bind (wpAny_holding ?_)))
  cases c with
  | ref hj' =>
    have hj2 := pre_get e1.pre hj'
    cases c1 with
    | ref hi' =>
      obtain ⟨vs, hl, cs⟩ := R2.list hi' hi
      obtain ⟨us, hm, cu⟩ := R2.list hj2 hj
      have l1 : vs.size = xs.length := by rw [← Array.length_toList, cs.length]
      have l2 : us.size = ys.length := by rw [← Array.length_toList, cu.length]
      refine setAll_plain (s := (w1.at (w1.s.heap.push { cls := .type "slice", data := .fields #[.none, .none, .none] }) w1.s.toks).s) hl hm (fun z => hij (nodup_inj R1.nd hi' (z ▸ hj2))) (Heap.IsSliceOf.new ..) (by rw [l1, l2]; exact hz) fun h' hl' sb => wpAny_release ?_
      obtain ⟨R', e'⟩ := R2.setList (tk := w1.s.toks) hi' hi hl' (fun b o hb e => (sb.2 b hb).trans e) cu
      exact k _ _ _ q1 (e1.trans (e2.trans (e' _))).wide R' (((f.ext0 e1).ext0 e2).ext0 (e' _))⟩
end
end Mine
namespace Mine
section
variable {C : Cx} {n : Nat} {F : Fr} {loc : Loc} {h : Hs} {w : Wd} {Q : V → Hs → Prop} {QB : Bool → Hs → Prop}
/-- a code is noted in a table, and a frozen object made -/
theorem Rep.frozenTab {hp : Heap} {P c : Addr} {o oP : Obj} {k : Nat} (R : Rep C w h) (hP : P ∈ C.tabs) (hn : w.s.heap.get? c = none) (hk : ∀ b x, b ≠ P → w.s.heap.get? b = some x → hp.get? b = some x) (ho : hp.get? c = some o) (hoP : hp.get? P = some oP) (ht : TabOk (C.tabq P) (gset w.g c o) oP) : Rep C (w.frz c o hp k) h := by
  have off := R.off_fresh hn
  have hs := gset_sub (o := o) off.1
  have hgP := R.offtab P hP
  refine ⟨fun b x e => ?_, R.len, R.nd, fun i b h1 h2 => ?_, R.dead, fun i b h1 => ?_, R.new, R.os, R.bare, fun b x e ht => hs _ _ (R.top b x e ht), fun b hb => ?_, fun b hb => ⟨?_, (R.offtab b hb).2⟩⟩
  · have e : gset w.g c o b = some x := e
    unfold gset at e
    split at e
    · rename_i q; cases e; rw [q]; exact ho
    · exact hk _ _ (fun q => by rw [q, hgP.1] at e; cases e) (R.keep b x e)
  · show gset w.g c o b = none
    unfold gset
    rw [if_neg (fun q : b = c => off.2.1 (q ▸ List.mem_of_getElem? h1))]; exact R.off i b h1 h2
  · obtain ⟨x, h4, h5⟩ := R.obj i b h1
    exact ⟨x, hk _ _ (fun q => hgP.2 (q ▸ List.mem_of_getElem? h1)) h4, h5.mono hs (List.prefix_refl _)⟩
  · by_cases hbP : b = P
    · subst hbP; exact ⟨oP, hoP, ht⟩
    · obtain ⟨x, e, z⟩ := R.tab b hb; exact ⟨x, hk _ _ hbP e, z.mono hs⟩
  · show gset w.g c o b = none
    unfold gset
    rw [if_neg (fun q : b = c => off.2.2 (q ▸ hb))]; exact (R.offtab b hb).1
theorem Ext.frozenTab {X : List Addr} {hp : Heap} {P c : Addr} {o oP : Obj} {k : Nat} (R : Rep C w h) (hP : P ∈ C.tabs) (hn : w.s.heap.get? c = none) (hk : ∀ b x, b ≠ P → w.s.heap.get? b = some x → hp.get? b = some x) (hoP : hp.get? P = some oP) : Ext C X w (w.frz c o hp k) where
  sub := gset_sub (R.off_fresh hn).1
  new := fun b x e => by
    have e : gset w.g c o b = some x := e
    unfold gset at e
    split at e
    · rename_i q; right; left; rw [q]; exact hn
    · exact .inl e
  pre := List.prefix_refl _
  newρ := fun _ h => .inl h
  kept := fun b x e _ _ ht => hk b x (fun q => ht (q ▸ hP)) e
  live := fun b x e => by
    by_cases hb : b = P
    · subst hb; exact ⟨oP, hoP⟩
    · exact ⟨x, hk b x hb e⟩
theorem among_snoc {pos : Pos} {a b : Int} {c cv : Value} (l : List Value) (ht : TriplesOk l) (e : codeAmong pos (l ++ [rawInt a, rawInt b, c]) = some cv) : codeAmong pos l = some cv ∨ cv = c := by
  fun_induction TriplesOk l with
  | case1 =>
    simp only [List.nil_append, codeAmong, rawInt] at e
    split at e
    · cases e; exact .inr rfl
    · cases e
  | case2 a' t b' u x rest ih =>
    simp only [List.cons_append, codeAmong] at e ⊢
    split at e
    · rename_i hc; cases e; rw [if_pos hc]; exact .inl rfl
    · rename_i hc; rw [if_neg hc]; exact ih ht e
  | case3 l h1 h2 => exact ht.elim
theorem TabOk.snoc {q : Str} {g : G} {c : Addr} {oc : Obj} {vs : Array Value} {t : Tok} {a b : Int} {ps : Array Value} (h : TabOk q g (W.tabObj ps)) (hn : g c = none) (hd : oc.data = .fields vs) (hv : vs[1]? = some (.str q t)) : TabOk q (gset g c oc) (W.tabObj (ps ++ #[rawInt a, rawInt b, .ref c])) := by
  obtain ⟨ps', h1, h2, h3⟩ := h
  have : ps = ps' := by simpa [W.tabObj] using h1
  subst this
  refine ⟨_, rfl, by simpa using TriplesOk_snoc a b (.ref c) ps.toList h2, fun pos cv e => ?_⟩
  rcases among_snoc ps.toList h2 (by simpa using e) with e | rfl
  · obtain ⟨c', oc', vs', t', e1, e2, e3⟩ := h3 pos cv e
    exact ⟨c', oc', vs', t', e1, gset_sub hn _ _ e2, e3⟩
  · exact ⟨c, oc, vs, t, rfl, gset_self, hd, hv⟩
/-- where the module of the built-in names lies -/
def BmOk (C : Cx) (mg : Str → Option Value) : Prop := ∃ bm ob, mg "__builtins__" = some (.ref bm) ∧ bm ≠ builtinsNs ∧ bm ≠ mainGlobals ∧ bm ∉ C.tabs ∧ C.h₀.get? bm = some ob ∧ ob.cls = .type "module" ∧ ob.dict = some builtinsNs ∧ ob.data = .plain
/-- a code, and its table -/
structure CdOk (C : Cx) (c P : Addr) (q : Str) : Prop where
  hd : W.CodeHd C.h₀ c P
  ct : c ∉ C.tabs
  pt : P ∈ C.tabs
  q : C.tabq P = q
theorem ev_lambda {params : Arguments} {body : Expr} {scope : Scope} {pos : Pos} {c P : Addr} {cl : List (Str × Nat)} {mg mb : Str → Option Value} (T : Tp C mg mb) (B : BmOk C mg) (K : CdOk C c P (F.env.qual ++ "<lambda>")) (hcode : F.env.code = .ref c)
    (q : Q (.lam params body scope (F.env.qual ++ "<lambda>") cl) h) (hclo : cloA F.cel scope.names [] = some cl := by rfl) (hdef : defaultsOf params F.env = ([], []) := by rfl) : Ev C n F loc h (.Lambda params body scope pos) Q := ⟨fun A w Q' E a0 R f k => by
  obtain ⟨fc, hfc, hm1, hm2⟩ := closure_for f hclo
  refine W.kla_eval hdef ?_
  obtain ⟨bm, ob, b1, b2, b3, b4, b5, b6, b7, b8⟩ := B
  have hbP : bm ≠ P := fun z => b4 (z ▸ K.pt)
  have hgP : mainGlobals ≠ P := fun z => T.gt (z ▸ K.pt)
  have hB : w.s.heap.BuiltinsAt mg P := ⟨bm, ob, b1, b2, b3, hbP, R.up b5 b4, b6, b7, b8⟩
  have hC : W.CodeHd w.s.heap c P := by
    obtain ⟨o, vs, file, tf, flags, tg, inF, text, tt, e1, r⟩ := K.hd
    exact ⟨o, vs, file, tf, flags, tg, inF, text, tt, R.up e1 K.ct, r⟩
  obtain ⟨oP, hoP, hT⟩ := R.tab P K.pt
  obtain ⟨ps, rfl, ht, hcs⟩ := id hT
  cases hf : codeAmong pos ps.toList with
  | some cv =>
    refine W.kla_makeFunctionHit (mg := mg) hfc f.globals (R.ns T.g T.gt) hcode hC hoP ht hf hB fun ctv h' tk hk hsz => ?_
    obtain ⟨c', oc, vs, t, rfl, g1, g2, g3⟩ := hcs pos cv hf
    have hn : w.s.heap.get? h'.objs.size = none := fresh_none hsz
    have hk' : ∀ (o : Obj) b x, w.s.heap.get? b = some x → (h'.push o).get? b = some x := fun o b x e => Heap.get?_push_of_some _ (hk b x e)
    exact k _ _ h (w.frz _ _ _ tk) q (Ext.frozen R hn (hk' _)) (R.frozen hn (hk' _) (Heap.get?_push_size _ rfl))
      (.lam gset_self rfl rfl rfl rfl rfl rfl rfl rfl rfl rfl hm1 hm2 rfl (gset_sub (R.off_fresh hn).1 _ _ g1) g2 (by rw [g3, K.q]))
  | none =>
    refine W.kla_makeFunction (mg := mg) hfc f.globals (R.ns T.g T.gt) hcode hC hoP ht hf hgP hB fun c' ctv h' tk hx hge hlt hrec htb => ?_
    obtain ⟨c2, oc, vs, t, e2, hoc, hd, hv⟩ := hrec
    cases e2
    have hn : w.s.heap.get? c' = none := fresh_none hge
    have off := R.off_fresh hn
    have hTb : TabOk (C.tabq P) (gset w.g c' oc) (W.tabObj (ps ++ #[rawInt pos.line, rawInt pos.col, .ref c'])) := hT.snoc off.1 hd (by rw [hv, K.q])
    have R1 := R.frozenTab (k := tk) (hp := h') K.pt hn (fun b x hb e => hx b x hb e) hoc htb hTb
    have e1 : Ext C [] w (w.frz c' oc h' tk) := Ext.frozenTab R K.pt hn (fun b x hb e => hx b x hb e) htb
    have hn1 : (w.frz c' oc h' tk).s.heap.get? h'.objs.size = none := fresh_none (Nat.le_refl _)
    have off1 := R1.off_fresh hn1
    refine k _ _ h ((w.frz c' oc h' tk).frz h'.objs.size _ _ tk) q (e1.trans (Ext.frozen R1 hn1 push_keeps)) (R1.frozen hn1 push_keeps (Heap.get?_push_size _ rfl))
      (.lam gset_self rfl rfl rfl rfl rfl rfl rfl rfl rfl rfl hm1 hm2 rfl (gset_sub off1.1 _ _ gset_self) hd hv)⟩
theorem fn_noBool : typeLookup (.type "function") "__bool__" = pure none := by rw [typeLookup_type, builtinLookup_eq_fast]; kernel_rfl
theorem fn_noLen : typeLookup (.type "function") "__len__" = pure none := by rw [typeLookup_type, builtinLookup_eq_fast]; kernel_rfl
theorem truthy_fn {A : Around} {E : Value → Shared → Prop} {s : Shared} {a : Addr} {Q' : Bool → Shared → Prop} (hT : s.TypeIs (.ref a) "function") (q : Q' true s) : wpAny C.M A (truthy (.ref a)) Q' E s := by
  unfold truthy
  refine wpAny_bind (wpAny_callSpecial?_none (name := Str.ofString "__bool__") hT fn_noBool ?_)
  refine wpAny_bind (wpAny_specialOf (name := Str.ofString "__len__") hT fn_noLen ?_)
  exact wpAny_pure q
theorem tru_lam {params : Arguments} {body : Expr} {scope : Scope} {qual : Str} {cl : List (Str × Nat)} (q : QB true h) : Tru C n h (.lam params body scope qual cl) QB := ⟨fun A w Q' E x a0 R c k => by
  cases c with
  | lam hg hc hd => exact truthy_fn ⟨_, R.keep _ _ hg, hc⟩ (k _ h w q .refl R)⟩
end
end Mine
namespace Mine
/-- a call of a function of the top, as code -/
structure Cd (C : Cx) (n : Nat) (h : Hs) (f : Addr) (args : List V) (kw : List (Str × V)) (Q : V → Hs → Prop) : Prop where
  run : ∀ (A : Around) (w : Wd) (Rr : Result → Shared → Prop) (xs : List Value) (ks : List (Str × Value)), AOk A n → Rep C w h → Concs C w.g w.ρ args xs →
    ks.map (·.1) = kw.map (·.1) → Concs C w.g w.ρ (kw.map (·.2)) (ks.map (·.2)) →
    (∀ (r : Value) (v : V) (h' : Hs) (w' : Wd), Q v h' → Ext C [] w w' → Rep C w' h' → Conc C w'.g w'.ρ v r → Rr (.ok (.ret r)) w'.s) → codeAny C.M A (.call (.ref f) ⟨xs, ks⟩) Rr w.s
section
variable {C : Cx} {n : Nat} {F : Fr} {loc : Loc} {h : Hs} {w : Wd} {Q : V → Hs → Prop} {QB : Bool → Hs → Prop}
theorem cd_fn {f : Addr} {fd : FuncData} {body : List Stmt} {args : List V} {kw ab : List (Str × V)} {loc : Loc} {h1 : Hs} (K : FnOk C f fd body) (hb : Binds C fd args kw ab) (hent : bindAll fd.scope.names (celFrom h.nx fd.scope.names []) ab [] (hsCells fd.scope.names h) = some (loc, h1))
    (H : ∀ L cells, Exs C n ⟨envFn f fd L cells, celFrom h.nx fd.scope.names []⟩ loc h1 body (RetQ Q)) : Cd C (n + 1) h f args kw Q := ⟨by
  intro A w Rr xs ks a0 R cx hk ck c
  obtain ⟨o, ho, hd⟩ := K.at_
  obtain ⟨cd, oc, vs, t, h1', h2, h3, h4, h5⟩ := K.code
  refine codeAny_call_function a0.room (R.up ho K.off) hd K.co K.gen K.body ⟨cd, oc, vs, t, h1', R.up h2 h5, h3, h4⟩ ?_
  obtain ⟨bs, hbs, hn, hc⟩ := hb w h xs ks R cx hk ck
  refine hbs _ _ _ _ ?_
  rw [K.globals, K.closure, K.blt]
  refine new_env K.kind R (fun x i e => by cases e) hent hn hc fun L cells w1 hL e1 R1 f1 => ⟨NoLimit_up R1 K.lim K.limt, codeAny_func ?_⟩
  refine (H L cells).run (A.deeper _) w1 _ _ a0.deeper R1 f1 fun fv fl l2 h2 w2 q2 e2 R2 f2 c2 => ?_
  have e3 : Ext C [] w w2 := (e1.trans e2).under hL
  cases c2 with
  | ret cv => exact c _ _ h2 w2 q2 e3 R2 cv
  | next => exact c _ _ h2 w2 q2 e3 R2 .none
  | brk => exact q2.elim
  | cont => exact q2.elim⟩
theorem Cd.cl {f : Addr} {args : List V} {kw : List (Str × V)} (H : Cd C n h f args kw Q) : Cl C n h (.top f) args kw Q := ⟨fun A w Q' E fx xs ks a0 R cf cx hk ck c => by
  obtain rfl := cf.toInv
  exact wpAny_call (H.run A w _ xs ks a0 R cx hk ck c)⟩
theorem Cd.weak {f : Addr} {args : List V} {kw : List (Str × V)} (H : Cd C n h f args kw fun v h' => ∃ h'', h'.Le h'' ∧ Q v h'') : Cd C n h f args kw Q :=
  ⟨fun A w Rr xs ks a R ca hk ck c => H.run A w Rr xs ks a R ca hk ck fun x v h' w' ⟨h'', le, q⟩ e' R' => c x v h'' w' q e' (R'.weaken le)⟩
theorem tc_weight (c : Addr) (r : List Value) (kw : List (Str × Value)) : (Code.builtin "type.__call__" ⟨.ref c :: r, kw⟩).weight = 1 := by kernel_rfl
theorem tc_units (a : Args) : (Code.builtin "type.__call__" a).cUnits = 1 := by kernel_rfl
theorem AOk.tc {A : Around} {c : Addr} {r : List Value} {kw : List (Str × Value)} (h : AOk A (n + 1)) : AOk (A.under (.builtin "type.__call__" ⟨.ref c :: r, kw⟩)) n := by
  refine ⟨h.handled, ?_, ?_⟩
  · have h1 := h.depth
    have h2 := tc_weight c r kw
    show A.depth + (Code.builtin "type.__call__" ⟨.ref c :: r, kw⟩).weight + 4 * n < recursionLimit
    omega
  · have h1 := h.units
    have h2 := tc_units ⟨.ref c :: r, kw⟩
    show A.units + (Code.builtin "type.__call__" ⟨.ref c :: r, kw⟩).cUnits + 40 * n < cLine
    omega
/-- an instance made -/
theorem cl_new {K : W.Frag} {cl fI : Addr} {args : List V} {kw : List (Str × V)} (I : InC C K) (hm : W.makesIn K cl = true) (hi : W.findIn K (.ref cl) "__init__" = some (some (.ref fI))) (hf : W.typeIn K (.ref fI) = some (.type "function"))
    (H : Cd C n (h.new (.inst [])) fI (.obj h.nx cl :: args) kw fun v h2 => v = .none ∧ Q (.obj h.nx cl) h2) : Cl C (n + 1) h (.top cl) args kw Q := ⟨fun A w Q' E fx xs ks a0 R cf cx hk ck c => by
  obtain rfl := cf.toInv
  have X := I.here R
  obtain ⟨g, ρ, hh, gn, d, t, os⟩ := w
  have hn : hh.get? hh.objs.size = none := fresh_none (Nat.le_refl _)
  have R1 := R.fresh (k := t) (ao := .inst []) hn (push_keeps (o := W.emptyDict)) (Heap.get?_push_size _ rfl) ⟨[], 0, rfl, Nat.le_refl _, fun x => rfl⟩ (R.fresh0 hn)
  have e1 : Ext C [] ⟨g, ρ, hh, gn, d, t, os⟩ (Wd.more ⟨g, ρ, hh, gn, d, t, os⟩ hh.objs.size (hh.push W.emptyDict) t) := Ext.fresh hn push_keeps
  have hn1 : (hh.push W.emptyDict).get? (hh.push W.emptyDict).objs.size = none := fresh_none (Nat.le_refl _)
  have R2 := R1.frozen (k := t) hn1 (push_keeps (o := W.instObj cl hh.objs.size)) (Heap.get?_push_size _ rfl)
  have e2 : Ext C [] (Wd.more ⟨g, ρ, hh, gn, d, t, os⟩ hh.objs.size (hh.push W.emptyDict) t) _ := Ext.frozen (o := W.instObj cl hh.objs.size) (k := t) R1 hn1 (push_keeps (o := W.instObj cl hh.objs.size))
  refine wpAny_call (W.make_core (W.makes_of X hm) (W.looks_findIn X hi) (fun self => W.bind_fn X self hf) (.inl rfl) ?_)
  have hsz : (hh.push W.emptyDict).objs.size = hh.objs.size + 1 := Heap.size_push ..
  refine H.run _ (Wd.frz (Wd.more ⟨g, ρ, hh, gn, d, t, os⟩ hh.objs.size (hh.push W.emptyDict) t) (hh.push W.emptyDict).objs.size (W.instObj cl hh.objs.size) ((hh.push W.emptyDict).push (W.instObj cl hh.objs.size)) t) _ _ _ a0.tc R2 ?_ hk ((ck.ext e1).ext e2) fun r v h2 w2 ⟨hv, q2⟩ e3 R3 c3 => ?_
  · refine .cons ?_ ((cx.ext e1).ext e2)
    rw [← hsz]
    exact .obj gset_self R.more_at
  · subst hv
    cases c3
    refine ⟨rfl, c _ _ h2 w2 q2 (e1.trans (e2.trans e3)) R3 ?_⟩
    have : Conc C (Wd.frz (Wd.more ⟨g, ρ, hh, gn, d, t, os⟩ hh.objs.size (hh.push W.emptyDict) t) (hh.push W.emptyDict).objs.size (W.instObj cl hh.objs.size) ((hh.push W.emptyDict).push (W.instObj cl hh.objs.size)) t).g _ (.obj h.nx cl) (.ref (hh.push W.emptyDict).objs.size) := .obj gset_self R.more_at
    have z := this.ext e3
    rw [hsz] at z
    exact z⟩
theorem kp_cls {K : W.Frag} {cl : Addr} (I : InC C K) (hm : W.makesIn K cl = true) : Kp C (.top cl) := fun w h fx R c => by
  cases c
  obtain ⟨⟨oc, od, cd, sl, hC, e1, e2, e4⟩, made, base, self, top, call, typ⟩ := W.makes_of (M := C.M) (I.here R) hm
  refine ⟨.machine, fun A Q E s' hk q => ?_⟩
  unfold keeperOf
  refine wpAny_bind (wpAny_load (hk _ _ hC) ?_)
  refine wpAny_bind (call A _ E s' hk ?_)
  exact wpAny_pure q
end
end Mine
namespace Mine
/-- the same objects, more places -/
def Hs.at (h : Hs) (m : Nat) : Hs := ⟨h.σ, m⟩
theorem AO.le_trans {x y z : AO} (a : x.le y) (b : y.le z) : x.le z := by
  cases z with
  | dead => cases x <;> trivial
  | _ => cases y <;> simp only [AO.le] at b <;> (try cases b) <;> (try exact a) <;> (cases x <;> simp only [AO.le] at a ⊢ <;> (try cases a) <;> (try rfl) <;> (try exact a))
theorem Hs.Le.of {h h' : Hs} (h1 : h.nx = h'.nx) (h2 : ∀ i, AO.le (h.σ i) (h'.σ i)) : h.Le h' := ⟨h1, h2⟩
theorem Hs.Le.refl (h : Hs) : h.Le h := ⟨rfl, fun i => AO.le_refl _⟩
/-- nothing lies behind the last place -/
def Hs.Ok (h : Hs) : Prop := ∀ i, h.nx ≤ i → h.σ i = .dead
section
variable {C : Cx} {n : Nat} {F : Fr} {loc : Loc} {h : Hs} {Q : V → Hs → Prop} {QB : Bool → Hs → Prop} {QF : Fl → Loc → Hs → Prop} {QL : Loc → Hs → Prop}
theorem Exs.ok {e : List Stmt} (H : h.Ok → Exs C n F loc h e QF) : Exs C n F loc h e QF := ⟨fun A w Q' E a R f c => (H R.dead).run A w Q' E a R f c⟩
theorem Ev.ok {e : Expr} (H : h.Ok → Ev C n F loc h e Q) : Ev C n F loc h e Q := ⟨fun A w Q' E a R f c => (H R.dead).run A w Q' E a R f c⟩
theorem Cl.ok {f : V} {args : List V} {kw : List (Str × V)} (H : h.Ok → Cl C n h f args kw Q) : Cl C n h f args kw Q := ⟨fun A w Q' E fx xs ks a R cf ca hk ck c => (H R.dead).run A w Q' E fx xs ks a R cf ca hk ck c⟩
theorem Cd.ok {f : Addr} {args : List V} {kw : List (Str × V)} (H : h.Ok → Cd C n h f args kw Q) : Cd C n h f args kw Q := ⟨fun A w Rr xs ks a R ca hk ck c => (H R.dead).run A w Rr xs ks a R ca hk ck c⟩
theorem Ev.pre {e : Expr} {h₀ : Hs} (H : Ev C n F loc h₀ e Q) (le : h.Le h₀) : Ev C n F loc h e Q := ⟨fun A w Q' E a R f c => H.run A w Q' E a (R.weaken le) f c⟩
theorem As.pre {e : Expr} {v : V} {h₀ : Hs} (H : As C n F loc h₀ e v QL) (le : h.Le h₀) : As C n F loc h e v QL := ⟨fun A w Q' E x a R f cx c => H.run A w Q' E x a (R.weaken le) f cx c⟩
theorem EvB.weak {e : Expr} (H : EvB C n F loc h e fun b h' => ∃ h'', h'.Le h'' ∧ QB b h'') : EvB C n F loc h e QB := ⟨fun A w Q' E a R f c => H.run A w Q' E a R f fun b h' w' ⟨h'', le, q⟩ e' R' => c b h'' w' q e' (R'.weaken le)⟩
theorem As.mono {e : Expr} {v : V} {Q₀ : Loc → Hs → Prop} (H : As C n F loc h e v Q₀) (k : ∀ l h', Q₀ l h' → QL l h') : As C n F loc h e v QL := ⟨fun A w Q' E x a R f cx c => H.run A w Q' E x a R f cx fun l h' w' q => c l h' w' (k _ _ q)⟩
theorem Cl.less {f : V} {args : List V} {kw : List (Str × V)} {m : Nat} (H : Cl C m h f args kw Q) (hm : m ≤ n) : Cl C n h f args kw Q := ⟨fun A w Q' E fx xs ks a R cf ca hk ck c => H.run A w Q' E fx xs ks (a.less hm) R cf ca hk ck c⟩
theorem tests_weak : ∀ (fs : List Expr) (h : Hs), TestsW C n F loc (fun b h2 => ∃ h3, h2.Le h3 ∧ QB b h3) fs h → (∀ h h3, h.Le h3 → QB true h3 → QB true h) → TestsW C n F loc QB fs h
  | [], h, ⟨h3, le, q⟩, pc => pc h h3 le q
  | c :: cs, h, H, pc => EvB.weak (EvB.mono H fun b h1 q => by
      cases b with
      | true => exact ⟨h1, .refl _, by simp only [if_true] at q ⊢; exact tests_weak cs h1 q pc⟩
      | false => simpa using q)
/-- a comprehension's loop, likewise -/
theorem lpw_inv {ok : Hs → Prop} {turn : V → Loc → Hs → (Loc → Hs → Prop) → Prop} {items : List V} (I : Nat → Loc → Hs → Prop) (hok : ∀ k loc h, I k loc h → ok h)
    (hm : ∀ v loc h (Q Q' : Loc → Hs → Prop), turn v loc h Q → (∀ l h, Q l h → Q' l h) → turn v loc h Q')
    (H : ∀ k v loc h, items[k]? = some v → I k loc h → turn v loc h fun l1 h1 => I (k + 1) l1 h1) (hend : ∀ loc h, I items.length loc h → QL loc h) (h0 : I 0 loc h) : LpW ok turn QL items loc h := by
  have main : ∀ (vs : List V) (k : Nat) (loc : Loc) (h : Hs), items.drop k = vs → k ≤ items.length → I k loc h → LpW ok turn QL vs loc h := by
    intro vs
    induction vs with
    | nil =>
      intro k loc h hd hk hI
      have : k = items.length := by have := List.drop_eq_nil_iff.mp hd; omega
      subst this
      exact ⟨hok _ _ _ hI, hend _ _ hI⟩
    | cons v vs ih =>
      intro k loc h hd hk hI
      have hv : items[k]? = some v := by rw [← List.head?_drop, hd]; rfl
      have hlt := (List.getElem?_eq_some_iff.mp hv).1
      exact ⟨hok _ _ _ hI, hm _ _ _ _ _ (H k v loc h hv hI) fun l1 h1 q => ih (k + 1) l1 h1 (by rw [← List.drop_drop, hd]; rfl) hlt q⟩
  exact main items 0 loc h rfl (Nat.zero_le _) h0
theorem tests_mono {Q₀ : Bool → Hs → Prop} : ∀ (fs : List Expr) (h : Hs), TestsW C n F loc Q₀ fs h → (∀ b h, Q₀ b h → QB b h) → TestsW C n F loc QB fs h
  | [], h, q, k => k _ _ q
  | c :: cs, h, H, k => EvB.mono H fun b h1 q => by
      cases b with
      | true => simp only [if_true] at q ⊢; exact tests_mono cs h1 q k
      | false => simp only [Bool.false_eq_true, if_false] at q ⊢; exact k _ _ q
theorem turn_mono {t : Expr} {fs : List Expr} {body : Loc → Hs → (Loc → Hs → Prop) → Prop} (hb : ∀ loc h (Q Q' : Loc → Hs → Prop), body loc h Q → (∀ l h, Q l h → Q' l h) → body loc h Q') (v : V) (loc : Loc) (h : Hs) (Q Q' : Loc → Hs → Prop) (H : TurnW C n F t fs body v loc h Q) (k : ∀ l h, Q l h → Q' l h) : TurnW C n F t fs body v loc h Q' :=
  As.mono H fun l1 h1 q => tests_mono fs h1 q fun b h2 q => by
    cases b with
    | true => simp only [if_true] at q ⊢; exact hb _ _ _ _ q k
    | false => simp only [Bool.false_eq_true, if_false] at q ⊢; exact k _ _ q
theorem emL_mono {p : Nat} {elt : Expr} (loc : Loc) (h : Hs) (Q Q' : Loc → Hs → Prop) (H : EmL C n F p elt loc h Q) (k : ∀ l h, Q l h → Q' l h) : EmL C n F p elt loc h Q' :=
  Ev.mono H fun v h1 ⟨xs, a, b, q⟩ => ⟨xs, a, b, k _ _ q⟩
theorem emD_mono {p : Nat} {ke ve : Expr} (loc : Loc) (h : Hs) (Q Q' : Loc → Hs → Prop) (H : EmD C n F p ke ve loc h Q) (k : ∀ l h, Q l h → Q' l h) : EmD C n F p ke ve loc h Q' :=
  Ev.mono H fun v h1 q1 => Ev.mono q1 fun u h2 ⟨kk, kvs, a, b, c, q⟩ => ⟨kk, kvs, a, b, c, k _ _ q⟩
/-- a list comprehension over one name, with tests: what is gathered -/
theorem lp_gather {α : Type} {ok : Hs → Prop} {x : Str} {ps : Pos} {fs : List Expr} {elt : Expr} {as : List α} {g : α → V} {hb : Hs} {p m0 : Nat} (f : α → Bool) (e : α → V) (hx : F.env.kindOf x = some .local)
    (hok : ∀ acc m, m0 ≤ m → ok ((hb.upd p (.list acc)).at m)) (hz : as.length ≤ sizeLine)
    (H : ∀ a ∈ as, ∀ acc m, m0 ≤ m → TestsW C n F [(x, g a)] (fun b h2 => b = f a ∧ if b then Ev C n F [(x, g a)] h2 elt (fun u h3 => ∃ m', m ≤ m' ∧ h3.Le ((hb.upd p (.list acc)).at m') ∧ u = e a) else ∃ m', m ≤ m' ∧ h2.Le ((hb.upd p (.list acc)).at m')) fs ((hb.upd p (.list acc)).at m))
    (hend : ∀ loc m, m0 ≤ m → QL loc ((hb.upd p (.list ((as.filter f).map e))).at m)) : LpW ok (TurnW C n F (.Name x ps) fs (EmL C n F p elt)) QL (as.map g) [] ((hb.upd p (.list [])).at m0) := by
  refine lpw_inv (fun k loc h => ∃ m, m0 ≤ m ∧ h = (hb.upd p (.list (((as.take k).filter f).map e))).at m ∧ (loc = [] ∨ ∃ u, loc = [(x, u)])) ?_ (turn_mono emL_mono) ?_ ?_ ⟨m0, Nat.le_refl _, by simp, .inl rfl⟩
  · rintro k loc h ⟨m, hm, rfl, _⟩; exact hok _ _ hm
  · rintro k v loc h hv ⟨m, hm, rfl, hl⟩
    rw [List.getElem?_map] at hv
    obtain ⟨a, ha, rfl⟩ := Option.map_eq_some_iff.mp hv
    have hu : upd x (g a) loc = [(x, g a)] := by rcases hl with rfl | ⟨u, rfl⟩ <;> simp [upd]
    have hmem : a ∈ as := List.mem_of_getElem? ha
    have hlt := (List.getElem?_eq_some_iff.mp ha).1
    have htk : ((as.take (k + 1)).filter f).map e = ((as.take k).filter f).map e ++ (if f a then [e a] else []) := by
      rw [List.take_add_one, List.filter_append, ha]
      cases hf : f a <;> simp [hf]
    have hlen : (((as.take k).filter f).map e).length ≤ sizeLine := by
      rw [List.length_map]
      exact Nat.le_trans (List.length_filter_le _ _) (by rw [List.length_take]; omega)
    refine as_local hx ?_
    rw [hu]
    refine tests_weak _ _ (tests_mono _ _ (H a hmem _ m hm) (QB := fun b h2 => ∃ h3, h2.Le h3 ∧ _) fun b h2 q => ?_) ?_
    · obtain ⟨hbf, q⟩ := q
      cases b with
      | false =>
        simp only [Bool.false_eq_true, if_false] at q ⊢
        obtain ⟨m', hm', le⟩ := q
        refine ⟨_, le, m', Nat.le_trans hm hm', ?_, .inr ⟨_, rfl⟩⟩
        rw [htk, ← hbf]; simp
      | true =>
        simp only [if_true] at q ⊢
        refine ⟨h2, .refl _, Ev.weak (Ev.mono q fun u h3 ⟨m', hm', le, hf⟩ => ⟨_, le, _, ?_, hlen, m', Nat.le_trans hm hm', ?_, .inr ⟨_, rfl⟩⟩)⟩
        · simp [Hs.at, Hs.upd]
        · rw [htk, ← hbf, hf]
          simp only [Hs.at, Hs.upd, if_true, Hs.mk.injEq, and_true]
          funext j
          by_cases hj : j = p <;> simp [hj]
    · intro h h3 le q
      simp only [if_true] at q ⊢
      exact Ev.pre q le
  · rintro loc h ⟨m, hm, rfl, _⟩
    rw [List.length_map, List.take_length]; exact hend loc m hm
theorem AO.le_ite {c : Prop} [Decidable c] {a b x : AO} (h1 : c → AO.le a x) (h2 : ¬c → AO.le b x) : AO.le (if c then a else b) x := by
  by_cases h : c
  · rw [if_pos h]; exact h1 h
  · rw [if_neg h]; exact h2 h
theorem AO.le_iteR {c : Prop} [Decidable c] {a b x : AO} (h1 : c → AO.le x a) (h2 : ¬c → AO.le x b) : AO.le x (if c then a else b) := by
  by_cases h : c
  · rw [if_pos h]; exact h1 h
  · rw [if_neg h]; exact h2 h
theorem AO.le_any (x : AO) : x.le .dead := by cases x <;> trivial
theorem AO.le_ok {x : AO} {j : Nat} (hok : h.Ok) (hj : h.nx ≤ j) : x.le (h.σ j) := by rw [hok j hj]; exact AO.le_any x
end
end Mine
namespace Mine
def fnOf (o : Obj) : FuncData := match o.data with | .func f => f | _ => ⟨default, default, ⟨[], [], none, [], [], none, []⟩, .stmts [], default, 0, [], .none, .none, .none, .none, none, .none, .none, 0⟩
def bodyOf (fd : FuncData) : List Stmt := match fd.body with | .stmts b => b | _ => []
section
variable {C : Cx} {n : Nat} {h : Hs} {Q : V → Hs → Prop}
theorem fnOk_of {K : W.Frag} {mg mb : Str → Option Value} {f c : Addr} {o oc : Obj} {t : Tok} (I : InC C K) (T : Tp C mg mb) (ho : K.lookup f = some o) (hc : K.lookup c = some oc) (hd : o.data = .func (fnOf o) := by rfl) (hcd : (fnOf o).code = .ref c := by rfl) (hb : (fnOf o).body = .stmts (bodyOf (fnOf o)) := by rfl)
    (hq : (match oc.data with | .fields vs => vs[1]? | _ => none) = some (.str (fnOf o).qualname t) := by rfl)
    (h1 : ((fnOf o).scope.isCoroutine, (fnOf o).scope.isGenerator, (fnOf o).scope.kind, (fnOf o).globals, (fnOf o).builtins) = (false, false, .function, mainGlobals, builtinsNs) := by rfl) (h2 : (fnOf o).closure = [] := by rfl) : FnOk C f (fnOf o) (bodyOf (fnOf o)) := by
  simp only [Prod.mk.injEq] at h1
  obtain ⟨a1, a2, a3, a4, a5⟩ := h1
  obtain ⟨b1, b2⟩ := I f o ho
  obtain ⟨c1, c2⟩ := I c oc hc
  refine ⟨⟨o, b1, hd⟩, b2, a1, a2, hb, a3, a4, a5, h2, ?_, T.lim, T.limt⟩
  cases q : oc.data with
  | fields vs => rw [q] at hq; exact ⟨c, oc, vs, t, hcd, c1, q, hq, c2⟩
  | _ => rw [q] at hq; cases hq
theorem binds1 {fd : FuncData} {a : V} {x : Str} (H : ∀ v, bindArgs fd ⟨[v], []⟩ = pure [(x, v)] := by intro _; rfl) : Binds C fd [a] [] [(x, a)] := fun w h xs ks R cx hk ck => by
  cases cx with
  | cons c1 cn =>
    cases cn
    cases ks with
    | cons _ _ => cases hk
    | nil => exact ⟨_, .of_eq (H _), rfl, .cons c1 .nil⟩
theorem binds2 {fd : FuncData} {a b : V} {x y : Str} (H : ∀ v u, bindArgs fd ⟨[v, u], []⟩ = pure [(x, v), (y, u)] := by intro _ _; rfl) : Binds C fd [a, b] [] [(x, a), (y, b)] := fun w h xs ks R cx hk ck => by
  cases cx with
  | cons c1 cx => cases cx with
    | cons c2 cn =>
      cases cn
      cases ks with
      | cons _ _ => cases hk
      | nil => exact ⟨_, .of_eq (H _ _), rfl, .cons c1 (.cons c2 .nil)⟩
theorem binds3 {fd : FuncData} {a b d : V} {x y z : Str} (H : ∀ v u t, bindArgs fd ⟨[v, u, t], []⟩ = pure [(x, v), (y, u), (z, t)] := by intro _ _ _; rfl) : Binds C fd [a, b, d] [] [(x, a), (y, b), (z, d)] := fun w h xs ks R cx hk ck => by
  cases cx with
  | cons c1 cx => cases cx with
    | cons c2 cx => cases cx with
      | cons c3 cn =>
        cases cn
        cases ks with
        | cons _ _ => cases hk
        | nil => exact ⟨_, .of_eq (H _ _ _), rfl, .cons c1 (.cons c2 (.cons c3 .nil))⟩
theorem binds4 {fd : FuncData} {a b d e : V} {x y z u : Str} (H : ∀ p q r s, bindArgs fd ⟨[p, q, r, s], []⟩ = pure [(x, p), (y, q), (z, r), (u, s)] := by intro _ _ _ _; rfl) : Binds C fd [a, b, d, e] [] [(x, a), (y, b), (z, d), (u, e)] := fun w h xs ks R cx hk ck => by
  cases cx with
  | cons c1 cx => cases cx with
    | cons c2 cx => cases cx with
      | cons c3 cx => cases cx with
        | cons c4 cn =>
          cases cn
          cases ks with
          | cons _ _ => cases hk
          | nil => exact ⟨_, .of_eq (H _ _ _ _), rfl, .cons c1 (.cons c2 (.cons c3 (.cons c4 .nil)))⟩
theorem bind_local {names : List (Str × NameKind)} {cel : List (Str × Nat)} {x : Str} {v : V} {r : List (Str × V)} {loc : Loc} {o : Option (Loc × Hs)} (hk : names.lookup x = some .local) (H : bindAll names cel r (upd x v loc) h = o) : bindAll names cel ((x, v) :: r) loc h = o := by
  unfold bindAll; rw [hk]; exact H
theorem bind_cell {names : List (Str × NameKind)} {cel : List (Str × Nat)} {x : Str} {v : V} {u : Option V} {i : Nat} {r : List (Str × V)} {loc : Loc} {o : Option (Loc × Hs)} (hk : names.lookup x = some .cell) (hc : cel.lookup x = some i) (hs : h.σ i = .cell u) (H : bindAll names cel r loc (h.upd i (.cell (some v))) = o) : bindAll names cel ((x, v) :: r) loc h = o := by
  unfold bindAll; rw [hk, hc]; dsimp only; rw [hs]; exact H
theorem Hs.Ok.lt {i : Nat} (hok : h.Ok) (hi : h.σ i ≠ .dead) : i < h.nx := by
  rcases Nat.lt_or_ge i h.nx with z | z
  · exact z
  · exact absurd (hok i z) hi
end
end Mine
namespace Mine
section
variable {C : Cx} {n : Nat} {F : Fr} {loc : Loc} {h h' : Hs} {w : Wd} {Q : V → Hs → Prop} {QF : Fl → Loc → Hs → Prop}
/-- a step that changes nothing but what is said of the state -/
def Gh (C : Cx) (h h' : Hs) : Prop := ∀ w, Rep C w h → ∃ g', Ext C [] w ⟨g', w.ρ, w.s⟩ ∧ Rep C ⟨g', w.ρ, w.s⟩ h'
theorem Exs.ghost0 {e : List Stmt} {h₀ : Hs} (gh : Gh C h h₀) (H : Exs C n F loc h₀ e QF) : Exs C n F loc h e QF :=
  ⟨fun A w Q' E a R f c => by
    obtain ⟨g', e2, R2⟩ := gh w R
    exact H.run A ⟨g', w.ρ, w.s⟩ Q' E a R2 (f.ext0 e2) fun x v l h' w' q e' R' fm cf => c x v l h' w' q (e2.wide.trans e') R' fm cf⟩
open Classical in
/-- lists that a dict holds are written no more -/
theorem Gh.dict {d : Nat} {ks : List Key} {q : Key → Nat} {xs : Key → List V} (hd : h.σ d = .dict (ks.map fun k => (k, .ref (q k)))) (hq : ∀ k ∈ ks, h.σ (q k) = .list (xs k))
    (hn : h'.nx = h.nx) (hd' : h'.σ d = .dict (ks.map fun k => (k, .lst (xs k)))) (hq' : ∀ k ∈ ks, h'.σ (q k) = .dead) (hle : ∀ j, j ≠ d → (∀ k ∈ ks, j ≠ q k) → AO.le (h.σ j) (h'.σ j)) : Gh C h h' := fun w R => by
  let Z : Addr → Prop := fun a => ∃ k ∈ ks, w.ρ[q k]? = some a
  let g' : G := fun a => if Z a then w.s.heap.get? a else w.g a
  have hsub : Sub w.g g' := fun a o e => by
    show (if Z a then _ else _) = _
    by_cases hz : Z a
    · rw [if_pos hz]; exact R.keep a o e
    · rw [if_neg hz]; exact e
  have hdq : ∀ k ∈ ks, q k ≠ d := fun k hk z => by rw [← z, hq k hk] at hd; cases hd
  refine ⟨g', ⟨hsub, fun a o e => ?_, List.prefix_refl _, fun _ z => .inl z, fun _ _ e _ _ _ => e, fun _ o e => ⟨o, e⟩⟩, ⟨fun a o e => ?_, R.len.trans hn.symm, R.nd, fun i a hi hs => ?_, fun i hi => ?_, fun i a hi => ?_, R.new, R.os, R.bare, fun a o e ht => hsub _ _ (R.top a o e ht), fun a ha => let ⟨o, e, z⟩ := R.tab a ha; ⟨o, e, z.mono hsub⟩, fun a ha => ⟨?_, (R.offtab a ha).2⟩⟩⟩
  · have e : (if Z a then _ else _) = _ := e
    by_cases hz : Z a
    · obtain ⟨k, hk, z⟩ := hz; exact .inr (.inr (List.mem_of_getElem? z))
    · rw [if_neg hz] at e; exact .inl e
  · have e : (if Z a then _ else _) = _ := e
    by_cases hz : Z a
    · rw [if_pos hz] at e; exact e
    · rw [if_neg hz] at e; exact R.keep a o e
  · have hz : ¬ Z a := by
      rintro ⟨k, hk, z⟩
      have : i = q k := nodup_inj R.nd hi z
      rw [this, hq' k hk] at hs; exact hs rfl
    show (if Z a then _ else _) = _
    rw [if_neg hz]
    refine R.off i a hi ?_
    by_cases hid : i = d
    · rw [hid, hd]; simp
    · refine AO.le_dead (hle i hid fun k hk z => ?_) hs
      rw [z, hq' k hk] at hs; exact hs rfl
  · have hi : h.nx ≤ i := by rw [← hn]; exact hi
    by_cases hid : i = d
    · have := R.dead i hi; rw [hid, hd] at this; cases this
    · have h1 := hle i hid fun k hk z => by have := R.dead i hi; rw [z, hq k hk] at this; cases this
      rw [R.dead i hi] at h1
      revert h1
      cases h'.σ i <;> simp [AO.le]
  · obtain ⟨o, ho, hA⟩ := R.obj i a hi
    refine ⟨o, ho, ?_⟩
    by_cases hid : i = d
    · subst hid
      rw [hd] at hA
      rw [hd']
      obtain ⟨kvs', h1, h2, h3⟩ := hA
      refine ⟨kvs', h1, by rw [h2]; simp, ?_⟩
      have key : ∀ (l : List Key) (vs : List Value), (∀ k ∈ l, k ∈ ks) → Concs C w.g w.ρ ((l.map fun k => (k, V.ref (q k))).map (·.2)) vs → Concs C g' w.ρ ((l.map fun k => (k, V.lst (xs k))).map (·.2)) vs := by
        intro l
        induction l with
        | nil => intro vs _ c; cases c; exact .nil
        | cons k l ih =>
          intro vs hl c
          cases c with
          | cons c1 c2 =>
            refine .cons ?_ (ih _ (fun k' hk' => hl k' (by simp [hk'])) c2)
            have hk := hl k (by simp)
            cases c1 with
            | ref hr =>
              obtain ⟨vs', ⟨m, e⟩, cs⟩ := R.list hr (hq k hk)
              refine .lst (n := m) (vs := vs'.toList) ?_ (cs.mono hsub (List.prefix_refl _))
              show (if Z _ then _ else _) = _
              rw [if_pos ⟨k, hk, hr⟩, e, Array.toArray_toList]
      exact key ks _ (fun k hk => hk) h3
    · by_cases hz : ∃ k ∈ ks, i = q k
      · obtain ⟨k, hk, z⟩ := hz
        rw [z, hq' k hk]; trivial
      · exact (hA.le (hle i hid fun k hk z => hz ⟨k, hk, z⟩)).mono hsub (List.prefix_refl _)
  · show (if Z a then _ else _) = _
    rw [if_neg (by rintro ⟨k, hk, z⟩; exact (R.offtab a ha).2 (List.mem_of_getElem? z))]
    exact (R.offtab a ha).1
end
end Mine
namespace Mine
/-- a row of targets -/
def AsL (C : Cx) (n : Nat) (F : Fr) (Q : Loc → Hs → Prop) : List Expr → List V → Loc → Hs → Prop
  | [], [], loc, h => Q loc h
  | t :: ts, v :: vs, loc, h => As C n F loc h t v fun l1 h1 => AsL C n F Q ts vs l1 h1
  | _, _, _, _ => False
section
variable {C : Cx} {n : Nat} {F : Fr} {loc : Loc} {h : Hs} {QL : Loc → Hs → Prop}
theorem asL_run : ∀ (ts : List Expr) (vs : List V) (xs : List Value) (loc : Loc) (h : Hs) (A : Around) (w w0 : Wd) (Q' : Unit → Shared → Prop) (E : Value → Shared → Prop), AsL C n F QL ts vs loc h → AOk A n → Rep C w h → Frm C w F loc → Concs C w.g w.ρ vs xs →
    (∀ (loc' : Loc) (h' : Hs) (w' : Wd), QL loc' h' → Ext C [F.env.locals] w w' → Rep C w' h' → Frm C w' F loc' → Q' () w'.s) → wpAny C.M A (assignInOrder (ts.map fun t => assign t F.env) xs) Q' E w.s
  | [], [], _, loc, h, A, w, w0, Q', E, H, a0, R, f, c, k => by cases c; exact wpAny_pure (k loc h w H .refl R f)
  | [], _ :: _, _, _, _, _, _, _, _, _, H, _, _, _, _, _ => H.elim
  | _ :: _, [], _, _, _, _, _, _, _, _, H, _, _, _, _, _ => H.elim
  | t :: ts, v :: vs, _, loc, h, A, w, w0, Q', E, H, a0, R, f, c, k => by
    cases c with
    | cons c1 c2 =>
      show wpAny _ _ (assignInOrder (assign t F.env :: _) (_ :: _)) _ _ _
      unfold assignInOrder
      refine wpAny_bind (wpAny_holding (H.run A w _ _ _ a0 R f c1 fun l1 h1 w1 q1 e1 R1 f1 => ?_))
      exact asL_run ts vs _ l1 h1 A w1 w0 Q' E q1 a0 R1 f1 (c2.ext e1) fun l2 h2 w2 q2 e2 R2 f2 => k l2 h2 w2 q2 (e1.trans e2) R2 f2
theorem as_tuple {ts : List Expr} {vs : List V} {k : Nat} {p : Pos} (hlen : ts.length = vs.length) (H : AsL C n F QL ts vs loc h) (he : (assignEach ts F.env).map (·.2) = ts.map (fun t => assign t F.env) := by rfl) (hst : (assignEach ts F.env).findIdx? (·.1) = none := by rfl) : As C n F loc h (.Tuple ts k p) (.tup vs) QL := ⟨fun A w Q' E y a0 R f c kk => by
  cases c with
  | @tup _ xs a o m hg hc hd cs =>
    have hl : (assignEach ts F.env).length = xs.toArray.size := by
      have := congrArg List.length he
      simp only [List.length_map] at this
      rw [this, List.size_toArray, cs.length, hlen]
    refine wpAny_assign_Tuple a0.handled ⟨o, R.keep _ _ hg, hc, m, hd⟩ hl hst fun h' hx => ?_
    rw [he]
    have hn : w.s.heap.get? w.s.heap.objs.size = none := fresh_none (Nat.le_refl _)
    have hk : ∀ b o, w.s.heap.get? b = some o → h'.get? b = some o := fun b o e => hx b o (Nat.ne_of_lt (Heap.lt_size e)) e
    have e1 : Ext C [F.env.locals] w (w.at h' w.s.toks) := Ext.grow hk
    exact asL_run ts vs xs loc h A (w.at h' w.s.toks) w Q' E H a0 (R.grow hk) (f.ext0 (Ext.grow hk)) cs fun l2 h2 w2 q2 e2 R2 f2 => kk l2 h2 w2 q2 (e1.trans e2) R2 f2⟩
/-- fewer names -/
def LocSub (l l' : Loc) : Prop := ∀ x v, l.lookup x = some v → l'.lookup x = some v
theorem LocSub.refl (l : Loc) : LocSub l l := fun _ _ e => e
theorem LocSub.app (l r : Loc) : LocSub l (l ++ r) := fun x v e => by
  induction l with
  | nil => cases e
  | cons p l ih =>
    obtain ⟨y, u⟩ := p
    simp only [List.cons_append, List.lookup_cons] at e ⊢
    cases q : x == y <;> rw [q] at e <;> first | exact e | exact ih e
theorem Exs.pre2 {QF : Fl → Loc → Hs → Prop} {e : List Stmt} {h₀ : Hs} {l₀ : Loc} (H : Exs C n F l₀ h₀ e QF) (ls : LocSub l₀ loc) (le : h.Le h₀) : Exs C n F loc h e QF := ⟨fun A w Q' E a R f c => H.run A w Q' E a (R.weaken le) (f.sub ls) c⟩
theorem Exs.weak2 {QF : Fl → Loc → Hs → Prop} {e : List Stmt} (H : Exs C n F loc h e fun fl l h' => ∃ l'' h'', LocSub l'' l ∧ h'.Le h'' ∧ QF fl l'' h'') : Exs C n F loc h e QF :=
  ⟨fun A w Q' E a R f c => H.run A w Q' E a R f fun x v l h' w' ⟨l'', h'', ls, le, q⟩ e' R' fm => c x v l'' h'' w' q e' (R'.weaken le) (fm.sub ls)⟩
/-- a for, by what holds ahead of each turn; names and objects of a turn may be forgotten -/
theorem fow_inv2 {QF : Fl → Loc → Hs → Prop} {ok : Hs → Prop} {t : Expr} {b : List Stmt} {items : List V} (I : Nat → Loc → Hs → Prop) (hok : ∀ k loc h, I k loc h → ok h)
    (H : ∀ k v loc h, items[k]? = some v → I k loc h → As C n F loc h t v fun loc1 h1 => Exs C n F loc1 h1 b fun fl loc2 h2 => ∃ l3 h3, LocSub l3 loc2 ∧ h2.Le h3 ∧ (match fl with
      | .next | .cont => I (k + 1) l3 h3
      | .brk => QF .next l3 h3
      | .ret u => QF (.ret u) l3 h3))
    (hend : ∀ loc h, I items.length loc h → QF .next loc h) (h0 : I 0 loc h) : FoW C n F ok t b QF items loc h := by
  have main : ∀ (vs : List V) (k : Nat) (loc : Loc) (h : Hs), items.drop k = vs → k ≤ items.length → I k loc h → FoW C n F ok t b QF vs loc h := by
    intro vs
    induction vs with
    | nil =>
      intro k loc h hd hk hI
      have : k = items.length := by have := List.drop_eq_nil_iff.mp hd; omega
      subst this
      exact ⟨hok _ _ _ hI, hend _ _ hI⟩
    | cons v vs ih =>
      intro k loc h hd hk hI
      have hv : items[k]? = some v := by rw [← List.head?_drop, hd]; rfl
      have hlt := (List.getElem?_eq_some_iff.mp hv).1
      refine ⟨hok _ _ _ hI, (H k v loc h hv hI).mono fun l1 h1 q1 => Exs.weak2 (q1.mono fun fl l2 h2 ⟨l3, h3, ls, le, q⟩ => ⟨l3, h3, ls, le, ?_⟩)⟩
      cases fl with
      | next => exact ih (k + 1) l3 h3 (by rw [← List.drop_drop, hd]; rfl) hlt q
      | cont => exact ih (k + 1) l3 h3 (by rw [← List.drop_drop, hd]; rfl) hlt q
      | brk => exact q
      | ret u => exact q
  exact main items 0 loc h rfl (Nat.zero_le _) h0
/-- all but some places are as they were -/
structure Same (P : Nat → Prop) (h h' : Hs) : Prop where
  nx : h.nx ≤ h'.nx
  σ : ∀ j, j < h.nx → ¬ P j → h'.σ j = h.σ j
theorem Same.refl (P : Nat → Prop) (h : Hs) : Same P h h := ⟨Nat.le_refl _, fun _ _ _ => rfl⟩
theorem Same.trans {P : Nat → Prop} {a b c : Hs} (x : Same P a b) (y : Same P b c) : Same P a c := ⟨Nat.le_trans x.nx y.nx, fun j hj hp => (y.σ j (Nat.lt_of_lt_of_le hj x.nx) hp).trans (x.σ j hj hp)⟩
theorem Same.wide {P R : Nat → Prop} {a b : Hs} (x : Same P a b) (H : ∀ j, P j → R j) : Same R a b := ⟨x.nx, fun j hj hp => x.σ j hj fun z => hp (H j z)⟩
theorem Same.upd {P : Nat → Prop} {a b : Hs} {i : Nat} {o : AO} (x : Same P a b) (hi : P i ∨ a.nx ≤ i) : Same P a (b.upd i o) := ⟨x.nx, fun j hj hp => by
  have : j ≠ i := by
    rintro rfl
    rcases hi with z | z
    · exact hp z
    · omega
  show (if j = i then o else b.σ j) = _
  rw [if_neg this]; exact x.σ j hj hp⟩
theorem Same.new {P : Nat → Prop} {a b : Hs} {o : AO} (x : Same P a b) : Same P a (b.new o) := ⟨Nat.le_succ_of_le x.nx, fun j hj hp => by
  have : j ≠ b.nx := by have := x.nx; omega
  show (if j = b.nx then o else b.σ j) = _
  rw [if_neg this]; exact x.σ j hj hp⟩
theorem Same.at {P : Nat → Prop} {a b : Hs} {m : Nat} (x : Same P a b) (hm : b.nx ≤ m) : Same P a (b.at m) := ⟨Nat.le_trans x.nx hm, x.σ⟩
end
end Mine
namespace Mine
/-- keys in the order in which they come first; where a key stands -/
def firsts (ks : List Key) : List Key := ks.foldl sadd []
def places (ks : List Key) (k : Key) : List Nat := (List.range ks.length).filter fun j => ks[j]? = some k
theorem firsts_snoc (ks : List Key) (k : Key) : firsts (ks ++ [k]) = sadd (firsts ks) k := by simp [firsts, List.foldl_append]
theorem mem_sadd {ks : List Key} {k k' : Key} : k' ∈ sadd ks k ↔ k' ∈ ks ∨ k' = k := by
  unfold sadd
  split
  · rename_i h
    constructor
    · exact .inl
    · rintro (z | rfl)
      · exact z
      · simpa using h
  · simp
theorem nodup_sadd {ks : List Key} {k : Key} (h : ks.Nodup) : (sadd ks k).Nodup := by
  unfold sadd
  split
  · exact h
  · rename_i z
    refine List.nodup_append.mpr ⟨h, by simp, fun a ha b hb => ?_⟩
    rw [List.mem_singleton.mp hb]
    rintro rfl
    exact z (by simpa using ha)
theorem mem_foldl_sadd : ∀ (ks acc : List Key) (k : Key), k ∈ ks.foldl sadd acc ↔ k ∈ acc ∨ k ∈ ks
  | [], acc, k => by simp
  | a :: l, acc, k => by rw [List.foldl_cons, mem_foldl_sadd l, mem_sadd]; simp [or_assoc]
theorem nodup_foldl_sadd : ∀ (ks acc : List Key), acc.Nodup → (ks.foldl sadd acc).Nodup
  | [], acc, h => h
  | a :: l, acc, h => nodup_foldl_sadd l _ (nodup_sadd h)
theorem mem_firsts {ks : List Key} {k : Key} : k ∈ firsts ks ↔ k ∈ ks := by simp [firsts, mem_foldl_sadd]
theorem nodup_firsts (ks : List Key) : (firsts ks).Nodup := nodup_foldl_sadd _ _ (by simp)
theorem length_sadd (ks : List Key) (k : Key) : (sadd ks k).length ≤ ks.length + 1 := by
  unfold sadd; split <;> simp
theorem length_foldl_sadd : ∀ (ks acc : List Key), (ks.foldl sadd acc).length ≤ acc.length + ks.length
  | [], acc => by simp
  | a :: l, acc => by
    have h1 := length_foldl_sadd l (sadd acc a)
    have h2 := length_sadd acc a
    simp only [List.foldl_cons, List.length_cons]; omega
theorem length_firsts (ks : List Key) : (firsts ks).length ≤ ks.length := by have := length_foldl_sadd ks []; simpa [firsts] using this
theorem places_snoc (ks : List Key) (k k' : Key) : places (ks ++ [k]) k' = places ks k' ++ if k = k' then [ks.length] else [] := by
  unfold places
  rw [List.length_append, List.length_singleton, List.range_succ, List.filter_append]
  congr 1
  · refine List.filter_congr fun j hj => ?_
    rw [List.getElem?_append_left (by simpa using hj)]
  · by_cases h : k = k'
    · subst h; simp
    · simp [h]
theorem length_places (ks : List Key) (k : Key) : (places ks k).length ≤ ks.length := Nat.le_trans (List.length_filter_le _ _) (by simp)
theorem take_snoc {α : Type} {ks : List α} {t : Nat} {k : α} (h : ks[t]? = some k) : ks.take (t + 1) = ks.take t ++ [k] := by
  rw [List.take_add_one, h]; rfl
theorem kget_map {β : Type} {f : Key → β} {k : Key} : ∀ {l : List Key}, kget (l.map fun k => (k, f k)) k = if k ∈ l then some (f k) else none
  | [] => by simp [kget]
  | a :: l => by
    by_cases h : a = k
    · subst h; simp [kget]
    · have : kget ((a :: l).map fun k => (k, f k)) k = kget (l.map fun k => (k, f k)) k := by simp [kget, h]
      rw [this, kget_map]
      have : k ≠ a := fun z => h z.symm
      simp [this]
theorem kdel_map {β : Type} {f : Key → β} {k : Key} (l : List Key) : kdel (l.map fun k => (k, f k)) k = (l.filter fun x => x ≠ k).map fun k => (k, f k) := by
  induction l with
  | nil => rfl
  | cons a l ih =>
    by_cases h : a = k
    · subst h; simp [kdel] at ih ⊢; exact ih
    · simp [kdel, h] at ih ⊢; exact ih
end Mine
namespace Mine
section
variable {C : Cx} {n : Nat} {F : Fr} {loc : Loc} {h : Hs} {QF : Fl → Loc → Hs → Prop} {QL : Loc → Hs → Prop}
theorem Ex.weak {st : Stmt} (H : Ex C n F loc h st fun fl l h' => ∃ h'', h'.Le h'' ∧ QF fl l h'') : Ex C n F loc h st QF :=
  ⟨fun A w Q' E a R f c => H.run A w Q' E a R f fun x v l h' w' ⟨h'', le, q⟩ e' R' => c x v l h'' w' q e' (R'.weaken le)⟩
theorem LocSub.upd {x : Str} {v : V} (hn : loc.lookup x = none) : LocSub loc (upd x v loc) := fun y u e => by
  rw [lookup_upd]
  by_cases hy : y = x
  · rw [hy, hn] at e; cases e
  · rw [if_neg hy]; exact e
/-- for e in S: del D[e] -/
theorem del_loop {xS xD xE : Str} {p1 p2 p3 p4 p5 p6 p7 : Pos} {s d : Nat} {js l : List Key} {f : Key → V} (kS : F.env.kindOf xS = some .local) (kD : F.env.kindOf xD = some .local) (kE : F.env.kindOf xE = some .local) (lS : loc.lookup xS = some (.ref s)) (lD : loc.lookup xD = some (.ref d)) (lE : loc.lookup xE = none)
    (hs : h.σ s = .set js) (hd : h.σ d = .dict (l.map fun k => (k, f k))) (hsub : ∀ k ∈ js, k ∈ l) (hnd : js.Nodup) (hz : l.length ≤ sizeLine)
    (dS : (xS == ("__debug__" : Str)) = false := by decide) (dD : (xD == ("__debug__" : Str)) = false := by decide) (dE : (xE == ("__debug__" : Str)) = false := by decide)
    (q : QF .next loc (h.upd d (.dict ((l.filter fun k => k ∉ js).map fun k => (k, f k))))) : Ex C n F loc h (.For (.Name xE p1) (.Name xS p2) [.Delete [.Subscript (.Name xD p3) (.Name xE p4) p5] p6] [] p7) QF := by
  have hsd : s ≠ d := fun z => by rw [z, hd] at hs; cases hs
  refine Ex.weak (ex_for (tg := fun _ => True) (ev_local kS lS (its_set hs fun o pl hp => ?_) dS) trivial)
  have hpn : pl.Nodup := hp.nodup_iff.mpr hnd
  refine fow_inv2 (fun t loc' h' => loc' = loc ∧ h' = (h.upd s (.setO o js)).upd d (.dict ((l.filter fun k => k ∉ pl.take t).map fun k => (k, f k)))) ?_ ?_ ?_ ?_
  · rintro t loc' h' ⟨_, rfl⟩
    show (if s = d then _ else if s = s then _ else _) = _
    rw [if_neg hsd, if_pos rfl]
  · rintro t v loc' h' hv ⟨rfl, rfl⟩
    rw [List.getElem?_map] at hv
    obtain ⟨k, hk, rfl⟩ := Option.map_eq_some_iff.mp hv
    have htk := take_snoc hk
    have hkl : k ∈ l := hsub k (hp.mem_iff.mp (List.mem_of_getElem? hk))
    have hkn : k ∉ pl.take t := by
      intro z
      obtain ⟨j, hj⟩ := List.getElem?_of_mem z
      have hjt : j < t := by have := (List.getElem?_eq_some_iff.mp hj).1; rw [List.length_take] at this; omega
      rw [List.getElem?_take_of_lt hjt] at hj
      obtain ⟨a1, b1⟩ := List.getElem?_eq_some_iff.mp hj
      obtain ⟨a2, b2⟩ := List.getElem?_eq_some_iff.mp hk
      exact List.pairwise_iff_getElem.mp hpn j t a1 a2 hjt (b1.trans b2.symm)
    have hDv : ((h.upd s (.setO o js)).upd d (.dict ((l.filter fun k => k ∉ pl.take t).map fun k => (k, f k)))).σ d = .dict ((l.filter fun k => k ∉ pl.take t).map fun k => (k, f k)) := if_pos rfl
    have neD : xD ≠ xE := fun z => by rw [z, lE] at lD; cases lD
    refine as_local kE (exs_cons (ex_del_sub (ev_local kD (by rw [lookup_upd, if_neg neD]; exact lD) (ev_local kE (by rw [lookup_upd, if_pos rfl]) (dct_del hDv ?_ ?_ ?_) dE) dD)))
    · rw [kget_map, if_pos (by simp [hkl, hkn])]; rfl
    · rw [List.length_map]; exact Nat.le_trans (List.length_filter_le _ _) hz
    · refine exs_nil ⟨_, _, LocSub.upd lE, .refl _, rfl, ?_⟩
      rw [kdel_map, List.filter_filter]
      have : (l.filter fun a => decide (a ≠ k) && decide (a ∉ pl.take t)) = l.filter fun a => decide (a ∉ pl.take (t + 1)) := by
        refine List.filter_congr fun a _ => ?_
        rw [htk]
        by_cases h1 : a = k <;> by_cases h2 : a ∈ pl.take t <;> simp [h1, h2]
      rw [this]
      simp only [Hs.upd, Hs.mk.injEq, and_true]
      funext j
      by_cases hj : j = d <;> simp [hj]
  · rintro loc' h' ⟨rfl, rfl⟩
    rw [List.length_map, List.take_length]
    have : (l.filter fun k => k ∉ pl) = l.filter fun k => k ∉ js := List.filter_congr fun a _ => by simp [hp.mem_iff]
    rw [this]
    refine ⟨h.upd d (.dict ((l.filter fun k => k ∉ js).map fun k => (k, f k))), .of rfl fun j => ?_, q⟩
    show AO.le (if j = d then _ else if j = s then _ else h.σ j) (if j = d then _ else h.σ j)
    by_cases hj : j = d
    · rw [if_pos hj, if_pos hj]; exact AO.le_refl _
    · rw [if_neg hj, if_neg hj]
      by_cases hjs : j = s
      · rw [if_pos hjs, hjs, hs]; rfl
      · rw [if_neg hjs]; exact AO.le_refl _
  · refine ⟨rfl, ?_⟩
    simp only [List.take_zero, Hs.upd, Hs.mk.injEq, and_true]
    funext j
    by_cases hj : j = d
    · subst hj
      simp only [if_neg (Ne.symm hsd), if_true]
      rw [hd]; simp; congr 1; exact (List.filter_eq_self.mpr fun _ _ => rfl).symm
    · simp [hj]
end
end Mine
namespace Mine
/-- a filter, with a memory a, kept at the places P -/
structure Flt (C : Cx) (n : Nat) (jV : V) {α : Type} (Mem : α → Hs → Prop) (P : Nat → Prop) (step : α → Key → Bool × α) (kOk : Key → Prop) : Prop where
  nb : ∀ id, jV ≠ .blt id
  tru : ∀ (h : Hs) (QB : Bool → Hs → Prop), QB true h → Tru C n h jV QB
  kp : Kp C jV
  call : ∀ (h : Hs) (a : α) (k : Key) (Q : V → Hs → Prop), Mem a h → kOk k → (∀ h', Mem (step a k).2 h' → Same P h h' → Q (.bool (step a k).1) h') → Cl C n h jV [k.v] [] Q
  mem : ∀ a h h', Mem a h → h.nx ≤ h'.nx → (∀ j, P j → h'.σ j = h.σ j) → Mem a h'
def junkRun {α : Type} (step : α → Key → Bool × α) (l : List Key) (a : α) : List Key × α := l.foldl (fun r k => (if (step r.2 k).1 then sadd r.1 k else r.1, (step r.2 k).2)) ([], a)
theorem junkRun_snoc {α : Type} (step : α → Key → Bool × α) (l : List Key) (k : Key) (a : α) : junkRun step (l ++ [k]) a = (if (step (junkRun step l a).2 k).1 then sadd (junkRun step l a).1 k else (junkRun step l a).1, (step (junkRun step l a).2 k).2) := by
  unfold junkRun; rw [List.foldl_append]; rfl
theorem snoc_ind {α : Type} {p : List α → Prop} (h0 : p []) (h1 : ∀ l x, p l → p (l ++ [x])) : ∀ l, p l := fun l => by
  have : ∀ r : List α, p r.reverse := fun r => by
    induction r with
    | nil => exact h0
    | cons a r ih => rw [List.reverse_cons]; exact h1 _ _ ih
  simpa using this l.reverse
theorem junkRun_sub {α : Type} (step : α → Key → Bool × α) (a : α) (l : List Key) : ∀ k ∈ (junkRun step l a).1, k ∈ l := by
  refine snoc_ind (p := fun l => ∀ k ∈ (junkRun step l a).1, k ∈ l) (fun k hk => by simp [junkRun] at hk) (fun l x ih k hk => ?_) l
  rw [junkRun_snoc] at hk
  split at hk
  · rcases mem_sadd.mp hk with z | z
    · exact List.mem_append_left _ (ih k z)
    · simp [z]
  · exact List.mem_append_left _ (ih k hk)
theorem junkRun_nodup {α : Type} (step : α → Key → Bool × α) (a : α) (l : List Key) : (junkRun step l a).1.Nodup := by
  refine snoc_ind (p := fun l => (junkRun step l a).1.Nodup) (by simp [junkRun]) (fun l x ih => ?_) l
  rw [junkRun_snoc]
  dsimp only
  split
  · exact nodup_sadd ih
  · exact ih
theorem junkRun_length {α : Type} (step : α → Key → Bool × α) (a : α) (l : List Key) : (junkRun step l a).1.length ≤ l.length := by
  refine snoc_ind (p := fun l => (junkRun step l a).1.length ≤ l.length) (by simp [junkRun]) (fun l x ih => ?_) l
  rw [junkRun_snoc]
  dsimp only
  split
  · have := length_sadd (junkRun step l a).1 x; simp; omega
  · simp; omega
section
variable {C : Cx} {n : Nat} {F : Fr} {loc : Loc} {h : Hs} {QF : Fl → Loc → Hs → Prop}
/-- for e in D.keys(): if J(e): S.add(e) -/
theorem junk_loop {α : Type} {jV : V} {Mem : α → Hs → Prop} {P : Nat → Prop} {step : α → Key → Bool × α} {kOk : Key → Prop} {xS xD xE xJ : Str} {p1 p2 p3 p4 p5 p6 p7 p8 p9 pa pb pc pd pe : Pos} {s d : Nat} {l : List Key} {f : Key → V} {a : α} (S : SysIn C) (J : Flt C n jV Mem P step kOk)
    (kS : F.env.kindOf xS = some .local) (kD : F.env.kindOf xD = some .local) (kE : F.env.kindOf xE = some .local) (kJ : F.env.kindOf xJ = some .local) (lS : loc.lookup xS = some (.ref s)) (lD : loc.lookup xD = some (.ref d)) (lJ : loc.lookup xJ = some jV) (lE : loc.lookup xE = none)
    (hs : h.σ s = .set []) (hd : h.σ d = .dict (l.map fun k => (k, f k))) (hm : Mem a h) (hk : ∀ k ∈ l, kOk k) (hPd : ¬ P d) (hPs : ¬ P s) (hz : l.length ≤ 4000) (hdn : d < h.nx) (hsn : s < h.nx)
    (hfS : ∀ (x : Value), foldedSetIterable (.Call (.Attribute (.Name xD p2) (Str.ofString "keys") p3) [] [] p4) F.env x = pure x := by intro _; rfl)
    (dS : (xS == ("__debug__" : Str)) = false := by decide) (dD : (xD == ("__debug__" : Str)) = false := by decide) (dE : (xE == ("__debug__" : Str)) = false := by decide) (dJ : (xJ == ("__debug__" : Str)) = false := by decide)
    (he : starEach [.Name xE p7] F.env = [(false, eval (.Name xE p7) F.env)] := by rfl)
    (h1l : (p3.endLine == p4.line) = true := by rfl) (h2l : (pb.endLine == pd.line) = true := by rfl) (hin : interactive F.env = false := by rfl)
    (q : ∀ h', Same (fun j => P j ∨ j = s) h h' → h'.σ s = .set (junkRun step l a).1 → Mem (junkRun step l a).2 h' → QF .next loc h') :
    Ex C n F loc h (.For (.Name xE p1) (.Call (.Attribute (.Name xD p2) (Str.ofString "keys") p3) [] [] p4) [.If (.Call (.Name xJ p6) [.Name xE p7] [] p8) [.Expr (.Call (.Attribute (.Name xS pa) (Str.ofString "add") pb) [.Name xE pc] [] pd) pe] [] p9] [] p5) QF := by
  have hsd : s ≠ d := fun z => by rw [z, hd] at hs; cases hs
  refine Ex.weak (ex_for (tg := fun _ => True) (ev_mcall (ev_local kD lD (mth_dct (show IsDct h (.ref d) _ from Or.inl hd) PySem.F.slot_dict_keys (by show builtinType _ = _; rw [builtinType_eq_fast]; kernel_rfl) ⟨kp_blt, evs_nil (evk_nil (cl_keys (S := S) (show IsDct h (.ref d) _ from Or.inl hd) (its_keys hd fun ep => ?_)))⟩) dD) (hl := h1l)) trivial hfS)
  have hDE : (h.upd d (.dictE ep (l.map fun k => (k, f k)))).σ d = .dictE ep (l.map fun k => (k, f k)) := if_pos rfl
  refine fow_inv2 (fun t loc' h' => loc' = loc ∧ Same (fun j => P j ∨ j = s) (h.upd d (.dictE ep (l.map fun k => (k, f k)))) h' ∧ h'.σ s = .set (junkRun step (l.take t) a).1 ∧ Mem (junkRun step (l.take t) a).2 h') ?_ ?_ ?_ ?_
  · rintro t loc' h' ⟨_, sm, _, _⟩
    rw [sm.σ d hdn (by rintro (z | z); exact hPd z; exact hsd z.symm)]; exact hDE
  · rintro t v loc' h' hv ⟨rfl, sm, hS, hM⟩
    rw [List.map_map, List.getElem?_map] at hv
    obtain ⟨k, hkt, rfl⟩ := Option.map_eq_some_iff.mp hv
    have htk := take_snoc hkt
    have neJ : xJ ≠ xE := fun z => by rw [z, lE] at lJ; cases lJ
    have neS : xS ≠ xE := fun z => by rw [z, lE] at lS; cases lS
    have hjl := Nat.le_trans (junkRun_length step a (l.take t)) (by rw [List.length_take]; omega : (l.take t).length ≤ 4000)
    refine as_local kE (exs_cons (ex_if (evB_value (ev_call (ev_local kJ (by rw [lookup_upd, if_neg neJ]; exact lJ) ⟨J.kp, evs_cons (ev_local kE (by rw [lookup_upd, if_pos rfl]) (evs_nil (evk_nil (J.call _ _ k _ hM (hk k (List.mem_of_getElem? hkt)) fun h2 hM2 sm2 => tru_bool ?_))) dE) he⟩ dJ)))))
    have hS2 : h2.σ s = .set (junkRun step (l.take t) a).1 := (sm2.σ s (Nat.lt_of_lt_of_le hsn sm.nx) hPs).trans hS
    have sm3 : Same (fun j => P j ∨ j = s) (h.upd d (.dictE ep (l.map fun k => (k, f k)))) h2 := sm.trans (sm2.wide fun j z => .inl z)
    cases hb : (step (junkRun step (l.take t) a).2 k).1 with
    | true =>
      refine exs_cons (ex_expr (ev_mcall (ev_local kS (by rw [lookup_upd, if_neg neS]; exact lS) (mth_set_add (show IsSet h2 (.ref s) _ from Or.inl hS2) ⟨kp_blt, evs_cons (ev_local kE (by rw [lookup_upd, if_pos rfl]) (evs_nil (evk_nil (cl_set_add hS2 ?_ ?_))) dE) ?_⟩) dS) (hl := h2l)) hin)
      · have : 4001 < scanBound := by decide
        omega
      · refine exs_nil (exs_nil ⟨_, _, LocSub.upd lE, .refl _, rfl, sm3.upd (.inl (.inr rfl)), ?_, ?_⟩)
        · rw [htk, junkRun_snoc, hb]; exact if_pos rfl
        · rw [htk, junkRun_snoc]
          exact J.mem _ h2 _ hM2 (Nat.le_refl _) fun j hj => by
            show (if j = s then _ else h2.σ j) = _
            rw [if_neg (fun z : j = s => hPs (z ▸ hj))]
      · rfl
    | false =>
      refine exs_nil (exs_nil ⟨_, _, LocSub.upd lE, .refl _, rfl, sm3, ?_, ?_⟩)
      · rw [htk, junkRun_snoc, hb]; exact hS2
      · rw [htk, junkRun_snoc]; exact hM2
  · rintro loc' h' ⟨rfl, sm, hS, hM⟩
    rw [List.length_map, List.length_map, List.take_length] at hS hM
    have hDd : h'.σ d = .dictE ep (l.map fun k => (k, f k)) := (sm.σ d hdn (by rintro (z | z); exact hPd z; exact hsd z.symm)).trans hDE
    refine ⟨h'.upd d (.dict (l.map fun k => (k, f k))), .of rfl fun j => ?_, q _ ⟨sm.nx, fun j hj hP => ?_⟩ ?_ ?_⟩
    · show AO.le _ (if j = d then _ else h'.σ j)
      by_cases hj : j = d
      · rw [if_pos hj, hj, hDd]; rfl
      · rw [if_neg hj]; exact AO.le_refl _
    · show (if j = d then _ else h'.σ j) = _
      by_cases hjd : j = d
      · rw [if_pos hjd, hjd, hd]
      · rw [if_neg hjd, sm.σ j hj hP]
        show (if j = d then _ else h.σ j) = _
        rw [if_neg hjd]
    · show (if s = d then _ else h'.σ s) = _
      rw [if_neg hsd, hS]
    · exact J.mem _ h' _ hM (Nat.le_refl _) fun j hj => by
        show (if j = d then _ else h'.σ j) = _
        rw [if_neg (fun z : j = d => hPd (z ▸ hj))]
  · refine ⟨rfl, .refl _ _, ?_, ?_⟩
    · show (if s = d then _ else h.σ s) = _
      rw [if_neg hsd, hs]; rfl
    · exact J.mem a h _ hm (Nat.le_refl _) fun j hj => by
        show (if j = d then _ else h.σ j) = _
        rw [if_neg (fun z : j = d => hPd (z ▸ hj))]
end
end Mine
namespace Mine
section
variable {C : Cx} {n : Nat} {F : Fr} {loc : Loc} {h : Hs} {QF : Fl → Loc → Hs → Prop} {mg mb : Str → Option Value}
theorem LocSub.trans {a b c : Loc} (x : LocSub a b) (y : LocSub b c) : LocSub a c := fun k v e => y k v (x k v e)
theorem notin_take {α : Type} {l : List α} (hn : l.Nodup) {t : Nat} {k : α} (hk : l[t]? = some k) : k ∉ l.take t := by
  intro z
  obtain ⟨j, hj⟩ := List.getElem?_of_mem z
  have hjt : j < t := by have := (List.getElem?_eq_some_iff.mp hj).1; rw [List.length_take] at this; omega
  rw [List.getElem?_take_of_lt hjt] at hj
  obtain ⟨a1, b1⟩ := List.getElem?_eq_some_iff.mp hj
  obtain ⟨a2, b2⟩ := List.getElem?_eq_some_iff.mp hk
  exact List.pairwise_iff_getElem.mp hn j t a1 a2 hjt (b1.trans b2.symm)
/-- for e, i in D.items(): if len(i) > N: S.add(e) -/
theorem pop_loop {xS xD xE xI xN : Str} {kt : Nat} {p1 p1' pt p2 p3 p4 p5 p6 p7 p8 p8' p8'' p9 pa pb pc pd pe : Pos} {s d : Nat} {l : List Key} {xs : Key → List V} {nt : Int} (S : SysIn C) (T : Tp C mg mb) (gl : mg (Str.ofString "len") = none) (bl : mb (Str.ofString "len") = some (.builtin "len"))
    (kS : F.env.kindOf xS = some .local) (kD : F.env.kindOf xD = some .local) (kE : F.env.kindOf xE = some .local) (kI : F.env.kindOf xI = some .local) (kN : F.env.kindOf xN = some .local) (kL : F.env.kindOf (Str.ofString "len") = some .globalImplicit)
    (lS : loc.lookup xS = some (.ref s)) (lD : loc.lookup xD = some (.ref d)) (lN : loc.lookup xN = some (.int nt)) (lE : loc.lookup xE = none) (lI : loc.lookup xI = none) (hEI : xI ≠ xE)
    (hs : h.σ s = .set []) (hd : h.σ d = .dict (l.map fun k => (k, .lst (xs k)))) (hnd : l.Nodup) (hz : l.length ≤ 4000) (hxz : ∀ k ∈ l, (xs k).length ≤ sizeLine)
    (hfS : ∀ (x : Value), foldedSetIterable (.Call (.Attribute (.Name xD p2) (Str.ofString "items") p3) [] [] p4) F.env x = pure x := by intro _; rfl)
    (dS : (xS == ("__debug__" : Str)) = false := by decide) (dD : (xD == ("__debug__" : Str)) = false := by decide) (dE : (xE == ("__debug__" : Str)) = false := by decide) (dI : (xI == ("__debug__" : Str)) = false := by decide) (dN : (xN == ("__debug__" : Str)) = false := by decide)
    (h1l : (p3.endLine == p4.line) = true := by rfl) (h2l : (pb.endLine == pd.line) = true := by rfl) (hin : interactive F.env = false := by rfl)
    (q : QF .next loc (h.upd s (.set (l.filter fun k => decide (nt < ((xs k).length : Int)))))) :
    Ex C n F loc h (.For (.Tuple [.Name xE p1, .Name xI p1'] kt pt) (.Call (.Attribute (.Name xD p2) (Str.ofString "items") p3) [] [] p4) [.If (.Compare (.Call (.Name (Str.ofString "len") p6) [.Name xI p7] [] p8) [.Gt] [.Name xN p8'] p8'') [.Expr (.Call (.Attribute (.Name xS pa) (Str.ofString "add") pb) [.Name xE pc] [] pd) pe] [] p9] [] p5) QF := by
  have hsd : s ≠ d := fun z => by rw [z, hd] at hs; cases hs
  refine Ex.weak (ex_for (tg := fun t => ∃ elts k p, t = Expr.Tuple elts k p) (ev_mcall (ev_local kD lD (mth_dct (show IsDct h (.ref d) _ from Or.inl hd) PySem.F.slot_dict_items (by show builtinType _ = _; rw [builtinType_eq_fast]; kernel_rfl) ⟨kp_blt, evs_nil (evk_nil (cl_items (S := S) (show IsDct h (.ref d) _ from Or.inl hd) (its_items (fun t ht => ht) hd fun ep => ?_)))⟩) dD) (hl := h1l)) ⟨_, _, _, rfl⟩ hfS)
  refine fow_inv2 (fun t loc' h' => loc' = loc ∧ h' = (h.upd d (.dictE ep (l.map fun k => (k, .lst (xs k))))).upd s (.set ((l.take t).filter fun k => decide (nt < ((xs k).length : Int))))) ?_ ?_ ?_ ?_
  · rintro t loc' h' ⟨_, rfl⟩
    show (if d = s then _ else if d = d then _ else _) = _
    rw [if_neg (Ne.symm hsd), if_pos rfl]
  · rintro t v loc' h' hv ⟨rfl, rfl⟩
    rw [List.map_map, List.getElem?_map] at hv
    obtain ⟨k, hkt, rfl⟩ := Option.map_eq_some_iff.mp hv
    have htk := take_snoc hkt
    have hkn := notin_take hnd hkt
    have hkl : k ∈ l := List.mem_of_getElem? hkt
    have neS : xS ≠ xE := fun z => by rw [z, lE] at lS; cases lS
    have neS' : xS ≠ xI := fun z => by rw [z, lI] at lS; cases lS
    have neN : xN ≠ xE := fun z => by rw [z, lE] at lN; cases lN
    have neN' : xN ≠ xI := fun z => by rw [z, lI] at lN; cases lN
    have hls : LocSub loc' (upd xI (.lst (xs k)) (upd xE k.v loc')) := (LocSub.upd lE).trans (LocSub.upd (by rw [lookup_upd, if_neg hEI]; exact lI))
    have hN : (upd xI (.lst (xs k)) (upd xE k.v loc')).lookup xN = some (.int nt) := hls _ _ lN
    have hSl : (upd xI (.lst (xs k)) (upd xE k.v loc')).lookup xS = some (.ref s) := hls _ _ lS
    have hIl : (upd xI (.lst (xs k)) (upd xE k.v loc')).lookup xI = some (.lst (xs k)) := by rw [lookup_upd, if_pos rfl]
    have hEl : (upd xI (.lst (xs k)) (upd xE k.v loc')).lookup xE = some k.v := by rw [lookup_upd, if_neg (Ne.symm hEI), lookup_upd, if_pos rfl]
    have hfl : ((l.take t).filter fun k => decide (nt < ((xs k).length : Int))).length ≤ 4000 := Nat.le_trans (List.length_filter_le _ _) (by rw [List.length_take]; omega)
    have hS2 : ((h.upd d (.dictE ep (l.map fun k => (k, .lst (xs k))))).upd s (.set ((l.take t).filter fun k => decide (nt < ((xs k).length : Int))))).σ s = .set ((l.take t).filter fun k => decide (nt < ((xs k).length : Int))) := if_pos rfl
    refine as_tuple rfl (as_local kE (as_local kI (exs_cons (ex_if (evB_cmp (ev_call (ev_builtin T kL gl bl (v := .blt "len") rfl ⟨kp_blt, evs_cons (ev_local kI hIl (evs_nil (evk_nil (len_list (v := .lst (xs k)) (xs := xs k) (show IsLst _ (.lst (xs k)) (xs k) from rfl) (hxz k hkl) (ev_local kN hN (gt_int (tru_bool ?_)) dN)))) dI) ?_⟩)) ?_)))))
    · cases hb : decide (nt < ((xs k).length : Int)) with
      | true =>
        refine exs_cons (ex_expr (ev_mcall (ev_local kS hSl (mth_set_add (show IsSet _ (.ref s) _ from Or.inl hS2) ⟨kp_blt, evs_cons (ev_local kE hEl (evs_nil (evk_nil (cl_set_add (k := k) hS2 ?_ ?_))) dE) ?_⟩) dS) (hl := h2l)) hin)
        · have : 4001 < scanBound := by decide
          omega
        · refine exs_nil (exs_nil ⟨_, _, hls, .refl _, rfl, ?_⟩)
          rw [htk, List.filter_append]
          have : sadd ((l.take t).filter fun k => decide (nt < ((xs k).length : Int))) k = ((l.take t).filter fun k => decide (nt < ((xs k).length : Int))) ++ [k].filter fun k => decide (nt < ((xs k).length : Int)) := by
            unfold sadd
            rw [if_neg (fun z => hkn (List.mem_filter.mp z).1)]
            simp only [List.filter_cons, hb, List.filter_nil, if_true]
          rw [this]
          simp only [Hs.upd, Hs.mk.injEq, and_true]
          funext j
          by_cases hj : j = s <;> simp [hj]
        · rfl
      | false =>
        refine exs_nil (exs_nil ⟨_, _, hls, .refl _, rfl, ?_⟩)
        rw [htk, List.filter_append]
        simp only [List.filter_cons, hb, List.filter_nil, Bool.false_eq_true, if_false, List.append_nil]
    · rfl
    · rfl
  · rintro loc' h' ⟨rfl, rfl⟩
    rw [List.length_map, List.length_map, List.take_length]
    refine ⟨h.upd s (.set (l.filter fun k => decide (nt < ((xs k).length : Int)))), .of rfl fun j => ?_, q⟩
    show AO.le (if j = s then _ else if j = d then _ else h.σ j) (if j = s then _ else h.σ j)
    by_cases hj : j = s
    · rw [if_pos hj, if_pos hj]; exact AO.le_refl _
    · rw [if_neg hj, if_neg hj]
      by_cases hjs : j = d
      · rw [if_pos hjs, hjs, hd]; rfl
      · rw [if_neg hjs]; exact AO.le_refl _
  · refine ⟨rfl, ?_⟩
    simp only [List.take_zero, List.filter_nil, Hs.upd, Hs.mk.injEq, and_true]
    funext j
    by_cases hj : j = s
    · subst hj; simp [hsd, hs]
    · simp [hj]
end
end Mine
namespace Mine
/-- what h knows holds in h' -/
structure Hs.In (h h' : Hs) : Prop where
  nx : h.nx ≤ h'.nx
  le : ∀ i, (h'.σ i).le (h.σ i)
theorem AO.dead_le {y : AO} (l : AO.dead.le y) : y = .dead := by cases y <;> simp_all [AO.le]
section
variable {a b c h h' : Hs} {i m : Nat} {o : AO}
theorem Hs.In.refl (h : Hs) : h.In h := ⟨Nat.le_refl _, fun i => AO.le_refl _⟩
theorem Hs.In.trans (x : a.In b) (y : b.In c) : a.In c := ⟨Nat.le_trans x.nx y.nx, fun i => AO.le_trans (y.le i) (x.le i)⟩
theorem Hs.In.at (x : a.In b) (hm : a.nx ≤ m) : a.In (b.at m) := ⟨hm, x.le⟩
theorem Hs.In.dead (x : a.In b) (hd : b.σ i = .dead) : a.σ i = .dead := by have := x.le i; rw [hd] at this; exact AO.dead_le this
theorem Hs.In.new (x : a.In b) (hd : b.Ok) : a.In (b.new o) := ⟨Nat.le_succ_of_le x.nx, fun j => by
  show AO.le (if j = b.nx then o else b.σ j) _
  by_cases hj : j = b.nx
  · rw [if_pos hj, x.dead (hd j (by omega))]; exact AO.le_any _
  · rw [if_neg hj]; exact x.le j⟩
theorem Hs.In.updd (x : a.In b) (hd : a.σ i = .dead) : a.In (b.upd i o) := ⟨x.nx, fun j => by
  show AO.le (if j = i then o else b.σ j) _
  by_cases hj : j = i
  · rw [if_pos hj, hj, hd]; exact AO.le_any _
  · rw [if_neg hj]; exact x.le j⟩
theorem Hs.In.upd (x : a.In b) : (a.upd i o).In (b.upd i o) := ⟨x.nx, fun j => by
  show AO.le (if j = i then o else b.σ j) (if j = i then o else a.σ j)
  by_cases hj : j = i
  · rw [if_pos hj, if_pos hj]; exact AO.le_refl _
  · rw [if_neg hj, if_neg hj]; exact x.le j⟩
theorem Hs.In.newb (x : a.In b) (hn : a.nx = b.nx) : (a.new o).In (b.new o) := ⟨by show a.nx + 1 ≤ b.nx + 1; omega, fun j => by
  show AO.le (if j = b.nx then o else b.σ j) (if j = a.nx then o else a.σ j)
  rw [hn]
  by_cases hj : j = b.nx
  · rw [if_pos hj, if_pos hj]; exact AO.le_refl _
  · rw [if_neg hj, if_neg hj]; exact x.le j⟩
/-- one more object is known -/
theorem Hs.In.know (x : a.In b) {p m : Nat} (hp : b.σ p = o) (hm : m ≤ b.nx) : ((a.upd p o).at m).In b := ⟨hm, fun j => by
  show AO.le (b.σ j) (if j = p then o else a.σ j)
  by_cases hj : j = p
  · rw [if_pos hj, hj, hp]; exact AO.le_refl _
  · rw [if_neg hj]; exact x.le j⟩
theorem Hs.In.toLe (x : h.In h') : h'.Le (h.at h'.nx) := ⟨rfl, x.le⟩
theorem Hs.In.cell {v : Option V} (x : h.In h') (e : h.σ i = .cell v) : h'.σ i = .cell v := by
  have := x.le i; rw [e] at this; cases q : h'.σ i <;> rw [q] at this <;> simp_all [AO.le]
theorem Hs.In.list {v : List V} (x : h.In h') (e : h.σ i = .list v) : h'.σ i = .list v := by
  have := x.le i; rw [e] at this; cases q : h'.σ i <;> rw [q] at this <;> simp_all [AO.le]
theorem Hs.In.inst {v : List (Str × V)} (x : h.In h') (e : h.σ i = .inst v) : h'.σ i = .inst v := by
  have := x.le i; rw [e] at this; cases q : h'.σ i <;> rw [q] at this <;> simp_all [AO.le]
theorem Hs.In.dictE {ep : Nat} {v : List (Key × V)} (x : h.In h') (e : h.σ i = .dictE ep v) : h'.σ i = .dictE ep v := by
  have := x.le i; rw [e] at this; cases q : h'.σ i <;> rw [q] at this <;> simp_all [AO.le]
theorem Hs.In.setO {ob : Obj} {v : List Key} (x : h.In h') (e : h.σ i = .setO ob v) : h'.σ i = .setO ob v := by
  have := x.le i; rw [e] at this; cases q : h'.σ i <;> rw [q] at this <;> simp_all [AO.le]
theorem Hs.In.dict {v : List (Key × V)} (x : h.In h') (e : h.σ i = .dict v) : h'.σ i = .dict v ∨ ∃ ep, h'.σ i = .dictE ep v := by
  have := x.le i; rw [e] at this; cases q : h'.σ i <;> rw [q] at this <;> simp_all [AO.le]
theorem Hs.In.set {v : List Key} (x : h.In h') (e : h.σ i = .set v) : h'.σ i = .set v ∨ ∃ ob, h'.σ i = .setO ob v := by
  have := x.le i; rw [e] at this; cases q : h'.σ i <;> rw [q] at this <;> simp_all [AO.le]
theorem Hs.In.lst {v : V} {xs : List V} (x : h.In h') (e : IsLst h v xs) : IsLst h' v xs := by
  cases v <;> first | exact e | exact x.list e
theorem Hs.In.dct {v : V} {xs : List (Key × V)} (x : h.In h') (e : IsDct h v xs) : IsDct h' v xs := by
  cases v <;> first | exact e | skip
  rcases e with e | ⟨ep, e⟩
  · exact x.dict e
  · exact .inr ⟨ep, x.dictE e⟩
theorem Hs.In.fset {v : V} {xs : List Key} (x : h.In h') (e : IsSet h v xs) : IsSet h' v xs := by
  cases v <;> first | exact e | skip
  rcases e with e | ⟨ep, e⟩
  · exact x.set e
  · exact .inr ⟨ep, x.setO e⟩
mutual
theorem Hs.In.dat (x : h.In h') : ∀ {v : V} {d : PyData}, Dat h v d → Dat h' v d
  | _, _, .none => .none
  | _, _, .bool b => .bool b
  | _, _, .int b => .int b
  | _, _, .str b => .str b
  | _, _, .tup d => .tup (x.dats d)
  | _, _, .lst d => .lst (x.dats d)
  | _, _, .ref e d => .ref (x.list e) (x.dats d)
theorem Hs.In.dats (x : h.In h') : ∀ {v : List V} {d : List PyData}, Dats h v d → Dats h' v d
  | _, _, .nil => .nil
  | _, _, .cons a b => .cons (x.dat a) (x.dats b)
end
end
section
variable {C : Cx} {n : Nat} {F : Fr} {loc : Loc} {h h' : Hs} {w : Wd} {Q : V → Hs → Prop} {QB : Bool → Hs → Prop} {QF : Fl → Loc → Hs → Prop} {QL : Loc → Hs → Prop}
theorem Op2.ok {f : Value → Value → Sem Value} {a b : V} (H : h.Ok → Op2 C n f h a b Q) : Op2 C n f h a b Q := ⟨fun A w Q' E x y a R => (H R.dead).run A w Q' E x y a R⟩
theorem Its.ok {tg : Expr → Prop} {src : V} {K : Hs → (Hs → Prop) → List V → Prop} (H : h.Ok → Its C n h tg src K) : Its C n h tg src K := ⟨fun A w Q' E x a R => (H R.dead).run A w Q' E x a R⟩
theorem Slc.ok {o l u st : V} (H : h.Ok → Slc C n h o l u st Q) : Slc C n h o l u st Q := ⟨fun A w Q' E x vl vu vs ad a R => (H R.dead).run A w Q' E x vl vu vs ad a R⟩
/-- a list is written no more -/
theorem Rep.freeze {i : Nat} {xs : List V} {x : Value} (R : Rep C w h) (hs : h.σ i = .list xs) (c : Conc C w.g w.ρ (.ref i) x) : ∃ g', Ext C [] w ⟨g', w.ρ, w.s⟩ ∧ Rep C ⟨g', w.ρ, w.s⟩ (h.upd i .dead) ∧ Conc C g' w.ρ (.lst xs) x := by
  cases c with
  | @ref _ a hi =>
    obtain ⟨o, ho, hA⟩ := R.obj i a hi
    rw [hs] at hA
    have hg : w.g a = none := R.off i a hi (by rw [hs]; simp)
    have hsub := gset_sub (o := o) hg
    have ht : a ∉ C.tabs := fun z => (R.offtab a z).2 (List.mem_of_getElem? hi)
    refine ⟨gset w.g a o, ⟨hsub, fun b y e => ?_, List.prefix_refl _, fun _ z => .inl z, fun _ _ e _ _ _ => e, fun _ o e => ⟨o, e⟩⟩, ⟨fun b y e => ?_, R.len, R.nd, fun j b h1 h2 => ?_, fun j hj => ?_, fun j b h1 => ?_, R.new, R.os, R.bare, fun b y e h2 => hsub _ _ (R.top b y e h2), fun b hb => let ⟨y, e, z⟩ := R.tab b hb; ⟨y, e, z.mono hsub⟩, fun b hb => ⟨?_, (R.offtab b hb).2⟩⟩, ?_⟩
    · have e : gset w.g a o b = some y := e
      unfold gset at e
      split at e
      · rename_i q; rw [q]; exact .inr (.inr (List.mem_of_getElem? hi))
      · exact .inl e
    · have e : gset w.g a o b = some y := e
      unfold gset at e
      split at e
      · rename_i q; cases e; rw [q]; exact ho
      · exact R.keep b y e
    · have h2 : (if j = i then AO.dead else h.σ j) ≠ .dead := h2
      have hji : j ≠ i := fun z => by rw [if_pos z] at h2; exact h2 rfl
      rw [if_neg hji] at h2
      show gset w.g a o b = none
      unfold gset
      rw [if_neg (fun q : b = a => hji (nodup_inj R.nd h1 (q ▸ hi)))]; exact R.off j b h1 h2
    · show (if j = i then AO.dead else h.σ j) = .dead
      by_cases hji : j = i
      · rw [if_pos hji]
      · rw [if_neg hji]; exact R.dead j hj
    · obtain ⟨y, h4, h5⟩ := R.obj j b h1
      refine ⟨y, h4, ?_⟩
      show ObjA _ _ _ y (if j = i then AO.dead else h.σ j)
      by_cases hji : j = i
      · rw [if_pos hji]; trivial
      · rw [if_neg hji]; exact h5.mono hsub (List.prefix_refl _)
    · show gset w.g a o b = none
      unfold gset
      rw [if_neg (fun q : b = a => ht (q ▸ hb))]; exact (R.offtab b hb).1
    · obtain ⟨vs, k, rfl, cs⟩ := hA
      refine .lst (vs := vs.toList) (n := k) ?_ (cs.mono hsub (List.prefix_refl _))
      rw [Array.toArray_toList]; exact gset_self
theorem Ev.fz {e : Expr} (H : Ev C n F loc h e fun v h' => ∃ i xs, v = .ref i ∧ h'.σ i = .list xs ∧ Q (.lst xs) (h'.upd i .dead)) : Ev C n F loc h e Q :=
  ⟨fun A w Q' E a R f c => H.run A w Q' E a R f fun x v h' w' ⟨i, xs, hv, hs, q⟩ e' R' cx => by
    subst hv
    obtain ⟨g', e2, R2, c2⟩ := R'.freeze hs cx
    exact c x _ _ ⟨g', w'.ρ, w'.s⟩ q (e'.trans e2) R2 c2⟩
theorem Op2.fz {f : Value → Value → Sem Value} {a b : V} (H : Op2 C n f h a b fun v h' => ∃ i xs, v = .ref i ∧ h'.σ i = .list xs ∧ Q (.lst xs) (h'.upd i .dead)) : Op2 C n f h a b Q :=
  ⟨fun A w Q' E x y a0 R c1 c2 c => H.run A w Q' E x y a0 R c1 c2 fun r v h' w' ⟨i, xs, hv, hs, q⟩ e' R' cx => by
    subst hv
    obtain ⟨g', e2, R2, c2⟩ := R'.freeze hs cx
    exact c r _ _ ⟨g', w'.ρ, w'.s⟩ q (e'.trans e2) R2 c2⟩
theorem Slc.fz {o l u st : V} (H : Slc C n h o l u st fun v h' => ∃ i xs, v = .ref i ∧ h'.σ i = .list xs ∧ Q (.lst xs) (h'.upd i .dead)) : Slc C n h o l u st Q :=
  ⟨fun A w Q' E x vl vu vs ad a0 R c1 c2 c3 c4 hs' c => H.run A w Q' E x vl vu vs ad a0 R c1 c2 c3 c4 hs' fun r v h' w' ⟨i, xs, hv, hs, q⟩ e' R' cx => by
    subst hv
    obtain ⟨g', e2, R2, c2⟩ := R'.freeze hs cx
    exact c r _ _ ⟨g', w'.ρ, w'.s⟩ q (e'.trans e2) R2 c2⟩
theorem Cl.fz {f : V} {args : List V} {kw : List (Str × V)} (H : Cl C n h f args kw fun v h' => ∃ i xs, v = .ref i ∧ h'.σ i = .list xs ∧ Q (.lst xs) (h'.upd i .dead)) : Cl C n h f args kw Q :=
  ⟨fun A w Q' E fx xs ks a0 R c1 c2 hk c3 c => H.run A w Q' E fx xs ks a0 R c1 c2 hk c3 fun r v h' w' ⟨i, xs, hv, hs, q⟩ e' R' cx => by
    subst hv
    obtain ⟨g', e2, R2, c2⟩ := R'.freeze hs cx
    exact c r _ _ ⟨g', w'.ρ, w'.s⟩ q (e'.trans e2) R2 c2⟩
theorem As.fz {t : Expr} {i : Nat} {xs : List V} (hs : h.σ i = .list xs) (H : As C n F loc (h.upd i .dead) t (.lst xs) QL) : As C n F loc h t (.ref i) QL :=
  ⟨fun A w Q' E x a0 R f cx c => by
    obtain ⟨g', e2, R2, c2⟩ := R.freeze hs cx
    exact H.run A ⟨g', w.ρ, w.s⟩ Q' E x a0 R2 (f.ext0 e2) c2 fun l h' w' q e' R' fm => c l h' w' q (e2.wide.trans e') R' fm⟩
/-- an expression that tells a value and writes nothing known -/
def Pu (C : Cx) (n : Nat) (F : Fr) (loc : Loc) (h : Hs) (e : Expr) (v : V) : Prop := ∀ hb, h.In hb → ∀ Q : V → Hs → Prop, (∀ h', hb.In h' → Q v h') → Ev C n F loc hb e Q
def PuB (C : Cx) (n : Nat) (F : Fr) (loc : Loc) (h : Hs) (e : Expr) (b : Bool) : Prop := ∀ hb, h.In hb → ∀ Q : Bool → Hs → Prop, (∀ h', hb.In h' → Q b h') → EvB C n F loc hb e Q
def P1 (C : Cx) (n : Nat) (f : Value → Sem Value) (h : Hs) (a v : V) : Prop := ∀ hb, h.In hb → ∀ Q : V → Hs → Prop, (∀ h', hb.In h' → Q v h') → Op1 C n f hb a Q
def P2 (C : Cx) (n : Nat) (f : Value → Value → Sem Value) (h : Hs) (a b v : V) : Prop := ∀ hb, h.In hb → ∀ Q : V → Hs → Prop, (∀ h', hb.In h' → Q v h') → Op2 C n f hb a b Q
def PT (C : Cx) (n : Nat) (h : Hs) (a : V) (b : Bool) : Prop := ∀ hb, h.In hb → ∀ Q : Bool → Hs → Prop, (∀ h', hb.In h' → Q b h') → Tru C n hb a Q
def PF (C : Cx) (n : Nat) (h : Hs) (f : V) (args : List V) (kw : List (Str × V)) (v : V) : Prop := ∀ hb, h.In hb → ∀ Q : V → Hs → Prop, (∀ h', hb.In h' → Q v h') → Cl C n hb f args kw Q
def PM (C : Cx) (n : Nat) (h : Hs) (a : V) (name : Str) (f : V) (first : List V) : Prop := Kp C f ∧ ∀ hb, h.In hb → ∀ Q : V → List V → Hs → Prop, Q f first hb → Mth C n hb a name Q
def PG (C : Cx) (n : Nat) (h : Hs) (a : V) (name : Str) (v : V) : Prop := ∀ hb, h.In hb → ∀ Q : V → Hs → Prop, (∀ h', hb.In h' → Q v h') → Get C n hb a name Q
def PEs (C : Cx) (n : Nat) (F : Fr) (loc : Loc) (h : Hs) (es : List Expr) (vs : List V) : Prop := ∀ hb, h.In hb → ∀ Q : List V → Hs → Prop, (∀ h', hb.In h' → Q vs h') → Evs C n F loc hb es Q
def PKs (C : Cx) (n : Nat) (F : Fr) (loc : Loc) (h : Hs) (es : List Keyword) (vs : List V) : Prop := ∀ hb, h.In hb → ∀ Q : List V → Hs → Prop, (∀ h', hb.In h' → Q vs h') → Evk C n F loc hb es Q
/-- nothing is known -/
def Hs.none : Hs := ⟨fun _ => .dead, 0⟩
/-- how an expression is iterated; S: what must stay -/
def PI (C : Cx) (n : Nat) (F : Fr) (loc : Loc) (h : Hs) (S : Hs) (e : Expr) (items : List V) : Prop := S.In h ∧ ∀ hb, h.In hb → ∀ (tg : Expr → Prop) (K : Hs → (Hs → Prop) → List V → Prop), (∀ h', hb.In h' → h'.Ok → ∀ ok : Hs → Prop, (∀ h'', S.In h'' → ok h'') → K h' ok items) → Ev C n F loc hb e fun src h1 => Its C n h1 tg src K
def PTs (C : Cx) (n : Nat) (F : Fr) (loc : Loc) (h : Hs) : List Expr → Bool → Prop
  | [], b => b = true
  | c :: cs, b => ∃ b1, PuB C n F loc h c b1 ∧ if b1 then PTs C n F loc h cs b else b = false
end
section
variable {C : Cx} {n : Nat} {F : Fr} {loc : Loc} {h h' : Hs} {w : Wd}
theorem Hs.In.none (h : Hs) : Hs.none.In h := ⟨Nat.zero_le _, fun _ => AO.le_any _⟩
theorem Hs.In.only {i : Nat} {o : AO} (e : h.σ i = o) : (Hs.none.upd i o).In h := ⟨Nat.zero_le _, fun j => by
  show AO.le (h.σ j) (if j = i then o else .dead)
  by_cases hj : j = i
  · rw [if_pos hj, hj, e]; exact AO.le_refl _
  · rw [if_neg hj]; exact AO.le_any _⟩
-- constants, names
theorem pu_int {i : Int} {k : Nat} {p : Pos} : Pu C n F loc h (.Constant (.int i) k p) (.int i) := fun hb hi Q q => ev_int (q _ (.refl _))
theorem pu_local {x : Str} {p : Pos} {v : V} (hk : F.env.kindOf x = some .local) (hl : loc.lookup x = some v) (hd : (x == ("__debug__" : Str)) = false := by decide) : Pu C n F loc h (.Name x p) v := fun hb hi Q q => ev_local hk hl (q _ (.refl _)) hd
theorem pu_cell {x : Str} {p : Pos} {i : Nat} {v : V} (hk : F.env.kindOf x = some .cell) (hc : F.cel.lookup x = some i) (hv : h.σ i = .cell (some v)) (hd : (x == ("__debug__" : Str)) = false := by decide) : Pu C n F loc h (.Name x p) v := fun hb hi Q q => ev_cell hk hc (hi.cell hv) (q _ (.refl _)) hd
theorem pu_global {mg mb : Str → Option Value} {x : Str} {p : Pos} {v : V} {y : Value} (T : Tp C mg mb) (hv : mg x = some y) (hc : VOf v y) (hk : F.env.kindOf x = some .globalImplicit) (hd : (x == ("__debug__" : Str)) = false := by decide) : Pu C n F loc h (.Name x p) v := fun hb hi Q q => ev_global T hk hv hc (q _ (.refl _)) hd
theorem pu_builtin {mg mb : Str → Option Value} {x : Str} {p : Pos} {v : V} {y : Value} (T : Tp C mg mb) (hm : mg x = none) (hv : mb x = some y) (hc : VOf v y) (hk : F.env.kindOf x = some .globalImplicit) (hd : (x == ("__debug__" : Str)) = false := by decide) : Pu C n F loc h (.Name x p) v := fun hb hi Q q => ev_builtin T hk hm hv hc (q _ (.refl _)) hd
-- operations
theorem pu_bin {l r : Expr} {op : Operator} {p : Pos} {a b v : V} (A : Pu C n F loc h l a) (B : Pu C n F loc h r b) (O : P2 C n (binaryOp op) h a b v) : Pu C n F loc h (.BinOp l op r p) v := fun hb hi Q q =>
  ev_bin (A hb hi _ fun h1 i1 => B h1 (hi.trans i1) _ fun h2 i2 => O h2 (hi.trans (i1.trans i2)) _ fun h3 i3 => q h3 (i1.trans (i2.trans i3)))
theorem pu_cmp {l r : Expr} {op : CmpOp} {p : Pos} {a b v : V} (A : Pu C n F loc h l a) (B : Pu C n F loc h r b) (O : P2 C n (compareOp op) h a b v) (hm : behindInMarks op r = false := by with_unfolding_all rfl) : Pu C n F loc h (.Compare l [op] [r] p) v := fun hb hi Q q =>
  ev_cmp (A hb hi _ fun h1 i1 => B h1 (hi.trans i1) _ fun h2 i2 => O h2 (hi.trans (i1.trans i2)) _ fun h3 i3 => q h3 (i1.trans (i2.trans i3))) hm
theorem pu_unary {x : Expr} {op : UnaryOp} {p : Pos} {a v : V} (A : Pu C n F loc h x a) (O : P1 C n (unaryOp op) h a v) : Pu C n F loc h (.UnaryOp op x p) v := fun hb hi Q q =>
  ev_unary (A hb hi _ fun h1 i1 => O h1 (hi.trans i1) _ fun h2 i2 => q h2 (i1.trans i2))
theorem pu_ifT {t a b : Expr} {p : Pos} {v : V} {c : Bool} (T : PuB C n F loc h t c) (A : c = true → Pu C n F loc h a v) (B : c = false → Pu C n F loc h b v) : Pu C n F loc h (.IfExp t a b p) v := fun hb hi Q q =>
  ev_ifexp (T hb hi _ fun h1 i1 => by
    cases c with
    | true => exact A rfl h1 (hi.trans i1) _ fun h2 i2 => q h2 (i1.trans i2)
    | false => exact B rfl h1 (hi.trans i1) _ fun h2 i2 => q h2 (i1.trans i2))
theorem pu_and {a b : Expr} {p : Pos} {v u : V} {c : Bool} (A : Pu C n F loc h a v) (T : PT C n h v c) (B : c = true → Pu C n F loc h b u) : Pu C n F loc h (.BoolOp .And [a, b] p) (if c then u else v) := fun hb hi Q q =>
  ev_and2 (A hb hi _ fun h1 i1 => T h1 (hi.trans i1) _ fun h2 i2 => by
    cases c with
    | true => exact B rfl h2 (hi.trans (i1.trans i2)) _ fun h3 i3 => q h3 (i1.trans (i2.trans i3))
    | false => exact q h2 (i1.trans i2))
-- tests
theorem pt_bool {b : Bool} : PT C n h (.bool b) b := fun hb hi Q q => tru_bool (q _ (.refl _))
theorem pub_value {e : Expr} {v : V} {b : Bool} (A : Pu C n F loc h e v) (T : PT C n h v b) (he : ∀ whole, isTrue e F.env whole = (do let v ← whole; standAt e.pos; holding [v] (truthy v)) := by intro _; rfl) : PuB C n F loc h e b := fun hb hi Q q =>
  evB_value (A hb hi _ fun h1 i1 => T h1 (hi.trans i1) _ fun h2 i2 => q h2 (i1.trans i2)) he
theorem pub_cmp {l r : Expr} {op : CmpOp} {p : Pos} {a b : V} {c : Bool} (A : Pu C n F loc h l a) (B : Pu C n F loc h r b) (O : P2 C n (compareOp op) h a b (.bool c)) (hm : behindInMarks op r = false := by with_unfolding_all rfl) : PuB C n F loc h (.Compare l [op] [r] p) c := fun hb hi Q q =>
  evB_cmp (A hb hi _ fun h1 i1 => B h1 (hi.trans i1) _ fun h2 i2 => O h2 (hi.trans (i1.trans i2)) _ fun h3 i3 => tru_bool (q h3 (i1.trans (i2.trans i3)))) hm
theorem pub_not {x : Expr} {p : Pos} {b : Bool} (A : PuB C n F loc h x b) : PuB C n F loc h (.UnaryOp .Not x p) (!b) := fun hb hi Q q => evB_not (A hb hi _ fun h1 i1 => q h1 i1)
theorem pub_and_nil {p : Pos} : PuB C n F loc h (.BoolOp .And [] p) true := fun hb hi Q q => evB_and_nil (q _ (.refl _))
theorem pub_and {x : Expr} {r : List Expr} {p : Pos} {a b : Bool} (A : PuB C n F loc h x a) (B : a = true → PuB C n F loc h (.BoolOp .And r p) b) : PuB C n F loc h (.BoolOp .And (x :: r) p) (a && b) := fun hb hi Q q => evB_and (A hb hi _ fun h1 i1 => by
  cases a with
  | false => exact q h1 i1
  | true => exact B rfl h1 (hi.trans i1) _ fun h2 i2 => q h2 (i1.trans i2))
theorem pub_or_nil {p : Pos} : PuB C n F loc h (.BoolOp .Or [] p) false := fun hb hi Q q => evB_or_nil (q _ (.refl _))
theorem pub_or {x : Expr} {r : List Expr} {p : Pos} {a b : Bool} (A : PuB C n F loc h x a) (B : a = false → PuB C n F loc h (.BoolOp .Or r p) b) : PuB C n F loc h (.BoolOp .Or (x :: r) p) (a || b) := fun hb hi Q q => evB_or (A hb hi _ fun h1 i1 => by
  cases a with
  | true => exact q h1 i1
  | false => exact B rfl h1 (hi.trans i1) _ fun h2 i2 => q h2 (i1.trans i2))
-- int operations
theorem p2_addi {a b : Int} : P2 C n (binaryOp .Add) h (.int a) (.int b) (.int (a + b)) := fun hb hi Q q => add_int (q _ (.refl _))
theorem p2_subi {a b : Int} : P2 C n (binaryOp .Sub) h (.int a) (.int b) (.int (a - b)) := fun hb hi Q q => sub_int (q _ (.refl _))
theorem p2_modi {a b : Int} (hb0 : b ≠ 0) : P2 C n (binaryOp .Mod) h (.int a) (.int b) (.int (a.fmod b)) := fun hb hi Q q => mod_int hb0 (q _ (.refl _))
theorem p2_divi {a b : Int} (hb0 : b ≠ 0) (hp : Builtin.divisionGoesByPylong a b = false) : P2 C n (binaryOp .FloorDiv) h (.int a) (.int b) (.int (a.fdiv b)) := fun hb hi Q q => div_int hb0 hp (q _ (.refl _))
theorem p2_eqi {a b : Int} : P2 C n (compareOp .Eq) h (.int a) (.int b) (.bool (a == b)) := fun hb hi Q q => eq_int (q _ (.refl _))
theorem p2_gti {a b : Int} : P2 C n (compareOp .Gt) h (.int a) (.int b) (.bool (decide (b < a))) := fun hb hi Q q => gt_int (q _ (.refl _))
theorem p2_gei {a b : Int} : P2 C n (compareOp .GtE) h (.int a) (.int b) (.bool (decide (b ≤ a))) := fun hb hi Q q => ge_int (q _ (.refl _))
-- data compared
theorem p2_eqd {a b : V} {da db : PyData} (ha : Dat h a da) (hb : Dat h b db) (ka : Dok da) (kb : Dok db) : P2 C (n + 1) (compareOp .Eq) h a b (.bool (PyData.eqv da db)) := fun hh hi Q q => dat_eq (hi.dat ha) (hi.dat hb) ka kb (q _ (.refl _))
theorem p2_ned {a b : V} {da db : PyData} (ha : Dat h a da) (hb : Dat h b db) (ka : Dok da) (kb : Dok db) : P2 C (n + 1) (compareOp .NotEq) h a b (.bool (!PyData.eqv da db)) := fun hh hi Q q => dat_ne (hi.dat ha) (hi.dat hb) ka kb (q _ (.refl _))
theorem p2_nind {a b : V} {da : PyData} {db : List PyData} (ha : Dat h a da) (hb : Dat h b (.list db)) (ka : Dok da) (kb : Dok (.list db)) : P2 C (n + 1) (compareOp .NotIn) h a b (.bool (!db.any fun y => PyData.eqv y da)) := fun hh hi Q q => dat_notIn (hi.dat ha) (hi.dat hb) ka kb (q _ (.refl _))
-- lists
theorem fz_new {hb : Hs} {xs : List V} {Q : V → Hs → Prop} (ok : hb.Ok) (q : ∀ h', hb.In h' → Q (.lst xs) h') : ∃ i ys, V.ref hb.nx = .ref i ∧ (hb.new (.list xs)).σ i = .list ys ∧ Q (.lst ys) ((hb.new (.list xs)).upd i .dead) :=
  ⟨_, _, rfl, if_pos rfl, q _ (((Hs.In.refl hb).new ok).updd (ok _ (Nat.le_refl _)))⟩
theorem p2_addl {u v : V} {xs ys : List V} (hu : IsLst h u xs) (hv : IsLst h v ys) (hz : xs.length + ys.length ≤ sizeLine) : P2 C n (binaryOp .Add) h u v (.lst (xs ++ ys)) := fun hb hi Q q =>
  Op2.ok fun ok => Op2.fz (add_list (hi.lst hu) (hi.lst hv) hz (fz_new ok q))
theorem p2_mull {u : V} {xs : List V} {k : Int} (hu : IsLst h u xs) (hlo : -(2 ^ 63 : Int) ≤ k) (hhi : k < 2 ^ 63) (hz : xs.length * k.toNat ≤ 2 ^ 24) : P2 C n (binaryOp .Mult) h u (.int k) (.lst (List.replicate k.toNat xs).flatten) := fun hb hi Q q =>
  Op2.ok fun ok => Op2.fz (mul_list (hi.lst hu) hlo hhi hz (fz_new ok q))
theorem p2_getlN {v u : V} {xs : List V} {j : Nat} (hv : IsLst h v xs) (hz : xs.length ≤ sizeLine) (hu : xs[j]? = some u) : P2 C n getItem h v (.int (j : Int)) u := fun hb hi Q q => lst_getN (hi.lst hv) hz hu (q _ (.refl _))
def NotPyU (C : Cx) (h : Hs) (a : V) : Prop := ∀ hb, h.In hb → NotPy C hb a
theorem notPyU_lst {v : V} {xs : List V} (hv : IsLst h v xs) : NotPyU C h v := fun hb hi => notPy_lst (hi.lst hv)
theorem pu_sub {o i : Expr} {p : Pos} {a b v : V} (A : Pu C n F loc h o a) (B : Pu C n F loc h i b) (N : NotPyU C h a) (O : P2 C n getItem h a b v) (hs : ∀ x y, subscripted i false x y = operate [x, y] (getItem x y) := by intro _ _; rfl) : Pu C n F loc h (.Subscript o i p) v := fun hb hi Q q =>
  ev_sub (A hb hi _ fun h1 i1 => B h1 (hi.trans i1) _ fun h2 i2 => ⟨N h2 (hi.trans (i1.trans i2)), O h2 (hi.trans (i1.trans i2)) _ fun h3 i3 => q h3 (i1.trans (i2.trans i3))⟩) hs
def PO (C : Cx) (n : Nat) (F : Fr) (loc : Loc) (h : Hs) (e : Option Expr) (v : V) : Prop := ∀ hb, h.In hb → ∀ Q : V → Hs → Prop, (∀ h', hb.In h' → Q v h') → EvO C n F loc hb e Q
theorem po_none : PO C n F loc h none (partV none) := fun hb hi Q q => evO_none (q _ (.refl _))
theorem po_some {e : Expr} {k : Int} (A : Pu C n F loc h e (.int k)) : PO C n F loc h (some e) (partV (some k)) := fun hb hi Q q => evO_some (A hb hi _ q)
def PS (C : Cx) (n : Nat) (h : Hs) (a l u st v : V) : Prop := ∀ hb, h.In hb → ∀ Q : V → Hs → Prop, (∀ h', hb.In h' → Q v h') → Slc C n hb a l u st Q
theorem pu_slice {o : Expr} {lo hi st : Option Expr} {p p' : Pos} {a l u s v : V} (A : Pu C n F loc h o a) (L : PO C n F loc h lo l) (U : PO C n F loc h hi u) (S : PO C n F loc h st s) (N : NotPyU C h a) (O : PS C n h a l u s v) : Pu C n F loc h (.Subscript o (.Slice lo hi st p) p') v := fun hb hi Q q =>
  ev_slice (A hb hi _ fun h1 i1 => L h1 (hi.trans i1) _ fun h2 i2 => U h2 (hi.trans (i1.trans i2)) _ fun h3 i3 => S h3 (hi.trans (i1.trans (i2.trans i3))) _ fun h4 i4 =>
    ⟨N h4 (hi.trans (i1.trans (i2.trans (i3.trans i4)))), O h4 (hi.trans (i1.trans (i2.trans (i3.trans i4)))) _ fun h5 i5 => q h5 (i1.trans (i2.trans (i3.trans (i4.trans i5))))⟩)
theorem ps_list {v : V} {xs : List V} {lo hi st : Option Int} (hv : IsLst h v xs) (hz : xs.length ≤ sizeLine) (h0 : st ≠ some 0) : PS C n h v (partV lo) (partV hi) (partV st) (.lst (pick xs lo hi st)) := fun hb hh Q q =>
  Slc.ok fun ok => Slc.fz (slc_list (hh.lst hv) hz h0 (fz_new ok q))
theorem pes_nil : PEs C n F loc h [] [] := fun hb hi Q q => evs_nil (q _ (.refl _))
theorem pes_cons {e : Expr} {es : List Expr} {v : V} {vs : List V} (A : Pu C n F loc h e v) (B : PEs C n F loc h es vs) (he : starEach (e :: es) F.env = (false, eval e F.env) :: starEach es F.env := by rfl) : PEs C n F loc h (e :: es) (v :: vs) := fun hb hi Q q =>
  evs_cons (A hb hi _ fun h1 i1 => B h1 (hi.trans i1) _ fun h2 i2 => q h2 (i1.trans i2)) he
theorem pks_nil : PKs C n F loc h [] [] := fun hb hi Q q => evk_nil (q _ (.refl _))
theorem pu_list {es : List Expr} {p : Pos} {vs : List V} (A : PEs C n F loc h es vs) (hz : vs.length ≤ sizeLine := by simp) : Pu C n F loc h (.List es p) (.lst vs) := fun hb hi Q q => ev_listF (A hb hi _ fun h1 i1 => ⟨hz, q h1 i1⟩)
theorem pu_call {x : Str} {p' p : Pos} {es : List Expr} {ks : List Keyword} {ns : List Str} {f v : V} {vs kv : List V} (N : Pu C n F loc h (.Name x p') f) (K : Kp C f) (A : PEs C n F loc h es vs) (B : PKs C n F loc h ks kv) (O : PF C n h f vs (ns.zip kv) v) (hs : noStar es = true := by rfl) (hn : kwNames ks = some ns := by rfl) : Pu C n F loc h (.Call (.Name x p') es ks p) v := fun hb hi Q q =>
  ev_call (N hb hi _ fun h1 i1 => ⟨K, A h1 (hi.trans i1) _ fun h2 i2 => B h2 (hi.trans (i1.trans i2)) _ fun h3 i3 => O h3 (hi.trans (i1.trans (i2.trans i3))) _ fun h4 i4 => q h4 (i1.trans (i2.trans (i3.trans i4)))⟩) hs hn
theorem pu_attr {o : Expr} {attr : Str} {p : Pos} {a v : V} (A : Pu C n F loc h o a) (G : PG C n h a attr v) (hb : attributeBase o attr F.env (eval o F.env) = eval o F.env := by rfl) : Pu C n F loc h (.Attribute o attr p) v := fun hh hi Q q =>
  ev_attr (A hh hi _ fun h1 i1 => G h1 (hi.trans i1) _ fun h2 i2 => q h2 (i1.trans i2)) hb
-- calls of built-in functions
theorem pf_len {v : V} {xs : List V} (hv : IsLst h v xs) (hz : xs.length ≤ sizeLine) : PF C n h (.blt "len") [v] [] (.int xs.length) := fun hb hi Q q => len_list (hi.lst hv) hz (q _ (.refl _))
theorem pf_range1 {b : Int} : PF C n h (.ty "range") [.int b] [] (.rng 0 b 1) := fun hb hi Q q => cl_range1 (q _ (.refl _))
theorem pf_range2 {a b : Int} : PF C n h (.ty "range") [.int a, .int b] [] (.rng a b 1) := fun hb hi Q q => cl_range2 (q _ (.refl _))
theorem pf_list {v : V} {xs : List V} (hv : IsLst h v xs) (hz : xs.length ≤ sizeLine) : PF C n h (.ty "list") [v] [] (.lst xs) := fun hb hi Q q => Cl.ok fun ok => Cl.fz (cl_list_list (hi.lst hv) hz (fz_new ok q))
theorem pf_listR {a b : Int} (ha : -(2 ^ 61 : Int) ≤ a) (ha' : a ≤ 2 ^ 61) (hb : -(2 ^ 61 : Int) ≤ b) (hb' : b ≤ 2 ^ 61) (hz : (b - a).toNat ≤ 2 ^ 24) : PF C n h (.ty "list") [.rng a b 1] [] (.lst (upto a (b - a).toNat)) := fun hh hi Q q => Cl.ok fun ok => Cl.fz (cl_list_rng ha ha' hb hb' hz (fz_new ok q))
theorem pf_listD {S : SysIn C} {v : V} {kvs : List (Key × V)} (hv : IsDct h v kvs) (hz : kvs.length ≤ sizeLine) : PF C n h (.ty "list") [v] [] (.lst (kvs.map fun kv => kv.1.v)) := fun hb hi Q q => Cl.ok fun ok => Cl.fz (cl_list_dct (S := S) (hi.dct hv) hz (fz_new ok q))
-- iteration
theorem pi_lst {e : Expr} {xs : List V} (A : Pu C n F loc h e (.lst xs)) : PI C n F loc h Hs.none e xs := ⟨.none _, fun hb hi tg K q => A hb hi _ fun h1 i1 => Its.ok fun ok => its_list (v := .lst xs) rfl (q h1 i1 ok _ fun _ _ => rfl)⟩
theorem pi_ref {e : Expr} {i : Nat} {xs : List V} (A : Pu C n F loc h e (.ref i)) (hv : h.σ i = .list xs) : PI C n F loc h (Hs.none.upd i (.list xs)) e xs := ⟨.only hv, fun hb hi tg K q => A hb hi _ fun h1 i1 => Its.ok fun ok => its_list (v := .ref i) ((hi.trans i1).list hv) (q h1 i1 ok _ fun h2 i2 => i2.list (if_pos rfl))⟩
theorem pi_rng {e : Expr} {a b : Int} (A : Pu C n F loc h e (.rng a b 1)) (ha : -(2 ^ 61 : Int) ≤ a) (ha' : a ≤ 2 ^ 61) (hb : -(2 ^ 61 : Int) ≤ b) (hb' : b ≤ 2 ^ 61) : PI C n F loc h Hs.none e ((List.range (b - a).toNat).map fun (i : Nat) => V.int (a + (i : Int))) := ⟨.none _, fun hh hi tg K q => A hh hi _ fun h1 i1 => Its.ok fun ok => its_rng1 ha ha' hb hb' (q h1 i1 ok _ fun _ _ => trivial)⟩
theorem pi_rng0 {e : Expr} {m : Nat} (A : Pu C n F loc h e (.rng 0 (m : Int) 1)) (hm : m ≤ 2 ^ 61) : PI C n F loc h Hs.none e ((List.range m).map fun (i : Nat) => V.int (i : Int)) := by
  have := pi_rng A (by omega) (by omega) (by omega) (by omega)
  simpa using this
end
end Mine
namespace Mine
section
variable {C : Cx} {n : Nat} {F : Fr} {loc : Loc} {h h' : Hs} {w : Wd}
theorem tests_pu : ∀ (fs : List Expr) (b : Bool) (hb : Hs) (Q : Bool → Hs → Prop), PTs C n F loc h fs b → h.In hb → (∀ h', hb.In h' → Q b h') → TestsW C n F loc Q fs hb
  | [], b, hb, Q, H, hi, q => by
    have H : b = true := H
    subst H; exact q _ (.refl _)
  | c :: cs, b, hb, Q, ⟨b1, H1, H2⟩, hi, q => H1 hb hi _ fun h1 i1 => by
    cases b1 with
    | true => exact tests_pu cs b h1 Q H2 (hi.trans i1) fun h' i' => q h' (i1.trans i')
    | false =>
      have H2 : b = false := H2
      subst H2; exact q h1 i1
theorem pts_nil : PTs C n F loc h [] true := rfl
theorem pts_one {c : Expr} {b : Bool} (H : PuB C n F loc h c b) : PTs C n F loc h [c] b := ⟨b, H, by cases b <;> rfl⟩
/-- the core of a list comprehension over a name -/
theorem lc_core {α : Type} {x : Str} {ps : Pos} {fs : List Expr} {elt i : Expr} {scope : Scope} {cl : List (Str × Nat)} {as : List α} {g : α → V} (t : α → Bool) (e : α → V)
    {S : Hs} (I : PI C n F loc h S i (as.map g)) (hz : as.length ≤ sizeLine)
    (hx : ∀ L cells, (compEnv scope F.env L cells).kindOf x = some .local) (hc : ∀ k, celFrom k scope.names cl = cl) (hs : ∀ h, hsCells scope.names h = h)
    (T : ∀ a ∈ as, ∀ L cells, PTs C n ⟨compEnv scope F.env L cells, cl⟩ [(x, g a)] h fs (t a))
    (E : ∀ a ∈ as, t a = true → ∀ L cells, Pu C n ⟨compEnv scope F.env L cells, cl⟩ [(x, g a)] h elt (e a))
    {hb : Hs} (hi : h.In hb) {K : Nat → Hs → Prop} (q : ∀ p h', hb.σ p = .dead → hb.nx ≤ p → p < h'.nx → hb.In h' → h'.σ p = .list ((as.filter t).map e) → K p h') :
    Ev C n F loc hb i fun src h1 => Its C n h1 (· = .Name x ps) src fun h2 ok items => ∀ L cells, LpW ok (TurnW C n ⟨compEnv scope F.env L cells, celFrom (h2.nx + 1) scope.names cl⟩ (.Name x ps) fs (EmL C n ⟨compEnv scope F.env L cells, celFrom (h2.nx + 1) scope.names cl⟩ h2.nx elt)) (fun _ h' => K h2.nx h') items [] (hsCells scope.names (h2.new (.list []))) := by
  refine I.2 hb hi _ _ fun h1 i1 ok1 ok hok L cells => ?_
  rw [hc, hs]
  have hp1 : h1.σ h1.nx = .dead := ok1 _ (Nat.le_refl _)
  have hpb : hb.σ h1.nx = .dead := i1.dead hp1
  refine lpw_inv (fun k l h' => h'.σ h1.nx = .list (((as.take k).filter t).map e) ∧ h1.In h' ∧ h1.nx < h'.nx ∧ (l = [] ∨ ∃ u, l = [(x, u)])) ?_ (turn_mono emL_mono) ?_ ?_ ⟨by simp [Hs.new], (Hs.In.refl h1).new ok1, Nat.lt_succ_self _, .inl rfl⟩
  · rintro k l h' ⟨_, z, _⟩; exact hok _ (I.1.trans (hi.trans (i1.trans z)))
  · rintro k v l h' hv ⟨z1, z2, z4, z3⟩
    rw [List.getElem?_map] at hv
    obtain ⟨a, ha, rfl⟩ := Option.map_eq_some_iff.mp hv
    have hu : upd x (g a) l = [(x, g a)] := by rcases z3 with rfl | ⟨u, rfl⟩ <;> simp [upd]
    have hmem : a ∈ as := List.mem_of_getElem? ha
    have hlt := (List.getElem?_eq_some_iff.mp ha).1
    have htk : ((as.take (k + 1)).filter t).map e = ((as.take k).filter t).map e ++ (if t a then [e a] else []) := by
      rw [List.take_add_one, List.filter_append, ha]
      cases hf : t a <;> simp [hf]
    have hlen : (((as.take k).filter t).map e).length ≤ sizeLine := by
      rw [List.length_map]
      exact Nat.le_trans (List.length_filter_le _ _) (by rw [List.length_take]; omega)
    refine as_local (hx L cells) ?_
    rw [hu]
    have hin : h.In h' := hi.trans (i1.trans z2)
    refine tests_pu fs (t a) h' _ (T a hmem L cells) hin fun h2 i2 => ?_
    cases hta : t a with
    | false =>
      simp only [Bool.false_eq_true, if_false]
      refine ⟨?_, z2.trans i2, Nat.lt_of_lt_of_le z4 i2.nx, .inr ⟨_, rfl⟩⟩
      rw [htk, hta]; simpa using i2.list z1
    | true =>
      simp only [if_true]
      refine E a hmem hta L cells h2 (hin.trans i2) _ fun h3 i3 => ⟨_, i3.list (i2.list z1), hlen, ?_, ((z2.trans i2).trans i3).updd hp1, Nat.lt_of_lt_of_le z4 (Nat.le_trans i2.nx i3.nx), .inr ⟨_, rfl⟩⟩
      rw [htk, hta]; simp [Hs.upd]
  · rintro l h' ⟨z1, z2, z4, _⟩
    rw [List.length_map, List.take_length] at z1
    exact q h1.nx h' hpb i1.nx z4 (i1.trans z2) z1
/-- the same where the name is a cell (a comprehension within asks for it) -/
theorem lc_coreC {α : Type} {x : Str} {ps : Pos} {fs : List Expr} {elt i : Expr} {scope : Scope} {cl : List (Str × Nat)} {as : List α} {g : α → V} (t : α → Bool) (e : α → V)
    {S : Hs} (I : PI C n F loc h S i (as.map g)) (hz : as.length ≤ sizeLine)
    (hx : ∀ L cells, (compEnv scope F.env L cells).kindOf x = some .cell) (hc : ∀ k, celFrom k scope.names cl = (x, k) :: cl) (hs : ∀ h, hsCells scope.names h = h.new (.cell none))
    (T : ∀ a ∈ as, ∀ L cells q, h.nx ≤ q → PTs C n ⟨compEnv scope F.env L cells, (x, q) :: cl⟩ [] ((h.upd q (.cell (some (g a)))).at (q + 1)) fs (t a))
    (E : ∀ a ∈ as, t a = true → ∀ L cells q, h.nx ≤ q → Pu C n ⟨compEnv scope F.env L cells, (x, q) :: cl⟩ [] ((h.upd q (.cell (some (g a)))).at (q + 1)) elt (e a))
    {hb : Hs} (hi : h.In hb) {K : Nat → Hs → Prop} (q : ∀ p h', hb.σ p = .dead → hb.nx ≤ p → p < h'.nx → hb.In h' → h'.σ p = .list ((as.filter t).map e) → K p h') :
    Ev C n F loc hb i fun src h1 => Its C n h1 (· = .Name x ps) src fun h2 ok items => ∀ L cells, LpW ok (TurnW C n ⟨compEnv scope F.env L cells, celFrom (h2.nx + 1) scope.names cl⟩ (.Name x ps) fs (EmL C n ⟨compEnv scope F.env L cells, celFrom (h2.nx + 1) scope.names cl⟩ h2.nx elt)) (fun _ h' => K h2.nx h') items [] (hsCells scope.names (h2.new (.list []))) := by
  refine I.2 hb hi _ _ fun h1 i1 ok1 ok hok L cells => ?_
  rw [hc, hs]
  have hp1 : h1.σ h1.nx = .dead := ok1 _ (Nat.le_refl _)
  have hp2 : h1.σ (h1.nx + 1) = .dead := ok1 _ (Nat.le_succ _)
  have hpb : hb.σ h1.nx = .dead := i1.dead hp1
  have hin0 : h1.In ((h1.new (.list [])).new (.cell none)) := by
    refine ((Hs.In.refl h1).new ok1).new fun j hj => ?_
    have hj : h1.nx + 1 ≤ j := hj
    show (if j = h1.nx then _ else h1.σ j) = _
    rw [if_neg (by omega)]; exact ok1 j (by omega)
  refine lpw_inv (fun k l h' => h'.σ h1.nx = .list (((as.take k).filter t).map e) ∧ h1.In h' ∧ h1.nx + 1 < h'.nx ∧ l = [] ∧ ∃ u, h'.σ (h1.nx + 1) = .cell u) ?_ (turn_mono emL_mono) ?_ ?_ ⟨by simp [Hs.new], hin0, Nat.lt_succ_self _, rfl, none, by simp [Hs.new]⟩
  · rintro k l h' ⟨_, z, _⟩; exact hok _ (I.1.trans (hi.trans (i1.trans z)))
  · rintro k v l h' hv ⟨z1, z2, z4, rfl, u0, z3⟩
    rw [List.getElem?_map] at hv
    obtain ⟨a, ha, rfl⟩ := Option.map_eq_some_iff.mp hv
    have hmem : a ∈ as := List.mem_of_getElem? ha
    have hlt := (List.getElem?_eq_some_iff.mp ha).1
    have htk : ((as.take (k + 1)).filter t).map e = ((as.take k).filter t).map e ++ (if t a then [e a] else []) := by
      rw [List.take_add_one, List.filter_append, ha]
      cases hf : t a <;> simp [hf]
    have hlen : (((as.take k).filter t).map e).length ≤ sizeLine := by
      rw [List.length_map]
      exact Nat.le_trans (List.length_filter_le _ _) (by rw [List.length_take]; omega)
    refine as_cell (i := h1.nx + 1) (hx L cells) (by simp [List.lookup]) z3 ?_
    have hin : h.In h' := hi.trans (i1.trans z2)
    have hinu : ((h.upd (h1.nx + 1) (.cell (some (g a)))).at (h1.nx + 1 + 1)).In (h'.upd (h1.nx + 1) (.cell (some (g a)))) := ⟨z4, hin.upd.le⟩
    have hq : h.nx ≤ h1.nx + 1 := Nat.le_succ_of_le (hi.trans i1).nx
    have z1' : (h'.upd (h1.nx + 1) (.cell (some (g a)))).σ h1.nx = .list (((as.take k).filter t).map e) := by
      show (if h1.nx = h1.nx + 1 then _ else h'.σ h1.nx) = _
      rw [if_neg (by omega)]; exact z1
    have z2' : h1.In (h'.upd (h1.nx + 1) (.cell (some (g a)))) := z2.updd hp2
    have z3' : (h'.upd (h1.nx + 1) (.cell (some (g a)))).σ (h1.nx + 1) = .cell (some (g a)) := if_pos rfl
    have z4' : h1.nx + 1 < (h'.upd (h1.nx + 1) (.cell (some (g a)))).nx := z4
    generalize h'.upd (h1.nx + 1) (.cell (some (g a))) = h4 at hinu z1' z2' z3' z4'
    refine tests_pu fs (t a) h4 _ (T a hmem L cells _ hq) hinu fun h2 i2 => ?_
    cases hta : t a with
    | false =>
      simp only [Bool.false_eq_true, if_false]
      refine ⟨?_, z2'.trans i2, Nat.lt_of_lt_of_le z4' i2.nx, by simp, _, i2.cell z3'⟩
      rw [htk, hta]; simpa using i2.list z1'
    | true =>
      simp only [if_true]
      refine E a hmem hta L cells _ hq h2 (hinu.trans i2) _ fun h3 i3 => ⟨_, i3.list (i2.list z1'), hlen, ?_, ((z2'.trans i2).trans i3).updd hp1, Nat.lt_of_lt_of_le z4' (Nat.le_trans i2.nx i3.nx), by simp, some (g a), ?_⟩
      · rw [htk, hta]; simp [Hs.upd]
      · show (if h1.nx + 1 = h1.nx then _ else h3.σ (h1.nx + 1)) = _
        rw [if_neg (by omega)]; exact i3.cell (i2.cell z3')
  · rintro l h' ⟨z1, z2, z4, _⟩
    rw [List.length_map, List.take_length] at z1
    exact q h1.nx h' hpb i1.nx (by omega) (i1.trans z2) z1
theorem fz_at {hb h' : Hs} {p : Nat} {xs : List V} {Q : V → Hs → Prop} (hd : hb.σ p = .dead) (hi : hb.In h') (hs : h'.σ p = .list xs) (q : ∀ h', hb.In h' → Q (.lst xs) h') : ∃ i ys, V.ref p = .ref i ∧ h'.σ i = .list ys ∧ Q (.lst ys) (h'.upd i .dead) :=
  ⟨_, _, rfl, hs, q _ (hi.updd hd)⟩
theorem pu_listcomp {α : Type} {x : Str} {ps : Pos} {fs : List Expr} {elt i : Expr} {scope : Scope} {pos : Pos} {cl : List (Str × Nat)} {as : List α} {g : α → V} (t : α → Bool) (e : α → V)
    {S : Hs} (I : PI C n F loc h S i (as.map g)) (hz : as.length ≤ sizeLine)
    (T : ∀ a ∈ as, ∀ L cells, PTs C n ⟨compEnv scope F.env L cells, cl⟩ [(x, g a)] h fs (t a))
    (E : ∀ a ∈ as, t a = true → ∀ L cells, Pu C n ⟨compEnv scope F.env L cells, cl⟩ [(x, g a)] h elt (e a))
    (hclo : cloA F.cel scope.names [] = some cl := by rfl) (hx : ∀ L cells, (compEnv scope F.env L cells).kindOf x = some .local := by intros; rfl) (hc : ∀ k, celFrom k scope.names cl = cl := by intros; rfl) (hs : ∀ h, hsCells scope.names h = h := by intros; rfl)
    (hk : scope.kind = .function := by rfl) (hnm : namesOk scope.names = true := by rfl) (hfs : ∀ x, foldedSetIterable i F.env x = pure x := by intro _; rfl) : Pu C n F loc h (.ListComp elt [⟨.Name x ps, i, fs, 0⟩] scope pos) (.lst ((as.filter t).map e)) := fun hb hi Q q =>
  Ev.fz (ev_listcomp compOk_one (lc_core t e I hz hx hc hs T E hi fun p h' hd _ _ hi' hs' => fz_at hd hi' hs' q) hclo hk hnm hfs)
/-- statements, by what is known ahead of them -/
def KX (C : Cx) (n : Nat) (F : Fr) (loc : Loc) (h : Hs) (sts : List Stmt) (QF : Fl → Loc → Hs → Prop) : Prop := ∀ hb, h.In hb → Exs C n F loc hb sts QF
def KA (C : Cx) (n : Nat) (F : Fr) (loc : Loc) (h : Hs) (t : Expr) (v : V) (QL : Loc → Hs → Prop) : Prop := ∀ hb, h.In hb → As C n F loc hb t v QL
def KW (C : Cx) (n : Nat) (F : Fr) (loc : Loc) (h : Hs) (st : Stmt) (QF : Fl → Loc → Hs → Prop) : Prop := ∀ hb, h.In hb → Ex C n F loc hb st QF
variable {QF : Fl → Loc → Hs → Prop} {rest : List Stmt}
theorem KX.up {sts : List Stmt} (H : KX C n F loc h sts QF) (x : h.In h') : KX C n F loc h' sts QF := fun hb i => H hb (x.trans i)
theorem kx_nil (q : ∀ h', h.In h' → QF .next loc h') : KX C n F loc h [] QF := fun hb hi => exs_nil (q hb hi)
theorem kx_ret {e : Expr} {p : Pos} {v : V} (E : Pu C n F loc h e v) (q : ∀ h', h.In h' → QF (.ret v) loc h') : KX C n F loc h (.Return (some e) p :: rest) QF := fun hb hi =>
  exs_cons (ex_return (E hb hi _ fun h1 i1 => q h1 (hi.trans i1)))
/-- if: the ways joined by what follows -/
theorem kx_if {t : Expr} {b o : List Stmt} {p : Pos} {c : Bool} (T : PuB C n F loc h t c)
    (A : c = true → KX C n F loc h b fun fl l h' => match fl with | .next => KX C n F l h' rest QF | fl => QF fl l h')
    (B : c = false → KX C n F loc h o fun fl l h' => match fl with | .next => KX C n F l h' rest QF | fl => QF fl l h') : KX C n F loc h (.If t b o p :: rest) QF := fun hb hi =>
  exs_cons (ex_if (T hb hi _ fun h1 i1 => by
    cases c with
    | true =>
      rw [if_pos rfl]
      refine (A rfl h1 (hi.trans i1)).mono fun fl l h' q => ?_
      cases fl <;> first | exact q _ (.refl _) | exact q
    | false =>
      rw [if_neg Bool.false_ne_true]
      refine (B rfl h1 (hi.trans i1)).mono fun fl l h' q => ?_
      cases fl <;> first | exact q _ (.refl _) | exact q))
/-- for, by what holds ahead of the turn k -/
theorem kx_for {t it : Expr} {b : List Stmt} {p : Pos} {S : Hs} {items : List V} (I : Nat → Loc → Hs → Prop) (hS : PI C n F loc h S it items)
    (h0 : I 0 loc h) (hok : ∀ k l hk, I k l hk → S.In hk)
    (H : ∀ k v l hk, items[k]? = some v → I k l hk → KA C n F l hk t v fun l2 h2 => KX C n F l2 h2 b fun fl l3 h3 => match fl with
      | .next | .cont => ∃ l' hk', LocSub l' l3 ∧ hk'.In h3 ∧ I (k + 1) l' hk'
      | .brk => KX C n F l3 h3 rest QF
      | .ret u => QF (.ret u) l3 h3)
    (hend : ∀ l hk, I items.length l hk → KX C n F l hk rest QF) (hs : ∀ x, foldedSetIterable it F.env x = pure x := by intro _; rfl) : KX C n F loc h (.For t it b [] p :: rest) QF := fun hb hi =>
  exs_cons (ex_for (tg := fun _ => True) (hS.2 hb hi _ _ fun h1 i1 ok1 ok hok1 => by
    refine fow_inv2 (fun k l h' => ∃ hk, I k l hk ∧ hk.In h') (fun k l h' ⟨hk, z1, z2⟩ => hok1 _ ((hok _ _ _ z1).trans z2)) (fun k v l h' hv ⟨hk, z1, z2⟩ => ?_) (fun l h' ⟨hk, z1, z2⟩ => hend l hk z1 _ z2) ⟨h, h0, hi.trans i1⟩
    refine (H k v l hk hv z1 h' z2).mono fun l2 h2 q => (q h2 (.refl _)).mono fun fl l3 h3 q => ?_
    cases fl with
    | next => obtain ⟨l', hk', ls, i3, z⟩ := q; exact ⟨l', h3, ls, .refl _, hk', z, i3⟩
    | cont => obtain ⟨l', hk', ls, i3, z⟩ := q; exact ⟨l', h3, ls, .refl _, hk', z, i3⟩
    | brk => exact ⟨l3, h3, .refl _, .refl _, q h3 (.refl _)⟩
    | ret u => exact ⟨l3, h3, .refl _, .refl _, q⟩) trivial hs)
end
end Mine
namespace Mine
section
variable {C : Cx} {n : Nat} {F : Fr} {loc : Loc} {h h' : Hs} {w : Wd} {QF : Fl → Loc → Hs → Prop} {QL : Loc → Hs → Prop} {rest : List Stmt}
theorem Up3.pre {f : Value → Value → Value → Sem Unit} {a b c : V} {QU : Hs → Prop} {h₀ : Hs} (H : Up3 C n f h₀ a b c QU) (le : h.Le h₀) : Up3 C n f h a b c QU := ⟨fun A w Q' E x y z a R => H.run A w Q' E x y z a (R.weaken le)⟩
theorem Evs.okQ {es : List Expr} {QS : List V → Hs → Prop} (H : Evs C n F loc h es fun vs h' => h'.Ok → QS vs h') : Evs C n F loc h es QS := ⟨fun A w pos Q' E a R f c => H.run A w pos Q' E a R f fun xs vs h' w' q e' R' => c xs vs h' w' (q R'.dead) e' R'⟩
theorem KX.all {sts : List Stmt} (H : KX C n F loc h sts QF) : ∀ h', h.In h' → KX C n F loc h' sts QF := fun _ i => H.up i
-- assignment to targets
theorem ka_loc {x : Str} {p : Pos} {v : V} (H : ∀ h', h.In h' → QL (upd x v loc) h') (hk : F.env.kindOf x = some .local := by rfl) : KA C n F loc h (.Name x p) v QL := fun hb hi => as_local hk (H hb hi)
theorem ka_cel {x : Str} {p : Pos} {v : V} {i : Nat} {u : Option V} (hc : F.cel.lookup x = some i) (hv : h.σ i = .cell u) (H : ∀ h', (h.upd i (.cell (some v))).In h' → QL loc h') (hk : F.env.kindOf x = some .cell := by rfl) : KA C n F loc h (.Name x p) v QL := fun hb hi => as_cell hk hc (hi.cell hv) (H _ hi.upd)
def KAL (C : Cx) (n : Nat) (F : Fr) (QL : Loc → Hs → Prop) (ts : List Expr) (vs : List V) (loc : Loc) (h : Hs) : Prop := ∀ hb, h.In hb → AsL C n F QL ts vs loc hb
theorem ka_subD {o k : Expr} {p : Pos} {v : V} {i : Nat} {key : Key} {kvs : List (Key × V)} (O : Pu C n F loc h o (.ref i)) (B : Pu C n F loc h k key.v) (hi : h.σ i = .dict kvs) (hz : kvs.length ≤ sizeLine) (H : ∀ h', (h.upd i (.dict (kput kvs key v))).In h' → QL loc h') : KA C n F loc h (.Subscript o k p) v QL := fun hb hj =>
  As.pre (as_sub (O (h.at hb.nx) ((Hs.In.refl h).at hj.nx) _ fun h1 i1 => B h1 (((Hs.In.refl h).at hj.nx).trans i1) _ fun h2 i2 => by
    have i0 := ((Hs.In.refl h).at hj.nx).trans (i1.trans i2)
    refine Up3.pre (h₀ := h.at h2.nx) (dct_set hi hz (H _ ?_)) i0.toLe
    exact ((Hs.In.refl h).at i0.nx).upd)) hj.toLe
/-- t = e -/
theorem kx_asg {t e : Expr} {p' : Pos} {v : V} (E : Pu C n F loc h e v) (H : KA C n F loc h t v fun l2 h2 => KX C n F l2 h2 rest QF)
    (hs : swapsWith e (some t) p'.line F.env = pure false := by rfl) (hw : swappedStores [t] e F.env = pure none := by rfl) (he : (assignEach [t] F.env).map (·.2) = [assign t F.env] := by rfl) : KX C n F loc h (.Assign [t] e p' :: rest) QF := fun hb hi =>
  exs_cons (ex_assign (E hb hi _ fun h1 i1 => (H h1 (hi.trans i1)).mono fun l h2 q => q h2 (.refl _)) hs hw he)
/-- t = [.. for x in ..] -/
theorem kx_lc {α : Type} {x : Str} {ps p' : Pos} {fs : List Expr} {elt i u : Expr} {scope : Scope} {pos : Pos} {cl : List (Str × Nat)} {as : List α} {g : α → V} {S : Hs} (t : α → Bool) (e : α → V)
    (I : PI C n F loc h S i (as.map g)) (hz : as.length ≤ sizeLine)
    (T : ∀ a ∈ as, ∀ L cells, PTs C n ⟨compEnv scope F.env L cells, cl⟩ [(x, g a)] h fs (t a))
    (E : ∀ a ∈ as, t a = true → ∀ L cells, Pu C n ⟨compEnv scope F.env L cells, cl⟩ [(x, g a)] h elt (e a))
    (H : KA C n F loc h u (.lst ((as.filter t).map e)) fun l2 h2 => KX C n F l2 h2 rest QF)
    (hsw : swapsWith (.ListComp elt [⟨.Name x ps, i, fs, 0⟩] scope pos) (some u) p'.line F.env = pure true := by rfl)
    (hclo : cloA F.cel scope.names [] = some cl := by rfl) (hx : ∀ L cells, (compEnv scope F.env L cells).kindOf x = some .local := by intros; rfl) (hc : ∀ k, celFrom k scope.names cl = cl := by intros; rfl) (hs : ∀ h, hsCells scope.names h = h := by intros; rfl)
    (hk : scope.kind = .function := by rfl) (hnm : namesOk scope.names = true := by rfl) (hfs : ∀ x, foldedSetIterable i F.env x = pure x := by intro _; rfl) (he : (assignEach [u] F.env).map (·.2) = [assign u F.env] := by rfl) : KX C n F loc h (.Assign [u] (.ListComp elt [⟨.Name x ps, i, fs, 0⟩] scope pos) p' :: rest) QF := fun hb hi =>
  exs_cons (ex_assign_listcomp compOk_one hsw (lc_core t e I hz hx hc hs T E hi fun p h' hd _ _ hi' hs' => As.fz hs' ((H _ (hi.trans (hi'.updd hd))).mono fun l h2 q => q h2 (.refl _))) hclo hk hnm hfs he)
-- effects
/-- an expression with effects -/
def KE (C : Cx) (n : Nat) (F : Fr) (loc : Loc) (h : Hs) (e : Expr) (Q : V → Hs → Prop) : Prop := ∀ hb, h.In hb → Ev C n F loc hb e Q
def KB (C : Cx) (n : Nat) (F : Fr) (loc : Loc) (h : Hs) (e : Expr) (Q : Bool → Hs → Prop) : Prop := ∀ hb, h.In hb → EvB C n F loc hb e Q
def KC (C : Cx) (n : Nat) (h : Hs) (f : V) (args : List V) (kw : List (Str × V)) (Q : V → Hs → Prop) : Prop := ∀ hb, h.In hb → Cl C n hb f args kw Q
variable {Q : V → Hs → Prop} {QB : Bool → Hs → Prop}
theorem ke_call {x : Str} {p' p : Pos} {es : List Expr} {ks : List Keyword} {ns : List Str} {f : V} {vs kv : List V} (N : Pu C n F loc h (.Name x p') f) (K : Kp C f) (A : PEs C n F loc h es vs) (B : PKs C n F loc h ks kv) (O : KC C n h f vs (ns.zip kv) Q) (hs : noStar es = true := by rfl) (hn : kwNames ks = some ns := by rfl) : KE C n F loc h (.Call (.Name x p') es ks p) Q := fun hb hi =>
  ev_call (N hb hi _ fun h1 i1 => ⟨K, A h1 (hi.trans i1) _ fun h2 i2 => B h2 (hi.trans (i1.trans i2)) _ fun h3 i3 => O h3 (hi.trans (i1.trans (i2.trans i3)))⟩) hs hn
theorem ke_mcall {o : Expr} {name : Str} {p' p : Pos} {es : List Expr} {ks : List Keyword} {ns : List Str} {a f : V} {first vs kv : List V} (N : Pu C n F loc h o a) (M : PM C n h a name f first) (A : PEs C n F loc h es vs) (B : PKs C n F loc h ks kv) (O : KC C n h f (first ++ vs) (ns.zip kv) Q)
    (hs : noStar es = true := by rfl) (hn : kwNames ks = some ns := by rfl) (hb : attributeBase o name F.env (eval o F.env) = eval o F.env := by rfl)
    (hf : methodCallForm (es.length + ks.length) (backTo p (starEach es F.env)) (backToKw p (keywordEach ks F.env)) = true := by rfl) (hl : (p'.endLine == p.line) = true := by rfl) : KE C n F loc h (.Call (.Attribute o name p') es ks p) Q := fun hh hi =>
  ev_mcall (N hh hi _ fun h1 i1 => M.2 h1 (hi.trans i1) _ ⟨M.1, A h1 (hi.trans i1) _ fun h2 i2 => B h2 (hi.trans (i1.trans i2)) _ fun h3 i3 => O h3 (hi.trans (i1.trans (i2.trans i3)))⟩) hs hn hb hf hl
theorem kx_expr {e : Expr} {p : Pos} (H : KE C n F loc h e fun v h1 => KX C n F loc h1 rest QF) (hi : interactive F.env = false := by rfl) (hs : swapsWith e none p.line F.env = pure false := by rfl) : KX C n F loc h (.Expr e p :: rest) QF := fun hb hh => exs_cons (ex_expr ((H hb hh).mono fun v h1 q => q h1 (.refl _)) hi hs)
theorem kx_asgE {t e : Expr} {p' : Pos} (E : KE C n F loc h e fun v h1 => KA C n F loc h1 t v fun l2 h2 => KX C n F l2 h2 rest QF)
    (hs : swapsWith e (some t) p'.line F.env = pure false := by rfl) (hw : swappedStores [t] e F.env = pure none := by rfl) (he : (assignEach [t] F.env).map (·.2) = [assign t F.env] := by rfl) : KX C n F loc h (.Assign [t] e p' :: rest) QF := fun hb hi =>
  exs_cons (ex_assign ((E hb hi).mono fun v h1 q => (q h1 (.refl _)).mono fun l h2 q => q h2 (.refl _)) hs hw he)
-- new lists
theorem ke_list {es : List Expr} {p : Pos} {vs : List V} (A : PEs C n F loc h es vs) (q : ∀ p, h.σ p = .dead → h.nx ≤ p → ∀ h', ((h.upd p (.list vs)).at (p + 1)).In h' → Q (.ref p) h') (hz : vs.length ≤ sizeLine := by simp) : KE C n F loc h (.List es p) Q := fun hb hi =>
  ev_list (Evs.okQ (A hb hi _ fun h1 i1 ok => ⟨hz, q h1.nx ((hi.trans i1).dead (ok _ (Nat.le_refl _))) (hi.trans i1).nx _ ⟨Nat.le_refl _, fun j => by
    show AO.le (if j = h1.nx then _ else h1.σ j) (if j = h1.nx then _ else h.σ j)
    by_cases hj : j = h1.nx
    · rw [if_pos hj, if_pos hj]; exact AO.le_refl _
    · rw [if_neg hj, if_neg hj]; exact (hi.trans i1).le j⟩⟩))
theorem kc_append {i : Nat} {xs : List V} {v : V} (hv : h.σ i = .list xs) (hz : xs.length ≤ sizeLine) (q : ∀ h', (h.upd i (.list (xs ++ [v]))).In h' → Q .none h') : KC C n h (.blt "list.append") [.ref i, v] [] Q := fun hb hi => cl_append (hi.list hv) hz (q _ hi.upd)
theorem pm_append {v : V} {xs : List V} (hv : IsLst h v xs) : PM C n h v "append" (.blt "list.append") [v] := ⟨kp_blt, fun hb hi Q q => mth_append (hi.lst hv) q⟩
theorem pg_field {K : W.Frag} {i : Nat} {cl : Addr} {fs : List (Str × V)} {name : Str} {v : V} (I : InC C K) (hi : h.σ i = .inst fs) (hv : fs.lookup name = some v) (hb : ∀ id, v ≠ .blt id) {attr : Option Value}
    (hg : W.plainGet K cl name = true := by rfl) (hh : W.hasDictIn K cl = true := by rfl) (ha : W.findIn K (.ref cl) name = some attr := by rfl) (hn : W.noGet K attr = true := by rfl) : PG C n h (.obj i cl) name v := fun hh' hj Q q => get_field I (hj.inst hi) hv hb hg hh ha hn (q _ (.refl _))
theorem pm_own {K : W.Frag} {i : Nat} {cl f : Addr} {fs : List (Str × V)} {name : Str} (I : InC C K) (kp : Kp C (.top f)) (hi : h.σ i = .inst fs) (hv : fs.lookup name = none) (hg : W.plainGet K cl name = true := by rfl) (hf : W.findIn K (.ref cl) name = some (some (.ref f)) := by rfl) (ht : W.isFn K (.ref f) = true := by rfl) : PM C n h (.obj i cl) name (.top f) [.obj i cl] :=
  ⟨kp, fun hb hj Q q => mth_own I (hj.inst hi) hv hg hf ht q⟩
-- functions of the top
theorem bindAll_up {names : List (Str × NameKind)} {cel : List (Str × Nat)} : ∀ {ab : List (Str × V)} {loc loc' : Loc} {h hb h1 : Hs}, bindAll names cel ab loc h = some (loc', h1) → h.In hb → ∃ h2, bindAll names cel ab loc hb = some (loc', h2) ∧ h1.In h2
  | [], loc, loc', h, hb, h1, e, i => by cases e; exact ⟨hb, rfl, i⟩
  | (x, v) :: r, loc, loc', h, hb, h1, e, i => by
    unfold bindAll at e ⊢
    split at e
    · exact bindAll_up e i
    · rename_i j z1 z2
      split at e
      · rename_i c z3
        rw [i.cell z3]
        exact bindAll_up e i.upd
      · cases e
    · cases e
theorem hsCells_up : ∀ (names : List (Str × NameKind)) {h hb : Hs}, h.In hb → h.nx = hb.nx → (hsCells names h).In (hsCells names hb)
  | [], h, hb, i, e => i
  | (_, k) :: r, h, hb, i, e => by
    unfold hsCells
    split
    · exact hsCells_up r (i.newb e) (by show h.nx + 1 = hb.nx + 1; omega)
    · exact hsCells_up r i e
/-- a function that writes nothing known; its locals are no cells -/
theorem pf_fn {f : Addr} {fd : FuncData} {body : List Stmt} {args : List V} {kw ab : List (Str × V)} {loc : Loc} {v : V} (K : FnOk C f fd body) (hb : Binds C fd args kw ab)
    (H : ∀ hb, h.In hb → hb.Ok → ∀ L cells, KX C n ⟨envFn f fd L cells, []⟩ loc hb body fun fl _ h' => fl = .ret v ∧ hb.In h')
    (hcel : ∀ k, celFrom k fd.scope.names [] = [] := by intros; rfl) (hent : ∀ hb, bindAll fd.scope.names [] ab [] (hsCells fd.scope.names hb) = some (loc, hb) := by intros; rfl) : PF C (n + 1) h (.top f) args kw v := fun h0 hi Q q =>
  Cl.ok fun ok => cl_fn K hb (by rw [hcel]; exact hent h0) fun L cells => by
    rw [hcel]
    exact (H h0 hi ok L cells h0 (.refl _)).mono fun fl l h' ⟨e, i⟩ => by subst e; exact q h' i
/-- a function with effects -/
theorem kc_fn {f : Addr} {fd : FuncData} {body : List Stmt} {args : List V} {kw ab : List (Str × V)} {loc : Loc} {h1 : Nat → Hs} (K : FnOk C f fd body) (hb : Binds C fd args kw ab)
    (hent : ∀ p, bindAll fd.scope.names (celFrom p fd.scope.names []) ab [] (hsCells fd.scope.names (h.at p)) = some (loc, h1 p))
    (H : ∀ p, h.nx ≤ p → h.σ p = .dead → ∀ L cells, KX C n ⟨envFn f fd L cells, celFrom p fd.scope.names []⟩ loc (h1 p) body (RetQ Q)) : KC C (n + 1) h (.top f) args kw Q := fun h0 hi =>
  Cl.ok fun ok => by
    obtain ⟨h2, e2, i2⟩ := bindAll_up (hent h0.nx) (hsCells_up fd.scope.names (h := h.at h0.nx) (hb := h0) ⟨Nat.le_refl _, hi.le⟩ rfl)
    exact cl_fn K hb e2 fun L cells => H h0.nx hi.nx (hi.dead (ok _ (Nat.le_refl _))) L cells h2 i2
end
end Mine
namespace Mine
section
variable {C : Cx} {n : Nat} {F : Fr} {loc : Loc} {h h' : Hs} {w : Wd} {QF : Fl → Loc → Hs → Prop} {QL : Loc → Hs → Prop} {rest : List Stmt}
theorem Pu.eq {e : Expr} {u v : V} (H : Pu C n F loc h e u) (q : u = v) : Pu C n F loc h e v := q ▸ H
theorem PuB.eq {e : Expr} {u v : Bool} (H : PuB C n F loc h e u) (q : u = v) : PuB C n F loc h e v := q ▸ H
theorem PF.eq {f : V} {args : List V} {kw : List (Str × V)} {u v : V} (H : PF C n h f args kw u) (q : u = v) : PF C n h f args kw v := q ▸ H
theorem PF.less {m : Nat} {f : V} {args : List V} {kw : List (Str × V)} {u : V} (H : PF C m h f args kw u) (q : m ≤ n) : PF C n h f args kw u := fun hb hi Q q' => (H hb hi Q q').less q
theorem KC.less {m : Nat} {f : V} {args : List V} {kw : List (Str × V)} {Q : V → Hs → Prop} (H : KC C m h f args kw Q) (q : m ≤ n) : KC C n h f args kw Q := fun hb hi => (H hb hi).less q
theorem pu_andB {a b : Expr} {p : Pos} {x y : Bool} (A : Pu C n F loc h a (.bool x)) (B : x = true → Pu C n F loc h b (.bool y)) : Pu C n F loc h (.BoolOp .And [a, b] p) (.bool (x && y)) :=
  (pu_and A pt_bool B).eq (by cases x <;> rfl)
theorem pu_andB0 {a b : Expr} {p : Pos} {x y : Bool} (A : Pu C n F loc h a (.bool x)) (B : Pu C n F loc h b (.bool y)) : Pu C n F loc h (.BoolOp .And [a, b] p) (.bool (x && y)) := pu_andB A fun _ => B
theorem pub_and0 {x : Expr} {r : List Expr} {p : Pos} {a b : Bool} (A : PuB C n F loc h x a) (B : PuB C n F loc h (.BoolOp .And r p) b) : PuB C n F loc h (.BoolOp .And (x :: r) p) (a && b) := pub_and A fun _ => B
theorem pub_or0 {x : Expr} {r : List Expr} {p : Pos} {a b : Bool} (A : PuB C n F loc h x a) (B : PuB C n F loc h (.BoolOp .Or r p) b) : PuB C n F loc h (.BoolOp .Or (x :: r) p) (a || b) := pub_or A fun _ => B
theorem Hs.In.datD (x : h.In h') : ∀ {a : List (Key × V)} {b : List (Key × PyData)}, DatD h a b → DatD h' a b
  | _, _, .nil => .nil
  | _, _, .cons a b => .cons (x.dat a) (x.datD b)
/-- two sets compared -/
theorem p2_eqs {u v : V} {ka kb : List Key} (hu : IsSet h u ka) (hv : IsSet h v kb) : P2 C n (compareOp .Eq) h u v (.bool (decide (ka.length = kb.length) && ka.all (· ∈ kb))) := fun hb hi Q q => set_eq (hi.fset hu) (hi.fset hv) (q _ (.refl _))
theorem p2_getD {v : V} {k : Key} {u : V} {kvs : List (Key × V)} (hv : IsDct h v kvs) (hu : kget kvs k = some u) : P2 C n getItem h v k.v u := fun hb hi Q q => dct_get (hi.dct hv) hu (q _ (.refl _))
theorem p2_neD {a b : V} {ka kb : List (Key × V)} {da db : List (Key × PyData)} (S : SysIn C) (ha : IsDct h a ka) (hb : IsDct h b kb) (ta : DatD h ka da) (tb : DatD h kb db) (oa : ∀ kd ∈ da, Dok kd.2) (ob : ∀ kd ∈ db, Dok kd.2) : P2 C (n + 1) (compareOp .NotEq) h a b (.bool (!dctEq da db)) := fun hh hi Q q => dct_ne (S := S) (hi.dct ha) (hi.dct hb) (hi.datD ta) (hi.datD tb) oa ob (q _ (.refl _))
/-- any object of the abstract heap may be written no more -/
theorem Rep.freezeO {i : Nat} {a : Addr} {o : Obj} (R : Rep C w h) (hi : w.ρ[i]? = some a) (ho : w.s.heap.get? a = some o) (hd : h.σ i ≠ .dead) : ∃ g', Ext C [] w ⟨g', w.ρ, w.s⟩ ∧ Rep C ⟨g', w.ρ, w.s⟩ (h.upd i .dead) ∧ g' a = some o ∧ Sub w.g g' := by
  have hg : w.g a = none := R.off i a hi hd
  have hsub := gset_sub (o := o) hg
  have ht : a ∉ C.tabs := fun z => (R.offtab a z).2 (List.mem_of_getElem? hi)
  refine ⟨gset w.g a o, ⟨hsub, fun b y e => ?_, List.prefix_refl _, fun _ z => .inl z, fun _ _ e _ _ _ => e, fun _ o e => ⟨o, e⟩⟩, ⟨fun b y e => ?_, R.len, R.nd, fun j b h1 h2 => ?_, fun j hj => ?_, fun j b h1 => ?_, R.new, R.os, R.bare, fun b y e h2 => hsub _ _ (R.top b y e h2), fun b hb => let ⟨y, e, z⟩ := R.tab b hb; ⟨y, e, z.mono hsub⟩, fun b hb => ⟨?_, (R.offtab b hb).2⟩⟩, gset_self, hsub⟩
  · have e : gset w.g a o b = some y := e
    unfold gset at e
    split at e
    · rename_i q; rw [q]; exact .inr (.inr (List.mem_of_getElem? hi))
    · exact .inl e
  · have e : gset w.g a o b = some y := e
    unfold gset at e
    split at e
    · rename_i q; cases e; rw [q]; exact ho
    · exact R.keep b y e
  · have h2 : (if j = i then AO.dead else h.σ j) ≠ .dead := h2
    have hji : j ≠ i := fun z => by rw [if_pos z] at h2; exact h2 rfl
    rw [if_neg hji] at h2
    show gset w.g a o b = none
    unfold gset
    rw [if_neg (fun q : b = a => hji (nodup_inj R.nd h1 (q ▸ hi)))]; exact R.off j b h1 h2
  · show (if j = i then AO.dead else h.σ j) = .dead
    by_cases hji : j = i
    · rw [if_pos hji]
    · rw [if_neg hji]; exact R.dead j hj
  · obtain ⟨y, h4, h5⟩ := R.obj j b h1
    refine ⟨y, h4, ?_⟩
    show ObjA _ _ _ y (if j = i then AO.dead else h.σ j)
    by_cases hji : j = i
    · rw [if_pos hji]; trivial
    · rw [if_neg hji]; exact h5.mono hsub (List.prefix_refl _)
  · show gset w.g a o b = none
    unfold gset
    rw [if_neg (fun q : b = a => ht (q ▸ hb))]; exact (R.offtab b hb).1
theorem Rep.freezeS {i : Nat} {ks : List Key} {x : Value} (R : Rep C w h) (hs : h.σ i = .set ks) (c : Conc C w.g w.ρ (.ref i) x) : ∃ g', Ext C [] w ⟨g', w.ρ, w.s⟩ ∧ Rep C ⟨g', w.ρ, w.s⟩ (h.upd i .dead) ∧ Conc C g' w.ρ (.fset ks) x := by
  cases c with
  | @ref _ a hi =>
    obtain ⟨o, ho, hA⟩ := R.obj i a hi
    rw [hs] at hA
    obtain ⟨g', e, R', hg, hsub⟩ := R.freezeO hi ho (by rw [hs]; simp)
    exact ⟨g', e, R', .fset hg hA⟩
theorem Rep.freezeD {i : Nat} {kvs : List (Key × V)} {x : Value} (R : Rep C w h) (hs : h.σ i = .dict kvs) (c : Conc C w.g w.ρ (.ref i) x) : ∃ g', Ext C [] w ⟨g', w.ρ, w.s⟩ ∧ Rep C ⟨g', w.ρ, w.s⟩ (h.upd i .dead) ∧ Conc C g' w.ρ (.fdict kvs) x := by
  cases c with
  | @ref _ a hi =>
    obtain ⟨o, ho, hA⟩ := R.obj i a hi
    rw [hs] at hA
    obtain ⟨kvs', h1, h2, h3⟩ := hA
    obtain ⟨g', e, R', hg, hsub⟩ := R.freezeO hi ho (by rw [hs]; simp)
    exact ⟨g', e, R', .fdict hg h1 (R.new a (List.mem_of_getElem? hi)) h2 (h3.mono hsub (List.prefix_refl _))⟩
variable {Q : V → Hs → Prop}
theorem Cl.fzS {f : V} {args : List V} {kw : List (Str × V)} (H : Cl C n h f args kw fun v h' => ∃ i ks, v = .ref i ∧ h'.σ i = .set ks ∧ Q (.fset ks) (h'.upd i .dead)) : Cl C n h f args kw Q :=
  ⟨fun A w Q' E fx xs ks a0 R c1 c2 hk c3 c => H.run A w Q' E fx xs ks a0 R c1 c2 hk c3 fun r v h' w' ⟨i, xs, hv, hs, q⟩ e' R' cx => by
    subst hv
    obtain ⟨g', e2, R2, c2⟩ := R'.freezeS hs cx
    exact c r _ _ ⟨g', w'.ρ, w'.s⟩ q (e'.trans e2) R2 c2⟩
theorem Ev.fzD {e : Expr} (H : Ev C n F loc h e fun v h' => ∃ i xs, v = .ref i ∧ h'.σ i = .dict xs ∧ Q (.fdict xs) (h'.upd i .dead)) : Ev C n F loc h e Q :=
  ⟨fun A w Q' E a R f c => H.run A w Q' E a R f fun x v h' w' ⟨i, xs, hv, hs, q⟩ e' R' cx => by
    subst hv
    obtain ⟨g', e2, R2, c2⟩ := R'.freezeD hs cx
    exact c x _ _ ⟨g', w'.ρ, w'.s⟩ q (e'.trans e2) R2 c2⟩
/-- set(list) -/
theorem pf_set {v : V} {xs : List V} {keys : List Key} (hv : IsLst h v xs) (hk : xs = keys.map Key.v) (hz : xs.length < scanBound) : PF C n h (.ty "set") [v] [] (.fset (keys.foldl sadd [])) := fun hb hi Q q => Cl.ok fun ok => Cl.fzS (cl_set_list (hi.lst hv) hk hz ⟨_, _, rfl, if_pos rfl, q _ (((Hs.In.refl hb).new ok).updd (ok _ (Nat.le_refl _)))⟩)
theorem pu_dict0 {p : Pos} : Pu C n F loc h (.Dict [] [] p) (.fdict []) := fun hb hi Q q => Ev.ok fun ok => Ev.fzD (ev_dict0 ⟨_, _, rfl, if_pos rfl, q _ (((Hs.In.refl hb).new ok).updd (ok _ (Nat.le_refl _)))⟩)
end
end Mine
namespace Mine
section
variable {C : Cx} {n : Nat} {F : Fr} {loc : Loc} {h h' : Hs} {w : Wd} {QF : Fl → Loc → Hs → Prop} {QL : Loc → Hs → Prop} {rest : List Stmt}
theorem pick_map {α β : Type} (f : α → β) (xs : List α) (lo hi st : Option Int) : pick (xs.map f) lo hi st = (pick xs lo hi st).map f := by
  unfold pick
  rw [List.length_map, List.map_filterMap]
  congr 1
  funext i
  simp
theorem p2_addT {α : Type} {g : α → V} {u v : V} {xs ys : List α} (hu : IsLst h u (xs.map g)) (hv : IsLst h v (ys.map g)) (hz : xs.length + ys.length ≤ sizeLine) : P2 C n (binaryOp .Add) h u v (.lst ((xs ++ ys).map g)) := by
  rw [List.map_append]; exact p2_addl hu hv (by simpa using hz)
theorem ps_listT {α : Type} {g : α → V} {v : V} {xs : List α} {lo hi st : Option Int} (hv : IsLst h v (xs.map g)) (hz : xs.length ≤ sizeLine) (h0 : st ≠ some 0) : PS C n h v (partV lo) (partV hi) (partV st) (.lst ((pick xs lo hi st).map g)) := by
  rw [← pick_map]; exact ps_list hv (by simpa using hz) h0
theorem p2_mulT {α : Type} {g : α → V} {u : V} {x : α} {k : Int} (hu : IsLst h u [g x]) (hlo : -(2 ^ 63 : Int) ≤ k) (hhi : k < 2 ^ 24) : P2 C n (binaryOp .Mult) h u (.int k) (.lst ((List.replicate k.toNat x).map g)) := by
  have := p2_mull (C := C) (n := n) (h := h) (k := k) hu hlo (by omega) (by simp; omega)
  have e : (List.replicate k.toNat [g x]).flatten = (List.replicate k.toNat x).map g := by
    rw [List.map_replicate]
    induction k.toNat with
    | zero => rfl
    | succ m ih => simp [List.replicate_succ, ih]
  rw [e] at this; exact this
theorem clipAt_nat (n k : Nat) : clipAt n (k : Int) = min k n := by unfold clipAt; split <;> omega
theorem pick_from {α : Type} (xs : List α) (k : Nat) : pick xs (some (k : Int)) none none = xs.drop k := by
  rw [pick_plain]
  simp only [Option.elim, clipAt_nat]
  rw [List.take_of_length_le (by simp)]
  rcases Nat.le_total k xs.length with z | z
  · rw [Nat.min_eq_left z]
  · rw [Nat.min_eq_right z, List.drop_eq_nil_of_le z, List.drop_eq_nil_of_le (Nat.le_refl _)]
theorem pick_to {α : Type} (xs : List α) (k : Nat) : pick xs none (some (k : Int)) none = xs.take k := by
  rw [pick_plain]
  simp only [Option.elim, clipAt_nat, List.drop_zero, Nat.sub_zero]
  rcases Nat.le_total k xs.length with z | z
  · rw [Nat.min_eq_left z]
  · rw [Nat.min_eq_right z, List.take_of_length_le z, List.take_of_length_le (Nat.le_refl _)]
-- what is one thing
theorem conc_lst_off {g : G} {ρ : List Addr} {xs : List V} {x : Value} (c : Conc C g ρ (.lst xs) x) : ∃ a o, x = .ref a ∧ g a = some o := by
  cases c with
  | lst hg cs => exact ⟨_, _, rfl, hg⟩
/-- the same, and the state as it was -/
def PX2 (C : Cx) (n : Nat) (f : Value → Value → Sem Value) (h : Hs) (a b v : V) : Prop := ∀ hb, h.In hb → ∀ Q : V → Hs → Prop, Q v hb → Op2 C n f hb a b Q
theorem x2_is_ref_lst {i : Nat} {xs ys : List V} (hl : h.σ i = .list xs) : PX2 C n (compareOp .Is) h (.ref i) (.lst ys) (.bool false) := fun hb hi Q q => ⟨fun A w Q' E x y a0 R cx cy c => by
  obtain ⟨b, o, rfl, hg⟩ := conc_lst_off cy
  cases cx with
  | @ref _ a hx =>
    have hl' := hi.list hl
    obtain ⟨vs, ⟨k, e⟩, _⟩ := R.list hx hl'
    exact wpAny_is_ref_other (fun z => by have := R.off i a hx (by rw [hl']; simp); rw [z, hg] at this; cases this) e (R.keep _ _ hg) (by simp) (c _ _ hb w q .refl R (.bool _))⟩
theorem x2_is_lst_ref {i : Nat} {xs ys : List V} (hl : h.σ i = .list xs) : PX2 C n (compareOp .Is) h (.lst ys) (.ref i) (.bool false) := fun hb hi Q q => ⟨fun A w Q' E x y a0 R cx cy c => by
  cases cx with
  | @lst _ vs b m hg cs =>
    cases cy with
    | @ref _ a hx =>
      have hl' := hi.list hl
      obtain ⟨vs', ⟨k, e⟩, _⟩ := R.list hx hl'
      exact wpAny_is_ref_other (fun z => by have := R.off i a hx (by rw [hl']; simp); rw [← z, hg] at this; cases this) (R.keep _ _ hg) e (by simp) (c _ _ hb w q .refl R (.bool _))⟩
theorem x2_is_self {i : Nat} : PX2 C n (compareOp .Is) h (.ref i) (.ref i) (.bool true) := fun hb hi Q q => is_ref_self q
theorem pu_lambda {params : Arguments} {body : Expr} {scope : Scope} {pos : Pos} {c P : Addr} {cl : List (Str × Nat)} {mg mb : Str → Option Value} (T : Tp C mg mb) (B : BmOk C mg) (K : CdOk C c P (F.env.qual ++ "<lambda>")) (hcode : F.env.code = .ref c)
    (hclo : cloA F.cel scope.names [] = some cl := by rfl) (hdef : defaultsOf params F.env = ([], []) := by rfl) : Pu C n F loc h (.Lambda params body scope pos) (.lam params body scope (F.env.qual ++ "<lambda>") cl) := fun hb hi Q q => ev_lambda T B K hcode (q _ (.refl _)) hclo hdef
-- dict comprehensions
theorem kput_new {β : Type} {kvs : List (Key × β)} {k : Key} {v : β} (hn : k ∉ kvs.map (·.1)) : kput kvs k v = kvs ++ [(k, v)] := by
  unfold kput
  rw [if_neg]
  rw [List.any_eq_true]
  rintro ⟨kv, h1, h2⟩
  exact hn (List.mem_map.mpr ⟨kv, h1, of_decide_eq_true h2⟩)
theorem nodup_take_snoc {α : Type} {as : List α} {t : α → Bool} {kf : α → Key} (hn : ((as.filter t).map kf).Nodup) {k : Nat} {a : α} (ha : as[k]? = some a) (ht : t a = true) : kf a ∉ ((as.take k).filter t).map kf := by
  have e : as = as.take k ++ a :: as.drop (k + 1) := by
    obtain ⟨h1, h2⟩ := List.getElem?_eq_some_iff.mp ha
    rw [← h2, ← List.drop_eq_getElem_cons h1, List.take_append_drop]
  rw [e, List.filter_append, List.map_append, List.filter_cons_of_pos ht, List.map_cons] at hn
  intro z
  exact (List.nodup_append.mp hn).2.2 _ z _ (List.mem_cons_self) rfl
/-- a dict, whether it is being iterated or not -/
theorem Hs.In.fixD {p : Nat} {kvs : List (Key × V)} (hD : IsDct h (.ref p) kvs) : ∃ h', h.Le h' ∧ h'.σ p = .dict kvs ∧ h'.nx = h.nx ∧ ∀ j, j ≠ p → h'.σ j = h.σ j :=
  ⟨⟨fun j => if j = p then .dict kvs else h.σ j, h.nx⟩, ⟨rfl, fun j => by
    show AO.le (h.σ j) (if j = p then _ else _)
    by_cases hj : j = p
    · rw [if_pos hj, hj]
      rcases hD with e | ⟨ep, e⟩
      · rw [e]; exact AO.le_refl _
      · rw [e]; rfl
    · rw [if_neg hj]; exact AO.le_refl _⟩, if_pos rfl, rfl, fun j hj => if_neg hj⟩
theorem dc_turn {α : Type} {fs : List Expr} {ke ve : Expr} {as : List α} {a : α} {F' : Fr} {l : Loc} {hk h1 h' : Hs} {k : Nat} {t : α → Bool} {kf : α → Key} {vf : α → V} {Q : Loc → Hs → Prop}
    (ha : as[k]? = some a) (hz : as.length ≤ sizeLine) (hnd : ((as.filter t).map kf).Nodup) (hp1 : h1.σ h1.nx = .dead) (hin : hk.In h') (z2 : h1.In h')
    (T : PTs C n F' l hk fs (t a)) (E : t a = true → Pu C n F' l hk ke (kf a).v ∧ Pu C n F' l hk ve (vf a))
    (z1 : IsDct h' (.ref h1.nx) (((as.take k).filter t).map fun a => (kf a, vf a)))
    (q : ∀ h2, IsDct h2 (.ref h1.nx) (((as.take (k + 1)).filter t).map fun a => (kf a, vf a)) → h1.In h2 → h'.nx ≤ h2.nx → (∀ i v, i ≠ h1.nx → h'.σ i = .cell v → h2.σ i = .cell v) → Q l h2) :
    TestsW C n F' l (fun b h2 => if b = true then EmD C n F' h1.nx ke ve l h2 Q else Q l h2) fs h' := by
  have hmem : a ∈ as := List.mem_of_getElem? ha
  have hlt := (List.getElem?_eq_some_iff.mp ha).1
  have htk : ((as.take (k + 1)).filter t) = ((as.take k).filter t) ++ (if t a then [a] else []) := by
    rw [List.take_add_one, List.filter_append, ha]
    cases hf : t a <;> simp [hf]
  have hlen : (((as.take k).filter t).map fun a => (kf a, vf a)).length ≤ sizeLine := by
    rw [List.length_map]
    exact Nat.le_trans (List.length_filter_le _ _) (by rw [List.length_take]; omega)
  refine tests_pu fs (t a) _ _ T hin fun h2 i2 => ?_
  have d2 : IsDct h2 (.ref h1.nx) _ := i2.dct z1
  cases hta : t a with
  | false =>
    simp only [Bool.false_eq_true, if_false]
    refine q h2 ?_ (z2.trans i2) i2.nx fun i v _ e => i2.cell e
    rw [htk, hta]; simpa using d2
  | true =>
    simp only [if_true]
    refine (E hta).1 h2 (hin.trans i2) _ fun h3 i3 => Ev.weak ((E hta).2 h3 (hin.trans (i2.trans i3)) _ fun h4 i4 => ?_)
    have d4 := i4.dct (i3.dct d2)
    obtain ⟨h5, le5, e5, n5, o5⟩ := Hs.In.fixD d4
    have i25 : h1.In (h5.upd h1.nx (.dict (kput (((as.take k).filter t).map fun a => (kf a, vf a)) (kf a) (vf a)))) := by
      refine Hs.In.updd ?_ hp1
      refine ⟨by rw [n5]; exact (z2.trans (i2.trans (i3.trans i4))).nx, fun j => ?_⟩
      by_cases hj : j = h1.nx
      · rw [hj, hp1]; exact AO.le_any _
      · rw [o5 j hj]; exact (z2.trans (i2.trans (i3.trans i4))).le j
    refine ⟨h5, le5, kf a, _, rfl, e5, hlen, q _ ?_ i25 ?_ fun i v hi e => ?_⟩
    · refine .inl ?_
      show (if h1.nx = h1.nx then _ else _) = _
      rw [if_pos rfl, kput_new (by simpa using nodup_take_snoc hnd ha hta), htk, hta]
      simp
    · show h'.nx ≤ h5.nx
      rw [n5]; exact (i2.trans (i3.trans i4)).nx
    · show (if i = h1.nx then _ else h5.σ i) = _
      rw [if_neg hi, o5 i hi]; exact i4.cell (i3.cell (i2.cell e))
theorem dc_core {α : Type} {x : Str} {ps : Pos} {fs : List Expr} {ke ve i : Expr} {scope : Scope} {cl : List (Str × Nat)} {as : List α} {g : α → V} {S : Hs} (t : α → Bool) (kf : α → Key) (vf : α → V)
    (I : PI C n F loc h S i (as.map g)) (hz : as.length ≤ sizeLine) (hnd : ((as.filter t).map kf).Nodup)
    (hx : ∀ L cells, (compEnv scope F.env L cells).kindOf x = some .local) (hc : ∀ k, celFrom k scope.names cl = cl) (hs : ∀ h, hsCells scope.names h = h)
    (T : ∀ a ∈ as, ∀ L cells, PTs C n ⟨compEnv scope F.env L cells, cl⟩ [(x, g a)] h fs (t a))
    (E : ∀ a ∈ as, t a = true → ∀ L cells, Pu C n ⟨compEnv scope F.env L cells, cl⟩ [(x, g a)] h ke (kf a).v ∧ Pu C n ⟨compEnv scope F.env L cells, cl⟩ [(x, g a)] h ve (vf a))
    {hb : Hs} (hi : h.In hb) {K : Nat → Hs → Prop} (q : ∀ p h', hb.σ p = .dead → hb.nx ≤ p → p < h'.nx → hb.In h' → IsDct h' (.ref p) ((as.filter t).map fun a => (kf a, vf a)) → K p h') :
    Ev C n F loc hb i fun src h1 => Its C n h1 (· = .Name x ps) src fun h2 ok items => ∀ L cells, LpW ok (TurnW C n ⟨compEnv scope F.env L cells, celFrom (h2.nx + 1) scope.names cl⟩ (.Name x ps) fs (EmD C n ⟨compEnv scope F.env L cells, celFrom (h2.nx + 1) scope.names cl⟩ h2.nx ke ve)) (fun _ h' => K h2.nx h') items [] (hsCells scope.names (h2.new (.dict []))) := by
  refine I.2 hb hi _ _ fun h1 i1 ok1 ok hok L cells => ?_
  rw [hc, hs]
  have hp1 : h1.σ h1.nx = .dead := ok1 _ (Nat.le_refl _)
  have hpb : hb.σ h1.nx = .dead := i1.dead hp1
  refine lpw_inv (fun k l h' => IsDct h' (.ref h1.nx) (((as.take k).filter t).map fun a => (kf a, vf a)) ∧ h1.In h' ∧ h1.nx < h'.nx ∧ (l = [] ∨ ∃ u, l = [(x, u)])) ?_ (turn_mono emD_mono) ?_ ?_ ⟨.inl (by simp [Hs.new]), (Hs.In.refl h1).new ok1, Nat.lt_succ_self _, .inl rfl⟩
  · rintro k l h' ⟨_, z, _⟩; exact hok _ (I.1.trans (hi.trans (i1.trans z)))
  · rintro k v l h' hv ⟨z1, z2, z4, z3⟩
    rw [List.getElem?_map] at hv
    obtain ⟨a, ha, rfl⟩ := Option.map_eq_some_iff.mp hv
    have hu : upd x (g a) l = [(x, g a)] := by rcases z3 with rfl | ⟨u, rfl⟩ <;> simp [upd]
    have hmem : a ∈ as := List.mem_of_getElem? ha
    refine as_local (hx L cells) ?_
    rw [hu]
    exact dc_turn ha hz hnd hp1 (hi.trans (i1.trans z2)) z2 (T a hmem L cells) (fun e => E a hmem e L cells) z1 fun h2 d2 i2 n2 _ => ⟨d2, i2, Nat.lt_of_lt_of_le z4 n2, .inr ⟨_, rfl⟩⟩
  · rintro l h' ⟨z1, z2, z4, _⟩
    rw [List.length_map, List.take_length] at z1
    exact q h1.nx h' hpb i1.nx z4 (i1.trans z2) z1
theorem dc_coreC {α : Type} {x : Str} {ps : Pos} {fs : List Expr} {ke ve i : Expr} {scope : Scope} {cl : List (Str × Nat)} {as : List α} {g : α → V} {S : Hs} (t : α → Bool) (kf : α → Key) (vf : α → V)
    (I : PI C n F loc h S i (as.map g)) (hz : as.length ≤ sizeLine) (hnd : ((as.filter t).map kf).Nodup)
    (hx : ∀ L cells, (compEnv scope F.env L cells).kindOf x = some .cell) (hc : ∀ k, celFrom k scope.names cl = (x, k) :: cl) (hs : ∀ h, hsCells scope.names h = h.new (.cell none))
    (T : ∀ a ∈ as, ∀ L cells q, h.nx ≤ q → PTs C n ⟨compEnv scope F.env L cells, (x, q) :: cl⟩ [] ((h.upd q (.cell (some (g a)))).at (q + 1)) fs (t a))
    (E : ∀ a ∈ as, t a = true → ∀ L cells q, h.nx ≤ q → Pu C n ⟨compEnv scope F.env L cells, (x, q) :: cl⟩ [] ((h.upd q (.cell (some (g a)))).at (q + 1)) ke (kf a).v ∧ Pu C n ⟨compEnv scope F.env L cells, (x, q) :: cl⟩ [] ((h.upd q (.cell (some (g a)))).at (q + 1)) ve (vf a))
    {hb : Hs} (hi : h.In hb) {K : Nat → Hs → Prop} (q : ∀ p h', hb.σ p = .dead → hb.nx ≤ p → p < h'.nx → hb.In h' → IsDct h' (.ref p) ((as.filter t).map fun a => (kf a, vf a)) → K p h') :
    Ev C n F loc hb i fun src h1 => Its C n h1 (· = .Name x ps) src fun h2 ok items => ∀ L cells, LpW ok (TurnW C n ⟨compEnv scope F.env L cells, celFrom (h2.nx + 1) scope.names cl⟩ (.Name x ps) fs (EmD C n ⟨compEnv scope F.env L cells, celFrom (h2.nx + 1) scope.names cl⟩ h2.nx ke ve)) (fun _ h' => K h2.nx h') items [] (hsCells scope.names (h2.new (.dict []))) := by
  refine I.2 hb hi _ _ fun h1 i1 ok1 ok hok L cells => ?_
  rw [hc, hs]
  have hp1 : h1.σ h1.nx = .dead := ok1 _ (Nat.le_refl _)
  have hp2 : h1.σ (h1.nx + 1) = .dead := ok1 _ (Nat.le_succ _)
  have hpb : hb.σ h1.nx = .dead := i1.dead hp1
  have hin0 : h1.In ((h1.new (.dict [])).new (.cell none)) := by
    refine ((Hs.In.refl h1).new ok1).new fun j hj => ?_
    have hj : h1.nx + 1 ≤ j := hj
    show (if j = h1.nx then _ else h1.σ j) = _
    rw [if_neg (by omega)]; exact ok1 j (by omega)
  refine lpw_inv (fun k l h' => IsDct h' (.ref h1.nx) (((as.take k).filter t).map fun a => (kf a, vf a)) ∧ h1.In h' ∧ h1.nx + 1 < h'.nx ∧ l = [] ∧ ∃ u, h'.σ (h1.nx + 1) = .cell u) ?_ (turn_mono emD_mono) ?_ ?_ ⟨.inl (by simp [Hs.new]), hin0, Nat.lt_succ_self _, rfl, none, by simp [Hs.new]⟩
  · rintro k l h' ⟨_, z, _⟩; exact hok _ (I.1.trans (hi.trans (i1.trans z)))
  · rintro k v l h' hv ⟨z1, z2, z4, rfl, u0, z3⟩
    rw [List.getElem?_map] at hv
    obtain ⟨a, ha, rfl⟩ := Option.map_eq_some_iff.mp hv
    have hmem : a ∈ as := List.mem_of_getElem? ha
    refine as_cell (i := h1.nx + 1) (hx L cells) (by simp [List.lookup]) z3 ?_
    have hin : h.In h' := hi.trans (i1.trans z2)
    have hinu : ((h.upd (h1.nx + 1) (.cell (some (g a)))).at (h1.nx + 1 + 1)).In (h'.upd (h1.nx + 1) (.cell (some (g a)))) := ⟨z4, hin.upd.le⟩
    have hq : h.nx ≤ h1.nx + 1 := Nat.le_succ_of_le (hi.trans i1).nx
    have z1' : IsDct (h'.upd (h1.nx + 1) (.cell (some (g a)))) (.ref h1.nx) (((as.take k).filter t).map fun a => (kf a, vf a)) := by
      have e : (h'.upd (h1.nx + 1) (.cell (some (g a)))).σ h1.nx = h'.σ h1.nx := if_neg (by omega)
      show (Hs.σ _ _ = _) ∨ _
      rw [e]; exact z1
    have z2' : h1.In (h'.upd (h1.nx + 1) (.cell (some (g a)))) := z2.updd hp2
    have z3' : (h'.upd (h1.nx + 1) (.cell (some (g a)))).σ (h1.nx + 1) = .cell (some (g a)) := if_pos rfl
    have z4' : h1.nx + 1 < (h'.upd (h1.nx + 1) (.cell (some (g a)))).nx := z4
    generalize h'.upd (h1.nx + 1) (.cell (some (g a))) = h4 at hinu z1' z2' z3' z4'
    exact dc_turn ha hz hnd hp1 hinu z2' (T a hmem L cells _ hq) (fun e => E a hmem e L cells _ hq) z1' fun h2 d2 i2 n2 c2 => ⟨d2, i2, Nat.lt_of_lt_of_le z4' n2, by simp, some (g a), c2 _ _ (by omega) z3'⟩
  · rintro l h' ⟨z1, z2, z4, _⟩
    rw [List.length_map, List.take_length] at z1
    exact q h1.nx h' hpb i1.nx (by omega) (i1.trans z2) z1
/-- t = {..: .. for x in ..}, to be written later -/
theorem knowD {p : Nat} {hb h' : Hs} {kvs : List (Key × V)} (hi : h.In h') (hp : p < h'.nx) (hd : IsDct h' (.ref p) kvs) : ((h.upd p (.dict kvs)).at (p + 1)).In h' := ⟨hp, fun j => by
  show AO.le (h'.σ j) (if j = p then _ else h.σ j)
  by_cases hj : j = p
  · rw [if_pos hj, hj]
    rcases hd with e | ⟨ep, e⟩
    · rw [e]; exact AO.le_refl _
    · rw [e]; rfl
  · rw [if_neg hj]; exact hi.le j⟩
theorem kx_dc {α : Type} {x : Str} {ps p' : Pos} {fs : List Expr} {ke ve i u : Expr} {scope : Scope} {pos : Pos} {cl : List (Str × Nat)} {as : List α} {g : α → V} {S : Hs} (t : α → Bool) (kf : α → Key) (vf : α → V)
    (I : PI C n F loc h S i (as.map g)) (hz : as.length ≤ sizeLine) (hnd : ((as.filter t).map kf).Nodup)
    (T : ∀ a ∈ as, ∀ L cells, PTs C n ⟨compEnv scope F.env L cells, cl⟩ [(x, g a)] h fs (t a))
    (E : ∀ a ∈ as, t a = true → ∀ L cells, Pu C n ⟨compEnv scope F.env L cells, cl⟩ [(x, g a)] h ke (kf a).v ∧ Pu C n ⟨compEnv scope F.env L cells, cl⟩ [(x, g a)] h ve (vf a))
    (H : ∀ p, h.σ p = .dead → h.nx ≤ p → KA C n F loc ((h.upd p (.dict ((as.filter t).map fun a => (kf a, vf a)))).at (p + 1)) u (.ref p) fun l2 h2 => KX C n F l2 h2 rest QF)
    (hsw : swapsWith (.DictComp ke ve [⟨.Name x ps, i, fs, 0⟩] scope pos) (some u) p'.line F.env = pure true := by rfl)
    (hclo : cloA F.cel scope.names [] = some cl := by rfl) (hx : ∀ L cells, (compEnv scope F.env L cells).kindOf x = some .local := by intros; rfl) (hc : ∀ k, celFrom k scope.names cl = cl := by intros; rfl) (hs : ∀ h, hsCells scope.names h = h := by intros; rfl)
    (hk : scope.kind = .function := by rfl) (hnm : namesOk scope.names = true := by rfl) (hfs : ∀ x, foldedSetIterable i F.env x = pure x := by intro _; rfl) (he : (assignEach [u] F.env).map (·.2) = [assign u F.env] := by rfl) : KX C n F loc h (.Assign [u] (.DictComp ke ve [⟨.Name x ps, i, fs, 0⟩] scope pos) p' :: rest) QF := fun hb hi =>
  exs_cons (ex_assign_dictcomp compOk_dict hsw (dc_core t kf vf I hz hnd hx hc hs T E hi fun p h' hd hp hlt hi' hs' => (H p (hi.dead hd) (Nat.le_trans hi.nx hp) _ (knowD (hb := hb) (hi.trans hi') hlt hs')).mono fun l h2 q => q h2 (.refl _)) hclo hk hnm hfs he)
end
end Mine
namespace Mine
section
variable {C : Cx} {n : Nat} {F : Fr} {loc : Loc} {h h' : Hs} {w : Wd} {QF : Fl → Loc → Hs → Prop} {QL : Loc → Hs → Prop} {rest : List Stmt}
theorem filter_tt {α : Type} (as : List α) : as.filter (fun _ => true) = as := by simp
/-- typed list comprehensions -/
theorem pu_lcT {α β : Type} {x : Str} {ps : Pos} {fs : List Expr} {elt i : Expr} {scope : Scope} {pos : Pos} {cl : List (Str × Nat)} {as : List α} {g : α → V} {S : Hs} (t : α → Bool) (f : α → β) (g' : β → V)
    (I : PI C n F loc h S i (as.map g)) (hz : as.length ≤ sizeLine)
    (T : ∀ a ∈ as, ∀ L cells, PTs C n ⟨compEnv scope F.env L cells, cl⟩ [(x, g a)] h fs (t a))
    (E : ∀ a ∈ as, t a = true → ∀ L cells, Pu C n ⟨compEnv scope F.env L cells, cl⟩ [(x, g a)] h elt (g' (f a)))
    (hclo : cloA F.cel scope.names [] = some cl := by rfl) (hx : ∀ L cells, (compEnv scope F.env L cells).kindOf x = some .local := by intros; rfl) (hc : ∀ k, celFrom k scope.names cl = cl := by intros; rfl) (hs : ∀ h, hsCells scope.names h = h := by intros; rfl)
    (hk : scope.kind = .function := by rfl) (hnm : namesOk scope.names = true := by rfl) (hfs : ∀ x, foldedSetIterable i F.env x = pure x := by intro _; rfl) : Pu C n F loc h (.ListComp elt [⟨.Name x ps, i, fs, 0⟩] scope pos) (.lst (((as.filter t).map f).map g')) :=
  (pu_listcomp t (fun a => g' (f a)) I hz T E hclo hx hc hs hk hnm hfs).eq (by rw [List.map_map]; rfl)
theorem pu_lcT0 {α β : Type} {x : Str} {ps : Pos} {elt i : Expr} {scope : Scope} {pos : Pos} {cl : List (Str × Nat)} {as : List α} {g : α → V} {S : Hs} (f : α → β) (g' : β → V)
    (I : PI C n F loc h S i (as.map g)) (hz : as.length ≤ sizeLine)
    (E : ∀ a ∈ as, ∀ L cells, Pu C n ⟨compEnv scope F.env L cells, cl⟩ [(x, g a)] h elt (g' (f a)))
    (hclo : cloA F.cel scope.names [] = some cl := by rfl) (hx : ∀ L cells, (compEnv scope F.env L cells).kindOf x = some .local := by intros; rfl) (hc : ∀ k, celFrom k scope.names cl = cl := by intros; rfl) (hs : ∀ h, hsCells scope.names h = h := by intros; rfl)
    (hk : scope.kind = .function := by rfl) (hnm : namesOk scope.names = true := by rfl) (hfs : ∀ x, foldedSetIterable i F.env x = pure x := by intro _; rfl) : Pu C n F loc h (.ListComp elt [⟨.Name x ps, i, [], 0⟩] scope pos) (.lst ((as.map f).map g')) :=
  (pu_lcT (fun _ => true) f g' I hz (fun _ _ _ _ => pts_nil) (fun a ha _ => E a ha) hclo hx hc hs hk hnm hfs).eq (by rw [filter_tt])
/-- a written row of ints -/
theorem pu_ints {es : List Expr} {p : Pos} {l : List Int} (A : PEs C n F loc h es (l.map V.int)) (hz : l.length ≤ sizeLine := by simp [sizeLine_eq]) : Pu C n F loc h (.List es p) (.lst (l.map V.int)) := pu_list A (by simpa using hz)
theorem p2_eq_ints {a b : V} {xs ys : List Int} (ha : IsLst h a (xs.map V.int)) (hb : IsLst h b (ys.map V.int)) : P2 C (n + 1) (compareOp .Eq) h a b (.bool (decide (xs = ys))) := by
  rw [← eqv_ints]
  exact p2_eqd (dat_lst ha (dat_ints _)) (dat_lst hb (dat_ints _)) (dok_ints _) (dok_ints _)
theorem p2_ne_ints {a b : V} {xs ys : List Int} (ha : IsLst h a (xs.map V.int)) (hb : IsLst h b (ys.map V.int)) : P2 C (n + 1) (compareOp .NotEq) h a b (.bool (!decide (xs = ys))) := by
  rw [← eqv_ints]
  exact p2_ned (dat_lst ha (dat_ints _)) (dat_lst hb (dat_ints _)) (dok_ints _) (dok_ints _)
theorem p2_nin_ints {b : V} {x : Int} {ys : List Int} (hb : IsLst h b (ys.map V.int)) : P2 C (n + 1) (compareOp .NotIn) h (.int x) b (.bool (!decide (x ∈ ys))) := by
  rw [← any_ints]
  exact p2_nind (.int x) (dat_lst hb (dat_ints _)) (dok_int x) (dok_ints _)
theorem p2_get_ints {v : V} {xs : List Int} {j : Nat} {k : Int} (hv : IsLst h v (xs.map V.int)) (hk : k = (j : Int)) (hj : j < xs.length) (hz : xs.length ≤ sizeLine) : P2 C n getItem h v (.int k) (.int (xs.getD j 0)) := by
  subst hk
  exact p2_getlN hv (by simpa using hz) (by simp [List.getElem?_eq_getElem hj, List.getD_eq_getElem?_getD])
theorem pf_lenT {α : Type} {g : α → V} {v : V} {xs : List α} (hv : IsLst h v (xs.map g)) (hz : xs.length ≤ sizeLine) : PF C n h (.blt "len") [v] [] (.int xs.length) := (pf_len hv (by simpa using hz)).eq (by simp)
theorem p2_getlI {v u : V} {xs : List V} {k : Int} (hv : IsLst h v xs) (hz : xs.length ≤ sizeLine) (h0 : 0 ≤ k) (hu : xs[k.toNat]? = some u) : P2 C n getItem h v (.int k) u := by
  have := p2_getlN (C := C) (n := n) (h := h) hv hz hu
  rw [Int.toNat_of_nonneg h0] at this; exact this
theorem p1_negi {a : Int} : P1 C n (unaryOp .USub) h (.int a) (.int (-a)) := fun hb hi Q q => ⟨fun A w Q' E x a0 R cx c => by
  cases cx with
  | int _ t => exact PyProof.Rows.neg_int (c _ _ hb (w.toks _) (q _ (.refl _)) .toks R.toks (.int _ _))⟩
theorem sizeOk {k : Nat} (h : k ≤ 10000) : k ≤ sizeLine := by rw [sizeLine_eq]; omega
theorem filterMap_range {α : Type} (ys : List α) : ∀ m, (List.range m).filterMap (fun k => ys[k]?) = ys.take m
  | 0 => by simp
  | m + 1 => by
    rw [List.range_succ, List.filterMap_append, filterMap_range ys m, List.take_add_one]
    cases h : ys[m]? <;> simp [h]
theorem fm_congr {α β : Type} {f g : α → Option β} : ∀ {l : List α}, (∀ k ∈ l, f k = g k) → l.filterMap f = l.filterMap g
  | [], _ => rfl
  | a :: l, H => by rw [List.filterMap_cons, List.filterMap_cons, H a (by simp), fm_congr fun k hk => H k (by simp [hk])]
theorem pick_rev {α : Type} (xs : List α) : pick xs none none (some (-1)) = xs.reverse := by
  unfold pick
  have e1 : (sliceBounds none none (some (-1)) xs.length) = ((xs.length : Int) - 1, -1, -1) := by rfl
  rw [e1]
  unfold sliceRange
  simp only [gt_iff_lt, show ¬ ((0 : Int) < -1) by omega, if_false]
  have e2 : (if (-1 : Int) < (xs.length : Int) - 1 then ((xs.length : Int) - 1 - (-1) - (-1) - 1) / (- -1) else 0).toNat = xs.length := by
    rw [show (- -1 : Int) = 1 from rfl, Int.ediv_one]
    split <;> omega
  rw [e2, List.filterMap_map]
  have e3 : ∀ k ∈ List.range xs.length, ((fun i => xs[i]?) ∘ fun (k : Nat) => ((xs.length : Int) - 1 + -1 * (k : Int)).toNat) k = xs.reverse[k]? := fun k hk => by
    have hk := List.mem_range.mp hk
    rw [List.getElem?_reverse hk]
    show xs[((xs.length : Int) - 1 + -1 * (k : Int)).toNat]? = _
    congr 1
    omega
  rw [fm_congr e3, filterMap_range, List.take_of_length_le (by simp)]
theorem fmod_range (a : Int) {m : Int} (hm : 0 < m) : 0 ≤ a.fmod m ∧ a.fmod m < m := ⟨Int.fmod_nonneg_of_pos a hm, Int.fmod_lt_of_pos a hm⟩
theorem KX.locs {sts : List Stmt} {l : Loc} (H : KX C n F l h sts QF) (x : LocSub l loc) : KX C n F loc h sts QF := fun hb hi => Exs.pre2 (H hb hi) x (.refl _)
end
theorem Hs.σ_eq {h : Hs} {i j : Nat} {o : AO} (e : j = i) : (h.upd i o).σ j = o := if_pos e
theorem Hs.σ_ne {h : Hs} {i j : Nat} {o : AO} (e : j ≠ i) : (h.upd i o).σ j = h.σ j := if_neg e
theorem Hs.σ_at {h : Hs} {j m : Nat} : (h.at m).σ j = h.σ j := rfl
section
variable {C : Cx} {n : Nat} {F : Fr} {loc : Loc} {h h' : Hs} {QF : Fl → Loc → Hs → Prop} {QL : Loc → Hs → Prop} {rest : List Stmt}
theorem KA.up {t : Expr} {v : V} (H : KA C n F loc h t v QL) (x : h.In h') : KA C n F loc h' t v QL := fun hb i => H hb (x.trans i)
/-- t = [..], to be written later -/
theorem kx_newL {es : List Expr} {t : Expr} {p p' : Pos} {vs : List V} (A : PEs C n F loc h es vs) (H : ∀ q, h.σ q = .dead → h.nx ≤ q → KA C n F loc ((h.upd q (.list vs)).at (q + 1)) t (.ref q) fun l2 h2 => KX C n F l2 h2 rest QF) (hz : vs.length ≤ sizeLine := by simp)
    (hs : swapsWith (.List es p) (some t) p'.line F.env = pure false := by rfl) (hw : swappedStores [t] (.List es p) F.env = pure none := by rfl) (he : (assignEach [t] F.env).map (·.2) = [assign t F.env] := by rfl) : KX C n F loc h (.Assign [t] (.List es p) p' :: rest) QF :=
  kx_asgE (ke_list A (fun q hd hq h' hi => (H q hd hq).up hi) hz) hs hw he
/-- t = f(..) where f makes a list, to be written later -/
def PNew (C : Cx) (n : Nat) (h : Hs) (f : V) (args : List V) (xs : List V) : Prop := ∀ hb, h.In hb → ∀ Q : V → Hs → Prop, (∀ q h', hb.σ q = .dead → hb.nx ≤ q → ((hb.upd q (.list xs)).at (q + 1)).In h' → Q (.ref q) h') → Cl C n hb f args [] Q
theorem Hs.In.newk {hb : Hs} {o : AO} (hi : h.In hb) : ((h.upd hb.nx o).at (hb.nx + 1)).In (hb.new o) := ⟨Nat.le_refl _, fun j => by
  show AO.le (if j = hb.nx then _ else hb.σ j) (if j = hb.nx then _ else h.σ j)
  by_cases hj : j = hb.nx
  · rw [if_pos hj, if_pos hj]; exact AO.le_refl _
  · rw [if_neg hj, if_neg hj]; exact hi.le j⟩
theorem kc_list {v : V} {xs : List V} {Q : V → Hs → Prop} (hv : IsLst h v xs) (hz : xs.length ≤ sizeLine) (q : ∀ q, h.σ q = .dead → h.nx ≤ q → ∀ h', ((h.upd q (.list xs)).at (q + 1)).In h' → Q (.ref q) h') : KC C n h (.ty "list") [v] [] Q := fun hb hi =>
  Cl.ok fun ok => cl_list_list (hi.lst hv) hz (q hb.nx (hi.dead (ok _ (Nat.le_refl _))) hi.nx _ hi.newk)
end
theorem LocSub.nil (l : Loc) : LocSub [] l := fun y u e => by cases e
theorem LocSub.cons {x : Str} {v : V} {l r : Loc} (h : l.lookup x = some v) (k : LocSub r l) : LocSub ((x, v) :: r) l := fun y u e => by
  rw [List.lookup_cons] at e
  cases hb : y == x with
  | true => rw [hb] at e; cases e; rw [eq_of_beq hb]; exact h
  | false => rw [hb] at e; exact k y u e
section
variable {C : Cx} {n : Nat} {F : Fr} {loc : Loc} {h h' : Hs} {QF : Fl → Loc → Hs → Prop} {QL : Loc → Hs → Prop} {rest : List Stmt} {Q : V → Hs → Prop}
theorem ke_lcC {α : Type} {x : Str} {ps : Pos} {fs : List Expr} {elt i : Expr} {scope : Scope} {pos : Pos} {cl : List (Str × Nat)} {as : List α} {g : α → V} {S : Hs} (t : α → Bool) (e : α → V)
    (I : PI C n F loc h S i (as.map g)) (hz : as.length ≤ sizeLine)
    (T : ∀ a ∈ as, ∀ L cells q, h.nx ≤ q → PTs C n ⟨compEnv scope F.env L cells, (x, q) :: cl⟩ [] ((h.upd q (.cell (some (g a)))).at (q + 1)) fs (t a))
    (E : ∀ a ∈ as, t a = true → ∀ L cells q, h.nx ≤ q → Pu C n ⟨compEnv scope F.env L cells, (x, q) :: cl⟩ [] ((h.upd q (.cell (some (g a)))).at (q + 1)) elt (e a))
    (q : ∀ p, h.σ p = .dead → h.nx ≤ p → ∀ h', ((h.upd p (.list ((as.filter t).map e))).at (p + 1)).In h' → Q (.ref p) h')
    (hclo : cloA F.cel scope.names [] = some cl := by rfl) (hx : ∀ L cells, (compEnv scope F.env L cells).kindOf x = some .cell := by intros; rfl) (hc : ∀ k, celFrom k scope.names cl = (x, k) :: cl := by intros; rfl) (hs : ∀ h, hsCells scope.names h = h.new (.cell none) := by intros; rfl)
    (hk : scope.kind = .function := by rfl) (hnm : namesOk scope.names = true := by rfl) (hfs : ∀ x, foldedSetIterable i F.env x = pure x := by intro _; rfl) : KE C n F loc h (.ListComp elt [⟨.Name x ps, i, fs, 0⟩] scope pos) Q := fun hb hi =>
  ev_listcomp compOk_one (lc_coreC t e I hz hx hc hs T E hi fun p h' hd hp hlt hi' hs' => q p (hi.dead hd) (Nat.le_trans hi.nx hp) _ ((hi.trans hi').know hs' hlt)) hclo hk hnm hfs
theorem ke_dcC {α : Type} {x : Str} {ps : Pos} {fs : List Expr} {ke ve i : Expr} {scope : Scope} {pos : Pos} {cl : List (Str × Nat)} {as : List α} {g : α → V} {S : Hs} (t : α → Bool) (kf : α → Key) (vf : α → V)
    (I : PI C n F loc h S i (as.map g)) (hz : as.length ≤ sizeLine) (hnd : ((as.filter t).map kf).Nodup)
    (T : ∀ a ∈ as, ∀ L cells q, h.nx ≤ q → PTs C n ⟨compEnv scope F.env L cells, (x, q) :: cl⟩ [] ((h.upd q (.cell (some (g a)))).at (q + 1)) fs (t a))
    (E : ∀ a ∈ as, t a = true → ∀ L cells q, h.nx ≤ q → Pu C n ⟨compEnv scope F.env L cells, (x, q) :: cl⟩ [] ((h.upd q (.cell (some (g a)))).at (q + 1)) ke (kf a).v ∧ Pu C n ⟨compEnv scope F.env L cells, (x, q) :: cl⟩ [] ((h.upd q (.cell (some (g a)))).at (q + 1)) ve (vf a))
    (q : ∀ p, h.σ p = .dead → h.nx ≤ p → ∀ h', ((h.upd p (.dict ((as.filter t).map fun a => (kf a, vf a)))).at (p + 1)).In h' → Q (.ref p) h')
    (hclo : cloA F.cel scope.names [] = some cl := by rfl) (hx : ∀ L cells, (compEnv scope F.env L cells).kindOf x = some .cell := by intros; rfl) (hc : ∀ k, celFrom k scope.names cl = (x, k) :: cl := by intros; rfl) (hs : ∀ h, hsCells scope.names h = h.new (.cell none) := by intros; rfl)
    (hk : scope.kind = .function := by rfl) (hnm : namesOk scope.names = true := by rfl) (hfs : ∀ x, foldedSetIterable i F.env x = pure x := by intro _; rfl) : KE C n F loc h (.DictComp ke ve [⟨.Name x ps, i, fs, 0⟩] scope pos) Q := fun hb hi =>
  ev_dictcomp compOk_dict (dc_coreC t kf vf I hz hnd hx hc hs T E hi fun p h' hd hp hlt hi' hs' => q p (hi.dead hd) (Nat.le_trans hi.nx hp) _ (knowD (hb := hb) (hi.trans hi') hlt hs')) hclo hk hnm hfs
end
section
variable {C : Cx} {n : Nat} {F : Fr} {loc : Loc} {h h' : Hs} {Q : V → Hs → Prop}
theorem pu_call0 {x : Str} {p' p : Pos} {es : List Expr} {f v : V} {vs : List V} (N : Pu C n F loc h (.Name x p') f) (K : Kp C f) (A : PEs C n F loc h es vs) (O : PF C n h f vs [] v) (hs : noStar es = true := by rfl) : Pu C n F loc h (.Call (.Name x p') es [] p) v := pu_call N K A pks_nil (ns := []) O hs rfl
theorem ke_call0 {x : Str} {p' p : Pos} {es : List Expr} {f : V} {vs : List V} (N : Pu C n F loc h (.Name x p') f) (K : Kp C f) (A : PEs C n F loc h es vs) (O : KC C n h f vs [] Q) (hs : noStar es = true := by rfl) : KE C n F loc h (.Call (.Name x p') es [] p) Q := ke_call N K A pks_nil (ns := []) O hs rfl
theorem ke_mcall0 {o : Expr} {name : Str} {p' p : Pos} {es : List Expr} {a f : V} {first vs : List V} (N : Pu C n F loc h o a) (M : PM C n h a name f first) (A : PEs C n F loc h es vs) (O : KC C n h f (first ++ vs) [] Q)
    (hs : noStar es = true := by rfl) (hb : attributeBase o name F.env (eval o F.env) = eval o F.env := by rfl)
    (hf : methodCallForm (es.length + 0) (backTo p (starEach es F.env)) (backToKw p (keywordEach [] F.env)) = true := by rfl) (hl : (p'.endLine == p.line) = true := by rfl) : KE C n F loc h (.Call (.Attribute o name p') es [] p) Q := ke_mcall N M A pks_nil (ns := []) O hs rfl hb hf hl
end
abbrev vI (l : List Int) : V := .lst (l.map V.int)
/-- knowledge restated -/
theorem In.of {h h' : Hs} (h1 : h.nx ≤ h'.nx) (h2 : ∀ j, AO.le (h'.σ j) (h.σ j)) : h.In h' := ⟨h1, h2⟩
def Hs.rm (h : Hs) (l : List Nat) : Hs := ⟨fun j => if j ∈ l then .dead else h.σ j, h.nx⟩
def intsV (l : List Nat) : List V := l.map fun (j : Nat) => V.int (j : Int)
def b2jOf {α : Type} (step : α → Key → Bool × α) (a : α) (ks : List Key) : List (Key × V) := (if 200 ≤ ks.length then ((firsts ks).filter fun k => k ∉ (junkRun step (firsts ks) a).1).filter fun k => !decide (((ks.length / 100 + 1 : Nat) : Int) < ((places ks k).length : Int)) else (firsts ks).filter fun k => k ∉ (junkRun step (firsts ks) a).1).map fun k => (k, .lst (intsV (places ks k)))
def popOf {α : Type} (step : α → Key → Bool × α) (a : α) (ks : List Key) : List Key := if 200 ≤ ks.length then ((firsts ks).filter fun k => k ∉ (junkRun step (firsts ks) a).1).filter fun k => decide (((ks.length / 100 + 1 : Nat) : Int) < ((places ks k).length : Int)) else []
/-- the state behind set_seq2 -/
def SM {α : Type} (h : Hs) (Pl : List Nat) (step : α → Key → Bool × α) (a : α) (ks : List Key) (i d s p : Nat) (fs : List (Str × V)) : Hs := (((((h.rm Pl).upd i (.inst fs)).upd d (.dict (b2jOf step a ks))).upd s (.set (junkRun step (firsts ks) a).1)).upd p (.set (popOf step a ks))).at (p + 1)
theorem Hs.σ_rm2 {h : Hs} {j a b : Nat} (h1 : j ≠ a) (h2 : j ≠ b) : (h.rm [a, b]).σ j = h.σ j := if_neg (by simp [h1, h2])
theorem Hs.In.atl {a b : Hs} {m : Nat} (x : (a.at 0).In b) (hm : m ≤ b.nx) : (a.at m).In b := ⟨hm, x.le⟩
theorem Hs.In.peel0 {a b : Hs} {p : Nat} {o : AO} (x : (a.at 0).In b) (hp : b.σ p = o) : ((a.upd p o).at 0).In b := ⟨Nat.zero_le _, fun j => by
  show AO.le (b.σ j) (if j = p then o else a.σ j)
  by_cases hj : j = p
  · rw [if_pos hj, hj, hp]; exact AO.le_refl _
  · rw [if_neg hj]; exact x.le j⟩
theorem Hs.In.none0 {b : Hs} : (Hs.none.at 0).In b := ⟨Nat.zero_le _, fun _ => AO.le_any _⟩
theorem Hs.In.atat {a b : Hs} {m : Nat} (x : (a.at 0).In b) : ((a.at m).at 0).In b := x
end Mine
namespace Mine
/-- texts as rows of numbers -/
def S (l : List Nat) : Str := ⟨l.toArray⟩
abbrev sV (l : List Nat) : V := .str (S l)
section
variable {C : Cx} {n : Nat} {F : Fr} {loc : Loc} {h h' : Hs} {w : Wd} {Q : V → Hs → Prop}
def isIn (y x : List Nat) : Bool := !(Builtin.Str.occurrences (S x) (S y) 0 x.length 1).isEmpty
end
end Mine
namespace Mine
section
variable {C : Cx} {n : Nat} {F : Fr} {loc : Loc} {h h' : Hs} {w : Wd} {Q : V → Hs → Prop} {tg : Expr → Prop} {K : Hs → (Hs → Prop) → List V → Prop}
/-- a row of keys: a list of them, or a text of signs -/
def IsSq (h : Hs) (v : V) (ks : List Key) : Prop := match v with
  | .str x => ∃ l, x = S l ∧ ks = l.map fun c => Key.s (S [c])
  | v => IsLst h v (ks.map Key.v)
end
end Mine
namespace Mine
noncomputable def KF (P : Params) : W.Frag := [(1, k1 P), (3, k3 P), (4, k4 P), (20, k20 P), (21, k21 P), (34, k34 P), (35, k35 P), (36, k36 P), (42, k42 P), (43, k43 P), (49, k49 P), (50, k50 P), (56, k56 P), (57, k57 P), (59, k59 P), (60, k60 P), (81, k81 P), (82, k82 P), (88, k88 P), (89, k89 P), (91, k91 P), (99, k99 P), (100, k100 P), (106, k106 P), (107, k107 P), (113, k113 P), (114, k114 P), (120, k120 P), (121, k121 P), (123, k123 P), (124, k124 P), (126, k126 P), (127, k127 P), (129, k129 P), (130, k130 P), (134, k134 P), (135, k135 P), (144, k144 P), (145, k145 P), (153, k153 P), (159, k159 P), (160, k160 P), (166, k166 P), (167, k167 P), (173, k173 P), (174, k174 P), (180, k180 P), (181, k181 P), (187, k187 P), (188, k188 P), (189, k189 P), (195, k195 P), (196, k196 P), (202, k202 P), (203, k203 P), (209, k209 P), (210, k210 P), (211, k211 P), (217, k217 P), (218, k218 P), (224, k224 P), (225, k225 P), (231, k231 P), (232, k232 P), (238, k238 P), (239, k239 P), (241, k241 P), (242, k242 P), (250, k250 P), (251, k251 P), (257, k257 P), (258, k258 P), (262, k262 P), (263, k263 P)]
def gl0 : List (Str × Value) := [(Str.ofString "_wall", (.ref 21)), (Str.ofString "_tuplegetter", (.ref 60)), (Str.ofString "Match", (.ref 135)), (Str.ofString "_calculate_ratio", (.ref 145)), (Str.ofString "SequenceMatcher", (.ref 242)), (Str.ofString "_law_asked", (.ref 251)), (Str.ofString "_law_noted", (.ref 258)), (Str.ofString "law", (.ref 263))]
def bl0 : List (Str × Value) := [(Str.ofString "len", .builtin "len"), (Str.ofString "min", .builtin "min"), (Str.ofString "max", .builtin "max"), (Str.ofString "sum", .builtin "sum"), (Str.ofString "abs", .builtin "abs"), (Str.ofString "isinstance", .builtin "isinstance"), (Str.ofString "range", .type "range"), (Str.ofString "list", .type "list"), (Str.ofString "set", .type "set"), (Str.ofString "tuple", .type "tuple"), (Str.ofString "enumerate", .type "enumerate"), (Str.ofString "map", .type "map"), (Str.ofString "float", .type "float"), (Str.ofString "int", .type "int"), (Str.ofString "str", .type "str"), (Str.ofString "dict", .type "dict"), (Str.ofString "TypeError", .type "TypeError")]
/-- what is known of the top -/
structure Top (C : Cx) (mg mb : Str → Option Value) : Prop where
  T : Tp C mg mb
  S : SysIn C
  I : InC C (KF C.w.params)
  B : BmOk C mg
  gl : ∀ x v, gl0.lookup x = some v → mg x = some v
  bl : ∀ x v, bl0.lookup x = some v → mg x = none ∧ mb x = some v
section
variable {C : Cx} {n : Nat} {F : Fr} {loc : Loc} {h : Hs} {mg mb : Str → Option Value}
theorem Top.blt (X : Top C mg mb) {x : Str} {p : Pos} {v : V} {id : String} (hb : bl0.lookup x = some (.builtin id)) (hk : F.env.kindOf x = some .globalImplicit) (hd : (x == ("__debug__" : Str)) = false := by decide) (hv : v = .blt id := by rfl) : Pu C n F loc h (.Name x p) v := hv ▸ pu_builtin X.T (X.bl _ _ hb).1 (X.bl _ _ hb).2 rfl hk hd
theorem Top.ty (X : Top C mg mb) {x : Str} {p : Pos} {v : V} {id : String} (hb : bl0.lookup x = some (.type id)) (hk : F.env.kindOf x = some .globalImplicit) (hd : (x == ("__debug__" : Str)) = false := by decide) (hv : v = .ty id := by rfl) : Pu C n F loc h (.Name x p) v := hv ▸ pu_builtin X.T (X.bl _ _ hb).1 (X.bl _ _ hb).2 rfl hk hd
theorem Top.top (X : Top C mg mb) {x : Str} {p : Pos} {v : V} {a : Addr} (hb : gl0.lookup x = some (.ref a)) (hk : F.env.kindOf x = some .globalImplicit) (hd : (x == ("__debug__" : Str)) = false := by decide) (hv : v = .top a := by rfl) : Pu C n F loc h (.Name x p) v := hv ▸ pu_global X.T (X.gl _ _ hb) rfl hk hd
end
end Mine
namespace Mine
local macro_rules | `(tactic| walk_at "hs") => `(tactic| (first | (show Hs.σ _ _ = _) | skip); first | rfl | assumption | (simp (disch := omega) only [Hs.at, Hs.upd, Hs.new, if_pos, if_neg] <;> first | done | rfl | assumption))
local macro_rules | `(tactic| walk_at "le") => `(tactic| (refine Hs.Le.of (by first | rfl | (simp only [Hs.at, Hs.upd, Hs.new] <;> omega)) (fun jj => ?_); (try simp only [Hs.at, Hs.upd, Hs.new]); (repeat' (first | refine AO.le_ite (fun _ => ?_) (fun _ => ?_) | refine AO.le_iteR (fun _ => ?_) (fun _ => ?_))) <;> first | exact AO.le_refl _ | (exfalso; omega) | exact AO.le_ok (by assumption) (by omega)))
section
variable {C : Cx} {n : Nat} {h : Hs} {Q : V → Hs → Prop} {mg mb : Str → Option Value}
theorem ok_asked (I : InC C (KF C.w.params)) (T : Tp C mg mb) : FnOk C 251 (fnOf (k251 C.w.params)) (bodyOf (fnOf (k251 C.w.params))) :=
  fnOk_of (c := 250) (oc := k250 C.w.params) I T (by rfl) (by rfl)
theorem asked (I : InC C (KF C.w.params)) (T : Tp C mg mb) {i : Nat} {x : Int} {ps : List Int} (hi : h.σ i = .list (ps.map V.int)) (hz : ps.length ≤ 1000) (h0 : ∀ y ∈ ps, y ≠ 0)
    (q1 : ps.any (fun y => x.fmod y == 0) = true → ∀ m, h.nx ≤ m → Q (.bool true) (h.at m))
    (q2 : ps.any (fun y => x.fmod y == 0) = false → ∀ m, h.nx ≤ m → Q (.bool false) ((h.upd i (.list ((ps ++ [x]).map V.int))).at m)) : Cd C (n + 3) h 251 [.ref i, .int x] [] Q := by
  refine Cd.ok fun hok => ?_
  have hin : i < h.nx := hok.lt (by rw [hi]; simp)
  refine Cd.weak (cd_fn (ok_asked I T) binds2 (loc := [(Str.ofString "passed", .ref i)]) (h1 := (h.new (.cell none)).upd h.nx (.cell (some (.int x)))) ?_ fun L cells => ?_)
  · exact bind_local (by rfl) (bind_cell (i := h.nx) (u := none) (by rfl) (by rfl) (show (h.new (.cell none)).σ h.nx = .cell none by walk_at "hs") (by rfl))
  refine exs_cons (ex_if (evB_cmp ?_))
  refine ev_listcomp compOk_one (ev_local (by rfl) (by rfl) (its_list (xs := ps.map V.int) (by walk_at "hs") fun L cells => ?_))
  refine lp_gather (hb := (h.new (.cell none)).upd h.nx (.cell (some (.int x)))) (p := h.nx + 1) (m0 := h.nx + 1 + 1) (as := ps) (g := V.int) (fun y => x.fmod y == 0) V.int (by rfl) (fun acc m hm => by show Hs.σ _ _ = _; walk_at "hs") (by simp only [sizeLine_eq]; omega) ?_ ?_
  · intro y hy acc m hm
    refine evB_cmp (ev_bin (ev_cell (i := h.nx) (v := .int x) (by rfl) (by rfl) (by walk_at "hs") (ev_local (by rfl) (by rfl) (mod_int (h0 y hy) (ev_int (eq_int (tru_bool ?_)))))))
    cases hb : (x.fmod y == 0) with
    | true => exact ⟨rfl, ev_local (by rfl) (by rfl) ⟨m, Nat.le_refl _, .refl _, rfl⟩⟩
    | false => exact ⟨rfl, m, Nat.le_refl _, .refl _⟩
  · intro loc m hm
    refine ev_list (evs_nil ⟨Nat.zero_le _, ?_⟩)
    refine dat_ne (.ref (xs := (ps.filter fun y => x.fmod y == 0).map V.int) (by walk_at "hs") (dat_ints _)) (.ref (xs := []) (by walk_at "hs") .nil) (dok_ints _) (dok_ints []) (tru_bool ?_)
    rw [show PyData.list [] = PyData.list (([] : List Int).map PyData.int) from rfl, eqv_ints]
    cases hany : ps.any (fun y => x.fmod y == 0) with
    | true =>
      have : ¬ (ps.filter fun y => x.fmod y == 0) = [] := by
        intro z
        rw [List.filter_eq_nil_iff] at z
        obtain ⟨y, hy, h1⟩ := List.any_eq_true.mp hany
        exact z y hy h1
      simp only [this, decide_false, Bool.not_false, if_true]
      refine exs_cons (ex_return (ev_bool ⟨_, ?_, q1 hany (m + 1) (by omega)⟩))
      walk_at "le"
    | false =>
      have : (ps.filter fun y => x.fmod y == 0) = [] := by
        rw [List.filter_eq_nil_iff]
        intro y hy h1
        exact List.any_eq_false.mp hany y hy h1
      simp only [this, decide_true, Bool.not_true, Bool.false_eq_true, if_false]
      refine exs_nil (exs_cons (ex_expr (ev_mcall (ev_local (by rfl) (by rfl) (mth_append (xs := ps.map V.int) (by show Hs.σ _ _ = _; walk_at "hs") ⟨kp_blt, evs_cons (ev_cell (i := h.nx) (v := .int x) (by rfl) (by rfl) (by walk_at "hs") (evs_nil (evk_nil (cl_append (xs := ps.map V.int) ?_ (by simp only [List.length_map, sizeLine_eq]; omega) ?_))))⟩)))))
      · walk_at "hs"
      refine exs_cons (ex_return (ev_bool ⟨_, ?_, q2 hany (m + 1) (by omega)⟩))
      rw [List.map_append]
      walk_at "le"
end
end Mine
namespace Mine
local macro_rules | `(tactic| walk_at "hs") => `(tactic| (first | (show Hs.σ _ _ = _) | skip); first | rfl | assumption | (simp (disch := omega) only [Hs.at, Hs.upd, Hs.new, if_pos, if_neg] <;> first | done | rfl | assumption))
section
variable {C : Cx} {n : Nat} {h : Hs} {Q : V → Hs → Prop} {mg mb : Str → Option Value}
theorem ok_chain (I : InC C (KF C.w.params)) (T : Tp C mg mb) : FnOk C 188 (fnOf (k188 C.w.params)) (bodyOf (fnOf (k188 C.w.params))) :=
  fnOk_of (c := 187) (oc := k187 C.w.params) I T (by rfl) (by rfl)
/-- the names of the top that the code asks for -/
structure Nm (mg mb : Str → Option Value) : Prop where
  g : ∀ x ∈ [Str.ofString "enumerate", Str.ofString "set", Str.ofString "len", Str.ofString "list", Str.ofString "range"], mg x = none
  enumerate : mb (Str.ofString "enumerate") = some (.type "enumerate")
  set : mb (Str.ofString "set") = some (.type "set")
  len : mb (Str.ofString "len") = some (.builtin "len")
  list : mb (Str.ofString "list") = some (.type "list")
  range : mb (Str.ofString "range") = some (.type "range")
theorem IsLst.same {P : Nat → Prop} {h' : Hs} {v : V} {xs : List V} (hv : IsLst h v xs) (x : Same P h h') (hok : h.Ok) (hP : ∀ j, v = .ref j → ¬ P j) : IsLst h' v xs := by
  cases v <;> first | exact hv.elim | exact hv | skip
  rename_i j
  have hv : h.σ j = .list xs := hv
  exact (x.σ j (hok.lt (by rw [hv]; simp)) (hP j rfl)).trans hv
/-- what holds ahead of the first loop's turn t -/
structure I1 (h1 : Hs) (d : Nat) (ks : List Key) (t : Nat) (q : Key → Nat) (h' : Hs) : Prop where
  same : Same (fun j => j = d) h1 h'
  lo : ∀ k ∈ firsts (ks.take t), h1.nx ≤ q k
  hi : ∀ k ∈ firsts (ks.take t), q k < h'.nx
  inj : ∀ k ∈ firsts (ks.take t), ∀ k' ∈ firsts (ks.take t), q k = q k' → k = k'
  dict : h'.σ d = .dict ((firsts (ks.take t)).map fun k => (k, .ref (q k)))
  list : ∀ k ∈ firsts (ks.take t), h'.σ (q k) = .list (intsV (places (ks.take t) k))
theorem I1.old {h1 h' : Hs} {d t : Nat} {ks : List Key} {k : Key} {q : Key → Nat} (i1 : I1 h1 d ks t q h') (hk : ks[t]? = some k) (hkm : k ∈ firsts (ks.take t)) (hd1 : d < h1.nx) : I1 h1 d ks (t + 1) q ((h'.new (.list [])).upd (q k) (.list (intsV (places (ks.take t) k) ++ [.int (t : Int)]))) := by
  have hkt := take_snoc hk
  have hlen : (ks.take t).length = t := by rw [List.length_take]; have := (List.getElem?_eq_some_iff.mp hk).1; omega
  have hf : firsts (ks.take (t + 1)) = firsts (ks.take t) := by rw [hkt, firsts_snoc]; unfold sadd; rw [if_pos hkm]
  have hlo := i1.lo k hkm
  have hnx := i1.same.nx
  refine ⟨i1.same.new.upd (.inr hlo), by rw [hf]; exact i1.lo, fun x hx => ?_, by rw [hf]; exact i1.inj, ?_, fun x hx => ?_⟩
  · rw [hf] at hx; exact Nat.lt_succ_of_lt (i1.hi x hx)
  · rw [hf]
    show (if d = q k then _ else if d = h'.nx then _ else h'.σ d) = _
    rw [if_neg (by omega), if_neg (by omega)]; exact i1.dict
  · rw [hf] at hx
    show (if q x = q k then _ else if q x = h'.nx then _ else h'.σ (q x)) = _
    have hxl := i1.hi x hx
    by_cases hxk : x = k
    · subst hxk
      rw [if_pos rfl, hkt, places_snoc, if_pos rfl, hlen]; simp [intsV]
    · rw [if_neg (fun z => hxk (i1.inj x hx k hkm z)), if_neg (by omega), i1.list x hx, hkt, places_snoc, if_neg (Ne.symm hxk), List.append_nil]
theorem I1.add {h1 h' : Hs} {d t : Nat} {ks : List Key} {k : Key} {q : Key → Nat} (i1 : I1 h1 d ks t q h') (hk : ks[t]? = some k) (hkm : k ∉ firsts (ks.take t)) (hd1 : d < h1.nx) :
    I1 h1 d ks (t + 1) (fun x => if x = k then h'.nx else q x) (((h'.new (.list [])).upd d (.dict ((firsts (ks.take t)).map (fun k => (k, V.ref (q k))) ++ [(k, .ref h'.nx)]))).upd h'.nx (.list ([] ++ [.int (t : Int)]))) := by
  have hkt := take_snoc hk
  have hlen : (ks.take t).length = t := by rw [List.length_take]; have := (List.getElem?_eq_some_iff.mp hk).1; omega
  have hf : firsts (ks.take (t + 1)) = firsts (ks.take t) ++ [k] := by rw [hkt, firsts_snoc]; unfold sadd; rw [if_neg hkm]
  have hnx := i1.same.nx
  have hne : ∀ x ∈ firsts (ks.take t), x ≠ k := fun x hx z => hkm (z ▸ hx)
  have hp0 : places (ks.take t) k = [] := by
    unfold places
    rw [List.filter_eq_nil_iff]
    intro j hj z
    exact hkm (mem_firsts.mpr (List.mem_of_getElem? (of_decide_eq_true z)))
  refine ⟨(i1.same.new.upd (.inl rfl)).upd (.inr hnx), fun x hx => ?_, fun x hx => ?_, fun x hx y hy e => ?_, ?_, fun x hx => ?_⟩
  · by_cases hxk : x = k
    · rw [if_pos hxk]; exact hnx
    · rw [if_neg hxk]; rw [hf] at hx; exact i1.lo x (by simpa [hxk] using hx)
  · by_cases hxk : x = k
    · rw [if_pos hxk]; exact Nat.lt_succ_self _
    · rw [if_neg hxk]; rw [hf] at hx; exact Nat.lt_succ_of_lt (i1.hi x (by simpa [hxk] using hx))
  · rw [hf] at hx hy
    by_cases hxk : x = k <;> by_cases hyk : y = k
    · rw [hxk, hyk]
    · rw [if_pos hxk, if_neg hyk] at e
      have := i1.hi y (by simpa [hyk] using hy); omega
    · rw [if_neg hxk, if_pos hyk] at e
      have := i1.hi x (by simpa [hxk] using hx); omega
    · rw [if_neg hxk, if_neg hyk] at e
      exact i1.inj x (by simpa [hxk] using hx) y (by simpa [hyk] using hy) e
  · show (if d = h'.nx then _ else if d = d then _ else _) = _
    rw [if_neg (by omega), if_pos rfl, hf, List.map_append]
    congr 1
    congr 1
    · refine List.map_congr_left fun x hx => ?_
      rw [if_neg (hne x hx)]
    · simp
  · rw [hf] at hx
    show (if (if x = k then h'.nx else q x) = h'.nx then _ else if (if x = k then h'.nx else q x) = d then _ else if (if x = k then h'.nx else q x) = h'.nx then _ else h'.σ _) = _
    by_cases hxk : x = k
    · subst hxk
      rw [if_pos (if_pos rfl), hkt, places_snoc, if_pos rfl, hlen, hp0]; simp [intsV]
    · have hx' : x ∈ firsts (ks.take t) := by simpa [hxk] using hx
      have h1' := i1.hi x hx'
      have h2' := i1.lo x hx'
      simp only [if_neg hxk]
      rw [if_neg (by omega), if_neg (by omega), if_neg (by omega), i1.list x hx', hkt, places_snoc, if_neg (Ne.symm hxk), List.append_nil]
end
end Mine
namespace Mine
section
variable {C : Cx} {n : Nat} {h : Hs} {Q : V → Hs → Prop} {mg mb : Str → Option Value}
/-- the end of __chain_b: the popular keys -/
theorem chain_tail (S : SysIn C) (I : InC C (KF C.w.params)) (T : Tp C mg mb) (N : Nm mg mb) {L : Addr} {cells : List (Str × Addr)} {cel : List (Str × Nat)} {i d s : Nat} {fs : List (Str × V)} {bV jV : V} {bs : List V} {l : List Key} {xs : Key → List V}
    (hi : h.σ i = .inst fs) (hfs : fs.length < 30) (hd : h.σ d = .dict (l.map fun k => (k, .lst (xs k)))) (hbl : IsLst h bV bs) (hbi : ∀ j, bV = .ref j → j ≠ i) (hbz : bs.length ≤ 10000) (haj : fs.lookup (Str.ofString "autojunk") = some (.bool true)) (hnd : l.Nodup) (hlz : l.length ≤ 4000) (hxz : ∀ k ∈ l, (xs k).length ≤ sizeLine)
    (q : ∀ h', Same (fun j => j = i ∨ j = d) h h' → h'.σ i = .inst (upd (Str.ofString "bpopular") (.ref h.nx) fs) →
      h'.σ h.nx = .set (if 200 ≤ bs.length then l.filter fun k => decide (((bs.length / 100 + 1 : Nat) : Int) < ((xs k).length : Int)) else []) →
      h'.σ d = .dict ((if 200 ≤ bs.length then l.filter fun k => !decide (((bs.length / 100 + 1 : Nat) : Int) < ((xs k).length : Int)) else l).map fun k => (k, .lst (xs k))) → Q .none h') :
    Exs C n ⟨envFn 188 (fnOf (k188 C.w.params)) L cells, cel⟩ [(Str.ofString "self", .obj i 242), (Str.ofString "b", bV), (Str.ofString "b2j", .ref d), (Str.ofString "junk", .ref s), (Str.ofString "isjunk", jV)] h ((bodyOf (fnOf (k188 C.w.params))).drop 6) (RetQ Q) := by
  refine Exs.ok fun hok => ?_
  have hin : i < h.nx := hok.lt (by rw [hi]; simp)
  have hdn : d < h.nx := hok.lt (by rw [hd]; simp)
  have hid : i ≠ d := fun z => by rw [z, hd] at hi; cases hi
  refine exs_cons (ex_assign2 (ev_call (ev_builtin T (by rfl) (N.g _ (by simp)) N.set (v := .ty "set") rfl ⟨kp_ty, evs_nil (evk_nil (cl_set0 ?_))⟩)))
  refine as_attr (ev_local (by rfl) (by rfl) (set_field I (fs := fs) ?_ (by rfl) (by rfl) (by rfl) (by rfl) (as_local (by rfl) ?_) (by omega)))
  · show (if i = h.nx then _ else h.σ i) = _
    rw [if_neg (by omega), hi]
  refine exs_cons (ex_assign (ev_call (ev_builtin T (by rfl) (N.g _ (by simp)) N.len (v := .blt "len") rfl ⟨kp_blt, evs_cons (ev_local (by rfl) (by rfl) (evs_nil (evk_nil (len_list (xs := bs) ?_ ?_ ?_))))⟩)))
  · have sm : Same (fun j => j = i) h ((h.new (.set [])).upd i (.inst (upd (Str.ofString "bpopular") (.ref h.nx) fs))) := ((Same.refl _ h).new).upd (.inl rfl)
    exact hbl.same sm hok hbi
  · simp only [sizeLine_eq]; omega
  refine as_local (by rfl) ?_
  have hi2 : ((h.new (.set [])).upd i (.inst (upd (Str.ofString "bpopular") (.ref h.nx) fs))).σ i = .inst (upd (Str.ofString "bpopular") (.ref h.nx) fs) := if_pos rfl
  have hs2 : ((h.new (.set [])).upd i (.inst (upd (Str.ofString "bpopular") (.ref h.nx) fs))).σ h.nx = .set [] := by
    show (if h.nx = i then _ else if h.nx = h.nx then _ else _) = _
    rw [if_neg (by omega), if_pos rfl]
  have hd2 : ((h.new (.set [])).upd i (.inst (upd (Str.ofString "bpopular") (.ref h.nx) fs))).σ d = .dict (l.map fun k => (k, .lst (xs k))) := by
    show (if d = i then _ else if d = h.nx then _ else h.σ d) = _
    rw [if_neg (Ne.symm hid), if_neg (by omega), hd]
  have sm2 : Same (fun j => j = i ∨ j = d) h ((h.new (.set [])).upd i (.inst (upd (Str.ofString "bpopular") (.ref h.nx) fs))) := ((Same.refl _ h).new).upd (.inl (.inl rfl))
  have ha2 : (upd (Str.ofString "bpopular") (.ref h.nx) fs).lookup (Str.ofString "autojunk") = some (.bool true) := by
    rw [lookup_upd, if_neg (by decide)]; exact haj
  generalize hh2 : (h.new (.set [])).upd i (.inst (upd (Str.ofString "bpopular") (.ref h.nx) fs)) = h2 at hi2 hs2 hd2 sm2 ⊢
  refine exs_cons (ex_if (evB_and (evB_value (ev_attr (ev_local (by rfl) (by rfl) (get_field (attr := none) I hi2 ha2 (by simp) (by rfl) (by rfl) (by rfl) (by rfl) (tru_bool ?_)))))))
  refine evB_and (evB_cmp (ev_local (by rfl) (by rfl) (ev_int (ge_int (tru_bool ?_)))))
  cases h200 : decide ((200 : Int) ≤ (bs.length : Int)) with
  | false =>
    refine exs_nil (exs_nil ?_)
    have : ¬ 200 ≤ bs.length := by have := of_decide_eq_false h200; omega
    rw [if_neg this, if_neg this] at q
    exact q h2 sm2 hi2 hs2 hd2
  | true =>
    refine evB_and_nil ?_
    have hge : 200 ≤ bs.length := by have := of_decide_eq_true h200; omega
    rw [if_pos hge, if_pos hge] at q
    have hdv : (bs.length : Int).fdiv 100 + 1 = ((bs.length / 100 + 1 : Nat) : Int) := by
      rw [Int.fdiv_eq_ediv_of_nonneg _ (by omega)]; omega
    refine exs_cons (ex_assign (ev_bin (ev_bin (ev_local (by rfl) (by rfl) (ev_int (div_int (by omega) ?_ (ev_int (add_int (as_local (by rfl) ?_)))))))))
    · exact PyProof.noPylong_small (by omega)
    rw [hdv]
    refine exs_cons (pop_loop (l := l) (xs := xs) (s := h.nx) (d := d) (nt := ((bs.length / 100 + 1 : Nat) : Int)) S T (N.g _ (by simp)) N.len (by rfl) (by rfl) (by rfl) (by rfl) (by rfl) (by rfl) (by rfl) (by rfl) (by rfl) (by rfl) (by rfl) (by decide) hs2 hd2 hnd hlz hxz (q := ?_))
    have hds : d ≠ h.nx := by omega
    have hd3 : (h2.upd h.nx (.set (l.filter fun k => decide (((bs.length / 100 + 1 : Nat) : Int) < ((xs k).length : Int))))).σ d = .dict (l.map fun k => (k, .lst (xs k))) := by
      show (if d = h.nx then _ else h2.σ d) = _
      rw [if_neg hds, hd2]
    refine exs_cons (del_loop (s := h.nx) (d := d) (js := l.filter fun k => decide (((bs.length / 100 + 1 : Nat) : Int) < ((xs k).length : Int))) (l := l) (f := fun k => .lst (xs k)) (by rfl) (by rfl) (by rfl) (by rfl) (by rfl) (by rfl) (if_pos rfl) hd3 (fun k hk => (List.mem_filter.mp hk).1) (List.Pairwise.filter _ hnd) (by simp only [sizeLine_eq]; omega) (q := ?_))
    refine exs_nil (exs_nil (q _ ?_ ?_ ?_ ?_))
    · exact (sm2.upd (.inr (Nat.le_refl _))).upd (.inl (.inr rfl))
    · show (if i = d then _ else if i = h.nx then _ else h2.σ i) = _
      rw [if_neg hid, if_neg (by omega), hi2]
    · show (if h.nx = d then _ else if h.nx = h.nx then _ else _) = _
      rw [if_neg (Ne.symm hds), if_pos rfl]
    · show (if d = d then _ else _) = _
      rw [if_pos rfl]
      congr 2
      refine List.filter_congr fun k hk => ?_
      have : (k ∈ l.filter fun k => decide (((bs.length / 100 + 1 : Nat) : Int) < ((xs k).length : Int))) ↔ decide (((bs.length / 100 + 1 : Nat) : Int) < ((xs k).length : Int)) = true := by rw [List.mem_filter]; exact ⟨fun z => z.2, fun z => ⟨hk, z⟩⟩
      cases z : decide (((bs.length / 100 + 1 : Nat) : Int) < ((xs k).length : Int)) with
      | true => exact decide_eq_false fun nz => nz (this.mpr z)
      | false => exact decide_eq_true fun nz => by have := this.mp nz; rw [z] at this; cases this
end
end Mine
namespace Mine
local macro_rules | `(tactic| walk_at "hs") => `(tactic| (first | (show Hs.σ _ _ = _) | skip); first | rfl | assumption | (simp (disch := omega) only [Hs.at, Hs.upd, Hs.new, if_pos, if_neg] <;> first | done | rfl | assumption))
section
variable {C : Cx} {n : Nat} {h : Hs} {Q : V → Hs → Prop} {mg mb : Str → Option Value}
theorem chain (S : SysIn C) (I : InC C (KF C.w.params)) (T : Tp C mg mb) (N : Nm mg mb) {i : Nat} {fs : List (Str × V)} {ks : List Key} {bV jV : V} (hi : h.σ i = .inst fs) (hfs : fs.length < 20) (hb : fs.lookup (Str.ofString "b") = some bV) (hbl : IsLst h bV (ks.map Key.v)) (hkl : ks.length ≤ 10000) (hbn : ∀ id, bV ≠ .blt id) (hj : fs.lookup (Str.ofString "isjunk") = some jV) (hjn : ∀ id, jV ≠ .blt id) (haj : fs.lookup (Str.ofString "autojunk") = some (.bool true)) (hbi : bV ≠ .ref i) (cl : Addr) (hcl : cl = 242) {α : Type} {Mem : α → Hs → Prop} {P : Nat → Prop} {step : α → Key → Bool × α} {kOk : Key → Prop} {a : α} (J : Flt C (n + 2) jV Mem P step kOk) (hmem : Mem a h) (hPl : ∀ j, P j → j < h.nx) (hPi : ¬ P i) (hPb : ∀ j, bV = .ref j → ¬ P j) (hkk : ∀ k ∈ ks, kOk k) (hk4 : (firsts ks).length ≤ 4000)
    (qq : ∀ (h' : Hs) (s p : Nat), h.nx < s → s < p → Same (fun j => j = i ∨ P j) h h' → h'.σ i = .inst (upd (Str.ofString "bpopular") (.ref p) (upd (Str.ofString "bjunk") (.ref s) (upd (Str.ofString "b2j") (.ref h.nx) fs))) →
      h'.σ s = .set (junkRun step (firsts ks) a).1 → Mem (junkRun step (firsts ks) a).2 h' →
      h'.σ p = .set (if 200 ≤ ks.length then ((firsts ks).filter fun k => k ∉ (junkRun step (firsts ks) a).1).filter fun k => decide (((ks.length / 100 + 1 : Nat) : Int) < ((places ks k).length : Int)) else []) →
      h'.σ h.nx = .dict ((if 200 ≤ ks.length then ((firsts ks).filter fun k => k ∉ (junkRun step (firsts ks) a).1).filter fun k => !decide (((ks.length / 100 + 1 : Nat) : Int) < ((places ks k).length : Int)) else (firsts ks).filter fun k => k ∉ (junkRun step (firsts ks) a).1).map fun k => (k, .lst (intsV (places ks k)))) → Q .none h') : Cd C (n + 3) h 188 [.obj i cl] [] Q := by
  subst hcl
  refine Cd.ok fun hok => ?_
  have hin : i < h.nx := hok.lt (by rw [hi]; simp)
  refine cd_fn (ok_chain I T) binds1 (loc := [(Str.ofString "self", .obj i 242)]) (h1 := h) (bind_local (by rfl) (by rfl)) fun L cells => ?_
  refine exs_cons (ex_assign (ev_attr (ev_local (by rfl) (by rfl) (get_field (attr := none) I hi hb hbn (by rfl) (by rfl) (by rfl) (by rfl) (as_local (by rfl) ?_)))))
  refine exs_cons (ex_assign2 (ev_dict0 (as_attr (ev_local (by rfl) (by rfl) (set_field I (fs := fs) ?_ (by rfl) (by rfl) (by rfl) (by rfl) (as_local (by rfl) ?_) (by omega))))))
  · walk_at "hs"
  -- the first loop
  have hbP : ∀ j, bV = .ref j → ¬ (j = i ∨ j = h.nx) := fun j e z => by
    rcases z with z | z
    · exact hbi (by rw [e, z])
    · subst e; subst z
      have hz : h.σ h.nx = .list _ := hbl
      rw [hok _ (Nat.le_refl _)] at hz; cases hz
  have hd : (((h.new (.dict [])).upd i (.inst (upd (Str.ofString "b2j") (.ref h.nx) fs))).σ h.nx) = .dict [] := by walk_at "hs"
  generalize hh1 : (h.new (.dict [])).upd i (.inst (upd (Str.ofString "b2j") (.ref h.nx) fs)) = h1 at hd ⊢
  have hn1 : h1.nx = h.nx + 1 := by rw [← hh1]; rfl
  have hs1 : Same (fun j => j = i ∨ j = h.nx) h h1 := by rw [← hh1]; exact ((Same.refl _ h).new).upd (.inl (.inl rfl))
  refine exs_cons (ex_forI (tg := fun t => ∃ elts k p, t = Expr.Tuple elts k p) (ite_enum T rfl (by rfl) (N.g _ (by simp)) N.enumerate (fun t ht => ht) (ev_local (by rfl) (by rfl) ⟨ks.map Key.v, ?_, ?_⟩)) ⟨_, _, _, rfl⟩)
  · exact hbl.same hs1 hok hbP
  refine fow_inv2 (fun t loc h' => loc = [(Str.ofString "self", .obj i 242), (Str.ofString "b", bV), (Str.ofString "b2j", .ref h.nx)] ∧ ∃ q, I1 h1 h.nx ks t q h') ?_ ?_ ?_ ?_
  · rintro t loc h' ⟨_, q, i1⟩
    exact hbl.same (hs1.trans (i1.same.wide fun j z => .inr z)) hok hbP
  · rintro t v loc h' hv ⟨rfl, q, i1⟩
    obtain ⟨u, hu, rfl⟩ := enumV_get 0 _ t v hv
    rw [List.getElem?_map] at hu
    obtain ⟨k, hk, rfl⟩ := Option.map_eq_some_iff.mp hu
    refine as_tuple rfl (as_local (by rfl) (as_local (by rfl) ?_))
    refine exs_cons (ex_assign (ev_mcall (ev_local (by rfl) (by rfl) (mth_dct (show IsDct h' (.ref h.nx) _ from Or.inl i1.dict) PySem.F.slot_dict_setdefault (by first | exact PySem.F.type_dict_setdefault | (show builtinType _ = _; rw [builtinType_eq_fast]; kernel_rfl)) ⟨kp_blt, evs_cons (ev_local (by rfl) (by rfl) (evs_cons (ev_list (evs_nil ⟨Nat.zero_le _, evs_nil (evk_nil ?_)⟩))))⟩))))
    have hdm : h'.nx ≠ h.nx := by have := i1.same.nx; omega
    have hkt := take_snoc hk
    have htl := (List.getElem?_eq_some_iff.mp hk).1
    have hlen : (ks.take t).length = t := by rw [List.length_take]; omega
    have hfl : (firsts (ks.take t)).length ≤ 10000 := Nat.le_trans (length_firsts _) (by rw [List.length_take]; omega)
    refine cl_setdefault (S := S) (kvs := (firsts (ks.take t)).map fun k => (k, .ref (q k))) ?_ ?_ ?_ ?_
    · have e := i1.dict
      show (if h.nx = h'.nx then _ else h'.σ h.nx) = _
      rw [if_neg (Ne.symm hdm)]; exact e
    · simp only [List.length_map, sizeLine_eq]; omega
    · intro u hu
      rw [kget_map] at hu
      split at hu
      · rename_i hkm
        cases hu
        refine as_local (by rfl) (exs_cons (ex_expr (ev_mcall (ev_local (by rfl) (by rfl) (mth_append (xs := intsV (places (ks.take t) k)) ?_ ⟨kp_blt, evs_cons (ev_local (by rfl) (by rfl) (evs_nil (evk_nil (cl_append (xs := intsV (places (ks.take t) k)) ?_ ?_ ?_))))⟩)))))
        · show (if q k = h'.nx then _ else h'.σ (q k)) = _
          rw [if_neg (Nat.ne_of_lt (i1.hi k hkm))]; exact i1.list k hkm
        · show (if q k = h'.nx then _ else h'.σ (q k)) = _
          rw [if_neg (Nat.ne_of_lt (i1.hi k hkm))]; exact i1.list k hkm
        · have := length_places (ks.take t) k
          simp only [intsV, List.length_map, sizeLine_eq]; omega
        · refine exs_nil ⟨_, _, LocSub.app _ [(Str.ofString "i", _), (Str.ofString "elt", _), (Str.ofString "indices", _)], .refl _, rfl, q, ?_⟩
          have := i1.old hk hkm (by omega)
          simpa using this
      · cases hu
    · intro hu
      rw [kget_map] at hu
      split at hu
      · cases hu
      · rename_i hkm
        refine as_local (by rfl) (exs_cons (ex_expr (ev_mcall (ev_local (by rfl) (by rfl) (mth_append (xs := []) ?_ ⟨kp_blt, evs_cons (ev_local (by rfl) (by rfl) (evs_nil (evk_nil (cl_append (xs := []) ?_ ?_ ?_))))⟩)))))
        · show (if h'.nx = h.nx then _ else if h'.nx = h'.nx then _ else _) = _
          rw [if_neg hdm, if_pos rfl]
        · show (if h'.nx = h.nx then _ else if h'.nx = h'.nx then _ else _) = _
          rw [if_neg hdm, if_pos rfl]
        · simp
        · refine exs_nil ⟨_, _, LocSub.app _ [(Str.ofString "i", _), (Str.ofString "elt", _), (Str.ofString "indices", _)], .refl _, rfl, (fun x => if x = k then h'.nx else q x), ?_⟩
          have := i1.add hk hkm (by omega)
          simpa using this
  · rintro loc h' ⟨rfl, q, i1⟩
    have hl0 : (enumV 0 (ks.map Key.v)).length = ks.length := by rw [enumV_length, List.length_map]
    rw [hl0] at i1
    obtain ⟨isame, ilo, ihi, iinj, idict, ilist⟩ := i1
    rw [List.take_length] at ilo ihi iinj idict ilist
    have hok1 : h1.Ok := fun j hj => by
      rw [← hh1]
      show (if j = i then _ else if j = h.nx then _ else h.σ j) = _
      rw [if_neg (by omega), if_neg (by omega)]; exact hok j (by omega)
    refine Exs.ghost0 (h₀ := (h1.upd h.nx (.dict ((firsts ks).map fun k => (k, .lst (intsV (places ks k)))))).at h'.nx) (Gh.dict idict ilist rfl (by walk_at "hs") (fun k hk => ?_) fun j hj hjk => ?_) ?_
    · have := ilo k hk
      show (if q k = h.nx then _ else h1.σ (q k)) = _
      rw [if_neg (by omega)]; exact hok1 _ this
    · show AO.le _ (if j = h.nx then _ else h1.σ j)
      rw [if_neg hj]
      rcases Nat.lt_or_ge j h1.nx with z | z
      · rw [isame.σ j z hj]; exact AO.le_refl _
      · rw [hok1 j z]; exact AO.le_any _
    have hm := isame.nx
    generalize h'.nx = m at hm
    clear isame ilo ihi iinj idict ilist
    have hi1 : h1.σ i = .inst (upd (Str.ofString "b2j") (.ref h.nx) fs) := by rw [← hh1]; exact if_pos rfl
    have hfs1 : (upd (Str.ofString "b2j") (.ref h.nx) fs).length < 21 := by
      cases z : fs.lookup (Str.ofString "b2j") with
      | none => rw [upd_new z]; omega
      | some u => rw [upd_same z]; omega
    generalize hfs1e : upd (Str.ofString "b2j") (.ref h.nx) fs = fs1 at hi1 hfs1
    refine exs_cons (ex_assign2 (ev_call (ev_builtin T (by rfl) (N.g _ (by simp)) N.set (v := .ty "set") rfl ⟨kp_ty, evs_nil (evk_nil (cl_set0 ?_))⟩)))
    refine as_attr (ev_local (by rfl) (by rfl) (set_field I (fs := fs1) ?_ (by rfl) (by rfl) (by rfl) (by rfl) (as_local (by rfl) ?_) (by omega)))
    · show (if i = m then _ else if i = h.nx then _ else h1.σ i) = _
      rw [if_neg (by omega), if_neg (by omega), hi1]
    have hj1 : (upd (Str.ofString "bjunk") (.ref m) fs1).lookup (Str.ofString "isjunk") = some jV := by
      rw [lookup_upd, if_neg (by decide), ← hfs1e, lookup_upd, if_neg (by decide)]; exact hj
    have ha1 : (upd (Str.ofString "bjunk") (.ref m) fs1).lookup (Str.ofString "autojunk") = some (.bool true) := by
      rw [lookup_upd, if_neg (by decide), ← hfs1e, lookup_upd, if_neg (by decide)]; exact haj
    have hfs2 : (upd (Str.ofString "bjunk") (.ref m) fs1).length < 22 := by
      cases z : fs1.lookup (Str.ofString "bjunk") with
      | none => rw [upd_new z]; omega
      | some u => rw [upd_same z]; omega
    refine exs_cons (ex_assign (ev_attr (ev_local (by rfl) (by rfl) (get_field (attr := none) I (fs := upd (Str.ofString "bjunk") (.ref m) fs1) ?_ hj1 hjn (by rfl) (by rfl) (by rfl) (by rfl) (as_local (by rfl) ?_)))))
    · exact if_pos rfl
    have hi2 : ((((h1.upd h.nx (.dict ((firsts ks).map fun k => (k, .lst (intsV (places ks k)))))).at m).new (.set [])).upd i (.inst (upd (Str.ofString "bjunk") (.ref m) fs1))).σ i = .inst (upd (Str.ofString "bjunk") (.ref m) fs1) := if_pos rfl
    have hs2 : ((((h1.upd h.nx (.dict ((firsts ks).map fun k => (k, .lst (intsV (places ks k)))))).at m).new (.set [])).upd i (.inst (upd (Str.ofString "bjunk") (.ref m) fs1))).σ m = .set [] := by
      show (if m = i then _ else if m = m then _ else _) = _
      rw [if_neg (by omega), if_pos rfl]
    have hd2 : ((((h1.upd h.nx (.dict ((firsts ks).map fun k => (k, .lst (intsV (places ks k)))))).at m).new (.set [])).upd i (.inst (upd (Str.ofString "bjunk") (.ref m) fs1))).σ h.nx = .dict ((firsts ks).map fun k => (k, .lst (intsV (places ks k)))) := by
      show (if h.nx = i then _ else if h.nx = m then _ else if h.nx = h.nx then _ else _) = _
      rw [if_neg (by omega), if_neg (by omega), if_pos rfl]
    have sm2 : Same (fun j => j = i) h ((((h1.upd h.nx (.dict ((firsts ks).map fun k => (k, .lst (intsV (places ks k)))))).at m).new (.set [])).upd i (.inst (upd (Str.ofString "bjunk") (.ref m) fs1))) := by
      refine ((Same.at ?_ ?_).new).upd (.inl rfl)
      · refine Same.upd ⟨by omega, fun j hj hji => ?_⟩ (.inr (Nat.le_refl _))
        exact hs1.σ j hj (by rintro (z | z); exact hji z; omega)
      · show h1.nx ≤ m; exact hm
    have hnx2 : ((((h1.upd h.nx (.dict ((firsts ks).map fun k => (k, .lst (intsV (places ks k)))))).at m).new (.set [])).upd i (.inst (upd (Str.ofString "bjunk") (.ref m) fs1))).nx = m + 1 := rfl
    show Exs C (n + 2) _ [(Str.ofString "self", .obj i 242), (Str.ofString "b", bV), (Str.ofString "b2j", .ref h.nx), (Str.ofString "junk", .ref m), (Str.ofString "isjunk", jV)] ((((h1.upd h.nx (.dict ((firsts ks).map fun k => (k, .lst (intsV (places ks k)))))).at m).new (.set [])).upd i (.inst (upd (Str.ofString "bjunk") (.ref m) fs1))) _ _
    generalize (((h1.upd h.nx (.dict ((firsts ks).map fun k => (k, .lst (intsV (places ks k)))))).at m).new (.set [])).upd i (.inst (upd (Str.ofString "bjunk") (.ref m) fs1)) = H2 at hi2 hs2 hd2 sm2 hnx2 ⊢
    refine exs_cons (ex_if (evB_value (ev_local (by rfl) (by rfl) (J.tru _ _ ?_))))
    rw [if_pos rfl]
    refine exs_cons (junk_loop (l := firsts ks) (f := fun k => .lst (intsV (places ks k))) (a := a) (s := m) (d := h.nx) S J (by rfl) (by rfl) (by rfl) (by rfl) (by rfl) (by rfl) (by rfl) (by rfl) hs2 hd2 ?_ (fun k hk => hkk k (mem_firsts.mp hk)) ?_ ?_ hk4 (by omega) (by omega) (q := fun H3 sm3 hs3 hm3 => ?_))
    · exact J.mem a h H2 hmem sm2.nx fun j hj => sm2.σ j (hPl j hj) fun z => hPi (z ▸ hj)
    · intro z; have := hPl _ z; omega
    · intro z; have := hPl _ z; omega
    have hPd : ¬ P h.nx := fun z => by have := hPl _ z; omega
    have hd3 : H3.σ h.nx = .dict ((firsts ks).map fun k => (k, .lst (intsV (places ks k)))) := (sm3.σ h.nx (by omega) (by rintro (z | z); exact hPd z; omega)).trans hd2
    have hi3 : H3.σ i = .inst (upd (Str.ofString "bjunk") (.ref m) fs1) := (sm3.σ i (by omega) (by rintro (z | z); exact hPi z; omega)).trans hi2
    have sm4 : Same (fun j => j = i ∨ P j) h H3 := ⟨Nat.le_trans sm2.nx sm3.nx, fun j hj hP => (sm3.σ j (by omega) (by rintro (z | z); exact hP (.inr z); omega)).trans (sm2.σ j hj fun z => hP (.inl z))⟩
    have hn3 := sm3.nx
    refine exs_cons (del_loop (s := m) (d := h.nx) (js := (junkRun step (firsts ks) a).1) (l := firsts ks) (f := fun k => .lst (intsV (places ks k))) (by rfl) (by rfl) (by rfl) (by rfl) (by rfl) (by rfl) hs3 hd3 (junkRun_sub step a _) (junkRun_nodup step a _) (by simp only [sizeLine_eq]; omega) (q := ?_))
    refine exs_nil ?_
    refine chain_tail (l := (firsts ks).filter fun k => k ∉ (junkRun step (firsts ks) a).1) (xs := fun k => intsV (places ks k)) (d := h.nx) (bs := ks.map Key.v) S I T N ?_ (by omega) (if_pos rfl) ?_ ?_ (by rw [List.length_map]; exact hkl) ha1 (List.Pairwise.filter _ (nodup_firsts ks)) (Nat.le_trans (List.length_filter_le _ _) hk4) ?_ fun H5 sm5 hi5 hp5 hd5 => ?_
    · show (if i = h.nx then _ else H3.σ i) = _
      rw [if_neg (by omega), hi3]
    · refine hbl.same (P := fun j => j = i ∨ P j) ?_ hok fun j e z => ?_
      · exact sm4.upd (.inr (Nat.le_refl _))
      · rcases z with z | z
        · exact hbi (by rw [e, z])
        · exact hPb j e z
    · intro j e z; exact hbi (by rw [e, z])
    · intro k hk
      have := length_places ks k
      simp only [intsV, List.length_map, sizeLine_eq]; omega
    have hnx5 : (H3.upd h.nx (.dict (((firsts ks).filter fun k => k ∉ (junkRun step (firsts ks) a).1).map fun k => (k, .lst (intsV (places ks k)))))).nx = H3.nx := rfl
    rw [hnx5] at hi5 hp5
    simp only [intsV, List.length_map] at hp5 hd5
    refine qq H5 m H3.nx (by omega) (by omega) ⟨Nat.le_trans sm4.nx sm5.nx, fun j hj hP => ?_⟩ (by rw [hfs1e]; exact hi5) ?_ ?_ hp5 hd5
    · rw [sm5.σ j (by show j < H3.nx; omega) (by rintro (z | z); exact hP (.inl z); omega)]
      show (if j = h.nx then _ else H3.σ j) = _
      rw [if_neg (by omega)]; exact sm4.σ j hj hP
    · rw [sm5.σ m (by show m < H3.nx; omega) (by omega)]
      show (if m = h.nx then _ else H3.σ m) = _
      rw [if_neg (by omega)]; exact hs3
    · refine J.mem _ H3 _ hm3 sm5.nx fun j hj => ?_
      have := hPl j hj
      rw [sm5.σ j (by show j < H3.nx; omega) (by rintro (z | z); exact hPi (z ▸ hj); omega)]
      show (if j = h.nx then _ else H3.σ j) = _
      rw [if_neg (by omega)]
  · refine ⟨rfl, fun _ => 0, .refl _ _, fun k hk => by simp [firsts] at hk, fun k hk => by simp [firsts] at hk, fun k hk => by simp [firsts] at hk, ?_, fun k hk => by simp [firsts] at hk⟩
    rw [hd]; simp [firsts]
end
end Mine
namespace Mine
section
variable {C : Cx} {n : Nat} {h : Hs} {Q : V → Hs → Prop} {mg mb : Str → Option Value}
theorem ok_seq1 (I : InC C (KF C.w.params)) (T : Tp C mg mb) : FnOk C 174 (fnOf (k174 C.w.params)) (bodyOf (fnOf (k174 C.w.params))) :=
  fnOk_of (c := 173) (oc := k173 C.w.params) I T (by rfl) (by rfl)
/-- set_seq1 with another list -/
theorem seq1 (I : InC C (KF C.w.params)) (T : Tp C mg mb) {i : Nat} {fs : List (Str × V)} {aV oV : V} (hi : h.σ i = .inst fs) (hfs : fs.length < 20) (ho : fs.lookup (Str.ofString "a") = some oV) (hon : ∀ id, oV ≠ .blt id)
    (his : ∀ Q : V → Hs → Prop, Q (.bool false) h → Op2 C n (compareOp .Is) h aV oV Q)
    (q : Q .none (h.upd i (.inst (upd (Str.ofString "opcodes") .none (upd (Str.ofString "matching_blocks") .none (upd (Str.ofString "a") aV fs)))))) : Cd C (n + 1) h 174 [.obj i 242, aV] [] Q := by
  refine cd_fn (ok_seq1 I T) binds2 (loc := [(Str.ofString "self", .obj i 242), (Str.ofString "a", aV)]) (h1 := h) (bind_local (by rfl) (bind_local (by rfl) (by rfl))) fun L cells => ?_
  refine exs_cons (ex_expr (ev_str ?_))
  refine exs_cons (ex_if (evB_cmp (ev_local (by rfl) (by rfl) (ev_attr (ev_local (by rfl) (by rfl) (get_field (attr := none) I hi ho hon (by rfl) (by rfl) (by rfl) (by rfl) (his _ (tru_bool ?_))))))))
  refine exs_nil ?_
  have l1 : (upd (Str.ofString "a") aV fs).length < 21 := by
    cases z : fs.lookup (Str.ofString "a") with
    | none => rw [upd_new z]; omega
    | some u => rw [upd_same z]; omega
  have l2 : (upd (Str.ofString "matching_blocks") .none (upd (Str.ofString "a") aV fs)).length < 22 := by
    cases z : (upd (Str.ofString "a") aV fs).lookup (Str.ofString "matching_blocks") with
    | none => rw [upd_new z]; omega
    | some u => rw [upd_same z]; omega
  refine exs_cons (ex_assign (ev_local (by rfl) (by rfl) (as_attr (ev_local (by rfl) (by rfl) (set_field I hi (by rfl) (by rfl) (by rfl) (by rfl) ?_ (by omega))))))
  refine exs_cons (ex_assign2 (ev_none (as_attr (ev_local (by rfl) (by rfl) (set_field I (fs := upd (Str.ofString "a") aV fs) (if_pos rfl) (by rfl) (by rfl) (by rfl) (by rfl) (as_attr (ev_local (by rfl) (by rfl) (set_field I (fs := upd (Str.ofString "matching_blocks") .none (upd (Str.ofString "a") aV fs)) (if_pos rfl) (by rfl) (by rfl) (by rfl) (by rfl) ?_ (by omega)))) (by omega))))))
  refine exs_nil ?_
  have e : ∀ (a b c : AO), ((h.upd i a).upd i b).upd i c = h.upd i c := fun a b c => by
    simp only [Hs.upd, Hs.mk.injEq, and_true]; funext j; by_cases hj : j = i <;> simp [hj]
  rw [e]; exact q
end
end Mine
namespace Mine
section
variable {C : Cx} {n : Nat} {h : Hs} {Q : V → Hs → Prop} {mg mb : Str → Option Value}
theorem ok_seq2 (I : InC C (KF C.w.params)) (T : Tp C mg mb) : FnOk C 181 (fnOf (k181 C.w.params)) (bodyOf (fnOf (k181 C.w.params))) :=
  fnOk_of (c := 180) (oc := k180 C.w.params) I T (by rfl) (by rfl)
theorem len_upd {fs : List (Str × V)} {x : Str} {v : V} {m : Nat} (h : fs.length < m) : (upd x v fs).length < m + 1 := by
  cases z : fs.lookup x with
  | none => rw [upd_new z]; omega
  | some u => rw [upd_same z]; omega
theorem upd_upd (h : Hs) (i : Nat) (a b : AO) : (h.upd i a).upd i b = h.upd i b := by
  simp only [Hs.upd, Hs.mk.injEq, and_true]; funext j; by_cases hj : j = i <;> simp [hj]
/-- set_seq2 with another list: up to __chain_b -/
theorem seq2 (I : InC C (KF C.w.params)) (T : Tp C mg mb) {i : Nat} {fs : List (Str × V)} {bV oV : V} (hi : h.σ i = .inst fs) (hfs : fs.length < 15) (ho : fs.lookup (Str.ofString "b") = some oV) (hon : ∀ id, oV ≠ .blt id) (hnc : fs.lookup (Str.ofString "_SequenceMatcher__chain_b") = none)
    (his : ∀ Q : V → Hs → Prop, Q (.bool false) h → Op2 C n (compareOp .Is) h bV oV Q)
    (H : Cl C n (h.upd i (.inst (upd (Str.ofString "fullbcount") .none (upd (Str.ofString "opcodes") .none (upd (Str.ofString "matching_blocks") .none (upd (Str.ofString "b") bV fs)))))) (.top 188) [.obj i 242] [] fun _ h' => Q .none h') : Cd C (n + 1) h 181 [.obj i 242, bV] [] Q := by
  refine cd_fn (ok_seq2 I T) binds2 (loc := [(Str.ofString "self", .obj i 242), (Str.ofString "b", bV)]) (h1 := h) (bind_local (by rfl) (bind_local (by rfl) (by rfl))) fun L cells => ?_
  refine exs_cons (ex_expr (ev_str ?_))
  refine exs_cons (ex_if (evB_cmp (ev_local (by rfl) (by rfl) (ev_attr (ev_local (by rfl) (by rfl) (get_field (attr := none) I hi ho hon (by rfl) (by rfl) (by rfl) (by rfl) (his _ (tru_bool ?_))))))))
  refine exs_nil ?_
  have l1 := len_upd (x := Str.ofString "b") (v := bV) hfs
  have l2 := len_upd (x := Str.ofString "matching_blocks") (v := .none) l1
  have l3 := len_upd (x := Str.ofString "opcodes") (v := .none) l2
  refine exs_cons (ex_assign (ev_local (by rfl) (by rfl) (as_attr (ev_local (by rfl) (by rfl) (set_field I hi (by rfl) (by rfl) (by rfl) (by rfl) ?_ (by omega))))))
  refine exs_cons (ex_assign2 (ev_none (as_attr (ev_local (by rfl) (by rfl) (set_field I (fs := upd (Str.ofString "b") bV fs) (if_pos rfl) (by rfl) (by rfl) (by rfl) (by rfl) (as_attr (ev_local (by rfl) (by rfl) (set_field I (fs := upd (Str.ofString "matching_blocks") .none (upd (Str.ofString "b") bV fs)) (if_pos rfl) (by rfl) (by rfl) (by rfl) (by rfl) ?_ (by omega)))) (by omega))))))
  refine exs_cons (ex_assign (ev_none (as_attr (ev_local (by rfl) (by rfl) (set_field I (fs := upd (Str.ofString "opcodes") .none (upd (Str.ofString "matching_blocks") .none (upd (Str.ofString "b") bV fs))) (if_pos rfl) (by rfl) (by rfl) (by rfl) (by rfl) ?_ (by omega))))))
  rw [upd_upd, upd_upd, upd_upd]
  refine exs_cons (ex_expr (ev_mcall (ev_local (by rfl) (by rfl) (mth_own (f := 188) I (fs := upd (Str.ofString "fullbcount") .none (upd (Str.ofString "opcodes") .none (upd (Str.ofString "matching_blocks") .none (upd (Str.ofString "b") bV fs)))) (if_pos rfl) ?_ (by rfl) (by rfl) (by rfl) ⟨kp_fn (ok_chain I T), evs_nil (evk_nil ?_)⟩))))
  · rw [lookup_upd, if_neg (by decide), lookup_upd, if_neg (by decide), lookup_upd, if_neg (by decide), lookup_upd, if_neg (by decide)]; exact hnc
  · exact Cl.mono H fun v h' q => exs_nil q
end
end Mine
namespace Mine
section
variable {C : Cx} {n : Nat} {h : Hs} {Q : V → Hs → Prop} {mg mb : Str → Option Value}
/-- set_seq2 with the very list -/
theorem seq2_same (I : InC C (KF C.w.params)) (T : Tp C mg mb) {i : Nat} {fs : List (Str × V)} {bV oV : V} (hi : h.σ i = .inst fs) (ho : fs.lookup (Str.ofString "b") = some oV) (hon : ∀ id, oV ≠ .blt id)
    (his : ∀ Q : V → Hs → Prop, Q (.bool true) h → Op2 C n (compareOp .Is) h bV oV Q) (q : Q .none h) : Cd C (n + 1) h 181 [.obj i 242, bV] [] Q := by
  refine cd_fn (ok_seq2 I T) binds2 (loc := [(Str.ofString "self", .obj i 242), (Str.ofString "b", bV)]) (h1 := h) (bind_local (by rfl) (bind_local (by rfl) (by rfl))) fun L cells => ?_
  refine exs_cons (ex_expr (ev_str ?_))
  refine exs_cons (ex_if (evB_cmp (ev_local (by rfl) (by rfl) (ev_attr (ev_local (by rfl) (by rfl) (get_field (attr := none) I hi ho hon (by rfl) (by rfl) (by rfl) (by rfl) (his _ (tru_bool ?_))))))))
  exact exs_cons (ex_return0 q)
theorem ok_seqs (I : InC C (KF C.w.params)) (T : Tp C mg mb) : FnOk C 167 (fnOf (k167 C.w.params)) (bodyOf (fnOf (k167 C.w.params))) :=
  fnOk_of (c := 166) (oc := k166 C.w.params) I T (by rfl) (by rfl)
theorem seqs (I : InC C (KF C.w.params)) (T : Tp C mg mb) {i : Nat} {fs : List (Str × V)} {aV bV : V} (hi : h.σ i = .inst fs) (hn1 : fs.lookup (Str.ofString "set_seq1") = none)
    (H : Cl C n h (.top 174) [.obj i 242, aV] [] fun _ h' => (∃ fs', h'.σ i = .inst fs' ∧ fs'.lookup (Str.ofString "set_seq2") = none) ∧ Cl C n h' (.top 181) [.obj i 242, bV] [] fun _ h'' => Q .none h'') : Cd C (n + 1) h 167 [.obj i 242, aV, bV] [] Q := by
  refine cd_fn (ok_seqs I T) binds3 (loc := [(Str.ofString "self", .obj i 242), (Str.ofString "a", aV), (Str.ofString "b", bV)]) (h1 := h) (bind_local (by rfl) (bind_local (by rfl) (bind_local (by rfl) (by rfl)))) fun L cells => ?_
  refine exs_cons (ex_expr (ev_str ?_))
  refine exs_cons (ex_expr (ev_mcall (ev_local (by rfl) (by rfl) (mth_own (f := 174) I hi hn1 (by rfl) (by rfl) (by rfl) ⟨kp_fn (ok_seq1 I T), evs_cons (ev_local (by rfl) (by rfl) (evs_nil (evk_nil ?_)))⟩))))
  refine Cl.mono H fun v h' q => ?_
  obtain ⟨⟨fs', hi', hn'⟩, q⟩ := q
  refine exs_cons (ex_expr (ev_mcall (ev_local (by rfl) (by rfl) (mth_own (f := 181) I hi' hn' (by rfl) (by rfl) (by rfl) ⟨kp_fn (ok_seq2 I T), evs_cons (ev_local (by rfl) (by rfl) (evs_nil (evk_nil ?_)))⟩))))
  exact Cl.mono q fun v h'' q => exs_nil q
end
end Mine
namespace Mine
section
variable {C : Cx} {n : Nat} {h : Hs} {Q : V → Hs → Prop} {mg mb : Str → Option Value}
theorem ok_init (I : InC C (KF C.w.params)) (T : Tp C mg mb) : FnOk C 160 (fnOf (k160 C.w.params)) (bodyOf (fnOf (k160 C.w.params))) :=
  fnOk_of (c := 159) (oc := k159 C.w.params) I T (by rfl) (by rfl)
theorem binds_init (I : InC C (KF C.w.params)) {a b d e : V} : Binds C (fnOf (k160 C.w.params)) [a, b, d, e] [] [(Str.ofString "self", a), (Str.ofString "isjunk", b), (Str.ofString "a", d), (Str.ofString "b", e), (Str.ofString "autojunk", .bool true)] := fun w h xs ks R cx hk ck => by
  cases cx with
  | cons c1 cx => cases cx with
    | cons c2 cx => cases cx with
      | cons c3 cx => cases cx with
        | cons c4 cn =>
          cases cn
          cases ks with
          | cons _ _ => cases hk
          | nil =>
            obtain ⟨h1, h2⟩ := I 153 (k153 C.w.params) (by rfl)
            exact ⟨_, .of_defaults (T := 153) rfl (R.up h1 h2) rfl rfl rfl, rfl, .cons c1 (.cons c2 (.cons c3 (.cons c4 (.cons (.bool true) .nil))))⟩
/-- a matcher made: up to set_seqs -/
theorem init (I : InC C (KF C.w.params)) (T : Tp C mg mb) {i : Nat} {jV aV bV : V} (hi : h.σ i = .inst [])
    (H : Cl C n (h.upd i (.inst [(Str.ofString "isjunk", jV), (Str.ofString "a", .none), (Str.ofString "b", .none), (Str.ofString "autojunk", .bool true)])) (.top 167) [.obj i 242, aV, bV] [] fun _ h' => Q .none h') : Cd C (n + 1) h 160 [.obj i 242, jV, aV, bV] [] Q := by
  refine cd_fn (ok_init I T) (binds_init I) (loc := [(Str.ofString "self", .obj i 242), (Str.ofString "isjunk", jV), (Str.ofString "a", aV), (Str.ofString "b", bV), (Str.ofString "autojunk", .bool true)]) (h1 := h) (bind_local (by rfl) (bind_local (by rfl) (bind_local (by rfl) (bind_local (by rfl) (bind_local (by rfl) (by rfl)))))) fun L cells => ?_
  refine exs_cons (ex_expr (ev_str ?_))
  refine exs_cons (ex_assign (ev_local (by rfl) (by rfl) (as_attr (ev_local (by rfl) (by rfl) (set_field I hi (by rfl) (by rfl) (by rfl) (by rfl) ?_)))))
  refine exs_cons (ex_assign2 (ev_none (as_attr (ev_local (by rfl) (by rfl) (set_field I (fs := [(Str.ofString "isjunk", jV)]) (if_pos rfl) (by rfl) (by rfl) (by rfl) (by rfl) (as_attr (ev_local (by rfl) (by rfl) (set_field I (fs := [(Str.ofString "isjunk", jV), (Str.ofString "a", .none)]) (if_pos rfl) (by rfl) (by rfl) (by rfl) (by rfl) ?_ (by simp)))) (by simp))))))
  refine exs_cons (ex_assign (ev_local (by rfl) (by rfl) (as_attr (ev_local (by rfl) (by rfl) (set_field I (fs := [(Str.ofString "isjunk", jV), (Str.ofString "a", .none), (Str.ofString "b", .none)]) (if_pos rfl) (by rfl) (by rfl) (by rfl) (by rfl) ?_ (by simp))))))
  rw [upd_upd, upd_upd, upd_upd]
  refine exs_cons (ex_expr (ev_mcall (ev_local (by rfl) (by rfl) (mth_own (f := 167) I (fs := [(Str.ofString "isjunk", jV), (Str.ofString "a", .none), (Str.ofString "b", .none), (Str.ofString "autojunk", .bool true)]) (if_pos rfl) (by rfl) (by rfl) (by rfl) (by rfl) ⟨kp_fn (ok_seqs I T), evs_cons (ev_local (by rfl) (by rfl) (evs_cons (ev_local (by rfl) (by rfl) (evs_nil (evk_nil ?_)))))⟩))))
  exact Cl.mono H fun v h' q => exs_nil q
end
end Mine
namespace Mine
local macro_rules | `(tactic| walk_at "hs") => `(tactic| (first | (show Hs.σ _ _ = _) | skip); first | assumption | (simp (disch := first | rfl | assumption | exact Nat.ne_of_lt (by assumption) | exact Nat.ne_of_gt (by assumption) | omega) only [Hs.σ_eq, Hs.σ_ne, Hs.σ_at, Hs.nx_at, Hs.nx_upd, Hs.nx_new, Hs.σ_neweq, Hs.σ_newne, Hs.σ_none, Hs.nx_none, SM, Hs.σ_rm0, Hs.σ_rm1, Hs.σ_rm2, Hs.nx_rm] <;> first | done | rfl | assumption) | rfl)
local macro_rules | `(tactic| walk_at "pu") => `(tactic| (repeat' (first
  | exact pu_local (by rfl) (by rfl)
  | exact pu_int | exact pu_str | exact pu_bool | exact pu_none | exact pu_flt
  | exact Top.blt ‹Top _ _ _› (by rfl) (by rfl)
  | exact Top.ty ‹Top _ _ _› (by rfl) (by rfl)
  | exact Top.top ‹Top _ _ _› (by rfl) (by rfl)
  | exact pu_cell (by rfl) (by rfl) (by walk_at "hs")
  | exact pu_free (by rfl) (by rfl) (by walk_at "hs")
  | exact kp_blt | exact kp_ty | exact pes_nil | exact pks_nil
  | apply pes_cons | apply pks_cons
  | apply pu_bin | apply pu_cmp | apply pu_unary
  | apply pu_slice | apply pu_sub
  | exact po_none | apply po_some
  | apply pu_call | apply pu_mcall | apply pu_attr
  | apply pu_list | apply pu_tuple
  | apply pub_cmp | apply pub_not | exact pub_and_nil | exact pub_or_nil | apply pub_and0 | apply pub_or0
  | apply pu_andB0 | apply pu_orB0 | apply pub_value
  | (show List.length _ ≤ sizeLine; (simp [sizeLine_eq]; done)) | rfl | (intro _ _; rfl) | (intro _; rfl) | (with_unfolding_all rfl))))
local macro_rules | `(tactic| walk_at "op") => `(tactic| (first
  | (fail_if_success (show P2 _ _ _ _ (V.ty "?!") _ _)); (fail_if_success (show P2 _ _ _ _ _ (V.ty "?!") _)); first
    | exact p2_addi | exact p2_subi | exact p2_eqi | exact p2_nei | exact p2_lti | exact p2_lei | exact p2_gti | exact p2_gei | exact p2_iaddi
    | (refine p2_modi ?_; first | assumption | omega) | (refine p2_divi ?_ ?_; (first | assumption | omega); (first | assumption | exact PyProof.noPylong_small (by omega)))
    | (refine p2_isnone ?_; intro _ e; cases e) | (refine p2_isnotnone ?_; intro _ e; cases e)
  | exact pt_bool | exact pt_int | exact pt_none | exact p1_negi
  | exact notPyU_lst (v := V.lst _) rfl
  | (refine p2_addT (g := V.int) (u := V.lst _) (v := V.lst _) rfl rfl ?_; refine sizeOk ?_; first | omega | (simp only [List.length_append, List.length_reverse, List.length_map, List.length_range, List.length_replicate, List.length_cons, List.length_nil]; omega))
  | (refine pf_lenT (v := V.lst _) rfl ?_; refine sizeOk ?_; omega)
  | exact pf_range1 | exact pf_range2))
local macro_rules | `(tactic| walk_at "in") => `(tactic| (refine Hs.In.atl ?_ (by simp only [Hs.nx_at, Hs.nx_upd, Hs.nx_new, Hs.nx_none, SM, Hs.nx_rm] <;> omega)); (repeat' (first | exact Hs.In.none0 | refine Hs.In.atat ?_ | refine Hs.In.peel0 ?_ (by walk_at "hs"))))
section
variable {C : Cx} {n : Nat} {h : Hs} {mg mb : Str → Option Value}
theorem ok_noted (X : Top C mg mb) : FnOk C 258 (fnOf (k258 C.w.params)) (bodyOf (fnOf (k258 C.w.params))) :=
  fnOk_of (c := 257) (oc := k257 C.w.params) X.I X.T (by rfl) (by rfl)
def kvI (as : List Int) (f : Int → List Int) : List (Key × V) := as.map fun k => (Key.i k, .lst ((f k).map V.int))
def kvD (as : List Int) (f : Int → List Int) : List (Key × PyData) := as.map fun k => (Key.i k, .list ((f k).map PyData.int))
theorem kvI_dat {as : List Int} {f : Int → List Int} : DatD h (kvI as f) (kvD as f) := DatD.map _ _ _ as fun k _ => .lst (dat_ints _)
theorem kvD_ok {as : List Int} {f : Int → List Int} : ∀ kd ∈ kvD as f, Dok kd.2 := fun kd hk => by
  obtain ⟨k, _, rfl⟩ := List.mem_map.mp hk; exact dok_ints _
theorem kvI_keys (as : List Int) (f : Int → List Int) : ((kvI as f).map fun kv => kv.1.v) = as.map V.int := by simp [kvI, Key.v]
theorem kget_mem_nodup {β : Type} {as : List Int} {g : Int → β} {k : Int} (hk : k ∈ as) : kget (as.map fun k => (Key.i k, g k)) (.i k) = some (g k) := by
  unfold kget
  induction as with
  | nil => cases hk
  | cons a as ih =>
    rw [List.map_cons, List.find?_cons]
    by_cases e : a = k
    · subst e; simp
    · have : decide (Key.i a = Key.i k) = false := by simp [e]
      simp only [this]
      exact ih (by simpa [Ne.symm e] using hk)
theorem dctEq_same (as : List Int) (f : Int → List Int) : dctEq (kvD as f) (kvD as f) = true := by
  unfold dctEq
  simp only [beq_self_eq_true, Bool.true_and, List.all_eq_true]
  intro kd hk
  obtain ⟨k, hm, rfl⟩ := List.mem_map.mp hk
  have : kget (kvD as f) (.i k) = some (.list ((f k).map PyData.int))   := kget_mem_nodup (g := fun k => PyData.list ((f k).map PyData.int)) hm
  simp only [this]
  rw [eqv_ints]; simp
theorem noted (X : Top C mg mb) {i d s p : Nat} {fs : List (Str × V)} {as : List Int} {f : Int → List Int} {bV jV oV : V} {sj so : List Key} {js os : List Int} (ei : h.σ i = .inst fs) (ed : fs.lookup (Str.ofString "b2j") = some (.ref d)) (es : fs.lookup (Str.ofString "bjunk") = some (.ref s)) (ep : fs.lookup (Str.ofString "bpopular") = some (.ref p)) 
   (edd : h.σ d = .dict (kvI as f)) (ess : h.σ s = .set sj) (epp : h.σ p = .set so)
   (eb : IsDct h bV (kvI as f)) (ej : IsLst h jV (js.map V.int)) (eo : IsLst h oV (os.map V.int)) (hz : as.length ≤ 10000) (hz1 : js.length ≤ 4000) (hz2 : os.length ≤ 4000)
   (q1 : (decide (sj.length = ((js.map Key.i).foldl sadd []).length) && sj.all (· ∈ (js.map Key.i).foldl sadd [])) = true) (q2 : (decide (so.length = ((os.map Key.i).foldl sadd []).length) && so.all (· ∈ (os.map Key.i).foldl sadd [])) = true) :
   PF C (n + 3) h (.top 258) [.obj i 242, bV, jV, oV] [] (.bool true) := by
  refine pf_fn (ok_noted X) binds4 (loc := [(Str.ofString "matcher", .obj i 242), (Str.ofString "b2j", bV), (Str.ofString "junk", jV), (Str.ofString "often", oV)]) fun hb hi ok L cells => ?_
  have ki : ∀ js : List Int, js.map V.int = (js.map Key.i).map Key.v := fun js => by simp [Key.v]
  refine kx_if (c := false) ?_ (fun e => by cases e) fun _ => kx_nil fun h' hi' => ?_
  · apply PuB.eq
    walk_at "pu"
    · exact pg_field X.I (hi.inst ei) ed (by simp)
    · exact pf_listD (S := X.S) (show IsDct _ (.ref d) _ from hi.dict edd) (by simp [kvI, sizeLine_eq]; omega)
    · exact pf_listD (S := X.S) (hi.dct eb) (by simp [kvI, sizeLine_eq]; omega)
    · exact p2_ned (.lst (by rw [kvI_keys]; exact dat_ints as)) (.lst (by rw [kvI_keys]; exact dat_ints as)) (dok_ints _) (dok_ints _)
    · exact pg_field X.I (hi.inst ei) ed (by simp)
    · exact p2_neD X.S (show IsDct _ (.ref d) _ from hi.dict edd) (hi.dct eb) kvI_dat kvI_dat kvD_ok kvD_ok
    · rw [dctEq_same, eqv_ints]; simp
  · have hj := hi.trans hi'
    refine kx_ret ?_ fun h'' hi'' => ⟨rfl, hi'.trans hi''⟩
    · apply Pu.eq
      walk_at "pu"
      · exact pg_field X.I (hj.inst ei) es (by simp)
      · exact pf_set (hj.lst ej) (ki _) (by simp [scanBound]; omega)
      · exact p2_eqs (show IsSet _ (.ref s) _ from hj.set ess) rfl
      · exact pg_field X.I (hj.inst ei) ep (by simp)
      · exact pf_set (hj.lst eo) (ki _) (by simp [scanBound]; omega)
      · exact p2_eqs (show IsSet _ (.ref p) _ from hj.set epp) rfl
      · simp only [q1, q2, Bool.and_true]
end
def ifirsts (l : List Int) : List Int := l.foldl (fun acc x => if x ∈ acc then acc else acc ++ [x]) []
def head6 : List Int → Int
  | [] => 2
  | x :: _ => x
def row06 (ns : List Int) : List Int := (ns.drop 1).map (fun x => 2 + x.fmod 24) ++ [12, 6, 4, 12, 3, 12, 12, 2, 2 + (ns.length : Int).fmod 24]
def rise6 : List Int := (List.range 24).map fun (i : Nat) => 2 + (i : Int)
def rows6 (ns : List Int) : List (List Int) := [row06 ns, rise6 ++ row06 ns, rise6.reverse ++ row06 ns, row06 ns ++ rise6]
def row6 (ns : List Int) : List Int := (rows6 ns).getD (((head6 ns).fdiv 4).fmod 4).toNat []
def size6 (ns : List Int) : Int := [(0 : Int), 199, 200, 300].getD ((head6 ns).fmod 4).toNat 0
def b6 (ns : List Int) : List Int := row6 ns ++ List.replicate (size6 ns - (row6 ns).length).toNat 29
def passes (fs : List Int) (p : Nat) : Bool := decide ((fs.take p).filter (fun y => (fs.getD p 0).fmod y == 0) = [])
def pass6 (fs : List Int) : List Int := ((List.range fs.length).filter (passes fs)).map fun p => fs.getD p 0
def junk6 (fs : List Int) : List Int := fs.filter fun x => !decide (x ∈ pass6 fs)
def pl6 (row : List Int) (x : Int) : List Int := ((List.range row.length).filter fun k => row.getD k 0 == x).map fun (k : Nat) => (k : Int)
def P6 (ns : List Int) : List Int := if (row6 ns).length < (b6 ns).length then pass6 (ifirsts (row6 ns)) ++ [29] else pass6 (ifirsts (row6 ns))
def span6 (a b : Nat) : List Int := (List.range (b - a)).map fun (i : Nat) => (a : Int) + (i : Int)
def plc6 (ns : List Int) (x : Int) : List Int := if x = 29 then span6 (row6 ns).length (b6 ns).length else pl6 (row6 ns) x
def often6 (ns : List Int) : List Int := (P6 ns).filter fun x => decide (200 ≤ (b6 ns).length) && decide (((b6 ns).length / 100 + 1 : Nat) < (plc6 ns x).length)
def due6 (ns : List Int) : List Int := (P6 ns).filter fun x => !decide (x ∈ often6 ns)
section
variable {C : Cx} {n : Nat} {h : Hs} {mg mb : Str → Option Value}
theorem ok_law (X : Top C mg mb) : FnOk C 263 (fnOf (k263 C.w.params)) (bodyOf (fnOf (k263 C.w.params))) :=
  fnOk_of (c := 262) (oc := k262 C.w.params) X.I X.T (by rfl) (by rfl)
abbrev H6 (p : Nat) (row n firsts passing places often passed : Option V) : Hs := (((((((Hs.none.upd p (.cell row)).upd (p + 1) (.cell n)).upd (p + 2) (.cell firsts)).upd (p + 3) (.cell passing)).upd (p + 4) (.cell places)).upd (p + 5) (.cell often)).upd (p + 6) (.cell passed))
theorem ifirsts_snoc (l : List Int) (x : Int) : ifirsts (l ++ [x]) = if x ∈ ifirsts l then ifirsts l else ifirsts l ++ [x] := by unfold ifirsts; rw [List.foldl_append]; rfl
theorem ifirsts_len (l : List Int) : (ifirsts l).length ≤ l.length := by
  induction l using snoc_ind with
  | h0 => simp [ifirsts]
  | h1 l x ih => rw [ifirsts_snoc]; split <;> simp <;> omega
noncomputable abbrev F6 (C : Cx) (L : Addr) (cells : List (Str × Addr)) (p : Nat) : Fr := ⟨envFn 263 (fnOf (k263 C.w.params)) L cells, celFrom p (fnOf (k263 C.w.params)).scope.names []⟩
noncomputable abbrev R6 (C : Cx) (k : Nat) : List Stmt := (bodyOf (fnOf (k263 C.w.params))).drop k
abbrev Q6 : Fl → Loc → Hs → Prop := RetQ fun v _ => v = .bool true
theorem law6_a (X : Top C mg mb) {ns : List Int} (hns : ns.length ≤ 63)
    (tail : ∀ (p q1 : Nat) L cells, (row6 ns).length ≤ 96 → (b6 ns).length ≤ 400 → p + 7 ≤ q1 → KX C (n + 19) (F6 C L cells p) [(Str.ofString "b", vI (b6 ns))] (((H6 p (some (vI (row6 ns))) (some (.int (b6 ns).length)) (some (.ref q1)) none none none none).upd q1 (.list [])).at (q1 + 1)) (R6 C 8) Q6) : KC C (n + 20) Hs.none (.top 263) [.lst (ns.map V.int)] [] fun v _ => v = .bool true := by
  refine kc_fn (ok_law X) binds1 (loc := [(Str.ofString "script", .lst (ns.map V.int))]) (h1 := fun p => (((((((Hs.none.upd p (.cell none)).upd (p + 1) (.cell none)).upd (p + 2) (.cell none)).upd (p + 3) (.cell none)).upd (p + 4) (.cell none)).upd (p + 5) (.cell none)).upd (p + 6) (.cell none)).at (p + 7)) (fun p => bind_local (by rfl) (by rfl)) fun p _ _ L cells => ?_
  have hz : ns.length ≤ sizeLine := by simp only [sizeLine_eq]; omega
  have lt_p_p1 : p < p + 1 := Nat.lt_add_of_pos_right (by decide)
  have lt_p1_p2 : p + 1 < p + 2 := Nat.add_lt_add_left (by decide) _
  have lt_p_p2 : p < p + 2 := Nat.lt_trans lt_p_p1 lt_p1_p2
  have lt_p2_p3 : p + 2 < p + 3 := Nat.add_lt_add_left (by decide) _
  have lt_p1_p3 : p + 1 < p + 3 := Nat.lt_trans lt_p1_p2 lt_p2_p3
  have lt_p_p3 : p < p + 3 := Nat.lt_trans lt_p_p2 lt_p2_p3
  have lt_p3_p4 : p + 3 < p + 4 := Nat.add_lt_add_left (by decide) _
  have lt_p2_p4 : p + 2 < p + 4 := Nat.lt_trans lt_p2_p3 lt_p3_p4
  have lt_p1_p4 : p + 1 < p + 4 := Nat.lt_trans lt_p1_p3 lt_p3_p4
  have lt_p_p4 : p < p + 4 := Nat.lt_trans lt_p_p3 lt_p3_p4
  have lt_p4_p5 : p + 4 < p + 5 := Nat.add_lt_add_left (by decide) _
  have lt_p3_p5 : p + 3 < p + 5 := Nat.lt_trans lt_p3_p4 lt_p4_p5
  have lt_p2_p5 : p + 2 < p + 5 := Nat.lt_trans lt_p2_p4 lt_p4_p5
  have lt_p1_p5 : p + 1 < p + 5 := Nat.lt_trans lt_p1_p4 lt_p4_p5
  have lt_p_p5 : p < p + 5 := Nat.lt_trans lt_p_p4 lt_p4_p5
  have lt_p5_p6 : p + 5 < p + 6 := Nat.add_lt_add_left (by decide) _
  have lt_p4_p6 : p + 4 < p + 6 := Nat.lt_trans lt_p4_p5 lt_p5_p6
  have lt_p3_p6 : p + 3 < p + 6 := Nat.lt_trans lt_p3_p5 lt_p5_p6
  have lt_p2_p6 : p + 2 < p + 6 := Nat.lt_trans lt_p2_p5 lt_p5_p6
  have lt_p1_p6 : p + 1 < p + 6 := Nat.lt_trans lt_p1_p5 lt_p5_p6
  have lt_p_p6 : p < p + 6 := Nat.lt_trans lt_p_p5 lt_p5_p6
  refine kx_asg (v := .int (head6 ns)) (pu_ifT (c := !decide (ns = [])) ?_ (fun e => ?_) fun e => ?_) (ka_loc (KX.all ?_))
  · walk_at "pu"
    refine (?_ : P2 _ _ _ _ _ _ (V.bool (!decide (ns = []))))
    rw [← eqv_ints]
    exact p2_ned (.lst (dat_ints ns)) (.lst (dat_ints [])) (dok_ints _) (dok_ints [])
  · cases ns with
    | nil => simp at e
    | cons x t =>
      walk_at "pu"
      · exact notPyU_lst (xs := (x :: t).map V.int) rfl
      · exact p2_getlN (j := 0) (xs := (x :: t).map V.int) rfl (by simpa using hz) rfl
  · cases ns with
    | cons x t => simp at e
    | nil => exact pu_int
  have hd1 : (ns.drop 1).length ≤ sizeLine := by simp only [List.length_drop]; omega
  have hr0 : (row06 ns).length ≤ 72 := by simp [row06]; omega
  refine kx_asg (v := .lst ((row06 ns).map V.int)) ?_ (ka_cel (i := p) (by rfl) (by walk_at "hs") (KX.all ?_))
  · refine pu_bin (pu_lcT0 (as := ns.drop 1) (g := V.int) (fun x => 2 + x.fmod 24) V.int (pi_lst ?_) hd1 fun x _ L cells => ?_) (pu_ints (l := [12, 6, 4, 12, 3, 12, 12, 2, 2 + (ns.length : Int).fmod 24]) ?_) (p2_addT rfl rfl (by simp [sizeLine_eq]; omega))
    · rw [show ns.drop 1 = pick ns (some 1) none none from (pick_from ns 1).symm]
      walk_at "pu"
      · exact notPyU_lst (xs := ns.map V.int) rfl
      · exact ps_listT (v := .lst (ns.map V.int)) (lo := some 1) (hi := none) (st := none) rfl hz (by simp)
    · walk_at "pu"
      all_goals walk_at "op"
    · walk_at "pu"
      · exact pf_lenT (xs := ns) (g := V.int) rfl (by simpa using hz)
      all_goals walk_at "op"
  refine kx_asg (v := .lst (rise6.map V.int)) ?_ (ka_loc (KX.all ?_))
  · apply Pu.eq
    walk_at "pu"
    · exact pf_range2
    · exact pf_listR (by decide) (by decide) (by decide) (by decide) (by decide)
  have m1 := fmod_range ((head6 ns).fdiv 4) (m := 4) (by decide)
  have m2 := fmod_range (head6 ns) (m := 4) (by decide)
  have hri : rise6.length = 24 := rfl
  have hrs : ∀ l ∈ rows6 ns, l.length ≤ 96 := by simp [rows6, hri]; omega
  refine kx_asg (v := vI (row6 ns)) ?_ (ka_cel (i := p) (by rfl) (by walk_at "hs") (KX.all ?_))
  · refine pu_sub (a := .lst ((rows6 ns).map vI)) (b := .int (((head6 ns).fdiv 4).fmod 4)) ?_ ?_ (notPyU_lst (xs := (rows6 ns).map vI) rfl) (p2_getlI (xs := (rows6 ns).map vI) rfl ?_ m1.1 ?_)
    · refine pu_list (vs := [_, _, _, _]) ?_ (by simp [sizeLine_eq])
      walk_at "pu"
      · walk_at "op"
      · walk_at "op"
      · walk_at "op"
      · exact ps_listT (v := vI rise6) (lo := none) (hi := none) (st := some (-1)) rfl (sizeOk (by omega)) (by simp)
      · rw [pick_rev]; walk_at "op"
      · walk_at "op"
    · walk_at "pu"
      all_goals walk_at "op"
    · simp [rows6, sizeLine_eq]
    · have : (((head6 ns).fdiv 4).fmod 4).toNat < 4 := by omega
      simp only [row6, List.getElem?_map, List.getD_eq_getElem?_getD]
      rw [List.getElem?_eq_getElem (by simpa [rows6] using this)]; rfl
  have hr : (row6 ns).length ≤ 96 := by
    have : (((head6 ns).fdiv 4).fmod 4).toNat < 4 := by omega
    have e : (rows6 ns)[(((head6 ns).fdiv 4).fmod 4).toNat]? = some (row6 ns) := by
      simp only [row6, List.getD_eq_getElem?_getD]
      rw [List.getElem?_eq_getElem (by simpa [rows6] using this)]; rfl
    exact hrs _ (List.mem_of_getElem? e)
  refine kx_asg (v := .int (size6 ns)) ?_ (ka_loc (KX.all ?_))
  · refine pu_sub (a := vI [0, 199, 200, 300]) (b := .int ((head6 ns).fmod 4)) (pu_ints ?_) ?_ (notPyU_lst (v := vI _) rfl) (p2_get_ints (v := vI _) rfl (Int.toNat_of_nonneg m2.1).symm ?_ ?_)
    · walk_at "pu"
    · walk_at "pu"
      all_goals walk_at "op"
    · simp; omega
    · simp [sizeLine_eq]
  have hs6 : 0 ≤ size6 ns ∧ size6 ns ≤ 300 := by
    have : (((head6 ns)).fmod 4).toNat < 4 := by omega
    unfold size6
    generalize (((head6 ns)).fmod 4).toNat = k at this
    have : k = 0 ∨ k = 1 ∨ k = 2 ∨ k = 3 := by omega
    rcases this with rfl | rfl | rfl | rfl <;> decide
  refine kx_asg (v := vI (b6 ns)) ?_ (ka_loc (KX.all ?_))
  · walk_at "pu"
    · walk_at "op"
    · walk_at "op"
    · exact p2_mulT (g := V.int) (x := 29) rfl (by omega) (by omega)
    · walk_at "op"
  have hb6 : (b6 ns).length ≤ 400 := by simp [b6]; omega
  refine kx_asg (v := .int (b6 ns).length) ?_ (ka_cel (i := p + 1) (by rfl) (by walk_at "hs") (KX.all ?_))
  · walk_at "pu"
    all_goals walk_at "op"
  refine kx_newL pes_nil fun q1 d1 n1 => ?_
  simp only [Hs.nx_at, Hs.nx_upd] at n1
  have lt_p6_q1 : p + 6 < q1 := by first | assumption | omega
  have lt_p5_q1 : p + 5 < q1 := Nat.lt_trans lt_p5_p6 lt_p6_q1
  have lt_p4_q1 : p + 4 < q1 := Nat.lt_trans lt_p4_p6 lt_p6_q1
  have lt_p3_q1 : p + 3 < q1 := Nat.lt_trans lt_p3_p6 lt_p6_q1
  have lt_p2_q1 : p + 2 < q1 := Nat.lt_trans lt_p2_p6 lt_p6_q1
  have lt_p1_q1 : p + 1 < q1 := Nat.lt_trans lt_p1_p6 lt_p6_q1
  have lt_p_q1 : p < q1 := Nat.lt_trans lt_p_p6 lt_p6_q1
  refine ka_cel (i := p + 2) (by rfl) (by walk_at "hs") (KX.all ?_)
  refine KX.locs (l := [(Str.ofString "b", vI (b6 ns))]) ?_ (LocSub.cons (by rfl) (LocSub.nil _))
  refine KX.up (h := (((H6 p (some (vI (row6 ns))) (some (.int (b6 ns).length)) (some (.ref q1)) none none none none).upd q1 (.list [])).at (q1 + 1))) ?_ (by walk_at "in")
  exact tail p q1 L cells hr hb6 (by omega)
end
section
variable {C : Cx} {n : Nat} {h : Hs} {mg mb : Str → Option Value}
abbrev S6 (ns : List Int) (p q1 : Nat) (fs : List Int) : Hs := ((H6 p (some (vI (row6 ns))) (some (.int (b6 ns).length)) (some (.ref q1)) none none none none).upd q1 (.list (fs.map V.int))).at (q1 + 1)
theorem law6_b (X : Top C mg mb) {ns : List Int} {p q1 : Nat} (hr : (row6 ns).length ≤ 96) (hb6 : (b6 ns).length ≤ 400) (n1 : p + 7 ≤ q1) {L : Addr} {cells : List (Str × Addr)}
    (tail : KX C (n + 19) (F6 C L cells p) [(Str.ofString "b", vI (b6 ns))] (S6 ns p q1 (ifirsts (row6 ns))) (R6 C 9) Q6) :
    KX C (n + 19) (F6 C L cells p) [(Str.ofString "b", vI (b6 ns))] (((H6 p (some (vI (row6 ns))) (some (.int (b6 ns).length)) (some (.ref q1)) none none none none).upd q1 (.list [])).at (q1 + 1)) (R6 C 8) Q6 := by
  have lt_p_p1 : p < p + 1 := Nat.lt_add_of_pos_right (by decide)
  have lt_p1_p2 : p + 1 < p + 2 := Nat.add_lt_add_left (by decide) _
  have lt_p_p2 : p < p + 2 := Nat.lt_trans lt_p_p1 lt_p1_p2
  have lt_p2_p3 : p + 2 < p + 3 := Nat.add_lt_add_left (by decide) _
  have lt_p1_p3 : p + 1 < p + 3 := Nat.lt_trans lt_p1_p2 lt_p2_p3
  have lt_p_p3 : p < p + 3 := Nat.lt_trans lt_p_p2 lt_p2_p3
  have lt_p3_p4 : p + 3 < p + 4 := Nat.add_lt_add_left (by decide) _
  have lt_p2_p4 : p + 2 < p + 4 := Nat.lt_trans lt_p2_p3 lt_p3_p4
  have lt_p1_p4 : p + 1 < p + 4 := Nat.lt_trans lt_p1_p3 lt_p3_p4
  have lt_p_p4 : p < p + 4 := Nat.lt_trans lt_p_p3 lt_p3_p4
  have lt_p4_p5 : p + 4 < p + 5 := Nat.add_lt_add_left (by decide) _
  have lt_p3_p5 : p + 3 < p + 5 := Nat.lt_trans lt_p3_p4 lt_p4_p5
  have lt_p2_p5 : p + 2 < p + 5 := Nat.lt_trans lt_p2_p4 lt_p4_p5
  have lt_p1_p5 : p + 1 < p + 5 := Nat.lt_trans lt_p1_p4 lt_p4_p5
  have lt_p_p5 : p < p + 5 := Nat.lt_trans lt_p_p4 lt_p4_p5
  have lt_p5_p6 : p + 5 < p + 6 := Nat.add_lt_add_left (by decide) _
  have lt_p4_p6 : p + 4 < p + 6 := Nat.lt_trans lt_p4_p5 lt_p5_p6
  have lt_p3_p6 : p + 3 < p + 6 := Nat.lt_trans lt_p3_p5 lt_p5_p6
  have lt_p2_p6 : p + 2 < p + 6 := Nat.lt_trans lt_p2_p5 lt_p5_p6
  have lt_p1_p6 : p + 1 < p + 6 := Nat.lt_trans lt_p1_p5 lt_p5_p6
  have lt_p_p6 : p < p + 6 := Nat.lt_trans lt_p_p5 lt_p5_p6
  have lt_p6_q1 : p + 6 < q1 := by first | assumption | omega
  have lt_p5_q1 : p + 5 < q1 := Nat.lt_trans lt_p5_p6 lt_p6_q1
  have lt_p4_q1 : p + 4 < q1 := Nat.lt_trans lt_p4_p6 lt_p6_q1
  have lt_p3_q1 : p + 3 < q1 := Nat.lt_trans lt_p3_p6 lt_p6_q1
  have lt_p2_q1 : p + 2 < q1 := Nat.lt_trans lt_p2_p6 lt_p6_q1
  have lt_p1_q1 : p + 1 < q1 := Nat.lt_trans lt_p1_p6 lt_p6_q1
  have lt_p_q1 : p < q1 := Nat.lt_trans lt_p_p6 lt_p6_q1
  refine kx_for (items := (row6 ns).map V.int) (fun k l hk => l = [(Str.ofString "b", vI (b6 ns))] ∧ hk = S6 ns p q1 (ifirsts ((row6 ns).take k))) (pi_lst ?_) ⟨rfl, rfl⟩ (fun _ _ _ _ => .none _) ?_ ?_
  · exact pu_cell (i := p) (by rfl) (by rfl) (by walk_at "hs")
  · rintro k v l hk hv ⟨rfl, rfl⟩
    rw [List.getElem?_map] at hv
    obtain ⟨x, hx, rfl⟩ := Option.map_eq_some_iff.mp hv
    have hl := ifirsts_len ((row6 ns).take k)
    have hl2 : ((row6 ns).take k).length ≤ 96 := by rw [List.length_take]; omega
    have ht : ifirsts ((row6 ns).take (k + 1)) = if x ∈ ifirsts ((row6 ns).take k) then ifirsts ((row6 ns).take k) else ifirsts ((row6 ns).take k) ++ [x] := by rw [take_snoc hx, ifirsts_snoc]
    refine ka_loc (KX.all ?_)
    have hIL : IsLst (S6 ns p q1 (ifirsts ((row6 ns).take k))) (.ref q1) ((ifirsts ((row6 ns).take k)).map V.int) := by walk_at "hs"
    refine kx_if (c := !decide (x ∈ ifirsts ((row6 ns).take k))) ?_ (fun e => ?_) (fun e => ?_)
    · walk_at "pu"
      exact p2_nin_ints hIL
    · have hx' : ¬ x ∈ ifirsts ((row6 ns).take k) := by simpa using e
      refine kx_expr (ke_mcall (a := .ref q1) (vs := [.int x]) (kv := []) ?_ (pm_append hIL) ?_ pks_nil (kc_append (xs := (ifirsts ((row6 ns).take k)).map V.int) hIL ?_ fun h' hi => kx_nil (fun h'' hi' => ?_) |>.all _ (.refl _)))
      · walk_at "pu"
      · walk_at "pu"
      · exact sizeOk (by simp; omega)
      · refine kx_nil fun h3 hi3 => ⟨_, _, ?_, ?_, rfl, rfl⟩
        · exact LocSub.cons (by rfl) (LocSub.nil _)
        · rw [ht, if_neg hx']
          refine Hs.In.trans ?_ (hi.trans (hi'.trans hi3))
          simp only [S6, List.map_append, List.map_cons, List.map_nil]
          walk_at "in"
    · have hx' : x ∈ ifirsts ((row6 ns).take k) := by simpa using e
      refine kx_nil fun h' hi => kx_nil fun h3 hi3 => ⟨_, _, ?_, ?_, rfl, rfl⟩
      · exact LocSub.cons (by rfl) (LocSub.nil _)
      · rw [ht, if_pos hx']
        exact hi.trans hi3
  · rintro l hk ⟨rfl, rfl⟩
    rw [List.length_map, List.take_length]
    exact tail
end
section
variable {C : Cx} {n : Nat} {h : Hs} {mg mb : Str → Option Value}
abbrev S6a (ns : List Int) (p q1 q2 : Nat) (fs P : List Int) : Hs := (((H6 p (some (vI (row6 ns))) (some (.int (b6 ns).length)) (some (.ref q1)) (some (.ref q2)) none none none).upd q1 (.list (fs.map V.int))).upd q2 (.list (P.map V.int))).at (q2 + 1)
abbrev S6b (ns : List Int) (p q1 q2 q3 : Nat) (fs P : List Int) (f : Int → List Int) : Hs := ((((H6 p (some (vI (row6 ns))) (some (.int (b6 ns).length)) (some (.ref q1)) (some (.ref q2)) (some (.ref q3)) none none).upd q1 (.list (fs.map V.int))).upd q2 (.list (P.map V.int))).upd q3 (.dict (kvI P f))).at (q3 + 1)
theorem law6_c (X : Top C mg mb) {ns fs : List Int} {p q1 : Nat} (hr : (row6 ns).length ≤ 96) (hfl : fs.length ≤ 96) (hfs : ∀ y ∈ fs, 2 ≤ y) (n1 : p + 7 ≤ q1) {L : Addr} {cells : List (Str × Addr)}
    (tail : ∀ q2, q1 + 1 ≤ q2 → KX C (n + 19) (F6 C L cells p) [(Str.ofString "b", vI (b6 ns))] (S6a ns p q1 q2 fs (pass6 fs)) (R6 C 10) Q6) :
    KX C (n + 19) (F6 C L cells p) [(Str.ofString "b", vI (b6 ns))] (S6 ns p q1 fs) (R6 C 9) Q6 := by
  have lt_p_p1 : p < p + 1 := Nat.lt_add_of_pos_right (by decide)
  have lt_p1_p2 : p + 1 < p + 2 := Nat.add_lt_add_left (by decide) _
  have lt_p_p2 : p < p + 2 := Nat.lt_trans lt_p_p1 lt_p1_p2
  have lt_p2_p3 : p + 2 < p + 3 := Nat.add_lt_add_left (by decide) _
  have lt_p1_p3 : p + 1 < p + 3 := Nat.lt_trans lt_p1_p2 lt_p2_p3
  have lt_p_p3 : p < p + 3 := Nat.lt_trans lt_p_p2 lt_p2_p3
  have lt_p3_p4 : p + 3 < p + 4 := Nat.add_lt_add_left (by decide) _
  have lt_p2_p4 : p + 2 < p + 4 := Nat.lt_trans lt_p2_p3 lt_p3_p4
  have lt_p1_p4 : p + 1 < p + 4 := Nat.lt_trans lt_p1_p3 lt_p3_p4
  have lt_p_p4 : p < p + 4 := Nat.lt_trans lt_p_p3 lt_p3_p4
  have lt_p4_p5 : p + 4 < p + 5 := Nat.add_lt_add_left (by decide) _
  have lt_p3_p5 : p + 3 < p + 5 := Nat.lt_trans lt_p3_p4 lt_p4_p5
  have lt_p2_p5 : p + 2 < p + 5 := Nat.lt_trans lt_p2_p4 lt_p4_p5
  have lt_p1_p5 : p + 1 < p + 5 := Nat.lt_trans lt_p1_p4 lt_p4_p5
  have lt_p_p5 : p < p + 5 := Nat.lt_trans lt_p_p4 lt_p4_p5
  have lt_p5_p6 : p + 5 < p + 6 := Nat.add_lt_add_left (by decide) _
  have lt_p4_p6 : p + 4 < p + 6 := Nat.lt_trans lt_p4_p5 lt_p5_p6
  have lt_p3_p6 : p + 3 < p + 6 := Nat.lt_trans lt_p3_p5 lt_p5_p6
  have lt_p2_p6 : p + 2 < p + 6 := Nat.lt_trans lt_p2_p5 lt_p5_p6
  have lt_p1_p6 : p + 1 < p + 6 := Nat.lt_trans lt_p1_p5 lt_p5_p6
  have lt_p_p6 : p < p + 6 := Nat.lt_trans lt_p_p5 lt_p5_p6
  have lt_p6_q1 : p + 6 < q1 := by first | assumption | omega
  have lt_p5_q1 : p + 5 < q1 := Nat.lt_trans lt_p5_p6 lt_p6_q1
  have lt_p4_q1 : p + 4 < q1 := Nat.lt_trans lt_p4_p6 lt_p6_q1
  have lt_p3_q1 : p + 3 < q1 := Nat.lt_trans lt_p3_p6 lt_p6_q1
  have lt_p2_q1 : p + 2 < q1 := Nat.lt_trans lt_p2_p6 lt_p6_q1
  have lt_p1_q1 : p + 1 < q1 := Nat.lt_trans lt_p1_p6 lt_p6_q1
  have lt_p_q1 : p < q1 := Nat.lt_trans lt_p_p6 lt_p6_q1
  have hIL : ∀ {o q}, p + 7 ≤ q → q ≠ q1 → IsLst (((S6 ns p q1 fs).upd q o).at (q + 1)) (.ref q1) (fs.map V.int) := fun _ _ => by walk_at "hs"
  refine kx_asgE (ke_lcC (as := List.range fs.length) (g := fun (i : Nat) => V.int (i : Int)) (passes fs) (fun i => .int (fs.getD i 0)) (pi_rng0 ?_ ?_) (sizeOk (by simp; omega)) ?_ ?_ ?_)
  · walk_at "pu"
    · exact pf_lenT (xs := fs) (g := V.int) (show IsLst _ (.ref q1) _ by walk_at "hs") (sizeOk (by omega))
    · exact pf_range1
  · omega
  · intro a ha L' cells' q hq
    simp only [Hs.nx_at] at hq
    have lt_q1_q : q1 < q := by first | assumption | omega
    have lt_p6_q : p + 6 < q := Nat.lt_trans lt_p6_q1 lt_q1_q
    have lt_p5_q : p + 5 < q := Nat.lt_trans lt_p5_q1 lt_q1_q
    have lt_p4_q : p + 4 < q := Nat.lt_trans lt_p4_q1 lt_q1_q
    have lt_p3_q : p + 3 < q := Nat.lt_trans lt_p3_q1 lt_q1_q
    have lt_p2_q : p + 2 < q := Nat.lt_trans lt_p2_q1 lt_q1_q
    have lt_p1_q : p + 1 < q := Nat.lt_trans lt_p1_q1 lt_q1_q
    have lt_p_q : p < q := Nat.lt_trans lt_p_q1 lt_q1_q
    have ha' : a < fs.length := List.mem_range.mp ha
    refine pts_one (PuB.eq (pub_cmp (pu_lcT (as := fs.take a) (g := V.int) (fun y => (fs.getD a 0).fmod y == 0) (fun y => y) V.int (pi_lst ?_) (sizeOk (by simp; omega)) ?_ ?_) (pu_list pes_nil) (p2_eq_ints (a := vI _) (b := vI []) rfl rfl)) ?_)
    · rw [← pick_to]
      walk_at "pu"
      · exact notPyU_lst (hIL (by omega) (by omega))
      · exact ps_listT (lo := none) (hi := some (a : Int)) (st := none) (hIL (by omega) (by omega)) (sizeOk (by omega)) (by simp)
    · intro y hy L2 cells2
      have hy0 : y ≠ 0 := by have := hfs y (List.mem_of_mem_take hy); omega
      refine pts_one ?_
      walk_at "pu"
      · exact notPyU_lst (hIL (by omega) (by omega))
      · exact p2_get_ints (hIL (by omega) (by omega)) rfl ha' (sizeOk (by omega))
      · walk_at "op"
      · walk_at "op"
    · intro y hy _ L2 cells2
      walk_at "pu"
    · simp [passes]
  · intro a ha _ L' cells' q hq
    simp only [Hs.nx_at] at hq
    have lt_q1_q : q1 < q := by first | assumption | omega
    have lt_p6_q : p + 6 < q := Nat.lt_trans lt_p6_q1 lt_q1_q
    have lt_p5_q : p + 5 < q := Nat.lt_trans lt_p5_q1 lt_q1_q
    have lt_p4_q : p + 4 < q := Nat.lt_trans lt_p4_q1 lt_q1_q
    have lt_p3_q : p + 3 < q := Nat.lt_trans lt_p3_q1 lt_q1_q
    have lt_p2_q : p + 2 < q := Nat.lt_trans lt_p2_q1 lt_q1_q
    have lt_p1_q : p + 1 < q := Nat.lt_trans lt_p1_q1 lt_q1_q
    have lt_p_q : p < q := Nat.lt_trans lt_p_q1 lt_q1_q
    have ha' : a < fs.length := List.mem_range.mp ha
    walk_at "pu"
    · exact notPyU_lst (hIL (by omega) (by omega))
    · exact p2_get_ints (hIL (by omega) (by omega)) rfl ha' (sizeOk (by omega))
  · intro q2 _ n2 h' hi'
    simp only [Hs.nx_at] at n2
    have lt_q1_q2 : q1 < q2 := by first | assumption | omega
    have lt_p6_q2 : p + 6 < q2 := Nat.lt_trans lt_p6_q1 lt_q1_q2
    have lt_p5_q2 : p + 5 < q2 := Nat.lt_trans lt_p5_q1 lt_q1_q2
    have lt_p4_q2 : p + 4 < q2 := Nat.lt_trans lt_p4_q1 lt_q1_q2
    have lt_p3_q2 : p + 3 < q2 := Nat.lt_trans lt_p3_q1 lt_q1_q2
    have lt_p2_q2 : p + 2 < q2 := Nat.lt_trans lt_p2_q1 lt_q1_q2
    have lt_p1_q2 : p + 1 < q2 := Nat.lt_trans lt_p1_q1 lt_q1_q2
    have lt_p_q2 : p < q2 := Nat.lt_trans lt_p_q1 lt_q1_q2
    refine KA.up (ka_cel (i := p + 3) (by rfl) (by walk_at "hs") (KX.all ?_)) hi'
    refine KX.up (tail q2 n2) ?_
    simp only [S6a, S6, pass6, List.map_map, Function.comp_def]
    walk_at "in"
end
section
variable {C : Cx} {n : Nat} {h : Hs} {mg mb : Str → Option Value}
theorem law6_d (X : Top C mg mb) {ns fs : List Int} {p q1 q2 : Nat} (hr : (row6 ns).length ≤ 96) (hfl : fs.length ≤ 96) (hnd : (pass6 fs).Nodup) (n1 : p + 7 ≤ q1) (n2 : q1 + 1 ≤ q2) {L : Addr} {cells : List (Str × Addr)}
    (tail : ∀ q3, q2 + 1 ≤ q3 → KX C (n + 19) (F6 C L cells p) [(Str.ofString "b", vI (b6 ns)), (Str.ofString "junk", vI (junk6 fs))] (S6b ns p q1 q2 q3 fs (pass6 fs) (pl6 (row6 ns))) (R6 C 12) Q6) :
    KX C (n + 19) (F6 C L cells p) [(Str.ofString "b", vI (b6 ns))] (S6a ns p q1 q2 fs (pass6 fs)) (R6 C 10) Q6 := by
  have lt_p_p1 : p < p + 1 := Nat.lt_add_of_pos_right (by decide)
  have lt_p1_p2 : p + 1 < p + 2 := Nat.add_lt_add_left (by decide) _
  have lt_p_p2 : p < p + 2 := Nat.lt_trans lt_p_p1 lt_p1_p2
  have lt_p2_p3 : p + 2 < p + 3 := Nat.add_lt_add_left (by decide) _
  have lt_p1_p3 : p + 1 < p + 3 := Nat.lt_trans lt_p1_p2 lt_p2_p3
  have lt_p_p3 : p < p + 3 := Nat.lt_trans lt_p_p2 lt_p2_p3
  have lt_p3_p4 : p + 3 < p + 4 := Nat.add_lt_add_left (by decide) _
  have lt_p2_p4 : p + 2 < p + 4 := Nat.lt_trans lt_p2_p3 lt_p3_p4
  have lt_p1_p4 : p + 1 < p + 4 := Nat.lt_trans lt_p1_p3 lt_p3_p4
  have lt_p_p4 : p < p + 4 := Nat.lt_trans lt_p_p3 lt_p3_p4
  have lt_p4_p5 : p + 4 < p + 5 := Nat.add_lt_add_left (by decide) _
  have lt_p3_p5 : p + 3 < p + 5 := Nat.lt_trans lt_p3_p4 lt_p4_p5
  have lt_p2_p5 : p + 2 < p + 5 := Nat.lt_trans lt_p2_p4 lt_p4_p5
  have lt_p1_p5 : p + 1 < p + 5 := Nat.lt_trans lt_p1_p4 lt_p4_p5
  have lt_p_p5 : p < p + 5 := Nat.lt_trans lt_p_p4 lt_p4_p5
  have lt_p5_p6 : p + 5 < p + 6 := Nat.add_lt_add_left (by decide) _
  have lt_p4_p6 : p + 4 < p + 6 := Nat.lt_trans lt_p4_p5 lt_p5_p6
  have lt_p3_p6 : p + 3 < p + 6 := Nat.lt_trans lt_p3_p5 lt_p5_p6
  have lt_p2_p6 : p + 2 < p + 6 := Nat.lt_trans lt_p2_p5 lt_p5_p6
  have lt_p1_p6 : p + 1 < p + 6 := Nat.lt_trans lt_p1_p5 lt_p5_p6
  have lt_p_p6 : p < p + 6 := Nat.lt_trans lt_p_p5 lt_p5_p6
  have lt_p6_q1 : p + 6 < q1 := by first | assumption | omega
  have lt_p5_q1 : p + 5 < q1 := Nat.lt_trans lt_p5_p6 lt_p6_q1
  have lt_p4_q1 : p + 4 < q1 := Nat.lt_trans lt_p4_p6 lt_p6_q1
  have lt_p3_q1 : p + 3 < q1 := Nat.lt_trans lt_p3_p6 lt_p6_q1
  have lt_p2_q1 : p + 2 < q1 := Nat.lt_trans lt_p2_p6 lt_p6_q1
  have lt_p1_q1 : p + 1 < q1 := Nat.lt_trans lt_p1_p6 lt_p6_q1
  have lt_p_q1 : p < q1 := Nat.lt_trans lt_p_p6 lt_p6_q1
  have lt_q1_q2 : q1 < q2 := by first | assumption | omega
  have lt_p6_q2 : p + 6 < q2 := Nat.lt_trans lt_p6_q1 lt_q1_q2
  have lt_p5_q2 : p + 5 < q2 := Nat.lt_trans lt_p5_q1 lt_q1_q2
  have lt_p4_q2 : p + 4 < q2 := Nat.lt_trans lt_p4_q1 lt_q1_q2
  have lt_p3_q2 : p + 3 < q2 := Nat.lt_trans lt_p3_q1 lt_q1_q2
  have lt_p2_q2 : p + 2 < q2 := Nat.lt_trans lt_p2_q1 lt_q1_q2
  have lt_p1_q2 : p + 1 < q2 := Nat.lt_trans lt_p1_q1 lt_q1_q2
  have lt_p_q2 : p < q2 := Nat.lt_trans lt_p_q1 lt_q1_q2
  have hpl : (pass6 fs).length ≤ 96 := by
    simp only [pass6, List.length_map]; exact Nat.le_trans (List.length_filter_le _ _) (by simpa using hfl)
  have hPL : IsLst (S6a ns p q1 q2 fs (pass6 fs)) (.ref q2) ((pass6 fs).map V.int) := by walk_at "hs"
  refine kx_lc (as := fs) (g := V.int) (fun x => !decide (x ∈ pass6 fs)) V.int (pi_ref (i := q1) ?_ ?_) (sizeOk (by omega)) ?_ ?_ (ka_loc (KX.all ?_))
  · walk_at "pu"
  · walk_at "hs"
  · intro x hx L' cells'
    refine pts_one ?_
    walk_at "pu"
    exact p2_nin_ints hPL
  · intro x hx _ L' cells'
    walk_at "pu"
  refine kx_asgE (ke_dcC (as := pass6 fs) (g := V.int) (fun _ => true) Key.i (fun x => vI (pl6 (row6 ns) x)) (pi_ref (i := q2) ?_ ?_) (sizeOk (by omega)) ?_ ?_ ?_ ?_)
  · walk_at "pu"
  · walk_at "hs"
  · rw [filter_tt]; exact List.Pairwise.map _ (fun a b hab e => hab (by injection e)) hnd
  · exact fun _ _ _ _ _ _ => pts_nil
  · intro x hx _ L' cells' q hq
    simp only [Hs.nx_at] at hq
    have lt_q2_q : q2 < q := by first | assumption | omega
    have lt_q1_q : q1 < q := Nat.lt_trans lt_q1_q2 lt_q2_q
    have lt_p6_q : p + 6 < q := Nat.lt_trans lt_p6_q2 lt_q2_q
    have lt_p5_q : p + 5 < q := Nat.lt_trans lt_p5_q2 lt_q2_q
    have lt_p4_q : p + 4 < q := Nat.lt_trans lt_p4_q2 lt_q2_q
    have lt_p3_q : p + 3 < q := Nat.lt_trans lt_p3_q2 lt_q2_q
    have lt_p2_q : p + 2 < q := Nat.lt_trans lt_p2_q2 lt_q2_q
    have lt_p1_q : p + 1 < q := Nat.lt_trans lt_p1_q2 lt_q2_q
    have lt_p_q : p < q := Nat.lt_trans lt_p_q2 lt_q2_q
    refine ⟨?_, Pu.eq (pu_lcT (as := List.range (row6 ns).length) (g := fun (i : Nat) => V.int (i : Int)) (fun k => (row6 ns).getD k 0 == x) (fun (k : Nat) => (k : Int)) V.int (pi_rng0 ?_ (by omega)) (sizeOk (by simp; omega)) ?_ ?_) rfl⟩
    · exact pu_cell (i := q) (by rfl) (by rfl) (by walk_at "hs")
    · walk_at "pu"
      · exact pf_lenT (v := vI (row6 ns)) (xs := row6 ns) (g := V.int) rfl (sizeOk (by omega))
      · exact pf_range1
    · intro k hk L2 cells2
      refine pts_one ?_
      walk_at "pu"
      · walk_at "op"
      · exact p2_get_ints (v := vI (row6 ns)) rfl rfl (List.mem_range.mp hk) (sizeOk (by omega))
      · walk_at "op"
    · intro k hk _ L2 cells2
      walk_at "pu"
  · intro q3 _ n3 h' hi'
    simp only [Hs.nx_at] at n3
    have lt_q2_q3 : q2 < q3 := by first | assumption | omega
    have lt_q1_q3 : q1 < q3 := Nat.lt_trans lt_q1_q2 lt_q2_q3
    have lt_p6_q3 : p + 6 < q3 := Nat.lt_trans lt_p6_q2 lt_q2_q3
    have lt_p5_q3 : p + 5 < q3 := Nat.lt_trans lt_p5_q2 lt_q2_q3
    have lt_p4_q3 : p + 4 < q3 := Nat.lt_trans lt_p4_q2 lt_q2_q3
    have lt_p3_q3 : p + 3 < q3 := Nat.lt_trans lt_p3_q2 lt_q2_q3
    have lt_p2_q3 : p + 2 < q3 := Nat.lt_trans lt_p2_q2 lt_q2_q3
    have lt_p1_q3 : p + 1 < q3 := Nat.lt_trans lt_p1_q2 lt_q2_q3
    have lt_p_q3 : p < q3 := Nat.lt_trans lt_p_q2 lt_q2_q3
    refine KA.up (ka_cel (i := p + 4) (by rfl) (by walk_at "hs") (KX.all ?_)) hi'
    refine KX.up (tail q3 n3) ?_
    simp only [S6a, S6b, kvI, filter_tt]
    walk_at "in"
end
section
variable {C : Cx} {n : Nat} {h : Hs} {mg mb : Str → Option Value}
theorem law6_e (X : Top C mg mb) {ns fs P : List Int} {p q1 q2 q3 : Nat} (hr : (row6 ns).length ≤ 96) (hb6 : (b6 ns).length ≤ 400) (hfl : P.length ≤ 96) (hnd : P.Nodup) (n1 : p + 7 ≤ q1) (n2 : q1 + 1 ≤ q2) (n3 : q2 + 1 ≤ q3) {L : Addr} {cells : List (Str × Addr)}
    (h29 : 29 ∉ P)
    (tail : KX C (n + 19) (F6 C L cells p) [(Str.ofString "b", vI (b6 ns)), (Str.ofString "junk", vI (junk6 fs))] (S6b ns p q1 q2 q3 fs (if (row6 ns).length < (b6 ns).length then P ++ [29] else P) (plc6 ns)) (R6 C 13) Q6) :
    KX C (n + 19) (F6 C L cells p) [(Str.ofString "b", vI (b6 ns)), (Str.ofString "junk", vI (junk6 fs))] (S6b ns p q1 q2 q3 fs P (pl6 (row6 ns))) (R6 C 12) Q6 := by
  have lt_p_p1 : p < p + 1 := Nat.lt_add_of_pos_right (by decide)
  have lt_p1_p2 : p + 1 < p + 2 := Nat.add_lt_add_left (by decide) _
  have lt_p_p2 : p < p + 2 := Nat.lt_trans lt_p_p1 lt_p1_p2
  have lt_p2_p3 : p + 2 < p + 3 := Nat.add_lt_add_left (by decide) _
  have lt_p1_p3 : p + 1 < p + 3 := Nat.lt_trans lt_p1_p2 lt_p2_p3
  have lt_p_p3 : p < p + 3 := Nat.lt_trans lt_p_p2 lt_p2_p3
  have lt_p3_p4 : p + 3 < p + 4 := Nat.add_lt_add_left (by decide) _
  have lt_p2_p4 : p + 2 < p + 4 := Nat.lt_trans lt_p2_p3 lt_p3_p4
  have lt_p1_p4 : p + 1 < p + 4 := Nat.lt_trans lt_p1_p3 lt_p3_p4
  have lt_p_p4 : p < p + 4 := Nat.lt_trans lt_p_p3 lt_p3_p4
  have lt_p4_p5 : p + 4 < p + 5 := Nat.add_lt_add_left (by decide) _
  have lt_p3_p5 : p + 3 < p + 5 := Nat.lt_trans lt_p3_p4 lt_p4_p5
  have lt_p2_p5 : p + 2 < p + 5 := Nat.lt_trans lt_p2_p4 lt_p4_p5
  have lt_p1_p5 : p + 1 < p + 5 := Nat.lt_trans lt_p1_p4 lt_p4_p5
  have lt_p_p5 : p < p + 5 := Nat.lt_trans lt_p_p4 lt_p4_p5
  have lt_p5_p6 : p + 5 < p + 6 := Nat.add_lt_add_left (by decide) _
  have lt_p4_p6 : p + 4 < p + 6 := Nat.lt_trans lt_p4_p5 lt_p5_p6
  have lt_p3_p6 : p + 3 < p + 6 := Nat.lt_trans lt_p3_p5 lt_p5_p6
  have lt_p2_p6 : p + 2 < p + 6 := Nat.lt_trans lt_p2_p5 lt_p5_p6
  have lt_p1_p6 : p + 1 < p + 6 := Nat.lt_trans lt_p1_p5 lt_p5_p6
  have lt_p_p6 : p < p + 6 := Nat.lt_trans lt_p_p5 lt_p5_p6
  have lt_p6_q1 : p + 6 < q1 := by first | assumption | omega
  have lt_p5_q1 : p + 5 < q1 := Nat.lt_trans lt_p5_p6 lt_p6_q1
  have lt_p4_q1 : p + 4 < q1 := Nat.lt_trans lt_p4_p6 lt_p6_q1
  have lt_p3_q1 : p + 3 < q1 := Nat.lt_trans lt_p3_p6 lt_p6_q1
  have lt_p2_q1 : p + 2 < q1 := Nat.lt_trans lt_p2_p6 lt_p6_q1
  have lt_p1_q1 : p + 1 < q1 := Nat.lt_trans lt_p1_p6 lt_p6_q1
  have lt_p_q1 : p < q1 := Nat.lt_trans lt_p_p6 lt_p6_q1
  have lt_q1_q2 : q1 < q2 := by first | assumption | omega
  have lt_p6_q2 : p + 6 < q2 := Nat.lt_trans lt_p6_q1 lt_q1_q2
  have lt_p5_q2 : p + 5 < q2 := Nat.lt_trans lt_p5_q1 lt_q1_q2
  have lt_p4_q2 : p + 4 < q2 := Nat.lt_trans lt_p4_q1 lt_q1_q2
  have lt_p3_q2 : p + 3 < q2 := Nat.lt_trans lt_p3_q1 lt_q1_q2
  have lt_p2_q2 : p + 2 < q2 := Nat.lt_trans lt_p2_q1 lt_q1_q2
  have lt_p1_q2 : p + 1 < q2 := Nat.lt_trans lt_p1_q1 lt_q1_q2
  have lt_p_q2 : p < q2 := Nat.lt_trans lt_p_q1 lt_q1_q2
  have lt_q2_q3 : q2 < q3 := by first | assumption | omega
  have lt_q1_q3 : q1 < q3 := Nat.lt_trans lt_q1_q2 lt_q2_q3
  have lt_p6_q3 : p + 6 < q3 := Nat.lt_trans lt_p6_q2 lt_q2_q3
  have lt_p5_q3 : p + 5 < q3 := Nat.lt_trans lt_p5_q2 lt_q2_q3
  have lt_p4_q3 : p + 4 < q3 := Nat.lt_trans lt_p4_q2 lt_q2_q3
  have lt_p3_q3 : p + 3 < q3 := Nat.lt_trans lt_p3_q2 lt_q2_q3
  have lt_p2_q3 : p + 2 < q3 := Nat.lt_trans lt_p2_q2 lt_q2_q3
  have lt_p1_q3 : p + 1 < q3 := Nat.lt_trans lt_p1_q2 lt_q2_q3
  have lt_p_q3 : p < q3 := Nat.lt_trans lt_p_q2 lt_q2_q3
  have hPL : (S6b ns p q1 q2 q3 fs P (pl6 (row6 ns))).σ q2 = .list (P.map V.int) := by walk_at "hs"
  have hkv : kvI P (pl6 (row6 ns)) = kvI P (plc6 ns) := by
    refine List.map_congr_left fun x hx => ?_
    have : x ≠ 29 := fun e => h29 (e ▸ hx)
    simp [plc6, this]
  refine kx_if (c := decide ((row6 ns).length < (b6 ns).length)) ?_ (fun e => ?_) (fun e => ?_)
  · refine PuB.eq (pub_cmp (a := .int (b6 ns).length) (b := .int (row6 ns).length) ?_ ?_ p2_gti) (by simp)
    · walk_at "pu"
    · walk_at "pu"
      exact pf_lenT (v := vI (row6 ns)) (xs := row6 ns) (g := V.int) rfl (sizeOk (by omega))
  · have hlt : (row6 ns).length < (b6 ns).length := by simpa using e
    rw [if_pos hlt] at tail
    refine kx_expr (ke_mcall (a := .ref q2) (vs := [.int 29]) (kv := []) ?_ (pm_append hPL) ?_ pks_nil (kc_append (xs := P.map V.int) hPL (sizeOk (by simp; omega)) fun h' hi => KX.up ?_ hi))
    · walk_at "pu"
    · walk_at "pu"
    refine kx_asg (v := vI (span6 (row6 ns).length (b6 ns).length)) ?_ (ka_subD (i := q3) (key := .i 29) (kvs := kvI P (pl6 (row6 ns))) ?_ ?_ ?_ ?_ fun h' hi => kx_nil fun h'' hi' => KX.up (KX.up tail ?_) (hi.trans hi'))
    · refine Pu.eq (u := .lst (upto (row6 ns).length (((b6 ns).length : Int) - ((row6 ns).length : Int)).toNat)) ?_ ?_
      walk_at "pu"
      · exact pf_lenT (v := vI (row6 ns)) (xs := row6 ns) (g := V.int) rfl (sizeOk (by omega))
      · exact pf_range2
      · refine pf_listR ?_ ?_ ?_ ?_ ?_ <;> omega
      · simp only [span6, upto, vI, List.map_map, Function.comp_def]
        rw [show (((b6 ns).length : Int) - ((row6 ns).length : Int)).toNat = (b6 ns).length - (row6 ns).length by omega]
    · walk_at "pu"
    · exact pu_int
    · walk_at "hs"
    · exact sizeOk (by simp [kvI]; omega)
    · have : kput (kvI P (pl6 (row6 ns))) (.i 29) (vI (span6 (row6 ns).length (b6 ns).length)) = kvI (P ++ [29]) (plc6 ns) := by
        rw [kput_new]
        · rw [hkv]; simp [kvI, plc6]
        · simp [kvI, h29]
      rw [this]
      simp only [S6b, List.map_append, List.map_cons, List.map_nil]
      walk_at "in"
  · have hlt : ¬ (row6 ns).length < (b6 ns).length := by simpa using e
    rw [if_neg hlt] at tail
    refine kx_nil fun h' hi => KX.up ?_ hi
    simp only [S6b, hkv]
    exact tail
end
section
variable {C : Cx} {n : Nat} {h : Hs} {mg mb : Str → Option Value}
abbrev S6c (ns : List Int) (p q2 q4 : Nat) : Hs := ((((((Hs.none.upd p (.cell (some (vI (row6 ns))))).upd (p + 3) (.cell (some (.ref q2)))).upd (p + 5) (.cell (some (vI (often6 ns))))).upd (p + 6) (.cell none)).upd q2 (.list ((P6 ns).map V.int))).upd q4 (.dict (kvI (due6 ns) (plc6 ns)))).at (q4 + 1)
theorem notPyU_dct {v : V} {kvs : List (Key × V)} (hD : IsDct h v kvs) : NotPyU C h v := fun hb hi => notPy_of slot_dict_getitem.lookup fun w y R c => by
  obtain ⟨a, kvs', rfl, hd, _⟩ := IsDct.at (hi.dct hD) R c
  exact hd.typeIs
theorem law6_f (X : Top C mg mb) {ns fs : List Int} {p q1 q2 q3 : Nat} (hr : (row6 ns).length ≤ 96) (hb6 : (b6 ns).length ≤ 400) (hpl : (P6 ns).length ≤ 97) (hnd : (P6 ns).Nodup) (hplc : ∀ x, (plc6 ns x).length ≤ 400) (n1 : p + 7 ≤ q1) (n2 : q1 + 1 ≤ q2) (n3 : q2 + 1 ≤ q3) {L : Addr} {cells : List (Str × Addr)}
    (tail : ∀ q4, q3 + 1 ≤ q4 → KX C (n + 19) (F6 C L cells p) [(Str.ofString "b", vI (b6 ns)), (Str.ofString "junk", vI (junk6 fs)), (Str.ofString "due", .ref q4)] (S6c ns p q2 q4) (R6 C 15) Q6) :
    KX C (n + 19) (F6 C L cells p) [(Str.ofString "b", vI (b6 ns)), (Str.ofString "junk", vI (junk6 fs))] (S6b ns p q1 q2 q3 fs (P6 ns) (plc6 ns)) (R6 C 13) Q6 := by
  have lt_p_p1 : p < p + 1 := Nat.lt_add_of_pos_right (by decide)
  have lt_p1_p2 : p + 1 < p + 2 := Nat.add_lt_add_left (by decide) _
  have lt_p_p2 : p < p + 2 := Nat.lt_trans lt_p_p1 lt_p1_p2
  have lt_p2_p3 : p + 2 < p + 3 := Nat.add_lt_add_left (by decide) _
  have lt_p1_p3 : p + 1 < p + 3 := Nat.lt_trans lt_p1_p2 lt_p2_p3
  have lt_p_p3 : p < p + 3 := Nat.lt_trans lt_p_p2 lt_p2_p3
  have lt_p3_p4 : p + 3 < p + 4 := Nat.add_lt_add_left (by decide) _
  have lt_p2_p4 : p + 2 < p + 4 := Nat.lt_trans lt_p2_p3 lt_p3_p4
  have lt_p1_p4 : p + 1 < p + 4 := Nat.lt_trans lt_p1_p3 lt_p3_p4
  have lt_p_p4 : p < p + 4 := Nat.lt_trans lt_p_p3 lt_p3_p4
  have lt_p4_p5 : p + 4 < p + 5 := Nat.add_lt_add_left (by decide) _
  have lt_p3_p5 : p + 3 < p + 5 := Nat.lt_trans lt_p3_p4 lt_p4_p5
  have lt_p2_p5 : p + 2 < p + 5 := Nat.lt_trans lt_p2_p4 lt_p4_p5
  have lt_p1_p5 : p + 1 < p + 5 := Nat.lt_trans lt_p1_p4 lt_p4_p5
  have lt_p_p5 : p < p + 5 := Nat.lt_trans lt_p_p4 lt_p4_p5
  have lt_p5_p6 : p + 5 < p + 6 := Nat.add_lt_add_left (by decide) _
  have lt_p4_p6 : p + 4 < p + 6 := Nat.lt_trans lt_p4_p5 lt_p5_p6
  have lt_p3_p6 : p + 3 < p + 6 := Nat.lt_trans lt_p3_p5 lt_p5_p6
  have lt_p2_p6 : p + 2 < p + 6 := Nat.lt_trans lt_p2_p5 lt_p5_p6
  have lt_p1_p6 : p + 1 < p + 6 := Nat.lt_trans lt_p1_p5 lt_p5_p6
  have lt_p_p6 : p < p + 6 := Nat.lt_trans lt_p_p5 lt_p5_p6
  have lt_p6_q1 : p + 6 < q1 := by first | assumption | omega
  have lt_p5_q1 : p + 5 < q1 := Nat.lt_trans lt_p5_p6 lt_p6_q1
  have lt_p4_q1 : p + 4 < q1 := Nat.lt_trans lt_p4_p6 lt_p6_q1
  have lt_p3_q1 : p + 3 < q1 := Nat.lt_trans lt_p3_p6 lt_p6_q1
  have lt_p2_q1 : p + 2 < q1 := Nat.lt_trans lt_p2_p6 lt_p6_q1
  have lt_p1_q1 : p + 1 < q1 := Nat.lt_trans lt_p1_p6 lt_p6_q1
  have lt_p_q1 : p < q1 := Nat.lt_trans lt_p_p6 lt_p6_q1
  have lt_q1_q2 : q1 < q2 := by first | assumption | omega
  have lt_p6_q2 : p + 6 < q2 := Nat.lt_trans lt_p6_q1 lt_q1_q2
  have lt_p5_q2 : p + 5 < q2 := Nat.lt_trans lt_p5_q1 lt_q1_q2
  have lt_p4_q2 : p + 4 < q2 := Nat.lt_trans lt_p4_q1 lt_q1_q2
  have lt_p3_q2 : p + 3 < q2 := Nat.lt_trans lt_p3_q1 lt_q1_q2
  have lt_p2_q2 : p + 2 < q2 := Nat.lt_trans lt_p2_q1 lt_q1_q2
  have lt_p1_q2 : p + 1 < q2 := Nat.lt_trans lt_p1_q1 lt_q1_q2
  have lt_p_q2 : p < q2 := Nat.lt_trans lt_p_q1 lt_q1_q2
  have lt_q2_q3 : q2 < q3 := by first | assumption | omega
  have lt_q1_q3 : q1 < q3 := Nat.lt_trans lt_q1_q2 lt_q2_q3
  have lt_p6_q3 : p + 6 < q3 := Nat.lt_trans lt_p6_q2 lt_q2_q3
  have lt_p5_q3 : p + 5 < q3 := Nat.lt_trans lt_p5_q2 lt_q2_q3
  have lt_p4_q3 : p + 4 < q3 := Nat.lt_trans lt_p4_q2 lt_q2_q3
  have lt_p3_q3 : p + 3 < q3 := Nat.lt_trans lt_p3_q2 lt_q2_q3
  have lt_p2_q3 : p + 2 < q3 := Nat.lt_trans lt_p2_q2 lt_q2_q3
  have lt_p1_q3 : p + 1 < q3 := Nat.lt_trans lt_p1_q2 lt_q2_q3
  have lt_p_q3 : p < q3 := Nat.lt_trans lt_p_q2 lt_q2_q3
  have hD : IsDct (S6b ns p q1 q2 q3 fs (P6 ns) (plc6 ns)) (.ref q3) (kvI (P6 ns) (plc6 ns)) := .inl (by walk_at "hs")
  refine kx_asg (v := vI (often6 ns)) (Pu.eq (pu_lcT (as := P6 ns) (g := V.int) (fun x => decide (200 ≤ (b6 ns).length) && decide (((b6 ns).length / 100 + 1 : Nat) < (plc6 ns x).length)) (fun x => x) V.int (pi_ref (i := q2) ?_ ?_) (sizeOk (by omega)) ?_ ?_) ?_) (ka_cel (i := p + 5) (by rfl) (by walk_at "hs") (KX.all ?_))
  · walk_at "pu"
  · walk_at "hs"
  · intro x hx L' cells'
    refine pts_one (PuB.eq (pub_and0 (pub_cmp (a := .int (b6 ns).length) (b := .int 200) ?_ ?_ p2_gei) (pub_and0 (pub_cmp (a := .int (plc6 ns x).length) (b := .int (((b6 ns).length : Int).fdiv 100 + 1)) ?_ ?_ p2_gti) pub_and_nil)) ?_)
    · walk_at "pu"
    · walk_at "pu"
    · walk_at "pu"
      · exact notPyU_dct hD
      · exact p2_getD (k := .i x) hD (kget_mem_nodup (g := fun k => V.lst ((plc6 ns k).map V.int)) hx)
      · exact pf_lenT (v := vI _) rfl (sizeOk (by have := hplc x; omega))
    · walk_at "pu"
      · walk_at "op"
      · walk_at "op"
    · rw [Int.fdiv_eq_ediv_of_nonneg _ (by omega)]
      rw [Bool.and_true]
      congr 1
      · apply decide_eq_decide.mpr; omega
      · apply decide_eq_decide.mpr; omega
  · intro x hx _ L' cells'
    walk_at "pu"
  · simp [often6]
  have hD : IsDct ((S6b ns p q1 q2 q3 fs (P6 ns) (plc6 ns)).upd (p + 5) (.cell (some (vI (often6 ns))))) (.ref q3) (kvI (P6 ns) (plc6 ns)) := .inl (by walk_at "hs")
  refine kx_dc (as := P6 ns) (g := V.int) (fun x => !decide (x ∈ often6 ns)) Key.i (fun x => vI (plc6 ns x)) (pi_ref (i := q2) ?_ ?_) (sizeOk (by omega)) ?_ ?_ ?_ fun q4 _ n4 => ka_loc (KX.all ?_)
  · walk_at "pu"
  · walk_at "hs"
  · exact List.Pairwise.map _ (fun a b hab e => hab (by injection e)) (hnd.filter _)
  · intro x hx L' cells'
    refine pts_one ?_
    walk_at "pu"
    exact p2_nin_ints (b := vI _) rfl
  · intro x hx _ L' cells'
    refine ⟨?_, ?_⟩
    · exact pu_local (by rfl) (by rfl)
    · walk_at "pu"
      · exact notPyU_dct hD
      · exact p2_getD (k := .i x) hD (kget_mem_nodup (g := fun k => V.lst ((plc6 ns k).map V.int)) hx)
  · simp only [Hs.nx_at, Hs.nx_upd] at n4
    have lt_q3_q4 : q3 < q4 := by first | assumption | omega
    have lt_q2_q4 : q2 < q4 := Nat.lt_trans lt_q2_q3 lt_q3_q4
    have lt_q1_q4 : q1 < q4 := Nat.lt_trans lt_q1_q3 lt_q3_q4
    have lt_p6_q4 : p + 6 < q4 := Nat.lt_trans lt_p6_q3 lt_q3_q4
    have lt_p5_q4 : p + 5 < q4 := Nat.lt_trans lt_p5_q3 lt_q3_q4
    have lt_p4_q4 : p + 4 < q4 := Nat.lt_trans lt_p4_q3 lt_q3_q4
    have lt_p3_q4 : p + 3 < q4 := Nat.lt_trans lt_p3_q3 lt_q3_q4
    have lt_p2_q4 : p + 2 < q4 := Nat.lt_trans lt_p2_q3 lt_q3_q4
    have lt_p1_q4 : p + 1 < q4 := Nat.lt_trans lt_p1_q3 lt_q3_q4
    have lt_p_q4 : p < q4 := Nat.lt_trans lt_p_q3 lt_q3_q4
    refine KX.up (tail q4 n4) ?_
    simp only [S6c, S6b, due6, kvI]
    walk_at "in"
end
section
variable {C : Cx} {n : Nat} {h : Hs} {Q : V → Hs → Prop} {mg mb : Str → Option Value}
theorem Cl.okQ {f : V} {args : List V} {kw : List (Str × V)} (H : Cl C n h f args kw fun v h' => h'.Ok → Q v h') : Cl C n h f args kw Q := ⟨fun A w Q' E fx xs ks a0 R c1 c2 hk c3 c => H.run A w Q' E fx xs ks a0 R c1 c2 hk c3 fun r v h' w' q e' R' => c r v h' w' (q R'.dead) e' R'⟩
theorem Top.nm (X : Top C mg mb) : Nm mg mb where
  g := fun x hx => by
    simp only [List.mem_cons, List.not_mem_nil, or_false] at hx
    rcases hx with rfl | rfl | rfl | rfl | rfl
    · exact (X.bl _ (.type "enumerate") (by rfl)).1
    · exact (X.bl _ (.type "set") (by rfl)).1
    · exact (X.bl _ (.builtin "len") (by rfl)).1
    · exact (X.bl _ (.type "list") (by rfl)).1
    · exact (X.bl _ (.type "range") (by rfl)).1
  enumerate := (X.bl _ (.type "enumerate") (by rfl)).2
  set := (X.bl _ (.type "set") (by rfl)).2
  len := (X.bl _ (.builtin "len") (by rfl)).2
  list := (X.bl _ (.type "list") (by rfl)).2
  range := (X.bl _ (.type "range") (by rfl)).2
/-- what is known behind a call that changes some places -/
theorem In.after {h hb h' : Hs} {i d s p : Nat} {Pl : List Nat} {o1 o2 o3 o4 : AO} (hi : h.In hb) (ok : hb.Ok) (ok' : h'.Ok) (sm : Same (fun j => j = i ∨ j ∈ Pl) hb h') (e1 : h'.σ i = o1) (e2 : h'.σ d = o2) (e3 : h'.σ s = o3) (e4 : h'.σ p = o4) (n4 : o4 ≠ .dead) (hii : i < hb.nx) (h1 : hb.nx ≤ d) (h2 : d < s) (h3 : s < p) :
    (((((h.rm Pl).upd i o1).upd d o2).upd s o3).upd p o4 |>.at (p + 1)).In h' := by
  have hp : p < h'.nx := by
    rcases Nat.lt_or_ge p h'.nx with z | z
    · exact z
    · exact absurd (e4.symm.trans (ok' p z)) n4
  refine In.of hp fun j => ?_
  show AO.le (h'.σ j) (if j = p then o4 else if j = s then o3 else if j = d then o2 else if j = i then o1 else if j ∈ Pl then .dead else h.σ j)
  by_cases j1 : j = p
  · rw [if_pos j1, j1, e4]; exact AO.le_refl _
  rw [if_neg j1]
  by_cases j2 : j = s
  · rw [if_pos j2, j2, e3]; exact AO.le_refl _
  rw [if_neg j2]
  by_cases j3 : j = d
  · rw [if_pos j3, j3, e2]; exact AO.le_refl _
  rw [if_neg j3]
  by_cases j4 : j = i
  · rw [if_pos j4, j4, e1]; exact AO.le_refl _
  rw [if_neg j4]
  by_cases j5 : j ∈ Pl
  · rw [if_pos j5]; exact AO.le_any _
  rw [if_neg j5]
  rcases Nat.lt_or_ge j hb.nx with z | z
  · rw [sm.σ j z (by rintro (q | q); exact j4 q; exact j5 q)]; exact hi.le j
  · rw [hi.dead (ok j z)]; exact AO.le_any _
theorem kc_seq2 (X : Top C mg mb) {i : Nat} {fs : List (Str × V)} {bV oV jV : V} {ks : List Key} (hi : h.σ i = .inst fs) (hfs : fs.length < 15) (ho : fs.lookup (Str.ofString "b") = some oV) (hon : ∀ id, oV ≠ .blt id) (hnc : fs.lookup (Str.ofString "_SequenceMatcher__chain_b") = none)
    (his : PX2 C (n + 3) (compareOp .Is) h bV oV (.bool false)) (hbl : IsLst h bV (ks.map Key.v)) (hkl : ks.length ≤ 10000) (hbn : ∀ id, bV ≠ .blt id) (hj : fs.lookup (Str.ofString "isjunk") = some jV) (hjn : ∀ id, jV ≠ .blt id) (haj : fs.lookup (Str.ofString "autojunk") = some (.bool true)) (hbi : bV ≠ .ref i)
    {α : Type} {Mem : α → Hs → Prop} {Pl : List Nat} {step : α → Key → Bool × α} {kOk : Key → Prop} {a : α} (J : Flt C (n + 2) jV Mem (fun j => j ∈ Pl) step kOk) (hmem : ∀ hb, h.In hb → Mem a hb) (hPl : ∀ j ∈ Pl, h.σ j ≠ .dead) (hPi : i ∉ Pl) (hPb : ∀ j, bV = .ref j → j ∉ Pl) (hkk : ∀ k ∈ ks, kOk k) (hk4 : (firsts ks).length ≤ 4000)
    (q : ∀ d s p, h.nx ≤ d → d < s → s < p → ∀ h', (((((h.rm Pl).upd i (.inst (upd (Str.ofString "bpopular") (.ref p) (upd (Str.ofString "bjunk") (.ref s) (upd (Str.ofString "b2j") (.ref d) (upd (Str.ofString "fullbcount") .none (upd (Str.ofString "opcodes") .none (upd (Str.ofString "matching_blocks") .none (upd (Str.ofString "b") bV fs))))))))).upd d (.dict ((if 200 ≤ ks.length then ((firsts ks).filter fun k => k ∉ (junkRun step (firsts ks) a).1).filter fun k => !decide (((ks.length / 100 + 1 : Nat) : Int) < ((places ks k).length : Int)) else (firsts ks).filter fun k => k ∉ (junkRun step (firsts ks) a).1).map fun k => (k, .lst (intsV (places ks k)))))).upd s (.set (junkRun step (firsts ks) a).1)).upd p (.set (if 200 ≤ ks.length then ((firsts ks).filter fun k => k ∉ (junkRun step (firsts ks) a).1).filter fun k => decide (((ks.length / 100 + 1 : Nat) : Int) < ((places ks k).length : Int)) else []))).at (p + 1) |>.In h' → Mem (junkRun step (firsts ks) a).2 h' → Q .none h') :
    KC C (n + 4) h (.top 181) [.obj i 242, bV] [] Q := fun hb hh => by
  refine Cl.okQ (Cl.ok fun ok => ?_)
  have hlt : ∀ j, hb.σ j ≠ .dead → j < hb.nx := fun j hj => ok.lt hj
  have hup : ∀ j, h.σ j ≠ .dead → hb.σ j ≠ .dead := fun j hj e => hj (hh.dead e)
  have hib : hb.σ i = .inst fs := hh.inst hi
  have hin : i < hb.nx := hlt i (by rw [hib]; simp)
  have l1 := len_upd (x := Str.ofString "b") (v := bV) hfs
  have l2 := len_upd (x := Str.ofString "matching_blocks") (v := .none) l1
  have l3 := len_upd (x := Str.ofString "opcodes") (v := .none) l2
  have l4 := len_upd (x := Str.ofString "fullbcount") (v := .none) l3
  refine Cd.cl (seq2 X.I X.T hib hfs ho hon hnc (fun Q q => his hb hh Q q) (Cd.cl ?_))
  refine chain (a := a) (fs := upd (Str.ofString "fullbcount") .none (upd (Str.ofString "opcodes") .none (upd (Str.ofString "matching_blocks") .none (upd (Str.ofString "b") bV fs)))) X.S X.I X.T X.nm (if_pos rfl) (by omega) ?_ ?_ hkl hbn ?_ hjn ?_ hbi 242 rfl J ?_ ?_ hPi hPb hkk hk4 ?_
  · rw [lookup_upd, if_neg (by decide), lookup_upd, if_neg (by decide), lookup_upd, if_neg (by decide), lookup_upd, if_pos rfl]
  · exact (hh.lst hbl).same (P := fun j => j = i) ((Same.refl _ hb).upd (.inl rfl)) ok fun j e z => hbi (by rw [e, z])
  · rw [lookup_upd, if_neg (by decide), lookup_upd, if_neg (by decide), lookup_upd, if_neg (by decide), lookup_upd, if_neg (by decide)]; exact hj
  · rw [lookup_upd, if_neg (by decide), lookup_upd, if_neg (by decide), lookup_upd, if_neg (by decide), lookup_upd, if_neg (by decide)]; exact haj
  · refine J.mem a hb _ (hmem hb hh) (Nat.le_refl _) fun j hj => ?_
    exact if_neg fun (z : j = i) => hPi (z ▸ hj)
  · exact fun j hj => hlt j (hup j (hPl j hj))
  · intro h' s p h1 h2 sm e1 e2 em e3 e4 ok'
    refine q hb.nx s p hh.nx h1 h2 h' ?_ em
    refine In.after hh ok ok' ⟨sm.nx, fun j hj hP => ?_⟩ e1 e4 e2 e3 (by simp) hin (Nat.le_refl _) h1 h2
    rw [sm.σ j hj hP]
    exact if_neg fun (z : j = i) => hP (.inl z)
end
section
variable {C : Cx} {n : Nat} {h : Hs} {Q : V → Hs → Prop} {mg mb : Str → Option Value}
theorem kc_seq1 (X : Top C mg mb) {i : Nat} {fs : List (Str × V)} {aV oV : V} (hi : h.σ i = .inst fs) (hfs : fs.length < 20) (ho : fs.lookup (Str.ofString "a") = some oV) (hon : ∀ id, oV ≠ .blt id) (his : PX2 C n (compareOp .Is) h aV oV (.bool false))
    (q : ∀ h', (h.upd i (.inst (upd (Str.ofString "opcodes") .none (upd (Str.ofString "matching_blocks") .none (upd (Str.ofString "a") aV fs))))).In h' → Q .none h') : KC C (n + 1) h (.top 174) [.obj i 242, aV] [] Q := fun hb hh =>
  Cd.cl (seq1 X.I X.T (hh.inst hi) hfs ho hon (fun Q q => his hb hh Q q) (q _ hh.upd))
theorem kc_seq2_same (X : Top C mg mb) {i : Nat} {fs : List (Str × V)} {bV oV : V} (hi : h.σ i = .inst fs) (ho : fs.lookup (Str.ofString "b") = some oV) (hon : ∀ id, oV ≠ .blt id)
    (his : PX2 C n (compareOp .Is) h bV oV (.bool true)) (q : ∀ h', h.In h' → Q .none h') : KC C (n + 1) h (.top 181) [.obj i 242, bV] [] Q := fun hb hh =>
  Cd.cl (seq2_same X.I X.T (hh.inst hi) ho hon (fun Q q => his hb hh Q q) (q _ hh))
/-- a matcher's fields behind set_seq2 -/
def fsM (jV aV bV : V) (d s p : Nat) : List (Str × V) := [(Str.ofString "isjunk", jV), (Str.ofString "a", aV), (Str.ofString "b", bV), (Str.ofString "autojunk", .bool true), (Str.ofString "matching_blocks", .none), (Str.ofString "opcodes", .none), (Str.ofString "fullbcount", .none), (Str.ofString "b2j", .ref d), (Str.ofString "bjunk", .ref s), (Str.ofString "bpopular", .ref p)]
theorem kc_make (X : Top C mg mb) {jV aV bV : V} {ks : List Key} (hbl : ∀ hb, h.In hb → IsLst hb bV (ks.map Key.v)) (hkl : ks.length ≤ 10000) (hbn : ∀ id, bV ≠ .blt id) (hbN : bV.isNone = false) (han : ∀ id, aV ≠ .blt id) (haN : aV.isNone = false) (hjn : ∀ id, jV ≠ .blt id) (hbr : ∀ i, bV ≠ .ref i) 
    {α : Type} {Mem : α → Hs → Prop} {Pl : List Nat} {step : α → Key → Bool × α} {kOk : Key → Prop} {a : α} (J : Flt C (n + 2) jV Mem (fun j => j ∈ Pl) step kOk) (hmem : ∀ hb, h.In hb → Mem a hb) (hPl : ∀ j ∈ Pl, h.σ j ≠ .dead) (hkk : ∀ k ∈ ks, kOk k) (hk4 : (firsts ks).length ≤ 4000)
    (q : ∀ i d s p, h.nx ≤ i → i < d → d < s → s < p → ∀ h', (SM h Pl step a ks i d s p (fsM jV aV bV d s p)).In h' → Mem (junkRun step (firsts ks) a).2 h' → Q (.obj i 242) h') : KC C (n + 8) h (.top 242) [jV, aV, bV] [] Q := fun hb hh => by
  refine Cl.ok fun ok => ?_
  refine cl_new X.I (by rfl) (by rfl) (by rfl) ?_
  have hid : h.σ hb.nx = .dead := hh.dead (ok _ (Nat.le_refl _))
  have hPi : hb.nx ∉ Pl := fun z => hPl _ z hid
  refine init X.I X.T (i := hb.nx) (if_pos rfl) ?_
  refine Cd.cl (seqs X.I X.T (fs := [(Str.ofString "isjunk", jV), (Str.ofString "a", .none), (Str.ofString "b", .none), (Str.ofString "autojunk", .bool true)]) (if_pos rfl) (by rfl) ?_)
  have hin1 : ((h.upd hb.nx (.inst [(Str.ofString "isjunk", jV), (Str.ofString "a", .none), (Str.ofString "b", .none), (Str.ofString "autojunk", .bool true)])).at (hb.nx + 1)).In ((hb.new (.inst [])).upd hb.nx (.inst [(Str.ofString "isjunk", jV), (Str.ofString "a", .none), (Str.ofString "b", .none), (Str.ofString "autojunk", .bool true)])) := by
    refine In.of (Nat.le_refl _) fun j => ?_
    show AO.le (if j = hb.nx then _ else if j = hb.nx then _ else hb.σ j) (if j = hb.nx then _ else h.σ j)
    by_cases z : j = hb.nx
    · rw [if_pos z, if_pos z]; exact AO.le_refl _
    · rw [if_neg z, if_neg z, if_neg z]; exact hh.le j
  refine KC.less (kc_seq1 X (i := hb.nx) (fs := [(Str.ofString "isjunk", jV), (Str.ofString "a", .none), (Str.ofString "b", .none), (Str.ofString "autojunk", .bool true)]) (if_pos rfl) (by simp) (by rfl) (by simp) (n := n) (fun hb' hi' Q q => is_none_l han (by rw [haN]; exact q)) fun h' hi' => ?_) (by omega) _ hin1
  have hi' : (((h.upd hb.nx (.inst [(Str.ofString "isjunk", jV), (Str.ofString "a", .none), (Str.ofString "b", .none), (Str.ofString "autojunk", .bool true)])).at (hb.nx + 1)).upd hb.nx (.inst [(Str.ofString "isjunk", jV), (Str.ofString "a", aV), (Str.ofString "b", .none), (Str.ofString "autojunk", .bool true), (Str.ofString "matching_blocks", .none), (Str.ofString "opcodes", .none)])).In h' := hi'
  have hin2 : ((h.upd hb.nx (.inst [(Str.ofString "isjunk", jV), (Str.ofString "a", aV), (Str.ofString "b", .none), (Str.ofString "autojunk", .bool true), (Str.ofString "matching_blocks", .none), (Str.ofString "opcodes", .none)])).at (hb.nx + 1)).In h' := by
    refine In.of hi'.nx fun j => AO.le_trans (hi'.le j) ?_
    show AO.le (if j = hb.nx then _ else if j = hb.nx then _ else h.σ j) (if j = hb.nx then _ else h.σ j)
    by_cases z : j = hb.nx
    · rw [if_pos z, if_pos z]; exact AO.le_refl _
    · rw [if_neg z, if_neg z, if_neg z]; exact AO.le_refl _
  have hh0 : h.In ((h.upd hb.nx (.inst [(Str.ofString "isjunk", jV), (Str.ofString "a", aV), (Str.ofString "b", .none), (Str.ofString "autojunk", .bool true), (Str.ofString "matching_blocks", .none), (Str.ofString "opcodes", .none)])).at (hb.nx + 1)) := by
    refine In.of (Nat.le_succ_of_le hh.nx) fun j => ?_
    show AO.le (if j = hb.nx then _ else h.σ j) _
    by_cases z : j = hb.nx
    · rw [if_pos z, z, hid]; exact AO.le_any _
    · rw [if_neg z]; exact AO.le_refl _
  refine ⟨⟨_, hin2.inst (if_pos rfl), by rfl⟩, ?_⟩
  refine KC.less (kc_seq2 X (i := hb.nx) (a := a) (n := n) (fs := [(Str.ofString "isjunk", jV), (Str.ofString "a", aV), (Str.ofString "b", .none), (Str.ofString "autojunk", .bool true), (Str.ofString "matching_blocks", .none), (Str.ofString "opcodes", .none)]) (if_pos rfl) (by simp) (by rfl) (by simp) (by rfl) (fun hb' hi' Q q => is_none_l hbn (by rw [hbN]; exact q)) (hbl _ hh0) hkl hbn (by rfl) hjn (by rfl) (hbr _) J (fun hb' hi' => hmem _ (hh0.trans hi')) (fun j hj e => hPl j hj (hh0.dead e)) hPi (fun j e => absurd e (hbr j)) hkk hk4 fun d s p h1 h2 h3 h4 hi4 em => ⟨rfl, q hb.nx d s p hh.nx h1 h2 h3 h4 ?_ em⟩) (by omega) _ hin2
  refine Hs.In.trans (In.of ?_ fun j => ?_) hi4
  · exact Nat.le_refl _
  · show AO.le (if j = p then _ else if j = s then _ else if j = d then _ else if j = hb.nx then AO.inst (fsM jV aV bV d s p) else if j ∈ Pl then .dead else if j = hb.nx then _ else h.σ j) (if j = p then _ else if j = s then _ else if j = d then _ else if j = hb.nx then AO.inst (fsM jV aV bV d s p) else if j ∈ Pl then .dead else h.σ j)
    by_cases j1 : j = p
    · rw [if_pos j1, if_pos j1]; exact AO.le_refl _
    rw [if_neg j1, if_neg j1]
    by_cases j2 : j = s
    · rw [if_pos j2, if_pos j2]; exact AO.le_refl _
    rw [if_neg j2, if_neg j2]
    by_cases j3 : j = d
    · rw [if_pos j3, if_pos j3]; exact AO.le_refl _
    rw [if_neg j3, if_neg j3]
    by_cases j4 : j = hb.nx
    · rw [if_pos j4, if_pos j4]; exact AO.le_refl _
    rw [if_neg j4, if_neg j4, if_neg j4]; exact AO.le_refl _
end
def callArg0 : Stmt → Expr
  | .Assign _ (.Call _ (e :: _) _ _) _ => e
  | _ => .Constant .none 0 ⟨0, 0, 0, 0⟩
def lamParams : Expr → Arguments
  | .Lambda p _ _ _ => p
  | _ => ⟨[], [], none, [], [], none, []⟩
def lamBody : Expr → Expr
  | .Lambda _ b _ _ => b
  | e => e
def lamScope : Expr → Scope
  | .Lambda _ _ s _ => s
  | _ => default
theorem nodup_len : ∀ (m : Nat) (a : Int) (l : List Int), l.Nodup → (∀ x ∈ l, a ≤ x ∧ x < a + m) → l.length ≤ m
  | 0, a, l, _, hl => by
    cases l with
    | nil => simp
    | cons x l => have := hl x (by simp); omega
  | m + 1, a, l, hn, hl => by
    by_cases hm : (a + m) ∈ l
    · have h1 := nodup_len m a (l.erase (a + m)) (hn.erase _) fun x hx => by
        have h2 := hl x (List.mem_of_mem_erase hx)
        have h3 : x ≠ a + m := fun e => (List.Nodup.not_mem_erase hn) (e ▸ hx)
        push_cast at h2; omega
      rw [List.length_erase_of_mem hm] at h1; omega
    · have := nodup_len m a l hn fun x hx => by
        have h2 := hl x hx
        have h3 : x ≠ a + m := fun e => hm (e ▸ hx)
        push_cast at h2; omega
      omega
def step6 (ps : List Int) : Key → Bool × List Int
  | .i x => (ps.any fun y => x.fmod y == 0, if (ps.any fun y => x.fmod y == 0) = true then ps else ps ++ [x])
  | .s _ => (false, ps)
section
variable {C : Cx} {n : Nat} {h : Hs} {Q : V → Hs → Prop} {mg mb : Str → Option Value}
noncomputable abbrev lam6 (C : Cx) : Expr := callArg0 (stAt (bodyOf (fnOf (k263 C.w.params))) 16)
noncomputable abbrev jV6 (C : Cx) (p : Nat) : V := .lam (lamParams (lam6 C)) (lamBody (lam6 C)) (lamScope (lam6 C)) (Str.ofString "law.<locals>.<lambda>") [(Str.ofString "passed", p + 6)]
structure Mem6 (p q5 : Nat) (ps : List Int) (h : Hs) : Prop where
  l : h.σ q5 = .list (ps.map V.int)
  c : h.σ (p + 6) = .cell (some (.ref q5))
  nd : ps.Nodup
  r : ∀ y ∈ ps, 2 ≤ y ∧ y ≤ 29
theorem flt6 (X : Top C mg mb) {p q5 : Nat} : Flt C (n + 10) (jV6 C p) (Mem6 p q5) (fun j => j ∈ [q5, p + 6]) step6 (fun k => ∃ x, k = .i x ∧ 2 ≤ x ∧ x ≤ 29) where
  nb := fun id e => by cases e
  tru := fun h QB q => tru_lam q
  kp := kp_lam
  mem := fun a h h' m hn hP => ⟨(hP q5 (by simp)).trans m.l, (hP (p + 6) (by simp)).trans m.c, m.nd, m.r⟩
  call := fun h ps k Q m hk q => by
    obtain ⟨x, rfl, hx1, hx2⟩ := hk
    have hz : ps.length ≤ 28 := nodup_len 28 2 ps m.nd fun y hy => by have := m.r y hy; omega
    refine cl_lam X.T (by rfl) (by rfl) (by rfl) (fun fd h1 h2 h3 => binds1 (x := Str.ofString "x") fun v => ?_) (loc := [(Str.ofString "x", .int x)]) (h1 := h) (bind_local (by rfl) (by rfl)) fun f L cells code => ?_
    · cases fd
      simp only at h1 h2 h3
      subst h1; subst h2; subst h3
      rfl
    refine ev_call (ev_global X.T (by rfl) (X.gl _ (.ref 251) (by rfl)) (v := .top 251) rfl ⟨kp_fn (ok_asked X.I X.T), evs_cons (ev_free (i := p + 6) (by rfl) (by rfl) m.c (evs_cons (ev_local (by rfl) (by rfl) (evs_nil (evk_nil ?_)))))⟩)
    refine Cl.less (Cd.cl (asked X.I X.T (n := n) m.l (by omega) (fun y hy => by have := m.r y hy; omega) (fun e mm hm => ?_) fun e mm hm => ?_)) (by omega)
    · have := q (h.at mm) ?_ ((Same.refl _ h).at hm)
      · simpa [step6, e] using this
      · simp only [step6, e]; exact ⟨m.l, m.c, m.nd, m.r⟩
    · have := q ((h.upd q5 (.list ((ps ++ [x]).map V.int))).at mm) ?_ (((Same.refl _ h).upd (.inl (by simp))).at hm)
      · simpa [step6, e] using this
      · have hne : p + 6 ≠ q5 := fun z => by have h1 := m.c; rw [z, m.l] at h1; cases h1
        have hx : x ∉ ps := fun z => by
          have := List.any_eq_false.mp e x z
          simp [Int.fmod_self] at this
        simp only [step6, e, Bool.false_eq_true, if_false]
        refine ⟨if_pos rfl, (if_neg hne).trans m.c, ?_, fun y hy => ?_⟩
        · exact List.nodup_append.mpr ⟨m.nd, by simp, fun y hy z hz => by rw [List.mem_singleton.mp hz]; exact fun w => hx (w ▸ hy)⟩
        · rcases List.mem_append.mp hy with z | z
          · exact m.r y z
          · rw [List.mem_singleton.mp z]; exact ⟨hx1, hx2⟩
end
section
variable {C : Cx} {n : Nat} {h : Hs} {Q : V → Hs → Prop} {mg mb : Str → Option Value}
def setEqB (a : List Key) (b : List Int) : Bool := decide (a.length = ((b.map Key.i).foldl sadd []).length) && a.all (· ∈ (b.map Key.i).foldl sadd [])
/-- what the plain law says -/
structure Plain6 (ns : List Int) : Prop where
  e0 : (junkRun step6 (firsts ((b6 ns).map Key.i)) []).2 = P6 ns
  e1 : b2jOf step6 [] ((b6 ns).map Key.i) = kvI (due6 ns) (plc6 ns)
  e2 : setEqB (junkRun step6 (firsts ((b6 ns).map Key.i)) []).1 (junk6 (ifirsts (row6 ns))) = true
  e3 : setEqB (popOf step6 [] ((b6 ns).map Key.i)) (often6 ns) = true
  e4 : (junkRun step6 (firsts ((b6 ns).map Key.i)) (P6 ns)).2 = P6 ns
  e5 : b2jOf step6 (P6 ns) ((b6 ns).map Key.i) = []
  e6 : setEqB (junkRun step6 (firsts ((b6 ns).map Key.i)) (P6 ns)).1 (junk6 (ifirsts (row6 ns)) ++ P6 ns) = true
  e7 : popOf step6 (P6 ns) ((b6 ns).map Key.i) = []
  r : ∀ x ∈ b6 ns, 2 ≤ x ∧ x ≤ 29
  pr : ∀ x ∈ P6 ns, 2 ≤ x ∧ x ≤ 29
  nd : (P6 ns).Nodup
  dnd : (due6 ns).length ≤ 97
  jl : (junk6 (ifirsts (row6 ns))).length ≤ 97
  ol : (often6 ns).length ≤ 97
abbrev S6d (ns : List Int) (p q2 q4 q5 : Nat) (M : List Int) (i d s pp : Nat) (fs : List (Str × V)) (kv : List (Key × V)) (sj so : List Key) (m : Nat) : Hs :=
  ((((((((((Hs.none.upd p (.cell (some (vI (row6 ns))))).upd (p + 3) (.cell (some (.ref q2)))).upd (p + 5) (.cell (some (vI (often6 ns))))).upd (p + 6) (.cell (some (.ref q5)))).upd q2 (.list ((P6 ns).map V.int))).upd q4 (.dict (kvI (due6 ns) (plc6 ns)))).upd q5 (.list (M.map V.int))).upd i (.inst fs)).upd d (.dict kv)).upd s (.set sj)).upd pp (.set so) |>.at m
theorem q6e {L : Addr} {cells : List (Str × Addr)} {p : Nat} : (F6 C L cells p).env.qual ++ "<lambda>" = Str.ofString "law.<locals>.<lambda>" := by kernel_rfl
theorem pu_lambdaQ {F : Fr} {loc : Loc} {params : Arguments} {body : Expr} {scope : Scope} {pos : Pos} {c P : Addr} {cl : List (Str × Nat)} {q : Str} (T : Tp C mg mb) (B : BmOk C mg) (hq : F.env.qual ++ "<lambda>" = q) (K : CdOk C c P q) (hcode : F.env.code = .ref c)
    (hclo : cloA F.cel scope.names [] = some cl := by rfl) (hdef : defaultsOf params F.env = ([], []) := by rfl) : Pu C n F loc h (.Lambda params body scope pos) (.lam params body scope q cl) := by
  subst hq; exact pu_lambda T B K hcode hclo hdef
theorem law6_g (X : Top C mg mb) (CD : CdOk C 262 260 (Str.ofString "law.<locals>.<lambda>")) {ns : List Int} (PL : Plain6 ns) {p q2 q4 : Nat} (hb6 : (b6 ns).length ≤ 400) (hpl : (P6 ns).length ≤ 97) (n2 : p + 7 ≤ q2) (n4 : q2 + 1 ≤ q4) {L : Addr} {cells : List (Str × Addr)}
    (tail : ∀ q5 i d s pp m, q4 + 1 ≤ q5 → q5 < i → i < d → d < s → s < pp → pp < m → KX C (n + 19) (F6 C L cells p) [(Str.ofString "b", vI (b6 ns)), (Str.ofString "junk", vI (junk6 (ifirsts (row6 ns)))), (Str.ofString "due", .ref q4), (Str.ofString "matcher", .obj i 242)]
      (S6d ns p q2 q4 q5 (P6 ns) i d s pp (fsM (jV6 C p) (vI []) (vI (b6 ns)) d s pp) (kvI (due6 ns) (plc6 ns)) (junkRun step6 (firsts ((b6 ns).map Key.i)) []).1 (popOf step6 [] ((b6 ns).map Key.i)) m) (R6 C 17) Q6) :
    KX C (n + 19) (F6 C L cells p) [(Str.ofString "b", vI (b6 ns)), (Str.ofString "junk", vI (junk6 (ifirsts (row6 ns)))), (Str.ofString "due", .ref q4)] (S6c ns p q2 q4) (R6 C 15) Q6 := by
  refine kx_newL pes_nil fun q5 _ n5 => ?_
  simp only [Hs.nx_at] at n5
  have lt_p_p3 : p < p + 3 := Nat.lt_add_of_pos_right (by decide)
  have lt_p3_p5 : p + 3 < p + 5 := Nat.add_lt_add_left (by decide) _
  have lt_p_p5 : p < p + 5 := Nat.lt_trans lt_p_p3 lt_p3_p5
  have lt_p5_p6 : p + 5 < p + 6 := Nat.add_lt_add_left (by decide) _
  have lt_p3_p6 : p + 3 < p + 6 := Nat.lt_trans lt_p3_p5 lt_p5_p6
  have lt_p_p6 : p < p + 6 := Nat.lt_trans lt_p_p5 lt_p5_p6
  have lt_p6_q2 : p + 6 < q2 := by first | assumption | omega
  have lt_p5_q2 : p + 5 < q2 := Nat.lt_trans lt_p5_p6 lt_p6_q2
  have lt_p3_q2 : p + 3 < q2 := Nat.lt_trans lt_p3_p6 lt_p6_q2
  have lt_p_q2 : p < q2 := Nat.lt_trans lt_p_p6 lt_p6_q2
  have lt_q2_q4 : q2 < q4 := by first | assumption | omega
  have lt_p6_q4 : p + 6 < q4 := Nat.lt_trans lt_p6_q2 lt_q2_q4
  have lt_p5_q4 : p + 5 < q4 := Nat.lt_trans lt_p5_q2 lt_q2_q4
  have lt_p3_q4 : p + 3 < q4 := Nat.lt_trans lt_p3_q2 lt_q2_q4
  have lt_p_q4 : p < q4 := Nat.lt_trans lt_p_q2 lt_q2_q4
  have lt_q4_q5 : q4 < q5 := by first | assumption | omega
  have lt_q2_q5 : q2 < q5 := Nat.lt_trans lt_q2_q4 lt_q4_q5
  have lt_p6_q5 : p + 6 < q5 := Nat.lt_trans lt_p6_q4 lt_q4_q5
  have lt_p5_q5 : p + 5 < q5 := Nat.lt_trans lt_p5_q4 lt_q4_q5
  have lt_p3_q5 : p + 3 < q5 := Nat.lt_trans lt_p3_q4 lt_q4_q5
  have lt_p_q5 : p < q5 := Nat.lt_trans lt_p_q4 lt_q4_q5
  refine ka_cel (i := p + 6) (by rfl) (by walk_at "hs") (KX.all ?_)
  have hl5 : ((((S6c ns p q2 q4).upd q5 (.list [])).at (q5 + 1)).upd (p + 6) (.cell (some (.ref q5)))).σ q5 = .list [] := by walk_at "hs"
  have hc5 : ((((S6c ns p q2 q4).upd q5 (.list [])).at (q5 + 1)).upd (p + 6) (.cell (some (.ref q5)))).σ (p + 6) = .cell (some (.ref q5)) := by walk_at "hs"
  refine kx_asgE (ke_call (f := .top 242) (vs := [jV6 C p, vI [], vI (b6 ns)]) (kv := []) ?_ (kp_cls X.I (by rfl)) ?_ pks_nil (KC.less (n := n + 19) (m := n + 8 + 8) (kc_make X (n := n + 8) (a := []) (ks := (b6 ns).map Key.i) ?_ ?_ ?_ rfl ?_ rfl ?_ ?_ (flt6 X (p := p) (q5 := q5)) ?_ ?_ ?_ ?_ ?_) (by omega)))
  · walk_at "pu"
  · refine pes_cons (pu_lambdaQ (c := 262) (P := 260) X.T X.B q6e CD rfl) (pes_cons ?_ (pes_cons ?_ pes_nil))
    · exact pu_list pes_nil
    · walk_at "pu"
  · intro hb hi
    show (b6 ns).map V.int = ((b6 ns).map Key.i).map Key.v
    simp [Key.v]
  · simp; omega
  · intro id e; cases e
  · intro id e; cases e
  · intro id e; cases e
  · intro i e; cases e
  · intro hb hi
    exact ⟨hi.list hl5, hi.cell hc5, List.nodup_nil, by simp⟩
  · intro j hj
    simp only [List.mem_cons, List.not_mem_nil, or_false] at hj
    rcases hj with rfl | rfl
    · rw [hl5]; simp
    · rw [hc5]; simp
  · intro k hk
    obtain ⟨x, hx, rfl⟩ := List.mem_map.mp hk
    exact ⟨x, rfl, PL.r x hx⟩
  · refine Nat.le_trans (length_firsts _) ?_
    simp; omega
  · intro i d s pp h1 h2 h3 h4 h' hi em
    simp only [Hs.nx_at, Hs.nx_upd] at h1
    have h5 : pp < h'.nx := hi.nx
    have lt_q5_i : q5 < i := by first | assumption | omega
    have lt_q4_i : q4 < i := Nat.lt_trans lt_q4_q5 lt_q5_i
    have lt_q2_i : q2 < i := Nat.lt_trans lt_q2_q5 lt_q5_i
    have lt_p6_i : p + 6 < i := Nat.lt_trans lt_p6_q5 lt_q5_i
    have lt_p5_i : p + 5 < i := Nat.lt_trans lt_p5_q5 lt_q5_i
    have lt_p3_i : p + 3 < i := Nat.lt_trans lt_p3_q5 lt_q5_i
    have lt_p_i : p < i := Nat.lt_trans lt_p_q5 lt_q5_i
    have lt_i_d : i < d := by first | assumption | omega
    have lt_q5_d : q5 < d := Nat.lt_trans lt_q5_i lt_i_d
    have lt_q4_d : q4 < d := Nat.lt_trans lt_q4_i lt_i_d
    have lt_q2_d : q2 < d := Nat.lt_trans lt_q2_i lt_i_d
    have lt_p6_d : p + 6 < d := Nat.lt_trans lt_p6_i lt_i_d
    have lt_p5_d : p + 5 < d := Nat.lt_trans lt_p5_i lt_i_d
    have lt_p3_d : p + 3 < d := Nat.lt_trans lt_p3_i lt_i_d
    have lt_p_d : p < d := Nat.lt_trans lt_p_i lt_i_d
    have lt_d_s : d < s := by first | assumption | omega
    have lt_i_s : i < s := Nat.lt_trans lt_i_d lt_d_s
    have lt_q5_s : q5 < s := Nat.lt_trans lt_q5_d lt_d_s
    have lt_q4_s : q4 < s := Nat.lt_trans lt_q4_d lt_d_s
    have lt_q2_s : q2 < s := Nat.lt_trans lt_q2_d lt_d_s
    have lt_p6_s : p + 6 < s := Nat.lt_trans lt_p6_d lt_d_s
    have lt_p5_s : p + 5 < s := Nat.lt_trans lt_p5_d lt_d_s
    have lt_p3_s : p + 3 < s := Nat.lt_trans lt_p3_d lt_d_s
    have lt_p_s : p < s := Nat.lt_trans lt_p_d lt_d_s
    have lt_s_pp : s < pp := by first | assumption | omega
    have lt_d_pp : d < pp := Nat.lt_trans lt_d_s lt_s_pp
    have lt_i_pp : i < pp := Nat.lt_trans lt_i_s lt_s_pp
    have lt_q5_pp : q5 < pp := Nat.lt_trans lt_q5_s lt_s_pp
    have lt_q4_pp : q4 < pp := Nat.lt_trans lt_q4_s lt_s_pp
    have lt_q2_pp : q2 < pp := Nat.lt_trans lt_q2_s lt_s_pp
    have lt_p6_pp : p + 6 < pp := Nat.lt_trans lt_p6_s lt_s_pp
    have lt_p5_pp : p + 5 < pp := Nat.lt_trans lt_p5_s lt_s_pp
    have lt_p3_pp : p + 3 < pp := Nat.lt_trans lt_p3_s lt_s_pp
    have lt_p_pp : p < pp := Nat.lt_trans lt_p_s lt_s_pp
    have k1 := (hi.know em.l (Nat.le_refl _)).know em.c (Nat.le_refl _)
    refine KA.up (ka_loc (KX.all ?_)) k1
    refine KX.up (tail q5 i d s pp h'.nx n5 (by omega) h2 h3 h4 h5) ?_
    rw [PL.e0]
    simp only [SM, PL.e1]
    walk_at "in"
end
section
variable {C : Cx} {n : Nat} {h : Hs} {Q : V → Hs → Prop} {mg mb : Str → Option Value}
abbrev S6e (ns : List Int) (p q2 q4 q5 q6 : Nat) (M : List Int) (i d s pp : Nat) (fs : List (Str × V)) (kv : List (Key × V)) (sj so : List Key) (m : Nat) : Hs := ((S6d ns p q2 q4 q5 M i d s pp fs kv sj so m).upd q6 (.list ((b6 ns).map V.int))).at m
abbrev loc6 (C : Cx) (ns : List Int) (q4 i : Nat) : Loc := [(Str.ofString "b", vI (b6 ns)), (Str.ofString "junk", vI (junk6 (ifirsts (row6 ns)))), (Str.ofString "due", .ref q4), (Str.ofString "matcher", .obj i 242)]
theorem law6_h (X : Top C mg mb) {ns : List Int} (PL : Plain6 ns) {p q2 q4 q5 i d s pp m : Nat} (hb6 : (b6 ns).length ≤ 400) (hpl : (P6 ns).length ≤ 97) (n2 : p + 7 ≤ q2) (n4 : q2 + 1 ≤ q4) (n5 : q4 + 1 ≤ q5) (n6 : q5 < i) (n7 : i < d) (n8 : d < s) (n9 : s < pp) (n10 : pp < m) {L : Addr} {cells : List (Str × Addr)}
    (tail : ∀ q6 d s pp m, i < q6 → q6 < d → d < s → s < pp → pp < m → KX C (n + 19) (F6 C L cells p) (loc6 C ns q4 i ++ [(Str.ofString "copy", .ref q6)])
      (S6e ns p q2 q4 q5 q6 (P6 ns) i d s pp (fsM (jV6 C p) (vI []) (.ref q6) d s pp) [] (junkRun step6 (firsts ((b6 ns).map Key.i)) (P6 ns)).1 [] m) (R6 C 20) Q6) :
    KX C (n + 19) (F6 C L cells p) (loc6 C ns q4 i) (S6d ns p q2 q4 q5 (P6 ns) i d s pp (fsM (jV6 C p) (vI []) (vI (b6 ns)) d s pp) (kvI (due6 ns) (plc6 ns)) (junkRun step6 (firsts ((b6 ns).map Key.i)) []).1 (popOf step6 [] ((b6 ns).map Key.i)) m) (R6 C 17) Q6 := by
  have lt_p_p3 : p < p + 3 := Nat.lt_add_of_pos_right (by decide)
  have lt_p3_p5 : p + 3 < p + 5 := Nat.add_lt_add_left (by decide) _
  have lt_p_p5 : p < p + 5 := Nat.lt_trans lt_p_p3 lt_p3_p5
  have lt_p5_p6 : p + 5 < p + 6 := Nat.add_lt_add_left (by decide) _
  have lt_p3_p6 : p + 3 < p + 6 := Nat.lt_trans lt_p3_p5 lt_p5_p6
  have lt_p_p6 : p < p + 6 := Nat.lt_trans lt_p_p5 lt_p5_p6
  have lt_p6_q2 : p + 6 < q2 := by first | assumption | omega
  have lt_p5_q2 : p + 5 < q2 := Nat.lt_trans lt_p5_p6 lt_p6_q2
  have lt_p3_q2 : p + 3 < q2 := Nat.lt_trans lt_p3_p6 lt_p6_q2
  have lt_p_q2 : p < q2 := Nat.lt_trans lt_p_p6 lt_p6_q2
  have lt_q2_q4 : q2 < q4 := by first | assumption | omega
  have lt_p6_q4 : p + 6 < q4 := Nat.lt_trans lt_p6_q2 lt_q2_q4
  have lt_p5_q4 : p + 5 < q4 := Nat.lt_trans lt_p5_q2 lt_q2_q4
  have lt_p3_q4 : p + 3 < q4 := Nat.lt_trans lt_p3_q2 lt_q2_q4
  have lt_p_q4 : p < q4 := Nat.lt_trans lt_p_q2 lt_q2_q4
  have lt_q4_q5 : q4 < q5 := by first | assumption | omega
  have lt_q2_q5 : q2 < q5 := Nat.lt_trans lt_q2_q4 lt_q4_q5
  have lt_p6_q5 : p + 6 < q5 := Nat.lt_trans lt_p6_q4 lt_q4_q5
  have lt_p5_q5 : p + 5 < q5 := Nat.lt_trans lt_p5_q4 lt_q4_q5
  have lt_p3_q5 : p + 3 < q5 := Nat.lt_trans lt_p3_q4 lt_q4_q5
  have lt_p_q5 : p < q5 := Nat.lt_trans lt_p_q4 lt_q4_q5
  have lt_q5_i : q5 < i := by first | assumption | omega
  have lt_q4_i : q4 < i := Nat.lt_trans lt_q4_q5 lt_q5_i
  have lt_q2_i : q2 < i := Nat.lt_trans lt_q2_q5 lt_q5_i
  have lt_p6_i : p + 6 < i := Nat.lt_trans lt_p6_q5 lt_q5_i
  have lt_p5_i : p + 5 < i := Nat.lt_trans lt_p5_q5 lt_q5_i
  have lt_p3_i : p + 3 < i := Nat.lt_trans lt_p3_q5 lt_q5_i
  have lt_p_i : p < i := Nat.lt_trans lt_p_q5 lt_q5_i
  have lt_i_d : i < d := by first | assumption | omega
  have lt_q5_d : q5 < d := Nat.lt_trans lt_q5_i lt_i_d
  have lt_q4_d : q4 < d := Nat.lt_trans lt_q4_i lt_i_d
  have lt_q2_d : q2 < d := Nat.lt_trans lt_q2_i lt_i_d
  have lt_p6_d : p + 6 < d := Nat.lt_trans lt_p6_i lt_i_d
  have lt_p5_d : p + 5 < d := Nat.lt_trans lt_p5_i lt_i_d
  have lt_p3_d : p + 3 < d := Nat.lt_trans lt_p3_i lt_i_d
  have lt_p_d : p < d := Nat.lt_trans lt_p_i lt_i_d
  have lt_d_s : d < s := by first | assumption | omega
  have lt_i_s : i < s := Nat.lt_trans lt_i_d lt_d_s
  have lt_q5_s : q5 < s := Nat.lt_trans lt_q5_d lt_d_s
  have lt_q4_s : q4 < s := Nat.lt_trans lt_q4_d lt_d_s
  have lt_q2_s : q2 < s := Nat.lt_trans lt_q2_d lt_d_s
  have lt_p6_s : p + 6 < s := Nat.lt_trans lt_p6_d lt_d_s
  have lt_p5_s : p + 5 < s := Nat.lt_trans lt_p5_d lt_d_s
  have lt_p3_s : p + 3 < s := Nat.lt_trans lt_p3_d lt_d_s
  have lt_p_s : p < s := Nat.lt_trans lt_p_d lt_d_s
  have lt_s_pp : s < pp := by first | assumption | omega
  have lt_d_pp : d < pp := Nat.lt_trans lt_d_s lt_s_pp
  have lt_i_pp : i < pp := Nat.lt_trans lt_i_s lt_s_pp
  have lt_q5_pp : q5 < pp := Nat.lt_trans lt_q5_s lt_s_pp
  have lt_q4_pp : q4 < pp := Nat.lt_trans lt_q4_s lt_s_pp
  have lt_q2_pp : q2 < pp := Nat.lt_trans lt_q2_s lt_s_pp
  have lt_p6_pp : p + 6 < pp := Nat.lt_trans lt_p6_s lt_s_pp
  have lt_p5_pp : p + 5 < pp := Nat.lt_trans lt_p5_s lt_s_pp
  have lt_p3_pp : p + 3 < pp := Nat.lt_trans lt_p3_s lt_s_pp
  have lt_p_pp : p < pp := Nat.lt_trans lt_p_s lt_s_pp
  have lt_pp_m : pp < m := by first | assumption | omega
  have lt_s_m : s < m := Nat.lt_trans lt_s_pp lt_pp_m
  have lt_d_m : d < m := Nat.lt_trans lt_d_pp lt_pp_m
  have lt_i_m : i < m := Nat.lt_trans lt_i_pp lt_pp_m
  have lt_q5_m : q5 < m := Nat.lt_trans lt_q5_pp lt_pp_m
  have lt_q4_m : q4 < m := Nat.lt_trans lt_q4_pp lt_pp_m
  have lt_q2_m : q2 < m := Nat.lt_trans lt_q2_pp lt_pp_m
  have lt_p6_m : p + 6 < m := Nat.lt_trans lt_p6_pp lt_pp_m
  have lt_p5_m : p + 5 < m := Nat.lt_trans lt_p5_pp lt_pp_m
  have lt_p3_m : p + 3 < m := Nat.lt_trans lt_p3_pp lt_pp_m
  have lt_p_m : p < m := Nat.lt_trans lt_p_pp lt_pp_m
  generalize hS : S6d ns p q2 q4 q5 (P6 ns) i d s pp (fsM (jV6 C p) (vI []) (vI (b6 ns)) d s pp) (kvI (due6 ns) (plc6 ns)) (junkRun step6 (firsts ((b6 ns).map Key.i)) []).1 (popOf step6 [] ((b6 ns).map Key.i)) m = S
  have hl5 : S.σ q5 = .list ((P6 ns).map V.int) := by rw [← hS]; walk_at "hs"
  have hl2 : S.σ q2 = .list ((P6 ns).map V.int) := by rw [← hS]; walk_at "hs"
  have hc6 : S.σ (p + 6) = .cell (some (.ref q5)) := by rw [← hS]; walk_at "hs"
  have hc5 : S.σ (p + 5) = .cell (some (vI (often6 ns))) := by rw [← hS]; walk_at "hs"
  have hc3 : S.σ (p + 3) = .cell (some (.ref q2)) := by rw [← hS]; walk_at "hs"
  have hii : S.σ i = .inst (fsM (jV6 C p) (vI []) (vI (b6 ns)) d s pp) := by rw [← hS]; walk_at "hs"
  have hd : S.σ d = .dict (kvI (due6 ns) (plc6 ns)) := by rw [← hS]; walk_at "hs"
  have hs : S.σ s = .set (junkRun step6 (firsts ((b6 ns).map Key.i)) []).1 := by rw [← hS]; walk_at "hs"
  have hp : S.σ pp = .set (popOf step6 [] ((b6 ns).map Key.i)) := by rw [← hS]; walk_at "hs"
  have h4 : S.σ q4 = .dict (kvI (due6 ns) (plc6 ns)) := by rw [← hS]; walk_at "hs"
  refine kx_if (c := false) (PuB.eq (pub_or0 (pub_cmp (a := .ref q5) (b := .ref q2) ?_ ?_ (p2_ne_ints (xs := P6 ns) (ys := P6 ns) hl5 hl2)) (pub_or0 (pub_not (b := true) (pub_value (v := .bool true) ?_ pt_bool)) pub_or_nil)) (by simp)) (fun e => by cases e) fun _ => kx_nil fun h1 i1 => ?_
  · walk_at "pu"
  · walk_at "pu"
  · refine pu_call0 (f := .top 258) (vs := [.obj i 242, .ref q4, vI (junk6 (ifirsts (row6 ns))), vI (often6 ns)]) ?_ (kp_fn (ok_noted X)) ?_ (PF.less (m := n + 3) (noted X (n := n) (as := due6 ns) (f := plc6 ns) hii (by rfl) (by rfl) (by rfl) hd hs hp (show IsDct S (.ref q4) _ from .inl h4) (jV := vI _) rfl (oV := vI _) rfl ?_ ?_ ?_ PL.e2 PL.e3) (by omega))
    · walk_at "pu"
    · walk_at "pu"
    · have := PL.dnd; omega
    · have := PL.jl; omega
    · have := PL.ol; omega
  refine KX.up (h := S) ?_ i1
  clear i1 h1
  refine kx_asgE (ke_call0 (f := .ty "list") (vs := [vI (b6 ns)]) ?_ kp_ty ?_ (kc_list (v := vI (b6 ns)) rfl (sizeOk (by simp; omega)) fun q6 _ n6' h' hi => ?_))
  · walk_at "pu"
  · walk_at "pu"
  refine KA.up (ka_loc (KX.all ?_)) hi
  clear hi h'
  have n6' : m ≤ q6 := by rw [← hS] at n6'; exact n6'
  have lt_pp_q6 : pp < q6 := by first | assumption | omega
  have lt_s_q6 : s < q6 := Nat.lt_trans lt_s_pp lt_pp_q6
  have lt_d_q6 : d < q6 := Nat.lt_trans lt_d_pp lt_pp_q6
  have lt_i_q6 : i < q6 := Nat.lt_trans lt_i_pp lt_pp_q6
  have lt_q5_q6 : q5 < q6 := Nat.lt_trans lt_q5_pp lt_pp_q6
  have lt_q4_q6 : q4 < q6 := Nat.lt_trans lt_q4_pp lt_pp_q6
  have lt_q2_q6 : q2 < q6 := Nat.lt_trans lt_q2_pp lt_pp_q6
  have lt_p6_q6 : p + 6 < q6 := Nat.lt_trans lt_p6_pp lt_pp_q6
  have lt_p5_q6 : p + 5 < q6 := Nat.lt_trans lt_p5_pp lt_pp_q6
  have lt_p3_q6 : p + 3 < q6 := Nat.lt_trans lt_p3_pp lt_pp_q6
  have lt_p_q6 : p < q6 := Nat.lt_trans lt_p_pp lt_pp_q6
  have hne : ∀ {j}, j < m → j ≠ q6 := fun hj => by omega
  have e5 : ((S.upd q6 (.list ((b6 ns).map V.int))).at (q6 + 1)).σ q5 = .list ((P6 ns).map V.int) := by rw [Hs.σ_at, Hs.σ_ne (by omega)]; exact hl5
  have e6 : ((S.upd q6 (.list ((b6 ns).map V.int))).at (q6 + 1)).σ (p + 6) = .cell (some (.ref q5)) := by rw [Hs.σ_at, Hs.σ_ne (by omega)]; exact hc6
  have e7 : ((S.upd q6 (.list ((b6 ns).map V.int))).at (q6 + 1)).σ q6 = .list ((b6 ns).map V.int) := if_pos rfl
  refine kx_expr (ke_mcall0 (a := .obj i 242) (f := .top 181) (first := [.obj i 242]) (vs := [.ref q6]) ?_ (pm_own X.I (kp_fn (ok_seq2 X.I X.T)) (i := i) (fs := fsM (jV6 C p) (vI []) (vI (b6 ns)) d s pp) ?_ (by rfl)) ?_
    (KC.less (m := n + 8 + 4) (kc_seq2 X (n := n + 8) (i := i) (fs := fsM (jV6 C p) (vI []) (vI (b6 ns)) d s pp) (a := P6 ns) (ks := (b6 ns).map Key.i) (bV := .ref q6) ?_ (by simp [fsM]) (by rfl) (by simp) (by rfl) (x2_is_ref_lst e7) ?_ ?_ (by simp) (by rfl) (by simp) (by rfl) ?_ (flt6 X (p := p) (q5 := q5)) ?_ ?_ ?_ ?_ ?_ ?_ ?_) (by omega)))
  · walk_at "pu"
  · rw [Hs.σ_at, Hs.σ_ne (by omega)]; exact hii
  · walk_at "pu"
  · rw [Hs.σ_at, Hs.σ_ne (by omega)]; exact hii
  · show Hs.σ _ q6 = _
    rw [e7]; simp [Key.v]
  · simp; omega
  · intro e; injection e; omega
  · intro hb hi
    exact ⟨hi.list e5, hi.cell e6, PL.nd, PL.pr⟩
  · intro j hj
    simp only [List.mem_cons, List.not_mem_nil, or_false] at hj
    rcases hj with rfl | rfl
    · rw [e5]; simp
    · rw [e6]; simp
  · simp only [List.mem_cons, List.not_mem_nil, or_false]; omega
  · intro j e
    injection e with e
    simp only [List.mem_cons, List.not_mem_nil, or_false]; omega
  · intro k hk
    obtain ⟨x, hx, rfl⟩ := List.mem_map.mp hk
    exact ⟨x, rfl, PL.r x hx⟩
  · refine Nat.le_trans (length_firsts _) ?_
    simp; omega
  · intro d' s' p' h1 h2 h3 h' hi em
    simp only [Hs.nx_at, Hs.nx_upd] at h1
    have h5 : p' < h'.nx := hi.nx
    have lt_q6_d_ : q6 < d' := by first | assumption | omega
    have lt_pp_d_ : pp < d' := Nat.lt_trans lt_pp_q6 lt_q6_d_
    have lt_s_d_ : s < d' := Nat.lt_trans lt_s_q6 lt_q6_d_
    have lt_d_d_ : d < d' := Nat.lt_trans lt_d_q6 lt_q6_d_
    have lt_i_d_ : i < d' := Nat.lt_trans lt_i_q6 lt_q6_d_
    have lt_q5_d_ : q5 < d' := Nat.lt_trans lt_q5_q6 lt_q6_d_
    have lt_q4_d_ : q4 < d' := Nat.lt_trans lt_q4_q6 lt_q6_d_
    have lt_q2_d_ : q2 < d' := Nat.lt_trans lt_q2_q6 lt_q6_d_
    have lt_p6_d_ : p + 6 < d' := Nat.lt_trans lt_p6_q6 lt_q6_d_
    have lt_p5_d_ : p + 5 < d' := Nat.lt_trans lt_p5_q6 lt_q6_d_
    have lt_p3_d_ : p + 3 < d' := Nat.lt_trans lt_p3_q6 lt_q6_d_
    have lt_p_d_ : p < d' := Nat.lt_trans lt_p_q6 lt_q6_d_
    have lt_d__s_ : d' < s' := by first | assumption | omega
    have lt_q6_s_ : q6 < s' := Nat.lt_trans lt_q6_d_ lt_d__s_
    have lt_pp_s_ : pp < s' := Nat.lt_trans lt_pp_d_ lt_d__s_
    have lt_s_s_ : s < s' := Nat.lt_trans lt_s_d_ lt_d__s_
    have lt_d_s_ : d < s' := Nat.lt_trans lt_d_d_ lt_d__s_
    have lt_i_s_ : i < s' := Nat.lt_trans lt_i_d_ lt_d__s_
    have lt_q5_s_ : q5 < s' := Nat.lt_trans lt_q5_d_ lt_d__s_
    have lt_q4_s_ : q4 < s' := Nat.lt_trans lt_q4_d_ lt_d__s_
    have lt_q2_s_ : q2 < s' := Nat.lt_trans lt_q2_d_ lt_d__s_
    have lt_p6_s_ : p + 6 < s' := Nat.lt_trans lt_p6_d_ lt_d__s_
    have lt_p5_s_ : p + 5 < s' := Nat.lt_trans lt_p5_d_ lt_d__s_
    have lt_p3_s_ : p + 3 < s' := Nat.lt_trans lt_p3_d_ lt_d__s_
    have lt_p_s_ : p < s' := Nat.lt_trans lt_p_d_ lt_d__s_
    have lt_s__p_ : s' < p' := by first | assumption | omega
    have lt_d__p_ : d' < p' := Nat.lt_trans lt_d__s_ lt_s__p_
    have lt_q6_p_ : q6 < p' := Nat.lt_trans lt_q6_s_ lt_s__p_
    have lt_pp_p_ : pp < p' := Nat.lt_trans lt_pp_s_ lt_s__p_
    have lt_s_p_ : s < p' := Nat.lt_trans lt_s_s_ lt_s__p_
    have lt_d_p_ : d < p' := Nat.lt_trans lt_d_s_ lt_s__p_
    have lt_i_p_ : i < p' := Nat.lt_trans lt_i_s_ lt_s__p_
    have lt_q5_p_ : q5 < p' := Nat.lt_trans lt_q5_s_ lt_s__p_
    have lt_q4_p_ : q4 < p' := Nat.lt_trans lt_q4_s_ lt_s__p_
    have lt_q2_p_ : q2 < p' := Nat.lt_trans lt_q2_s_ lt_s__p_
    have lt_p6_p_ : p + 6 < p' := Nat.lt_trans lt_p6_s_ lt_s__p_
    have lt_p5_p_ : p + 5 < p' := Nat.lt_trans lt_p5_s_ lt_s__p_
    have lt_p3_p_ : p + 3 < p' := Nat.lt_trans lt_p3_s_ lt_s__p_
    have lt_p_p_ : p < p' := Nat.lt_trans lt_p_s_ lt_s__p_
    have k1 := (hi.know em.l (Nat.le_refl _)).know em.c (Nat.le_refl _)
    refine KX.up ?_ k1
    refine KX.up (tail q6 d' s' p' h'.nx (by omega) h1 h2 h3 h5) ?_
    rw [PL.e4]
    have e5 := PL.e5
    have e7 := PL.e7
    unfold b2jOf at e5
    unfold popOf at e7
    rw [e5, e7, ← hS]
    walk_at "in"
end
section
variable {C : Cx} {n : Nat} {F : Fr} {loc : Loc} {h : Hs} {Q : V → Hs → Prop} {QL : Loc → Hs → Prop} {mg mb : Str → Option Value}
theorem ka_all {o : Expr} {p p' : Pos} {i j : Nat} {xs ys : List V} (O : Pu C n F loc h o (.ref i)) (hij : i ≠ j) (hi : h.σ i = .list xs) (hj : h.σ j = .list ys) (hz : xs.length + ys.length ≤ sizeLine) (H : ∀ h', (h.upd i (.list ys)).In h' → QL loc h') : KA C n F loc h (.Subscript o (.Slice none none none p') p) (.ref j) QL := fun hb hh =>
  as_all (O hb hh _ fun h1 i1 => ⟨i, xs, rfl, hij, (hh.trans i1).list hi, (hh.trans i1).list hj, hz, H _ (hh.trans i1).upd⟩)
def KEs (C : Cx) (n : Nat) (F : Fr) (loc : Loc) (h : Hs) (es : List Expr) (Q : List V → Hs → Prop) : Prop := ∀ hb, h.In hb → Evs C n F loc hb es Q
theorem kes_nil {QS : List V → Hs → Prop} (q : ∀ h', h.In h' → QS [] h') : KEs C n F loc h [] QS := fun hb hi => evs_nil (q hb hi)
theorem Evs.mono {es : List Expr} {Q₀ QS : List V → Hs → Prop} (H : Evs C n F loc h es Q₀) (k : ∀ v h', Q₀ v h' → QS v h') : Evs C n F loc h es QS := ⟨fun A w pos Q' E a R f c => H.run A w pos Q' E a R f fun x v h' w' q => c x v h' w' (k _ _ q)⟩
theorem kes_cons {e : Expr} {es : List Expr} {QS : List V → Hs → Prop} (A : KE C n F loc h e fun v h1 => KEs C n F loc h1 es fun vs h2 => QS (v :: vs) h2) (he : starEach (e :: es) F.env = (false, eval e F.env) :: starEach es F.env := by rfl) : KEs C n F loc h (e :: es) QS := fun hb hi =>
  evs_cons ((A hb hi).mono fun v h1 q => q h1 (.refl _)) he
theorem ke_mcallE {o : Expr} {name : Str} {p' p : Pos} {es : List Expr} {a f : V} {first : List V} (N : Pu C n F loc h o a) (M : PM C n h a name f first) (A : KEs C n F loc h es fun vs h1 => KC C n h1 f (first ++ vs) [] Q)
    (hs : noStar es = true := by rfl) (hb : attributeBase o name F.env (eval o F.env) = eval o F.env := by rfl)
    (hf : methodCallForm (es.length + 0) (backTo p (starEach es F.env)) (backToKw p (keywordEach [] F.env)) = true := by rfl) (hl : (p'.endLine == p.line) = true := by rfl) : KE C n F loc h (.Call (.Attribute o name p') es [] p) Q := fun hh hi =>
  ev_mcall (ns := []) (N hh hi _ fun h1 i1 => M.2 h1 (hi.trans i1) _ ⟨M.1, (A h1 (hi.trans i1)).mono fun vs h2 q => evk_nil (q h2 (.refl _))⟩) hs rfl hb hf hl
theorem law6_i (X : Top C mg mb) {ns : List Int} (PL : Plain6 ns) {p q2 q4 q5 q6 i d s pp m : Nat} (hr : (row6 ns).length ≤ 96) (hb6 : (b6 ns).length ≤ 400) (hpl : (P6 ns).length ≤ 97) (n2 : p + 7 ≤ q2) (n4 : q2 + 1 ≤ q4) (n5 : q4 + 1 ≤ q5) (n6 : q5 < i) (n7 : i < q6) (n7' : q6 < d) (n8 : d < s) (n9 : s < pp) (n10 : pp < m) {L : Addr} {cells : List (Str × Addr)}
    (tail : ∀ q7 m, pp < q7 → q7 < m → KX C (n + 19) (F6 C L cells p) (loc6 C ns q4 i ++ [(Str.ofString "copy", .ref q6)])
      (S6e ns p q2 q4 q5 q6 [] i d s pp (fsM (jV6 C p) (.ref q7) (.ref q6) d s pp) [] (junkRun step6 (firsts ((b6 ns).map Key.i)) (P6 ns)).1 [] m) (R6 C 24) Q6) :
    KX C (n + 19) (F6 C L cells p) (loc6 C ns q4 i ++ [(Str.ofString "copy", .ref q6)]) (S6e ns p q2 q4 q5 q6 (P6 ns) i d s pp (fsM (jV6 C p) (vI []) (.ref q6) d s pp) [] (junkRun step6 (firsts ((b6 ns).map Key.i)) (P6 ns)).1 [] m) (R6 C 20) Q6 := by
  have lt_p_p3 : p < p + 3 := Nat.lt_add_of_pos_right (by decide)
  have lt_p3_p5 : p + 3 < p + 5 := Nat.add_lt_add_left (by decide) _
  have lt_p_p5 : p < p + 5 := Nat.lt_trans lt_p_p3 lt_p3_p5
  have lt_p5_p6 : p + 5 < p + 6 := Nat.add_lt_add_left (by decide) _
  have lt_p3_p6 : p + 3 < p + 6 := Nat.lt_trans lt_p3_p5 lt_p5_p6
  have lt_p_p6 : p < p + 6 := Nat.lt_trans lt_p_p5 lt_p5_p6
  have lt_p6_q2 : p + 6 < q2 := by first | assumption | omega
  have lt_p5_q2 : p + 5 < q2 := Nat.lt_trans lt_p5_p6 lt_p6_q2
  have lt_p3_q2 : p + 3 < q2 := Nat.lt_trans lt_p3_p6 lt_p6_q2
  have lt_p_q2 : p < q2 := Nat.lt_trans lt_p_p6 lt_p6_q2
  have lt_q2_q4 : q2 < q4 := by first | assumption | omega
  have lt_p6_q4 : p + 6 < q4 := Nat.lt_trans lt_p6_q2 lt_q2_q4
  have lt_p5_q4 : p + 5 < q4 := Nat.lt_trans lt_p5_q2 lt_q2_q4
  have lt_p3_q4 : p + 3 < q4 := Nat.lt_trans lt_p3_q2 lt_q2_q4
  have lt_p_q4 : p < q4 := Nat.lt_trans lt_p_q2 lt_q2_q4
  have lt_q4_q5 : q4 < q5 := by first | assumption | omega
  have lt_q2_q5 : q2 < q5 := Nat.lt_trans lt_q2_q4 lt_q4_q5
  have lt_p6_q5 : p + 6 < q5 := Nat.lt_trans lt_p6_q4 lt_q4_q5
  have lt_p5_q5 : p + 5 < q5 := Nat.lt_trans lt_p5_q4 lt_q4_q5
  have lt_p3_q5 : p + 3 < q5 := Nat.lt_trans lt_p3_q4 lt_q4_q5
  have lt_p_q5 : p < q5 := Nat.lt_trans lt_p_q4 lt_q4_q5
  have lt_q5_i : q5 < i := by first | assumption | omega
  have lt_q4_i : q4 < i := Nat.lt_trans lt_q4_q5 lt_q5_i
  have lt_q2_i : q2 < i := Nat.lt_trans lt_q2_q5 lt_q5_i
  have lt_p6_i : p + 6 < i := Nat.lt_trans lt_p6_q5 lt_q5_i
  have lt_p5_i : p + 5 < i := Nat.lt_trans lt_p5_q5 lt_q5_i
  have lt_p3_i : p + 3 < i := Nat.lt_trans lt_p3_q5 lt_q5_i
  have lt_p_i : p < i := Nat.lt_trans lt_p_q5 lt_q5_i
  have lt_i_q6 : i < q6 := by first | assumption | omega
  have lt_q5_q6 : q5 < q6 := Nat.lt_trans lt_q5_i lt_i_q6
  have lt_q4_q6 : q4 < q6 := Nat.lt_trans lt_q4_i lt_i_q6
  have lt_q2_q6 : q2 < q6 := Nat.lt_trans lt_q2_i lt_i_q6
  have lt_p6_q6 : p + 6 < q6 := Nat.lt_trans lt_p6_i lt_i_q6
  have lt_p5_q6 : p + 5 < q6 := Nat.lt_trans lt_p5_i lt_i_q6
  have lt_p3_q6 : p + 3 < q6 := Nat.lt_trans lt_p3_i lt_i_q6
  have lt_p_q6 : p < q6 := Nat.lt_trans lt_p_i lt_i_q6
  have lt_q6_d : q6 < d := by first | assumption | omega
  have lt_i_d : i < d := Nat.lt_trans lt_i_q6 lt_q6_d
  have lt_q5_d : q5 < d := Nat.lt_trans lt_q5_q6 lt_q6_d
  have lt_q4_d : q4 < d := Nat.lt_trans lt_q4_q6 lt_q6_d
  have lt_q2_d : q2 < d := Nat.lt_trans lt_q2_q6 lt_q6_d
  have lt_p6_d : p + 6 < d := Nat.lt_trans lt_p6_q6 lt_q6_d
  have lt_p5_d : p + 5 < d := Nat.lt_trans lt_p5_q6 lt_q6_d
  have lt_p3_d : p + 3 < d := Nat.lt_trans lt_p3_q6 lt_q6_d
  have lt_p_d : p < d := Nat.lt_trans lt_p_q6 lt_q6_d
  have lt_d_s : d < s := by first | assumption | omega
  have lt_q6_s : q6 < s := Nat.lt_trans lt_q6_d lt_d_s
  have lt_i_s : i < s := Nat.lt_trans lt_i_d lt_d_s
  have lt_q5_s : q5 < s := Nat.lt_trans lt_q5_d lt_d_s
  have lt_q4_s : q4 < s := Nat.lt_trans lt_q4_d lt_d_s
  have lt_q2_s : q2 < s := Nat.lt_trans lt_q2_d lt_d_s
  have lt_p6_s : p + 6 < s := Nat.lt_trans lt_p6_d lt_d_s
  have lt_p5_s : p + 5 < s := Nat.lt_trans lt_p5_d lt_d_s
  have lt_p3_s : p + 3 < s := Nat.lt_trans lt_p3_d lt_d_s
  have lt_p_s : p < s := Nat.lt_trans lt_p_d lt_d_s
  have lt_s_pp : s < pp := by first | assumption | omega
  have lt_d_pp : d < pp := Nat.lt_trans lt_d_s lt_s_pp
  have lt_q6_pp : q6 < pp := Nat.lt_trans lt_q6_s lt_s_pp
  have lt_i_pp : i < pp := Nat.lt_trans lt_i_s lt_s_pp
  have lt_q5_pp : q5 < pp := Nat.lt_trans lt_q5_s lt_s_pp
  have lt_q4_pp : q4 < pp := Nat.lt_trans lt_q4_s lt_s_pp
  have lt_q2_pp : q2 < pp := Nat.lt_trans lt_q2_s lt_s_pp
  have lt_p6_pp : p + 6 < pp := Nat.lt_trans lt_p6_s lt_s_pp
  have lt_p5_pp : p + 5 < pp := Nat.lt_trans lt_p5_s lt_s_pp
  have lt_p3_pp : p + 3 < pp := Nat.lt_trans lt_p3_s lt_s_pp
  have lt_p_pp : p < pp := Nat.lt_trans lt_p_s lt_s_pp
  have lt_pp_m : pp < m := by first | assumption | omega
  have lt_s_m : s < m := Nat.lt_trans lt_s_pp lt_pp_m
  have lt_d_m : d < m := Nat.lt_trans lt_d_pp lt_pp_m
  have lt_q6_m : q6 < m := Nat.lt_trans lt_q6_pp lt_pp_m
  have lt_i_m : i < m := Nat.lt_trans lt_i_pp lt_pp_m
  have lt_q5_m : q5 < m := Nat.lt_trans lt_q5_pp lt_pp_m
  have lt_q4_m : q4 < m := Nat.lt_trans lt_q4_pp lt_pp_m
  have lt_q2_m : q2 < m := Nat.lt_trans lt_q2_pp lt_pp_m
  have lt_p6_m : p + 6 < m := Nat.lt_trans lt_p6_pp lt_pp_m
  have lt_p5_m : p + 5 < m := Nat.lt_trans lt_p5_pp lt_pp_m
  have lt_p3_m : p + 3 < m := Nat.lt_trans lt_p3_pp lt_pp_m
  have lt_p_m : p < m := Nat.lt_trans lt_p_pp lt_pp_m
  generalize hS : S6e ns p q2 q4 q5 q6 (P6 ns) i d s pp (fsM (jV6 C p) (vI []) (.ref q6) d s pp) [] (junkRun step6 (firsts ((b6 ns).map Key.i)) (P6 ns)).1 [] m = S
  have hl5 : S.σ q5 = .list ((P6 ns).map V.int) := by rw [← hS]; walk_at "hs"
  have hl2 : S.σ q2 = .list ((P6 ns).map V.int) := by rw [← hS]; walk_at "hs"
  have hl6 : S.σ q6 = .list ((b6 ns).map V.int) := by rw [← hS]; walk_at "hs"
  have hc6 : S.σ (p + 6) = .cell (some (.ref q5)) := by rw [← hS]; walk_at "hs"
  have hc3 : S.σ (p + 3) = .cell (some (.ref q2)) := by rw [← hS]; walk_at "hs"
  have hc0 : S.σ p = .cell (some (vI (row6 ns))) := by rw [← hS]; walk_at "hs"
  have hii : S.σ i = .inst (fsM (jV6 C p) (vI []) (.ref q6) d s pp) := by rw [← hS]; walk_at "hs"
  have hd : S.σ d = .dict (kvI [] (plc6 ns)) := by rw [← hS]; walk_at "hs"
  have hs : S.σ s = .set (junkRun step6 (firsts ((b6 ns).map Key.i)) (P6 ns)).1 := by rw [← hS]; walk_at "hs"
  have hp : S.σ pp = .set [] := by rw [← hS]; walk_at "hs"
  have hjl := PL.jl
  refine kx_if (c := false) (PuB.eq (pub_or0 (pub_cmp (a := .ref q5) (b := .ref q2) ?_ ?_ (p2_ne_ints (xs := P6 ns) (ys := P6 ns) hl5 hl2)) (pub_or0 (pub_not (b := true) (pub_value (v := .bool true) ?_ pt_bool)) pub_or_nil)) (by simp)) (fun e => by cases e) fun _ => kx_nil fun h1 i1 => ?_
  · walk_at "pu"
  · walk_at "pu"
  · refine pu_call0 (f := .top 258) (vs := [.obj i 242, .fdict [], vI (junk6 (ifirsts (row6 ns)) ++ P6 ns), vI []]) ?_ (kp_fn (ok_noted X)) ?_ (PF.less (m := n + 3) (noted X (n := n) (as := []) (f := plc6 ns) hii (by rfl) (by rfl) (by rfl) hd hs hp (show IsDct S (.fdict []) _ from rfl) (jV := vI _) rfl (oV := vI []) rfl ?_ ?_ ?_ PL.e6 (by rfl)) (by omega))
    · walk_at "pu"
    · refine pes_cons ?_ (pes_cons pu_dict0 (pes_cons (pu_bin (a := vI (junk6 (ifirsts (row6 ns)))) (b := .ref q2) ?_ ?_ (p2_addT (g := V.int) rfl (show IsLst S (.ref q2) _ from hl2) (sizeOk (by omega)))) (pes_cons (pu_list pes_nil) pes_nil)))
      · walk_at "pu"
      · walk_at "pu"
      · walk_at "pu"
    · simp
    · simp; omega
    · simp
  refine KX.up (h := S) ?_ i1
  clear i1 h1
  have hm : S.nx = m := by rw [← hS]; rfl
  refine kx_newL pes_nil fun qt _ nt => ?_
  rw [hm] at nt
  refine ka_all (i := q5) (j := qt) (xs := (P6 ns).map V.int) (ys := []) ?_ (by omega) ?_ ?_ (sizeOk (by simp; omega)) (KX.all ?_)
  · walk_at "pu"
  · rw [Hs.σ_at, Hs.σ_ne (by omega)]; exact hl5
  · exact if_pos rfl
  have iS : (S.upd q5 (.list [])).In (((S.upd qt (.list [])).at (qt + 1)).upd q5 (.list [])) := ⟨by show S.nx ≤ qt + 1; omega, fun j => by
    show AO.le (if j = q5 then _ else if j = qt then _ else S.σ j) (if j = q5 then _ else S.σ j)
    by_cases j1 : j = q5
    · rw [if_pos j1, if_pos j1]; exact AO.le_refl _
    rw [if_neg j1, if_neg j1]
    by_cases j2 : j = qt
    · rw [if_pos j2, j2]
      have : S.σ qt = .dead := by assumption
      rw [this]; exact AO.le_any _
    · rw [if_neg j2]; exact AO.le_refl _⟩
  refine KX.up (h := S.upd q5 (.list [])) ?_ iS
  have hii' : (S.upd q5 (.list [])).σ i = .inst (fsM (jV6 C p) (vI []) (.ref q6) d s pp) := by rw [Hs.σ_ne (by omega)]; exact hii
  refine kx_expr (ke_mcall0 (a := .obj i 242) (f := .top 181) (first := [.obj i 242]) (vs := [.ref q6]) ?_ (pm_own X.I (kp_fn (ok_seq2 X.I X.T)) (i := i) hii' (by rfl)) ?_ (KC.less (m := n + 1) (kc_seq2_same X (n := n) (i := i) hii' (by rfl) (by simp) x2_is_self ?_) (by omega)))
  · walk_at "pu"
  · walk_at "pu"
  refine KX.all ?_
  refine kx_expr (ke_mcallE (a := .obj i 242) (f := .top 174) (first := [.obj i 242]) ?_ (pm_own X.I (kp_fn (ok_seq1 X.I X.T)) (i := i) hii' (by rfl)) (kes_cons (ke_call0 (f := .ty "list") (vs := [vI (row6 ns)]) ?_ kp_ty ?_ (kc_list (v := vI (row6 ns)) rfl (sizeOk (by simp; omega)) fun q7 _ n7 h' hi => kes_nil fun h2 i2 => ?_))))
  · walk_at "pu"
  · walk_at "pu"
  · refine pes_cons (pu_cell (i := p) (by rfl) (by rfl) ?_) pes_nil
    rw [Hs.σ_ne (by omega)]; exact hc0
  have n7 : m ≤ q7 := by rw [← hm]; exact n7
  have i3 := hi.trans i2
  have e7 : h2.σ q7 = .list ((row6 ns).map V.int) := i3.list (if_pos rfl)
  have ei : h2.σ i = .inst (fsM (jV6 C p) (vI []) (.ref q6) d s pp) := i3.inst (by rw [Hs.σ_at, Hs.σ_ne (by omega)]; exact hii')
  refine KC.less (m := n + 1) (kc_seq1 X (n := n) (i := i) ei (by simp [fsM]) (by rfl) (by simp) (x2_is_ref_lst e7) fun h3 i4 => ?_) (by omega)
  refine KX.up (h := h2.upd i (.inst (fsM (jV6 C p) (.ref q7) (.ref q6) d s pp))) ?_ i4
  have hq7 : q7 < h2.nx := i3.nx
  have lt_pp_q7 : pp < q7 := by first | assumption | omega
  have lt_s_q7 : s < q7 := Nat.lt_trans lt_s_pp lt_pp_q7
  have lt_d_q7 : d < q7 := Nat.lt_trans lt_d_pp lt_pp_q7
  have lt_q6_q7 : q6 < q7 := Nat.lt_trans lt_q6_pp lt_pp_q7
  have lt_i_q7 : i < q7 := Nat.lt_trans lt_i_pp lt_pp_q7
  have lt_q5_q7 : q5 < q7 := Nat.lt_trans lt_q5_pp lt_pp_q7
  have lt_q4_q7 : q4 < q7 := Nat.lt_trans lt_q4_pp lt_pp_q7
  have lt_q2_q7 : q2 < q7 := Nat.lt_trans lt_q2_pp lt_pp_q7
  have lt_p6_q7 : p + 6 < q7 := Nat.lt_trans lt_p6_pp lt_pp_q7
  have lt_p5_q7 : p + 5 < q7 := Nat.lt_trans lt_p5_pp lt_pp_q7
  have lt_p3_q7 : p + 3 < q7 := Nat.lt_trans lt_p3_pp lt_pp_q7
  have lt_p_q7 : p < q7 := Nat.lt_trans lt_p_pp lt_pp_q7
  refine KX.up (tail q7 h2.nx (by omega) hq7) ?_
  have i5 : ((((S.upd q5 (.list [])).upd q7 (.list ((row6 ns).map V.int))).at (q7 + 1)).upd i (.inst (fsM (jV6 C p) (.ref q7) (.ref q6) d s pp))).In (h2.upd i (.inst (fsM (jV6 C p) (.ref q7) (.ref q6) d s pp))) := i3.upd
  refine Hs.In.trans (b := ((((S.upd q5 (.list [])).upd q7 (.list ((row6 ns).map V.int))).at h2.nx).upd i (.inst (fsM (jV6 C p) (.ref q7) (.ref q6) d s pp)))) ?_ ⟨Nat.le_refl _, i5.le⟩
  rw [← hS]
  walk_at "in"
end
section
variable {C : Cx} {n : Nat} {mg mb : Str → Option Value}
theorem law6_j (X : Top C mg mb) {ns : List Int} (PL : Plain6 ns) {p q2 q4 q5 q6 q7 i d s pp m : Nat} (hr : (row6 ns).length ≤ 96) (hb6 : (b6 ns).length ≤ 400) (hpl : (P6 ns).length ≤ 97) (n2 : p + 7 ≤ q2) (n4 : q2 + 1 ≤ q4) (n5 : q4 + 1 ≤ q5) (n6 : q5 < i) (n7 : i < q6) (n7' : q6 < d) (n8 : d < s) (n9 : s < pp) (n10 : pp < q7) (n11 : q7 < m) {L : Addr} {cells : List (Str × Addr)} :
    KX C (n + 19) (F6 C L cells p) (loc6 C ns q4 i ++ [(Str.ofString "copy", .ref q6)])
      (S6e ns p q2 q4 q5 q6 [] i d s pp (fsM (jV6 C p) (.ref q7) (.ref q6) d s pp) [] (junkRun step6 (firsts ((b6 ns).map Key.i)) (P6 ns)).1 [] m) (R6 C 24) Q6 := by
  have lt_p_p3 : p < p + 3 := Nat.lt_add_of_pos_right (by decide)
  have lt_p3_p5 : p + 3 < p + 5 := Nat.add_lt_add_left (by decide) _
  have lt_p_p5 : p < p + 5 := Nat.lt_trans lt_p_p3 lt_p3_p5
  have lt_p5_p6 : p + 5 < p + 6 := Nat.add_lt_add_left (by decide) _
  have lt_p3_p6 : p + 3 < p + 6 := Nat.lt_trans lt_p3_p5 lt_p5_p6
  have lt_p_p6 : p < p + 6 := Nat.lt_trans lt_p_p5 lt_p5_p6
  have lt_p6_q2 : p + 6 < q2 := by first | assumption | omega
  have lt_p5_q2 : p + 5 < q2 := Nat.lt_trans lt_p5_p6 lt_p6_q2
  have lt_p3_q2 : p + 3 < q2 := Nat.lt_trans lt_p3_p6 lt_p6_q2
  have lt_p_q2 : p < q2 := Nat.lt_trans lt_p_p6 lt_p6_q2
  have lt_q2_q4 : q2 < q4 := by first | assumption | omega
  have lt_p6_q4 : p + 6 < q4 := Nat.lt_trans lt_p6_q2 lt_q2_q4
  have lt_p5_q4 : p + 5 < q4 := Nat.lt_trans lt_p5_q2 lt_q2_q4
  have lt_p3_q4 : p + 3 < q4 := Nat.lt_trans lt_p3_q2 lt_q2_q4
  have lt_p_q4 : p < q4 := Nat.lt_trans lt_p_q2 lt_q2_q4
  have lt_q4_q5 : q4 < q5 := by first | assumption | omega
  have lt_q2_q5 : q2 < q5 := Nat.lt_trans lt_q2_q4 lt_q4_q5
  have lt_p6_q5 : p + 6 < q5 := Nat.lt_trans lt_p6_q4 lt_q4_q5
  have lt_p5_q5 : p + 5 < q5 := Nat.lt_trans lt_p5_q4 lt_q4_q5
  have lt_p3_q5 : p + 3 < q5 := Nat.lt_trans lt_p3_q4 lt_q4_q5
  have lt_p_q5 : p < q5 := Nat.lt_trans lt_p_q4 lt_q4_q5
  have lt_q5_i : q5 < i := by first | assumption | omega
  have lt_q4_i : q4 < i := Nat.lt_trans lt_q4_q5 lt_q5_i
  have lt_q2_i : q2 < i := Nat.lt_trans lt_q2_q5 lt_q5_i
  have lt_p6_i : p + 6 < i := Nat.lt_trans lt_p6_q5 lt_q5_i
  have lt_p5_i : p + 5 < i := Nat.lt_trans lt_p5_q5 lt_q5_i
  have lt_p3_i : p + 3 < i := Nat.lt_trans lt_p3_q5 lt_q5_i
  have lt_p_i : p < i := Nat.lt_trans lt_p_q5 lt_q5_i
  have lt_i_q6 : i < q6 := by first | assumption | omega
  have lt_q5_q6 : q5 < q6 := Nat.lt_trans lt_q5_i lt_i_q6
  have lt_q4_q6 : q4 < q6 := Nat.lt_trans lt_q4_i lt_i_q6
  have lt_q2_q6 : q2 < q6 := Nat.lt_trans lt_q2_i lt_i_q6
  have lt_p6_q6 : p + 6 < q6 := Nat.lt_trans lt_p6_i lt_i_q6
  have lt_p5_q6 : p + 5 < q6 := Nat.lt_trans lt_p5_i lt_i_q6
  have lt_p3_q6 : p + 3 < q6 := Nat.lt_trans lt_p3_i lt_i_q6
  have lt_p_q6 : p < q6 := Nat.lt_trans lt_p_i lt_i_q6
  have lt_q6_d : q6 < d := by first | assumption | omega
  have lt_i_d : i < d := Nat.lt_trans lt_i_q6 lt_q6_d
  have lt_q5_d : q5 < d := Nat.lt_trans lt_q5_q6 lt_q6_d
  have lt_q4_d : q4 < d := Nat.lt_trans lt_q4_q6 lt_q6_d
  have lt_q2_d : q2 < d := Nat.lt_trans lt_q2_q6 lt_q6_d
  have lt_p6_d : p + 6 < d := Nat.lt_trans lt_p6_q6 lt_q6_d
  have lt_p5_d : p + 5 < d := Nat.lt_trans lt_p5_q6 lt_q6_d
  have lt_p3_d : p + 3 < d := Nat.lt_trans lt_p3_q6 lt_q6_d
  have lt_p_d : p < d := Nat.lt_trans lt_p_q6 lt_q6_d
  have lt_d_s : d < s := by first | assumption | omega
  have lt_q6_s : q6 < s := Nat.lt_trans lt_q6_d lt_d_s
  have lt_i_s : i < s := Nat.lt_trans lt_i_d lt_d_s
  have lt_q5_s : q5 < s := Nat.lt_trans lt_q5_d lt_d_s
  have lt_q4_s : q4 < s := Nat.lt_trans lt_q4_d lt_d_s
  have lt_q2_s : q2 < s := Nat.lt_trans lt_q2_d lt_d_s
  have lt_p6_s : p + 6 < s := Nat.lt_trans lt_p6_d lt_d_s
  have lt_p5_s : p + 5 < s := Nat.lt_trans lt_p5_d lt_d_s
  have lt_p3_s : p + 3 < s := Nat.lt_trans lt_p3_d lt_d_s
  have lt_p_s : p < s := Nat.lt_trans lt_p_d lt_d_s
  have lt_s_pp : s < pp := by first | assumption | omega
  have lt_d_pp : d < pp := Nat.lt_trans lt_d_s lt_s_pp
  have lt_q6_pp : q6 < pp := Nat.lt_trans lt_q6_s lt_s_pp
  have lt_i_pp : i < pp := Nat.lt_trans lt_i_s lt_s_pp
  have lt_q5_pp : q5 < pp := Nat.lt_trans lt_q5_s lt_s_pp
  have lt_q4_pp : q4 < pp := Nat.lt_trans lt_q4_s lt_s_pp
  have lt_q2_pp : q2 < pp := Nat.lt_trans lt_q2_s lt_s_pp
  have lt_p6_pp : p + 6 < pp := Nat.lt_trans lt_p6_s lt_s_pp
  have lt_p5_pp : p + 5 < pp := Nat.lt_trans lt_p5_s lt_s_pp
  have lt_p3_pp : p + 3 < pp := Nat.lt_trans lt_p3_s lt_s_pp
  have lt_p_pp : p < pp := Nat.lt_trans lt_p_s lt_s_pp
  have lt_pp_q7 : pp < q7 := by first | assumption | omega
  have lt_s_q7 : s < q7 := Nat.lt_trans lt_s_pp lt_pp_q7
  have lt_d_q7 : d < q7 := Nat.lt_trans lt_d_pp lt_pp_q7
  have lt_q6_q7 : q6 < q7 := Nat.lt_trans lt_q6_pp lt_pp_q7
  have lt_i_q7 : i < q7 := Nat.lt_trans lt_i_pp lt_pp_q7
  have lt_q5_q7 : q5 < q7 := Nat.lt_trans lt_q5_pp lt_pp_q7
  have lt_q4_q7 : q4 < q7 := Nat.lt_trans lt_q4_pp lt_pp_q7
  have lt_q2_q7 : q2 < q7 := Nat.lt_trans lt_q2_pp lt_pp_q7
  have lt_p6_q7 : p + 6 < q7 := Nat.lt_trans lt_p6_pp lt_pp_q7
  have lt_p5_q7 : p + 5 < q7 := Nat.lt_trans lt_p5_pp lt_pp_q7
  have lt_p3_q7 : p + 3 < q7 := Nat.lt_trans lt_p3_pp lt_pp_q7
  have lt_p_q7 : p < q7 := Nat.lt_trans lt_p_pp lt_pp_q7
  have lt_q7_m : q7 < m := by first | assumption | omega
  have lt_pp_m : pp < m := Nat.lt_trans lt_pp_q7 lt_q7_m
  have lt_s_m : s < m := Nat.lt_trans lt_s_q7 lt_q7_m
  have lt_d_m : d < m := Nat.lt_trans lt_d_q7 lt_q7_m
  have lt_q6_m : q6 < m := Nat.lt_trans lt_q6_q7 lt_q7_m
  have lt_i_m : i < m := Nat.lt_trans lt_i_q7 lt_q7_m
  have lt_q5_m : q5 < m := Nat.lt_trans lt_q5_q7 lt_q7_m
  have lt_q4_m : q4 < m := Nat.lt_trans lt_q4_q7 lt_q7_m
  have lt_q2_m : q2 < m := Nat.lt_trans lt_q2_q7 lt_q7_m
  have lt_p6_m : p + 6 < m := Nat.lt_trans lt_p6_q7 lt_q7_m
  have lt_p5_m : p + 5 < m := Nat.lt_trans lt_p5_q7 lt_q7_m
  have lt_p3_m : p + 3 < m := Nat.lt_trans lt_p3_q7 lt_q7_m
  have lt_p_m : p < m := Nat.lt_trans lt_p_q7 lt_q7_m
  generalize hS : S6e ns p q2 q4 q5 q6 [] i d s pp (fsM (jV6 C p) (.ref q7) (.ref q6) d s pp) [] (junkRun step6 (firsts ((b6 ns).map Key.i)) (P6 ns)).1 [] m = S
  have hl5 : S.σ q5 = .list (([] : List Int).map V.int) := by rw [← hS]; walk_at "hs"
  have hl2 : S.σ q2 = .list ((P6 ns).map V.int) := by rw [← hS]; walk_at "hs"
  have hl6 : S.σ q6 = .list ((b6 ns).map V.int) := by rw [← hS]; walk_at "hs"
  have hc6 : S.σ (p + 6) = .cell (some (.ref q5)) := by rw [← hS]; walk_at "hs"
  have hc5 : S.σ (p + 5) = .cell (some (vI (often6 ns))) := by rw [← hS]; walk_at "hs"
  have hc3 : S.σ (p + 3) = .cell (some (.ref q2)) := by rw [← hS]; walk_at "hs"
  have hii : S.σ i = .inst (fsM (jV6 C p) (.ref q7) (.ref q6) d s pp) := by rw [← hS]; walk_at "hs"
  have hd : S.σ d = .dict (kvI [] (plc6 ns)) := by rw [← hS]; walk_at "hs"
  have h4 : S.σ q4 = .dict (kvI (due6 ns) (plc6 ns)) := by rw [← hS]; walk_at "hs"
  have hs : S.σ s = .set (junkRun step6 (firsts ((b6 ns).map Key.i)) (P6 ns)).1 := by rw [← hS]; walk_at "hs"
  have hp : S.σ pp = .set [] := by rw [← hS]; walk_at "hs"
  have hjl := PL.jl
  refine kx_if (c := false) (PuB.eq (pub_or0 (pub_cmp (a := .ref q5) (b := vI []) ?_ (pu_list pes_nil) (p2_ne_ints (xs := []) (ys := []) (show IsLst S (.ref q5) _ from hl5) rfl)) (pub_or0 (pub_not (b := true) (pub_value (v := .bool true) ?_ pt_bool)) pub_or_nil)) (by simp)) (fun e => by cases e) fun _ => kx_nil fun h1 i1 => ?_
  · walk_at "pu"
  · refine pu_call0 (f := .top 258) (vs := [.obj i 242, .fdict [], vI (junk6 (ifirsts (row6 ns)) ++ P6 ns), vI []]) ?_ (kp_fn (ok_noted X)) ?_ (PF.less (m := n + 3) (noted X (n := n) (as := []) (f := plc6 ns) hii (by rfl) (by rfl) (by rfl) hd hs hp (show IsDct S (.fdict []) _ from rfl) (jV := vI _) rfl (oV := vI []) rfl ?_ ?_ ?_ PL.e6 (by rfl)) (by omega))
    · walk_at "pu"
    · refine pes_cons ?_ (pes_cons pu_dict0 (pes_cons (pu_bin (a := vI (junk6 (ifirsts (row6 ns)))) (b := .ref q2) ?_ ?_ (p2_addT (g := V.int) rfl (show IsLst S (.ref q2) _ from hl2) (sizeOk (by omega)))) (pes_cons (pu_list pes_nil) pes_nil)))
      · walk_at "pu"
      · walk_at "pu"
      · walk_at "pu"
    · simp
    · simp; omega
    · simp
  refine KX.up (h := S) ?_ i1
  clear i1 h1
  refine kx_expr (ke_mcall0 (a := .obj i 242) (f := .top 181) (first := [.obj i 242]) (vs := [vI (b6 ns)]) ?_ (pm_own X.I (kp_fn (ok_seq2 X.I X.T)) (i := i) hii (by rfl)) ?_
    (KC.less (m := n + 8 + 4) (kc_seq2 X (n := n + 8) (i := i) hii (a := []) (ks := (b6 ns).map Key.i) (bV := vI (b6 ns)) (by simp [fsM]) (by rfl) (by simp) (by rfl) (x2_is_lst_ref hl6) ?_ ?_ (by simp) (by rfl) (by simp) (by rfl) ?_ (flt6 X (p := p) (q5 := q5)) ?_ ?_ ?_ ?_ ?_ ?_ ?_) (by omega)))
  · walk_at "pu"
  · refine pes_cons (pu_call0 (f := .ty "list") (vs := [vI (b6 ns)]) ?_ kp_ty ?_ (pf_list (v := vI (b6 ns)) rfl (sizeOk (by simp; omega)))) pes_nil
    · walk_at "pu"
    · walk_at "pu"
  · show (b6 ns).map V.int = ((b6 ns).map Key.i).map Key.v
    simp [Key.v]
  · simp; omega
  · intro e; cases e
  · intro hb hi
    exact ⟨hi.list hl5, hi.cell hc6, List.nodup_nil, by simp⟩
  · intro j hj
    simp only [List.mem_cons, List.not_mem_nil, or_false] at hj
    rcases hj with rfl | rfl
    · rw [hl5]; simp
    · rw [hc6]; simp
  · simp only [List.mem_cons, List.not_mem_nil, or_false]; omega
  · intro j e; cases e
  · intro k hk
    obtain ⟨x, hx, rfl⟩ := List.mem_map.mp hk
    exact ⟨x, rfl, PL.r x hx⟩
  · refine Nat.le_trans (length_firsts _) ?_
    simp; omega
  · intro d' s' p' h1 h2 h3 h' hi em
    have h1 : m ≤ d' := by rw [← hS] at h1; exact h1
    have lt_q7_d_ : q7 < d' := by first | assumption | omega
    have lt_pp_d_ : pp < d' := Nat.lt_trans lt_pp_q7 lt_q7_d_
    have lt_s_d_ : s < d' := Nat.lt_trans lt_s_q7 lt_q7_d_
    have lt_d_d_ : d < d' := Nat.lt_trans lt_d_q7 lt_q7_d_
    have lt_q6_d_ : q6 < d' := Nat.lt_trans lt_q6_q7 lt_q7_d_
    have lt_i_d_ : i < d' := Nat.lt_trans lt_i_q7 lt_q7_d_
    have lt_q5_d_ : q5 < d' := Nat.lt_trans lt_q5_q7 lt_q7_d_
    have lt_q4_d_ : q4 < d' := Nat.lt_trans lt_q4_q7 lt_q7_d_
    have lt_q2_d_ : q2 < d' := Nat.lt_trans lt_q2_q7 lt_q7_d_
    have lt_p6_d_ : p + 6 < d' := Nat.lt_trans lt_p6_q7 lt_q7_d_
    have lt_p5_d_ : p + 5 < d' := Nat.lt_trans lt_p5_q7 lt_q7_d_
    have lt_p3_d_ : p + 3 < d' := Nat.lt_trans lt_p3_q7 lt_q7_d_
    have lt_p_d_ : p < d' := Nat.lt_trans lt_p_q7 lt_q7_d_
    have lt_d__s_ : d' < s' := by first | assumption | omega
    have lt_q7_s_ : q7 < s' := Nat.lt_trans lt_q7_d_ lt_d__s_
    have lt_pp_s_ : pp < s' := Nat.lt_trans lt_pp_d_ lt_d__s_
    have lt_s_s_ : s < s' := Nat.lt_trans lt_s_d_ lt_d__s_
    have lt_d_s_ : d < s' := Nat.lt_trans lt_d_d_ lt_d__s_
    have lt_q6_s_ : q6 < s' := Nat.lt_trans lt_q6_d_ lt_d__s_
    have lt_i_s_ : i < s' := Nat.lt_trans lt_i_d_ lt_d__s_
    have lt_q5_s_ : q5 < s' := Nat.lt_trans lt_q5_d_ lt_d__s_
    have lt_q4_s_ : q4 < s' := Nat.lt_trans lt_q4_d_ lt_d__s_
    have lt_q2_s_ : q2 < s' := Nat.lt_trans lt_q2_d_ lt_d__s_
    have lt_p6_s_ : p + 6 < s' := Nat.lt_trans lt_p6_d_ lt_d__s_
    have lt_p5_s_ : p + 5 < s' := Nat.lt_trans lt_p5_d_ lt_d__s_
    have lt_p3_s_ : p + 3 < s' := Nat.lt_trans lt_p3_d_ lt_d__s_
    have lt_p_s_ : p < s' := Nat.lt_trans lt_p_d_ lt_d__s_
    have lt_s__p_ : s' < p' := by first | assumption | omega
    have lt_d__p_ : d' < p' := Nat.lt_trans lt_d__s_ lt_s__p_
    have lt_q7_p_ : q7 < p' := Nat.lt_trans lt_q7_s_ lt_s__p_
    have lt_pp_p_ : pp < p' := Nat.lt_trans lt_pp_s_ lt_s__p_
    have lt_s_p_ : s < p' := Nat.lt_trans lt_s_s_ lt_s__p_
    have lt_d_p_ : d < p' := Nat.lt_trans lt_d_s_ lt_s__p_
    have lt_q6_p_ : q6 < p' := Nat.lt_trans lt_q6_s_ lt_s__p_
    have lt_i_p_ : i < p' := Nat.lt_trans lt_i_s_ lt_s__p_
    have lt_q5_p_ : q5 < p' := Nat.lt_trans lt_q5_s_ lt_s__p_
    have lt_q4_p_ : q4 < p' := Nat.lt_trans lt_q4_s_ lt_s__p_
    have lt_q2_p_ : q2 < p' := Nat.lt_trans lt_q2_s_ lt_s__p_
    have lt_p6_p_ : p + 6 < p' := Nat.lt_trans lt_p6_s_ lt_s__p_
    have lt_p5_p_ : p + 5 < p' := Nat.lt_trans lt_p5_s_ lt_s__p_
    have lt_p3_p_ : p + 3 < p' := Nat.lt_trans lt_p3_s_ lt_s__p_
    have lt_p_p_ : p < p' := Nat.lt_trans lt_p_s_ lt_s__p_
    have h2' := em.l
    rw [PL.e0] at h2'
    have hi : (SM S [q5, p + 6] step6 [] ((b6 ns).map Key.i) i d' s' p' (fsM (jV6 C p) (.ref q7) (vI (b6 ns)) d' s' p')).In h' := hi
    have k1 := (hi.know h2' (Nat.le_refl _)).know em.c (Nat.le_refl _)
    refine KX.up ?_ k1
    generalize hK : (((((SM S [q5, p + 6] step6 [] ((b6 ns).map Key.i) i d' s' p' (fsM (jV6 C p) (.ref q7) (vI (b6 ns)) d' s' p')).upd q5 (.list ((P6 ns).map V.int))).at h'.nx).upd (p + 6) (.cell (some (.ref q5)))).at h'.nx) = K
    have g4 : K.σ q4 = .dict (kvI (due6 ns) (plc6 ns)) := by rw [← hK]; simp (disch := first | rfl | assumption | exact Nat.ne_of_lt (by assumption) | exact Nat.ne_of_gt (by assumption) | omega) only [SM, Hs.σ_at, Hs.σ_ne, Hs.σ_rm2]; exact h4
    have g5 : K.σ (p + 5) = .cell (some (vI (often6 ns))) := by rw [← hK]; simp (disch := first | rfl | assumption | exact Nat.ne_of_lt (by assumption) | exact Nat.ne_of_gt (by assumption) | omega) only [SM, Hs.σ_at, Hs.σ_ne, Hs.σ_rm2]; exact hc5
    have g6 : K.σ (p + 6) = .cell (some (.ref q5)) := by rw [← hK]; simp (disch := first | rfl | assumption | exact Nat.ne_of_lt (by assumption) | exact Nat.ne_of_gt (by assumption) | omega) only [Hs.σ_at, Hs.σ_eq]
    have gq : K.σ q5 = .list ((P6 ns).map V.int) := by rw [← hK]; simp (disch := first | rfl | assumption | exact Nat.ne_of_lt (by assumption) | exact Nat.ne_of_gt (by assumption) | omega) only [Hs.σ_at, Hs.σ_ne, Hs.σ_eq]
    have g3 : K.σ (p + 3) = .cell (some (.ref q2)) := by rw [← hK]; simp (disch := first | rfl | assumption | exact Nat.ne_of_lt (by assumption) | exact Nat.ne_of_gt (by assumption) | omega) only [SM, Hs.σ_at, Hs.σ_ne, Hs.σ_rm2]; exact hc3
    have g2 : K.σ q2 = .list ((P6 ns).map V.int) := by rw [← hK]; simp (disch := first | rfl | assumption | exact Nat.ne_of_lt (by assumption) | exact Nat.ne_of_gt (by assumption) | omega) only [SM, Hs.σ_at, Hs.σ_ne, Hs.σ_rm2]; exact hl2
    have gi : K.σ i = .inst (fsM (jV6 C p) (.ref q7) (vI (b6 ns)) d' s' p') := by rw [← hK]; simp (disch := first | rfl | assumption | exact Nat.ne_of_lt (by assumption) | exact Nat.ne_of_gt (by assumption) | omega) only [SM, Hs.σ_at, Hs.σ_ne, Hs.σ_eq]
    have gd : K.σ d' = .dict (kvI (due6 ns) (plc6 ns)) := by rw [← hK]; simp (disch := first | rfl | assumption | exact Nat.ne_of_lt (by assumption) | exact Nat.ne_of_gt (by assumption) | omega) only [SM, Hs.σ_at, Hs.σ_ne, Hs.σ_eq, PL.e1]
    have gs : K.σ s' = .set (junkRun step6 (firsts ((b6 ns).map Key.i)) []).1 := by rw [← hK]; simp (disch := first | rfl | assumption | exact Nat.ne_of_lt (by assumption) | exact Nat.ne_of_gt (by assumption) | omega) only [SM, Hs.σ_at, Hs.σ_ne, Hs.σ_eq]
    have gp : K.σ p' = .set (popOf step6 [] ((b6 ns).map Key.i)) := by rw [← hK]; simp (disch := first | rfl | assumption | exact Nat.ne_of_lt (by assumption) | exact Nat.ne_of_gt (by assumption) | omega) only [SM, Hs.σ_at, Hs.σ_ne, Hs.σ_eq]
    refine kx_ret (Pu.eq (pu_andB0 (x := decide (P6 ns = P6 ns)) (y := true) (pu_cmp (a := .ref q5) (b := .ref q2) ?_ ?_ (p2_eq_ints (show IsLst K (.ref q5) _ from gq) (show IsLst K (.ref q2) _ from g2))) ?_) (by simp)) fun _ _ => (rfl : V.bool true = V.bool true)
    · walk_at "pu"
    · walk_at "pu"
    · refine pu_call0 (f := .top 258) (vs := [.obj i 242, .ref q4, vI (junk6 (ifirsts (row6 ns))), vI (often6 ns)]) ?_ (kp_fn (ok_noted X)) ?_ (PF.less (m := n + 3) (noted X (n := n) (as := due6 ns) (f := plc6 ns) gi (by rfl) (by rfl) (by rfl) gd gs gp (show IsDct K (.ref q4) _ from .inl g4) (jV := vI _) rfl (oV := vI _) rfl ?_ ?_ ?_ PL.e2 PL.e3) (by omega))
      · walk_at "pu"
      · walk_at "pu"
      · have := PL.dnd; omega
      · have := PL.jl; omega
      · have := PL.ol; omega
end
section
variable {C : Cx} {n : Nat} {mg mb : Str → Option Value}
theorem law6_all (X : Top C mg mb) (CD : CdOk C 262 260 (Str.ofString "law.<locals>.<lambda>")) {ns : List Int} (hns : ns.length ≤ 63) (PL : Plain6 ns) (hfs : ∀ y ∈ ifirsts (row6 ns), 2 ≤ y) (hnd : (pass6 (ifirsts (row6 ns))).Nodup) (h29 : 29 ∉ pass6 (ifirsts (row6 ns))) (hpl : (P6 ns).length ≤ 97) (hplc : ∀ x, (plc6 ns x).length ≤ 400) :
    KC C (n + 20) Hs.none (.top 263) [.lst (ns.map V.int)] [] fun v _ => v = .bool true := by
  refine law6_a X hns fun p q1 L cells hr hb6 n1 => ?_
  have hfl : (ifirsts (row6 ns)).length ≤ 96 := Nat.le_trans (ifirsts_len _) hr
  have hpf : (pass6 (ifirsts (row6 ns))).length ≤ 96 := by
    simp only [pass6, List.length_map]; exact Nat.le_trans (List.length_filter_le _ _) (by simpa using hfl)
  refine law6_b X hr hb6 n1 ?_
  refine law6_c X hr hfl hfs n1 fun q2 n2 => ?_
  refine law6_d X hr hfl hnd n1 n2 fun q3 n3 => ?_
  refine law6_e X hr hb6 hpf hnd n1 n2 n3 h29 ?_
  refine law6_f X hr hb6 hpl PL.nd hplc n1 n2 n3 fun q4 n4 => ?_
  refine law6_g X CD PL hb6 hpl (by omega) (by omega) fun q5 i d s pp m n5 n6 n7 n8 n9 n10 => ?_
  refine law6_h X PL hb6 hpl (by omega) (by omega) n5 n6 n7 n8 n9 n10 fun q6 d s pp m m1 m2 m3 m4 m5 => ?_
  refine law6_i X PL hr hb6 hpl (by omega) (by omega) n5 n6 m1 m2 m3 m4 m5 fun q7 m k1 k2 => ?_
  exact law6_j X PL hr hb6 hpl (by omega) (by omega) n5 n6 m1 m2 m3 m4 k1 k2
end
def dv (l : List Int) (x : Int) : Bool := l.any fun y => x.fmod y == 0
theorem dv_iff {l : List Int} {x : Int} : dv l x = true ↔ ∃ y ∈ l, y ∣ x := by
  unfold dv
  rw [List.any_eq_true]
  constructor
  · rintro ⟨y, h1, h2⟩; exact ⟨y, h1, Int.dvd_of_fmod_eq_zero (by simpa using h2)⟩
  · rintro ⟨y, h1, h2⟩; exact ⟨y, h1, by simpa using Int.fmod_eq_zero_of_dvd h2⟩
/-- the sieve -/
def sv (ps : List Int) (l : List Int) : List Int := l.foldl (fun ps x => if dv ps x = true then ps else ps ++ [x]) ps
theorem sv_snoc (ps l : List Int) (x : Int) : sv ps (l ++ [x]) = if dv (sv ps l) x = true then sv ps l else sv ps l ++ [x] := by unfold sv; rw [List.foldl_append]; rfl
theorem pass6_snoc (l : List Int) (x : Int) : pass6 (l ++ [x]) = pass6 l ++ if dv l x = true then [] else [x] := by
  unfold pass6
  rw [List.length_append, List.length_singleton, List.range_succ, List.filter_append, List.map_append]
  congr 1
  · have e : ∀ p ∈ List.range l.length, passes (l ++ [x]) p = passes l p := fun p hp => by
      have hp := List.mem_range.mp hp
      unfold passes
      rw [List.take_append_of_le_length (by omega)]
      have : (l ++ [x]).getD p 0 = l.getD p 0 := by simp [List.getD_eq_getElem?_getD, List.getElem?_append_left hp]
      rw [this]
    rw [List.filter_congr e]
    refine List.map_congr_left fun p hp => ?_
    have hp := List.mem_range.mp (List.mem_filter.mp hp).1
    simp [List.getD_eq_getElem?_getD, List.getElem?_append_left hp]
  · have e : passes (l ++ [x]) l.length = !dv l x := by
      unfold passes dv
      simp only [List.take_left', List.getD_eq_getElem?_getD, List.getElem?_append_right (Nat.le_refl _), Nat.sub_self, List.getElem?_cons_zero, Option.getD_some]
      rw [Bool.eq_iff_iff]
      simp [List.filter_eq_nil_iff]
    rw [List.filter_cons, e, List.filter_nil]
    cases dv l x <;> simp [List.getD_eq_getElem?_getD]
theorem pass6_sub (l : List Int) : ∀ y ∈ pass6 l, y ∈ l := by
  induction l using snoc_ind with
  | h0 => simp [pass6]
  | h1 l x ih =>
    intro y hy
    rw [pass6_snoc] at hy
    rcases List.mem_append.mp hy with z | z
    · exact List.mem_append_left _ (ih y z)
    · split at z
      · cases z
      · exact List.mem_append_right _ z
theorem pass6_dv (l : List Int) : ∀ y ∈ l, ∃ z ∈ pass6 l, z ∣ y := by
  induction l using snoc_ind with
  | h0 => simp
  | h1 l x ih =>
    intro y hy
    rw [pass6_snoc]
    rcases List.mem_append.mp hy with z | z
    · obtain ⟨w, h1, h2⟩ := ih y z; exact ⟨w, List.mem_append_left _ h1, h2⟩
    · rw [List.mem_singleton.mp z]
      by_cases hd : dv l x = true
      · obtain ⟨u, h1, h2⟩ := dv_iff.mp hd
        obtain ⟨w, h3, h4⟩ := ih u h1
        exact ⟨w, List.mem_append_left _ h3, Int.dvd_trans h4 h2⟩
      · exact ⟨x, List.mem_append_right _ (by simp [hd]), Int.dvd_refl x⟩
theorem dv_pass6 (l : List Int) (x : Int) : dv (pass6 l) x = dv l x := by
  rw [Bool.eq_iff_iff, dv_iff, dv_iff]
  constructor
  · rintro ⟨y, h1, h2⟩; exact ⟨y, pass6_sub l y h1, h2⟩
  · rintro ⟨y, h1, h2⟩
    obtain ⟨w, h3, h4⟩ := pass6_dv l y h1
    exact ⟨w, h3, Int.dvd_trans h4 h2⟩
theorem sv_pass6 (l : List Int) : sv [] l = pass6 l := by
  induction l using snoc_ind with
  | h0 => rfl
  | h1 l x ih =>
    rw [sv_snoc, ih, pass6_snoc, dv_pass6]
    split <;> simp
theorem pass6_nodup {l : List Int} (h : l.Nodup) : (pass6 l).Nodup := by
  induction l using snoc_ind with
  | h0 => simp [pass6]
  | h1 l x ih =>
    rw [pass6_snoc]
    have h' := List.nodup_append.mp h
    refine List.nodup_append.mpr ⟨ih h'.1, by split <;> simp, fun y hy z hz => ?_⟩
    split at hz
    · cases hz
    · rw [List.mem_singleton.mp hz]
      exact h'.2.2 y (pass6_sub l y hy) x (by simp)
theorem ifirsts_mem (l : List Int) (x : Int) : x ∈ ifirsts l ↔ x ∈ l := by
  induction l using snoc_ind with
  | h0 => simp [ifirsts]
  | h1 l y ih =>
    rw [ifirsts_snoc]
    by_cases h : y ∈ ifirsts l
    · rw [if_pos h, ih]
      constructor
      · exact fun h => List.mem_append_left _ h
      · intro z
        rcases List.mem_append.mp z with z | z
        · exact z
        · have e := List.mem_singleton.mp z; subst e; exact ih.mp h
    · rw [if_neg h, List.mem_append, List.mem_append, ih]
theorem ifirsts_nodup (l : List Int) : (ifirsts l).Nodup := by
  induction l using snoc_ind with
  | h0 => simp [ifirsts]
  | h1 l y ih =>
    rw [ifirsts_snoc]
    by_cases h : y ∈ ifirsts l
    · rw [if_pos h]; exact ih
    · rw [if_neg h]
      exact List.nodup_append.mpr ⟨ih, by simp, fun a ha b hb => by rw [List.mem_singleton.mp hb]; exact fun e => h (e ▸ ha)⟩
theorem firsts_keys (l : List Int) : firsts (l.map Key.i) = (ifirsts l).map Key.i := by
  induction l using snoc_ind with
  | h0 => rfl
  | h1 l y ih =>
    rw [List.map_append, List.map_singleton, firsts_snoc, ih, ifirsts_snoc]
    unfold sadd
    have e : (Key.i y ∈ (ifirsts l).map Key.i) ↔ y ∈ ifirsts l := by simp
    by_cases h : y ∈ ifirsts l
    · rw [if_pos h, if_pos (e.mpr h)]
    · rw [if_neg h, if_neg (fun z => h (e.mp z)), List.map_append]; rfl
theorem step6_fst (ps : List Int) (x : Int) : (step6 ps (.i x)).1 = dv ps x := rfl
theorem run_snd (ps l : List Int) : (junkRun step6 (l.map Key.i) ps).2 = sv ps l := by
  induction l using snoc_ind with
  | h0 => rfl
  | h1 l x ih => rw [List.map_append, List.map_singleton, junkRun_snoc, sv_snoc, ← ih]; rfl
/-- what the sieve drops -/
def jk (ps l : List Int) : List Int := l.filter fun x => !decide (x ∈ sv ps l)
theorem setEqB_of {a b : List Int} (ha : a.Nodup) (h : ∀ x, x ∈ a ↔ x ∈ b) : setEqB (a.map Key.i) b = true := by
  unfold setEqB
  have e : (b.map Key.i).foldl sadd [] = (ifirsts b).map Key.i := firsts_keys b
  rw [e, Bool.and_eq_true]
  constructor
  · have : a.Perm (ifirsts b) := by
      rw [List.perm_iff_count]
      intro x
      rw [ha.count, (ifirsts_nodup b).count]
      have := (h x).trans (ifirsts_mem b x).symm
      by_cases z : x ∈ a
      · rw [if_pos z, if_pos (this.mp z)]
      · rw [if_neg z, if_neg (fun w => z (this.mpr w))]
    simp [this.length_eq]
  · rw [List.all_eq_true]
    intro k hk
    obtain ⟨x, hx, rfl⟩ := List.mem_map.mp hk
    simpa [ifirsts_mem] using (h x).mp hx
theorem sv_sub (ps l : List Int) : ∀ y ∈ sv ps l, y ∈ ps ∨ y ∈ l := by
  induction l using snoc_ind with
  | h0 => exact fun y h => .inl h
  | h1 l x ih =>
    intro y hy
    rw [sv_snoc] at hy
    split at hy
    · exact (ih y hy).imp id (List.mem_append_left _)
    · rcases List.mem_append.mp hy with z | z
      · exact (ih y z).imp id (List.mem_append_left _)
      · exact .inr (List.mem_append_right _ z)
/-- from an empty memory: dropped is what does not stay -/
theorem run_fst (l : List Int) (h : l.Nodup) : (junkRun step6 (l.map Key.i) []).1 = (jk [] l).map Key.i := by
  induction l using snoc_ind with
  | h0 => rfl
  | h1 l x ih =>
    have h' := List.nodup_append.mp h
    have hx : x ∉ l := fun z => h'.2.2 x z x (by simp) rfl
    have hxs : x ∉ sv [] l := fun z => (sv_sub [] l x z).elim (by simp) hx
    rw [List.map_append, List.map_singleton, junkRun_snoc, ih h'.1, run_snd, step6_fst]
    unfold jk
    rw [sv_snoc, List.filter_append]
    cases hd : dv (sv [] l) x with
    | true =>
      rw [if_pos rfl, if_pos rfl]
      have : Key.i x ∉ (l.filter fun x => !decide (x ∈ sv [] l)).map Key.i := by
        simp only [List.mem_map, List.mem_filter, not_exists, not_and]
        rintro a ⟨z, _⟩ e
        injection e with e
        exact hx (e ▸ z)
      unfold sadd
      rw [if_neg this, List.map_append]
      simp [hxs]
    | false =>
      rw [if_neg Bool.false_ne_true, if_neg Bool.false_ne_true]
      have e1 : ([x].filter fun y => !decide (y ∈ sv [] l ++ [x])) = [] := by simp
      rw [e1, List.append_nil]
      refine congrArg (List.map Key.i) (List.filter_congr fun y hy => ?_)
      have : y ≠ x := fun e => hx (e ▸ hy)
      simp [this]
/-- from a memory that divides all: all is dropped -/
theorem run_full (ps l : List Int) (hd : ∀ x ∈ l, dv ps x = true) (h : l.Nodup) : junkRun step6 (l.map Key.i) ps = (l.map Key.i, ps) := by
  induction l using snoc_ind with
  | h0 => rfl
  | h1 l x ih =>
    have h' := List.nodup_append.mp h
    have hx : x ∉ l := fun z => h'.2.2 x z x (by simp) rfl
    rw [List.map_append, List.map_singleton, junkRun_snoc, ih (fun y hy => hd y (List.mem_append_left _ hy)) h'.1]
    have e := hd x (by simp)
    simp only [step6_fst, step6_snd, e, if_true]
    unfold sadd
    rw [if_neg]
    simpa using hx
theorem dv_self {l : List Int} {x : Int} (h : x ∈ l) : dv l x = true := dv_iff.mpr ⟨x, h, Int.dvd_refl x⟩
theorem fm24 (a : Int) : 0 ≤ a.fmod 24 ∧ a.fmod 24 < 24 := fmod_range a (by decide)
theorem row06_r (ns : List Int) : ∀ x ∈ row06 ns, 2 ≤ x ∧ x ≤ 25 := fun x hx => by
  unfold row06 at hx
  rcases List.mem_append.mp hx with z | z
  · obtain ⟨y, _, rfl⟩ := List.mem_map.mp z; have := fm24 y; omega
  · have := fm24 (ns.length : Int)
    simp only [List.mem_cons, List.not_mem_nil, or_false] at z
    omega
theorem rise6_r : ∀ x ∈ rise6, 2 ≤ x ∧ x ≤ 25 := fun x hx => by
  obtain ⟨i, hi, rfl⟩ := List.mem_map.mp hx
  have := List.mem_range.mp hi; omega
theorem row6_mem (ns : List Int) : row6 ns ∈ rows6 ns := by
  have m1 := fmod_range ((head6 ns).fdiv 4) (m := 4) (by decide)
  have : (((head6 ns).fdiv 4).fmod 4).toNat < 4 := by omega
  have e : (rows6 ns)[(((head6 ns).fdiv 4).fmod 4).toNat]? = some (row6 ns) := by
    simp only [row6, List.getD_eq_getElem?_getD]
    rw [List.getElem?_eq_getElem (by simpa [rows6] using this)]; rfl
  exact List.mem_of_getElem? e
theorem row6_r (ns : List Int) : ∀ x ∈ row6 ns, 2 ≤ x ∧ x ≤ 25 := fun x hx => by
  have h := row6_mem ns
  have h0 := row06_r ns
  have h1 := rise6_r
  simp only [rows6, List.mem_cons, List.not_mem_nil, or_false] at h
  rcases h with e | e | e | e <;> rw [e] at hx
  · exact h0 x hx
  · rcases List.mem_append.mp hx with z | z
    · exact h1 x z
    · exact h0 x z
  · rcases List.mem_append.mp hx with z | z
    · exact h1 x (List.mem_reverse.mp z)
    · exact h0 x z
  · rcases List.mem_append.mp hx with z | z
    · exact h0 x z
    · exact h1 x z
theorem row6_len {ns : List Int} (h : ns.length ≤ 63) : (row6 ns).length ≤ 96 := by
  have hm := row6_mem ns
  have hr0 : (row06 ns).length ≤ 72 := by simp [row06]; omega
  have hri : rise6.length = 24 := rfl
  simp only [rows6, List.mem_cons, List.not_mem_nil, or_false] at hm
  rcases hm with e | e | e | e <;> rw [e] <;> simp [hri] <;> omega
def tail6 (ns : List Int) : Nat := (size6 ns - (row6 ns).length).toNat
theorem b6_eq (ns : List Int) : b6 ns = row6 ns ++ List.replicate (tail6 ns) 29 := rfl
theorem b6_len (ns : List Int) : (b6 ns).length = (row6 ns).length + tail6 ns := by simp [b6_eq]
theorem size6_le (ns : List Int) : size6 ns ≤ 300 := by
  have m2 := fmod_range (head6 ns) (m := 4) (by decide)
  have : (((head6 ns)).fmod 4).toNat < 4 := by omega
  unfold size6
  generalize (((head6 ns)).fmod 4).toNat = k at this
  have : k = 0 ∨ k = 1 ∨ k = 2 ∨ k = 3 := by omega
  rcases this with rfl | rfl | rfl | rfl <;> decide
theorem b6_le {ns : List Int} (h : ns.length ≤ 63) : (b6 ns).length ≤ 396 := by
  have := row6_len h; have := size6_le ns
  rw [b6_len]; unfold tail6; omega
theorem b6_r (ns : List Int) : ∀ x ∈ b6 ns, 2 ≤ x ∧ x ≤ 29 := fun x hx => by
  rw [b6_eq] at hx
  rcases List.mem_append.mp hx with z | z
  · have := row6_r ns x z; omega
  · rw [List.eq_of_mem_replicate z]; omega
theorem ifirsts_rep (l : List Int) (h : 29 ∉ l) : ∀ m, ifirsts (l ++ List.replicate m 29) = if 0 < m then ifirsts l ++ [29] else ifirsts l
  | 0 => by simp
  | m + 1 => by
    rw [List.replicate_succ', ← List.append_assoc, ifirsts_snoc, ifirsts_rep l h m]
    have h' : 29 ∉ ifirsts l := fun z => h ((ifirsts_mem l 29).mp z)
    by_cases hm : 0 < m
    · simp [hm]
    · simp [hm, h']
theorem no29 (ns : List Int) : 29 ∉ row6 ns := fun z => by have := row6_r ns 29 z; omega
theorem f6_nodup (ns : List Int) : (ifirsts (row6 ns)).Nodup := ifirsts_nodup _
theorem dv29 {l : List Int} (h : ∀ x ∈ l, 2 ≤ x ∧ x ≤ 25) : dv l 29 = false := by
  rw [Bool.eq_false_iff]
  intro z
  obtain ⟨y, h1, h2⟩ := dv_iff.mp z
  have h3 := h y h1
  have : ∀ k : Fin 24, ¬ ((k.val : Int) + 2) ∣ 29 := by decide
  have h4 := this ⟨(y - 2).toNat, by omega⟩
  simp only at h4
  rw [show (((y - 2).toNat : Nat) : Int) + 2 = y by omega] at h4
  exact h4 h2
/-- all numbers once, in order -/
def all6 (ns : List Int) : List Int := ifirsts (b6 ns)
theorem all6_eq (ns : List Int) : all6 ns = if 0 < tail6 ns then ifirsts (row6 ns) ++ [29] else ifirsts (row6 ns) := by
  unfold all6; rw [b6_eq, ifirsts_rep _ (no29 ns)]
theorem tail6_iff (ns : List Int) : (row6 ns).length < (b6 ns).length ↔ 0 < tail6 ns := by rw [b6_len]; omega
theorem f6_r (ns : List Int) : ∀ x ∈ ifirsts (row6 ns), 2 ≤ x ∧ x ≤ 25 := fun x hx => row6_r ns x ((ifirsts_mem _ x).mp hx)
theorem P6_eq (ns : List Int) : P6 ns = pass6 (all6 ns) := by
  unfold P6
  rw [all6_eq]
  by_cases h : 0 < tail6 ns
  · rw [if_pos ((tail6_iff ns).mpr h), if_pos h, pass6_snoc, dv29 (f6_r ns)]; simp
  · rw [if_neg (fun z => h ((tail6_iff ns).mp z)), if_neg h]
theorem junk6_eq (ns : List Int) : junk6 (ifirsts (row6 ns)) = jk [] (all6 ns) := by
  unfold junk6 jk
  rw [sv_pass6, all6_eq]
  by_cases h : 0 < tail6 ns
  · rw [if_pos h, pass6_snoc, dv29 (f6_r ns), List.filter_append]
    have h29 : ∀ x ∈ ifirsts (row6 ns), x ≠ 29 := fun x hx e => by have := f6_r ns x hx; omega
    have e1 : ([29].filter fun x => !decide (x ∈ pass6 (ifirsts (row6 ns)) ++ if false = true then [] else [29])) = [] := by simp
    rw [e1, List.append_nil]
    refine List.filter_congr fun x hx => ?_
    simp [h29 x hx]
  · rw [if_neg h]
theorem plc_eq (ns : List Int) (x : Int) : (places ((b6 ns).map Key.i) (.i x)).map (fun (j : Nat) => (j : Int)) = if x = 29 then span6 (row6 ns).length (b6 ns).length else pl6 (row6 ns) x := by
  unfold places
  rw [List.length_map, b6_len, List.range_add, List.filter_append, List.map_append]
  have hl : ∀ j < (row6 ns).length, ((b6 ns).map Key.i)[j]? = some (.i ((row6 ns).getD j 0)) := fun j hj => by
    rw [List.getElem?_map, b6_eq, List.getElem?_append_left hj, List.getElem?_eq_getElem hj]
    simp [List.getD_eq_getElem?_getD, List.getElem?_eq_getElem hj]
  have hr : ∀ j < tail6 ns, ((b6 ns).map Key.i)[(row6 ns).length + j]? = some (.i 29) := fun j hj => by
    rw [List.getElem?_map, b6_eq, List.getElem?_append_right (by omega), Nat.add_sub_cancel_left, List.getElem?_replicate, if_pos hj]; rfl
  have e1 : ∀ j ∈ List.range (row6 ns).length, decide (((b6 ns).map Key.i)[j]? = some (.i x)) = ((row6 ns).getD j 0 == x) := fun j hj => by
    rw [hl j (List.mem_range.mp hj)]
    rw [Bool.eq_iff_iff]; simp
  have e2 : ∀ j ∈ (List.range (tail6 ns)).map ((row6 ns).length + ·), decide (((b6 ns).map Key.i)[j]? = some (.i x)) = (29 == x) := fun j hj => by
    obtain ⟨i, hi, rfl⟩ := List.mem_map.mp hj
    rw [hr i (List.mem_range.mp hi)]
    rw [Bool.eq_iff_iff]; simp
  rw [List.filter_congr e1, List.filter_congr e2]
  by_cases h : x = 29
  · subst h
    rw [if_pos rfl]
    have e3 : (List.range (row6 ns).length).filter (fun j => (row6 ns).getD j 0 == 29) = [] := by
      rw [List.filter_eq_nil_iff]
      intro j hj z
      have hj := List.mem_range.mp hj
      have : (row6 ns).getD j 0 ∈ row6 ns := by
        rw [List.getD_eq_getElem?_getD, List.getElem?_eq_getElem hj]; exact List.getElem_mem hj
      have h2 := row6_r ns _ this
      have z : (row6 ns).getD j 0 = 29 := by simpa using z
      omega
    rw [e3]
    simp only [beq_self_eq_true, filter_tt, List.map_nil, List.nil_append, span6, List.map_map]
    rw [show (row6 ns).length + tail6 ns - (row6 ns).length = tail6 ns by omega]
    refine List.map_congr_left fun i _ => ?_
    simp
  · rw [if_neg h]
    have : (29 == x) = false := by simpa using fun e : (29 : Int) = x => h e.symm
    have e4 : ((List.range (tail6 ns)).map ((row6 ns).length + ·)).filter (fun _ => 29 == x) = [] := by
      rw [List.filter_eq_nil_iff]; intro j _; simp [this]
    rw [e4, List.map_nil, List.append_nil]
    rfl
theorem intsV_eq (l : List Nat) : intsV l = (l.map fun (j : Nat) => (j : Int)).map V.int := by simp [intsV, List.map_map, Function.comp_def]
theorem plc_len (ns : List Int) (x : Int) : (plc6 ns x).length = (places ((b6 ns).map Key.i) (.i x)).length := by
  have := congrArg List.length (plc_eq ns x)
  rw [List.length_map] at this
  unfold plc6
  rw [this]
theorem all6_nodup (ns : List Int) : (all6 ns).Nodup := ifirsts_nodup _
theorem P6_sub (ns : List Int) : ∀ x ∈ P6 ns, x ∈ all6 ns := by rw [P6_eq]; exact pass6_sub _
theorem due6_eq (ns : List Int) : due6 ns = (P6 ns).filter fun x => !(decide (200 ≤ (b6 ns).length) && decide (((b6 ns).length / 100 + 1 : Nat) < (plc6 ns x).length)) := by
  unfold due6
  refine List.filter_congr fun x hx => ?_
  have : x ∈ often6 ns ↔ (decide (200 ≤ (b6 ns).length) && decide (((b6 ns).length / 100 + 1 : Nat) < (plc6 ns x).length)) = true := by
    unfold often6
    rw [List.mem_filter]
    exact ⟨fun h => h.2, fun h => ⟨hx, h⟩⟩
  rw [Bool.eq_iff_iff]
  rw [Bool.not_eq_true', Bool.not_eq_true', decide_eq_false_iff_not, this, Bool.not_eq_true]
theorem kept6 (ns : List Int) : ((firsts ((b6 ns).map Key.i)).filter fun k => k ∉ (junkRun step6 (firsts ((b6 ns).map Key.i)) []).1) = (P6 ns).map Key.i := by
  rw [firsts_keys, show ifirsts (b6 ns) = all6 ns from rfl, run_fst _ (all6_nodup ns), List.filter_map]
  congr 1
  rw [P6_eq, ← sv_pass6]
  have e : ∀ x ∈ all6 ns, ((fun k => decide (k ∉ (jk [] (all6 ns)).map Key.i)) ∘ Key.i) x = decide (x ∈ sv [] (all6 ns)) := fun x hx => by
    simp only [Function.comp_def]
    rw [Bool.eq_iff_iff]
    simp [jk, hx]
  rw [List.filter_congr e]
  have h2 : ∀ l : List Int, l.Nodup → l.filter (fun x => decide (x ∈ sv [] l)) = sv [] l := by
    intro l
    induction l using snoc_ind with
    | h0 => intro _; rfl
    | h1 l x ih =>
      intro h
      have h' := List.nodup_append.mp h
      have hx : x ∉ l := fun z => h'.2.2 x z x (by simp) rfl
      have hxs : x ∉ sv [] l := fun z => (sv_sub [] l x z).elim (by simp) hx
      rw [sv_snoc, List.filter_append]
      cases hd : dv (sv [] l) x with
      | true =>
        rw [if_pos rfl, ih h'.1]; simp [hxs]
      | false =>
        rw [if_neg Bool.false_ne_true]
        have e1 : l.filter (fun y => decide (y ∈ sv [] l ++ [x])) = l.filter fun y => decide (y ∈ sv [] l) := List.filter_congr fun y hy => by
          have : y ≠ x := fun e => hx (e ▸ hy)
          simp [this]
        rw [e1, ih h'.1]; simp
  exact h2 _ (all6_nodup ns)
theorem all6_dv (ns : List Int) : ∀ x ∈ all6 ns, dv (P6 ns) x = true := fun x hx => by
  rw [P6_eq, dv_pass6]; exact dv_self hx
theorem run_full6 (ns : List Int) : junkRun step6 (firsts ((b6 ns).map Key.i)) (P6 ns) = ((all6 ns).map Key.i, P6 ns) := by
  rw [firsts_keys]; exact run_full _ _ (all6_dv ns) (all6_nodup ns)
theorem kept_full (ns : List Int) : ((firsts ((b6 ns).map Key.i)).filter fun k => k ∉ (junkRun step6 (firsts ((b6 ns).map Key.i)) (P6 ns)).1) = [] := by
  rw [run_full6, firsts_keys, List.filter_eq_nil_iff]
  intro k hk
  have : k ∈ (all6 ns).map Key.i := hk
  simpa using this
theorem all6_len {ns : List Int} (h : ns.length ≤ 63) : (all6 ns).length ≤ 97 := by
  have h1 := ifirsts_len (row6 ns)
  have h2 := row6_len h
  rw [all6_eq]
  split <;> simp <;> omega
theorem P6_len {ns : List Int} (h : ns.length ≤ 63) : (P6 ns).length ≤ 97 := by
  rw [P6_eq]
  have : (pass6 (all6 ns)).length ≤ (all6 ns).length := by
    simp only [pass6, List.length_map]; exact Nat.le_trans (List.length_filter_le _ _) (by simp)
  exact Nat.le_trans this (all6_len h)
theorem plain6 {ns : List Int} (h : ns.length ≤ 63) : Plain6 ns where
  e0 := by rw [firsts_keys, run_snd, sv_pass6, P6_eq]; rfl
  e1 := by
    unfold b2jOf kvI
    rw [kept6, due6_eq, List.length_map]
    by_cases h2 : 200 ≤ (b6 ns).length
    · rw [if_pos h2, List.filter_map, List.map_map]
      have e : ∀ x ∈ P6 ns, ((fun k => !decide ((((b6 ns).length / 100 + 1 : Nat) : Int) < ((places ((b6 ns).map Key.i) k).length : Int))) ∘ Key.i) x = !(decide (200 ≤ (b6 ns).length) && decide (((b6 ns).length / 100 + 1 : Nat) < (plc6 ns x).length)) := fun x _ => by
        simp only [Function.comp_def, plc_len, h2, decide_true, Bool.true_and]
        congr 1
        rw [Bool.eq_iff_iff]; simp; omega
      rw [List.filter_congr e]
      refine List.map_congr_left fun x _ => ?_
      simp only [Function.comp_def, intsV_eq, plc_eq]
      rfl
    · rw [if_neg h2, List.map_map]
      have e : ∀ x ∈ P6 ns, (!(decide (200 ≤ (b6 ns).length) && decide (((b6 ns).length / 100 + 1 : Nat) < (plc6 ns x).length))) = true := fun x _ => by simp [h2]
      rw [List.filter_eq_self.mpr e]
      refine List.map_congr_left fun x _ => ?_
      simp only [Function.comp_def, intsV_eq, plc_eq]
      rfl
  e2 := by
    rw [firsts_keys, show ifirsts (b6 ns) = all6 ns from rfl, run_fst _ (all6_nodup ns)]
    refine setEqB_of ((all6_nodup ns).filter _) fun x => ?_
    rw [junk6_eq]
  e3 := by
    have e : popOf step6 [] ((b6 ns).map Key.i) = (often6 ns).map Key.i := by
      unfold popOf often6
      rw [kept6, List.length_map]
      by_cases h2 : 200 ≤ (b6 ns).length
      · rw [if_pos h2, List.filter_map]
        congr 1
        refine List.filter_congr fun x _ => ?_
        simp only [Function.comp_def, plc_len, h2, decide_true, Bool.true_and]
        rw [Bool.eq_iff_iff]; simp; omega
      · rw [if_neg h2]
        have : (P6 ns).filter (fun x => decide (200 ≤ (b6 ns).length) && decide (((b6 ns).length / 100 + 1 : Nat) < (plc6 ns x).length)) = [] := by
          rw [List.filter_eq_nil_iff]; intro x _; simp [h2]
        rw [this]; rfl
    rw [e]
    refine setEqB_of ?_ fun x => Iff.rfl
    exact List.Nodup.sublist List.filter_sublist (by rw [P6_eq]; exact pass6_nodup (all6_nodup ns))
  e4 := by rw [run_full6]
  e5 := by unfold b2jOf; rw [kept_full]; simp
  e6 := by
    rw [run_full6]
    refine setEqB_of (all6_nodup ns) fun x => ?_
    rw [junk6_eq, List.mem_append, P6_eq, ← sv_pass6]
    unfold jk
    rw [List.mem_filter]
    have hs : x ∈ sv [] (all6 ns) → x ∈ all6 ns := fun z => (sv_sub [] _ x z).elim (by simp) id
    by_cases z : x ∈ sv [] (all6 ns)
    · simp [z, hs z]
    · simp [z]
  e7 := by unfold popOf; rw [kept_full]; simp
  r := b6_r ns
  pr := fun x hx => b6_r ns x ((ifirsts_mem _ x).mp (P6_sub ns x hx))
  nd := by rw [P6_eq]; exact pass6_nodup (all6_nodup ns)
  dnd := Nat.le_trans (List.length_filter_le _ _) (P6_len h)
  jl := by
    have h1 := ifirsts_len (row6 ns)
    have h2 := row6_len h
    exact Nat.le_trans (List.length_filter_le _ _) (by omega)
  ol := Nat.le_trans (List.length_filter_le _ _) (P6_len h)
section
variable {C : Cx} {n : Nat} {mg mb : Str → Option Value}
theorem law6_true (X : Top C mg mb) (CD : CdOk C 262 260 (Str.ofString "law.<locals>.<lambda>")) {ns : List Int} (hns : ns.length ≤ 63) :
    KC C (n + 20) Hs.none (.top 263) [.lst (ns.map V.int)] [] fun v _ => v = .bool true := by
  refine law6_all X CD hns (plain6 hns) (fun y hy => (f6_r ns y hy).1) (pass6_nodup (f6_nodup ns)) (fun z => ?_) (P6_len hns) (fun x => ?_)
  · have := f6_r ns 29 (pass6_sub _ _ z); omega
  · rw [plc_len]
    have := length_places ((b6 ns).map Key.i) (.i x)
    have h2 := b6_le hns
    rw [List.length_map] at this; omega
end
/-- the start of a law's walk -/
def tabq0 : Addr → Str := fun a => if a = Kt.getD 0 0 then Str.ofString "SequenceMatcher.ratio.<locals>.<genexpr>" else Str.ofString "law.<locals>.<lambda>"
noncomputable def Cx0 (w : World) (s : Shared) : Cx := ⟨pw, w, s.os, Kt, tabq0, s.heap⟩
noncomputable def g0 (h : Heap) : G := fun a => if a ∈ Kt then none else h.get? a
theorem seen_KF {P : Params} {h : Heap} (Y : Ka.map h.get? = Kv P) : ∀ a o, (KF P).lookup a = some o → h.get? a = some o := fun a o e => by
  have : ∀ l : W.Frag, (∀ x ∈ l, h.get? x.1 = some x.2) → l.lookup a = some o → h.get? a = some o := by
    intro l
    induction l with
    | nil => intro _ e; cases e
    | cons x l ih =>
      intro H e
      rw [List.lookup_cons] at e
      cases hb : a == x.1 with
      | true => rw [hb] at e; cases e; rw [eq_of_beq hb]; exact H x (by simp)
      | false => rw [hb] at e; exact ih (fun y hy => H y (by simp [hy])) e
  refine this _ ?_ e
  have e2 : Ka = (KF P).map (·.1) ++ Kt := by rfl
  have e3 : ∃ t, Kv P = (KF P).map (fun x => some x.2) ++ t := ⟨Kt.map fun _ => some (W.tabObj #[]), by rfl⟩
  obtain ⟨t, e3⟩ := e3
  rw [e2, e3, List.map_append] at Y
  have Y := (List.append_inj Y (by simp)).1
  rw [List.map_map] at Y
  intro x hx
  have := List.map_inj_left.mp Y x hx
  exact this
theorem seen_Kt {P : Params} {h : Heap} (Y : Ka.map h.get? = Kv P) : ∀ a ∈ Kt, h.get? a = some (W.tabObj #[]) := fun a ha => by
  have e2 : Ka = (KF P).map (·.1) ++ Kt := by rfl
  have e3 : Kv P = (KF P).map (fun x => some x.2) ++ Kt.map fun _ => some (W.tabObj #[]) := by rfl
  rw [e2, e3, List.map_append] at Y
  exact List.map_inj_left.mp (List.append_inj Y (by simp)).2 a ha
theorem off_Kt : ∀ P : Params, ∀ x ∈ KF P, x.1 ∉ Kt := fun P x hx => by
  have : ((KF P).map (·.1)).all (fun a => decide (a ∉ Kt)) = true := by rfl
  have := List.all_eq_true.mp this x.1 (List.mem_map_of_mem hx)
  simpa using this
theorem rep0 {w : World} {s : Shared} (Y : Ka.map s.heap.get? = Kv w.params) (hg : s.gens = #[]) : Rep (Cx0 w s) ⟨g0 s.heap, [], s⟩ Hs.none where
  keep := fun a o e => by
    have e : (if a ∈ Kt then none else s.heap.get? a) = some o := e
    split at e
    · cases e
    · exact e
  len := rfl
  nd := List.nodup_nil
  off := fun i a e => by simp at e
  dead := fun i _ => rfl
  obj := fun i a e => by simp at e
  new := fun a e => by simp at e
  os := rfl
  bare := AllBare.of_eq hg
  top := fun a o e ht => (if_neg ht).trans e
  tab := fun a ha => ⟨_, seen_Kt Y a ha, #[], rfl, trivial, fun pos cv e => by cases e⟩
  offtab := fun a ha => ⟨if_pos ha, by simp⟩
theorem Conc.ints {C : Cx} {g : G} {ρ : List Addr} : ∀ {vs : List Value} {ns : List Int}, IntsAre vs ns → Concs C g ρ (ns.map V.int) vs
  | _, _, .nil => .nil
  | _, _, .cons n t h => .cons (.int n t) (Conc.ints h)
theorem map_look {β : Type} {f : Str → Option β} : ∀ {l : List (Str × Value)} {g : Value → Option β}, l.map (fun p => f p.1) = l.map (fun p => g p.2) → ∀ x v, l.lookup x = some v → f x = g v
  | [], _, _, x, v, e => by cases e
  | p :: l, g, h, x, v, e => by
    rw [List.map_cons, List.map_cons] at h
    obtain ⟨h1, h2⟩ := List.cons.inj h
    rw [List.lookup_cons] at e
    cases hb : x == p.1 with
    | true => rw [hb] at e; cases e; rw [eq_of_beq hb]; exact h1
    | false => rw [hb] at e; exact map_look h2 x v e
noncomputable def es3 (P : Params) : Array DictEntry := match (k3 P).data with | .dict es _ => es | _ => #[]
theorem gl_ok (P : Params) : gl0.map (fun p => nsFind (es3 P) p.1) = gl0.map (fun p => some p.2) := by kernel_rfl
theorem bl_ok (P : Params) : bl0.map (fun p => nsFind (es3 P) p.1) = bl0.map (fun _ => (none : Option Value)) := by kernel_rfl
theorem bb_ok : bl0.map (fun p => bootBuiltins p.1) = bl0.map (fun p => some p.2) := by kernel_rfl
theorem bn_ok : bl0.map (fun p => (if p.1 = ("__name__" : Str) then none else some ())) = bl0.map (fun _ => some ()) := by kernel_rfl
theorem es3_str (P : Params) : StrKeys (es3 P) := fun e he => by
  have : (es3 P).toList.all (fun e => match e.key with | .str _ _ => true | _ => false) = true := by kernel_rfl
  have := List.all_eq_true.mp this e (by simpa using he)
  cases h : e.key <;> rw [h] at this <;> first | (cases this; done) | exact ⟨_, _, rfl⟩
theorem look_mem {β : Type} : ∀ {l : List (Addr × β)} {a : Addr} {o : β}, l.lookup a = some o → ∃ x ∈ l, x.1 = a
  | [], a, o, e => by cases e
  | p :: l, a, o, e => by
    rw [List.lookup_cons] at e
    cases hb : a == p.1 with
    | true => exact ⟨p, by simp, (eq_of_beq hb).symm⟩
    | false =>
      rw [hb] at e
      obtain ⟨x, h1, h2⟩ := look_mem e
      exact ⟨x, by simp [h1], h2⟩
theorem top0 {w : World} {s : Shared} {mb : Str → Option Value} (hb : s.heap.Ns builtinsNs mb) (hbb : ∀ x : Str, x ≠ "__name__" → mb x = bootBuiltins x) (hl : s.heap.NoLimit) (Y : Ka.map s.heap.get? = Kv w.params) : Top (Cx0 w s) (nsFind (es3 w.params)) mb := by
  have h3 : s.heap.get? 3 = some (k3 w.params) := seen_KF Y 3 _ (by rfl)
  have nk : builtinsNs ∉ Kt ∧ mainGlobals ∉ Kt ∧ cStatics ∉ Kt := by decide
  have hns : s.heap.Ns mainGlobals (nsFind (es3 w.params)) := ⟨_, _, _, h3, rfl, es3_str _, fun _ => rfl⟩
  refine ⟨⟨hns, hb, nk.2.1, nk.1, hl, nk.2.2⟩, ⟨_, seen_KF Y 1 _ (by rfl)⟩, fun a o e => ⟨seen_KF Y a o e, fun z => ?_⟩, ⟨4, _, by kernel_rfl, by decide, by decide, (show 4 ∉ Kt by decide), seen_KF Y 4 _ (by rfl), by rfl, by rfl, by rfl⟩, fun x v e => map_look (gl_ok _) x v e, fun x v e => ⟨?_, ?_⟩⟩
  · obtain ⟨x, h1, h2⟩ := look_mem e
    exact off_Kt _ x h1 (h2 ▸ z)
  · exact map_look (g := fun _ => none) (bl_ok _) x v e
  · refine (hbb x fun z => ?_).trans (map_look bb_ok x v e)
    have := map_look (f := fun y => if y = ("__name__" : Str) then none else some ()) (g := fun _ => some ()) bn_ok x v e
    simp [z] at this
theorem isTab {w : World} {s : Shared} (Y : Ka.map s.heap.get? = Kv w.params) {c P : Addr} {oc : Obj} {vs : Array Value} (ho : (KF w.params).lookup c = some oc) (hc : oc.cls = .type "code") (hd : oc.data = .fields vs) (h11 : vs[11]? = some (.ref P)) : isCodeTable s.heap P := ⟨c, oc, vs, seen_KF Y c oc ho, hc, hd, h11⟩
/-- a law's walk, from what its call is shown to do -/
theorem walk_of {w : World} {s : Shared} {mb : Str → Option Value} {a f : Addr} {vs : List Value} {ns : List Int} {n : Nat} (hb : s.heap.Ns builtinsNs mb) (hbb : ∀ x : Str, x ≠ "__name__" → mb x = bootBuiltins x) (hl : s.heap.NoLimit) (Y : Ka.map s.heap.get? = Kv w.params) (hg : s.gens = #[])
    (ha : s.heap.PlainList a vs.toArray) (hi : IntsAre vs ns) (hn : n ≤ 100) (hT : ∀ P ∈ Kt, isCodeTable s.heap P) (law : KC (Cx0 w s) n Hs.none (.top f) [.lst (ns.map V.int)] [] fun v _ => v = .bool true) :
    wpAny (model pw w) callerA (call (.ref f) [.ref a]) (fun v s' => v = .bool true ∧ OldK s.heap s'.heap ∧ s'.os = s.os ∧ AllBare s'.gens) (fun _ _ => False) s := by
  have R := rep0 Y hg
  obtain ⟨k, hk⟩ := ha
  have hat : a ∉ Kt := fun z => by rw [seen_Kt Y a z] at hk; injection hk with hk; injection hk with h1; cases h1
  refine (law Hs.none (.refl _)).run callerA ⟨g0 s.heap, [], s⟩ _ _ (.ref f) [.ref a] [] ⟨rfl, ?_, ?_⟩ R (.top f) (.cons (.lst (vs := vs) (n := k) ((if_neg hat).trans hk) (Conc.ints hi)) .nil) rfl .nil fun r v h' w' hv e R' c => ?_
  · show 1 + claimMargin + 4 * n < recursionLimit
    unfold claimMargin recursionLimit; omega
  · show 4 + 40 * n < cLine
    unfold cLine; omega
  · subst hv
    cases c
    refine ⟨rfl, ⟨fun b o hb => ?_, fun b o hb => ?_⟩, R'.os, R'.bare⟩
    · by_cases ht : b ∈ Kt
      · have h1 := seen_Kt Y b ht
        rw [hb] at h1
        injection h1 with h1
        subst h1
        obtain ⟨o', h2, ps, h3, _⟩ := R'.tab b ht
        exact .inr (.inl ⟨hT b ht, rfl, #[], ps, rfl, by rw [h2, h3]; simp [W.tabObj]⟩)
      · exact .inl (e.kept b o hb (by simp) (by simp) ht)
    · exact e.live b o hb
end Mine
namespace Mine
theorem walk06 : Walk := fun w s₁ mb a vs ns hb hbb hl Y hg ha hi hn _ =>
  have X := top0 (w := w) hb hbb hl Y
  have CD : CdOk (Cx0 w s₁) 262 260 (Str.ofString "law.<locals>.<lambda>") := ⟨codeHd_of_K (K := KF w.params) (fun a o e => seen_KF Y a o e) (by rfl), (show 262 ∉ Kt by decide), (show 260 ∈ Kt by decide), by rfl⟩
  walk_of hb hbb hl Y hg ha hi (n := 1 + 20) (by decide) (fun P hP => by
    simp only [Kt, List.mem_cons, List.not_mem_nil, or_false] at hP
    rcases hP with rfl | rfl
    · exact isTab Y (c := 224) (oc := k224 w.params) (by rfl) (by rfl) (by rfl) (by rfl)
    · exact isTab Y (c := 262) (oc := k262 w.params) (by rfl) (by rfl) (by rfl) (by rfl)) (law6_true (n := 1) X CD hn)
end Mine
set_option maxRecDepth 100000 in
set_option maxHeartbeats 8000000 in
theorem PySem.Challenge.cw_dm0060_06_holds : PySem.Challenge.rw_dm0060_06.Holds :=
  Mine.holds_of Mine.walk06
