import PyProof.Rows.All
import Wide.All
import OpenK.AllK
import Wide.FinOn
import Open.Pieces
import PyProof.AttrMissHeap
import KE.KFromBytes
import Lean
import PySem.Challenge.RW_pd0124_01
set_option Elab.async false
set_option linter.unusedVariables false
set_option compiler.extract_closed false
-- FastNew
section
open PySem PySem.W PyProof.Rows
set_option maxRecDepth 100000
set_option maxHeartbeats 0
namespace Mine
noncomputable def anyF (as : Array Nat) (p : Nat → Bool) (start : Nat) (stop : Nat) : Bool :=
  @Bool.rec (fun _ => Bool) (Array.any as p start stop) (PySem.W.R.anyR as.toList p) (Nat.beq start 0 && Nat.beq stop as.toList.length)
theorem anyF_eq : @Array.any Nat = anyF := by
  funext as p start stop
  unfold anyF
  cases h : (Nat.beq start 0 && Nat.beq stop as.toList.length) with
  | false => rfl
  | true =>
    obtain ⟨h1, h2⟩ := Bool.and_eq_true_iff.mp h
    have e1 := Nat.eq_of_beq_eq_true h1
    have e2 := Nat.eq_of_beq_eq_true h2
    subst e1
    subst e2
    show Array.any as p 0 as.size = _
    rw [← PySem.W.R.anyR_eq, Array.any_toList]
noncomputable abbrev AnyT : Type := Array Nat → (Nat → Bool) → Nat → Nat → Bool
/-- one and the same, as data: so no proof lies within the definition below -/
inductive Same (b : Builtin) : Builtin → Type
  | mk : Same b b
noncomputable def pickG {b : Builtin} (G : AnyT → Builtin) (_ : Same b (G (@Array.any Nat))) : AnyT → Builtin := G
noncomputable def newG : AnyT → Builtin := by
  refine pickG (b := PySem.W.Fast.tw4202317264376624991) ?G ?h
  case h =>
    delta PySem.W.Fast.tw4202317264376624991
    generalize @Array.any Nat = g
    exact Same.mk
theorem new_eq : PySem.W.Fast.tw4202317264376624991 = newG anyF := by
  have h : PySem.W.Fast.tw4202317264376624991 = newG (@Array.any Nat) := by kernel_rfl
  rw [h, anyF_eq]
end Mine
end

-- Tb2
section
open PySem PySem.W PyProof.Rows
set_option maxRecDepth 100000
set_option maxHeartbeats 0
namespace Mine
noncomputable def tb2 (id : String) : Option Builtin :=
  @Bool.rec (fun _ => Option Builtin) (PySem.W.Fast.tw14364793385576792824 id) (some (newG anyF)) (Nat.beq (PySem.W.Fast.tw13482112738370960269 id) 29827186395103491166823348853)
theorem find_new : entriesT.find 29827186395103491166823348853 = some PySem.Builtin.«type.__new__» := by kernel_rfl
theorem tb2_eq : treeTable = tb2 := by
  funext id
  unfold tb2
  cases h : Nat.beq (PySem.W.Fast.tw13482112738370960269 id) 29827186395103491166823348853 with
  | false => rw [PySem.W.Fast.te14364793385576792824]
  | true =>
    have e := Nat.eq_of_beq_eq_true h
    rw [← PySem.W.Fast.te13482112738370960269] at e
    show entriesT.find (code id) = some (newG anyF)
    rw [e, find_new, PySem.W.Fast.te4202317264376624991]
    exact congrArg some new_eq
end Mine
end

-- St
section
open PySem PySem.W PyProof.Rows
set_option maxRecDepth 100000
set_option maxHeartbeats 0
set_option linter.unusedVariables false
namespace Mine
noncomputable abbrev S (s : String) : Str := Str.ofString s
noncomputable abbrev H (P : Params) (s : Str) : Int := PyData.keyHash P s
noncomputable def dcOf : Stmt → Str
  | .FunctionDef _ _ (.Expr (.Constant (.str s) _ _) _ :: _) .. => s
  | .ClassDef _ _ _ (.Expr (.Constant (.str s) _ _) _ :: _) .. => s
  | _ => Str.ofString ""
noncomputable def stAt : List Stmt → Nat → Stmt
  | [], _ => .Pass ⟨0, 0, 0, 0⟩
  | s :: _, 0 => s
  | _ :: r, n + 1 => stAt r n
noncomputable def bdOf : Stmt → List Stmt
  | .FunctionDef _ _ b .. => b
  | .ClassDef _ _ _ b .. => b
  | _ => []
noncomputable def setD (d : Str) : Stmt → Stmt
  | .ClassDef n b k (.Expr (.Constant (.str _) x y) z :: r) e1 e2 e3 e4 e5 e6 e7 => .ClassDef n b k (.Expr (.Constant (.str d) x y) z :: r) e1 e2 e3 e4 e5 e6 e7
  | .FunctionDef n a (.Expr (.Constant (.str _) x y) z :: r) e1 e2 e3 e4 e5 e6 e7 => .FunctionDef n a (.Expr (.Constant (.str d) x y) z :: r) e1 e2 e3 e4 e5 e6 e7
  | s => s
noncomputable def putL (f : Nat → Option Str) : Nat → List Stmt → List Stmt
  | _, [] => []
  | n, s :: r => (match f n with | none => s | some d => setD d s) :: putL f (n + 1) r
noncomputable def putB (f : Nat → Option Str) : Stmt → Stmt
  | .ClassDef n b k bd e1 e2 e3 e4 e5 e6 e7 => .ClassDef n b k (putL f 0 bd) e1 e2 e3 e4 e5 e6 e7
  | s => s
noncomputable abbrev BOD : List Stmt := PySem.Challenge.pw_pd0124_01.main.body
inductive SameS (b : Str) : Str → Type
  | mk : SameS b b
noncomputable def doc3_6 : Str := by
  refine (?f : SameS (dcOf (stAt (bdOf (stAt BOD 3)) 6)) ?x → Str) ?h
  case h =>
    dsimp only [BOD, PySem.Challenge.pw_pd0124_01, stAt, bdOf, dcOf]
    exact SameS.mk
  case f => exact fun _ => ?x
noncomputable def doc5_1 : Str := by
  refine (?f : SameS (dcOf (stAt (bdOf (stAt BOD 5)) 1)) ?x → Str) ?h
  case h =>
    dsimp only [BOD, PySem.Challenge.pw_pd0124_01, stAt, bdOf, dcOf]
    exact SameS.mk
  case f => exact fun _ => ?x
noncomputable def doc5_2 : Str := by
  refine (?f : SameS (dcOf (stAt (bdOf (stAt BOD 5)) 2)) ?x → Str) ?h
  case h =>
    dsimp only [BOD, PySem.Challenge.pw_pd0124_01, stAt, bdOf, dcOf]
    exact SameS.mk
  case f => exact fun _ => ?x
noncomputable def doc5_3 : Str := by
  refine (?f : SameS (dcOf (stAt (bdOf (stAt BOD 5)) 3)) ?x → Str) ?h
  case h =>
    dsimp only [BOD, PySem.Challenge.pw_pd0124_01, stAt, bdOf, dcOf]
    exact SameS.mk
  case f => exact fun _ => ?x
noncomputable def doc5_4 : Str := by
  refine (?f : SameS (dcOf (stAt (bdOf (stAt BOD 5)) 4)) ?x → Str) ?h
  case h =>
    dsimp only [BOD, PySem.Challenge.pw_pd0124_01, stAt, bdOf, dcOf]
    exact SameS.mk
  case f => exact fun _ => ?x
noncomputable def doc5_6 : Str := by
  refine (?f : SameS (dcOf (stAt (bdOf (stAt BOD 5)) 6)) ?x → Str) ?h
  case h =>
    dsimp only [BOD, PySem.Challenge.pw_pd0124_01, stAt, bdOf, dcOf]
    exact SameS.mk
  case f => exact fun _ => ?x
noncomputable def doc5_7 : Str := by
  refine (?f : SameS (dcOf (stAt (bdOf (stAt BOD 5)) 7)) ?x → Str) ?h
  case h =>
    dsimp only [BOD, PySem.Challenge.pw_pd0124_01, stAt, bdOf, dcOf]
    exact SameS.mk
  case f => exact fun _ => ?x
noncomputable def doc5_10 : Str := by
  refine (?f : SameS (dcOf (stAt (bdOf (stAt BOD 5)) 10)) ?x → Str) ?h
  case h =>
    dsimp only [BOD, PySem.Challenge.pw_pd0124_01, stAt, bdOf, dcOf]
    exact SameS.mk
  case f => exact fun _ => ?x
noncomputable def doc5 : Str := by
  refine (?f : SameS (dcOf (stAt BOD 5)) ?x → Str) ?h
  case h =>
    dsimp only [BOD, PySem.Challenge.pw_pd0124_01, stAt, bdOf, dcOf]
    exact SameS.mk
  case f => exact fun _ => ?x
noncomputable def doc17 : Str := by
  refine (?f : SameS (dcOf (stAt BOD 17)) ?x → Str) ?h
  case h =>
    dsimp only [BOD, PySem.Challenge.pw_pd0124_01, stAt, bdOf, dcOf]
    exact SameS.mk
  case f => exact fun _ => ?x
lay_quick Mine.doc3_6 Mine.doc5_1 Mine.doc5_2 Mine.doc5_3 Mine.doc5_4 Mine.doc5_6 Mine.doc5_7 Mine.doc5_10 Mine.doc5 Mine.doc17
noncomputable def D3 (a : Str) : Nat → Option Str
  | 6 => some a
  | _ => none
noncomputable def D5 (b c d e f g h : Str) : Nat → Option Str
  | 1 => some b
  | 2 => some c
  | 3 => some d
  | 4 => some e
  | 6 => some f
  | 7 => some g
  | 10 => some h
  | _ => none
/-- the program's top, with its long texts as letters -/
noncomputable def mkTop (a b c d e f g h i j : Str) : List Stmt := [stAt BOD 0, stAt BOD 1, stAt BOD 2, putB (D3 a) (stAt BOD 3), stAt BOD 4, setD i (putB (D5 b c d e f g h) (stAt BOD 5)), stAt BOD 6, stAt BOD 7, stAt BOD 8, stAt BOD 9, stAt BOD 10, stAt BOD 11, stAt BOD 12, stAt BOD 13, stAt BOD 14, stAt BOD 15, stAt BOD 16, setD j (stAt BOD 17), stAt BOD 18, stAt BOD 19, stAt BOD 20, stAt BOD 21, stAt BOD 22, stAt BOD 23, stAt BOD 24, stAt BOD 25, stAt BOD 26, stAt BOD 27, stAt BOD 28]
noncomputable def TOP : List Stmt := mkTop PySem.W.Fast.tw7658922229864528816 PySem.W.Fast.tw3548556380059258173 PySem.W.Fast.tw17313244347620766700 PySem.W.Fast.tw13348873255846019520 PySem.W.Fast.tw2214270155146916540 PySem.W.Fast.tw13180711697899701118 PySem.W.Fast.tw16988289671393833029 PySem.W.Fast.tw16561004838472279952 PySem.W.Fast.tw3517827036662040945 PySem.W.Fast.tw7177881804612649456
noncomputable abbrev PT : Program := { PySem.Challenge.pw_pd0124_01 with main := { PySem.Challenge.pw_pd0124_01.main with body := TOP } }
theorem top_nt : TOP = PySem.Challenge.pw_pd0124_01.main.body := by
  have h : mkTop doc3_6 doc5_1 doc5_2 doc5_3 doc5_4 doc5_6 doc5_7 doc5_10 doc5 doc17 = PySem.Challenge.pw_pd0124_01.main.body := by kernel_rfl
  unfold TOP
  rw [← PySem.W.Fast.te7658922229864528816, ← PySem.W.Fast.te3548556380059258173, ← PySem.W.Fast.te17313244347620766700, ← PySem.W.Fast.te13348873255846019520, ← PySem.W.Fast.te2214270155146916540, ← PySem.W.Fast.te13180711697899701118, ← PySem.W.Fast.te16988289671393833029, ← PySem.W.Fast.te16561004838472279952, ← PySem.W.Fast.te3517827036662040945, ← PySem.W.Fast.te7177881804612649456]
  exact h
theorem pt_eq : PySem.Challenge.pw_pd0124_01 = PT := by
  unfold PT
  rw [top_nt]
noncomputable def arOf : Stmt → Arguments
  | .FunctionDef _ a .. => a
  | _ => { posonlyargs := [], args := [], vararg := none, kwonlyargs := [], kw_defaults := [], kwarg := none, defaults := [] }
noncomputable def scOf : Stmt → Scope
  | .FunctionDef _ _ _ _ _ _ s .. => s
  | _ => { kind := .function, names := [], isGenerator := false, isCoroutine := false }
noncomputable def LIFE : Life := {}
noncomputable def DRAWN : Drawn := {}
noncomputable def ENV : Env := { scope := PySem.Challenge.pw_pd0124_01.main.scope, locals := mainNs, globals := mainNs, cells := [], code := .ref 13, frame := some 14 }
noncomputable def BB : List Frame := [topFrame ⟨0, 0, 0, 0⟩]
noncomputable def o0_A (P : Params) : Obj := ⟨(.type "dict"), none, (.dict (Array.mk [⟨H P (S "__name__"), (.str (S "__name__") 1), (.str (S "builtins") 160)⟩, ⟨H P (S "__doc__"), (.str (S "__doc__") 2), (.builtin "builtins.__doc__:str#opaque")⟩, ⟨H P (S "__package__"), (.str (S "__package__") 3), (.builtin "builtins.__package__:str#opaque")⟩, ⟨H P (S "__loader__"), (.str (S "__loader__") 4), (.builtin "builtins.__loader__:shared#opaque")⟩, ⟨H P (S "__spec__"), (.str (S "__spec__") 5), (.builtin "builtins.__spec__#opaque")⟩, ⟨H P (S "__build_class__"), (.str (S "__build_class__") 6), (.builtin "__build_class__")⟩, ⟨H P (S "__import__"), (.str (S "__import__") 7), (.builtin "__import__")⟩, ⟨H P (S "abs"), (.str (S "abs") 8), (.builtin "abs")⟩, ⟨H P (S "all"), (.str (S "all") 9), (.builtin "all")⟩, ⟨H P (S "any"), (.str (S "any") 10), (.builtin "any")⟩, ⟨H P (S "ascii"), (.str (S "ascii") 11), (.builtin "ascii")⟩, ⟨H P (S "bin"), (.str (S "bin") 12), (.builtin "bin")⟩, ⟨H P (S "breakpoint"), (.str (S "breakpoint") 13), (.builtin "breakpoint")⟩, ⟨H P (S "callable"), (.str (S "callable") 14), (.builtin "callable")⟩, ⟨H P (S "chr"), (.str (S "chr") 15), (.builtin "chr")⟩, ⟨H P (S "compile"), (.str (S "compile") 16), (.builtin "compile")⟩, ⟨H P (S "delattr"), (.str (S "delattr") 17), (.builtin "delattr")⟩, ⟨H P (S "dir"), (.str (S "dir") 18), (.builtin "dir")⟩, ⟨H P (S "divmod"), (.str (S "divmod") 19), (.builtin "divmod")⟩, ⟨H P (S "eval"), (.str (S "eval") 20), (.builtin "eval")⟩, ⟨H P (S "exec"), (.str (S "exec") 21), (.builtin "exec")⟩, ⟨H P (S "format"), (.str (S "format") 22), (.builtin "format")⟩, ⟨H P (S "getattr"), (.str (S "getattr") 23), (.builtin "getattr")⟩, ⟨H P (S "globals"), (.str (S "globals") 24), (.builtin "globals")⟩, ⟨H P (S "hasattr"), (.str (S "hasattr") 25), (.builtin "hasattr")⟩, ⟨H P (S "hash"), (.str (S "hash") 26), (.builtin "hash")⟩, ⟨H P (S "hex"), (.str (S "hex") 27), (.builtin "hex")⟩, ⟨H P (S "id"), (.str (S "id") 28), (.builtin "id")⟩, ⟨H P (S "input"), (.str (S "input") 29), (.builtin "input")⟩, ⟨H P (S "isinstance"), (.str (S "isinstance") 30), (.builtin "isinstance")⟩, ⟨H P (S "issubclass"), (.str (S "issubclass") 31), (.builtin "issubclass")⟩, ⟨H P (S "iter"), (.str (S "iter") 32), (.builtin "iter")⟩, ⟨H P (S "aiter"), (.str (S "aiter") 33), (.builtin "aiter")⟩, ⟨H P (S "len"), (.str (S "len") 34), (.builtin "len")⟩, ⟨H P (S "locals"), (.str (S "locals") 35), (.builtin "locals")⟩, ⟨H P (S "max"), (.str (S "max") 36), (.builtin "max")⟩, ⟨H P (S "min"), (.str (S "min") 37), (.builtin "min")⟩, ⟨H P (S "next"), (.str (S "next") 38), (.builtin "next")⟩, ⟨H P (S "anext"), (.str (S "anext") 39), (.builtin "anext")⟩, ⟨H P (S "oct"), (.str (S "oct") 40), (.builtin "oct")⟩, ⟨H P (S "ord"), (.str (S "ord") 41), (.builtin "ord")⟩, ⟨H P (S "pow"), (.str (S "pow") 42), (.builtin "pow")⟩, ⟨H P (S "print"), (.str (S "print") 43), (.builtin "print")⟩, ⟨H P (S "repr"), (.str (S "repr") 44), (.builtin "repr")⟩, ⟨H P (S "round"), (.str (S "round") 45), (.builtin "round")⟩, ⟨H P (S "setattr"), (.str (S "setattr") 46), (.builtin "setattr")⟩, ⟨H P (S "sorted"), (.str (S "sorted") 47), (.builtin "sorted")⟩, ⟨H P (S "sum"), (.str (S "sum") 48), (.builtin "sum")⟩, ⟨H P (S "vars"), (.str (S "vars") 49), (.builtin "vars")⟩, ⟨H P (S "None"), (.str (S "None") 50), .none⟩, ⟨H P (S "Ellipsis"), (.str (S "Ellipsis") 51), .ellipsis⟩, ⟨H P (S "NotImplemented"), (.str (S "NotImplemented") 52), .notImplemented⟩, ⟨H P (S "False"), (.str (S "False") 53), (.bool false)⟩, ⟨H P (S "True"), (.str (S "True") 54), (.bool true)⟩, ⟨H P (S "bool"), (.str (S "bool") 55), (.type "bool")⟩, ⟨H P (S "memoryview"), (.str (S "memoryview") 56), (.type "memoryview")⟩, ⟨H P (S "bytearray"), (.str (S "bytearray") 57), (.type "bytearray")⟩, ⟨H P (S "bytes"), (.str (S "bytes") 58), (.type "bytes")⟩, ⟨H P (S "classmethod"), (.str (S "classmethod") 59), (.type "classmethod")⟩, ⟨H P (S "complex"), (.str (S "complex") 60), (.type "complex")⟩, ⟨H P (S "dict"), (.str (S "dict") 61), (.type "dict")⟩, ⟨H P (S "enumerate"), (.str (S "enumerate") 62), (.type "enumerate")⟩, ⟨H P (S "filter"), (.str (S "filter") 63), (.type "filter")⟩, ⟨H P (S "float"), (.str (S "float") 64), (.type "float")⟩, ⟨H P (S "frozenset"), (.str (S "frozenset") 65), (.type "frozenset")⟩, ⟨H P (S "property"), (.str (S "property") 66), (.type "property")⟩, ⟨H P (S "int"), (.str (S "int") 67), (.type "int")⟩, ⟨H P (S "list"), (.str (S "list") 68), (.type "list")⟩, ⟨H P (S "map"), (.str (S "map") 69), (.type "map")⟩, ⟨H P (S "object"), (.str (S "object") 70), (.type "object")⟩, ⟨H P (S "range"), (.str (S "range") 71), (.type "range")⟩, ⟨H P (S "reversed"), (.str (S "reversed") 72), (.type "reversed")⟩, ⟨H P (S "set"), (.str (S "set") 73), (.type "set")⟩, ⟨H P (S "slice"), (.str (S "slice") 74), (.type "slice")⟩, ⟨H P (S "staticmethod"), (.str (S "staticmethod") 75), (.type "staticmethod")⟩, ⟨H P (S "str"), (.str (S "str") 76), (.type "str")⟩, ⟨H P (S "super"), (.str (S "super") 77), (.type "super")⟩, ⟨H P (S "tuple"), (.str (S "tuple") 78), (.type "tuple")⟩, ⟨H P (S "type"), (.str (S "type") 79), (.type "type")⟩, ⟨H P (S "zip"), (.str (S "zip") 80), (.type "zip")⟩, ⟨H P (S "__debug__"), (.str (S "__debug__") 81), (.bool true)⟩, ⟨H P (S "BaseException"), (.str (S "BaseException") 82), (.type "BaseException")⟩, ⟨H P (S "BaseExceptionGroup"), (.str (S "BaseExceptionGroup") 83), (.type "BaseExceptionGroup")⟩, ⟨H P (S "Exception"), (.str (S "Exception") 84), (.type "Exception")⟩, ⟨H P (S "GeneratorExit"), (.str (S "GeneratorExit") 85), (.type "GeneratorExit")⟩, ⟨H P (S "KeyboardInterrupt"), (.str (S "KeyboardInterrupt") 86), (.type "KeyboardInterrupt")⟩, ⟨H P (S "SystemExit"), (.str (S "SystemExit") 87), (.type "SystemExit")⟩, ⟨H P (S "ArithmeticError"), (.str (S "ArithmeticError") 88), (.type "ArithmeticError")⟩, ⟨H P (S "AssertionError"), (.str (S "AssertionError") 89), (.type "AssertionError")⟩, ⟨H P (S "AttributeError"), (.str (S "AttributeError") 90), (.type "AttributeError")⟩, ⟨H P (S "BufferError"), (.str (S "BufferError") 91), (.type "BufferError")⟩, ⟨H P (S "EOFError"), (.str (S "EOFError") 92), (.type "EOFError")⟩, ⟨H P (S "ImportError"), (.str (S "ImportError") 93), (.type "ImportError")⟩, ⟨H P (S "LookupError"), (.str (S "LookupError") 94), (.type "LookupError")⟩, ⟨H P (S "MemoryError"), (.str (S "MemoryError") 95), (.type "MemoryError")⟩, ⟨H P (S "NameError"), (.str (S "NameError") 96), (.type "NameError")⟩, ⟨H P (S "OSError"), (.str (S "OSError") 97), (.type "OSError")⟩, ⟨H P (S "ReferenceError"), (.str (S "ReferenceError") 98), (.type "ReferenceError")⟩, ⟨H P (S "RuntimeError"), (.str (S "RuntimeError") 99), (.type "RuntimeError")⟩, ⟨H P (S "StopAsyncIteration"), (.str (S "StopAsyncIteration") 100), (.type "StopAsyncIteration")⟩, ⟨H P (S "StopIteration"), (.str (S "StopIteration") 101), (.type "StopIteration")⟩, ⟨H P (S "SyntaxError"), (.str (S "SyntaxError") 102), (.type "SyntaxError")⟩, ⟨H P (S "SystemError"), (.str (S "SystemError") 103), (.type "SystemError")⟩, ⟨H P (S "TypeError"), (.str (S "TypeError") 104), (.type "TypeError")⟩, ⟨H P (S "ValueError"), (.str (S "ValueError") 105), (.type "ValueError")⟩, ⟨H P (S "Warning"), (.str (S "Warning") 106), (.type "Warning")⟩, ⟨H P (S "FloatingPointError"), (.str (S "FloatingPointError") 107), (.type "FloatingPointError")⟩, ⟨H P (S "OverflowError"), (.str (S "OverflowError") 108), (.type "OverflowError")⟩, ⟨H P (S "ZeroDivisionError"), (.str (S "ZeroDivisionError") 109), (.type "ZeroDivisionError")⟩, ⟨H P (S "BytesWarning"), (.str (S "BytesWarning") 110), (.type "BytesWarning")⟩, ⟨H P (S "DeprecationWarning"), (.str (S "DeprecationWarning") 111), (.type "DeprecationWarning")⟩, ⟨H P (S "EncodingWarning"), (.str (S "EncodingWarning") 112), (.type "EncodingWarning")⟩, ⟨H P (S "FutureWarning"), (.str (S "FutureWarning") 113), (.type "FutureWarning")⟩, ⟨H P (S "ImportWarning"), (.str (S "ImportWarning") 114), (.type "ImportWarning")⟩, ⟨H P (S "PendingDeprecationWarning"), (.str (S "PendingDeprecationWarning") 115), (.type "PendingDeprecationWarning")⟩, ⟨H P (S "ResourceWarning"), (.str (S "ResourceWarning") 116), (.type "ResourceWarning")⟩, ⟨H P (S "RuntimeWarning"), (.str (S "RuntimeWarning") 117), (.type "RuntimeWarning")⟩, ⟨H P (S "SyntaxWarning"), (.str (S "SyntaxWarning") 118), (.type "SyntaxWarning")⟩, ⟨H P (S "UnicodeWarning"), (.str (S "UnicodeWarning") 119), (.type "UnicodeWarning")⟩, ⟨H P (S "UserWarning"), (.str (S "UserWarning") 120), (.type "UserWarning")⟩, ⟨H P (S "BlockingIOError"), (.str (S "BlockingIOError") 121), (.type "BlockingIOError")⟩, ⟨H P (S "ChildProcessError"), (.str (S "ChildProcessError") 122), (.type "ChildProcessError")⟩, ⟨H P (S "ConnectionError"), (.str (S "ConnectionError") 123), (.type "ConnectionError")⟩, ⟨H P (S "FileExistsError"), (.str (S "FileExistsError") 124), (.type "FileExistsError")⟩, ⟨H P (S "FileNotFoundError"), (.str (S "FileNotFoundError") 125), (.type "FileNotFoundError")⟩, ⟨H P (S "InterruptedError"), (.str (S "InterruptedError") 126), (.type "InterruptedError")⟩, ⟨H P (S "IsADirectoryError"), (.str (S "IsADirectoryError") 127), (.type "IsADirectoryError")⟩, ⟨H P (S "NotADirectoryError"), (.str (S "NotADirectoryError") 128), (.type "NotADirectoryError")⟩, ⟨H P (S "PermissionError"), (.str (S "PermissionError") 129), (.type "PermissionError")⟩, ⟨H P (S "ProcessLookupError"), (.str (S "ProcessLookupError") 130), (.type "ProcessLookupError")⟩, ⟨H P (S "TimeoutError"), (.str (S "TimeoutError") 131), (.type "TimeoutError")⟩, ⟨H P (S "IndentationError"), (.str (S "IndentationError") 132), (.type "IndentationError")⟩, ⟨H P (S "_IncompleteInputError"), (.str (S "_IncompleteInputError") 133), (.type "_IncompleteInputError")⟩, ⟨H P (S "IndexError"), (.str (S "IndexError") 134), (.type "IndexError")⟩, ⟨H P (S "KeyError"), (.str (S "KeyError") 135), (.type "KeyError")⟩, ⟨H P (S "ModuleNotFoundError"), (.str (S "ModuleNotFoundError") 136), (.type "ModuleNotFoundError")⟩, ⟨H P (S "NotImplementedError"), (.str (S "NotImplementedError") 137), (.type "NotImplementedError")⟩, ⟨H P (S "PythonFinalizationError"), (.str (S "PythonFinalizationError") 138), (.type "PythonFinalizationError")⟩, ⟨H P (S "RecursionError"), (.str (S "RecursionError") 139), (.type "RecursionError")⟩, ⟨H P (S "UnboundLocalError"), (.str (S "UnboundLocalError") 140), (.type "UnboundLocalError")⟩, ⟨H P (S "UnicodeError"), (.str (S "UnicodeError") 141), (.type "UnicodeError")⟩, ⟨H P (S "BrokenPipeError"), (.str (S "BrokenPipeError") 142), (.type "BrokenPipeError")⟩, ⟨H P (S "ConnectionAbortedError"), (.str (S "ConnectionAbortedError") 143), (.type "ConnectionAbortedError")⟩, ⟨H P (S "ConnectionRefusedError"), (.str (S "ConnectionRefusedError") 144), (.type "ConnectionRefusedError")⟩, ⟨H P (S "ConnectionResetError"), (.str (S "ConnectionResetError") 145), (.type "ConnectionResetError")⟩, ⟨H P (S "TabError"), (.str (S "TabError") 146), (.type "TabError")⟩, ⟨H P (S "UnicodeDecodeError"), (.str (S "UnicodeDecodeError") 147), (.type "UnicodeDecodeError")⟩, ⟨H P (S "UnicodeEncodeError"), (.str (S "UnicodeEncodeError") 148), (.type "UnicodeEncodeError")⟩, ⟨H P (S "UnicodeTranslateError"), (.str (S "UnicodeTranslateError") 149), (.type "UnicodeTranslateError")⟩, ⟨H P (S "ExceptionGroup"), (.str (S "ExceptionGroup") 150), (.type "ExceptionGroup")⟩, ⟨H P (S "EnvironmentError"), (.str (S "EnvironmentError") 151), (.type "OSError")⟩, ⟨H P (S "IOError"), (.str (S "IOError") 152), (.type "OSError")⟩, ⟨H P (S "open"), (.str (S "open") 153), (.builtin "open")⟩, ⟨H P (S "quit"), (.str (S "quit") 154), (.builtin "builtins.quit#opaque")⟩, ⟨H P (S "exit"), (.str (S "exit") 155), (.builtin "builtins.exit#opaque")⟩, ⟨H P (S "copyright"), (.str (S "copyright") 156), (.builtin "builtins.copyright#opaque")⟩, ⟨H P (S "credits"), (.str (S "credits") 157), (.builtin "builtins.credits#opaque")⟩, ⟨H P (S "license"), (.str (S "license") 158), (.builtin "builtins.license#opaque")⟩, ⟨H P (S "help"), (.str (S "help") 159), (.builtin "builtins.help#opaque")⟩]) 159), Array.mk []⟩
noncomputable def o1_A (P : Params) : Obj := ⟨(.type "dict"), none, (.dict (Array.mk [⟨H P (S "builtins"), (.str (S "builtins") 162), (.ref 4)⟩, ⟨H P (S "__main__"), (.str (S "__main__") 163), (.ref 5)⟩]) 2), Array.mk []⟩
noncomputable def o2_A (P : Params) : Obj := ⟨.none, none, (.dict (Array.mk []) 0), Array.mk []⟩
noncomputable def o3_A (P : Params) : Obj := ⟨(.type "dict"), none, (.dict (Array.mk [⟨H P (S "__name__"), (.str (S "__name__") 165), (.str (S "__main__") 164)⟩, ⟨H P (S "__doc__"), (.str (S "__doc__") 166), .none⟩, ⟨H P (S "__package__"), (.str (S "__package__") 167), .none⟩, ⟨H P (S "__loader__"), (.str (S "__loader__") 168), (.builtin "__main__.__loader__#opaque")⟩, ⟨H P (S "__spec__"), (.str (S "__spec__") 169), .none⟩, ⟨H P (S "__annotations__"), (.str (S "__annotations__") 170), (.ref 6)⟩, ⟨H P (S "__builtins__"), (.str (S "__builtins__") 171), (.ref 4)⟩, ⟨H P (S "__file__"), (.str (S "__file__") 173), (.str (S "/claim/cut.py") 172)⟩, ⟨H P (S "__cached__"), (.str (S "__cached__") 174), .none⟩]) 9), Array.mk []⟩
noncomputable def o4_A (P : Params) : Obj := ⟨(.type "module"), some 0, .plain, Array.mk []⟩
noncomputable def o5_A (P : Params) : Obj := ⟨(.type "module"), some 3, .plain, Array.mk []⟩
noncomputable def o6_A (P : Params) : Obj := ⟨(.type "dict"), none, (.dict (Array.mk []) 0), Array.mk []⟩
noncomputable def o7_A (P : Params) : Obj := ⟨(.type "tuple"), none, (.seq (Array.mk []) 0), Array.mk []⟩
noncomputable def o8_A (P : Params) : Obj := ⟨.none, none, (.fields (Array.mk [])), Array.mk []⟩
noncomputable def o9_A (P : Params) : Obj := ⟨(.type "code"), none, (.fields (Array.mk [(.str (S "<module>") 176), (.str (S "<module>") 177), (.str (S "/claim/cut.py") 178), (.int 1 0), (.int 0 0), (.int 0 0), (.int 0 0), (.int 0 0), (.ref 7), (.bool false), (.int 175 0), (.ref 8), .none, .none, .none, .none, (.int 179 0), (.int 1 0), (.str (S "/claim/cut.py") 180)])), Array.mk []⟩
noncomputable def o10_A (P : Params) : Obj := ⟨(.type "frame"), none, .plain, Array.mk [(some (.ref 9)), (some (.ref 3)), (some (.ref 3)), none, (some (.str (S "__main__") 164)), none, (some (.ref 0))]⟩
noncomputable def o11_A (P : Params) : Obj := ⟨(.type "tuple"), none, (.seq (Array.mk []) 0), Array.mk []⟩
noncomputable def o12_A (P : Params) : Obj := ⟨.none, none, (.fields (Array.mk [])), Array.mk []⟩
noncomputable def o13_A (P : Params) : Obj := ⟨(.type "code"), none, (.fields (Array.mk [(.str (S "<module>") 182), (.str (S "<module>") 183), (.str (S "/claim/cut.py") 184), (.int 1 0), (.int 0 0), (.int 0 0), (.int 0 0), (.int 0 0), (.ref 11), (.bool false), (.int 181 0), (.ref 12), .none, .none, .none, .none, (.int 185 0), (.int 1 0), (.str (S "/claim/cut.py") 186)])), Array.mk []⟩
noncomputable def o14_A (P : Params) : Obj := ⟨(.type "frame"), none, .plain, Array.mk [(some (.ref 13)), (some (.ref 3)), (some (.ref 3)), none, (some (.str (S "__main__") 164)), none, (some (.ref 0))]⟩
noncomputable def TA (P : Params) : BT := (.node (o0_A P) (.node (o1_A P) (.node (o3_A P) (.node (o7_A P) .nil .nil) (.node (o11_A P) .nil .nil)) (.node (o5_A P) (.node (o9_A P) .nil .nil) (.node (o13_A P) .nil .nil))) (.node (o2_A P) (.node (o4_A P) (.node (o8_A P) .nil .nil) (.node (o12_A P) .nil .nil)) (.node (o6_A P) (.node (o10_A P) .nil .nil) (.node (o14_A P) .nil .nil))))
noncomputable def SA (w : World) (os : OsState) : SharedT := ⟨TA w.params, 15, LIFE, Array.mk [], DRAWN, 187, os⟩
noncomputable def o3_B (P : Params) : Obj := ⟨(.type "dict"), none, (.dict (Array.mk [⟨H P (S "__name__"), (.str (S "__name__") 165), (.str (S "cpy313.difflib") 194)⟩, ⟨H P (S "__doc__"), (.str (S "__doc__") 166), .none⟩, ⟨H P (S "__package__"), (.str (S "__package__") 167), .none⟩, ⟨H P (S "__loader__"), (.str (S "__loader__") 168), (.builtin "__main__.__loader__#opaque")⟩, ⟨H P (S "__spec__"), (.str (S "__spec__") 169), .none⟩, ⟨H P (S "__annotations__"), (.str (S "__annotations__") 170), (.ref 6)⟩, ⟨H P (S "__builtins__"), (.str (S "__builtins__") 171), (.ref 4)⟩, ⟨H P (S "__file__"), (.str (S "__file__") 173), (.str (S "/claim/cut.py") 172)⟩, ⟨H P (S "__cached__"), (.str (S "__cached__") 174), .none⟩, ⟨H P (S "_wall"), (.str (S "_wall") 193), (.ref 21)⟩, ⟨H P (S "_tuplegetter"), (.str (S "_tuplegetter") 252), (.ref 60)⟩]) 11), Array.mk []⟩
noncomputable def o12_B (P : Params) : Obj := ⟨.none, none, (.fields (Array.mk [(.int 1 0), (.int 0 0), (.ref 20), (.int 5 0), (.int 0 0), (.ref 27)])), Array.mk []⟩
noncomputable def o15_B (P : Params) : Obj := ⟨(.type "tuple"), none, (.seq (Array.mk []) 0), Array.mk []⟩
noncomputable def o16_B (P : Params) : Obj := ⟨.none, none, (.fields (Array.mk [])), Array.mk []⟩
noncomputable def o17_B (P : Params) : Obj := ⟨(.type "tuple"), none, (.seq (Array.mk [(.str (S "k") 190)]) 0), Array.mk []⟩
noncomputable def o18_B (P : Params) : Obj := ⟨(.type "tuple"), none, (.seq (Array.mk []) 0), Array.mk []⟩
noncomputable def o19_B (T : List Stmt) (P : Params) : Obj := ⟨.none, none, (.func { name := (S "_wall"), qualname := (S "_wall"), params := arOf (stAt T 0), body := .stmts (bdOf (stAt T 0)), scope := scOf (stAt T 0), globals := 0, closure := [], defaults := .none, kwdefaults := .none, doc := .none, pyModule := .none, annotations := none, code := .none, closureTuple := .none, builtins := 0 }), Array.mk []⟩
noncomputable def o20_B (P : Params) : Obj := ⟨(.type "code"), none, (.fields (Array.mk [(.str (S "_wall") 187), (.str (S "_wall") 188), (.str (S "/claim/cut.py") 189), (.int 1 0), (.int 1 0), (.int 0 0), (.int 0 0), (.int 3 0), (.ref 15), (.bool true), (.int 181 0), (.ref 16), .none, (.ref 17), (.ref 18), (.ref 19), (.int 191 0), (.int 1 0), (.str (S "/claim/cut.py") 192)])), Array.mk []⟩
noncomputable def o21_B (T : List Stmt) (P : Params) : Obj := ⟨(.type "function"), none, (.func { name := (S "_wall"), qualname := (S "_wall"), params := arOf (stAt T 0), body := .stmts (bdOf (stAt T 0)), scope := scOf (stAt T 0), globals := 3, closure := [], defaults := .none, kwdefaults := .none, doc := .none, pyModule := (.str (S "__main__") 164), annotations := none, code := (.ref 20), closureTuple := .none, builtins := 0 }), Array.mk []⟩
noncomputable def o22_B (P : Params) : Obj := ⟨(.type "tuple"), none, (.seq (Array.mk []) 0), Array.mk []⟩
noncomputable def o23_B (P : Params) : Obj := ⟨(.type "builtin_function_or_method"), none, (.fields (Array.mk [(.builtin "type.__prepare__"), (.type "type")])), Array.mk []⟩
noncomputable def o24_B (P : Params) : Obj := ⟨(.type "dict"), none, (.dict (Array.mk [⟨H P (S "__module__"), (.str (S "__module__") 203), (.str (S "cpy313.difflib") 194)⟩, ⟨H P (S "__qualname__"), (.str (S "__qualname__") 205), (.str (S "_tuplegetter") 204)⟩, ⟨H P (S "__firstlineno__"), (.str (S "__firstlineno__") 207), (.int 5 206)⟩, ⟨H P (S "__init__"), (.str (S "__init__") 216), (.ref 35)⟩, ⟨H P (S "__get__"), (.str (S "__get__") 225), (.ref 43)⟩, ⟨H P (S "__set__"), (.str (S "__set__") 234), (.ref 50)⟩, ⟨H P (S "__delete__"), (.str (S "__delete__") 242), (.ref 57)⟩, ⟨H P (S "__static_attributes__"), (.str (S "__static_attributes__") 245), (.ref 58)⟩]) 8), Array.mk []⟩
noncomputable def o25_B (P : Params) : Obj := ⟨(.type "tuple"), none, (.seq (Array.mk []) 0), Array.mk []⟩
noncomputable def o26_B (P : Params) : Obj := ⟨.none, none, (.fields (Array.mk [(.int 7 0), (.int 4 0), (.ref 34), (.int 11 0), (.int 4 0), (.ref 42), (.int 18 0), (.int 4 0), (.ref 49), (.int 21 0), (.int 4 0), (.ref 56)])), Array.mk []⟩
noncomputable def o27_B (P : Params) : Obj := ⟨(.type "code"), none, (.fields (Array.mk [(.str (S "_tuplegetter") 198), (.str (S "_tuplegetter") 199), (.str (S "/claim/cut.py") 200), (.int 5 0), (.int 0 0), (.int 0 0), (.int 0 0), (.int 0 0), (.ref 25), (.bool false), (.int 181 0), (.ref 26), .none, .none, .none, .none, (.int 201 0), (.int 5 0), (.str (S "/claim/cut.py") 202)])), Array.mk []⟩
noncomputable def o28_B (P : Params) : Obj := ⟨(.type "frame"), none, .plain, Array.mk [(some (.ref 27)), (some (.ref 3)), (some (.ref 24)), none, (some (.str (S "cpy313.difflib") 194)), none, (some (.ref 0))]⟩
noncomputable def o29_B (P : Params) : Obj := ⟨(.type "tuple"), none, (.seq (Array.mk []) 0), Array.mk []⟩
noncomputable def o30_B (P : Params) : Obj := ⟨.none, none, (.fields (Array.mk [])), Array.mk []⟩
noncomputable def o31_B (P : Params) : Obj := ⟨(.type "tuple"), none, (.seq (Array.mk [(.str (S "self") 211), (.str (S "index") 212), (.str (S "doc") 213)]) 0), Array.mk []⟩
noncomputable def o32_B (P : Params) : Obj := ⟨(.type "tuple"), none, (.seq (Array.mk []) 0), Array.mk []⟩
noncomputable def o33_B (T : List Stmt) (P : Params) : Obj := ⟨.none, none, (.func { name := (S "__init__"), qualname := (S "_tuplegetter.__init__"), params := arOf (stAt (bdOf (stAt T 2)) 0), body := .stmts (bdOf (stAt (bdOf (stAt T 2)) 0)), scope := scOf (stAt (bdOf (stAt T 2)) 0), globals := 0, closure := [], defaults := .none, kwdefaults := .none, doc := .none, pyModule := .none, annotations := none, code := .none, closureTuple := .none, builtins := 0 }), Array.mk []⟩
noncomputable def o34_B (P : Params) : Obj := ⟨(.type "code"), none, (.fields (Array.mk [(.str (S "__init__") 208), (.str (S "_tuplegetter.__init__") 209), (.str (S "/claim/cut.py") 210), (.int 7 0), (.int 3 0), (.int 0 0), (.int 0 0), (.int 3 0), (.ref 29), (.bool true), (.int 181 0), (.ref 30), .none, (.ref 31), (.ref 32), (.ref 33), (.int 214 0), (.int 7 0), (.str (S "/claim/cut.py") 215)])), Array.mk []⟩
noncomputable def o35_B (T : List Stmt) (P : Params) : Obj := ⟨(.type "function"), none, (.func { name := (S "__init__"), qualname := (S "_tuplegetter.__init__"), params := arOf (stAt (bdOf (stAt T 2)) 0), body := .stmts (bdOf (stAt (bdOf (stAt T 2)) 0)), scope := scOf (stAt (bdOf (stAt T 2)) 0), globals := 3, closure := [], defaults := .none, kwdefaults := .none, doc := .none, pyModule := (.str (S "cpy313.difflib") 194), annotations := none, code := (.ref 34), closureTuple := .none, builtins := 0 }), Array.mk []⟩
noncomputable def o36_B (P : Params) : Obj := ⟨(.type "tuple"), none, (.seq (Array.mk [.none]) 0), Array.mk []⟩
noncomputable def o37_B (P : Params) : Obj := ⟨(.type "tuple"), none, (.seq (Array.mk []) 0), Array.mk []⟩
noncomputable def o38_B (P : Params) : Obj := ⟨.none, none, (.fields (Array.mk [])), Array.mk []⟩
noncomputable def o39_B (P : Params) : Obj := ⟨(.type "tuple"), none, (.seq (Array.mk [(.str (S "self") 220), (.str (S "obj") 221), (.str (S "objtype") 222)]) 0), Array.mk []⟩
noncomputable def o40_B (P : Params) : Obj := ⟨(.type "tuple"), none, (.seq (Array.mk []) 0), Array.mk []⟩
noncomputable def o41_B (T : List Stmt) (P : Params) : Obj := ⟨.none, none, (.func { name := (S "__get__"), qualname := (S "_tuplegetter.__get__"), params := arOf (stAt (bdOf (stAt T 2)) 1), body := .stmts (bdOf (stAt (bdOf (stAt T 2)) 1)), scope := scOf (stAt (bdOf (stAt T 2)) 1), globals := 0, closure := [], defaults := .none, kwdefaults := .none, doc := .none, pyModule := .none, annotations := none, code := .none, closureTuple := .none, builtins := 0 }), Array.mk []⟩
noncomputable def o42_B (P : Params) : Obj := ⟨(.type "code"), none, (.fields (Array.mk [(.str (S "__get__") 217), (.str (S "_tuplegetter.__get__") 218), (.str (S "/claim/cut.py") 219), (.int 11 0), (.int 3 0), (.int 0 0), (.int 0 0), (.int 3 0), (.ref 37), (.bool true), (.int 181 0), (.ref 38), .none, (.ref 39), (.ref 40), (.ref 41), (.int 223 0), (.int 11 0), (.str (S "/claim/cut.py") 224)])), Array.mk []⟩
noncomputable def o43_B (T : List Stmt) (P : Params) : Obj := ⟨(.type "function"), none, (.func { name := (S "__get__"), qualname := (S "_tuplegetter.__get__"), params := arOf (stAt (bdOf (stAt T 2)) 1), body := .stmts (bdOf (stAt (bdOf (stAt T 2)) 1)), scope := scOf (stAt (bdOf (stAt T 2)) 1), globals := 3, closure := [], defaults := (.ref 36), kwdefaults := .none, doc := .none, pyModule := (.str (S "cpy313.difflib") 194), annotations := none, code := (.ref 42), closureTuple := .none, builtins := 0 }), Array.mk []⟩
noncomputable def o44_B (P : Params) : Obj := ⟨(.type "tuple"), none, (.seq (Array.mk []) 0), Array.mk []⟩
noncomputable def o45_B (P : Params) : Obj := ⟨.none, none, (.fields (Array.mk [])), Array.mk []⟩
noncomputable def o46_B (P : Params) : Obj := ⟨(.type "tuple"), none, (.seq (Array.mk [(.str (S "self") 229), (.str (S "obj") 230), (.str (S "value") 231)]) 0), Array.mk []⟩
noncomputable def o47_B (P : Params) : Obj := ⟨(.type "tuple"), none, (.seq (Array.mk []) 0), Array.mk []⟩
noncomputable def o48_B (T : List Stmt) (P : Params) : Obj := ⟨.none, none, (.func { name := (S "__set__"), qualname := (S "_tuplegetter.__set__"), params := arOf (stAt (bdOf (stAt T 2)) 2), body := .stmts (bdOf (stAt (bdOf (stAt T 2)) 2)), scope := scOf (stAt (bdOf (stAt T 2)) 2), globals := 0, closure := [], defaults := .none, kwdefaults := .none, doc := .none, pyModule := .none, annotations := none, code := .none, closureTuple := .none, builtins := 0 }), Array.mk []⟩
noncomputable def o49_B (P : Params) : Obj := ⟨(.type "code"), none, (.fields (Array.mk [(.str (S "__set__") 226), (.str (S "_tuplegetter.__set__") 227), (.str (S "/claim/cut.py") 228), (.int 18 0), (.int 3 0), (.int 0 0), (.int 0 0), (.int 3 0), (.ref 44), (.bool true), (.int 181 0), (.ref 45), .none, (.ref 46), (.ref 47), (.ref 48), (.int 232 0), (.int 18 0), (.str (S "/claim/cut.py") 233)])), Array.mk []⟩
noncomputable def o50_B (T : List Stmt) (P : Params) : Obj := ⟨(.type "function"), none, (.func { name := (S "__set__"), qualname := (S "_tuplegetter.__set__"), params := arOf (stAt (bdOf (stAt T 2)) 2), body := .stmts (bdOf (stAt (bdOf (stAt T 2)) 2)), scope := scOf (stAt (bdOf (stAt T 2)) 2), globals := 3, closure := [], defaults := .none, kwdefaults := .none, doc := .none, pyModule := (.str (S "cpy313.difflib") 194), annotations := none, code := (.ref 49), closureTuple := .none, builtins := 0 }), Array.mk []⟩
noncomputable def o51_B (P : Params) : Obj := ⟨(.type "tuple"), none, (.seq (Array.mk []) 0), Array.mk []⟩
noncomputable def o52_B (P : Params) : Obj := ⟨.none, none, (.fields (Array.mk [])), Array.mk []⟩
noncomputable def o53_B (P : Params) : Obj := ⟨(.type "tuple"), none, (.seq (Array.mk [(.str (S "self") 238), (.str (S "obj") 239)]) 0), Array.mk []⟩
noncomputable def o54_B (P : Params) : Obj := ⟨(.type "tuple"), none, (.seq (Array.mk []) 0), Array.mk []⟩
noncomputable def o55_B (T : List Stmt) (P : Params) : Obj := ⟨.none, none, (.func { name := (S "__delete__"), qualname := (S "_tuplegetter.__delete__"), params := arOf (stAt (bdOf (stAt T 2)) 3), body := .stmts (bdOf (stAt (bdOf (stAt T 2)) 3)), scope := scOf (stAt (bdOf (stAt T 2)) 3), globals := 0, closure := [], defaults := .none, kwdefaults := .none, doc := .none, pyModule := .none, annotations := none, code := .none, closureTuple := .none, builtins := 0 }), Array.mk []⟩
noncomputable def o56_B (P : Params) : Obj := ⟨(.type "code"), none, (.fields (Array.mk [(.str (S "__delete__") 235), (.str (S "_tuplegetter.__delete__") 236), (.str (S "/claim/cut.py") 237), (.int 21 0), (.int 2 0), (.int 0 0), (.int 0 0), (.int 3 0), (.ref 51), (.bool true), (.int 181 0), (.ref 52), .none, (.ref 53), (.ref 54), (.ref 55), (.int 240 0), (.int 21 0), (.str (S "/claim/cut.py") 241)])), Array.mk []⟩
noncomputable def o57_B (T : List Stmt) (P : Params) : Obj := ⟨(.type "function"), none, (.func { name := (S "__delete__"), qualname := (S "_tuplegetter.__delete__"), params := arOf (stAt (bdOf (stAt T 2)) 3), body := .stmts (bdOf (stAt (bdOf (stAt T 2)) 3)), scope := scOf (stAt (bdOf (stAt T 2)) 3), globals := 3, closure := [], defaults := .none, kwdefaults := .none, doc := .none, pyModule := (.str (S "cpy313.difflib") 194), annotations := none, code := (.ref 56), closureTuple := .none, builtins := 0 }), Array.mk []⟩
noncomputable def o58_B (P : Params) : Obj := ⟨(.type "tuple"), none, (.seq (Array.mk [(.str (S "__doc__") 243), (.str (S "index") 244)]) 0), Array.mk []⟩
noncomputable def o59_B (P : Params) : Obj := ⟨(.type "dict"), none, (.dict (Array.mk [⟨H P (S "__module__"), (.str (S "__module__") 203), (.str (S "cpy313.difflib") 194)⟩, ⟨H P (S "__firstlineno__"), (.str (S "__firstlineno__") 207), (.int 5 206)⟩, ⟨H P (S "__init__"), (.str (S "__init__") 216), (.ref 35)⟩, ⟨H P (S "__get__"), (.str (S "__get__") 225), (.ref 43)⟩, ⟨H P (S "__set__"), (.str (S "__set__") 234), (.ref 50)⟩, ⟨H P (S "__delete__"), (.str (S "__delete__") 242), (.ref 57)⟩, ⟨H P (S "__static_attributes__"), (.str (S "__static_attributes__") 245), (.ref 58)⟩, ⟨H P (S "__dict__"), (.str (S "__dict__") 247), (.ref 61)⟩, ⟨H P (S "__weakref__"), (.str (S "__weakref__") 249), (.ref 62)⟩, ⟨H P (S "__doc__"), (.str (S "__doc__") 250), .none⟩]) 4), Array.mk []⟩
noncomputable def o60_B (P : Params) : Obj := ⟨(.type "type"), none, (.cls { name := (S "_tuplegetter"), bases := [(.type "object")], mro := [(.ref 60), (.type "object")], ns := 59, qualname := (S "_tuplegetter"), hasDict := true, slotNames := [], subclasses := [], abstract := false, collection := none, hasDel := false }), Array.mk [none, none, (some (.str (S "_tuplegetter") 196)), (some (.str (S "_tuplegetter") 204)), (some (.builtin "object.__new__")), (some (.bool true))]⟩
noncomputable def o61_B (P : Params) : Obj := ⟨(.type "getset_descriptor"), none, (.fields (Array.mk [(.str (S "__dict__") 246), (.ref 60), (.builtin "function.__dict__"), (.builtin "function.__dict__#set")])), Array.mk []⟩
noncomputable def o62_B (P : Params) : Obj := ⟨(.type "getset_descriptor"), none, (.fields (Array.mk [(.str (S "__weakref__") 248), (.ref 60), (.builtin "ExceptionGroup.__weakref__"), .none])), Array.mk []⟩
noncomputable def o63_B (P : Params) : Obj := ⟨(.type "super"), none, (.fields (Array.mk [(.ref 60), (.ref 60), (.ref 60)])), Array.mk []⟩
noncomputable def o64_B (P : Params) : Obj := ⟨(.type "builtin_function_or_method"), none, (.fields (Array.mk [(.builtin "object.__init_subclass__"), (.ref 60)])), Array.mk []⟩
noncomputable def TB (P : Params) : BT := (.node (o0_A P) (.node (o1_A P) (.node (o3_B P) (.node (o7_A P) (.node (o15_B P) (.node (o31_B P) (.node (o63_B P) .nil .nil) .nil) (.node (o47_B P) .nil .nil)) (.node (o23_B P) (.node (o39_B P) .nil .nil) (.node (o55_B TOP P) .nil .nil))) (.node (o11_A P) (.node (o19_B TOP P) (.node (o35_B TOP P) .nil .nil) (.node (o51_B P) .nil .nil)) (.node (o27_B P) (.node (o43_B TOP P) .nil .nil) (.node (o59_B P) .nil .nil)))) (.node (o5_A P) (.node (o9_A P) (.node (o17_B P) (.node (o33_B TOP P) .nil .nil) (.node (o49_B P) .nil .nil)) (.node (o25_B P) (.node (o41_B TOP P) .nil .nil) (.node (o57_B TOP P) .nil .nil))) (.node (o13_A P) (.node (o21_B TOP P) (.node (o37_B P) .nil .nil) (.node (o53_B P) .nil .nil)) (.node (o29_B P) (.node (o45_B P) .nil .nil) (.node (o61_B P) .nil .nil))))) (.node (o2_A P) (.node (o4_A P) (.node (o8_A P) (.node (o16_B P) (.node (o32_B P) (.node (o64_B P) .nil .nil) .nil) (.node (o48_B TOP P) .nil .nil)) (.node (o24_B P) (.node (o40_B P) .nil .nil) (.node (o56_B P) .nil .nil))) (.node (o12_B P) (.node (o20_B P) (.node (o36_B P) .nil .nil) (.node (o52_B P) .nil .nil)) (.node (o28_B P) (.node (o44_B P) .nil .nil) (.node (o60_B P) .nil .nil)))) (.node (o6_A P) (.node (o10_A P) (.node (o18_B P) (.node (o34_B P) .nil .nil) (.node (o50_B TOP P) .nil .nil)) (.node (o26_B P) (.node (o42_B P) .nil .nil) (.node (o58_B P) .nil .nil))) (.node (o14_A P) (.node (o22_B P) (.node (o38_B P) .nil .nil) (.node (o54_B P) .nil .nil)) (.node (o30_B P) (.node (o46_B P) .nil .nil) (.node (o62_B P) .nil .nil))))))
noncomputable def SB (w : World) (os : OsState) : SharedT := ⟨TB w.params, 65, LIFE, Array.mk [], DRAWN, 253, os⟩
noncomputable def o3_C (P : Params) : Obj := ⟨(.type "dict"), none, (.dict (Array.mk [⟨H P (S "__name__"), (.str (S "__name__") 165), (.str (S "cpy313.difflib") 194)⟩, ⟨H P (S "__doc__"), (.str (S "__doc__") 166), .none⟩, ⟨H P (S "__package__"), (.str (S "__package__") 167), .none⟩, ⟨H P (S "__loader__"), (.str (S "__loader__") 168), (.builtin "__main__.__loader__#opaque")⟩, ⟨H P (S "__spec__"), (.str (S "__spec__") 169), .none⟩, ⟨H P (S "__annotations__"), (.str (S "__annotations__") 170), (.ref 6)⟩, ⟨H P (S "__builtins__"), (.str (S "__builtins__") 171), (.ref 4)⟩, ⟨H P (S "__file__"), (.str (S "__file__") 173), (.str (S "/claim/cut.py") 172)⟩, ⟨H P (S "__cached__"), (.str (S "__cached__") 174), .none⟩, ⟨H P (S "_wall"), (.str (S "_wall") 193), (.ref 21)⟩, ⟨H P (S "_tuplegetter"), (.str (S "_tuplegetter") 252), (.ref 60)⟩, ⟨H P (S "Match"), (.str (S "Match") 380), (.ref 135)⟩]) 12), Array.mk []⟩
noncomputable def o12_C (P : Params) : Obj := ⟨.none, none, (.fields (Array.mk [(.int 1 0), (.int 0 0), (.ref 20), (.int 5 0), (.int 0 0), (.ref 27), (.int 23 0), (.int 0 0), (.ref 71)])), Array.mk []⟩
noncomputable def o65_C (P : Params) : Obj := ⟨(.type "tuple"), none, (.seq (Array.mk [(.type "tuple")]) 0), Array.mk []⟩
noncomputable def o66_C (P : Params) : Obj := ⟨(.type "builtin_function_or_method"), none, (.fields (Array.mk [(.builtin "type.__prepare__"), (.type "type")])), Array.mk []⟩
noncomputable def o67_C (P : Params) : Obj := ⟨(.type "dict"), none, (.dict (Array.mk [⟨H P (S "__module__"), (.str (S "__module__") 260), (.str (S "cpy313.difflib") 194)⟩, ⟨H P (S "__qualname__"), (.str (S "__qualname__") 262), (.str (S "Match") 261)⟩, ⟨H P (S "__firstlineno__"), (.str (S "__firstlineno__") 264), (.int 23 263)⟩, ⟨H P (S "__doc__"), (.str (S "__doc__") 266), (.str (S "Match(a, b, size)") 265)⟩, ⟨H P (S "__slots__"), (.str (S "__slots__") 268), (.ref 73)⟩, ⟨H P (S "_fields"), (.str (S "_fields") 272), (.ref 74)⟩, ⟨H P (S "_field_defaults"), (.str (S "_field_defaults") 273), (.ref 75)⟩, ⟨H P (S "__new__"), (.str (S "__new__") 284), (.ref 82)⟩, ⟨H P (S "_make"), (.str (S "_make") 306), (.ref 91)⟩, ⟨H P (S "_replace"), (.str (S "_replace") 317), (.ref 100)⟩, ⟨H P (S "__replace__"), (.str (S "__replace__") 318), (.ref 100)⟩, ⟨H P (S "__repr__"), (.str (S "__repr__") 326), (.ref 107)⟩, ⟨H P (S "_asdict"), (.str (S "_asdict") 333), (.ref 114)⟩, ⟨H P (S "__getnewargs__"), (.str (S "__getnewargs__") 341), (.ref 121)⟩, ⟨H P (S "__match_args__"), (.str (S "__match_args__") 345), (.ref 122)⟩, ⟨H P (S "a"), (.str (S "a") 355), (.ref 124)⟩, ⟨H P (S "b"), (.str (S "b") 365), (.ref 127)⟩, ⟨H P (S "size"), (.str (S "size") 375), (.ref 130)⟩, ⟨H P (S "__static_attributes__"), (.str (S "__static_attributes__") 376), (.ref 132)⟩, ⟨H P (S "__classcell__"), (.str (S "__classcell__") 377), (.ref 68)⟩]) 20), Array.mk []⟩
noncomputable def o68_C (P : Params) : Obj := ⟨(.type "cell"), none, (.cell (some (.ref 135))), Array.mk []⟩
noncomputable def o69_C (P : Params) : Obj := ⟨(.type "tuple"), none, (.seq (Array.mk []) 0), Array.mk []⟩
noncomputable def o70_C (P : Params) : Obj := ⟨.none, none, (.fields (Array.mk [(.int 29 0), (.int 4 0), (.ref 81), (.int 34 0), (.int 4 0), (.ref 88), (.int 41 0), (.int 4 0), (.ref 99), (.int 52 0), (.int 4 0), (.ref 106), (.int 56 0), (.int 4 0), (.ref 113), (.int 59 0), (.int 4 0), (.ref 120)])), Array.mk []⟩
noncomputable def o71_C (P : Params) : Obj := ⟨(.type "code"), none, (.fields (Array.mk [(.str (S "Match") 255), (.str (S "Match") 256), (.str (S "/claim/cut.py") 257), (.int 23 0), (.int 0 0), (.int 0 0), (.int 0 0), (.int 0 0), (.ref 69), (.bool false), (.int 181 0), (.ref 70), .none, .none, .none, .none, (.int 258 0), (.int 23 0), (.str (S "/claim/cut.py") 259)])), Array.mk []⟩
noncomputable def o72_C (P : Params) : Obj := ⟨(.type "frame"), none, .plain, Array.mk [(some (.ref 71)), (some (.ref 3)), (some (.ref 67)), none, (some (.str (S "cpy313.difflib") 194)), none, (some (.ref 0))]⟩
noncomputable def o73_C (P : Params) : Obj := ⟨(.type "tuple"), none, (.seq (Array.mk []) 0), Array.mk []⟩
noncomputable def o74_C (P : Params) : Obj := ⟨(.type "tuple"), none, (.seq (Array.mk [(.str (S "a") 269), (.str (S "b") 270), (.str (S "size") 271)]) 0), Array.mk []⟩
noncomputable def o75_C (P : Params) : Obj := ⟨(.type "dict"), none, (.dict (Array.mk []) 0), Array.mk []⟩
noncomputable def o76_C (P : Params) : Obj := ⟨(.type "tuple"), none, (.seq (Array.mk []) 0), Array.mk []⟩
noncomputable def o77_C (P : Params) : Obj := ⟨.none, none, (.fields (Array.mk [])), Array.mk []⟩
noncomputable def o78_C (P : Params) : Obj := ⟨(.type "tuple"), none, (.seq (Array.mk [(.str (S "_cls") 277), (.str (S "a") 278), (.str (S "b") 279), (.str (S "size") 280)]) 0), Array.mk []⟩
noncomputable def o79_C (P : Params) : Obj := ⟨(.type "tuple"), none, (.seq (Array.mk []) 0), Array.mk []⟩
noncomputable def o80_C (T : List Stmt) (P : Params) : Obj := ⟨.none, none, (.func { name := (S "__new__"), qualname := (S "Match.__new__"), params := arOf (stAt (bdOf (stAt T 3)) 4), body := .stmts (bdOf (stAt (bdOf (stAt T 3)) 4)), scope := scOf (stAt (bdOf (stAt T 3)) 4), globals := 0, closure := [], defaults := .none, kwdefaults := .none, doc := .none, pyModule := .none, annotations := none, code := .none, closureTuple := .none, builtins := 0 }), Array.mk []⟩
noncomputable def o81_C (P : Params) : Obj := ⟨(.type "code"), none, (.fields (Array.mk [(.str (S "__new__") 274), (.str (S "Match.__new__") 275), (.str (S "/claim/cut.py") 276), (.int 29 0), (.int 4 0), (.int 0 0), (.int 0 0), (.int 3 0), (.ref 76), (.bool true), (.int 181 0), (.ref 77), .none, (.ref 78), (.ref 79), (.ref 80), (.int 281 0), (.int 29 0), (.str (S "/claim/cut.py") 282)])), Array.mk []⟩
noncomputable def o82_C (T : List Stmt) (P : Params) : Obj := ⟨(.type "function"), none, (.func { name := (S "__new__"), qualname := (S "Match.__new__"), params := arOf (stAt (bdOf (stAt T 3)) 4), body := .stmts (bdOf (stAt (bdOf (stAt T 3)) 4)), scope := scOf (stAt (bdOf (stAt T 3)) 4), globals := 3, closure := [], defaults := .none, kwdefaults := .none, doc := (.str (S "Create new instance of Match(a, b, size)") 283), pyModule := (.str (S "cpy313.difflib") 194), annotations := none, code := (.ref 81), closureTuple := .none, builtins := 0 }), Array.mk []⟩
noncomputable def o83_C (P : Params) : Obj := ⟨(.type "tuple"), none, (.seq (Array.mk []) 0), Array.mk []⟩
noncomputable def o84_C (P : Params) : Obj := ⟨.none, none, (.fields (Array.mk [])), Array.mk []⟩
noncomputable def o85_C (P : Params) : Obj := ⟨(.type "tuple"), none, (.seq (Array.mk [(.str (S "cls") 288), (.str (S "iterable") 289), (.str (S "result") 290)]) 0), Array.mk []⟩
noncomputable def o86_C (P : Params) : Obj := ⟨(.type "tuple"), none, (.seq (Array.mk []) 0), Array.mk []⟩
noncomputable def o87_C (T : List Stmt) (P : Params) : Obj := ⟨.none, none, (.func { name := (S "_make"), qualname := (S "Match._make"), params := arOf (stAt (bdOf (stAt T 3)) 5), body := .stmts (bdOf (stAt (bdOf (stAt T 3)) 5)), scope := scOf (stAt (bdOf (stAt T 3)) 5), globals := 0, closure := [], defaults := .none, kwdefaults := .none, doc := .none, pyModule := .none, annotations := none, code := .none, closureTuple := .none, builtins := 0 }), Array.mk []⟩
noncomputable def o88_C (P : Params) : Obj := ⟨(.type "code"), none, (.fields (Array.mk [(.str (S "_make") 285), (.str (S "Match._make") 286), (.str (S "/claim/cut.py") 287), (.int 33 0), (.int 2 0), (.int 0 0), (.int 0 0), (.int 3 0), (.ref 83), (.bool true), (.int 181 0), (.ref 84), .none, (.ref 85), (.ref 86), (.ref 87), (.int 291 0), (.int 33 0), (.str (S "/claim/cut.py") 292)])), Array.mk []⟩
noncomputable def o89_C (T : List Stmt) (P : Params) : Obj := ⟨(.type "function"), none, (.func { name := (S "_make"), qualname := (S "Match._make"), params := arOf (stAt (bdOf (stAt T 3)) 5), body := .stmts (bdOf (stAt (bdOf (stAt T 3)) 5)), scope := scOf (stAt (bdOf (stAt T 3)) 5), globals := 3, closure := [], defaults := .none, kwdefaults := .none, doc := (.str (S "Make a new Match object from a sequence or iterable") 293), pyModule := (.str (S "cpy313.difflib") 194), annotations := (some 92), code := (.ref 88), closureTuple := .none, builtins := 0 }), Array.mk []⟩
noncomputable def o90_C (P : Params) : Obj := ⟨(.type "dict"), none, (.dict (Array.mk [⟨H P (S "__module__"), (.str (S "__module__") 295), (.str (S "cpy313.difflib") 194)⟩, ⟨H P (S "__name__"), (.str (S "__name__") 298), (.str (S "_make") 297)⟩, ⟨H P (S "__qualname__"), (.str (S "__qualname__") 301), (.str (S "Match._make") 300)⟩, ⟨H P (S "__doc__"), (.str (S "__doc__") 303), (.str (S "Make a new Match object from a sequence or iterable") 293)⟩, ⟨H P (S "__annotations__"), (.str (S "__annotations__") 305), (.ref 92)⟩]) 5), Array.mk []⟩
noncomputable def o91_C (P : Params) : Obj := ⟨(.type "classmethod"), some 90, (.fields (Array.mk [(.ref 89), (.bool false)])), Array.mk []⟩
noncomputable def o92_C (P : Params) : Obj := ⟨(.type "dict"), none, (.dict (Array.mk []) 0), Array.mk []⟩
noncomputable def o93_C (P : Params) : Obj := ⟨(.type "tuple"), none, (.seq (Array.mk [(.ref 68)]) 0), Array.mk []⟩
noncomputable def o94_C (P : Params) : Obj := ⟨(.type "tuple"), none, (.seq (Array.mk [(.str (S "__class__") 310)]) 0), Array.mk []⟩
noncomputable def o95_C (P : Params) : Obj := ⟨.none, none, (.fields (Array.mk [])), Array.mk []⟩
noncomputable def o96_C (P : Params) : Obj := ⟨(.type "tuple"), none, (.seq (Array.mk [(.str (S "self") 311), (.str (S "kwds") 312), (.str (S "result") 313)]) 0), Array.mk []⟩
noncomputable def o97_C (P : Params) : Obj := ⟨(.type "tuple"), none, (.seq (Array.mk []) 0), Array.mk []⟩
noncomputable def o98_C (T : List Stmt) (P : Params) : Obj := ⟨.none, none, (.func { name := (S "_replace"), qualname := (S "Match._replace"), params := arOf (stAt (bdOf (stAt T 3)) 6), body := .stmts (bdOf (stAt (bdOf (stAt T 3)) 6)), scope := scOf (stAt (bdOf (stAt T 3)) 6), globals := 0, closure := [], defaults := .none, kwdefaults := .none, doc := .none, pyModule := .none, annotations := none, code := .none, closureTuple := .none, builtins := 0 }), Array.mk []⟩
noncomputable def o99_C (P : Params) : Obj := ⟨(.type "code"), none, (.fields (Array.mk [(.str (S "_replace") 307), (.str (S "Match._replace") 308), (.str (S "/claim/cut.py") 309), (.int 41 0), (.int 1 0), (.int 1 0), (.int 0 0), (.int 11 0), (.ref 94), (.bool true), (.int 181 0), (.ref 95), .none, (.ref 96), (.ref 97), (.ref 98), (.int 314 0), (.int 41 0), (.str (S "/claim/cut.py") 315)])), Array.mk []⟩
noncomputable def o100_C (T : List Stmt) (P : Params) : Obj := ⟨(.type "function"), none, (.func { name := (S "_replace"), qualname := (S "Match._replace"), params := arOf (stAt (bdOf (stAt T 3)) 6), body := .stmts (bdOf (stAt (bdOf (stAt T 3)) 6)), scope := scOf (stAt (bdOf (stAt T 3)) 6), globals := 3, closure := [((S "__class__"), 68)], defaults := .none, kwdefaults := .none, doc := (.str (dcOf (stAt (bdOf (stAt T 3)) 6)) 316), pyModule := (.str (S "cpy313.difflib") 194), annotations := none, code := (.ref 99), closureTuple := (.ref 93), builtins := 0 }), Array.mk []⟩
noncomputable def o101_C (P : Params) : Obj := ⟨(.type "tuple"), none, (.seq (Array.mk []) 0), Array.mk []⟩
noncomputable def o102_C (P : Params) : Obj := ⟨.none, none, (.fields (Array.mk [])), Array.mk []⟩
noncomputable def o103_C (P : Params) : Obj := ⟨(.type "tuple"), none, (.seq (Array.mk [(.str (S "self") 322)]) 0), Array.mk []⟩
noncomputable def o104_C (P : Params) : Obj := ⟨(.type "tuple"), none, (.seq (Array.mk []) 0), Array.mk []⟩
noncomputable def o105_C (T : List Stmt) (P : Params) : Obj := ⟨.none, none, (.func { name := (S "__repr__"), qualname := (S "Match.__repr__"), params := arOf (stAt (bdOf (stAt T 3)) 8), body := .stmts (bdOf (stAt (bdOf (stAt T 3)) 8)), scope := scOf (stAt (bdOf (stAt T 3)) 8), globals := 0, closure := [], defaults := .none, kwdefaults := .none, doc := .none, pyModule := .none, annotations := none, code := .none, closureTuple := .none, builtins := 0 }), Array.mk []⟩
noncomputable def o106_C (P : Params) : Obj := ⟨(.type "code"), none, (.fields (Array.mk [(.str (S "__repr__") 319), (.str (S "Match.__repr__") 320), (.str (S "/claim/cut.py") 321), (.int 52 0), (.int 1 0), (.int 0 0), (.int 0 0), (.int 3 0), (.ref 101), (.bool true), (.int 181 0), (.ref 102), .none, (.ref 103), (.ref 104), (.ref 105), (.int 323 0), (.int 52 0), (.str (S "/claim/cut.py") 324)])), Array.mk []⟩
noncomputable def o107_C (T : List Stmt) (P : Params) : Obj := ⟨(.type "function"), none, (.func { name := (S "__repr__"), qualname := (S "Match.__repr__"), params := arOf (stAt (bdOf (stAt T 3)) 8), body := .stmts (bdOf (stAt (bdOf (stAt T 3)) 8)), scope := scOf (stAt (bdOf (stAt T 3)) 8), globals := 3, closure := [], defaults := .none, kwdefaults := .none, doc := (.str (S "Return a nicely formatted representation string") 325), pyModule := (.str (S "cpy313.difflib") 194), annotations := none, code := (.ref 106), closureTuple := .none, builtins := 0 }), Array.mk []⟩
noncomputable def o108_C (P : Params) : Obj := ⟨(.type "tuple"), none, (.seq (Array.mk []) 0), Array.mk []⟩
noncomputable def o109_C (P : Params) : Obj := ⟨.none, none, (.fields (Array.mk [])), Array.mk []⟩
noncomputable def o110_C (P : Params) : Obj := ⟨(.type "tuple"), none, (.seq (Array.mk [(.str (S "self") 330)]) 0), Array.mk []⟩
noncomputable def o111_C (P : Params) : Obj := ⟨(.type "tuple"), none, (.seq (Array.mk []) 0), Array.mk []⟩
noncomputable def o112_C (T : List Stmt) (P : Params) : Obj := ⟨.none, none, (.func { name := (S "_asdict"), qualname := (S "Match._asdict"), params := arOf (stAt (bdOf (stAt T 3)) 9), body := .stmts (bdOf (stAt (bdOf (stAt T 3)) 9)), scope := scOf (stAt (bdOf (stAt T 3)) 9), globals := 0, closure := [], defaults := .none, kwdefaults := .none, doc := .none, pyModule := .none, annotations := none, code := .none, closureTuple := .none, builtins := 0 }), Array.mk []⟩
noncomputable def o113_C (P : Params) : Obj := ⟨(.type "code"), none, (.fields (Array.mk [(.str (S "_asdict") 327), (.str (S "Match._asdict") 328), (.str (S "/claim/cut.py") 329), (.int 56 0), (.int 1 0), (.int 0 0), (.int 0 0), (.int 3 0), (.ref 108), (.bool true), (.int 181 0), (.ref 109), .none, (.ref 110), (.ref 111), (.ref 112), (.int 331 0), (.int 56 0), (.str (S "/claim/cut.py") 332)])), Array.mk []⟩
noncomputable def o114_C (T : List Stmt) (P : Params) : Obj := ⟨(.type "function"), none, (.func { name := (S "_asdict"), qualname := (S "Match._asdict"), params := arOf (stAt (bdOf (stAt T 3)) 9), body := .stmts (bdOf (stAt (bdOf (stAt T 3)) 9)), scope := scOf (stAt (bdOf (stAt T 3)) 9), globals := 3, closure := [], defaults := .none, kwdefaults := .none, doc := .none, pyModule := (.str (S "cpy313.difflib") 194), annotations := none, code := (.ref 113), closureTuple := .none, builtins := 0 }), Array.mk []⟩
noncomputable def o115_C (P : Params) : Obj := ⟨(.type "tuple"), none, (.seq (Array.mk []) 0), Array.mk []⟩
noncomputable def o116_C (P : Params) : Obj := ⟨.none, none, (.fields (Array.mk [])), Array.mk []⟩
noncomputable def o117_C (P : Params) : Obj := ⟨(.type "tuple"), none, (.seq (Array.mk [(.str (S "self") 337)]) 0), Array.mk []⟩
noncomputable def o118_C (P : Params) : Obj := ⟨(.type "tuple"), none, (.seq (Array.mk []) 0), Array.mk []⟩
noncomputable def o119_C (T : List Stmt) (P : Params) : Obj := ⟨.none, none, (.func { name := (S "__getnewargs__"), qualname := (S "Match.__getnewargs__"), params := arOf (stAt (bdOf (stAt T 3)) 10), body := .stmts (bdOf (stAt (bdOf (stAt T 3)) 10)), scope := scOf (stAt (bdOf (stAt T 3)) 10), globals := 0, closure := [], defaults := .none, kwdefaults := .none, doc := .none, pyModule := .none, annotations := none, code := .none, closureTuple := .none, builtins := 0 }), Array.mk []⟩
noncomputable def o120_C (P : Params) : Obj := ⟨(.type "code"), none, (.fields (Array.mk [(.str (S "__getnewargs__") 334), (.str (S "Match.__getnewargs__") 335), (.str (S "/claim/cut.py") 336), (.int 59 0), (.int 1 0), (.int 0 0), (.int 0 0), (.int 3 0), (.ref 115), (.bool true), (.int 181 0), (.ref 116), .none, (.ref 117), (.ref 118), (.ref 119), (.int 338 0), (.int 59 0), (.str (S "/claim/cut.py") 339)])), Array.mk []⟩
noncomputable def o121_C (T : List Stmt) (P : Params) : Obj := ⟨(.type "function"), none, (.func { name := (S "__getnewargs__"), qualname := (S "Match.__getnewargs__"), params := arOf (stAt (bdOf (stAt T 3)) 10), body := .stmts (bdOf (stAt (bdOf (stAt T 3)) 10)), scope := scOf (stAt (bdOf (stAt T 3)) 10), globals := 3, closure := [], defaults := .none, kwdefaults := .none, doc := (.str (S "Return self as a plain tuple.  Used by copy and pickle.") 340), pyModule := (.str (S "cpy313.difflib") 194), annotations := none, code := (.ref 120), closureTuple := .none, builtins := 0 }), Array.mk []⟩
noncomputable def o122_C (P : Params) : Obj := ⟨(.type "tuple"), none, (.seq (Array.mk [(.str (S "a") 342), (.str (S "b") 343), (.str (S "size") 344)]) 0), Array.mk []⟩
noncomputable def o123_C (P : Params) : Obj := ⟨(.type "dict"), none, (.dict (Array.mk [⟨H P (S "index"), (.str (S "index") 352), (.int 0 346)⟩, ⟨H P (S "__doc__"), (.str (S "__doc__") 354), (.str (S "Alias for field number 0") 347)⟩]) 2), Array.mk []⟩
noncomputable def o124_C (P : Params) : Obj := ⟨(.ref 60), some 123, .plain, Array.mk []⟩
noncomputable def o125_C (P : Params) : Obj := ⟨(.type "frame"), none, (.dict (Array.mk [⟨H P (S "self"), (.str (S "self") 348), (.ref 124)⟩, ⟨H P (S "index"), (.str (S "index") 349), (.int 0 346)⟩, ⟨H P (S "doc"), (.str (S "doc") 350), (.str (S "Alias for field number 0") 347)⟩]) 3), Array.mk []⟩
noncomputable def o126_C (P : Params) : Obj := ⟨(.type "dict"), none, (.dict (Array.mk [⟨H P (S "index"), (.str (S "index") 362), (.int 1 356)⟩, ⟨H P (S "__doc__"), (.str (S "__doc__") 364), (.str (S "Alias for field number 1") 357)⟩]) 2), Array.mk []⟩
noncomputable def o127_C (P : Params) : Obj := ⟨(.ref 60), some 126, .plain, Array.mk []⟩
noncomputable def o128_C (P : Params) : Obj := ⟨(.type "frame"), none, (.dict (Array.mk [⟨H P (S "self"), (.str (S "self") 358), (.ref 127)⟩, ⟨H P (S "index"), (.str (S "index") 359), (.int 1 356)⟩, ⟨H P (S "doc"), (.str (S "doc") 360), (.str (S "Alias for field number 1") 357)⟩]) 3), Array.mk []⟩
noncomputable def o129_C (P : Params) : Obj := ⟨(.type "dict"), none, (.dict (Array.mk [⟨H P (S "index"), (.str (S "index") 372), (.int 2 366)⟩, ⟨H P (S "__doc__"), (.str (S "__doc__") 374), (.str (S "Alias for field number 2") 367)⟩]) 2), Array.mk []⟩
noncomputable def o130_C (P : Params) : Obj := ⟨(.ref 60), some 129, .plain, Array.mk []⟩
noncomputable def o131_C (P : Params) : Obj := ⟨(.type "frame"), none, (.dict (Array.mk [⟨H P (S "self"), (.str (S "self") 368), (.ref 130)⟩, ⟨H P (S "index"), (.str (S "index") 369), (.int 2 366)⟩, ⟨H P (S "doc"), (.str (S "doc") 370), (.str (S "Alias for field number 2") 367)⟩]) 3), Array.mk []⟩
noncomputable def o132_C (P : Params) : Obj := ⟨(.type "tuple"), none, (.seq (Array.mk []) 0), Array.mk []⟩
noncomputable def o133_C (P : Params) : Obj := ⟨(.type "list"), none, (.seq (Array.mk []) 0), Array.mk []⟩
noncomputable def o134_C (P : Params) : Obj := ⟨(.type "dict"), none, (.dict (Array.mk [⟨H P (S "__module__"), (.str (S "__module__") 260), (.str (S "cpy313.difflib") 194)⟩, ⟨H P (S "__firstlineno__"), (.str (S "__firstlineno__") 264), (.int 23 263)⟩, ⟨H P (S "__doc__"), (.str (S "__doc__") 266), (.str (S "Match(a, b, size)") 265)⟩, ⟨H P (S "__slots__"), (.str (S "__slots__") 268), (.ref 73)⟩, ⟨H P (S "_fields"), (.str (S "_fields") 272), (.ref 74)⟩, ⟨H P (S "_field_defaults"), (.str (S "_field_defaults") 273), (.ref 75)⟩, ⟨H P (S "__new__"), (.str (S "__new__") 284), (.ref 136)⟩, ⟨H P (S "_make"), (.str (S "_make") 306), (.ref 91)⟩, ⟨H P (S "_replace"), (.str (S "_replace") 317), (.ref 100)⟩, ⟨H P (S "__replace__"), (.str (S "__replace__") 318), (.ref 100)⟩, ⟨H P (S "__repr__"), (.str (S "__repr__") 326), (.ref 107)⟩, ⟨H P (S "_asdict"), (.str (S "_asdict") 333), (.ref 114)⟩, ⟨H P (S "__getnewargs__"), (.str (S "__getnewargs__") 341), (.ref 121)⟩, ⟨H P (S "__match_args__"), (.str (S "__match_args__") 345), (.ref 122)⟩, ⟨H P (S "a"), (.str (S "a") 355), (.ref 124)⟩, ⟨H P (S "b"), (.str (S "b") 365), (.ref 127)⟩, ⟨H P (S "size"), (.str (S "size") 375), (.ref 130)⟩, ⟨H P (S "__static_attributes__"), (.str (S "__static_attributes__") 376), (.ref 132)⟩]) 2), Array.mk []⟩
noncomputable def o135_C (P : Params) : Obj := ⟨(.type "type"), none, (.cls { name := (S "Match"), bases := [(.type "tuple")], mro := [(.ref 135), (.type "tuple"), (.type "object")], ns := 134, qualname := (S "Match"), hasDict := false, slotNames := [], subclasses := [], abstract := false, collection := none, hasDel := false }), Array.mk [(some (.ref 65)), none, (some (.str (S "Match") 253)), (some (.str (S "Match") 261)), (some .none), (some (.bool false))]⟩
noncomputable def o136_C (P : Params) : Obj := ⟨(.type "staticmethod"), none, (.fields (Array.mk [(.ref 82)])), Array.mk []⟩
noncomputable def o137_C (P : Params) : Obj := ⟨(.type "super"), none, (.fields (Array.mk [(.ref 135), (.ref 135), (.ref 135)])), Array.mk []⟩
noncomputable def o138_C (P : Params) : Obj := ⟨(.type "builtin_function_or_method"), none, (.fields (Array.mk [(.builtin "object.__init_subclass__"), (.ref 135)])), Array.mk []⟩
noncomputable def TC (P : Params) : BT := (.node (o0_A P) (.node (o1_A P) (.node (o3_C P) (.node (o7_A P) (.node (o15_B P) (.node (o31_B P) (.node (o63_B P) (.node (o127_C P) .nil .nil) .nil) (.node (o95_C P) .nil .nil)) (.node (o47_B P) (.node (o79_C P) .nil .nil) (.node (o111_C P) .nil .nil))) (.node (o23_B P) (.node (o39_B P) (.node (o71_C P) (.node (o135_C P) .nil .nil) .nil) (.node (o103_C P) .nil .nil)) (.node (o55_B TOP P) (.node (o87_C TOP P) .nil .nil) (.node (o119_C TOP P) .nil .nil)))) (.node (o11_A P) (.node (o19_B TOP P) (.node (o35_B TOP P) (.node (o67_C P) (.node (o131_C P) .nil .nil) .nil) (.node (o99_C P) .nil .nil)) (.node (o51_B P) (.node (o83_C P) .nil .nil) (.node (o115_C P) .nil .nil))) (.node (o27_B P) (.node (o43_B TOP P) (.node (o75_C P) .nil .nil) (.node (o107_C TOP P) .nil .nil)) (.node (o59_B P) (.node (o91_C P) .nil .nil) (.node (o123_C P) .nil .nil))))) (.node (o5_A P) (.node (o9_A P) (.node (o17_B P) (.node (o33_B TOP P) (.node (o65_C P) (.node (o129_C P) .nil .nil) .nil) (.node (o97_C P) .nil .nil)) (.node (o49_B P) (.node (o81_C P) .nil .nil) (.node (o113_C P) .nil .nil))) (.node (o25_B P) (.node (o41_B TOP P) (.node (o73_C P) (.node (o137_C P) .nil .nil) .nil) (.node (o105_C TOP P) .nil .nil)) (.node (o57_B TOP P) (.node (o89_C TOP P) .nil .nil) (.node (o121_C TOP P) .nil .nil)))) (.node (o13_A P) (.node (o21_B TOP P) (.node (o37_B P) (.node (o69_C P) (.node (o133_C P) .nil .nil) .nil) (.node (o101_C P) .nil .nil)) (.node (o53_B P) (.node (o85_C P) .nil .nil) (.node (o117_C P) .nil .nil))) (.node (o29_B P) (.node (o45_B P) (.node (o77_C P) .nil .nil) (.node (o109_C P) .nil .nil)) (.node (o61_B P) (.node (o93_C P) .nil .nil) (.node (o125_C P) .nil .nil)))))) (.node (o2_A P) (.node (o4_A P) (.node (o8_A P) (.node (o16_B P) (.node (o32_B P) (.node (o64_B P) (.node (o128_C P) .nil .nil) .nil) (.node (o96_C P) .nil .nil)) (.node (o48_B TOP P) (.node (o80_C TOP P) .nil .nil) (.node (o112_C TOP P) .nil .nil))) (.node (o24_B P) (.node (o40_B P) (.node (o72_C P) (.node (o136_C P) .nil .nil) .nil) (.node (o104_C P) .nil .nil)) (.node (o56_B P) (.node (o88_C P) .nil .nil) (.node (o120_C P) .nil .nil)))) (.node (o12_C P) (.node (o20_B P) (.node (o36_B P) (.node (o68_C P) (.node (o132_C P) .nil .nil) .nil) (.node (o100_C TOP P) .nil .nil)) (.node (o52_B P) (.node (o84_C P) .nil .nil) (.node (o116_C P) .nil .nil))) (.node (o28_B P) (.node (o44_B P) (.node (o76_C P) .nil .nil) (.node (o108_C P) .nil .nil)) (.node (o60_B P) (.node (o92_C P) .nil .nil) (.node (o124_C P) .nil .nil))))) (.node (o6_A P) (.node (o10_A P) (.node (o18_B P) (.node (o34_B P) (.node (o66_C P) (.node (o130_C P) .nil .nil) .nil) (.node (o98_C TOP P) .nil .nil)) (.node (o50_B TOP P) (.node (o82_C TOP P) .nil .nil) (.node (o114_C TOP P) .nil .nil))) (.node (o26_B P) (.node (o42_B P) (.node (o74_C P) (.node (o138_C P) .nil .nil) .nil) (.node (o106_C P) .nil .nil)) (.node (o58_B P) (.node (o90_C P) .nil .nil) (.node (o122_C P) .nil .nil)))) (.node (o14_A P) (.node (o22_B P) (.node (o38_B P) (.node (o70_C P) (.node (o134_C P) .nil .nil) .nil) (.node (o102_C P) .nil .nil)) (.node (o54_B P) (.node (o86_C P) .nil .nil) (.node (o118_C P) .nil .nil))) (.node (o30_B P) (.node (o46_B P) (.node (o78_C P) .nil .nil) (.node (o110_C P) .nil .nil)) (.node (o62_B P) (.node (o94_C P) .nil .nil) (.node (o126_C P) .nil .nil)))))))
noncomputable def SC (w : World) (os : OsState) : SharedT := ⟨TC w.params, 139, LIFE, Array.mk [], DRAWN, 381, os⟩
noncomputable def o3_D (P : Params) : Obj := ⟨(.type "dict"), none, (.dict (Array.mk [⟨H P (S "__name__"), (.str (S "__name__") 165), (.str (S "cpy313.difflib") 194)⟩, ⟨H P (S "__doc__"), (.str (S "__doc__") 166), .none⟩, ⟨H P (S "__package__"), (.str (S "__package__") 167), .none⟩, ⟨H P (S "__loader__"), (.str (S "__loader__") 168), (.builtin "__main__.__loader__#opaque")⟩, ⟨H P (S "__spec__"), (.str (S "__spec__") 169), .none⟩, ⟨H P (S "__annotations__"), (.str (S "__annotations__") 170), (.ref 6)⟩, ⟨H P (S "__builtins__"), (.str (S "__builtins__") 171), (.ref 4)⟩, ⟨H P (S "__file__"), (.str (S "__file__") 173), (.str (S "/claim/cut.py") 172)⟩, ⟨H P (S "__cached__"), (.str (S "__cached__") 174), .none⟩, ⟨H P (S "_wall"), (.str (S "_wall") 193), (.ref 21)⟩, ⟨H P (S "_tuplegetter"), (.str (S "_tuplegetter") 252), (.ref 60)⟩, ⟨H P (S "Match"), (.str (S "Match") 380), (.ref 135)⟩, ⟨H P (S "_calculate_ratio"), (.str (S "_calculate_ratio") 388), (.ref 145)⟩, ⟨H P (S "SequenceMatcher"), (.str (S "SequenceMatcher") 574), (.ref 242)⟩]) 14), Array.mk []⟩
noncomputable def o12_D (P : Params) : Obj := ⟨.none, none, (.fields (Array.mk [(.int 1 0), (.int 0 0), (.ref 20), (.int 5 0), (.int 0 0), (.ref 27), (.int 23 0), (.int 0 0), (.ref 71), (.int 66 0), (.int 0 0), (.ref 144), (.int 70 0), (.int 0 0), (.ref 151)])), Array.mk []⟩
noncomputable def o139_D (P : Params) : Obj := ⟨(.type "tuple"), none, (.seq (Array.mk []) 0), Array.mk []⟩
noncomputable def o140_D (P : Params) : Obj := ⟨.none, none, (.fields (Array.mk [])), Array.mk []⟩
noncomputable def o141_D (P : Params) : Obj := ⟨(.type "tuple"), none, (.seq (Array.mk [(.str (S "matches") 384), (.str (S "length") 385)]) 0), Array.mk []⟩
noncomputable def o142_D (P : Params) : Obj := ⟨(.type "tuple"), none, (.seq (Array.mk []) 0), Array.mk []⟩
noncomputable def o143_D (T : List Stmt) (P : Params) : Obj := ⟨.none, none, (.func { name := (S "_calculate_ratio"), qualname := (S "_calculate_ratio"), params := arOf (stAt T 4), body := .stmts (bdOf (stAt T 4)), scope := scOf (stAt T 4), globals := 0, closure := [], defaults := .none, kwdefaults := .none, doc := .none, pyModule := .none, annotations := none, code := .none, closureTuple := .none, builtins := 0 }), Array.mk []⟩
noncomputable def o144_D (P : Params) : Obj := ⟨(.type "code"), none, (.fields (Array.mk [(.str (S "_calculate_ratio") 381), (.str (S "_calculate_ratio") 382), (.str (S "/claim/cut.py") 383), (.int 66 0), (.int 2 0), (.int 0 0), (.int 0 0), (.int 3 0), (.ref 139), (.bool true), (.int 181 0), (.ref 140), .none, (.ref 141), (.ref 142), (.ref 143), (.int 386 0), (.int 66 0), (.str (S "/claim/cut.py") 387)])), Array.mk []⟩
noncomputable def o145_D (T : List Stmt) (P : Params) : Obj := ⟨(.type "function"), none, (.func { name := (S "_calculate_ratio"), qualname := (S "_calculate_ratio"), params := arOf (stAt T 4), body := .stmts (bdOf (stAt T 4)), scope := scOf (stAt T 4), globals := 3, closure := [], defaults := .none, kwdefaults := .none, doc := .none, pyModule := (.str (S "cpy313.difflib") 194), annotations := none, code := (.ref 144), closureTuple := .none, builtins := 0 }), Array.mk []⟩
noncomputable def o146_D (P : Params) : Obj := ⟨(.type "tuple"), none, (.seq (Array.mk []) 0), Array.mk []⟩
noncomputable def o147_D (P : Params) : Obj := ⟨(.type "builtin_function_or_method"), none, (.fields (Array.mk [(.builtin "type.__prepare__"), (.type "type")])), Array.mk []⟩
noncomputable def o148_D (T : List Stmt) (P : Params) : Obj := ⟨(.type "dict"), none, (.dict (Array.mk [⟨H P (S "__module__"), (.str (S "__module__") 396), (.str (S "cpy313.difflib") 194)⟩, ⟨H P (S "__qualname__"), (.str (S "__qualname__") 398), (.str (S "SequenceMatcher") 397)⟩, ⟨H P (S "__firstlineno__"), (.str (S "__firstlineno__") 400), (.int 70 399)⟩, ⟨H P (S "__doc__"), (.str (S "__doc__") 402), (.str (dcOf (stAt T 5)) 401)⟩, ⟨H P (S "__init__"), (.str (S "__init__") 417), (.ref 160)⟩, ⟨H P (S "set_seqs"), (.str (S "set_seqs") 427), (.ref 167)⟩, ⟨H P (S "set_seq1"), (.str (S "set_seq1") 436), (.ref 174)⟩, ⟨H P (S "set_seq2"), (.str (S "set_seq2") 445), (.ref 181)⟩, ⟨H P (S "_SequenceMatcher__chain_b"), (.str (S "_SequenceMatcher__chain_b") 463), (.ref 188)⟩, ⟨H P (S "find_longest_match"), (.str (S "find_longest_match") 491), (.ref 196)⟩, ⟨H P (S "get_matching_blocks"), (.str (S "get_matching_blocks") 518), (.ref 203)⟩, ⟨H P (S "get_opcodes"), (.str (S "get_opcodes") 525), (.ref 210)⟩, ⟨H P (S "get_grouped_opcodes"), (.str (S "get_grouped_opcodes") 534), (.ref 218)⟩, ⟨H P (S "ratio"), (.str (S "ratio") 543), (.ref 225)⟩, ⟨H P (S "quick_ratio"), (.str (S "quick_ratio") 550), (.ref 232)⟩, ⟨H P (S "real_quick_ratio"), (.str (S "real_quick_ratio") 557), (.ref 239)⟩, ⟨H P (S "__static_attributes__"), (.str (S "__static_attributes__") 568), (.ref 240)⟩]) 17), Array.mk []⟩
noncomputable def o149_D (P : Params) : Obj := ⟨(.type "tuple"), none, (.seq (Array.mk []) 0), Array.mk []⟩
noncomputable def o150_D (P : Params) : Obj := ⟨.none, none, (.fields (Array.mk [(.int 145 0), (.int 4 0), (.ref 159), (.int 173 0), (.int 4 0), (.ref 166), (.int 184 0), (.int 4 0), (.ref 173), (.int 209 0), (.int 4 0), (.ref 180), (.int 236 0), (.int 4 0), (.ref 187), (.int 260 0), (.int 4 0), (.ref 195), (.int 335 0), (.int 4 0), (.ref 202), (.int 383 0), (.int 4 0), (.ref 209), (.int 386 0), (.int 4 0), (.ref 217), (.int 389 0), (.int 4 0), (.ref 224), (.int 413 0), (.int 4 0), (.ref 231), (.int 416 0), (.int 4 0), (.ref 238)])), Array.mk []⟩
noncomputable def o151_D (P : Params) : Obj := ⟨(.type "code"), none, (.fields (Array.mk [(.str (S "SequenceMatcher") 391), (.str (S "SequenceMatcher") 392), (.str (S "/claim/cut.py") 393), (.int 70 0), (.int 0 0), (.int 0 0), (.int 0 0), (.int 0 0), (.ref 149), (.bool false), (.int 181 0), (.ref 150), .none, .none, .none, .none, (.int 394 0), (.int 70 0), (.str (S "/claim/cut.py") 395)])), Array.mk []⟩
noncomputable def o152_D (P : Params) : Obj := ⟨(.type "frame"), none, .plain, Array.mk [(some (.ref 151)), (some (.ref 3)), (some (.ref 148)), none, (some (.str (S "cpy313.difflib") 194)), none, (some (.ref 0))]⟩
noncomputable def o153_D (P : Params) : Obj := ⟨(.type "tuple"), none, (.seq (Array.mk [.none, (.str (S "") 404), (.str (S "") 405), (.bool true)]) 0), Array.mk []⟩
noncomputable def o154_D (P : Params) : Obj := ⟨(.type "tuple"), none, (.seq (Array.mk []) 0), Array.mk []⟩
noncomputable def o155_D (P : Params) : Obj := ⟨.none, none, (.fields (Array.mk [])), Array.mk []⟩
noncomputable def o156_D (P : Params) : Obj := ⟨(.type "tuple"), none, (.seq (Array.mk [(.str (S "self") 409), (.str (S "isjunk") 410), (.str (S "a") 411), (.str (S "b") 412), (.str (S "autojunk") 413)]) 0), Array.mk []⟩
noncomputable def o157_D (P : Params) : Obj := ⟨(.type "tuple"), none, (.seq (Array.mk []) 0), Array.mk []⟩
noncomputable def o158_D (T : List Stmt) (P : Params) : Obj := ⟨.none, none, (.func { name := (S "__init__"), qualname := (S "SequenceMatcher.__init__"), params := arOf (stAt (bdOf (stAt T 5)) 1), body := .stmts (bdOf (stAt (bdOf (stAt T 5)) 1)), scope := scOf (stAt (bdOf (stAt T 5)) 1), globals := 0, closure := [], defaults := .none, kwdefaults := .none, doc := .none, pyModule := .none, annotations := none, code := .none, closureTuple := .none, builtins := 0 }), Array.mk []⟩
noncomputable def o159_D (P : Params) : Obj := ⟨(.type "code"), none, (.fields (Array.mk [(.str (S "__init__") 406), (.str (S "SequenceMatcher.__init__") 407), (.str (S "/claim/cut.py") 408), (.int 145 0), (.int 5 0), (.int 0 0), (.int 0 0), (.int 3 0), (.ref 154), (.bool true), (.int 181 0), (.ref 155), .none, (.ref 156), (.ref 157), (.ref 158), (.int 414 0), (.int 145 0), (.str (S "/claim/cut.py") 415)])), Array.mk []⟩
noncomputable def o160_D (T : List Stmt) (P : Params) : Obj := ⟨(.type "function"), none, (.func { name := (S "__init__"), qualname := (S "SequenceMatcher.__init__"), params := arOf (stAt (bdOf (stAt T 5)) 1), body := .stmts (bdOf (stAt (bdOf (stAt T 5)) 1)), scope := scOf (stAt (bdOf (stAt T 5)) 1), globals := 3, closure := [], defaults := (.ref 153), kwdefaults := .none, doc := (.str (dcOf (stAt (bdOf (stAt T 5)) 1)) 416), pyModule := (.str (S "cpy313.difflib") 194), annotations := none, code := (.ref 159), closureTuple := .none, builtins := 0 }), Array.mk []⟩
noncomputable def o161_D (P : Params) : Obj := ⟨(.type "tuple"), none, (.seq (Array.mk []) 0), Array.mk []⟩
noncomputable def o162_D (P : Params) : Obj := ⟨.none, none, (.fields (Array.mk [])), Array.mk []⟩
noncomputable def o163_D (P : Params) : Obj := ⟨(.type "tuple"), none, (.seq (Array.mk [(.str (S "self") 421), (.str (S "a") 422), (.str (S "b") 423)]) 0), Array.mk []⟩
noncomputable def o164_D (P : Params) : Obj := ⟨(.type "tuple"), none, (.seq (Array.mk []) 0), Array.mk []⟩
noncomputable def o165_D (T : List Stmt) (P : Params) : Obj := ⟨.none, none, (.func { name := (S "set_seqs"), qualname := (S "SequenceMatcher.set_seqs"), params := arOf (stAt (bdOf (stAt T 5)) 2), body := .stmts (bdOf (stAt (bdOf (stAt T 5)) 2)), scope := scOf (stAt (bdOf (stAt T 5)) 2), globals := 0, closure := [], defaults := .none, kwdefaults := .none, doc := .none, pyModule := .none, annotations := none, code := .none, closureTuple := .none, builtins := 0 }), Array.mk []⟩
noncomputable def o166_D (P : Params) : Obj := ⟨(.type "code"), none, (.fields (Array.mk [(.str (S "set_seqs") 418), (.str (S "SequenceMatcher.set_seqs") 419), (.str (S "/claim/cut.py") 420), (.int 173 0), (.int 3 0), (.int 0 0), (.int 0 0), (.int 3 0), (.ref 161), (.bool true), (.int 181 0), (.ref 162), .none, (.ref 163), (.ref 164), (.ref 165), (.int 424 0), (.int 173 0), (.str (S "/claim/cut.py") 425)])), Array.mk []⟩
noncomputable def o167_D (T : List Stmt) (P : Params) : Obj := ⟨(.type "function"), none, (.func { name := (S "set_seqs"), qualname := (S "SequenceMatcher.set_seqs"), params := arOf (stAt (bdOf (stAt T 5)) 2), body := .stmts (bdOf (stAt (bdOf (stAt T 5)) 2)), scope := scOf (stAt (bdOf (stAt T 5)) 2), globals := 3, closure := [], defaults := .none, kwdefaults := .none, doc := (.str (dcOf (stAt (bdOf (stAt T 5)) 2)) 426), pyModule := (.str (S "cpy313.difflib") 194), annotations := none, code := (.ref 166), closureTuple := .none, builtins := 0 }), Array.mk []⟩
noncomputable def o168_D (P : Params) : Obj := ⟨(.type "tuple"), none, (.seq (Array.mk []) 0), Array.mk []⟩
noncomputable def o169_D (P : Params) : Obj := ⟨.none, none, (.fields (Array.mk [])), Array.mk []⟩
noncomputable def o170_D (P : Params) : Obj := ⟨(.type "tuple"), none, (.seq (Array.mk [(.str (S "self") 431), (.str (S "a") 432)]) 0), Array.mk []⟩
noncomputable def o171_D (P : Params) : Obj := ⟨(.type "tuple"), none, (.seq (Array.mk []) 0), Array.mk []⟩
noncomputable def o172_D (T : List Stmt) (P : Params) : Obj := ⟨.none, none, (.func { name := (S "set_seq1"), qualname := (S "SequenceMatcher.set_seq1"), params := arOf (stAt (bdOf (stAt T 5)) 3), body := .stmts (bdOf (stAt (bdOf (stAt T 5)) 3)), scope := scOf (stAt (bdOf (stAt T 5)) 3), globals := 0, closure := [], defaults := .none, kwdefaults := .none, doc := .none, pyModule := .none, annotations := none, code := .none, closureTuple := .none, builtins := 0 }), Array.mk []⟩
noncomputable def o173_D (P : Params) : Obj := ⟨(.type "code"), none, (.fields (Array.mk [(.str (S "set_seq1") 428), (.str (S "SequenceMatcher.set_seq1") 429), (.str (S "/claim/cut.py") 430), (.int 184 0), (.int 2 0), (.int 0 0), (.int 0 0), (.int 3 0), (.ref 168), (.bool true), (.int 181 0), (.ref 169), .none, (.ref 170), (.ref 171), (.ref 172), (.int 433 0), (.int 184 0), (.str (S "/claim/cut.py") 434)])), Array.mk []⟩
noncomputable def o174_D (T : List Stmt) (P : Params) : Obj := ⟨(.type "function"), none, (.func { name := (S "set_seq1"), qualname := (S "SequenceMatcher.set_seq1"), params := arOf (stAt (bdOf (stAt T 5)) 3), body := .stmts (bdOf (stAt (bdOf (stAt T 5)) 3)), scope := scOf (stAt (bdOf (stAt T 5)) 3), globals := 3, closure := [], defaults := .none, kwdefaults := .none, doc := (.str (dcOf (stAt (bdOf (stAt T 5)) 3)) 435), pyModule := (.str (S "cpy313.difflib") 194), annotations := none, code := (.ref 173), closureTuple := .none, builtins := 0 }), Array.mk []⟩
noncomputable def o175_D (P : Params) : Obj := ⟨(.type "tuple"), none, (.seq (Array.mk []) 0), Array.mk []⟩
noncomputable def o176_D (P : Params) : Obj := ⟨.none, none, (.fields (Array.mk [])), Array.mk []⟩
noncomputable def o177_D (P : Params) : Obj := ⟨(.type "tuple"), none, (.seq (Array.mk [(.str (S "self") 440), (.str (S "b") 441)]) 0), Array.mk []⟩
noncomputable def o178_D (P : Params) : Obj := ⟨(.type "tuple"), none, (.seq (Array.mk []) 0), Array.mk []⟩
noncomputable def o179_D (T : List Stmt) (P : Params) : Obj := ⟨.none, none, (.func { name := (S "set_seq2"), qualname := (S "SequenceMatcher.set_seq2"), params := arOf (stAt (bdOf (stAt T 5)) 4), body := .stmts (bdOf (stAt (bdOf (stAt T 5)) 4)), scope := scOf (stAt (bdOf (stAt T 5)) 4), globals := 0, closure := [], defaults := .none, kwdefaults := .none, doc := .none, pyModule := .none, annotations := none, code := .none, closureTuple := .none, builtins := 0 }), Array.mk []⟩
noncomputable def o180_D (P : Params) : Obj := ⟨(.type "code"), none, (.fields (Array.mk [(.str (S "set_seq2") 437), (.str (S "SequenceMatcher.set_seq2") 438), (.str (S "/claim/cut.py") 439), (.int 209 0), (.int 2 0), (.int 0 0), (.int 0 0), (.int 3 0), (.ref 175), (.bool true), (.int 181 0), (.ref 176), .none, (.ref 177), (.ref 178), (.ref 179), (.int 442 0), (.int 209 0), (.str (S "/claim/cut.py") 443)])), Array.mk []⟩
noncomputable def o181_D (T : List Stmt) (P : Params) : Obj := ⟨(.type "function"), none, (.func { name := (S "set_seq2"), qualname := (S "SequenceMatcher.set_seq2"), params := arOf (stAt (bdOf (stAt T 5)) 4), body := .stmts (bdOf (stAt (bdOf (stAt T 5)) 4)), scope := scOf (stAt (bdOf (stAt T 5)) 4), globals := 3, closure := [], defaults := .none, kwdefaults := .none, doc := (.str (dcOf (stAt (bdOf (stAt T 5)) 4)) 444), pyModule := (.str (S "cpy313.difflib") 194), annotations := none, code := (.ref 180), closureTuple := .none, builtins := 0 }), Array.mk []⟩
noncomputable def o182_D (P : Params) : Obj := ⟨(.type "tuple"), none, (.seq (Array.mk []) 0), Array.mk []⟩
noncomputable def o183_D (P : Params) : Obj := ⟨.none, none, (.fields (Array.mk [])), Array.mk []⟩
noncomputable def o184_D (P : Params) : Obj := ⟨(.type "tuple"), none, (.seq (Array.mk [(.str (S "self") 449), (.str (S "b") 450), (.str (S "b2j") 451), (.str (S "i") 452), (.str (S "elt") 453), (.str (S "indices") 454), (.str (S "junk") 455), (.str (S "isjunk") 456), (.str (S "popular") 457), (.str (S "n") 458), (.str (S "ntest") 459), (.str (S "idxs") 460)]) 0), Array.mk []⟩
noncomputable def o185_D (P : Params) : Obj := ⟨(.type "tuple"), none, (.seq (Array.mk []) 0), Array.mk []⟩
noncomputable def o186_D (T : List Stmt) (P : Params) : Obj := ⟨.none, none, (.func { name := (S "__chain_b"), qualname := (S "SequenceMatcher.__chain_b"), params := arOf (stAt (bdOf (stAt T 5)) 5), body := .stmts (bdOf (stAt (bdOf (stAt T 5)) 5)), scope := scOf (stAt (bdOf (stAt T 5)) 5), globals := 0, closure := [], defaults := .none, kwdefaults := .none, doc := .none, pyModule := .none, annotations := none, code := .none, closureTuple := .none, builtins := 0 }), Array.mk []⟩
noncomputable def o187_D (P : Params) : Obj := ⟨(.type "code"), none, (.fields (Array.mk [(.str (S "__chain_b") 446), (.str (S "SequenceMatcher.__chain_b") 447), (.str (S "/claim/cut.py") 448), (.int 236 0), (.int 1 0), (.int 0 0), (.int 0 0), (.int 3 0), (.ref 182), (.bool true), (.int 181 0), (.ref 183), .none, (.ref 184), (.ref 185), (.ref 186), (.int 461 0), (.int 236 0), (.str (S "/claim/cut.py") 462)])), Array.mk []⟩
noncomputable def o188_D (T : List Stmt) (P : Params) : Obj := ⟨(.type "function"), none, (.func { name := (S "__chain_b"), qualname := (S "SequenceMatcher.__chain_b"), params := arOf (stAt (bdOf (stAt T 5)) 5), body := .stmts (bdOf (stAt (bdOf (stAt T 5)) 5)), scope := scOf (stAt (bdOf (stAt T 5)) 5), globals := 3, closure := [], defaults := .none, kwdefaults := .none, doc := .none, pyModule := (.str (S "cpy313.difflib") 194), annotations := none, code := (.ref 187), closureTuple := .none, builtins := 0 }), Array.mk []⟩
noncomputable def o189_D (P : Params) : Obj := ⟨(.type "tuple"), none, (.seq (Array.mk [(.int 0 464), .none, (.int 0 465), .none]) 0), Array.mk []⟩
noncomputable def o190_D (P : Params) : Obj := ⟨(.type "tuple"), none, (.seq (Array.mk []) 0), Array.mk []⟩
noncomputable def o191_D (P : Params) : Obj := ⟨.none, none, (.fields (Array.mk [])), Array.mk []⟩
noncomputable def o192_D (P : Params) : Obj := ⟨(.type "tuple"), none, (.seq (Array.mk [(.str (S "self") 469), (.str (S "alo") 470), (.str (S "ahi") 471), (.str (S "blo") 472), (.str (S "bhi") 473), (.str (S "a") 474), (.str (S "b") 475), (.str (S "b2j") 476), (.str (S "isbjunk") 477), (.str (S "besti") 478), (.str (S "bestj") 479), (.str (S "bestsize") 480), (.str (S "j2len") 481), (.str (S "nothing") 482), (.str (S "i") 483), (.str (S "j2lenget") 484), (.str (S "newj2len") 485), (.str (S "j") 486), (.str (S "k") 487)]) 0), Array.mk []⟩
noncomputable def o193_D (P : Params) : Obj := ⟨(.type "tuple"), none, (.seq (Array.mk []) 0), Array.mk []⟩
noncomputable def o194_D (T : List Stmt) (P : Params) : Obj := ⟨.none, none, (.func { name := (S "find_longest_match"), qualname := (S "SequenceMatcher.find_longest_match"), params := arOf (stAt (bdOf (stAt T 5)) 6), body := .stmts (bdOf (stAt (bdOf (stAt T 5)) 6)), scope := scOf (stAt (bdOf (stAt T 5)) 6), globals := 0, closure := [], defaults := .none, kwdefaults := .none, doc := .none, pyModule := .none, annotations := none, code := .none, closureTuple := .none, builtins := 0 }), Array.mk []⟩
noncomputable def o195_D (P : Params) : Obj := ⟨(.type "code"), none, (.fields (Array.mk [(.str (S "find_longest_match") 466), (.str (S "SequenceMatcher.find_longest_match") 467), (.str (S "/claim/cut.py") 468), (.int 260 0), (.int 5 0), (.int 0 0), (.int 0 0), (.int 3 0), (.ref 190), (.bool true), (.int 181 0), (.ref 191), .none, (.ref 192), (.ref 193), (.ref 194), (.int 488 0), (.int 260 0), (.str (S "/claim/cut.py") 489)])), Array.mk []⟩
noncomputable def o196_D (T : List Stmt) (P : Params) : Obj := ⟨(.type "function"), none, (.func { name := (S "find_longest_match"), qualname := (S "SequenceMatcher.find_longest_match"), params := arOf (stAt (bdOf (stAt T 5)) 6), body := .stmts (bdOf (stAt (bdOf (stAt T 5)) 6)), scope := scOf (stAt (bdOf (stAt T 5)) 6), globals := 3, closure := [], defaults := (.ref 189), kwdefaults := .none, doc := (.str (dcOf (stAt (bdOf (stAt T 5)) 6)) 490), pyModule := (.str (S "cpy313.difflib") 194), annotations := none, code := (.ref 195), closureTuple := .none, builtins := 0 }), Array.mk []⟩
noncomputable def o197_D (P : Params) : Obj := ⟨(.type "tuple"), none, (.seq (Array.mk []) 0), Array.mk []⟩
noncomputable def o198_D (P : Params) : Obj := ⟨.none, none, (.fields (Array.mk [])), Array.mk []⟩
noncomputable def o199_D (P : Params) : Obj := ⟨(.type "tuple"), none, (.seq (Array.mk [(.str (S "self") 495), (.str (S "la") 496), (.str (S "lb") 497), (.str (S "queue") 498), (.str (S "matching_blocks") 499), (.str (S "alo") 500), (.str (S "ahi") 501), (.str (S "blo") 502), (.str (S "bhi") 503), (.str (S "i") 504), (.str (S "j") 505), (.str (S "k") 506), (.str (S "x") 507), (.str (S "i1") 508), (.str (S "j1") 509), (.str (S "k1") 510), (.str (S "non_adjacent") 511), (.str (S "i2") 512), (.str (S "j2") 513), (.str (S "k2") 514)]) 0), Array.mk []⟩
noncomputable def o200_D (P : Params) : Obj := ⟨(.type "tuple"), none, (.seq (Array.mk []) 0), Array.mk []⟩
noncomputable def o201_D (T : List Stmt) (P : Params) : Obj := ⟨.none, none, (.func { name := (S "get_matching_blocks"), qualname := (S "SequenceMatcher.get_matching_blocks"), params := arOf (stAt (bdOf (stAt T 5)) 7), body := .stmts (bdOf (stAt (bdOf (stAt T 5)) 7)), scope := scOf (stAt (bdOf (stAt T 5)) 7), globals := 0, closure := [], defaults := .none, kwdefaults := .none, doc := .none, pyModule := .none, annotations := none, code := .none, closureTuple := .none, builtins := 0 }), Array.mk []⟩
noncomputable def o202_D (P : Params) : Obj := ⟨(.type "code"), none, (.fields (Array.mk [(.str (S "get_matching_blocks") 492), (.str (S "SequenceMatcher.get_matching_blocks") 493), (.str (S "/claim/cut.py") 494), (.int 335 0), (.int 1 0), (.int 0 0), (.int 0 0), (.int 3 0), (.ref 197), (.bool true), (.int 181 0), (.ref 198), .none, (.ref 199), (.ref 200), (.ref 201), (.int 515 0), (.int 335 0), (.str (S "/claim/cut.py") 516)])), Array.mk []⟩
noncomputable def o203_D (T : List Stmt) (P : Params) : Obj := ⟨(.type "function"), none, (.func { name := (S "get_matching_blocks"), qualname := (S "SequenceMatcher.get_matching_blocks"), params := arOf (stAt (bdOf (stAt T 5)) 7), body := .stmts (bdOf (stAt (bdOf (stAt T 5)) 7)), scope := scOf (stAt (bdOf (stAt T 5)) 7), globals := 3, closure := [], defaults := .none, kwdefaults := .none, doc := (.str (dcOf (stAt (bdOf (stAt T 5)) 7)) 517), pyModule := (.str (S "cpy313.difflib") 194), annotations := none, code := (.ref 202), closureTuple := .none, builtins := 0 }), Array.mk []⟩
noncomputable def o204_D (P : Params) : Obj := ⟨(.type "tuple"), none, (.seq (Array.mk []) 0), Array.mk []⟩
noncomputable def o205_D (P : Params) : Obj := ⟨.none, none, (.fields (Array.mk [])), Array.mk []⟩
noncomputable def o206_D (P : Params) : Obj := ⟨(.type "tuple"), none, (.seq (Array.mk [(.str (S "self") 522)]) 0), Array.mk []⟩
noncomputable def o207_D (P : Params) : Obj := ⟨(.type "tuple"), none, (.seq (Array.mk []) 0), Array.mk []⟩
noncomputable def o208_D (T : List Stmt) (P : Params) : Obj := ⟨.none, none, (.func { name := (S "get_opcodes"), qualname := (S "SequenceMatcher.get_opcodes"), params := arOf (stAt (bdOf (stAt T 5)) 8), body := .stmts (bdOf (stAt (bdOf (stAt T 5)) 8)), scope := scOf (stAt (bdOf (stAt T 5)) 8), globals := 0, closure := [], defaults := .none, kwdefaults := .none, doc := .none, pyModule := .none, annotations := none, code := .none, closureTuple := .none, builtins := 0 }), Array.mk []⟩
noncomputable def o209_D (P : Params) : Obj := ⟨(.type "code"), none, (.fields (Array.mk [(.str (S "get_opcodes") 519), (.str (S "SequenceMatcher.get_opcodes") 520), (.str (S "/claim/cut.py") 521), (.int 383 0), (.int 1 0), (.int 0 0), (.int 0 0), (.int 3 0), (.ref 204), (.bool true), (.int 181 0), (.ref 205), .none, (.ref 206), (.ref 207), (.ref 208), (.int 523 0), (.int 383 0), (.str (S "/claim/cut.py") 524)])), Array.mk []⟩
noncomputable def o210_D (T : List Stmt) (P : Params) : Obj := ⟨(.type "function"), none, (.func { name := (S "get_opcodes"), qualname := (S "SequenceMatcher.get_opcodes"), params := arOf (stAt (bdOf (stAt T 5)) 8), body := .stmts (bdOf (stAt (bdOf (stAt T 5)) 8)), scope := scOf (stAt (bdOf (stAt T 5)) 8), globals := 3, closure := [], defaults := .none, kwdefaults := .none, doc := .none, pyModule := (.str (S "cpy313.difflib") 194), annotations := none, code := (.ref 209), closureTuple := .none, builtins := 0 }), Array.mk []⟩
noncomputable def o211_D (P : Params) : Obj := ⟨(.type "tuple"), none, (.seq (Array.mk [(.int 3 526)]) 0), Array.mk []⟩
noncomputable def o212_D (P : Params) : Obj := ⟨(.type "tuple"), none, (.seq (Array.mk []) 0), Array.mk []⟩
noncomputable def o213_D (P : Params) : Obj := ⟨.none, none, (.fields (Array.mk [])), Array.mk []⟩
noncomputable def o214_D (P : Params) : Obj := ⟨(.type "tuple"), none, (.seq (Array.mk [(.str (S "self") 530), (.str (S "n") 531)]) 0), Array.mk []⟩
noncomputable def o215_D (P : Params) : Obj := ⟨(.type "tuple"), none, (.seq (Array.mk []) 0), Array.mk []⟩
noncomputable def o216_D (T : List Stmt) (P : Params) : Obj := ⟨.none, none, (.func { name := (S "get_grouped_opcodes"), qualname := (S "SequenceMatcher.get_grouped_opcodes"), params := arOf (stAt (bdOf (stAt T 5)) 9), body := .stmts (bdOf (stAt (bdOf (stAt T 5)) 9)), scope := scOf (stAt (bdOf (stAt T 5)) 9), globals := 0, closure := [], defaults := .none, kwdefaults := .none, doc := .none, pyModule := .none, annotations := none, code := .none, closureTuple := .none, builtins := 0 }), Array.mk []⟩
noncomputable def o217_D (P : Params) : Obj := ⟨(.type "code"), none, (.fields (Array.mk [(.str (S "get_grouped_opcodes") 527), (.str (S "SequenceMatcher.get_grouped_opcodes") 528), (.str (S "/claim/cut.py") 529), (.int 386 0), (.int 2 0), (.int 0 0), (.int 0 0), (.int 3 0), (.ref 212), (.bool true), (.int 181 0), (.ref 213), .none, (.ref 214), (.ref 215), (.ref 216), (.int 532 0), (.int 386 0), (.str (S "/claim/cut.py") 533)])), Array.mk []⟩
noncomputable def o218_D (T : List Stmt) (P : Params) : Obj := ⟨(.type "function"), none, (.func { name := (S "get_grouped_opcodes"), qualname := (S "SequenceMatcher.get_grouped_opcodes"), params := arOf (stAt (bdOf (stAt T 5)) 9), body := .stmts (bdOf (stAt (bdOf (stAt T 5)) 9)), scope := scOf (stAt (bdOf (stAt T 5)) 9), globals := 3, closure := [], defaults := (.ref 211), kwdefaults := .none, doc := .none, pyModule := (.str (S "cpy313.difflib") 194), annotations := none, code := (.ref 217), closureTuple := .none, builtins := 0 }), Array.mk []⟩
noncomputable def o219_D (P : Params) : Obj := ⟨(.type "tuple"), none, (.seq (Array.mk []) 0), Array.mk []⟩
noncomputable def o220_D (P : Params) : Obj := ⟨.none, none, (.fields (Array.mk [])), Array.mk []⟩
noncomputable def o221_D (P : Params) : Obj := ⟨(.type "tuple"), none, (.seq (Array.mk [(.str (S "self") 538), (.str (S "matches") 539)]) 0), Array.mk []⟩
noncomputable def o222_D (P : Params) : Obj := ⟨(.type "tuple"), none, (.seq (Array.mk []) 0), Array.mk []⟩
noncomputable def o223_D (T : List Stmt) (P : Params) : Obj := ⟨.none, none, (.func { name := (S "ratio"), qualname := (S "SequenceMatcher.ratio"), params := arOf (stAt (bdOf (stAt T 5)) 10), body := .stmts (bdOf (stAt (bdOf (stAt T 5)) 10)), scope := scOf (stAt (bdOf (stAt T 5)) 10), globals := 0, closure := [], defaults := .none, kwdefaults := .none, doc := .none, pyModule := .none, annotations := none, code := .none, closureTuple := .none, builtins := 0 }), Array.mk []⟩
noncomputable def o224_D (P : Params) : Obj := ⟨(.type "code"), none, (.fields (Array.mk [(.str (S "ratio") 535), (.str (S "SequenceMatcher.ratio") 536), (.str (S "/claim/cut.py") 537), (.int 389 0), (.int 1 0), (.int 0 0), (.int 0 0), (.int 3 0), (.ref 219), (.bool true), (.int 181 0), (.ref 220), .none, (.ref 221), (.ref 222), (.ref 223), (.int 540 0), (.int 389 0), (.str (S "/claim/cut.py") 541)])), Array.mk []⟩
noncomputable def o225_D (T : List Stmt) (P : Params) : Obj := ⟨(.type "function"), none, (.func { name := (S "ratio"), qualname := (S "SequenceMatcher.ratio"), params := arOf (stAt (bdOf (stAt T 5)) 10), body := .stmts (bdOf (stAt (bdOf (stAt T 5)) 10)), scope := scOf (stAt (bdOf (stAt T 5)) 10), globals := 3, closure := [], defaults := .none, kwdefaults := .none, doc := (.str (dcOf (stAt (bdOf (stAt T 5)) 10)) 542), pyModule := (.str (S "cpy313.difflib") 194), annotations := none, code := (.ref 224), closureTuple := .none, builtins := 0 }), Array.mk []⟩
noncomputable def o226_D (P : Params) : Obj := ⟨(.type "tuple"), none, (.seq (Array.mk []) 0), Array.mk []⟩
noncomputable def o227_D (P : Params) : Obj := ⟨.none, none, (.fields (Array.mk [])), Array.mk []⟩
noncomputable def o228_D (P : Params) : Obj := ⟨(.type "tuple"), none, (.seq (Array.mk [(.str (S "self") 547)]) 0), Array.mk []⟩
noncomputable def o229_D (P : Params) : Obj := ⟨(.type "tuple"), none, (.seq (Array.mk []) 0), Array.mk []⟩
noncomputable def o230_D (T : List Stmt) (P : Params) : Obj := ⟨.none, none, (.func { name := (S "quick_ratio"), qualname := (S "SequenceMatcher.quick_ratio"), params := arOf (stAt (bdOf (stAt T 5)) 11), body := .stmts (bdOf (stAt (bdOf (stAt T 5)) 11)), scope := scOf (stAt (bdOf (stAt T 5)) 11), globals := 0, closure := [], defaults := .none, kwdefaults := .none, doc := .none, pyModule := .none, annotations := none, code := .none, closureTuple := .none, builtins := 0 }), Array.mk []⟩
noncomputable def o231_D (P : Params) : Obj := ⟨(.type "code"), none, (.fields (Array.mk [(.str (S "quick_ratio") 544), (.str (S "SequenceMatcher.quick_ratio") 545), (.str (S "/claim/cut.py") 546), (.int 413 0), (.int 1 0), (.int 0 0), (.int 0 0), (.int 3 0), (.ref 226), (.bool true), (.int 181 0), (.ref 227), .none, (.ref 228), (.ref 229), (.ref 230), (.int 548 0), (.int 413 0), (.str (S "/claim/cut.py") 549)])), Array.mk []⟩
noncomputable def o232_D (T : List Stmt) (P : Params) : Obj := ⟨(.type "function"), none, (.func { name := (S "quick_ratio"), qualname := (S "SequenceMatcher.quick_ratio"), params := arOf (stAt (bdOf (stAt T 5)) 11), body := .stmts (bdOf (stAt (bdOf (stAt T 5)) 11)), scope := scOf (stAt (bdOf (stAt T 5)) 11), globals := 3, closure := [], defaults := .none, kwdefaults := .none, doc := .none, pyModule := (.str (S "cpy313.difflib") 194), annotations := none, code := (.ref 231), closureTuple := .none, builtins := 0 }), Array.mk []⟩
noncomputable def o233_D (P : Params) : Obj := ⟨(.type "tuple"), none, (.seq (Array.mk []) 0), Array.mk []⟩
noncomputable def o234_D (P : Params) : Obj := ⟨.none, none, (.fields (Array.mk [])), Array.mk []⟩
noncomputable def o235_D (P : Params) : Obj := ⟨(.type "tuple"), none, (.seq (Array.mk [(.str (S "self") 554)]) 0), Array.mk []⟩
noncomputable def o236_D (P : Params) : Obj := ⟨(.type "tuple"), none, (.seq (Array.mk []) 0), Array.mk []⟩
noncomputable def o237_D (T : List Stmt) (P : Params) : Obj := ⟨.none, none, (.func { name := (S "real_quick_ratio"), qualname := (S "SequenceMatcher.real_quick_ratio"), params := arOf (stAt (bdOf (stAt T 5)) 12), body := .stmts (bdOf (stAt (bdOf (stAt T 5)) 12)), scope := scOf (stAt (bdOf (stAt T 5)) 12), globals := 0, closure := [], defaults := .none, kwdefaults := .none, doc := .none, pyModule := .none, annotations := none, code := .none, closureTuple := .none, builtins := 0 }), Array.mk []⟩
noncomputable def o238_D (P : Params) : Obj := ⟨(.type "code"), none, (.fields (Array.mk [(.str (S "real_quick_ratio") 551), (.str (S "SequenceMatcher.real_quick_ratio") 552), (.str (S "/claim/cut.py") 553), (.int 416 0), (.int 1 0), (.int 0 0), (.int 0 0), (.int 3 0), (.ref 233), (.bool true), (.int 181 0), (.ref 234), .none, (.ref 235), (.ref 236), (.ref 237), (.int 555 0), (.int 416 0), (.str (S "/claim/cut.py") 556)])), Array.mk []⟩
noncomputable def o239_D (T : List Stmt) (P : Params) : Obj := ⟨(.type "function"), none, (.func { name := (S "real_quick_ratio"), qualname := (S "SequenceMatcher.real_quick_ratio"), params := arOf (stAt (bdOf (stAt T 5)) 12), body := .stmts (bdOf (stAt (bdOf (stAt T 5)) 12)), scope := scOf (stAt (bdOf (stAt T 5)) 12), globals := 3, closure := [], defaults := .none, kwdefaults := .none, doc := .none, pyModule := (.str (S "cpy313.difflib") 194), annotations := none, code := (.ref 238), closureTuple := .none, builtins := 0 }), Array.mk []⟩
noncomputable def o240_D (P : Params) : Obj := ⟨(.type "tuple"), none, (.seq (Array.mk [(.str (S "a") 558), (.str (S "autojunk") 559), (.str (S "b") 560), (.str (S "b2j") 561), (.str (S "bjunk") 562), (.str (S "bpopular") 563), (.str (S "fullbcount") 564), (.str (S "isjunk") 565), (.str (S "matching_blocks") 566), (.str (S "opcodes") 567)]) 0), Array.mk []⟩
noncomputable def o241_D (T : List Stmt) (P : Params) : Obj := ⟨(.type "dict"), none, (.dict (Array.mk [⟨H P (S "__module__"), (.str (S "__module__") 396), (.str (S "cpy313.difflib") 194)⟩, ⟨H P (S "__firstlineno__"), (.str (S "__firstlineno__") 400), (.int 70 399)⟩, ⟨H P (S "__doc__"), (.str (S "__doc__") 402), (.str (dcOf (stAt T 5)) 401)⟩, ⟨H P (S "__init__"), (.str (S "__init__") 417), (.ref 160)⟩, ⟨H P (S "set_seqs"), (.str (S "set_seqs") 427), (.ref 167)⟩, ⟨H P (S "set_seq1"), (.str (S "set_seq1") 436), (.ref 174)⟩, ⟨H P (S "set_seq2"), (.str (S "set_seq2") 445), (.ref 181)⟩, ⟨H P (S "_SequenceMatcher__chain_b"), (.str (S "_SequenceMatcher__chain_b") 463), (.ref 188)⟩, ⟨H P (S "find_longest_match"), (.str (S "find_longest_match") 491), (.ref 196)⟩, ⟨H P (S "get_matching_blocks"), (.str (S "get_matching_blocks") 518), (.ref 203)⟩, ⟨H P (S "get_opcodes"), (.str (S "get_opcodes") 525), (.ref 210)⟩, ⟨H P (S "get_grouped_opcodes"), (.str (S "get_grouped_opcodes") 534), (.ref 218)⟩, ⟨H P (S "ratio"), (.str (S "ratio") 543), (.ref 225)⟩, ⟨H P (S "quick_ratio"), (.str (S "quick_ratio") 550), (.ref 232)⟩, ⟨H P (S "real_quick_ratio"), (.str (S "real_quick_ratio") 557), (.ref 239)⟩, ⟨H P (S "__static_attributes__"), (.str (S "__static_attributes__") 568), (.ref 240)⟩, ⟨H P (S "__dict__"), (.str (S "__dict__") 570), (.ref 243)⟩, ⟨H P (S "__weakref__"), (.str (S "__weakref__") 572), (.ref 244)⟩]) 3), Array.mk []⟩
noncomputable def o242_D (P : Params) : Obj := ⟨(.type "type"), none, (.cls { name := (S "SequenceMatcher"), bases := [(.type "object")], mro := [(.ref 242), (.type "object")], ns := 241, qualname := (S "SequenceMatcher"), hasDict := true, slotNames := [], subclasses := [], abstract := false, collection := none, hasDel := false }), Array.mk [none, none, (some (.str (S "SequenceMatcher") 389)), (some (.str (S "SequenceMatcher") 397)), (some (.builtin "object.__new__")), (some (.bool true))]⟩
noncomputable def o243_D (P : Params) : Obj := ⟨(.type "getset_descriptor"), none, (.fields (Array.mk [(.str (S "__dict__") 569), (.ref 242), (.builtin "function.__dict__"), (.builtin "function.__dict__#set")])), Array.mk []⟩
noncomputable def o244_D (P : Params) : Obj := ⟨(.type "getset_descriptor"), none, (.fields (Array.mk [(.str (S "__weakref__") 571), (.ref 242), (.builtin "ExceptionGroup.__weakref__"), .none])), Array.mk []⟩
noncomputable def o245_D (P : Params) : Obj := ⟨(.type "super"), none, (.fields (Array.mk [(.ref 242), (.ref 242), (.ref 242)])), Array.mk []⟩
noncomputable def o246_D (P : Params) : Obj := ⟨(.type "builtin_function_or_method"), none, (.fields (Array.mk [(.builtin "object.__init_subclass__"), (.ref 242)])), Array.mk []⟩
noncomputable def TD (P : Params) : BT := (.node (o0_A P) (.node (o1_A P) (.node (o3_D P) (.node (o7_A P) (.node (o15_B P) (.node (o31_B P) (.node (o63_B P) (.node (o127_C P) .nil .nil) (.node (o191_D P) .nil .nil)) (.node (o95_C P) (.node (o159_D P) .nil .nil) (.node (o223_D TOP P) .nil .nil))) (.node (o47_B P) (.node (o79_C P) (.node (o143_D TOP P) .nil .nil) (.node (o207_D P) .nil .nil)) (.node (o111_C P) (.node (o175_D P) .nil .nil) (.node (o239_D TOP P) .nil .nil)))) (.node (o23_B P) (.node (o39_B P) (.node (o71_C P) (.node (o135_C P) .nil .nil) (.node (o199_D P) .nil .nil)) (.node (o103_C P) (.node (o167_D TOP P) .nil .nil) (.node (o231_D P) .nil .nil))) (.node (o55_B TOP P) (.node (o87_C TOP P) (.node (o151_D P) .nil .nil) (.node (o215_D P) .nil .nil)) (.node (o119_C TOP P) (.node (o183_D P) .nil .nil) .nil)))) (.node (o11_A P) (.node (o19_B TOP P) (.node (o35_B TOP P) (.node (o67_C P) (.node (o131_C P) .nil .nil) (.node (o195_D P) .nil .nil)) (.node (o99_C P) (.node (o163_D P) .nil .nil) (.node (o227_D P) .nil .nil))) (.node (o51_B P) (.node (o83_C P) (.node (o147_D P) .nil .nil) (.node (o211_D P) .nil .nil)) (.node (o115_C P) (.node (o179_D TOP P) .nil .nil) (.node (o243_D P) .nil .nil)))) (.node (o27_B P) (.node (o43_B TOP P) (.node (o75_C P) (.node (o139_D P) .nil .nil) (.node (o203_D TOP P) .nil .nil)) (.node (o107_C TOP P) (.node (o171_D P) .nil .nil) (.node (o235_D P) .nil .nil))) (.node (o59_B P) (.node (o91_C P) (.node (o155_D P) .nil .nil) (.node (o219_D P) .nil .nil)) (.node (o123_C P) (.node (o187_D P) .nil .nil) .nil))))) (.node (o5_A P) (.node (o9_A P) (.node (o17_B P) (.node (o33_B TOP P) (.node (o65_C P) (.node (o129_C P) .nil .nil) (.node (o193_D P) .nil .nil)) (.node (o97_C P) (.node (o161_D P) .nil .nil) (.node (o225_D TOP P) .nil .nil))) (.node (o49_B P) (.node (o81_C P) (.node (o145_D TOP P) .nil .nil) (.node (o209_D P) .nil .nil)) (.node (o113_C P) (.node (o177_D P) .nil .nil) (.node (o241_D TOP P) .nil .nil)))) (.node (o25_B P) (.node (o41_B TOP P) (.node (o73_C P) (.node (o137_C P) .nil .nil) (.node (o201_D TOP P) .nil .nil)) (.node (o105_C TOP P) (.node (o169_D P) .nil .nil) (.node (o233_D P) .nil .nil))) (.node (o57_B TOP P) (.node (o89_C TOP P) (.node (o153_D P) .nil .nil) (.node (o217_D P) .nil .nil)) (.node (o121_C TOP P) (.node (o185_D P) .nil .nil) .nil)))) (.node (o13_A P) (.node (o21_B TOP P) (.node (o37_B P) (.node (o69_C P) (.node (o133_C P) .nil .nil) (.node (o197_D P) .nil .nil)) (.node (o101_C P) (.node (o165_D TOP P) .nil .nil) (.node (o229_D P) .nil .nil))) (.node (o53_B P) (.node (o85_C P) (.node (o149_D P) .nil .nil) (.node (o213_D P) .nil .nil)) (.node (o117_C P) (.node (o181_D TOP P) .nil .nil) (.node (o245_D P) .nil .nil)))) (.node (o29_B P) (.node (o45_B P) (.node (o77_C P) (.node (o141_D P) .nil .nil) (.node (o205_D P) .nil .nil)) (.node (o109_C P) (.node (o173_D P) .nil .nil) (.node (o237_D TOP P) .nil .nil))) (.node (o61_B P) (.node (o93_C P) (.node (o157_D P) .nil .nil) (.node (o221_D P) .nil .nil)) (.node (o125_C P) (.node (o189_D P) .nil .nil) .nil)))))) (.node (o2_A P) (.node (o4_A P) (.node (o8_A P) (.node (o16_B P) (.node (o32_B P) (.node (o64_B P) (.node (o128_C P) .nil .nil) (.node (o192_D P) .nil .nil)) (.node (o96_C P) (.node (o160_D TOP P) .nil .nil) (.node (o224_D P) .nil .nil))) (.node (o48_B TOP P) (.node (o80_C TOP P) (.node (o144_D P) .nil .nil) (.node (o208_D TOP P) .nil .nil)) (.node (o112_C TOP P) (.node (o176_D P) .nil .nil) (.node (o240_D P) .nil .nil)))) (.node (o24_B P) (.node (o40_B P) (.node (o72_C P) (.node (o136_C P) .nil .nil) (.node (o200_D P) .nil .nil)) (.node (o104_C P) (.node (o168_D P) .nil .nil) (.node (o232_D TOP P) .nil .nil))) (.node (o56_B P) (.node (o88_C P) (.node (o152_D P) .nil .nil) (.node (o216_D TOP P) .nil .nil)) (.node (o120_C P) (.node (o184_D P) .nil .nil) .nil)))) (.node (o12_D P) (.node (o20_B P) (.node (o36_B P) (.node (o68_C P) (.node (o132_C P) .nil .nil) (.node (o196_D TOP P) .nil .nil)) (.node (o100_C TOP P) (.node (o164_D P) .nil .nil) (.node (o228_D P) .nil .nil))) (.node (o52_B P) (.node (o84_C P) (.node (o148_D TOP P) .nil .nil) (.node (o212_D P) .nil .nil)) (.node (o116_C P) (.node (o180_D P) .nil .nil) (.node (o244_D P) .nil .nil)))) (.node (o28_B P) (.node (o44_B P) (.node (o76_C P) (.node (o140_D P) .nil .nil) (.node (o204_D P) .nil .nil)) (.node (o108_C P) (.node (o172_D TOP P) .nil .nil) (.node (o236_D P) .nil .nil))) (.node (o60_B P) (.node (o92_C P) (.node (o156_D P) .nil .nil) (.node (o220_D P) .nil .nil)) (.node (o124_C P) (.node (o188_D TOP P) .nil .nil) .nil))))) (.node (o6_A P) (.node (o10_A P) (.node (o18_B P) (.node (o34_B P) (.node (o66_C P) (.node (o130_C P) .nil .nil) (.node (o194_D TOP P) .nil .nil)) (.node (o98_C TOP P) (.node (o162_D P) .nil .nil) (.node (o226_D P) .nil .nil))) (.node (o50_B TOP P) (.node (o82_C TOP P) (.node (o146_D P) .nil .nil) (.node (o210_D TOP P) .nil .nil)) (.node (o114_C TOP P) (.node (o178_D P) .nil .nil) (.node (o242_D P) .nil .nil)))) (.node (o26_B P) (.node (o42_B P) (.node (o74_C P) (.node (o138_C P) .nil .nil) (.node (o202_D P) .nil .nil)) (.node (o106_C P) (.node (o170_D P) .nil .nil) (.node (o234_D P) .nil .nil))) (.node (o58_B P) (.node (o90_C P) (.node (o154_D P) .nil .nil) (.node (o218_D TOP P) .nil .nil)) (.node (o122_C P) (.node (o186_D TOP P) .nil .nil) .nil)))) (.node (o14_A P) (.node (o22_B P) (.node (o38_B P) (.node (o70_C P) (.node (o134_C P) .nil .nil) (.node (o198_D P) .nil .nil)) (.node (o102_C P) (.node (o166_D P) .nil .nil) (.node (o230_D TOP P) .nil .nil))) (.node (o54_B P) (.node (o86_C P) (.node (o150_D P) .nil .nil) (.node (o214_D P) .nil .nil)) (.node (o118_C P) (.node (o182_D P) .nil .nil) (.node (o246_D P) .nil .nil)))) (.node (o30_B P) (.node (o46_B P) (.node (o78_C P) (.node (o142_D P) .nil .nil) (.node (o206_D P) .nil .nil)) (.node (o110_C P) (.node (o174_D TOP P) .nil .nil) (.node (o238_D P) .nil .nil))) (.node (o62_B P) (.node (o94_C P) (.node (o158_D TOP P) .nil .nil) (.node (o222_D P) .nil .nil)) (.node (o126_C P) (.node (o190_D P) .nil .nil) .nil)))))))
noncomputable def SD (w : World) (os : OsState) : SharedT := ⟨TD w.params, 247, LIFE, Array.mk [], DRAWN, 575, os⟩
noncomputable def o247_Dx (P : Params) : Obj := ⟨(.type "range"), none, (.fields (Array.mk [(.int 0 576), (.int 256 575), (.int 1 577)])), Array.mk []⟩
noncomputable def o248_Dx (P : Params) : Obj := ⟨(.type "range_iterator"), none, (.fields (Array.mk [(.int 0 0), (.int 256 0), (.int 1 0)])), Array.mk []⟩
noncomputable def o249_Dx (P : Params) : Obj := ⟨(.type "list"), none, (.seq (Array.mk []) 0), Array.mk []⟩
noncomputable def o250_Dx (P : Params) : Obj := ⟨(.type "dict"), none, (.dict (Array.mk []) 0), Array.mk []⟩
noncomputable def TDm (P : Params) (x y z : Obj) : BT := (.node (o0_A P) (.node (o1_A P) (.node (o3_D P) (.node (o7_A P) (.node (o15_B P) (.node (o31_B P) (.node (o63_B P) (.node (o127_C P) .nil .nil) (.node (o191_D P) .nil .nil)) (.node (o95_C P) (.node (o159_D P) .nil .nil) (.node (o223_D TOP P) .nil .nil))) (.node (o47_B P) (.node (o79_C P) (.node (o143_D TOP P) .nil .nil) (.node (o207_D P) .nil .nil)) (.node (o111_C P) (.node (o175_D P) .nil .nil) (.node (o239_D TOP P) .nil .nil)))) (.node (o23_B P) (.node (o39_B P) (.node (o71_C P) (.node (o135_C P) .nil .nil) (.node (o199_D P) .nil .nil)) (.node (o103_C P) (.node (o167_D TOP P) .nil .nil) (.node (o231_D P) .nil .nil))) (.node (o55_B TOP P) (.node (o87_C TOP P) (.node (o151_D P) .nil .nil) (.node (o215_D P) .nil .nil)) (.node (o119_C TOP P) (.node (o183_D P) .nil .nil) (.node (o247_Dx P) .nil .nil))))) (.node (o11_A P) (.node (o19_B TOP P) (.node (o35_B TOP P) (.node (o67_C P) (.node (o131_C P) .nil .nil) (.node (o195_D P) .nil .nil)) (.node (o99_C P) (.node (o163_D P) .nil .nil) (.node (o227_D P) .nil .nil))) (.node (o51_B P) (.node (o83_C P) (.node (o147_D P) .nil .nil) (.node (o211_D P) .nil .nil)) (.node (o115_C P) (.node (o179_D TOP P) .nil .nil) (.node (o243_D P) .nil .nil)))) (.node (o27_B P) (.node (o43_B TOP P) (.node (o75_C P) (.node (o139_D P) .nil .nil) (.node (o203_D TOP P) .nil .nil)) (.node (o107_C TOP P) (.node (o171_D P) .nil .nil) (.node (o235_D P) .nil .nil))) (.node (o59_B P) (.node (o91_C P) (.node (o155_D P) .nil .nil) (.node (o219_D P) .nil .nil)) (.node (o123_C P) (.node (o187_D P) .nil .nil) .nil))))) (.node (o5_A P) (.node (o9_A P) (.node (o17_B P) (.node (o33_B TOP P) (.node (o65_C P) (.node (o129_C P) .nil .nil) (.node (o193_D P) .nil .nil)) (.node (o97_C P) (.node (o161_D P) .nil .nil) (.node (o225_D TOP P) .nil .nil))) (.node (o49_B P) (.node (o81_C P) (.node (o145_D TOP P) .nil .nil) (.node (o209_D P) .nil .nil)) (.node (o113_C P) (.node (o177_D P) .nil .nil) (.node (o241_D TOP P) .nil .nil)))) (.node (o25_B P) (.node (o41_B TOP P) (.node (o73_C P) (.node (o137_C P) .nil .nil) (.node (o201_D TOP P) .nil .nil)) (.node (o105_C TOP P) (.node (o169_D P) .nil .nil) (.node (o233_D P) .nil .nil))) (.node (o57_B TOP P) (.node (o89_C TOP P) (.node (o153_D P) .nil .nil) (.node (o217_D P) .nil .nil)) (.node (o121_C TOP P) (.node (o185_D P) .nil .nil) (.node y .nil .nil))))) (.node (o13_A P) (.node (o21_B TOP P) (.node (o37_B P) (.node (o69_C P) (.node (o133_C P) .nil .nil) (.node (o197_D P) .nil .nil)) (.node (o101_C P) (.node (o165_D TOP P) .nil .nil) (.node (o229_D P) .nil .nil))) (.node (o53_B P) (.node (o85_C P) (.node (o149_D P) .nil .nil) (.node (o213_D P) .nil .nil)) (.node (o117_C P) (.node (o181_D TOP P) .nil .nil) (.node (o245_D P) .nil .nil)))) (.node (o29_B P) (.node (o45_B P) (.node (o77_C P) (.node (o141_D P) .nil .nil) (.node (o205_D P) .nil .nil)) (.node (o109_C P) (.node (o173_D P) .nil .nil) (.node (o237_D TOP P) .nil .nil))) (.node (o61_B P) (.node (o93_C P) (.node (o157_D P) .nil .nil) (.node (o221_D P) .nil .nil)) (.node (o125_C P) (.node (o189_D P) .nil .nil) .nil)))))) (.node (o2_A P) (.node (o4_A P) (.node (o8_A P) (.node (o16_B P) (.node (o32_B P) (.node (o64_B P) (.node (o128_C P) .nil .nil) (.node (o192_D P) .nil .nil)) (.node (o96_C P) (.node (o160_D TOP P) .nil .nil) (.node (o224_D P) .nil .nil))) (.node (o48_B TOP P) (.node (o80_C TOP P) (.node (o144_D P) .nil .nil) (.node (o208_D TOP P) .nil .nil)) (.node (o112_C TOP P) (.node (o176_D P) .nil .nil) (.node (o240_D P) .nil .nil)))) (.node (o24_B P) (.node (o40_B P) (.node (o72_C P) (.node (o136_C P) .nil .nil) (.node (o200_D P) .nil .nil)) (.node (o104_C P) (.node (o168_D P) .nil .nil) (.node (o232_D TOP P) .nil .nil))) (.node (o56_B P) (.node (o88_C P) (.node (o152_D P) .nil .nil) (.node (o216_D TOP P) .nil .nil)) (.node (o120_C P) (.node (o184_D P) .nil .nil) (.node x .nil .nil))))) (.node (o12_D P) (.node (o20_B P) (.node (o36_B P) (.node (o68_C P) (.node (o132_C P) .nil .nil) (.node (o196_D TOP P) .nil .nil)) (.node (o100_C TOP P) (.node (o164_D P) .nil .nil) (.node (o228_D P) .nil .nil))) (.node (o52_B P) (.node (o84_C P) (.node (o148_D TOP P) .nil .nil) (.node (o212_D P) .nil .nil)) (.node (o116_C P) (.node (o180_D P) .nil .nil) (.node (o244_D P) .nil .nil)))) (.node (o28_B P) (.node (o44_B P) (.node (o76_C P) (.node (o140_D P) .nil .nil) (.node (o204_D P) .nil .nil)) (.node (o108_C P) (.node (o172_D TOP P) .nil .nil) (.node (o236_D P) .nil .nil))) (.node (o60_B P) (.node (o92_C P) (.node (o156_D P) .nil .nil) (.node (o220_D P) .nil .nil)) (.node (o124_C P) (.node (o188_D TOP P) .nil .nil) .nil))))) (.node (o6_A P) (.node (o10_A P) (.node (o18_B P) (.node (o34_B P) (.node (o66_C P) (.node (o130_C P) .nil .nil) (.node (o194_D TOP P) .nil .nil)) (.node (o98_C TOP P) (.node (o162_D P) .nil .nil) (.node (o226_D P) .nil .nil))) (.node (o50_B TOP P) (.node (o82_C TOP P) (.node (o146_D P) .nil .nil) (.node (o210_D TOP P) .nil .nil)) (.node (o114_C TOP P) (.node (o178_D P) .nil .nil) (.node (o242_D P) .nil .nil)))) (.node (o26_B P) (.node (o42_B P) (.node (o74_C P) (.node (o138_C P) .nil .nil) (.node (o202_D P) .nil .nil)) (.node (o106_C P) (.node (o170_D P) .nil .nil) (.node (o234_D P) .nil .nil))) (.node (o58_B P) (.node (o90_C P) (.node (o154_D P) .nil .nil) (.node (o218_D TOP P) .nil .nil)) (.node (o122_C P) (.node (o186_D TOP P) .nil .nil) (.node z .nil .nil))))) (.node (o14_A P) (.node (o22_B P) (.node (o38_B P) (.node (o70_C P) (.node (o134_C P) .nil .nil) (.node (o198_D P) .nil .nil)) (.node (o102_C P) (.node (o166_D P) .nil .nil) (.node (o230_D TOP P) .nil .nil))) (.node (o54_B P) (.node (o86_C P) (.node (o150_D P) .nil .nil) (.node (o214_D P) .nil .nil)) (.node (o118_C P) (.node (o182_D P) .nil .nil) (.node (o246_D P) .nil .nil)))) (.node (o30_B P) (.node (o46_B P) (.node (o78_C P) (.node (o142_D P) .nil .nil) (.node (o206_D P) .nil .nil)) (.node (o110_C P) (.node (o174_D TOP P) .nil .nil) (.node (o238_D P) .nil .nil))) (.node (o62_B P) (.node (o94_C P) (.node (o158_D TOP P) .nil .nil) (.node (o222_D P) .nil .nil)) (.node (o126_C P) (.node (o190_D P) .nil .nil) .nil)))))))
noncomputable def TDx (P : Params) : BT := TDm P (o248_Dx P) (o249_Dx P) (o250_Dx P)
noncomputable def SDx (w : World) (os : OsState) : SharedT := ⟨TDx w.params, 251, LIFE, Array.mk [], DRAWN, 578, os⟩
noncomputable def o248_Dy (P : Params) : Obj := ⟨(.type "range_iterator"), none, (.fields (Array.mk [(.int 256 0), (.int 0 0), (.int 1 0)])), Array.mk []⟩
noncomputable def LQ : List Value := [(.str (S "=00") 581), (.str (S "=01") 585), (.str (S "=02") 589), (.str (S "=03") 593), (.str (S "=04") 597), (.str (S "=05") 601), (.str (S "=06") 605), (.str (S "=07") 609), (.str (S "=08") 613), (.str (S "=09") 617), (.str (S "=0A") 621), (.str (S "=0B") 625), (.str (S "=0C") 629), (.str (S "=0D") 633), (.str (S "=0E") 637), (.str (S "=0F") 641), (.str (S "=10") 645), (.str (S "=11") 649), (.str (S "=12") 653), (.str (S "=13") 657), (.str (S "=14") 661), (.str (S "=15") 665), (.str (S "=16") 669), (.str (S "=17") 673), (.str (S "=18") 677), (.str (S "=19") 681), (.str (S "=1A") 685), (.str (S "=1B") 689), (.str (S "=1C") 693), (.str (S "=1D") 697), (.str (S "=1E") 701), (.str (S "=1F") 705), (.str (S "=20") 709), (.str (S "=21") 713), (.str (S "=22") 717), (.str (S "=23") 721), (.str (S "=24") 725), (.str (S "=25") 729), (.str (S "=26") 733), (.str (S "=27") 737), (.str (S "=28") 741), (.str (S "=29") 745), (.str (S "=2A") 749), (.str (S "=2B") 753), (.str (S "=2C") 757), (.str (S "=2D") 761), (.str (S "=2E") 765), (.str (S "=2F") 769), (.str (S "=30") 773), (.str (S "=31") 777), (.str (S "=32") 781), (.str (S "=33") 785), (.str (S "=34") 789), (.str (S "=35") 793), (.str (S "=36") 797), (.str (S "=37") 801), (.str (S "=38") 805), (.str (S "=39") 809), (.str (S "=3A") 813), (.str (S "=3B") 817), (.str (S "=3C") 821), (.str (S "=3D") 825), (.str (S "=3E") 829), (.str (S "=3F") 833), (.str (S "=40") 837), (.str (S "=41") 841), (.str (S "=42") 845), (.str (S "=43") 849), (.str (S "=44") 853), (.str (S "=45") 857), (.str (S "=46") 861), (.str (S "=47") 865), (.str (S "=48") 869), (.str (S "=49") 873), (.str (S "=4A") 877), (.str (S "=4B") 881), (.str (S "=4C") 885), (.str (S "=4D") 889), (.str (S "=4E") 893), (.str (S "=4F") 897), (.str (S "=50") 901), (.str (S "=51") 905), (.str (S "=52") 909), (.str (S "=53") 913), (.str (S "=54") 917), (.str (S "=55") 921), (.str (S "=56") 925), (.str (S "=57") 929), (.str (S "=58") 933), (.str (S "=59") 937), (.str (S "=5A") 941), (.str (S "=5B") 945), (.str (S "=5C") 949), (.str (S "=5D") 953), (.str (S "=5E") 957), (.str (S "=5F") 961), (.str (S "=60") 965), (.str (S "=61") 969), (.str (S "=62") 973), (.str (S "=63") 977), (.str (S "=64") 981), (.str (S "=65") 985), (.str (S "=66") 989), (.str (S "=67") 993), (.str (S "=68") 997), (.str (S "=69") 1001), (.str (S "=6A") 1005), (.str (S "=6B") 1009), (.str (S "=6C") 1013), (.str (S "=6D") 1017), (.str (S "=6E") 1021), (.str (S "=6F") 1025), (.str (S "=70") 1029), (.str (S "=71") 1033), (.str (S "=72") 1037), (.str (S "=73") 1041), (.str (S "=74") 1045), (.str (S "=75") 1049), (.str (S "=76") 1053), (.str (S "=77") 1057), (.str (S "=78") 1061), (.str (S "=79") 1065), (.str (S "=7A") 1069), (.str (S "=7B") 1073), (.str (S "=7C") 1077), (.str (S "=7D") 1081), (.str (S "=7E") 1085), (.str (S "=7F") 1089), (.str (S "=80") 1093), (.str (S "=81") 1097), (.str (S "=82") 1101), (.str (S "=83") 1105), (.str (S "=84") 1109), (.str (S "=85") 1113), (.str (S "=86") 1117), (.str (S "=87") 1121), (.str (S "=88") 1125), (.str (S "=89") 1129), (.str (S "=8A") 1133), (.str (S "=8B") 1137), (.str (S "=8C") 1141), (.str (S "=8D") 1145), (.str (S "=8E") 1149), (.str (S "=8F") 1153), (.str (S "=90") 1157), (.str (S "=91") 1161), (.str (S "=92") 1165), (.str (S "=93") 1169), (.str (S "=94") 1173), (.str (S "=95") 1177), (.str (S "=96") 1181), (.str (S "=97") 1185), (.str (S "=98") 1189), (.str (S "=99") 1193), (.str (S "=9A") 1197), (.str (S "=9B") 1201), (.str (S "=9C") 1205), (.str (S "=9D") 1209), (.str (S "=9E") 1213), (.str (S "=9F") 1217), (.str (S "=A0") 1221), (.str (S "=A1") 1225), (.str (S "=A2") 1229), (.str (S "=A3") 1233), (.str (S "=A4") 1237), (.str (S "=A5") 1241), (.str (S "=A6") 1245), (.str (S "=A7") 1249), (.str (S "=A8") 1253), (.str (S "=A9") 1257), (.str (S "=AA") 1261), (.str (S "=AB") 1265), (.str (S "=AC") 1269), (.str (S "=AD") 1273), (.str (S "=AE") 1277), (.str (S "=AF") 1281), (.str (S "=B0") 1285), (.str (S "=B1") 1289), (.str (S "=B2") 1293), (.str (S "=B3") 1297), (.str (S "=B4") 1301), (.str (S "=B5") 1305), (.str (S "=B6") 1309), (.str (S "=B7") 1313), (.str (S "=B8") 1317), (.str (S "=B9") 1321), (.str (S "=BA") 1325), (.str (S "=BB") 1329), (.str (S "=BC") 1333), (.str (S "=BD") 1337), (.str (S "=BE") 1341), (.str (S "=BF") 1345), (.str (S "=C0") 1349), (.str (S "=C1") 1353), (.str (S "=C2") 1357), (.str (S "=C3") 1361), (.str (S "=C4") 1365), (.str (S "=C5") 1369), (.str (S "=C6") 1373), (.str (S "=C7") 1377), (.str (S "=C8") 1381), (.str (S "=C9") 1385), (.str (S "=CA") 1389), (.str (S "=CB") 1393), (.str (S "=CC") 1397), (.str (S "=CD") 1401), (.str (S "=CE") 1405), (.str (S "=CF") 1409), (.str (S "=D0") 1413), (.str (S "=D1") 1417), (.str (S "=D2") 1421), (.str (S "=D3") 1425), (.str (S "=D4") 1429), (.str (S "=D5") 1433), (.str (S "=D6") 1437), (.str (S "=D7") 1441), (.str (S "=D8") 1445), (.str (S "=D9") 1449), (.str (S "=DA") 1453), (.str (S "=DB") 1457), (.str (S "=DC") 1461), (.str (S "=DD") 1465), (.str (S "=DE") 1469), (.str (S "=DF") 1473), (.str (S "=E0") 1477), (.str (S "=E1") 1481), (.str (S "=E2") 1485), (.str (S "=E3") 1489), (.str (S "=E4") 1493), (.str (S "=E5") 1497), (.str (S "=E6") 1501), (.str (S "=E7") 1505), (.str (S "=E8") 1509), (.str (S "=E9") 1513), (.str (S "=EA") 1517), (.str (S "=EB") 1521), (.str (S "=EC") 1525), (.str (S "=ED") 1529), (.str (S "=EE") 1533), (.str (S "=EF") 1537), (.str (S "=F0") 1541), (.str (S "=F1") 1545), (.str (S "=F2") 1549), (.str (S "=F3") 1553), (.str (S "=F4") 1557), (.str (S "=F5") 1561), (.str (S "=F6") 1565), (.str (S "=F7") 1569), (.str (S "=F8") 1573), (.str (S "=F9") 1577), (.str (S "=FA") 1581), (.str (S "=FB") 1585), (.str (S "=FC") 1589), (.str (S "=FD") 1593), (.str (S "=FE") 1597), (.str (S "=FF") 1601)]
noncomputable def SDm64 (w : World) (os : OsState) : SharedT := ⟨TDm w.params ⟨(.type "range_iterator"), none, (.fields (Array.mk [(.int 64 0), (.int 192 0), (.int 1 0)])), Array.mk []⟩ ⟨(.type "list"), none, (.seq (Array.mk (LQ.take 64)) 64), Array.mk []⟩ ⟨(.type "dict"), none, (.dict (Array.mk [⟨H w.params (S "c"), (.str (S "c") 579), (.int 63 830)⟩]) 1), Array.mk []⟩, 251, LIFE, Array.mk [], DRAWN, 834, os⟩
noncomputable def SDm128 (w : World) (os : OsState) : SharedT := ⟨TDm w.params ⟨(.type "range_iterator"), none, (.fields (Array.mk [(.int 128 0), (.int 128 0), (.int 1 0)])), Array.mk []⟩ ⟨(.type "list"), none, (.seq (Array.mk (LQ.take 128)) 128), Array.mk []⟩ ⟨(.type "dict"), none, (.dict (Array.mk [⟨H w.params (S "c"), (.str (S "c") 579), (.int 127 1086)⟩]) 1), Array.mk []⟩, 251, LIFE, Array.mk [], DRAWN, 1090, os⟩
noncomputable def SDm192 (w : World) (os : OsState) : SharedT := ⟨TDm w.params ⟨(.type "range_iterator"), none, (.fields (Array.mk [(.int 192 0), (.int 64 0), (.int 1 0)])), Array.mk []⟩ ⟨(.type "list"), none, (.seq (Array.mk (LQ.take 192)) 192), Array.mk []⟩ ⟨(.type "dict"), none, (.dict (Array.mk [⟨H w.params (S "c"), (.str (S "c") 579), (.int 191 1342)⟩]) 1), Array.mk []⟩, 251, LIFE, Array.mk [], DRAWN, 1346, os⟩
noncomputable def o249_Dy (P : Params) : Obj := ⟨(.type "list"), none, (.seq (Array.mk LQ) 256), Array.mk []⟩
noncomputable def o250_Dy (P : Params) : Obj := ⟨(.type "dict"), none, (.dict (Array.mk [⟨H P (S "c"), (.str (S "c") 579), (.int 255 1598)⟩]) 1), Array.mk []⟩
noncomputable def o251_Dy (P : Params) : Obj := ⟨(.type "tuple"), none, (.seq (Array.mk []) 0), Array.mk []⟩
noncomputable def o252_Dy (P : Params) : Obj := ⟨(.type "StopIteration"), none, (.fields (Array.mk [(.ref 251), .none, .none, .none, (.bool false), .none])), Array.mk []⟩
noncomputable def TDy (P : Params) : BT := (.node (o0_A P) (.node (o1_A P) (.node (o3_D P) (.node (o7_A P) (.node (o15_B P) (.node (o31_B P) (.node (o63_B P) (.node (o127_C P) .nil .nil) (.node (o191_D P) .nil .nil)) (.node (o95_C P) (.node (o159_D P) .nil .nil) (.node (o223_D TOP P) .nil .nil))) (.node (o47_B P) (.node (o79_C P) (.node (o143_D TOP P) .nil .nil) (.node (o207_D P) .nil .nil)) (.node (o111_C P) (.node (o175_D P) .nil .nil) (.node (o239_D TOP P) .nil .nil)))) (.node (o23_B P) (.node (o39_B P) (.node (o71_C P) (.node (o135_C P) .nil .nil) (.node (o199_D P) .nil .nil)) (.node (o103_C P) (.node (o167_D TOP P) .nil .nil) (.node (o231_D P) .nil .nil))) (.node (o55_B TOP P) (.node (o87_C TOP P) (.node (o151_D P) .nil .nil) (.node (o215_D P) .nil .nil)) (.node (o119_C TOP P) (.node (o183_D P) .nil .nil) (.node (o247_Dx P) .nil .nil))))) (.node (o11_A P) (.node (o19_B TOP P) (.node (o35_B TOP P) (.node (o67_C P) (.node (o131_C P) .nil .nil) (.node (o195_D P) .nil .nil)) (.node (o99_C P) (.node (o163_D P) .nil .nil) (.node (o227_D P) .nil .nil))) (.node (o51_B P) (.node (o83_C P) (.node (o147_D P) .nil .nil) (.node (o211_D P) .nil .nil)) (.node (o115_C P) (.node (o179_D TOP P) .nil .nil) (.node (o243_D P) .nil .nil)))) (.node (o27_B P) (.node (o43_B TOP P) (.node (o75_C P) (.node (o139_D P) .nil .nil) (.node (o203_D TOP P) .nil .nil)) (.node (o107_C TOP P) (.node (o171_D P) .nil .nil) (.node (o235_D P) .nil .nil))) (.node (o59_B P) (.node (o91_C P) (.node (o155_D P) .nil .nil) (.node (o219_D P) .nil .nil)) (.node (o123_C P) (.node (o187_D P) .nil .nil) (.node (o251_Dy P) .nil .nil)))))) (.node (o5_A P) (.node (o9_A P) (.node (o17_B P) (.node (o33_B TOP P) (.node (o65_C P) (.node (o129_C P) .nil .nil) (.node (o193_D P) .nil .nil)) (.node (o97_C P) (.node (o161_D P) .nil .nil) (.node (o225_D TOP P) .nil .nil))) (.node (o49_B P) (.node (o81_C P) (.node (o145_D TOP P) .nil .nil) (.node (o209_D P) .nil .nil)) (.node (o113_C P) (.node (o177_D P) .nil .nil) (.node (o241_D TOP P) .nil .nil)))) (.node (o25_B P) (.node (o41_B TOP P) (.node (o73_C P) (.node (o137_C P) .nil .nil) (.node (o201_D TOP P) .nil .nil)) (.node (o105_C TOP P) (.node (o169_D P) .nil .nil) (.node (o233_D P) .nil .nil))) (.node (o57_B TOP P) (.node (o89_C TOP P) (.node (o153_D P) .nil .nil) (.node (o217_D P) .nil .nil)) (.node (o121_C TOP P) (.node (o185_D P) .nil .nil) (.node (o249_Dy P) .nil .nil))))) (.node (o13_A P) (.node (o21_B TOP P) (.node (o37_B P) (.node (o69_C P) (.node (o133_C P) .nil .nil) (.node (o197_D P) .nil .nil)) (.node (o101_C P) (.node (o165_D TOP P) .nil .nil) (.node (o229_D P) .nil .nil))) (.node (o53_B P) (.node (o85_C P) (.node (o149_D P) .nil .nil) (.node (o213_D P) .nil .nil)) (.node (o117_C P) (.node (o181_D TOP P) .nil .nil) (.node (o245_D P) .nil .nil)))) (.node (o29_B P) (.node (o45_B P) (.node (o77_C P) (.node (o141_D P) .nil .nil) (.node (o205_D P) .nil .nil)) (.node (o109_C P) (.node (o173_D P) .nil .nil) (.node (o237_D TOP P) .nil .nil))) (.node (o61_B P) (.node (o93_C P) (.node (o157_D P) .nil .nil) (.node (o221_D P) .nil .nil)) (.node (o125_C P) (.node (o189_D P) .nil .nil) .nil)))))) (.node (o2_A P) (.node (o4_A P) (.node (o8_A P) (.node (o16_B P) (.node (o32_B P) (.node (o64_B P) (.node (o128_C P) .nil .nil) (.node (o192_D P) .nil .nil)) (.node (o96_C P) (.node (o160_D TOP P) .nil .nil) (.node (o224_D P) .nil .nil))) (.node (o48_B TOP P) (.node (o80_C TOP P) (.node (o144_D P) .nil .nil) (.node (o208_D TOP P) .nil .nil)) (.node (o112_C TOP P) (.node (o176_D P) .nil .nil) (.node (o240_D P) .nil .nil)))) (.node (o24_B P) (.node (o40_B P) (.node (o72_C P) (.node (o136_C P) .nil .nil) (.node (o200_D P) .nil .nil)) (.node (o104_C P) (.node (o168_D P) .nil .nil) (.node (o232_D TOP P) .nil .nil))) (.node (o56_B P) (.node (o88_C P) (.node (o152_D P) .nil .nil) (.node (o216_D TOP P) .nil .nil)) (.node (o120_C P) (.node (o184_D P) .nil .nil) (.node (o248_Dy P) .nil .nil))))) (.node (o12_D P) (.node (o20_B P) (.node (o36_B P) (.node (o68_C P) (.node (o132_C P) .nil .nil) (.node (o196_D TOP P) .nil .nil)) (.node (o100_C TOP P) (.node (o164_D P) .nil .nil) (.node (o228_D P) .nil .nil))) (.node (o52_B P) (.node (o84_C P) (.node (o148_D TOP P) .nil .nil) (.node (o212_D P) .nil .nil)) (.node (o116_C P) (.node (o180_D P) .nil .nil) (.node (o244_D P) .nil .nil)))) (.node (o28_B P) (.node (o44_B P) (.node (o76_C P) (.node (o140_D P) .nil .nil) (.node (o204_D P) .nil .nil)) (.node (o108_C P) (.node (o172_D TOP P) .nil .nil) (.node (o236_D P) .nil .nil))) (.node (o60_B P) (.node (o92_C P) (.node (o156_D P) .nil .nil) (.node (o220_D P) .nil .nil)) (.node (o124_C P) (.node (o188_D TOP P) .nil .nil) (.node (o252_Dy P) .nil .nil)))))) (.node (o6_A P) (.node (o10_A P) (.node (o18_B P) (.node (o34_B P) (.node (o66_C P) (.node (o130_C P) .nil .nil) (.node (o194_D TOP P) .nil .nil)) (.node (o98_C TOP P) (.node (o162_D P) .nil .nil) (.node (o226_D P) .nil .nil))) (.node (o50_B TOP P) (.node (o82_C TOP P) (.node (o146_D P) .nil .nil) (.node (o210_D TOP P) .nil .nil)) (.node (o114_C TOP P) (.node (o178_D P) .nil .nil) (.node (o242_D P) .nil .nil)))) (.node (o26_B P) (.node (o42_B P) (.node (o74_C P) (.node (o138_C P) .nil .nil) (.node (o202_D P) .nil .nil)) (.node (o106_C P) (.node (o170_D P) .nil .nil) (.node (o234_D P) .nil .nil))) (.node (o58_B P) (.node (o90_C P) (.node (o154_D P) .nil .nil) (.node (o218_D TOP P) .nil .nil)) (.node (o122_C P) (.node (o186_D TOP P) .nil .nil) (.node (o250_Dy P) .nil .nil))))) (.node (o14_A P) (.node (o22_B P) (.node (o38_B P) (.node (o70_C P) (.node (o134_C P) .nil .nil) (.node (o198_D P) .nil .nil)) (.node (o102_C P) (.node (o166_D P) .nil .nil) (.node (o230_D TOP P) .nil .nil))) (.node (o54_B P) (.node (o86_C P) (.node (o150_D P) .nil .nil) (.node (o214_D P) .nil .nil)) (.node (o118_C P) (.node (o182_D P) .nil .nil) (.node (o246_D P) .nil .nil)))) (.node (o30_B P) (.node (o46_B P) (.node (o78_C P) (.node (o142_D P) .nil .nil) (.node (o206_D P) .nil .nil)) (.node (o110_C P) (.node (o174_D TOP P) .nil .nil) (.node (o238_D P) .nil .nil))) (.node (o62_B P) (.node (o94_C P) (.node (o158_D TOP P) .nil .nil) (.node (o222_D P) .nil .nil)) (.node (o126_C P) (.node (o190_D P) .nil .nil) .nil)))))))
noncomputable def SDy (w : World) (os : OsState) : SharedT := ⟨TDy w.params, 253, LIFE, Array.mk [], DRAWN, 1602, os⟩
noncomputable def o3_E (P : Params) : Obj := ⟨(.type "dict"), none, (.dict (Array.mk [⟨H P (S "__name__"), (.str (S "__name__") 165), (.str (S "cpy313.difflib") 194)⟩, ⟨H P (S "__doc__"), (.str (S "__doc__") 166), .none⟩, ⟨H P (S "__package__"), (.str (S "__package__") 167), .none⟩, ⟨H P (S "__loader__"), (.str (S "__loader__") 168), (.builtin "__main__.__loader__#opaque")⟩, ⟨H P (S "__spec__"), (.str (S "__spec__") 169), .none⟩, ⟨H P (S "__annotations__"), (.str (S "__annotations__") 170), (.ref 6)⟩, ⟨H P (S "__builtins__"), (.str (S "__builtins__") 171), (.ref 4)⟩, ⟨H P (S "__file__"), (.str (S "__file__") 173), (.str (S "/claim/cut.py") 172)⟩, ⟨H P (S "__cached__"), (.str (S "__cached__") 174), .none⟩, ⟨H P (S "_wall"), (.str (S "_wall") 193), (.ref 21)⟩, ⟨H P (S "_tuplegetter"), (.str (S "_tuplegetter") 252), (.ref 60)⟩, ⟨H P (S "Match"), (.str (S "Match") 380), (.ref 135)⟩, ⟨H P (S "_calculate_ratio"), (.str (S "_calculate_ratio") 388), (.ref 145)⟩, ⟨H P (S "SequenceMatcher"), (.str (S "SequenceMatcher") 574), (.ref 242)⟩, ⟨H P (S "_QUOPRI_MAP"), (.str (S "_QUOPRI_MAP") 1602), (.ref 249)⟩]) 15), Array.mk []⟩
noncomputable def o250_E (P : Params) : Obj := ⟨(.type "dict"), none, (.dict (Array.mk []) 2), Array.mk []⟩
noncomputable def TE (P : Params) : BT := (.node (o0_A P) (.node (o1_A P) (.node (o3_E P) (.node (o7_A P) (.node (o15_B P) (.node (o31_B P) (.node (o63_B P) (.node (o127_C P) .nil .nil) (.node (o191_D P) .nil .nil)) (.node (o95_C P) (.node (o159_D P) .nil .nil) (.node (o223_D TOP P) .nil .nil))) (.node (o47_B P) (.node (o79_C P) (.node (o143_D TOP P) .nil .nil) (.node (o207_D P) .nil .nil)) (.node (o111_C P) (.node (o175_D P) .nil .nil) (.node (o239_D TOP P) .nil .nil)))) (.node (o23_B P) (.node (o39_B P) (.node (o71_C P) (.node (o135_C P) .nil .nil) (.node (o199_D P) .nil .nil)) (.node (o103_C P) (.node (o167_D TOP P) .nil .nil) (.node (o231_D P) .nil .nil))) (.node (o55_B TOP P) (.node (o87_C TOP P) (.node (o151_D P) .nil .nil) (.node (o215_D P) .nil .nil)) (.node (o119_C TOP P) (.node (o183_D P) .nil .nil) (.node (o247_Dx P) .nil .nil))))) (.node (o11_A P) (.node (o19_B TOP P) (.node (o35_B TOP P) (.node (o67_C P) (.node (o131_C P) .nil .nil) (.node (o195_D P) .nil .nil)) (.node (o99_C P) (.node (o163_D P) .nil .nil) (.node (o227_D P) .nil .nil))) (.node (o51_B P) (.node (o83_C P) (.node (o147_D P) .nil .nil) (.node (o211_D P) .nil .nil)) (.node (o115_C P) (.node (o179_D TOP P) .nil .nil) (.node (o243_D P) .nil .nil)))) (.node (o27_B P) (.node (o43_B TOP P) (.node (o75_C P) (.node (o139_D P) .nil .nil) (.node (o203_D TOP P) .nil .nil)) (.node (o107_C TOP P) (.node (o171_D P) .nil .nil) (.node (o235_D P) .nil .nil))) (.node (o59_B P) (.node (o91_C P) (.node (o155_D P) .nil .nil) (.node (o219_D P) .nil .nil)) (.node (o123_C P) (.node (o187_D P) .nil .nil) (.node (o251_Dy P) .nil .nil)))))) (.node (o5_A P) (.node (o9_A P) (.node (o17_B P) (.node (o33_B TOP P) (.node (o65_C P) (.node (o129_C P) .nil .nil) (.node (o193_D P) .nil .nil)) (.node (o97_C P) (.node (o161_D P) .nil .nil) (.node (o225_D TOP P) .nil .nil))) (.node (o49_B P) (.node (o81_C P) (.node (o145_D TOP P) .nil .nil) (.node (o209_D P) .nil .nil)) (.node (o113_C P) (.node (o177_D P) .nil .nil) (.node (o241_D TOP P) .nil .nil)))) (.node (o25_B P) (.node (o41_B TOP P) (.node (o73_C P) (.node (o137_C P) .nil .nil) (.node (o201_D TOP P) .nil .nil)) (.node (o105_C TOP P) (.node (o169_D P) .nil .nil) (.node (o233_D P) .nil .nil))) (.node (o57_B TOP P) (.node (o89_C TOP P) (.node (o153_D P) .nil .nil) (.node (o217_D P) .nil .nil)) (.node (o121_C TOP P) (.node (o185_D P) .nil .nil) (.node (o249_Dy P) .nil .nil))))) (.node (o13_A P) (.node (o21_B TOP P) (.node (o37_B P) (.node (o69_C P) (.node (o133_C P) .nil .nil) (.node (o197_D P) .nil .nil)) (.node (o101_C P) (.node (o165_D TOP P) .nil .nil) (.node (o229_D P) .nil .nil))) (.node (o53_B P) (.node (o85_C P) (.node (o149_D P) .nil .nil) (.node (o213_D P) .nil .nil)) (.node (o117_C P) (.node (o181_D TOP P) .nil .nil) (.node (o245_D P) .nil .nil)))) (.node (o29_B P) (.node (o45_B P) (.node (o77_C P) (.node (o141_D P) .nil .nil) (.node (o205_D P) .nil .nil)) (.node (o109_C P) (.node (o173_D P) .nil .nil) (.node (o237_D TOP P) .nil .nil))) (.node (o61_B P) (.node (o93_C P) (.node (o157_D P) .nil .nil) (.node (o221_D P) .nil .nil)) (.node (o125_C P) (.node (o189_D P) .nil .nil) .nil)))))) (.node (o2_A P) (.node (o4_A P) (.node (o8_A P) (.node (o16_B P) (.node (o32_B P) (.node (o64_B P) (.node (o128_C P) .nil .nil) (.node (o192_D P) .nil .nil)) (.node (o96_C P) (.node (o160_D TOP P) .nil .nil) (.node (o224_D P) .nil .nil))) (.node (o48_B TOP P) (.node (o80_C TOP P) (.node (o144_D P) .nil .nil) (.node (o208_D TOP P) .nil .nil)) (.node (o112_C TOP P) (.node (o176_D P) .nil .nil) (.node (o240_D P) .nil .nil)))) (.node (o24_B P) (.node (o40_B P) (.node (o72_C P) (.node (o136_C P) .nil .nil) (.node (o200_D P) .nil .nil)) (.node (o104_C P) (.node (o168_D P) .nil .nil) (.node (o232_D TOP P) .nil .nil))) (.node (o56_B P) (.node (o88_C P) (.node (o152_D P) .nil .nil) (.node (o216_D TOP P) .nil .nil)) (.node (o120_C P) (.node (o184_D P) .nil .nil) (.node (o248_Dy P) .nil .nil))))) (.node (o12_D P) (.node (o20_B P) (.node (o36_B P) (.node (o68_C P) (.node (o132_C P) .nil .nil) (.node (o196_D TOP P) .nil .nil)) (.node (o100_C TOP P) (.node (o164_D P) .nil .nil) (.node (o228_D P) .nil .nil))) (.node (o52_B P) (.node (o84_C P) (.node (o148_D TOP P) .nil .nil) (.node (o212_D P) .nil .nil)) (.node (o116_C P) (.node (o180_D P) .nil .nil) (.node (o244_D P) .nil .nil)))) (.node (o28_B P) (.node (o44_B P) (.node (o76_C P) (.node (o140_D P) .nil .nil) (.node (o204_D P) .nil .nil)) (.node (o108_C P) (.node (o172_D TOP P) .nil .nil) (.node (o236_D P) .nil .nil))) (.node (o60_B P) (.node (o92_C P) (.node (o156_D P) .nil .nil) (.node (o220_D P) .nil .nil)) (.node (o124_C P) (.node (o188_D TOP P) .nil .nil) (.node (o252_Dy P) .nil .nil)))))) (.node (o6_A P) (.node (o10_A P) (.node (o18_B P) (.node (o34_B P) (.node (o66_C P) (.node (o130_C P) .nil .nil) (.node (o194_D TOP P) .nil .nil)) (.node (o98_C TOP P) (.node (o162_D P) .nil .nil) (.node (o226_D P) .nil .nil))) (.node (o50_B TOP P) (.node (o82_C TOP P) (.node (o146_D P) .nil .nil) (.node (o210_D TOP P) .nil .nil)) (.node (o114_C TOP P) (.node (o178_D P) .nil .nil) (.node (o242_D P) .nil .nil)))) (.node (o26_B P) (.node (o42_B P) (.node (o74_C P) (.node (o138_C P) .nil .nil) (.node (o202_D P) .nil .nil)) (.node (o106_C P) (.node (o170_D P) .nil .nil) (.node (o234_D P) .nil .nil))) (.node (o58_B P) (.node (o90_C P) (.node (o154_D P) .nil .nil) (.node (o218_D TOP P) .nil .nil)) (.node (o122_C P) (.node (o186_D TOP P) .nil .nil) (.node (o250_E P) .nil .nil))))) (.node (o14_A P) (.node (o22_B P) (.node (o38_B P) (.node (o70_C P) (.node (o134_C P) .nil .nil) (.node (o198_D P) .nil .nil)) (.node (o102_C P) (.node (o166_D P) .nil .nil) (.node (o230_D TOP P) .nil .nil))) (.node (o54_B P) (.node (o86_C P) (.node (o150_D P) .nil .nil) (.node (o214_D P) .nil .nil)) (.node (o118_C P) (.node (o182_D P) .nil .nil) (.node (o246_D P) .nil .nil)))) (.node (o30_B P) (.node (o46_B P) (.node (o78_C P) (.node (o142_D P) .nil .nil) (.node (o206_D P) .nil .nil)) (.node (o110_C P) (.node (o174_D TOP P) .nil .nil) (.node (o238_D P) .nil .nil))) (.node (o62_B P) (.node (o94_C P) (.node (o158_D TOP P) .nil .nil) (.node (o222_D P) .nil .nil)) (.node (o126_C P) (.node (o190_D P) .nil .nil) .nil)))))))
noncomputable def SE (w : World) (os : OsState) : SharedT := ⟨TE w.params, 253, LIFE, Array.mk [], DRAWN, 1603, os⟩
noncomputable def o3_F (P : Params) : Obj := ⟨(.type "dict"), none, (.dict (Array.mk [⟨H P (S "__name__"), (.str (S "__name__") 165), (.str (S "cpy313.email.quoprimime") 1613)⟩, ⟨H P (S "__doc__"), (.str (S "__doc__") 166), .none⟩, ⟨H P (S "__package__"), (.str (S "__package__") 167), .none⟩, ⟨H P (S "__loader__"), (.str (S "__loader__") 168), (.builtin "__main__.__loader__#opaque")⟩, ⟨H P (S "__spec__"), (.str (S "__spec__") 169), .none⟩, ⟨H P (S "__annotations__"), (.str (S "__annotations__") 170), (.ref 6)⟩, ⟨H P (S "__builtins__"), (.str (S "__builtins__") 171), (.ref 4)⟩, ⟨H P (S "__file__"), (.str (S "__file__") 173), (.str (S "/claim/cut.py") 172)⟩, ⟨H P (S "__cached__"), (.str (S "__cached__") 174), .none⟩, ⟨H P (S "_wall"), (.str (S "_wall") 193), (.ref 21)⟩, ⟨H P (S "_tuplegetter"), (.str (S "_tuplegetter") 252), (.ref 60)⟩, ⟨H P (S "Match"), (.str (S "Match") 380), (.ref 135)⟩, ⟨H P (S "_calculate_ratio"), (.str (S "_calculate_ratio") 388), (.ref 145)⟩, ⟨H P (S "SequenceMatcher"), (.str (S "SequenceMatcher") 574), (.ref 242)⟩, ⟨H P (S "_QUOPRI_MAP"), (.str (S "_QUOPRI_MAP") 1602), (.ref 249)⟩, ⟨H P (S "_QUOPRI_HEADER_MAP"), (.str (S "_QUOPRI_HEADER_MAP") 1603), (.ref 254)⟩, ⟨H P (S "_QUOPRI_BODY_MAP"), (.str (S "_QUOPRI_BODY_MAP") 1604), (.ref 256)⟩, ⟨H P (S "ascii_lowercase"), (.str (S "ascii_lowercase") 1606), (.str (S "abcdefghijklmnopqrstuvwxyz") 1605)⟩, ⟨H P (S "ascii_uppercase"), (.str (S "ascii_uppercase") 1608), (.str (S "ABCDEFGHIJKLMNOPQRSTUVWXYZ") 1607)⟩, ⟨H P (S "ascii_letters"), (.str (S "ascii_letters") 1610), (.str (S "abcdefghijklmnopqrstuvwxyzABCDEFGHIJKLMNOPQRSTUVWXYZ") 1609)⟩, ⟨H P (S "digits"), (.str (S "digits") 1612), (.str (S "0123456789") 1611)⟩]) 21), Array.mk []⟩
noncomputable def o253_F (P : Params) : Obj := ⟨(.type "slice"), none, (.fields (Array.mk [.none, .none, .none])), Array.mk []⟩
noncomputable def o254_F (P : Params) : Obj := ⟨(.type "list"), none, (.seq (Array.mk [(.str (S "=00") 581), (.str (S "=01") 585), (.str (S "=02") 589), (.str (S "=03") 593), (.str (S "=04") 597), (.str (S "=05") 601), (.str (S "=06") 605), (.str (S "=07") 609), (.str (S "=08") 613), (.str (S "=09") 617), (.str (S "=0A") 621), (.str (S "=0B") 625), (.str (S "=0C") 629), (.str (S "=0D") 633), (.str (S "=0E") 637), (.str (S "=0F") 641), (.str (S "=10") 645), (.str (S "=11") 649), (.str (S "=12") 653), (.str (S "=13") 657), (.str (S "=14") 661), (.str (S "=15") 665), (.str (S "=16") 669), (.str (S "=17") 673), (.str (S "=18") 677), (.str (S "=19") 681), (.str (S "=1A") 685), (.str (S "=1B") 689), (.str (S "=1C") 693), (.str (S "=1D") 697), (.str (S "=1E") 701), (.str (S "=1F") 705), (.str (S "=20") 709), (.str (S "=21") 713), (.str (S "=22") 717), (.str (S "=23") 721), (.str (S "=24") 725), (.str (S "=25") 729), (.str (S "=26") 733), (.str (S "=27") 737), (.str (S "=28") 741), (.str (S "=29") 745), (.str (S "=2A") 749), (.str (S "=2B") 753), (.str (S "=2C") 757), (.str (S "=2D") 761), (.str (S "=2E") 765), (.str (S "=2F") 769), (.str (S "=30") 773), (.str (S "=31") 777), (.str (S "=32") 781), (.str (S "=33") 785), (.str (S "=34") 789), (.str (S "=35") 793), (.str (S "=36") 797), (.str (S "=37") 801), (.str (S "=38") 805), (.str (S "=39") 809), (.str (S "=3A") 813), (.str (S "=3B") 817), (.str (S "=3C") 821), (.str (S "=3D") 825), (.str (S "=3E") 829), (.str (S "=3F") 833), (.str (S "=40") 837), (.str (S "=41") 841), (.str (S "=42") 845), (.str (S "=43") 849), (.str (S "=44") 853), (.str (S "=45") 857), (.str (S "=46") 861), (.str (S "=47") 865), (.str (S "=48") 869), (.str (S "=49") 873), (.str (S "=4A") 877), (.str (S "=4B") 881), (.str (S "=4C") 885), (.str (S "=4D") 889), (.str (S "=4E") 893), (.str (S "=4F") 897), (.str (S "=50") 901), (.str (S "=51") 905), (.str (S "=52") 909), (.str (S "=53") 913), (.str (S "=54") 917), (.str (S "=55") 921), (.str (S "=56") 925), (.str (S "=57") 929), (.str (S "=58") 933), (.str (S "=59") 937), (.str (S "=5A") 941), (.str (S "=5B") 945), (.str (S "=5C") 949), (.str (S "=5D") 953), (.str (S "=5E") 957), (.str (S "=5F") 961), (.str (S "=60") 965), (.str (S "=61") 969), (.str (S "=62") 973), (.str (S "=63") 977), (.str (S "=64") 981), (.str (S "=65") 985), (.str (S "=66") 989), (.str (S "=67") 993), (.str (S "=68") 997), (.str (S "=69") 1001), (.str (S "=6A") 1005), (.str (S "=6B") 1009), (.str (S "=6C") 1013), (.str (S "=6D") 1017), (.str (S "=6E") 1021), (.str (S "=6F") 1025), (.str (S "=70") 1029), (.str (S "=71") 1033), (.str (S "=72") 1037), (.str (S "=73") 1041), (.str (S "=74") 1045), (.str (S "=75") 1049), (.str (S "=76") 1053), (.str (S "=77") 1057), (.str (S "=78") 1061), (.str (S "=79") 1065), (.str (S "=7A") 1069), (.str (S "=7B") 1073), (.str (S "=7C") 1077), (.str (S "=7D") 1081), (.str (S "=7E") 1085), (.str (S "=7F") 1089), (.str (S "=80") 1093), (.str (S "=81") 1097), (.str (S "=82") 1101), (.str (S "=83") 1105), (.str (S "=84") 1109), (.str (S "=85") 1113), (.str (S "=86") 1117), (.str (S "=87") 1121), (.str (S "=88") 1125), (.str (S "=89") 1129), (.str (S "=8A") 1133), (.str (S "=8B") 1137), (.str (S "=8C") 1141), (.str (S "=8D") 1145), (.str (S "=8E") 1149), (.str (S "=8F") 1153), (.str (S "=90") 1157), (.str (S "=91") 1161), (.str (S "=92") 1165), (.str (S "=93") 1169), (.str (S "=94") 1173), (.str (S "=95") 1177), (.str (S "=96") 1181), (.str (S "=97") 1185), (.str (S "=98") 1189), (.str (S "=99") 1193), (.str (S "=9A") 1197), (.str (S "=9B") 1201), (.str (S "=9C") 1205), (.str (S "=9D") 1209), (.str (S "=9E") 1213), (.str (S "=9F") 1217), (.str (S "=A0") 1221), (.str (S "=A1") 1225), (.str (S "=A2") 1229), (.str (S "=A3") 1233), (.str (S "=A4") 1237), (.str (S "=A5") 1241), (.str (S "=A6") 1245), (.str (S "=A7") 1249), (.str (S "=A8") 1253), (.str (S "=A9") 1257), (.str (S "=AA") 1261), (.str (S "=AB") 1265), (.str (S "=AC") 1269), (.str (S "=AD") 1273), (.str (S "=AE") 1277), (.str (S "=AF") 1281), (.str (S "=B0") 1285), (.str (S "=B1") 1289), (.str (S "=B2") 1293), (.str (S "=B3") 1297), (.str (S "=B4") 1301), (.str (S "=B5") 1305), (.str (S "=B6") 1309), (.str (S "=B7") 1313), (.str (S "=B8") 1317), (.str (S "=B9") 1321), (.str (S "=BA") 1325), (.str (S "=BB") 1329), (.str (S "=BC") 1333), (.str (S "=BD") 1337), (.str (S "=BE") 1341), (.str (S "=BF") 1345), (.str (S "=C0") 1349), (.str (S "=C1") 1353), (.str (S "=C2") 1357), (.str (S "=C3") 1361), (.str (S "=C4") 1365), (.str (S "=C5") 1369), (.str (S "=C6") 1373), (.str (S "=C7") 1377), (.str (S "=C8") 1381), (.str (S "=C9") 1385), (.str (S "=CA") 1389), (.str (S "=CB") 1393), (.str (S "=CC") 1397), (.str (S "=CD") 1401), (.str (S "=CE") 1405), (.str (S "=CF") 1409), (.str (S "=D0") 1413), (.str (S "=D1") 1417), (.str (S "=D2") 1421), (.str (S "=D3") 1425), (.str (S "=D4") 1429), (.str (S "=D5") 1433), (.str (S "=D6") 1437), (.str (S "=D7") 1441), (.str (S "=D8") 1445), (.str (S "=D9") 1449), (.str (S "=DA") 1453), (.str (S "=DB") 1457), (.str (S "=DC") 1461), (.str (S "=DD") 1465), (.str (S "=DE") 1469), (.str (S "=DF") 1473), (.str (S "=E0") 1477), (.str (S "=E1") 1481), (.str (S "=E2") 1485), (.str (S "=E3") 1489), (.str (S "=E4") 1493), (.str (S "=E5") 1497), (.str (S "=E6") 1501), (.str (S "=E7") 1505), (.str (S "=E8") 1509), (.str (S "=E9") 1513), (.str (S "=EA") 1517), (.str (S "=EB") 1521), (.str (S "=EC") 1525), (.str (S "=ED") 1529), (.str (S "=EE") 1533), (.str (S "=EF") 1537), (.str (S "=F0") 1541), (.str (S "=F1") 1545), (.str (S "=F2") 1549), (.str (S "=F3") 1553), (.str (S "=F4") 1557), (.str (S "=F5") 1561), (.str (S "=F6") 1565), (.str (S "=F7") 1569), (.str (S "=F8") 1573), (.str (S "=F9") 1577), (.str (S "=FA") 1581), (.str (S "=FB") 1585), (.str (S "=FC") 1589), (.str (S "=FD") 1593), (.str (S "=FE") 1597), (.str (S "=FF") 1601)]) 0), Array.mk []⟩
noncomputable def o255_F (P : Params) : Obj := ⟨(.type "slice"), none, (.fields (Array.mk [.none, .none, .none])), Array.mk []⟩
noncomputable def o256_F (P : Params) : Obj := ⟨(.type "list"), none, (.seq (Array.mk [(.str (S "=00") 581), (.str (S "=01") 585), (.str (S "=02") 589), (.str (S "=03") 593), (.str (S "=04") 597), (.str (S "=05") 601), (.str (S "=06") 605), (.str (S "=07") 609), (.str (S "=08") 613), (.str (S "=09") 617), (.str (S "=0A") 621), (.str (S "=0B") 625), (.str (S "=0C") 629), (.str (S "=0D") 633), (.str (S "=0E") 637), (.str (S "=0F") 641), (.str (S "=10") 645), (.str (S "=11") 649), (.str (S "=12") 653), (.str (S "=13") 657), (.str (S "=14") 661), (.str (S "=15") 665), (.str (S "=16") 669), (.str (S "=17") 673), (.str (S "=18") 677), (.str (S "=19") 681), (.str (S "=1A") 685), (.str (S "=1B") 689), (.str (S "=1C") 693), (.str (S "=1D") 697), (.str (S "=1E") 701), (.str (S "=1F") 705), (.str (S "=20") 709), (.str (S "=21") 713), (.str (S "=22") 717), (.str (S "=23") 721), (.str (S "=24") 725), (.str (S "=25") 729), (.str (S "=26") 733), (.str (S "=27") 737), (.str (S "=28") 741), (.str (S "=29") 745), (.str (S "=2A") 749), (.str (S "=2B") 753), (.str (S "=2C") 757), (.str (S "=2D") 761), (.str (S "=2E") 765), (.str (S "=2F") 769), (.str (S "=30") 773), (.str (S "=31") 777), (.str (S "=32") 781), (.str (S "=33") 785), (.str (S "=34") 789), (.str (S "=35") 793), (.str (S "=36") 797), (.str (S "=37") 801), (.str (S "=38") 805), (.str (S "=39") 809), (.str (S "=3A") 813), (.str (S "=3B") 817), (.str (S "=3C") 821), (.str (S "=3D") 825), (.str (S "=3E") 829), (.str (S "=3F") 833), (.str (S "=40") 837), (.str (S "=41") 841), (.str (S "=42") 845), (.str (S "=43") 849), (.str (S "=44") 853), (.str (S "=45") 857), (.str (S "=46") 861), (.str (S "=47") 865), (.str (S "=48") 869), (.str (S "=49") 873), (.str (S "=4A") 877), (.str (S "=4B") 881), (.str (S "=4C") 885), (.str (S "=4D") 889), (.str (S "=4E") 893), (.str (S "=4F") 897), (.str (S "=50") 901), (.str (S "=51") 905), (.str (S "=52") 909), (.str (S "=53") 913), (.str (S "=54") 917), (.str (S "=55") 921), (.str (S "=56") 925), (.str (S "=57") 929), (.str (S "=58") 933), (.str (S "=59") 937), (.str (S "=5A") 941), (.str (S "=5B") 945), (.str (S "=5C") 949), (.str (S "=5D") 953), (.str (S "=5E") 957), (.str (S "=5F") 961), (.str (S "=60") 965), (.str (S "=61") 969), (.str (S "=62") 973), (.str (S "=63") 977), (.str (S "=64") 981), (.str (S "=65") 985), (.str (S "=66") 989), (.str (S "=67") 993), (.str (S "=68") 997), (.str (S "=69") 1001), (.str (S "=6A") 1005), (.str (S "=6B") 1009), (.str (S "=6C") 1013), (.str (S "=6D") 1017), (.str (S "=6E") 1021), (.str (S "=6F") 1025), (.str (S "=70") 1029), (.str (S "=71") 1033), (.str (S "=72") 1037), (.str (S "=73") 1041), (.str (S "=74") 1045), (.str (S "=75") 1049), (.str (S "=76") 1053), (.str (S "=77") 1057), (.str (S "=78") 1061), (.str (S "=79") 1065), (.str (S "=7A") 1069), (.str (S "=7B") 1073), (.str (S "=7C") 1077), (.str (S "=7D") 1081), (.str (S "=7E") 1085), (.str (S "=7F") 1089), (.str (S "=80") 1093), (.str (S "=81") 1097), (.str (S "=82") 1101), (.str (S "=83") 1105), (.str (S "=84") 1109), (.str (S "=85") 1113), (.str (S "=86") 1117), (.str (S "=87") 1121), (.str (S "=88") 1125), (.str (S "=89") 1129), (.str (S "=8A") 1133), (.str (S "=8B") 1137), (.str (S "=8C") 1141), (.str (S "=8D") 1145), (.str (S "=8E") 1149), (.str (S "=8F") 1153), (.str (S "=90") 1157), (.str (S "=91") 1161), (.str (S "=92") 1165), (.str (S "=93") 1169), (.str (S "=94") 1173), (.str (S "=95") 1177), (.str (S "=96") 1181), (.str (S "=97") 1185), (.str (S "=98") 1189), (.str (S "=99") 1193), (.str (S "=9A") 1197), (.str (S "=9B") 1201), (.str (S "=9C") 1205), (.str (S "=9D") 1209), (.str (S "=9E") 1213), (.str (S "=9F") 1217), (.str (S "=A0") 1221), (.str (S "=A1") 1225), (.str (S "=A2") 1229), (.str (S "=A3") 1233), (.str (S "=A4") 1237), (.str (S "=A5") 1241), (.str (S "=A6") 1245), (.str (S "=A7") 1249), (.str (S "=A8") 1253), (.str (S "=A9") 1257), (.str (S "=AA") 1261), (.str (S "=AB") 1265), (.str (S "=AC") 1269), (.str (S "=AD") 1273), (.str (S "=AE") 1277), (.str (S "=AF") 1281), (.str (S "=B0") 1285), (.str (S "=B1") 1289), (.str (S "=B2") 1293), (.str (S "=B3") 1297), (.str (S "=B4") 1301), (.str (S "=B5") 1305), (.str (S "=B6") 1309), (.str (S "=B7") 1313), (.str (S "=B8") 1317), (.str (S "=B9") 1321), (.str (S "=BA") 1325), (.str (S "=BB") 1329), (.str (S "=BC") 1333), (.str (S "=BD") 1337), (.str (S "=BE") 1341), (.str (S "=BF") 1345), (.str (S "=C0") 1349), (.str (S "=C1") 1353), (.str (S "=C2") 1357), (.str (S "=C3") 1361), (.str (S "=C4") 1365), (.str (S "=C5") 1369), (.str (S "=C6") 1373), (.str (S "=C7") 1377), (.str (S "=C8") 1381), (.str (S "=C9") 1385), (.str (S "=CA") 1389), (.str (S "=CB") 1393), (.str (S "=CC") 1397), (.str (S "=CD") 1401), (.str (S "=CE") 1405), (.str (S "=CF") 1409), (.str (S "=D0") 1413), (.str (S "=D1") 1417), (.str (S "=D2") 1421), (.str (S "=D3") 1425), (.str (S "=D4") 1429), (.str (S "=D5") 1433), (.str (S "=D6") 1437), (.str (S "=D7") 1441), (.str (S "=D8") 1445), (.str (S "=D9") 1449), (.str (S "=DA") 1453), (.str (S "=DB") 1457), (.str (S "=DC") 1461), (.str (S "=DD") 1465), (.str (S "=DE") 1469), (.str (S "=DF") 1473), (.str (S "=E0") 1477), (.str (S "=E1") 1481), (.str (S "=E2") 1485), (.str (S "=E3") 1489), (.str (S "=E4") 1493), (.str (S "=E5") 1497), (.str (S "=E6") 1501), (.str (S "=E7") 1505), (.str (S "=E8") 1509), (.str (S "=E9") 1513), (.str (S "=EA") 1517), (.str (S "=EB") 1521), (.str (S "=EC") 1525), (.str (S "=ED") 1529), (.str (S "=EE") 1533), (.str (S "=EF") 1537), (.str (S "=F0") 1541), (.str (S "=F1") 1545), (.str (S "=F2") 1549), (.str (S "=F3") 1553), (.str (S "=F4") 1557), (.str (S "=F5") 1561), (.str (S "=F6") 1565), (.str (S "=F7") 1569), (.str (S "=F8") 1573), (.str (S "=F9") 1577), (.str (S "=FA") 1581), (.str (S "=FB") 1585), (.str (S "=FC") 1589), (.str (S "=FD") 1593), (.str (S "=FE") 1597), (.str (S "=FF") 1601)]) 0), Array.mk []⟩
noncomputable def TF (P : Params) : BT := (.node (o0_A P) (.node (o1_A P) (.node (o3_F P) (.node (o7_A P) (.node (o15_B P) (.node (o31_B P) (.node (o63_B P) (.node (o127_C P) (.node (o255_F P) .nil .nil) .nil) (.node (o191_D P) .nil .nil)) (.node (o95_C P) (.node (o159_D P) .nil .nil) (.node (o223_D TOP P) .nil .nil))) (.node (o47_B P) (.node (o79_C P) (.node (o143_D TOP P) .nil .nil) (.node (o207_D P) .nil .nil)) (.node (o111_C P) (.node (o175_D P) .nil .nil) (.node (o239_D TOP P) .nil .nil)))) (.node (o23_B P) (.node (o39_B P) (.node (o71_C P) (.node (o135_C P) .nil .nil) (.node (o199_D P) .nil .nil)) (.node (o103_C P) (.node (o167_D TOP P) .nil .nil) (.node (o231_D P) .nil .nil))) (.node (o55_B TOP P) (.node (o87_C TOP P) (.node (o151_D P) .nil .nil) (.node (o215_D P) .nil .nil)) (.node (o119_C TOP P) (.node (o183_D P) .nil .nil) (.node (o247_Dx P) .nil .nil))))) (.node (o11_A P) (.node (o19_B TOP P) (.node (o35_B TOP P) (.node (o67_C P) (.node (o131_C P) .nil .nil) (.node (o195_D P) .nil .nil)) (.node (o99_C P) (.node (o163_D P) .nil .nil) (.node (o227_D P) .nil .nil))) (.node (o51_B P) (.node (o83_C P) (.node (o147_D P) .nil .nil) (.node (o211_D P) .nil .nil)) (.node (o115_C P) (.node (o179_D TOP P) .nil .nil) (.node (o243_D P) .nil .nil)))) (.node (o27_B P) (.node (o43_B TOP P) (.node (o75_C P) (.node (o139_D P) .nil .nil) (.node (o203_D TOP P) .nil .nil)) (.node (o107_C TOP P) (.node (o171_D P) .nil .nil) (.node (o235_D P) .nil .nil))) (.node (o59_B P) (.node (o91_C P) (.node (o155_D P) .nil .nil) (.node (o219_D P) .nil .nil)) (.node (o123_C P) (.node (o187_D P) .nil .nil) (.node (o251_Dy P) .nil .nil)))))) (.node (o5_A P) (.node (o9_A P) (.node (o17_B P) (.node (o33_B TOP P) (.node (o65_C P) (.node (o129_C P) .nil .nil) (.node (o193_D P) .nil .nil)) (.node (o97_C P) (.node (o161_D P) .nil .nil) (.node (o225_D TOP P) .nil .nil))) (.node (o49_B P) (.node (o81_C P) (.node (o145_D TOP P) .nil .nil) (.node (o209_D P) .nil .nil)) (.node (o113_C P) (.node (o177_D P) .nil .nil) (.node (o241_D TOP P) .nil .nil)))) (.node (o25_B P) (.node (o41_B TOP P) (.node (o73_C P) (.node (o137_C P) .nil .nil) (.node (o201_D TOP P) .nil .nil)) (.node (o105_C TOP P) (.node (o169_D P) .nil .nil) (.node (o233_D P) .nil .nil))) (.node (o57_B TOP P) (.node (o89_C TOP P) (.node (o153_D P) .nil .nil) (.node (o217_D P) .nil .nil)) (.node (o121_C TOP P) (.node (o185_D P) .nil .nil) (.node (o249_Dy P) .nil .nil))))) (.node (o13_A P) (.node (o21_B TOP P) (.node (o37_B P) (.node (o69_C P) (.node (o133_C P) .nil .nil) (.node (o197_D P) .nil .nil)) (.node (o101_C P) (.node (o165_D TOP P) .nil .nil) (.node (o229_D P) .nil .nil))) (.node (o53_B P) (.node (o85_C P) (.node (o149_D P) .nil .nil) (.node (o213_D P) .nil .nil)) (.node (o117_C P) (.node (o181_D TOP P) .nil .nil) (.node (o245_D P) .nil .nil)))) (.node (o29_B P) (.node (o45_B P) (.node (o77_C P) (.node (o141_D P) .nil .nil) (.node (o205_D P) .nil .nil)) (.node (o109_C P) (.node (o173_D P) .nil .nil) (.node (o237_D TOP P) .nil .nil))) (.node (o61_B P) (.node (o93_C P) (.node (o157_D P) .nil .nil) (.node (o221_D P) .nil .nil)) (.node (o125_C P) (.node (o189_D P) .nil .nil) (.node (o253_F P) .nil .nil))))))) (.node (o2_A P) (.node (o4_A P) (.node (o8_A P) (.node (o16_B P) (.node (o32_B P) (.node (o64_B P) (.node (o128_C P) (.node (o256_F P) .nil .nil) .nil) (.node (o192_D P) .nil .nil)) (.node (o96_C P) (.node (o160_D TOP P) .nil .nil) (.node (o224_D P) .nil .nil))) (.node (o48_B TOP P) (.node (o80_C TOP P) (.node (o144_D P) .nil .nil) (.node (o208_D TOP P) .nil .nil)) (.node (o112_C TOP P) (.node (o176_D P) .nil .nil) (.node (o240_D P) .nil .nil)))) (.node (o24_B P) (.node (o40_B P) (.node (o72_C P) (.node (o136_C P) .nil .nil) (.node (o200_D P) .nil .nil)) (.node (o104_C P) (.node (o168_D P) .nil .nil) (.node (o232_D TOP P) .nil .nil))) (.node (o56_B P) (.node (o88_C P) (.node (o152_D P) .nil .nil) (.node (o216_D TOP P) .nil .nil)) (.node (o120_C P) (.node (o184_D P) .nil .nil) (.node (o248_Dy P) .nil .nil))))) (.node (o12_D P) (.node (o20_B P) (.node (o36_B P) (.node (o68_C P) (.node (o132_C P) .nil .nil) (.node (o196_D TOP P) .nil .nil)) (.node (o100_C TOP P) (.node (o164_D P) .nil .nil) (.node (o228_D P) .nil .nil))) (.node (o52_B P) (.node (o84_C P) (.node (o148_D TOP P) .nil .nil) (.node (o212_D P) .nil .nil)) (.node (o116_C P) (.node (o180_D P) .nil .nil) (.node (o244_D P) .nil .nil)))) (.node (o28_B P) (.node (o44_B P) (.node (o76_C P) (.node (o140_D P) .nil .nil) (.node (o204_D P) .nil .nil)) (.node (o108_C P) (.node (o172_D TOP P) .nil .nil) (.node (o236_D P) .nil .nil))) (.node (o60_B P) (.node (o92_C P) (.node (o156_D P) .nil .nil) (.node (o220_D P) .nil .nil)) (.node (o124_C P) (.node (o188_D TOP P) .nil .nil) (.node (o252_Dy P) .nil .nil)))))) (.node (o6_A P) (.node (o10_A P) (.node (o18_B P) (.node (o34_B P) (.node (o66_C P) (.node (o130_C P) .nil .nil) (.node (o194_D TOP P) .nil .nil)) (.node (o98_C TOP P) (.node (o162_D P) .nil .nil) (.node (o226_D P) .nil .nil))) (.node (o50_B TOP P) (.node (o82_C TOP P) (.node (o146_D P) .nil .nil) (.node (o210_D TOP P) .nil .nil)) (.node (o114_C TOP P) (.node (o178_D P) .nil .nil) (.node (o242_D P) .nil .nil)))) (.node (o26_B P) (.node (o42_B P) (.node (o74_C P) (.node (o138_C P) .nil .nil) (.node (o202_D P) .nil .nil)) (.node (o106_C P) (.node (o170_D P) .nil .nil) (.node (o234_D P) .nil .nil))) (.node (o58_B P) (.node (o90_C P) (.node (o154_D P) .nil .nil) (.node (o218_D TOP P) .nil .nil)) (.node (o122_C P) (.node (o186_D TOP P) .nil .nil) (.node (o250_E P) .nil .nil))))) (.node (o14_A P) (.node (o22_B P) (.node (o38_B P) (.node (o70_C P) (.node (o134_C P) .nil .nil) (.node (o198_D P) .nil .nil)) (.node (o102_C P) (.node (o166_D P) .nil .nil) (.node (o230_D TOP P) .nil .nil))) (.node (o54_B P) (.node (o86_C P) (.node (o150_D P) .nil .nil) (.node (o214_D P) .nil .nil)) (.node (o118_C P) (.node (o182_D P) .nil .nil) (.node (o246_D P) .nil .nil)))) (.node (o30_B P) (.node (o46_B P) (.node (o78_C P) (.node (o142_D P) .nil .nil) (.node (o206_D P) .nil .nil)) (.node (o110_C P) (.node (o174_D TOP P) .nil .nil) (.node (o238_D P) .nil .nil))) (.node (o62_B P) (.node (o94_C P) (.node (o158_D TOP P) .nil .nil) (.node (o222_D P) .nil .nil)) (.node (o126_C P) (.node (o190_D P) .nil .nil) (.node (o254_F P) .nil .nil))))))))
noncomputable def SF (w : World) (os : OsState) : SharedT := ⟨TF w.params, 257, LIFE, Array.mk [], DRAWN, 1615, os⟩
noncomputable def o257_Fx (P : Params) : Obj := ⟨(.type "bytes_iterator"), none, (.fields (Array.mk [(.bytes (Array.mk [45, 33, 42, 43, 47, 97, 98, 99, 100, 101, 102, 103, 104, 105, 106, 107, 108, 109, 110, 111, 112, 113, 114, 115, 116, 117, 118, 119, 120, 121, 122, 65, 66, 67, 68, 69, 70, 71, 72, 73, 74, 75, 76, 77, 78, 79, 80, 81, 82, 83, 84, 85, 86, 87, 88, 89, 90, 48, 49, 50, 51, 52, 53, 54, 55, 56, 57]) 1621), (.int 0 0)])), Array.mk []⟩
noncomputable def TFx (P : Params) : BT := (.node (o0_A P) (.node (o1_A P) (.node (o3_F P) (.node (o7_A P) (.node (o15_B P) (.node (o31_B P) (.node (o63_B P) (.node (o127_C P) (.node (o255_F P) .nil .nil) .nil) (.node (o191_D P) .nil .nil)) (.node (o95_C P) (.node (o159_D P) .nil .nil) (.node (o223_D TOP P) .nil .nil))) (.node (o47_B P) (.node (o79_C P) (.node (o143_D TOP P) .nil .nil) (.node (o207_D P) .nil .nil)) (.node (o111_C P) (.node (o175_D P) .nil .nil) (.node (o239_D TOP P) .nil .nil)))) (.node (o23_B P) (.node (o39_B P) (.node (o71_C P) (.node (o135_C P) .nil .nil) (.node (o199_D P) .nil .nil)) (.node (o103_C P) (.node (o167_D TOP P) .nil .nil) (.node (o231_D P) .nil .nil))) (.node (o55_B TOP P) (.node (o87_C TOP P) (.node (o151_D P) .nil .nil) (.node (o215_D P) .nil .nil)) (.node (o119_C TOP P) (.node (o183_D P) .nil .nil) (.node (o247_Dx P) .nil .nil))))) (.node (o11_A P) (.node (o19_B TOP P) (.node (o35_B TOP P) (.node (o67_C P) (.node (o131_C P) .nil .nil) (.node (o195_D P) .nil .nil)) (.node (o99_C P) (.node (o163_D P) .nil .nil) (.node (o227_D P) .nil .nil))) (.node (o51_B P) (.node (o83_C P) (.node (o147_D P) .nil .nil) (.node (o211_D P) .nil .nil)) (.node (o115_C P) (.node (o179_D TOP P) .nil .nil) (.node (o243_D P) .nil .nil)))) (.node (o27_B P) (.node (o43_B TOP P) (.node (o75_C P) (.node (o139_D P) .nil .nil) (.node (o203_D TOP P) .nil .nil)) (.node (o107_C TOP P) (.node (o171_D P) .nil .nil) (.node (o235_D P) .nil .nil))) (.node (o59_B P) (.node (o91_C P) (.node (o155_D P) .nil .nil) (.node (o219_D P) .nil .nil)) (.node (o123_C P) (.node (o187_D P) .nil .nil) (.node (o251_Dy P) .nil .nil)))))) (.node (o5_A P) (.node (o9_A P) (.node (o17_B P) (.node (o33_B TOP P) (.node (o65_C P) (.node (o129_C P) (.node (o257_Fx P) .nil .nil) .nil) (.node (o193_D P) .nil .nil)) (.node (o97_C P) (.node (o161_D P) .nil .nil) (.node (o225_D TOP P) .nil .nil))) (.node (o49_B P) (.node (o81_C P) (.node (o145_D TOP P) .nil .nil) (.node (o209_D P) .nil .nil)) (.node (o113_C P) (.node (o177_D P) .nil .nil) (.node (o241_D TOP P) .nil .nil)))) (.node (o25_B P) (.node (o41_B TOP P) (.node (o73_C P) (.node (o137_C P) .nil .nil) (.node (o201_D TOP P) .nil .nil)) (.node (o105_C TOP P) (.node (o169_D P) .nil .nil) (.node (o233_D P) .nil .nil))) (.node (o57_B TOP P) (.node (o89_C TOP P) (.node (o153_D P) .nil .nil) (.node (o217_D P) .nil .nil)) (.node (o121_C TOP P) (.node (o185_D P) .nil .nil) (.node (o249_Dy P) .nil .nil))))) (.node (o13_A P) (.node (o21_B TOP P) (.node (o37_B P) (.node (o69_C P) (.node (o133_C P) .nil .nil) (.node (o197_D P) .nil .nil)) (.node (o101_C P) (.node (o165_D TOP P) .nil .nil) (.node (o229_D P) .nil .nil))) (.node (o53_B P) (.node (o85_C P) (.node (o149_D P) .nil .nil) (.node (o213_D P) .nil .nil)) (.node (o117_C P) (.node (o181_D TOP P) .nil .nil) (.node (o245_D P) .nil .nil)))) (.node (o29_B P) (.node (o45_B P) (.node (o77_C P) (.node (o141_D P) .nil .nil) (.node (o205_D P) .nil .nil)) (.node (o109_C P) (.node (o173_D P) .nil .nil) (.node (o237_D TOP P) .nil .nil))) (.node (o61_B P) (.node (o93_C P) (.node (o157_D P) .nil .nil) (.node (o221_D P) .nil .nil)) (.node (o125_C P) (.node (o189_D P) .nil .nil) (.node (o253_F P) .nil .nil))))))) (.node (o2_A P) (.node (o4_A P) (.node (o8_A P) (.node (o16_B P) (.node (o32_B P) (.node (o64_B P) (.node (o128_C P) (.node (o256_F P) .nil .nil) .nil) (.node (o192_D P) .nil .nil)) (.node (o96_C P) (.node (o160_D TOP P) .nil .nil) (.node (o224_D P) .nil .nil))) (.node (o48_B TOP P) (.node (o80_C TOP P) (.node (o144_D P) .nil .nil) (.node (o208_D TOP P) .nil .nil)) (.node (o112_C TOP P) (.node (o176_D P) .nil .nil) (.node (o240_D P) .nil .nil)))) (.node (o24_B P) (.node (o40_B P) (.node (o72_C P) (.node (o136_C P) .nil .nil) (.node (o200_D P) .nil .nil)) (.node (o104_C P) (.node (o168_D P) .nil .nil) (.node (o232_D TOP P) .nil .nil))) (.node (o56_B P) (.node (o88_C P) (.node (o152_D P) .nil .nil) (.node (o216_D TOP P) .nil .nil)) (.node (o120_C P) (.node (o184_D P) .nil .nil) (.node (o248_Dy P) .nil .nil))))) (.node (o12_D P) (.node (o20_B P) (.node (o36_B P) (.node (o68_C P) (.node (o132_C P) .nil .nil) (.node (o196_D TOP P) .nil .nil)) (.node (o100_C TOP P) (.node (o164_D P) .nil .nil) (.node (o228_D P) .nil .nil))) (.node (o52_B P) (.node (o84_C P) (.node (o148_D TOP P) .nil .nil) (.node (o212_D P) .nil .nil)) (.node (o116_C P) (.node (o180_D P) .nil .nil) (.node (o244_D P) .nil .nil)))) (.node (o28_B P) (.node (o44_B P) (.node (o76_C P) (.node (o140_D P) .nil .nil) (.node (o204_D P) .nil .nil)) (.node (o108_C P) (.node (o172_D TOP P) .nil .nil) (.node (o236_D P) .nil .nil))) (.node (o60_B P) (.node (o92_C P) (.node (o156_D P) .nil .nil) (.node (o220_D P) .nil .nil)) (.node (o124_C P) (.node (o188_D TOP P) .nil .nil) (.node (o252_Dy P) .nil .nil)))))) (.node (o6_A P) (.node (o10_A P) (.node (o18_B P) (.node (o34_B P) (.node (o66_C P) (.node (o130_C P) .nil .nil) (.node (o194_D TOP P) .nil .nil)) (.node (o98_C TOP P) (.node (o162_D P) .nil .nil) (.node (o226_D P) .nil .nil))) (.node (o50_B TOP P) (.node (o82_C TOP P) (.node (o146_D P) .nil .nil) (.node (o210_D TOP P) .nil .nil)) (.node (o114_C TOP P) (.node (o178_D P) .nil .nil) (.node (o242_D P) .nil .nil)))) (.node (o26_B P) (.node (o42_B P) (.node (o74_C P) (.node (o138_C P) .nil .nil) (.node (o202_D P) .nil .nil)) (.node (o106_C P) (.node (o170_D P) .nil .nil) (.node (o234_D P) .nil .nil))) (.node (o58_B P) (.node (o90_C P) (.node (o154_D P) .nil .nil) (.node (o218_D TOP P) .nil .nil)) (.node (o122_C P) (.node (o186_D TOP P) .nil .nil) (.node (o250_E P) .nil .nil))))) (.node (o14_A P) (.node (o22_B P) (.node (o38_B P) (.node (o70_C P) (.node (o134_C P) .nil .nil) (.node (o198_D P) .nil .nil)) (.node (o102_C P) (.node (o166_D P) .nil .nil) (.node (o230_D TOP P) .nil .nil))) (.node (o54_B P) (.node (o86_C P) (.node (o150_D P) .nil .nil) (.node (o214_D P) .nil .nil)) (.node (o118_C P) (.node (o182_D P) .nil .nil) (.node (o246_D P) .nil .nil)))) (.node (o30_B P) (.node (o46_B P) (.node (o78_C P) (.node (o142_D P) .nil .nil) (.node (o206_D P) .nil .nil)) (.node (o110_C P) (.node (o174_D TOP P) .nil .nil) (.node (o238_D P) .nil .nil))) (.node (o62_B P) (.node (o94_C P) (.node (o158_D TOP P) .nil .nil) (.node (o222_D P) .nil .nil)) (.node (o126_C P) (.node (o190_D P) .nil .nil) (.node (o254_F P) .nil .nil))))))))
noncomputable def SFx (w : World) (os : OsState) : SharedT := ⟨TFx w.params, 258, LIFE, Array.mk [], DRAWN, 1622, os⟩
noncomputable def o3_G (P : Params) : Obj := ⟨(.type "dict"), none, (.dict (Array.mk [⟨H P (S "__name__"), (.str (S "__name__") 165), (.str (S "cpy313.email.quoprimime") 1613)⟩, ⟨H P (S "__doc__"), (.str (S "__doc__") 166), .none⟩, ⟨H P (S "__package__"), (.str (S "__package__") 167), .none⟩, ⟨H P (S "__loader__"), (.str (S "__loader__") 168), (.builtin "__main__.__loader__#opaque")⟩, ⟨H P (S "__spec__"), (.str (S "__spec__") 169), .none⟩, ⟨H P (S "__annotations__"), (.str (S "__annotations__") 170), (.ref 6)⟩, ⟨H P (S "__builtins__"), (.str (S "__builtins__") 171), (.ref 4)⟩, ⟨H P (S "__file__"), (.str (S "__file__") 173), (.str (S "/claim/cut.py") 172)⟩, ⟨H P (S "__cached__"), (.str (S "__cached__") 174), .none⟩, ⟨H P (S "_wall"), (.str (S "_wall") 193), (.ref 21)⟩, ⟨H P (S "_tuplegetter"), (.str (S "_tuplegetter") 252), (.ref 60)⟩, ⟨H P (S "Match"), (.str (S "Match") 380), (.ref 135)⟩, ⟨H P (S "_calculate_ratio"), (.str (S "_calculate_ratio") 388), (.ref 145)⟩, ⟨H P (S "SequenceMatcher"), (.str (S "SequenceMatcher") 574), (.ref 242)⟩, ⟨H P (S "_QUOPRI_MAP"), (.str (S "_QUOPRI_MAP") 1602), (.ref 249)⟩, ⟨H P (S "_QUOPRI_HEADER_MAP"), (.str (S "_QUOPRI_HEADER_MAP") 1603), (.ref 254)⟩, ⟨H P (S "_QUOPRI_BODY_MAP"), (.str (S "_QUOPRI_BODY_MAP") 1604), (.ref 256)⟩, ⟨H P (S "ascii_lowercase"), (.str (S "ascii_lowercase") 1606), (.str (S "abcdefghijklmnopqrstuvwxyz") 1605)⟩, ⟨H P (S "ascii_uppercase"), (.str (S "ascii_uppercase") 1608), (.str (S "ABCDEFGHIJKLMNOPQRSTUVWXYZ") 1607)⟩, ⟨H P (S "ascii_letters"), (.str (S "ascii_letters") 1610), (.str (S "abcdefghijklmnopqrstuvwxyzABCDEFGHIJKLMNOPQRSTUVWXYZ") 1609)⟩, ⟨H P (S "digits"), (.str (S "digits") 1612), (.str (S "0123456789") 1611)⟩, ⟨H P (S "c"), (.str (S "c") 1623), (.int 57 1820)⟩]) 22), Array.mk []⟩
noncomputable def o254_G (P : Params) : Obj := ⟨(.type "list"), none, (.seq (Array.mk [(.str (S "=00") 581), (.str (S "=01") 585), (.str (S "=02") 589), (.str (S "=03") 593), (.str (S "=04") 597), (.str (S "=05") 601), (.str (S "=06") 605), (.str (S "=07") 609), (.str (S "=08") 613), (.str (S "=09") 617), (.str (S "=0A") 621), (.str (S "=0B") 625), (.str (S "=0C") 629), (.str (S "=0D") 633), (.str (S "=0E") 637), (.str (S "=0F") 641), (.str (S "=10") 645), (.str (S "=11") 649), (.str (S "=12") 653), (.str (S "=13") 657), (.str (S "=14") 661), (.str (S "=15") 665), (.str (S "=16") 669), (.str (S "=17") 673), (.str (S "=18") 677), (.str (S "=19") 681), (.str (S "=1A") 685), (.str (S "=1B") 689), (.str (S "=1C") 693), (.str (S "=1D") 697), (.str (S "=1E") 701), (.str (S "=1F") 705), (.str (S "=20") 709), (.str (S "!") 1627), (.str (S "=22") 717), (.str (S "=23") 721), (.str (S "=24") 725), (.str (S "=25") 729), (.str (S "=26") 733), (.str (S "=27") 737), (.str (S "=28") 741), (.str (S "=29") 745), (.str (S "*") 1630), (.str (S "+") 1633), (.str (S "=2C") 757), (.str (S "-") 1624), (.str (S "=2E") 765), (.str (S "/") 1636), (.str (S "0") 1795), (.str (S "1") 1798), (.str (S "2") 1801), (.str (S "3") 1804), (.str (S "4") 1807), (.str (S "5") 1810), (.str (S "6") 1813), (.str (S "7") 1816), (.str (S "8") 1819), (.str (S "9") 1822), (.str (S "=3A") 813), (.str (S "=3B") 817), (.str (S "=3C") 821), (.str (S "=3D") 825), (.str (S "=3E") 829), (.str (S "=3F") 833), (.str (S "=40") 837), (.str (S "A") 1717), (.str (S "B") 1720), (.str (S "C") 1723), (.str (S "D") 1726), (.str (S "E") 1729), (.str (S "F") 1732), (.str (S "G") 1735), (.str (S "H") 1738), (.str (S "I") 1741), (.str (S "J") 1744), (.str (S "K") 1747), (.str (S "L") 1750), (.str (S "M") 1753), (.str (S "N") 1756), (.str (S "O") 1759), (.str (S "P") 1762), (.str (S "Q") 1765), (.str (S "R") 1768), (.str (S "S") 1771), (.str (S "T") 1774), (.str (S "U") 1777), (.str (S "V") 1780), (.str (S "W") 1783), (.str (S "X") 1786), (.str (S "Y") 1789), (.str (S "Z") 1792), (.str (S "=5B") 945), (.str (S "=5C") 949), (.str (S "=5D") 953), (.str (S "=5E") 957), (.str (S "=5F") 961), (.str (S "=60") 965), (.str (S "a") 1639), (.str (S "b") 1642), (.str (S "c") 1645), (.str (S "d") 1648), (.str (S "e") 1651), (.str (S "f") 1654), (.str (S "g") 1657), (.str (S "h") 1660), (.str (S "i") 1663), (.str (S "j") 1666), (.str (S "k") 1669), (.str (S "l") 1672), (.str (S "m") 1675), (.str (S "n") 1678), (.str (S "o") 1681), (.str (S "p") 1684), (.str (S "q") 1687), (.str (S "r") 1690), (.str (S "s") 1693), (.str (S "t") 1696), (.str (S "u") 1699), (.str (S "v") 1702), (.str (S "w") 1705), (.str (S "x") 1708), (.str (S "y") 1711), (.str (S "z") 1714), (.str (S "=7B") 1073), (.str (S "=7C") 1077), (.str (S "=7D") 1081), (.str (S "=7E") 1085), (.str (S "=7F") 1089), (.str (S "=80") 1093), (.str (S "=81") 1097), (.str (S "=82") 1101), (.str (S "=83") 1105), (.str (S "=84") 1109), (.str (S "=85") 1113), (.str (S "=86") 1117), (.str (S "=87") 1121), (.str (S "=88") 1125), (.str (S "=89") 1129), (.str (S "=8A") 1133), (.str (S "=8B") 1137), (.str (S "=8C") 1141), (.str (S "=8D") 1145), (.str (S "=8E") 1149), (.str (S "=8F") 1153), (.str (S "=90") 1157), (.str (S "=91") 1161), (.str (S "=92") 1165), (.str (S "=93") 1169), (.str (S "=94") 1173), (.str (S "=95") 1177), (.str (S "=96") 1181), (.str (S "=97") 1185), (.str (S "=98") 1189), (.str (S "=99") 1193), (.str (S "=9A") 1197), (.str (S "=9B") 1201), (.str (S "=9C") 1205), (.str (S "=9D") 1209), (.str (S "=9E") 1213), (.str (S "=9F") 1217), (.str (S "=A0") 1221), (.str (S "=A1") 1225), (.str (S "=A2") 1229), (.str (S "=A3") 1233), (.str (S "=A4") 1237), (.str (S "=A5") 1241), (.str (S "=A6") 1245), (.str (S "=A7") 1249), (.str (S "=A8") 1253), (.str (S "=A9") 1257), (.str (S "=AA") 1261), (.str (S "=AB") 1265), (.str (S "=AC") 1269), (.str (S "=AD") 1273), (.str (S "=AE") 1277), (.str (S "=AF") 1281), (.str (S "=B0") 1285), (.str (S "=B1") 1289), (.str (S "=B2") 1293), (.str (S "=B3") 1297), (.str (S "=B4") 1301), (.str (S "=B5") 1305), (.str (S "=B6") 1309), (.str (S "=B7") 1313), (.str (S "=B8") 1317), (.str (S "=B9") 1321), (.str (S "=BA") 1325), (.str (S "=BB") 1329), (.str (S "=BC") 1333), (.str (S "=BD") 1337), (.str (S "=BE") 1341), (.str (S "=BF") 1345), (.str (S "=C0") 1349), (.str (S "=C1") 1353), (.str (S "=C2") 1357), (.str (S "=C3") 1361), (.str (S "=C4") 1365), (.str (S "=C5") 1369), (.str (S "=C6") 1373), (.str (S "=C7") 1377), (.str (S "=C8") 1381), (.str (S "=C9") 1385), (.str (S "=CA") 1389), (.str (S "=CB") 1393), (.str (S "=CC") 1397), (.str (S "=CD") 1401), (.str (S "=CE") 1405), (.str (S "=CF") 1409), (.str (S "=D0") 1413), (.str (S "=D1") 1417), (.str (S "=D2") 1421), (.str (S "=D3") 1425), (.str (S "=D4") 1429), (.str (S "=D5") 1433), (.str (S "=D6") 1437), (.str (S "=D7") 1441), (.str (S "=D8") 1445), (.str (S "=D9") 1449), (.str (S "=DA") 1453), (.str (S "=DB") 1457), (.str (S "=DC") 1461), (.str (S "=DD") 1465), (.str (S "=DE") 1469), (.str (S "=DF") 1473), (.str (S "=E0") 1477), (.str (S "=E1") 1481), (.str (S "=E2") 1485), (.str (S "=E3") 1489), (.str (S "=E4") 1493), (.str (S "=E5") 1497), (.str (S "=E6") 1501), (.str (S "=E7") 1505), (.str (S "=E8") 1509), (.str (S "=E9") 1513), (.str (S "=EA") 1517), (.str (S "=EB") 1521), (.str (S "=EC") 1525), (.str (S "=ED") 1529), (.str (S "=EE") 1533), (.str (S "=EF") 1537), (.str (S "=F0") 1541), (.str (S "=F1") 1545), (.str (S "=F2") 1549), (.str (S "=F3") 1553), (.str (S "=F4") 1557), (.str (S "=F5") 1561), (.str (S "=F6") 1565), (.str (S "=F7") 1569), (.str (S "=F8") 1573), (.str (S "=F9") 1577), (.str (S "=FA") 1581), (.str (S "=FB") 1585), (.str (S "=FC") 1589), (.str (S "=FD") 1593), (.str (S "=FE") 1597), (.str (S "=FF") 1601)]) 0), Array.mk []⟩
noncomputable def o257_G (P : Params) : Obj := ⟨(.type "bytes_iterator"), none, (.fields (Array.mk [.none, (.int 67 0)])), Array.mk []⟩
noncomputable def o258_G (P : Params) : Obj := ⟨(.type "tuple"), none, (.seq (Array.mk []) 0), Array.mk []⟩
noncomputable def o259_G (P : Params) : Obj := ⟨(.type "StopIteration"), none, (.fields (Array.mk [(.ref 258), .none, .none, .none, (.bool false), .none])), Array.mk []⟩
noncomputable def TG (P : Params) : BT := (.node (o0_A P) (.node (o1_A P) (.node (o3_G P) (.node (o7_A P) (.node (o15_B P) (.node (o31_B P) (.node (o63_B P) (.node (o127_C P) (.node (o255_F P) .nil .nil) .nil) (.node (o191_D P) .nil .nil)) (.node (o95_C P) (.node (o159_D P) .nil .nil) (.node (o223_D TOP P) .nil .nil))) (.node (o47_B P) (.node (o79_C P) (.node (o143_D TOP P) .nil .nil) (.node (o207_D P) .nil .nil)) (.node (o111_C P) (.node (o175_D P) .nil .nil) (.node (o239_D TOP P) .nil .nil)))) (.node (o23_B P) (.node (o39_B P) (.node (o71_C P) (.node (o135_C P) .nil .nil) (.node (o199_D P) .nil .nil)) (.node (o103_C P) (.node (o167_D TOP P) .nil .nil) (.node (o231_D P) .nil .nil))) (.node (o55_B TOP P) (.node (o87_C TOP P) (.node (o151_D P) .nil .nil) (.node (o215_D P) .nil .nil)) (.node (o119_C TOP P) (.node (o183_D P) .nil .nil) (.node (o247_Dx P) .nil .nil))))) (.node (o11_A P) (.node (o19_B TOP P) (.node (o35_B TOP P) (.node (o67_C P) (.node (o131_C P) (.node (o259_G P) .nil .nil) .nil) (.node (o195_D P) .nil .nil)) (.node (o99_C P) (.node (o163_D P) .nil .nil) (.node (o227_D P) .nil .nil))) (.node (o51_B P) (.node (o83_C P) (.node (o147_D P) .nil .nil) (.node (o211_D P) .nil .nil)) (.node (o115_C P) (.node (o179_D TOP P) .nil .nil) (.node (o243_D P) .nil .nil)))) (.node (o27_B P) (.node (o43_B TOP P) (.node (o75_C P) (.node (o139_D P) .nil .nil) (.node (o203_D TOP P) .nil .nil)) (.node (o107_C TOP P) (.node (o171_D P) .nil .nil) (.node (o235_D P) .nil .nil))) (.node (o59_B P) (.node (o91_C P) (.node (o155_D P) .nil .nil) (.node (o219_D P) .nil .nil)) (.node (o123_C P) (.node (o187_D P) .nil .nil) (.node (o251_Dy P) .nil .nil)))))) (.node (o5_A P) (.node (o9_A P) (.node (o17_B P) (.node (o33_B TOP P) (.node (o65_C P) (.node (o129_C P) (.node (o257_G P) .nil .nil) .nil) (.node (o193_D P) .nil .nil)) (.node (o97_C P) (.node (o161_D P) .nil .nil) (.node (o225_D TOP P) .nil .nil))) (.node (o49_B P) (.node (o81_C P) (.node (o145_D TOP P) .nil .nil) (.node (o209_D P) .nil .nil)) (.node (o113_C P) (.node (o177_D P) .nil .nil) (.node (o241_D TOP P) .nil .nil)))) (.node (o25_B P) (.node (o41_B TOP P) (.node (o73_C P) (.node (o137_C P) .nil .nil) (.node (o201_D TOP P) .nil .nil)) (.node (o105_C TOP P) (.node (o169_D P) .nil .nil) (.node (o233_D P) .nil .nil))) (.node (o57_B TOP P) (.node (o89_C TOP P) (.node (o153_D P) .nil .nil) (.node (o217_D P) .nil .nil)) (.node (o121_C TOP P) (.node (o185_D P) .nil .nil) (.node (o249_Dy P) .nil .nil))))) (.node (o13_A P) (.node (o21_B TOP P) (.node (o37_B P) (.node (o69_C P) (.node (o133_C P) .nil .nil) (.node (o197_D P) .nil .nil)) (.node (o101_C P) (.node (o165_D TOP P) .nil .nil) (.node (o229_D P) .nil .nil))) (.node (o53_B P) (.node (o85_C P) (.node (o149_D P) .nil .nil) (.node (o213_D P) .nil .nil)) (.node (o117_C P) (.node (o181_D TOP P) .nil .nil) (.node (o245_D P) .nil .nil)))) (.node (o29_B P) (.node (o45_B P) (.node (o77_C P) (.node (o141_D P) .nil .nil) (.node (o205_D P) .nil .nil)) (.node (o109_C P) (.node (o173_D P) .nil .nil) (.node (o237_D TOP P) .nil .nil))) (.node (o61_B P) (.node (o93_C P) (.node (o157_D P) .nil .nil) (.node (o221_D P) .nil .nil)) (.node (o125_C P) (.node (o189_D P) .nil .nil) (.node (o253_F P) .nil .nil))))))) (.node (o2_A P) (.node (o4_A P) (.node (o8_A P) (.node (o16_B P) (.node (o32_B P) (.node (o64_B P) (.node (o128_C P) (.node (o256_F P) .nil .nil) .nil) (.node (o192_D P) .nil .nil)) (.node (o96_C P) (.node (o160_D TOP P) .nil .nil) (.node (o224_D P) .nil .nil))) (.node (o48_B TOP P) (.node (o80_C TOP P) (.node (o144_D P) .nil .nil) (.node (o208_D TOP P) .nil .nil)) (.node (o112_C TOP P) (.node (o176_D P) .nil .nil) (.node (o240_D P) .nil .nil)))) (.node (o24_B P) (.node (o40_B P) (.node (o72_C P) (.node (o136_C P) .nil .nil) (.node (o200_D P) .nil .nil)) (.node (o104_C P) (.node (o168_D P) .nil .nil) (.node (o232_D TOP P) .nil .nil))) (.node (o56_B P) (.node (o88_C P) (.node (o152_D P) .nil .nil) (.node (o216_D TOP P) .nil .nil)) (.node (o120_C P) (.node (o184_D P) .nil .nil) (.node (o248_Dy P) .nil .nil))))) (.node (o12_D P) (.node (o20_B P) (.node (o36_B P) (.node (o68_C P) (.node (o132_C P) .nil .nil) (.node (o196_D TOP P) .nil .nil)) (.node (o100_C TOP P) (.node (o164_D P) .nil .nil) (.node (o228_D P) .nil .nil))) (.node (o52_B P) (.node (o84_C P) (.node (o148_D TOP P) .nil .nil) (.node (o212_D P) .nil .nil)) (.node (o116_C P) (.node (o180_D P) .nil .nil) (.node (o244_D P) .nil .nil)))) (.node (o28_B P) (.node (o44_B P) (.node (o76_C P) (.node (o140_D P) .nil .nil) (.node (o204_D P) .nil .nil)) (.node (o108_C P) (.node (o172_D TOP P) .nil .nil) (.node (o236_D P) .nil .nil))) (.node (o60_B P) (.node (o92_C P) (.node (o156_D P) .nil .nil) (.node (o220_D P) .nil .nil)) (.node (o124_C P) (.node (o188_D TOP P) .nil .nil) (.node (o252_Dy P) .nil .nil)))))) (.node (o6_A P) (.node (o10_A P) (.node (o18_B P) (.node (o34_B P) (.node (o66_C P) (.node (o130_C P) (.node (o258_G P) .nil .nil) .nil) (.node (o194_D TOP P) .nil .nil)) (.node (o98_C TOP P) (.node (o162_D P) .nil .nil) (.node (o226_D P) .nil .nil))) (.node (o50_B TOP P) (.node (o82_C TOP P) (.node (o146_D P) .nil .nil) (.node (o210_D TOP P) .nil .nil)) (.node (o114_C TOP P) (.node (o178_D P) .nil .nil) (.node (o242_D P) .nil .nil)))) (.node (o26_B P) (.node (o42_B P) (.node (o74_C P) (.node (o138_C P) .nil .nil) (.node (o202_D P) .nil .nil)) (.node (o106_C P) (.node (o170_D P) .nil .nil) (.node (o234_D P) .nil .nil))) (.node (o58_B P) (.node (o90_C P) (.node (o154_D P) .nil .nil) (.node (o218_D TOP P) .nil .nil)) (.node (o122_C P) (.node (o186_D TOP P) .nil .nil) (.node (o250_E P) .nil .nil))))) (.node (o14_A P) (.node (o22_B P) (.node (o38_B P) (.node (o70_C P) (.node (o134_C P) .nil .nil) (.node (o198_D P) .nil .nil)) (.node (o102_C P) (.node (o166_D P) .nil .nil) (.node (o230_D TOP P) .nil .nil))) (.node (o54_B P) (.node (o86_C P) (.node (o150_D P) .nil .nil) (.node (o214_D P) .nil .nil)) (.node (o118_C P) (.node (o182_D P) .nil .nil) (.node (o246_D P) .nil .nil)))) (.node (o30_B P) (.node (o46_B P) (.node (o78_C P) (.node (o142_D P) .nil .nil) (.node (o206_D P) .nil .nil)) (.node (o110_C P) (.node (o174_D TOP P) .nil .nil) (.node (o238_D P) .nil .nil))) (.node (o62_B P) (.node (o94_C P) (.node (o158_D TOP P) .nil .nil) (.node (o222_D P) .nil .nil)) (.node (o126_C P) (.node (o190_D P) .nil .nil) (.node (o254_G P) .nil .nil))))))))
noncomputable def SG (w : World) (os : OsState) : SharedT := ⟨TG w.params, 260, LIFE, Array.mk [], DRAWN, 1823, os⟩
noncomputable def o254_I (P : Params) : Obj := ⟨(.type "list"), none, (.seq (Array.mk [(.str (S "=00") 581), (.str (S "=01") 585), (.str (S "=02") 589), (.str (S "=03") 593), (.str (S "=04") 597), (.str (S "=05") 601), (.str (S "=06") 605), (.str (S "=07") 609), (.str (S "=08") 613), (.str (S "=09") 617), (.str (S "=0A") 621), (.str (S "=0B") 625), (.str (S "=0C") 629), (.str (S "=0D") 633), (.str (S "=0E") 637), (.str (S "=0F") 641), (.str (S "=10") 645), (.str (S "=11") 649), (.str (S "=12") 653), (.str (S "=13") 657), (.str (S "=14") 661), (.str (S "=15") 665), (.str (S "=16") 669), (.str (S "=17") 673), (.str (S "=18") 677), (.str (S "=19") 681), (.str (S "=1A") 685), (.str (S "=1B") 689), (.str (S "=1C") 693), (.str (S "=1D") 697), (.str (S "=1E") 701), (.str (S "=1F") 705), (.str (S "_") 1823), (.str (S "!") 1627), (.str (S "=22") 717), (.str (S "=23") 721), (.str (S "=24") 725), (.str (S "=25") 729), (.str (S "=26") 733), (.str (S "=27") 737), (.str (S "=28") 741), (.str (S "=29") 745), (.str (S "*") 1630), (.str (S "+") 1633), (.str (S "=2C") 757), (.str (S "-") 1624), (.str (S "=2E") 765), (.str (S "/") 1636), (.str (S "0") 1795), (.str (S "1") 1798), (.str (S "2") 1801), (.str (S "3") 1804), (.str (S "4") 1807), (.str (S "5") 1810), (.str (S "6") 1813), (.str (S "7") 1816), (.str (S "8") 1819), (.str (S "9") 1822), (.str (S "=3A") 813), (.str (S "=3B") 817), (.str (S "=3C") 821), (.str (S "=3D") 825), (.str (S "=3E") 829), (.str (S "=3F") 833), (.str (S "=40") 837), (.str (S "A") 1717), (.str (S "B") 1720), (.str (S "C") 1723), (.str (S "D") 1726), (.str (S "E") 1729), (.str (S "F") 1732), (.str (S "G") 1735), (.str (S "H") 1738), (.str (S "I") 1741), (.str (S "J") 1744), (.str (S "K") 1747), (.str (S "L") 1750), (.str (S "M") 1753), (.str (S "N") 1756), (.str (S "O") 1759), (.str (S "P") 1762), (.str (S "Q") 1765), (.str (S "R") 1768), (.str (S "S") 1771), (.str (S "T") 1774), (.str (S "U") 1777), (.str (S "V") 1780), (.str (S "W") 1783), (.str (S "X") 1786), (.str (S "Y") 1789), (.str (S "Z") 1792), (.str (S "=5B") 945), (.str (S "=5C") 949), (.str (S "=5D") 953), (.str (S "=5E") 957), (.str (S "=5F") 961), (.str (S "=60") 965), (.str (S "a") 1639), (.str (S "b") 1642), (.str (S "c") 1645), (.str (S "d") 1648), (.str (S "e") 1651), (.str (S "f") 1654), (.str (S "g") 1657), (.str (S "h") 1660), (.str (S "i") 1663), (.str (S "j") 1666), (.str (S "k") 1669), (.str (S "l") 1672), (.str (S "m") 1675), (.str (S "n") 1678), (.str (S "o") 1681), (.str (S "p") 1684), (.str (S "q") 1687), (.str (S "r") 1690), (.str (S "s") 1693), (.str (S "t") 1696), (.str (S "u") 1699), (.str (S "v") 1702), (.str (S "w") 1705), (.str (S "x") 1708), (.str (S "y") 1711), (.str (S "z") 1714), (.str (S "=7B") 1073), (.str (S "=7C") 1077), (.str (S "=7D") 1081), (.str (S "=7E") 1085), (.str (S "=7F") 1089), (.str (S "=80") 1093), (.str (S "=81") 1097), (.str (S "=82") 1101), (.str (S "=83") 1105), (.str (S "=84") 1109), (.str (S "=85") 1113), (.str (S "=86") 1117), (.str (S "=87") 1121), (.str (S "=88") 1125), (.str (S "=89") 1129), (.str (S "=8A") 1133), (.str (S "=8B") 1137), (.str (S "=8C") 1141), (.str (S "=8D") 1145), (.str (S "=8E") 1149), (.str (S "=8F") 1153), (.str (S "=90") 1157), (.str (S "=91") 1161), (.str (S "=92") 1165), (.str (S "=93") 1169), (.str (S "=94") 1173), (.str (S "=95") 1177), (.str (S "=96") 1181), (.str (S "=97") 1185), (.str (S "=98") 1189), (.str (S "=99") 1193), (.str (S "=9A") 1197), (.str (S "=9B") 1201), (.str (S "=9C") 1205), (.str (S "=9D") 1209), (.str (S "=9E") 1213), (.str (S "=9F") 1217), (.str (S "=A0") 1221), (.str (S "=A1") 1225), (.str (S "=A2") 1229), (.str (S "=A3") 1233), (.str (S "=A4") 1237), (.str (S "=A5") 1241), (.str (S "=A6") 1245), (.str (S "=A7") 1249), (.str (S "=A8") 1253), (.str (S "=A9") 1257), (.str (S "=AA") 1261), (.str (S "=AB") 1265), (.str (S "=AC") 1269), (.str (S "=AD") 1273), (.str (S "=AE") 1277), (.str (S "=AF") 1281), (.str (S "=B0") 1285), (.str (S "=B1") 1289), (.str (S "=B2") 1293), (.str (S "=B3") 1297), (.str (S "=B4") 1301), (.str (S "=B5") 1305), (.str (S "=B6") 1309), (.str (S "=B7") 1313), (.str (S "=B8") 1317), (.str (S "=B9") 1321), (.str (S "=BA") 1325), (.str (S "=BB") 1329), (.str (S "=BC") 1333), (.str (S "=BD") 1337), (.str (S "=BE") 1341), (.str (S "=BF") 1345), (.str (S "=C0") 1349), (.str (S "=C1") 1353), (.str (S "=C2") 1357), (.str (S "=C3") 1361), (.str (S "=C4") 1365), (.str (S "=C5") 1369), (.str (S "=C6") 1373), (.str (S "=C7") 1377), (.str (S "=C8") 1381), (.str (S "=C9") 1385), (.str (S "=CA") 1389), (.str (S "=CB") 1393), (.str (S "=CC") 1397), (.str (S "=CD") 1401), (.str (S "=CE") 1405), (.str (S "=CF") 1409), (.str (S "=D0") 1413), (.str (S "=D1") 1417), (.str (S "=D2") 1421), (.str (S "=D3") 1425), (.str (S "=D4") 1429), (.str (S "=D5") 1433), (.str (S "=D6") 1437), (.str (S "=D7") 1441), (.str (S "=D8") 1445), (.str (S "=D9") 1449), (.str (S "=DA") 1453), (.str (S "=DB") 1457), (.str (S "=DC") 1461), (.str (S "=DD") 1465), (.str (S "=DE") 1469), (.str (S "=DF") 1473), (.str (S "=E0") 1477), (.str (S "=E1") 1481), (.str (S "=E2") 1485), (.str (S "=E3") 1489), (.str (S "=E4") 1493), (.str (S "=E5") 1497), (.str (S "=E6") 1501), (.str (S "=E7") 1505), (.str (S "=E8") 1509), (.str (S "=E9") 1513), (.str (S "=EA") 1517), (.str (S "=EB") 1521), (.str (S "=EC") 1525), (.str (S "=ED") 1529), (.str (S "=EE") 1533), (.str (S "=EF") 1537), (.str (S "=F0") 1541), (.str (S "=F1") 1545), (.str (S "=F2") 1549), (.str (S "=F3") 1553), (.str (S "=F4") 1557), (.str (S "=F5") 1561), (.str (S "=F6") 1565), (.str (S "=F7") 1569), (.str (S "=F8") 1573), (.str (S "=F9") 1577), (.str (S "=FA") 1581), (.str (S "=FB") 1585), (.str (S "=FC") 1589), (.str (S "=FD") 1593), (.str (S "=FE") 1597), (.str (S "=FF") 1601)]) 0), Array.mk []⟩
noncomputable def TI (P : Params) : BT := (.node (o0_A P) (.node (o1_A P) (.node (o3_G P) (.node (o7_A P) (.node (o15_B P) (.node (o31_B P) (.node (o63_B P) (.node (o127_C P) (.node (o255_F P) .nil .nil) .nil) (.node (o191_D P) .nil .nil)) (.node (o95_C P) (.node (o159_D P) .nil .nil) (.node (o223_D TOP P) .nil .nil))) (.node (o47_B P) (.node (o79_C P) (.node (o143_D TOP P) .nil .nil) (.node (o207_D P) .nil .nil)) (.node (o111_C P) (.node (o175_D P) .nil .nil) (.node (o239_D TOP P) .nil .nil)))) (.node (o23_B P) (.node (o39_B P) (.node (o71_C P) (.node (o135_C P) .nil .nil) (.node (o199_D P) .nil .nil)) (.node (o103_C P) (.node (o167_D TOP P) .nil .nil) (.node (o231_D P) .nil .nil))) (.node (o55_B TOP P) (.node (o87_C TOP P) (.node (o151_D P) .nil .nil) (.node (o215_D P) .nil .nil)) (.node (o119_C TOP P) (.node (o183_D P) .nil .nil) (.node (o247_Dx P) .nil .nil))))) (.node (o11_A P) (.node (o19_B TOP P) (.node (o35_B TOP P) (.node (o67_C P) (.node (o131_C P) (.node (o259_G P) .nil .nil) .nil) (.node (o195_D P) .nil .nil)) (.node (o99_C P) (.node (o163_D P) .nil .nil) (.node (o227_D P) .nil .nil))) (.node (o51_B P) (.node (o83_C P) (.node (o147_D P) .nil .nil) (.node (o211_D P) .nil .nil)) (.node (o115_C P) (.node (o179_D TOP P) .nil .nil) (.node (o243_D P) .nil .nil)))) (.node (o27_B P) (.node (o43_B TOP P) (.node (o75_C P) (.node (o139_D P) .nil .nil) (.node (o203_D TOP P) .nil .nil)) (.node (o107_C TOP P) (.node (o171_D P) .nil .nil) (.node (o235_D P) .nil .nil))) (.node (o59_B P) (.node (o91_C P) (.node (o155_D P) .nil .nil) (.node (o219_D P) .nil .nil)) (.node (o123_C P) (.node (o187_D P) .nil .nil) (.node (o251_Dy P) .nil .nil)))))) (.node (o5_A P) (.node (o9_A P) (.node (o17_B P) (.node (o33_B TOP P) (.node (o65_C P) (.node (o129_C P) (.node (o257_G P) .nil .nil) .nil) (.node (o193_D P) .nil .nil)) (.node (o97_C P) (.node (o161_D P) .nil .nil) (.node (o225_D TOP P) .nil .nil))) (.node (o49_B P) (.node (o81_C P) (.node (o145_D TOP P) .nil .nil) (.node (o209_D P) .nil .nil)) (.node (o113_C P) (.node (o177_D P) .nil .nil) (.node (o241_D TOP P) .nil .nil)))) (.node (o25_B P) (.node (o41_B TOP P) (.node (o73_C P) (.node (o137_C P) .nil .nil) (.node (o201_D TOP P) .nil .nil)) (.node (o105_C TOP P) (.node (o169_D P) .nil .nil) (.node (o233_D P) .nil .nil))) (.node (o57_B TOP P) (.node (o89_C TOP P) (.node (o153_D P) .nil .nil) (.node (o217_D P) .nil .nil)) (.node (o121_C TOP P) (.node (o185_D P) .nil .nil) (.node (o249_Dy P) .nil .nil))))) (.node (o13_A P) (.node (o21_B TOP P) (.node (o37_B P) (.node (o69_C P) (.node (o133_C P) .nil .nil) (.node (o197_D P) .nil .nil)) (.node (o101_C P) (.node (o165_D TOP P) .nil .nil) (.node (o229_D P) .nil .nil))) (.node (o53_B P) (.node (o85_C P) (.node (o149_D P) .nil .nil) (.node (o213_D P) .nil .nil)) (.node (o117_C P) (.node (o181_D TOP P) .nil .nil) (.node (o245_D P) .nil .nil)))) (.node (o29_B P) (.node (o45_B P) (.node (o77_C P) (.node (o141_D P) .nil .nil) (.node (o205_D P) .nil .nil)) (.node (o109_C P) (.node (o173_D P) .nil .nil) (.node (o237_D TOP P) .nil .nil))) (.node (o61_B P) (.node (o93_C P) (.node (o157_D P) .nil .nil) (.node (o221_D P) .nil .nil)) (.node (o125_C P) (.node (o189_D P) .nil .nil) (.node (o253_F P) .nil .nil))))))) (.node (o2_A P) (.node (o4_A P) (.node (o8_A P) (.node (o16_B P) (.node (o32_B P) (.node (o64_B P) (.node (o128_C P) (.node (o256_F P) .nil .nil) .nil) (.node (o192_D P) .nil .nil)) (.node (o96_C P) (.node (o160_D TOP P) .nil .nil) (.node (o224_D P) .nil .nil))) (.node (o48_B TOP P) (.node (o80_C TOP P) (.node (o144_D P) .nil .nil) (.node (o208_D TOP P) .nil .nil)) (.node (o112_C TOP P) (.node (o176_D P) .nil .nil) (.node (o240_D P) .nil .nil)))) (.node (o24_B P) (.node (o40_B P) (.node (o72_C P) (.node (o136_C P) .nil .nil) (.node (o200_D P) .nil .nil)) (.node (o104_C P) (.node (o168_D P) .nil .nil) (.node (o232_D TOP P) .nil .nil))) (.node (o56_B P) (.node (o88_C P) (.node (o152_D P) .nil .nil) (.node (o216_D TOP P) .nil .nil)) (.node (o120_C P) (.node (o184_D P) .nil .nil) (.node (o248_Dy P) .nil .nil))))) (.node (o12_D P) (.node (o20_B P) (.node (o36_B P) (.node (o68_C P) (.node (o132_C P) .nil .nil) (.node (o196_D TOP P) .nil .nil)) (.node (o100_C TOP P) (.node (o164_D P) .nil .nil) (.node (o228_D P) .nil .nil))) (.node (o52_B P) (.node (o84_C P) (.node (o148_D TOP P) .nil .nil) (.node (o212_D P) .nil .nil)) (.node (o116_C P) (.node (o180_D P) .nil .nil) (.node (o244_D P) .nil .nil)))) (.node (o28_B P) (.node (o44_B P) (.node (o76_C P) (.node (o140_D P) .nil .nil) (.node (o204_D P) .nil .nil)) (.node (o108_C P) (.node (o172_D TOP P) .nil .nil) (.node (o236_D P) .nil .nil))) (.node (o60_B P) (.node (o92_C P) (.node (o156_D P) .nil .nil) (.node (o220_D P) .nil .nil)) (.node (o124_C P) (.node (o188_D TOP P) .nil .nil) (.node (o252_Dy P) .nil .nil)))))) (.node (o6_A P) (.node (o10_A P) (.node (o18_B P) (.node (o34_B P) (.node (o66_C P) (.node (o130_C P) (.node (o258_G P) .nil .nil) .nil) (.node (o194_D TOP P) .nil .nil)) (.node (o98_C TOP P) (.node (o162_D P) .nil .nil) (.node (o226_D P) .nil .nil))) (.node (o50_B TOP P) (.node (o82_C TOP P) (.node (o146_D P) .nil .nil) (.node (o210_D TOP P) .nil .nil)) (.node (o114_C TOP P) (.node (o178_D P) .nil .nil) (.node (o242_D P) .nil .nil)))) (.node (o26_B P) (.node (o42_B P) (.node (o74_C P) (.node (o138_C P) .nil .nil) (.node (o202_D P) .nil .nil)) (.node (o106_C P) (.node (o170_D P) .nil .nil) (.node (o234_D P) .nil .nil))) (.node (o58_B P) (.node (o90_C P) (.node (o154_D P) .nil .nil) (.node (o218_D TOP P) .nil .nil)) (.node (o122_C P) (.node (o186_D TOP P) .nil .nil) (.node (o250_E P) .nil .nil))))) (.node (o14_A P) (.node (o22_B P) (.node (o38_B P) (.node (o70_C P) (.node (o134_C P) .nil .nil) (.node (o198_D P) .nil .nil)) (.node (o102_C P) (.node (o166_D P) .nil .nil) (.node (o230_D TOP P) .nil .nil))) (.node (o54_B P) (.node (o86_C P) (.node (o150_D P) .nil .nil) (.node (o214_D P) .nil .nil)) (.node (o118_C P) (.node (o182_D P) .nil .nil) (.node (o246_D P) .nil .nil)))) (.node (o30_B P) (.node (o46_B P) (.node (o78_C P) (.node (o142_D P) .nil .nil) (.node (o206_D P) .nil .nil)) (.node (o110_C P) (.node (o174_D TOP P) .nil .nil) (.node (o238_D P) .nil .nil))) (.node (o62_B P) (.node (o94_C P) (.node (o158_D TOP P) .nil .nil) (.node (o222_D P) .nil .nil)) (.node (o126_C P) (.node (o190_D P) .nil .nil) (.node (o254_I P) .nil .nil))))))))
noncomputable def SI (w : World) (os : OsState) : SharedT := ⟨TI w.params, 260, LIFE, Array.mk [], DRAWN, 1826, os⟩
noncomputable def o260_Ix (P : Params) : Obj := ⟨(.type "bytes_iterator"), none, (.fields (Array.mk [(.bytes (Array.mk [32, 33, 34, 35, 36, 37, 38, 39, 40, 41, 42, 43, 44, 45, 46, 47, 48, 49, 50, 51, 52, 53, 54, 55, 56, 57, 58, 59, 60, 62, 63, 64, 65, 66, 67, 68, 69, 70, 71, 72, 73, 74, 75, 76, 77, 78, 79, 80, 81, 82, 83, 84, 85, 86, 87, 88, 89, 90, 91, 92, 93, 94, 95, 96, 97, 98, 99, 100, 101, 102, 103, 104, 105, 106, 107, 108, 109, 110, 111, 112, 113, 114, 115, 116, 117, 118, 119, 120, 121, 122, 123, 124, 125, 126, 9]) 1826), (.int 0 0)])), Array.mk []⟩
noncomputable def TIx (P : Params) : BT := (.node (o0_A P) (.node (o1_A P) (.node (o3_G P) (.node (o7_A P) (.node (o15_B P) (.node (o31_B P) (.node (o63_B P) (.node (o127_C P) (.node (o255_F P) .nil .nil) .nil) (.node (o191_D P) .nil .nil)) (.node (o95_C P) (.node (o159_D P) .nil .nil) (.node (o223_D TOP P) .nil .nil))) (.node (o47_B P) (.node (o79_C P) (.node (o143_D TOP P) .nil .nil) (.node (o207_D P) .nil .nil)) (.node (o111_C P) (.node (o175_D P) .nil .nil) (.node (o239_D TOP P) .nil .nil)))) (.node (o23_B P) (.node (o39_B P) (.node (o71_C P) (.node (o135_C P) .nil .nil) (.node (o199_D P) .nil .nil)) (.node (o103_C P) (.node (o167_D TOP P) .nil .nil) (.node (o231_D P) .nil .nil))) (.node (o55_B TOP P) (.node (o87_C TOP P) (.node (o151_D P) .nil .nil) (.node (o215_D P) .nil .nil)) (.node (o119_C TOP P) (.node (o183_D P) .nil .nil) (.node (o247_Dx P) .nil .nil))))) (.node (o11_A P) (.node (o19_B TOP P) (.node (o35_B TOP P) (.node (o67_C P) (.node (o131_C P) (.node (o259_G P) .nil .nil) .nil) (.node (o195_D P) .nil .nil)) (.node (o99_C P) (.node (o163_D P) .nil .nil) (.node (o227_D P) .nil .nil))) (.node (o51_B P) (.node (o83_C P) (.node (o147_D P) .nil .nil) (.node (o211_D P) .nil .nil)) (.node (o115_C P) (.node (o179_D TOP P) .nil .nil) (.node (o243_D P) .nil .nil)))) (.node (o27_B P) (.node (o43_B TOP P) (.node (o75_C P) (.node (o139_D P) .nil .nil) (.node (o203_D TOP P) .nil .nil)) (.node (o107_C TOP P) (.node (o171_D P) .nil .nil) (.node (o235_D P) .nil .nil))) (.node (o59_B P) (.node (o91_C P) (.node (o155_D P) .nil .nil) (.node (o219_D P) .nil .nil)) (.node (o123_C P) (.node (o187_D P) .nil .nil) (.node (o251_Dy P) .nil .nil)))))) (.node (o5_A P) (.node (o9_A P) (.node (o17_B P) (.node (o33_B TOP P) (.node (o65_C P) (.node (o129_C P) (.node (o257_G P) .nil .nil) .nil) (.node (o193_D P) .nil .nil)) (.node (o97_C P) (.node (o161_D P) .nil .nil) (.node (o225_D TOP P) .nil .nil))) (.node (o49_B P) (.node (o81_C P) (.node (o145_D TOP P) .nil .nil) (.node (o209_D P) .nil .nil)) (.node (o113_C P) (.node (o177_D P) .nil .nil) (.node (o241_D TOP P) .nil .nil)))) (.node (o25_B P) (.node (o41_B TOP P) (.node (o73_C P) (.node (o137_C P) .nil .nil) (.node (o201_D TOP P) .nil .nil)) (.node (o105_C TOP P) (.node (o169_D P) .nil .nil) (.node (o233_D P) .nil .nil))) (.node (o57_B TOP P) (.node (o89_C TOP P) (.node (o153_D P) .nil .nil) (.node (o217_D P) .nil .nil)) (.node (o121_C TOP P) (.node (o185_D P) .nil .nil) (.node (o249_Dy P) .nil .nil))))) (.node (o13_A P) (.node (o21_B TOP P) (.node (o37_B P) (.node (o69_C P) (.node (o133_C P) .nil .nil) (.node (o197_D P) .nil .nil)) (.node (o101_C P) (.node (o165_D TOP P) .nil .nil) (.node (o229_D P) .nil .nil))) (.node (o53_B P) (.node (o85_C P) (.node (o149_D P) .nil .nil) (.node (o213_D P) .nil .nil)) (.node (o117_C P) (.node (o181_D TOP P) .nil .nil) (.node (o245_D P) .nil .nil)))) (.node (o29_B P) (.node (o45_B P) (.node (o77_C P) (.node (o141_D P) .nil .nil) (.node (o205_D P) .nil .nil)) (.node (o109_C P) (.node (o173_D P) .nil .nil) (.node (o237_D TOP P) .nil .nil))) (.node (o61_B P) (.node (o93_C P) (.node (o157_D P) .nil .nil) (.node (o221_D P) .nil .nil)) (.node (o125_C P) (.node (o189_D P) .nil .nil) (.node (o253_F P) .nil .nil))))))) (.node (o2_A P) (.node (o4_A P) (.node (o8_A P) (.node (o16_B P) (.node (o32_B P) (.node (o64_B P) (.node (o128_C P) (.node (o256_F P) .nil .nil) .nil) (.node (o192_D P) .nil .nil)) (.node (o96_C P) (.node (o160_D TOP P) .nil .nil) (.node (o224_D P) .nil .nil))) (.node (o48_B TOP P) (.node (o80_C TOP P) (.node (o144_D P) .nil .nil) (.node (o208_D TOP P) .nil .nil)) (.node (o112_C TOP P) (.node (o176_D P) .nil .nil) (.node (o240_D P) .nil .nil)))) (.node (o24_B P) (.node (o40_B P) (.node (o72_C P) (.node (o136_C P) .nil .nil) (.node (o200_D P) .nil .nil)) (.node (o104_C P) (.node (o168_D P) .nil .nil) (.node (o232_D TOP P) .nil .nil))) (.node (o56_B P) (.node (o88_C P) (.node (o152_D P) .nil .nil) (.node (o216_D TOP P) .nil .nil)) (.node (o120_C P) (.node (o184_D P) .nil .nil) (.node (o248_Dy P) .nil .nil))))) (.node (o12_D P) (.node (o20_B P) (.node (o36_B P) (.node (o68_C P) (.node (o132_C P) (.node (o260_Ix P) .nil .nil) .nil) (.node (o196_D TOP P) .nil .nil)) (.node (o100_C TOP P) (.node (o164_D P) .nil .nil) (.node (o228_D P) .nil .nil))) (.node (o52_B P) (.node (o84_C P) (.node (o148_D TOP P) .nil .nil) (.node (o212_D P) .nil .nil)) (.node (o116_C P) (.node (o180_D P) .nil .nil) (.node (o244_D P) .nil .nil)))) (.node (o28_B P) (.node (o44_B P) (.node (o76_C P) (.node (o140_D P) .nil .nil) (.node (o204_D P) .nil .nil)) (.node (o108_C P) (.node (o172_D TOP P) .nil .nil) (.node (o236_D P) .nil .nil))) (.node (o60_B P) (.node (o92_C P) (.node (o156_D P) .nil .nil) (.node (o220_D P) .nil .nil)) (.node (o124_C P) (.node (o188_D TOP P) .nil .nil) (.node (o252_Dy P) .nil .nil)))))) (.node (o6_A P) (.node (o10_A P) (.node (o18_B P) (.node (o34_B P) (.node (o66_C P) (.node (o130_C P) (.node (o258_G P) .nil .nil) .nil) (.node (o194_D TOP P) .nil .nil)) (.node (o98_C TOP P) (.node (o162_D P) .nil .nil) (.node (o226_D P) .nil .nil))) (.node (o50_B TOP P) (.node (o82_C TOP P) (.node (o146_D P) .nil .nil) (.node (o210_D TOP P) .nil .nil)) (.node (o114_C TOP P) (.node (o178_D P) .nil .nil) (.node (o242_D P) .nil .nil)))) (.node (o26_B P) (.node (o42_B P) (.node (o74_C P) (.node (o138_C P) .nil .nil) (.node (o202_D P) .nil .nil)) (.node (o106_C P) (.node (o170_D P) .nil .nil) (.node (o234_D P) .nil .nil))) (.node (o58_B P) (.node (o90_C P) (.node (o154_D P) .nil .nil) (.node (o218_D TOP P) .nil .nil)) (.node (o122_C P) (.node (o186_D TOP P) .nil .nil) (.node (o250_E P) .nil .nil))))) (.node (o14_A P) (.node (o22_B P) (.node (o38_B P) (.node (o70_C P) (.node (o134_C P) .nil .nil) (.node (o198_D P) .nil .nil)) (.node (o102_C P) (.node (o166_D P) .nil .nil) (.node (o230_D TOP P) .nil .nil))) (.node (o54_B P) (.node (o86_C P) (.node (o150_D P) .nil .nil) (.node (o214_D P) .nil .nil)) (.node (o118_C P) (.node (o182_D P) .nil .nil) (.node (o246_D P) .nil .nil)))) (.node (o30_B P) (.node (o46_B P) (.node (o78_C P) (.node (o142_D P) .nil .nil) (.node (o206_D P) .nil .nil)) (.node (o110_C P) (.node (o174_D TOP P) .nil .nil) (.node (o238_D P) .nil .nil))) (.node (o62_B P) (.node (o94_C P) (.node (o158_D TOP P) .nil .nil) (.node (o222_D P) .nil .nil)) (.node (o126_C P) (.node (o190_D P) .nil .nil) (.node (o254_I P) .nil .nil))))))))
noncomputable def SIx (w : World) (os : OsState) : SharedT := ⟨TIx w.params, 261, LIFE, Array.mk [], DRAWN, 1827, os⟩
noncomputable def o3_J (P : Params) : Obj := ⟨(.type "dict"), none, (.dict (Array.mk [⟨H P (S "__name__"), (.str (S "__name__") 165), (.str (S "cpy313.email.quoprimime") 1613)⟩, ⟨H P (S "__doc__"), (.str (S "__doc__") 166), .none⟩, ⟨H P (S "__package__"), (.str (S "__package__") 167), .none⟩, ⟨H P (S "__loader__"), (.str (S "__loader__") 168), (.builtin "__main__.__loader__#opaque")⟩, ⟨H P (S "__spec__"), (.str (S "__spec__") 169), .none⟩, ⟨H P (S "__annotations__"), (.str (S "__annotations__") 170), (.ref 6)⟩, ⟨H P (S "__builtins__"), (.str (S "__builtins__") 171), (.ref 4)⟩, ⟨H P (S "__file__"), (.str (S "__file__") 173), (.str (S "/claim/cut.py") 172)⟩, ⟨H P (S "__cached__"), (.str (S "__cached__") 174), .none⟩, ⟨H P (S "_wall"), (.str (S "_wall") 193), (.ref 21)⟩, ⟨H P (S "_tuplegetter"), (.str (S "_tuplegetter") 252), (.ref 60)⟩, ⟨H P (S "Match"), (.str (S "Match") 380), (.ref 135)⟩, ⟨H P (S "_calculate_ratio"), (.str (S "_calculate_ratio") 388), (.ref 145)⟩, ⟨H P (S "SequenceMatcher"), (.str (S "SequenceMatcher") 574), (.ref 242)⟩, ⟨H P (S "_QUOPRI_MAP"), (.str (S "_QUOPRI_MAP") 1602), (.ref 249)⟩, ⟨H P (S "_QUOPRI_HEADER_MAP"), (.str (S "_QUOPRI_HEADER_MAP") 1603), (.ref 254)⟩, ⟨H P (S "_QUOPRI_BODY_MAP"), (.str (S "_QUOPRI_BODY_MAP") 1604), (.ref 256)⟩, ⟨H P (S "ascii_lowercase"), (.str (S "ascii_lowercase") 1606), (.str (S "abcdefghijklmnopqrstuvwxyz") 1605)⟩, ⟨H P (S "ascii_uppercase"), (.str (S "ascii_uppercase") 1608), (.str (S "ABCDEFGHIJKLMNOPQRSTUVWXYZ") 1607)⟩, ⟨H P (S "ascii_letters"), (.str (S "ascii_letters") 1610), (.str (S "abcdefghijklmnopqrstuvwxyzABCDEFGHIJKLMNOPQRSTUVWXYZ") 1609)⟩, ⟨H P (S "digits"), (.str (S "digits") 1612), (.str (S "0123456789") 1611)⟩, ⟨H P (S "c"), (.str (S "c") 1623), (.int 9 2109)⟩]) 22), Array.mk []⟩
noncomputable def o256_J (P : Params) : Obj := ⟨(.type "list"), none, (.seq (Array.mk [(.str (S "=00") 581), (.str (S "=01") 585), (.str (S "=02") 589), (.str (S "=03") 593), (.str (S "=04") 597), (.str (S "=05") 601), (.str (S "=06") 605), (.str (S "=07") 609), (.str (S "=08") 613), (.str (S "\t") 2111), (.str (S "=0A") 621), (.str (S "=0B") 625), (.str (S "=0C") 629), (.str (S "=0D") 633), (.str (S "=0E") 637), (.str (S "=0F") 641), (.str (S "=10") 645), (.str (S "=11") 649), (.str (S "=12") 653), (.str (S "=13") 657), (.str (S "=14") 661), (.str (S "=15") 665), (.str (S "=16") 669), (.str (S "=17") 673), (.str (S "=18") 677), (.str (S "=19") 681), (.str (S "=1A") 685), (.str (S "=1B") 689), (.str (S "=1C") 693), (.str (S "=1D") 697), (.str (S "=1E") 701), (.str (S "=1F") 705), (.str (S " ") 1829), (.str (S "!") 1832), (.str (S "\"") 1835), (.str (S "#") 1838), (.str (S "$") 1841), (.str (S "%") 1844), (.str (S "&") 1847), (.str (S "'") 1850), (.str (S "(") 1853), (.str (S ")") 1856), (.str (S "*") 1859), (.str (S "+") 1862), (.str (S ",") 1865), (.str (S "-") 1868), (.str (S ".") 1871), (.str (S "/") 1874), (.str (S "0") 1877), (.str (S "1") 1880), (.str (S "2") 1883), (.str (S "3") 1886), (.str (S "4") 1889), (.str (S "5") 1892), (.str (S "6") 1895), (.str (S "7") 1898), (.str (S "8") 1901), (.str (S "9") 1904), (.str (S ":") 1907), (.str (S ";") 1910), (.str (S "<") 1913), (.str (S "=3D") 825), (.str (S ">") 1916), (.str (S "?") 1919), (.str (S "@") 1922), (.str (S "A") 1925), (.str (S "B") 1928), (.str (S "C") 1931), (.str (S "D") 1934), (.str (S "E") 1937), (.str (S "F") 1940), (.str (S "G") 1943), (.str (S "H") 1946), (.str (S "I") 1949), (.str (S "J") 1952), (.str (S "K") 1955), (.str (S "L") 1958), (.str (S "M") 1961), (.str (S "N") 1964), (.str (S "O") 1967), (.str (S "P") 1970), (.str (S "Q") 1973), (.str (S "R") 1976), (.str (S "S") 1979), (.str (S "T") 1982), (.str (S "U") 1985), (.str (S "V") 1988), (.str (S "W") 1991), (.str (S "X") 1994), (.str (S "Y") 1997), (.str (S "Z") 2000), (.str (S "[") 2003), (.str (S "\\") 2006), (.str (S "]") 2009), (.str (S "^") 2012), (.str (S "_") 2015), (.str (S "`") 2018), (.str (S "a") 2021), (.str (S "b") 2024), (.str (S "c") 2027), (.str (S "d") 2030), (.str (S "e") 2033), (.str (S "f") 2036), (.str (S "g") 2039), (.str (S "h") 2042), (.str (S "i") 2045), (.str (S "j") 2048), (.str (S "k") 2051), (.str (S "l") 2054), (.str (S "m") 2057), (.str (S "n") 2060), (.str (S "o") 2063), (.str (S "p") 2066), (.str (S "q") 2069), (.str (S "r") 2072), (.str (S "s") 2075), (.str (S "t") 2078), (.str (S "u") 2081), (.str (S "v") 2084), (.str (S "w") 2087), (.str (S "x") 2090), (.str (S "y") 2093), (.str (S "z") 2096), (.str (S "{") 2099), (.str (S "|") 2102), (.str (S "}") 2105), (.str (S "~") 2108), (.str (S "=7F") 1089), (.str (S "=80") 1093), (.str (S "=81") 1097), (.str (S "=82") 1101), (.str (S "=83") 1105), (.str (S "=84") 1109), (.str (S "=85") 1113), (.str (S "=86") 1117), (.str (S "=87") 1121), (.str (S "=88") 1125), (.str (S "=89") 1129), (.str (S "=8A") 1133), (.str (S "=8B") 1137), (.str (S "=8C") 1141), (.str (S "=8D") 1145), (.str (S "=8E") 1149), (.str (S "=8F") 1153), (.str (S "=90") 1157), (.str (S "=91") 1161), (.str (S "=92") 1165), (.str (S "=93") 1169), (.str (S "=94") 1173), (.str (S "=95") 1177), (.str (S "=96") 1181), (.str (S "=97") 1185), (.str (S "=98") 1189), (.str (S "=99") 1193), (.str (S "=9A") 1197), (.str (S "=9B") 1201), (.str (S "=9C") 1205), (.str (S "=9D") 1209), (.str (S "=9E") 1213), (.str (S "=9F") 1217), (.str (S "=A0") 1221), (.str (S "=A1") 1225), (.str (S "=A2") 1229), (.str (S "=A3") 1233), (.str (S "=A4") 1237), (.str (S "=A5") 1241), (.str (S "=A6") 1245), (.str (S "=A7") 1249), (.str (S "=A8") 1253), (.str (S "=A9") 1257), (.str (S "=AA") 1261), (.str (S "=AB") 1265), (.str (S "=AC") 1269), (.str (S "=AD") 1273), (.str (S "=AE") 1277), (.str (S "=AF") 1281), (.str (S "=B0") 1285), (.str (S "=B1") 1289), (.str (S "=B2") 1293), (.str (S "=B3") 1297), (.str (S "=B4") 1301), (.str (S "=B5") 1305), (.str (S "=B6") 1309), (.str (S "=B7") 1313), (.str (S "=B8") 1317), (.str (S "=B9") 1321), (.str (S "=BA") 1325), (.str (S "=BB") 1329), (.str (S "=BC") 1333), (.str (S "=BD") 1337), (.str (S "=BE") 1341), (.str (S "=BF") 1345), (.str (S "=C0") 1349), (.str (S "=C1") 1353), (.str (S "=C2") 1357), (.str (S "=C3") 1361), (.str (S "=C4") 1365), (.str (S "=C5") 1369), (.str (S "=C6") 1373), (.str (S "=C7") 1377), (.str (S "=C8") 1381), (.str (S "=C9") 1385), (.str (S "=CA") 1389), (.str (S "=CB") 1393), (.str (S "=CC") 1397), (.str (S "=CD") 1401), (.str (S "=CE") 1405), (.str (S "=CF") 1409), (.str (S "=D0") 1413), (.str (S "=D1") 1417), (.str (S "=D2") 1421), (.str (S "=D3") 1425), (.str (S "=D4") 1429), (.str (S "=D5") 1433), (.str (S "=D6") 1437), (.str (S "=D7") 1441), (.str (S "=D8") 1445), (.str (S "=D9") 1449), (.str (S "=DA") 1453), (.str (S "=DB") 1457), (.str (S "=DC") 1461), (.str (S "=DD") 1465), (.str (S "=DE") 1469), (.str (S "=DF") 1473), (.str (S "=E0") 1477), (.str (S "=E1") 1481), (.str (S "=E2") 1485), (.str (S "=E3") 1489), (.str (S "=E4") 1493), (.str (S "=E5") 1497), (.str (S "=E6") 1501), (.str (S "=E7") 1505), (.str (S "=E8") 1509), (.str (S "=E9") 1513), (.str (S "=EA") 1517), (.str (S "=EB") 1521), (.str (S "=EC") 1525), (.str (S "=ED") 1529), (.str (S "=EE") 1533), (.str (S "=EF") 1537), (.str (S "=F0") 1541), (.str (S "=F1") 1545), (.str (S "=F2") 1549), (.str (S "=F3") 1553), (.str (S "=F4") 1557), (.str (S "=F5") 1561), (.str (S "=F6") 1565), (.str (S "=F7") 1569), (.str (S "=F8") 1573), (.str (S "=F9") 1577), (.str (S "=FA") 1581), (.str (S "=FB") 1585), (.str (S "=FC") 1589), (.str (S "=FD") 1593), (.str (S "=FE") 1597), (.str (S "=FF") 1601)]) 0), Array.mk []⟩
noncomputable def o260_J (P : Params) : Obj := ⟨(.type "bytes_iterator"), none, (.fields (Array.mk [.none, (.int 95 0)])), Array.mk []⟩
noncomputable def o261_J (P : Params) : Obj := ⟨(.type "tuple"), none, (.seq (Array.mk []) 0), Array.mk []⟩
noncomputable def o262_J (P : Params) : Obj := ⟨(.type "StopIteration"), none, (.fields (Array.mk [(.ref 261), .none, .none, .none, (.bool false), .none])), Array.mk []⟩
noncomputable def TJ (P : Params) : BT := (.node (o0_A P) (.node (o1_A P) (.node (o3_J P) (.node (o7_A P) (.node (o15_B P) (.node (o31_B P) (.node (o63_B P) (.node (o127_C P) (.node (o255_F P) .nil .nil) .nil) (.node (o191_D P) .nil .nil)) (.node (o95_C P) (.node (o159_D P) .nil .nil) (.node (o223_D TOP P) .nil .nil))) (.node (o47_B P) (.node (o79_C P) (.node (o143_D TOP P) .nil .nil) (.node (o207_D P) .nil .nil)) (.node (o111_C P) (.node (o175_D P) .nil .nil) (.node (o239_D TOP P) .nil .nil)))) (.node (o23_B P) (.node (o39_B P) (.node (o71_C P) (.node (o135_C P) .nil .nil) (.node (o199_D P) .nil .nil)) (.node (o103_C P) (.node (o167_D TOP P) .nil .nil) (.node (o231_D P) .nil .nil))) (.node (o55_B TOP P) (.node (o87_C TOP P) (.node (o151_D P) .nil .nil) (.node (o215_D P) .nil .nil)) (.node (o119_C TOP P) (.node (o183_D P) .nil .nil) (.node (o247_Dx P) .nil .nil))))) (.node (o11_A P) (.node (o19_B TOP P) (.node (o35_B TOP P) (.node (o67_C P) (.node (o131_C P) (.node (o259_G P) .nil .nil) .nil) (.node (o195_D P) .nil .nil)) (.node (o99_C P) (.node (o163_D P) .nil .nil) (.node (o227_D P) .nil .nil))) (.node (o51_B P) (.node (o83_C P) (.node (o147_D P) .nil .nil) (.node (o211_D P) .nil .nil)) (.node (o115_C P) (.node (o179_D TOP P) .nil .nil) (.node (o243_D P) .nil .nil)))) (.node (o27_B P) (.node (o43_B TOP P) (.node (o75_C P) (.node (o139_D P) .nil .nil) (.node (o203_D TOP P) .nil .nil)) (.node (o107_C TOP P) (.node (o171_D P) .nil .nil) (.node (o235_D P) .nil .nil))) (.node (o59_B P) (.node (o91_C P) (.node (o155_D P) .nil .nil) (.node (o219_D P) .nil .nil)) (.node (o123_C P) (.node (o187_D P) .nil .nil) (.node (o251_Dy P) .nil .nil)))))) (.node (o5_A P) (.node (o9_A P) (.node (o17_B P) (.node (o33_B TOP P) (.node (o65_C P) (.node (o129_C P) (.node (o257_G P) .nil .nil) .nil) (.node (o193_D P) .nil .nil)) (.node (o97_C P) (.node (o161_D P) .nil .nil) (.node (o225_D TOP P) .nil .nil))) (.node (o49_B P) (.node (o81_C P) (.node (o145_D TOP P) .nil .nil) (.node (o209_D P) .nil .nil)) (.node (o113_C P) (.node (o177_D P) .nil .nil) (.node (o241_D TOP P) .nil .nil)))) (.node (o25_B P) (.node (o41_B TOP P) (.node (o73_C P) (.node (o137_C P) .nil .nil) (.node (o201_D TOP P) .nil .nil)) (.node (o105_C TOP P) (.node (o169_D P) .nil .nil) (.node (o233_D P) .nil .nil))) (.node (o57_B TOP P) (.node (o89_C TOP P) (.node (o153_D P) .nil .nil) (.node (o217_D P) .nil .nil)) (.node (o121_C TOP P) (.node (o185_D P) .nil .nil) (.node (o249_Dy P) .nil .nil))))) (.node (o13_A P) (.node (o21_B TOP P) (.node (o37_B P) (.node (o69_C P) (.node (o133_C P) (.node (o261_J P) .nil .nil) .nil) (.node (o197_D P) .nil .nil)) (.node (o101_C P) (.node (o165_D TOP P) .nil .nil) (.node (o229_D P) .nil .nil))) (.node (o53_B P) (.node (o85_C P) (.node (o149_D P) .nil .nil) (.node (o213_D P) .nil .nil)) (.node (o117_C P) (.node (o181_D TOP P) .nil .nil) (.node (o245_D P) .nil .nil)))) (.node (o29_B P) (.node (o45_B P) (.node (o77_C P) (.node (o141_D P) .nil .nil) (.node (o205_D P) .nil .nil)) (.node (o109_C P) (.node (o173_D P) .nil .nil) (.node (o237_D TOP P) .nil .nil))) (.node (o61_B P) (.node (o93_C P) (.node (o157_D P) .nil .nil) (.node (o221_D P) .nil .nil)) (.node (o125_C P) (.node (o189_D P) .nil .nil) (.node (o253_F P) .nil .nil))))))) (.node (o2_A P) (.node (o4_A P) (.node (o8_A P) (.node (o16_B P) (.node (o32_B P) (.node (o64_B P) (.node (o128_C P) (.node (o256_J P) .nil .nil) .nil) (.node (o192_D P) .nil .nil)) (.node (o96_C P) (.node (o160_D TOP P) .nil .nil) (.node (o224_D P) .nil .nil))) (.node (o48_B TOP P) (.node (o80_C TOP P) (.node (o144_D P) .nil .nil) (.node (o208_D TOP P) .nil .nil)) (.node (o112_C TOP P) (.node (o176_D P) .nil .nil) (.node (o240_D P) .nil .nil)))) (.node (o24_B P) (.node (o40_B P) (.node (o72_C P) (.node (o136_C P) .nil .nil) (.node (o200_D P) .nil .nil)) (.node (o104_C P) (.node (o168_D P) .nil .nil) (.node (o232_D TOP P) .nil .nil))) (.node (o56_B P) (.node (o88_C P) (.node (o152_D P) .nil .nil) (.node (o216_D TOP P) .nil .nil)) (.node (o120_C P) (.node (o184_D P) .nil .nil) (.node (o248_Dy P) .nil .nil))))) (.node (o12_D P) (.node (o20_B P) (.node (o36_B P) (.node (o68_C P) (.node (o132_C P) (.node (o260_J P) .nil .nil) .nil) (.node (o196_D TOP P) .nil .nil)) (.node (o100_C TOP P) (.node (o164_D P) .nil .nil) (.node (o228_D P) .nil .nil))) (.node (o52_B P) (.node (o84_C P) (.node (o148_D TOP P) .nil .nil) (.node (o212_D P) .nil .nil)) (.node (o116_C P) (.node (o180_D P) .nil .nil) (.node (o244_D P) .nil .nil)))) (.node (o28_B P) (.node (o44_B P) (.node (o76_C P) (.node (o140_D P) .nil .nil) (.node (o204_D P) .nil .nil)) (.node (o108_C P) (.node (o172_D TOP P) .nil .nil) (.node (o236_D P) .nil .nil))) (.node (o60_B P) (.node (o92_C P) (.node (o156_D P) .nil .nil) (.node (o220_D P) .nil .nil)) (.node (o124_C P) (.node (o188_D TOP P) .nil .nil) (.node (o252_Dy P) .nil .nil)))))) (.node (o6_A P) (.node (o10_A P) (.node (o18_B P) (.node (o34_B P) (.node (o66_C P) (.node (o130_C P) (.node (o258_G P) .nil .nil) .nil) (.node (o194_D TOP P) .nil .nil)) (.node (o98_C TOP P) (.node (o162_D P) .nil .nil) (.node (o226_D P) .nil .nil))) (.node (o50_B TOP P) (.node (o82_C TOP P) (.node (o146_D P) .nil .nil) (.node (o210_D TOP P) .nil .nil)) (.node (o114_C TOP P) (.node (o178_D P) .nil .nil) (.node (o242_D P) .nil .nil)))) (.node (o26_B P) (.node (o42_B P) (.node (o74_C P) (.node (o138_C P) .nil .nil) (.node (o202_D P) .nil .nil)) (.node (o106_C P) (.node (o170_D P) .nil .nil) (.node (o234_D P) .nil .nil))) (.node (o58_B P) (.node (o90_C P) (.node (o154_D P) .nil .nil) (.node (o218_D TOP P) .nil .nil)) (.node (o122_C P) (.node (o186_D TOP P) .nil .nil) (.node (o250_E P) .nil .nil))))) (.node (o14_A P) (.node (o22_B P) (.node (o38_B P) (.node (o70_C P) (.node (o134_C P) (.node (o262_J P) .nil .nil) .nil) (.node (o198_D P) .nil .nil)) (.node (o102_C P) (.node (o166_D P) .nil .nil) (.node (o230_D TOP P) .nil .nil))) (.node (o54_B P) (.node (o86_C P) (.node (o150_D P) .nil .nil) (.node (o214_D P) .nil .nil)) (.node (o118_C P) (.node (o182_D P) .nil .nil) (.node (o246_D P) .nil .nil)))) (.node (o30_B P) (.node (o46_B P) (.node (o78_C P) (.node (o142_D P) .nil .nil) (.node (o206_D P) .nil .nil)) (.node (o110_C P) (.node (o174_D TOP P) .nil .nil) (.node (o238_D P) .nil .nil))) (.node (o62_B P) (.node (o94_C P) (.node (o158_D TOP P) .nil .nil) (.node (o222_D P) .nil .nil)) (.node (o126_C P) (.node (o190_D P) .nil .nil) (.node (o254_I P) .nil .nil))))))))
noncomputable def SJ (w : World) (os : OsState) : SharedT := ⟨TJ w.params, 263, LIFE, Array.mk [], DRAWN, 2112, os⟩
noncomputable def o3_J2 (P : Params) : Obj := ⟨(.type "dict"), none, (.dict (Array.mk [⟨H P (S "__name__"), (.str (S "__name__") 165), (.str (S "cpy313.email.quoprimime") 1613)⟩, ⟨H P (S "__doc__"), (.str (S "__doc__") 166), .none⟩, ⟨H P (S "__package__"), (.str (S "__package__") 167), .none⟩, ⟨H P (S "__loader__"), (.str (S "__loader__") 168), (.builtin "__main__.__loader__#opaque")⟩, ⟨H P (S "__spec__"), (.str (S "__spec__") 169), .none⟩, ⟨H P (S "__annotations__"), (.str (S "__annotations__") 170), (.ref 6)⟩, ⟨H P (S "__builtins__"), (.str (S "__builtins__") 171), (.ref 4)⟩, ⟨H P (S "__file__"), (.str (S "__file__") 173), (.str (S "/claim/cut.py") 172)⟩, ⟨H P (S "__cached__"), (.str (S "__cached__") 174), .none⟩, ⟨H P (S "_wall"), (.str (S "_wall") 193), (.ref 21)⟩, ⟨H P (S "_tuplegetter"), (.str (S "_tuplegetter") 252), (.ref 60)⟩, ⟨H P (S "Match"), (.str (S "Match") 380), (.ref 135)⟩, ⟨H P (S "_calculate_ratio"), (.str (S "_calculate_ratio") 388), (.ref 145)⟩, ⟨H P (S "SequenceMatcher"), (.str (S "SequenceMatcher") 574), (.ref 242)⟩, ⟨H P (S "_QUOPRI_MAP"), (.str (S "_QUOPRI_MAP") 1602), (.ref 249)⟩, ⟨H P (S "_QUOPRI_HEADER_MAP"), (.str (S "_QUOPRI_HEADER_MAP") 1603), (.ref 254)⟩, ⟨H P (S "_QUOPRI_BODY_MAP"), (.str (S "_QUOPRI_BODY_MAP") 1604), (.ref 256)⟩, ⟨H P (S "ascii_lowercase"), (.str (S "ascii_lowercase") 1606), (.str (S "abcdefghijklmnopqrstuvwxyz") 1605)⟩, ⟨H P (S "ascii_uppercase"), (.str (S "ascii_uppercase") 1608), (.str (S "ABCDEFGHIJKLMNOPQRSTUVWXYZ") 1607)⟩, ⟨H P (S "ascii_letters"), (.str (S "ascii_letters") 1610), (.str (S "abcdefghijklmnopqrstuvwxyzABCDEFGHIJKLMNOPQRSTUVWXYZ") 1609)⟩, ⟨H P (S "digits"), (.str (S "digits") 1612), (.str (S "0123456789") 1611)⟩, ⟨H P (S "c"), (.str (S "c") 1623), (.int 9 2109)⟩, ⟨H P (S "header_encode"), (.str (S "header_encode") 2122), (.ref 270)⟩, ⟨H P (S "_QUOPRI_BODY_ENCODE_MAP"), (.str (S "_QUOPRI_BODY_ENCODE_MAP") 2123), (.ref 272)⟩]) 24), Array.mk []⟩
noncomputable def o12_J2 (P : Params) : Obj := ⟨.none, none, (.fields (Array.mk [(.int 1 0), (.int 0 0), (.ref 20), (.int 5 0), (.int 0 0), (.ref 27), (.int 23 0), (.int 0 0), (.ref 71), (.int 66 0), (.int 0 0), (.ref 144), (.int 70 0), (.int 0 0), (.ref 151), (.int 431 0), (.int 0 0), (.ref 269)])), Array.mk []⟩
noncomputable def o263_J2 (P : Params) : Obj := ⟨(.type "tuple"), none, (.seq (Array.mk [(.str (S "iso-8859-1") 2112)]) 0), Array.mk []⟩
noncomputable def o264_J2 (P : Params) : Obj := ⟨(.type "tuple"), none, (.seq (Array.mk []) 0), Array.mk []⟩
noncomputable def o265_J2 (P : Params) : Obj := ⟨.none, none, (.fields (Array.mk [])), Array.mk []⟩
noncomputable def o266_J2 (P : Params) : Obj := ⟨(.type "tuple"), none, (.seq (Array.mk [(.str (S "header_bytes") 2116), (.str (S "charset") 2117), (.str (S "encoded") 2118)]) 0), Array.mk []⟩
noncomputable def o267_J2 (P : Params) : Obj := ⟨(.type "tuple"), none, (.seq (Array.mk []) 0), Array.mk []⟩
noncomputable def o268_J2 (T : List Stmt) (P : Params) : Obj := ⟨.none, none, (.func { name := (S "header_encode"), qualname := (S "header_encode"), params := arOf (stAt T 17), body := .stmts (bdOf (stAt T 17)), scope := scOf (stAt T 17), globals := 0, closure := [], defaults := .none, kwdefaults := .none, doc := .none, pyModule := .none, annotations := none, code := .none, closureTuple := .none, builtins := 0 }), Array.mk []⟩
noncomputable def o269_J2 (P : Params) : Obj := ⟨(.type "code"), none, (.fields (Array.mk [(.str (S "header_encode") 2113), (.str (S "header_encode") 2114), (.str (S "/claim/cut.py") 2115), (.int 431 0), (.int 2 0), (.int 0 0), (.int 0 0), (.int 3 0), (.ref 264), (.bool true), (.int 181 0), (.ref 265), .none, (.ref 266), (.ref 267), (.ref 268), (.int 2119 0), (.int 431 0), (.str (S "/claim/cut.py") 2120)])), Array.mk []⟩
noncomputable def o270_J2 (T : List Stmt) (P : Params) : Obj := ⟨(.type "function"), none, (.func { name := (S "header_encode"), qualname := (S "header_encode"), params := arOf (stAt T 17), body := .stmts (bdOf (stAt T 17)), scope := scOf (stAt T 17), globals := 3, closure := [], defaults := (.ref 263), kwdefaults := .none, doc := (.str (dcOf (stAt T 17)) 2121), pyModule := (.str (S "cpy313.email.quoprimime") 1613), annotations := none, code := (.ref 269), closureTuple := .none, builtins := 0 }), Array.mk []⟩
noncomputable def o271_J2 (P : Params) : Obj := ⟨(.type "slice"), none, (.fields (Array.mk [.none, .none, .none])), Array.mk []⟩
noncomputable def o272_J2 (P : Params) : Obj := ⟨(.type "list"), none, (.seq (Array.mk [(.str (S "=00") 581), (.str (S "=01") 585), (.str (S "=02") 589), (.str (S "=03") 593), (.str (S "=04") 597), (.str (S "=05") 601), (.str (S "=06") 605), (.str (S "=07") 609), (.str (S "=08") 613), (.str (S "\t") 2111), (.str (S "=0A") 621), (.str (S "=0B") 625), (.str (S "=0C") 629), (.str (S "=0D") 633), (.str (S "=0E") 637), (.str (S "=0F") 641), (.str (S "=10") 645), (.str (S "=11") 649), (.str (S "=12") 653), (.str (S "=13") 657), (.str (S "=14") 661), (.str (S "=15") 665), (.str (S "=16") 669), (.str (S "=17") 673), (.str (S "=18") 677), (.str (S "=19") 681), (.str (S "=1A") 685), (.str (S "=1B") 689), (.str (S "=1C") 693), (.str (S "=1D") 697), (.str (S "=1E") 701), (.str (S "=1F") 705), (.str (S " ") 1829), (.str (S "!") 1832), (.str (S "\"") 1835), (.str (S "#") 1838), (.str (S "$") 1841), (.str (S "%") 1844), (.str (S "&") 1847), (.str (S "'") 1850), (.str (S "(") 1853), (.str (S ")") 1856), (.str (S "*") 1859), (.str (S "+") 1862), (.str (S ",") 1865), (.str (S "-") 1868), (.str (S ".") 1871), (.str (S "/") 1874), (.str (S "0") 1877), (.str (S "1") 1880), (.str (S "2") 1883), (.str (S "3") 1886), (.str (S "4") 1889), (.str (S "5") 1892), (.str (S "6") 1895), (.str (S "7") 1898), (.str (S "8") 1901), (.str (S "9") 1904), (.str (S ":") 1907), (.str (S ";") 1910), (.str (S "<") 1913), (.str (S "=3D") 825), (.str (S ">") 1916), (.str (S "?") 1919), (.str (S "@") 1922), (.str (S "A") 1925), (.str (S "B") 1928), (.str (S "C") 1931), (.str (S "D") 1934), (.str (S "E") 1937), (.str (S "F") 1940), (.str (S "G") 1943), (.str (S "H") 1946), (.str (S "I") 1949), (.str (S "J") 1952), (.str (S "K") 1955), (.str (S "L") 1958), (.str (S "M") 1961), (.str (S "N") 1964), (.str (S "O") 1967), (.str (S "P") 1970), (.str (S "Q") 1973), (.str (S "R") 1976), (.str (S "S") 1979), (.str (S "T") 1982), (.str (S "U") 1985), (.str (S "V") 1988), (.str (S "W") 1991), (.str (S "X") 1994), (.str (S "Y") 1997), (.str (S "Z") 2000), (.str (S "[") 2003), (.str (S "\\") 2006), (.str (S "]") 2009), (.str (S "^") 2012), (.str (S "_") 2015), (.str (S "`") 2018), (.str (S "a") 2021), (.str (S "b") 2024), (.str (S "c") 2027), (.str (S "d") 2030), (.str (S "e") 2033), (.str (S "f") 2036), (.str (S "g") 2039), (.str (S "h") 2042), (.str (S "i") 2045), (.str (S "j") 2048), (.str (S "k") 2051), (.str (S "l") 2054), (.str (S "m") 2057), (.str (S "n") 2060), (.str (S "o") 2063), (.str (S "p") 2066), (.str (S "q") 2069), (.str (S "r") 2072), (.str (S "s") 2075), (.str (S "t") 2078), (.str (S "u") 2081), (.str (S "v") 2084), (.str (S "w") 2087), (.str (S "x") 2090), (.str (S "y") 2093), (.str (S "z") 2096), (.str (S "{") 2099), (.str (S "|") 2102), (.str (S "}") 2105), (.str (S "~") 2108), (.str (S "=7F") 1089), (.str (S "=80") 1093), (.str (S "=81") 1097), (.str (S "=82") 1101), (.str (S "=83") 1105), (.str (S "=84") 1109), (.str (S "=85") 1113), (.str (S "=86") 1117), (.str (S "=87") 1121), (.str (S "=88") 1125), (.str (S "=89") 1129), (.str (S "=8A") 1133), (.str (S "=8B") 1137), (.str (S "=8C") 1141), (.str (S "=8D") 1145), (.str (S "=8E") 1149), (.str (S "=8F") 1153), (.str (S "=90") 1157), (.str (S "=91") 1161), (.str (S "=92") 1165), (.str (S "=93") 1169), (.str (S "=94") 1173), (.str (S "=95") 1177), (.str (S "=96") 1181), (.str (S "=97") 1185), (.str (S "=98") 1189), (.str (S "=99") 1193), (.str (S "=9A") 1197), (.str (S "=9B") 1201), (.str (S "=9C") 1205), (.str (S "=9D") 1209), (.str (S "=9E") 1213), (.str (S "=9F") 1217), (.str (S "=A0") 1221), (.str (S "=A1") 1225), (.str (S "=A2") 1229), (.str (S "=A3") 1233), (.str (S "=A4") 1237), (.str (S "=A5") 1241), (.str (S "=A6") 1245), (.str (S "=A7") 1249), (.str (S "=A8") 1253), (.str (S "=A9") 1257), (.str (S "=AA") 1261), (.str (S "=AB") 1265), (.str (S "=AC") 1269), (.str (S "=AD") 1273), (.str (S "=AE") 1277), (.str (S "=AF") 1281), (.str (S "=B0") 1285), (.str (S "=B1") 1289), (.str (S "=B2") 1293), (.str (S "=B3") 1297), (.str (S "=B4") 1301), (.str (S "=B5") 1305), (.str (S "=B6") 1309), (.str (S "=B7") 1313), (.str (S "=B8") 1317), (.str (S "=B9") 1321), (.str (S "=BA") 1325), (.str (S "=BB") 1329), (.str (S "=BC") 1333), (.str (S "=BD") 1337), (.str (S "=BE") 1341), (.str (S "=BF") 1345), (.str (S "=C0") 1349), (.str (S "=C1") 1353), (.str (S "=C2") 1357), (.str (S "=C3") 1361), (.str (S "=C4") 1365), (.str (S "=C5") 1369), (.str (S "=C6") 1373), (.str (S "=C7") 1377), (.str (S "=C8") 1381), (.str (S "=C9") 1385), (.str (S "=CA") 1389), (.str (S "=CB") 1393), (.str (S "=CC") 1397), (.str (S "=CD") 1401), (.str (S "=CE") 1405), (.str (S "=CF") 1409), (.str (S "=D0") 1413), (.str (S "=D1") 1417), (.str (S "=D2") 1421), (.str (S "=D3") 1425), (.str (S "=D4") 1429), (.str (S "=D5") 1433), (.str (S "=D6") 1437), (.str (S "=D7") 1441), (.str (S "=D8") 1445), (.str (S "=D9") 1449), (.str (S "=DA") 1453), (.str (S "=DB") 1457), (.str (S "=DC") 1461), (.str (S "=DD") 1465), (.str (S "=DE") 1469), (.str (S "=DF") 1473), (.str (S "=E0") 1477), (.str (S "=E1") 1481), (.str (S "=E2") 1485), (.str (S "=E3") 1489), (.str (S "=E4") 1493), (.str (S "=E5") 1497), (.str (S "=E6") 1501), (.str (S "=E7") 1505), (.str (S "=E8") 1509), (.str (S "=E9") 1513), (.str (S "=EA") 1517), (.str (S "=EB") 1521), (.str (S "=EC") 1525), (.str (S "=ED") 1529), (.str (S "=EE") 1533), (.str (S "=EF") 1537), (.str (S "=F0") 1541), (.str (S "=F1") 1545), (.str (S "=F2") 1549), (.str (S "=F3") 1553), (.str (S "=F4") 1557), (.str (S "=F5") 1561), (.str (S "=F6") 1565), (.str (S "=F7") 1569), (.str (S "=F8") 1573), (.str (S "=F9") 1577), (.str (S "=FA") 1581), (.str (S "=FB") 1585), (.str (S "=FC") 1589), (.str (S "=FD") 1593), (.str (S "=FE") 1597), (.str (S "=FF") 1601)]) 0), Array.mk []⟩
noncomputable def TJ2 (P : Params) : BT := (.node (o0_A P) (.node (o1_A P) (.node (o3_J2 P) (.node (o7_A P) (.node (o15_B P) (.node (o31_B P) (.node (o63_B P) (.node (o127_C P) (.node (o255_F P) .nil .nil) .nil) (.node (o191_D P) .nil .nil)) (.node (o95_C P) (.node (o159_D P) .nil .nil) (.node (o223_D TOP P) .nil .nil))) (.node (o47_B P) (.node (o79_C P) (.node (o143_D TOP P) (.node (o271_J2 P) .nil .nil) .nil) (.node (o207_D P) .nil .nil)) (.node (o111_C P) (.node (o175_D P) .nil .nil) (.node (o239_D TOP P) .nil .nil)))) (.node (o23_B P) (.node (o39_B P) (.node (o71_C P) (.node (o135_C P) (.node (o263_J2 P) .nil .nil) .nil) (.node (o199_D P) .nil .nil)) (.node (o103_C P) (.node (o167_D TOP P) .nil .nil) (.node (o231_D P) .nil .nil))) (.node (o55_B TOP P) (.node (o87_C TOP P) (.node (o151_D P) .nil .nil) (.node (o215_D P) .nil .nil)) (.node (o119_C TOP P) (.node (o183_D P) .nil .nil) (.node (o247_Dx P) .nil .nil))))) (.node (o11_A P) (.node (o19_B TOP P) (.node (o35_B TOP P) (.node (o67_C P) (.node (o131_C P) (.node (o259_G P) .nil .nil) .nil) (.node (o195_D P) .nil .nil)) (.node (o99_C P) (.node (o163_D P) .nil .nil) (.node (o227_D P) .nil .nil))) (.node (o51_B P) (.node (o83_C P) (.node (o147_D P) .nil .nil) (.node (o211_D P) .nil .nil)) (.node (o115_C P) (.node (o179_D TOP P) .nil .nil) (.node (o243_D P) .nil .nil)))) (.node (o27_B P) (.node (o43_B TOP P) (.node (o75_C P) (.node (o139_D P) (.node (o267_J2 P) .nil .nil) .nil) (.node (o203_D TOP P) .nil .nil)) (.node (o107_C TOP P) (.node (o171_D P) .nil .nil) (.node (o235_D P) .nil .nil))) (.node (o59_B P) (.node (o91_C P) (.node (o155_D P) .nil .nil) (.node (o219_D P) .nil .nil)) (.node (o123_C P) (.node (o187_D P) .nil .nil) (.node (o251_Dy P) .nil .nil)))))) (.node (o5_A P) (.node (o9_A P) (.node (o17_B P) (.node (o33_B TOP P) (.node (o65_C P) (.node (o129_C P) (.node (o257_G P) .nil .nil) .nil) (.node (o193_D P) .nil .nil)) (.node (o97_C P) (.node (o161_D P) .nil .nil) (.node (o225_D TOP P) .nil .nil))) (.node (o49_B P) (.node (o81_C P) (.node (o145_D TOP P) .nil .nil) (.node (o209_D P) .nil .nil)) (.node (o113_C P) (.node (o177_D P) .nil .nil) (.node (o241_D TOP P) .nil .nil)))) (.node (o25_B P) (.node (o41_B TOP P) (.node (o73_C P) (.node (o137_C P) (.node (o265_J2 P) .nil .nil) .nil) (.node (o201_D TOP P) .nil .nil)) (.node (o105_C TOP P) (.node (o169_D P) .nil .nil) (.node (o233_D P) .nil .nil))) (.node (o57_B TOP P) (.node (o89_C TOP P) (.node (o153_D P) .nil .nil) (.node (o217_D P) .nil .nil)) (.node (o121_C TOP P) (.node (o185_D P) .nil .nil) (.node (o249_Dy P) .nil .nil))))) (.node (o13_A P) (.node (o21_B TOP P) (.node (o37_B P) (.node (o69_C P) (.node (o133_C P) (.node (o261_J P) .nil .nil) .nil) (.node (o197_D P) .nil .nil)) (.node (o101_C P) (.node (o165_D TOP P) .nil .nil) (.node (o229_D P) .nil .nil))) (.node (o53_B P) (.node (o85_C P) (.node (o149_D P) .nil .nil) (.node (o213_D P) .nil .nil)) (.node (o117_C P) (.node (o181_D TOP P) .nil .nil) (.node (o245_D P) .nil .nil)))) (.node (o29_B P) (.node (o45_B P) (.node (o77_C P) (.node (o141_D P) (.node (o269_J2 P) .nil .nil) .nil) (.node (o205_D P) .nil .nil)) (.node (o109_C P) (.node (o173_D P) .nil .nil) (.node (o237_D TOP P) .nil .nil))) (.node (o61_B P) (.node (o93_C P) (.node (o157_D P) .nil .nil) (.node (o221_D P) .nil .nil)) (.node (o125_C P) (.node (o189_D P) .nil .nil) (.node (o253_F P) .nil .nil))))))) (.node (o2_A P) (.node (o4_A P) (.node (o8_A P) (.node (o16_B P) (.node (o32_B P) (.node (o64_B P) (.node (o128_C P) (.node (o256_J P) .nil .nil) .nil) (.node (o192_D P) .nil .nil)) (.node (o96_C P) (.node (o160_D TOP P) .nil .nil) (.node (o224_D P) .nil .nil))) (.node (o48_B TOP P) (.node (o80_C TOP P) (.node (o144_D P) (.node (o272_J2 P) .nil .nil) .nil) (.node (o208_D TOP P) .nil .nil)) (.node (o112_C TOP P) (.node (o176_D P) .nil .nil) (.node (o240_D P) .nil .nil)))) (.node (o24_B P) (.node (o40_B P) (.node (o72_C P) (.node (o136_C P) (.node (o264_J2 P) .nil .nil) .nil) (.node (o200_D P) .nil .nil)) (.node (o104_C P) (.node (o168_D P) .nil .nil) (.node (o232_D TOP P) .nil .nil))) (.node (o56_B P) (.node (o88_C P) (.node (o152_D P) .nil .nil) (.node (o216_D TOP P) .nil .nil)) (.node (o120_C P) (.node (o184_D P) .nil .nil) (.node (o248_Dy P) .nil .nil))))) (.node (o12_J2 P) (.node (o20_B P) (.node (o36_B P) (.node (o68_C P) (.node (o132_C P) (.node (o260_J P) .nil .nil) .nil) (.node (o196_D TOP P) .nil .nil)) (.node (o100_C TOP P) (.node (o164_D P) .nil .nil) (.node (o228_D P) .nil .nil))) (.node (o52_B P) (.node (o84_C P) (.node (o148_D TOP P) .nil .nil) (.node (o212_D P) .nil .nil)) (.node (o116_C P) (.node (o180_D P) .nil .nil) (.node (o244_D P) .nil .nil)))) (.node (o28_B P) (.node (o44_B P) (.node (o76_C P) (.node (o140_D P) (.node (o268_J2 TOP P) .nil .nil) .nil) (.node (o204_D P) .nil .nil)) (.node (o108_C P) (.node (o172_D TOP P) .nil .nil) (.node (o236_D P) .nil .nil))) (.node (o60_B P) (.node (o92_C P) (.node (o156_D P) .nil .nil) (.node (o220_D P) .nil .nil)) (.node (o124_C P) (.node (o188_D TOP P) .nil .nil) (.node (o252_Dy P) .nil .nil)))))) (.node (o6_A P) (.node (o10_A P) (.node (o18_B P) (.node (o34_B P) (.node (o66_C P) (.node (o130_C P) (.node (o258_G P) .nil .nil) .nil) (.node (o194_D TOP P) .nil .nil)) (.node (o98_C TOP P) (.node (o162_D P) .nil .nil) (.node (o226_D P) .nil .nil))) (.node (o50_B TOP P) (.node (o82_C TOP P) (.node (o146_D P) .nil .nil) (.node (o210_D TOP P) .nil .nil)) (.node (o114_C TOP P) (.node (o178_D P) .nil .nil) (.node (o242_D P) .nil .nil)))) (.node (o26_B P) (.node (o42_B P) (.node (o74_C P) (.node (o138_C P) (.node (o266_J2 P) .nil .nil) .nil) (.node (o202_D P) .nil .nil)) (.node (o106_C P) (.node (o170_D P) .nil .nil) (.node (o234_D P) .nil .nil))) (.node (o58_B P) (.node (o90_C P) (.node (o154_D P) .nil .nil) (.node (o218_D TOP P) .nil .nil)) (.node (o122_C P) (.node (o186_D TOP P) .nil .nil) (.node (o250_E P) .nil .nil))))) (.node (o14_A P) (.node (o22_B P) (.node (o38_B P) (.node (o70_C P) (.node (o134_C P) (.node (o262_J P) .nil .nil) .nil) (.node (o198_D P) .nil .nil)) (.node (o102_C P) (.node (o166_D P) .nil .nil) (.node (o230_D TOP P) .nil .nil))) (.node (o54_B P) (.node (o86_C P) (.node (o150_D P) .nil .nil) (.node (o214_D P) .nil .nil)) (.node (o118_C P) (.node (o182_D P) .nil .nil) (.node (o246_D P) .nil .nil)))) (.node (o30_B P) (.node (o46_B P) (.node (o78_C P) (.node (o142_D P) (.node (o270_J2 TOP P) .nil .nil) .nil) (.node (o206_D P) .nil .nil)) (.node (o110_C P) (.node (o174_D TOP P) .nil .nil) (.node (o238_D P) .nil .nil))) (.node (o62_B P) (.node (o94_C P) (.node (o158_D TOP P) .nil .nil) (.node (o222_D P) .nil .nil)) (.node (o126_C P) (.node (o190_D P) .nil .nil) (.node (o254_I P) .nil .nil))))))))
noncomputable def SJ2 (w : World) (os : OsState) : SharedT := ⟨TJ2 w.params, 273, LIFE, Array.mk [], DRAWN, 2124, os⟩
noncomputable def o273_J2x (P : Params) : Obj := ⟨(.type "bytes_iterator"), none, (.fields (Array.mk [(.bytes (Array.mk [13, 10]) 2124), (.int 0 0)])), Array.mk []⟩
noncomputable def TJ2x (P : Params) : BT := (.node (o0_A P) (.node (o1_A P) (.node (o3_J2 P) (.node (o7_A P) (.node (o15_B P) (.node (o31_B P) (.node (o63_B P) (.node (o127_C P) (.node (o255_F P) .nil .nil) .nil) (.node (o191_D P) .nil .nil)) (.node (o95_C P) (.node (o159_D P) .nil .nil) (.node (o223_D TOP P) .nil .nil))) (.node (o47_B P) (.node (o79_C P) (.node (o143_D TOP P) (.node (o271_J2 P) .nil .nil) .nil) (.node (o207_D P) .nil .nil)) (.node (o111_C P) (.node (o175_D P) .nil .nil) (.node (o239_D TOP P) .nil .nil)))) (.node (o23_B P) (.node (o39_B P) (.node (o71_C P) (.node (o135_C P) (.node (o263_J2 P) .nil .nil) .nil) (.node (o199_D P) .nil .nil)) (.node (o103_C P) (.node (o167_D TOP P) .nil .nil) (.node (o231_D P) .nil .nil))) (.node (o55_B TOP P) (.node (o87_C TOP P) (.node (o151_D P) .nil .nil) (.node (o215_D P) .nil .nil)) (.node (o119_C TOP P) (.node (o183_D P) .nil .nil) (.node (o247_Dx P) .nil .nil))))) (.node (o11_A P) (.node (o19_B TOP P) (.node (o35_B TOP P) (.node (o67_C P) (.node (o131_C P) (.node (o259_G P) .nil .nil) .nil) (.node (o195_D P) .nil .nil)) (.node (o99_C P) (.node (o163_D P) .nil .nil) (.node (o227_D P) .nil .nil))) (.node (o51_B P) (.node (o83_C P) (.node (o147_D P) .nil .nil) (.node (o211_D P) .nil .nil)) (.node (o115_C P) (.node (o179_D TOP P) .nil .nil) (.node (o243_D P) .nil .nil)))) (.node (o27_B P) (.node (o43_B TOP P) (.node (o75_C P) (.node (o139_D P) (.node (o267_J2 P) .nil .nil) .nil) (.node (o203_D TOP P) .nil .nil)) (.node (o107_C TOP P) (.node (o171_D P) .nil .nil) (.node (o235_D P) .nil .nil))) (.node (o59_B P) (.node (o91_C P) (.node (o155_D P) .nil .nil) (.node (o219_D P) .nil .nil)) (.node (o123_C P) (.node (o187_D P) .nil .nil) (.node (o251_Dy P) .nil .nil)))))) (.node (o5_A P) (.node (o9_A P) (.node (o17_B P) (.node (o33_B TOP P) (.node (o65_C P) (.node (o129_C P) (.node (o257_G P) .nil .nil) .nil) (.node (o193_D P) .nil .nil)) (.node (o97_C P) (.node (o161_D P) .nil .nil) (.node (o225_D TOP P) .nil .nil))) (.node (o49_B P) (.node (o81_C P) (.node (o145_D TOP P) (.node (o273_J2x P) .nil .nil) .nil) (.node (o209_D P) .nil .nil)) (.node (o113_C P) (.node (o177_D P) .nil .nil) (.node (o241_D TOP P) .nil .nil)))) (.node (o25_B P) (.node (o41_B TOP P) (.node (o73_C P) (.node (o137_C P) (.node (o265_J2 P) .nil .nil) .nil) (.node (o201_D TOP P) .nil .nil)) (.node (o105_C TOP P) (.node (o169_D P) .nil .nil) (.node (o233_D P) .nil .nil))) (.node (o57_B TOP P) (.node (o89_C TOP P) (.node (o153_D P) .nil .nil) (.node (o217_D P) .nil .nil)) (.node (o121_C TOP P) (.node (o185_D P) .nil .nil) (.node (o249_Dy P) .nil .nil))))) (.node (o13_A P) (.node (o21_B TOP P) (.node (o37_B P) (.node (o69_C P) (.node (o133_C P) (.node (o261_J P) .nil .nil) .nil) (.node (o197_D P) .nil .nil)) (.node (o101_C P) (.node (o165_D TOP P) .nil .nil) (.node (o229_D P) .nil .nil))) (.node (o53_B P) (.node (o85_C P) (.node (o149_D P) .nil .nil) (.node (o213_D P) .nil .nil)) (.node (o117_C P) (.node (o181_D TOP P) .nil .nil) (.node (o245_D P) .nil .nil)))) (.node (o29_B P) (.node (o45_B P) (.node (o77_C P) (.node (o141_D P) (.node (o269_J2 P) .nil .nil) .nil) (.node (o205_D P) .nil .nil)) (.node (o109_C P) (.node (o173_D P) .nil .nil) (.node (o237_D TOP P) .nil .nil))) (.node (o61_B P) (.node (o93_C P) (.node (o157_D P) .nil .nil) (.node (o221_D P) .nil .nil)) (.node (o125_C P) (.node (o189_D P) .nil .nil) (.node (o253_F P) .nil .nil))))))) (.node (o2_A P) (.node (o4_A P) (.node (o8_A P) (.node (o16_B P) (.node (o32_B P) (.node (o64_B P) (.node (o128_C P) (.node (o256_J P) .nil .nil) .nil) (.node (o192_D P) .nil .nil)) (.node (o96_C P) (.node (o160_D TOP P) .nil .nil) (.node (o224_D P) .nil .nil))) (.node (o48_B TOP P) (.node (o80_C TOP P) (.node (o144_D P) (.node (o272_J2 P) .nil .nil) .nil) (.node (o208_D TOP P) .nil .nil)) (.node (o112_C TOP P) (.node (o176_D P) .nil .nil) (.node (o240_D P) .nil .nil)))) (.node (o24_B P) (.node (o40_B P) (.node (o72_C P) (.node (o136_C P) (.node (o264_J2 P) .nil .nil) .nil) (.node (o200_D P) .nil .nil)) (.node (o104_C P) (.node (o168_D P) .nil .nil) (.node (o232_D TOP P) .nil .nil))) (.node (o56_B P) (.node (o88_C P) (.node (o152_D P) .nil .nil) (.node (o216_D TOP P) .nil .nil)) (.node (o120_C P) (.node (o184_D P) .nil .nil) (.node (o248_Dy P) .nil .nil))))) (.node (o12_J2 P) (.node (o20_B P) (.node (o36_B P) (.node (o68_C P) (.node (o132_C P) (.node (o260_J P) .nil .nil) .nil) (.node (o196_D TOP P) .nil .nil)) (.node (o100_C TOP P) (.node (o164_D P) .nil .nil) (.node (o228_D P) .nil .nil))) (.node (o52_B P) (.node (o84_C P) (.node (o148_D TOP P) .nil .nil) (.node (o212_D P) .nil .nil)) (.node (o116_C P) (.node (o180_D P) .nil .nil) (.node (o244_D P) .nil .nil)))) (.node (o28_B P) (.node (o44_B P) (.node (o76_C P) (.node (o140_D P) (.node (o268_J2 TOP P) .nil .nil) .nil) (.node (o204_D P) .nil .nil)) (.node (o108_C P) (.node (o172_D TOP P) .nil .nil) (.node (o236_D P) .nil .nil))) (.node (o60_B P) (.node (o92_C P) (.node (o156_D P) .nil .nil) (.node (o220_D P) .nil .nil)) (.node (o124_C P) (.node (o188_D TOP P) .nil .nil) (.node (o252_Dy P) .nil .nil)))))) (.node (o6_A P) (.node (o10_A P) (.node (o18_B P) (.node (o34_B P) (.node (o66_C P) (.node (o130_C P) (.node (o258_G P) .nil .nil) .nil) (.node (o194_D TOP P) .nil .nil)) (.node (o98_C TOP P) (.node (o162_D P) .nil .nil) (.node (o226_D P) .nil .nil))) (.node (o50_B TOP P) (.node (o82_C TOP P) (.node (o146_D P) .nil .nil) (.node (o210_D TOP P) .nil .nil)) (.node (o114_C TOP P) (.node (o178_D P) .nil .nil) (.node (o242_D P) .nil .nil)))) (.node (o26_B P) (.node (o42_B P) (.node (o74_C P) (.node (o138_C P) (.node (o266_J2 P) .nil .nil) .nil) (.node (o202_D P) .nil .nil)) (.node (o106_C P) (.node (o170_D P) .nil .nil) (.node (o234_D P) .nil .nil))) (.node (o58_B P) (.node (o90_C P) (.node (o154_D P) .nil .nil) (.node (o218_D TOP P) .nil .nil)) (.node (o122_C P) (.node (o186_D TOP P) .nil .nil) (.node (o250_E P) .nil .nil))))) (.node (o14_A P) (.node (o22_B P) (.node (o38_B P) (.node (o70_C P) (.node (o134_C P) (.node (o262_J P) .nil .nil) .nil) (.node (o198_D P) .nil .nil)) (.node (o102_C P) (.node (o166_D P) .nil .nil) (.node (o230_D TOP P) .nil .nil))) (.node (o54_B P) (.node (o86_C P) (.node (o150_D P) .nil .nil) (.node (o214_D P) .nil .nil)) (.node (o118_C P) (.node (o182_D P) .nil .nil) (.node (o246_D P) .nil .nil)))) (.node (o30_B P) (.node (o46_B P) (.node (o78_C P) (.node (o142_D P) (.node (o270_J2 TOP P) .nil .nil) .nil) (.node (o206_D P) .nil .nil)) (.node (o110_C P) (.node (o174_D TOP P) .nil .nil) (.node (o238_D P) .nil .nil))) (.node (o62_B P) (.node (o94_C P) (.node (o158_D TOP P) .nil .nil) (.node (o222_D P) .nil .nil)) (.node (o126_C P) (.node (o190_D P) .nil .nil) (.node (o254_I P) .nil .nil))))))))
noncomputable def SJ2x (w : World) (os : OsState) : SharedT := ⟨TJ2x w.params, 274, LIFE, Array.mk [], DRAWN, 2125, os⟩
noncomputable def o3_K (P : Params) : Obj := ⟨(.type "dict"), none, (.dict (Array.mk [⟨H P (S "__name__"), (.str (S "__name__") 165), (.str (S "cpy313.email.quoprimime") 1613)⟩, ⟨H P (S "__doc__"), (.str (S "__doc__") 166), .none⟩, ⟨H P (S "__package__"), (.str (S "__package__") 167), .none⟩, ⟨H P (S "__loader__"), (.str (S "__loader__") 168), (.builtin "__main__.__loader__#opaque")⟩, ⟨H P (S "__spec__"), (.str (S "__spec__") 169), .none⟩, ⟨H P (S "__annotations__"), (.str (S "__annotations__") 170), (.ref 6)⟩, ⟨H P (S "__builtins__"), (.str (S "__builtins__") 171), (.ref 4)⟩, ⟨H P (S "__file__"), (.str (S "__file__") 173), (.str (S "/claim/cut.py") 172)⟩, ⟨H P (S "__cached__"), (.str (S "__cached__") 174), .none⟩, ⟨H P (S "_wall"), (.str (S "_wall") 193), (.ref 21)⟩, ⟨H P (S "_tuplegetter"), (.str (S "_tuplegetter") 252), (.ref 60)⟩, ⟨H P (S "Match"), (.str (S "Match") 380), (.ref 135)⟩, ⟨H P (S "_calculate_ratio"), (.str (S "_calculate_ratio") 388), (.ref 145)⟩, ⟨H P (S "SequenceMatcher"), (.str (S "SequenceMatcher") 574), (.ref 242)⟩, ⟨H P (S "_QUOPRI_MAP"), (.str (S "_QUOPRI_MAP") 1602), (.ref 249)⟩, ⟨H P (S "_QUOPRI_HEADER_MAP"), (.str (S "_QUOPRI_HEADER_MAP") 1603), (.ref 254)⟩, ⟨H P (S "_QUOPRI_BODY_MAP"), (.str (S "_QUOPRI_BODY_MAP") 1604), (.ref 256)⟩, ⟨H P (S "ascii_lowercase"), (.str (S "ascii_lowercase") 1606), (.str (S "abcdefghijklmnopqrstuvwxyz") 1605)⟩, ⟨H P (S "ascii_uppercase"), (.str (S "ascii_uppercase") 1608), (.str (S "ABCDEFGHIJKLMNOPQRSTUVWXYZ") 1607)⟩, ⟨H P (S "ascii_letters"), (.str (S "ascii_letters") 1610), (.str (S "abcdefghijklmnopqrstuvwxyzABCDEFGHIJKLMNOPQRSTUVWXYZ") 1609)⟩, ⟨H P (S "digits"), (.str (S "digits") 1612), (.str (S "0123456789") 1611)⟩, ⟨H P (S "c"), (.str (S "c") 1623), (.int 10 2128)⟩, ⟨H P (S "header_encode"), (.str (S "header_encode") 2122), (.ref 270)⟩, ⟨H P (S "_QUOPRI_BODY_ENCODE_MAP"), (.str (S "_QUOPRI_BODY_ENCODE_MAP") 2123), (.ref 272)⟩]) 24), Array.mk []⟩
noncomputable def o272_K (P : Params) : Obj := ⟨(.type "list"), none, (.seq (Array.mk [(.str (S "=00") 581), (.str (S "=01") 585), (.str (S "=02") 589), (.str (S "=03") 593), (.str (S "=04") 597), (.str (S "=05") 601), (.str (S "=06") 605), (.str (S "=07") 609), (.str (S "=08") 613), (.str (S "\t") 2111), (.str (S "\n") 2130), (.str (S "=0B") 625), (.str (S "=0C") 629), (.str (S "\r") 2127), (.str (S "=0E") 637), (.str (S "=0F") 641), (.str (S "=10") 645), (.str (S "=11") 649), (.str (S "=12") 653), (.str (S "=13") 657), (.str (S "=14") 661), (.str (S "=15") 665), (.str (S "=16") 669), (.str (S "=17") 673), (.str (S "=18") 677), (.str (S "=19") 681), (.str (S "=1A") 685), (.str (S "=1B") 689), (.str (S "=1C") 693), (.str (S "=1D") 697), (.str (S "=1E") 701), (.str (S "=1F") 705), (.str (S " ") 1829), (.str (S "!") 1832), (.str (S "\"") 1835), (.str (S "#") 1838), (.str (S "$") 1841), (.str (S "%") 1844), (.str (S "&") 1847), (.str (S "'") 1850), (.str (S "(") 1853), (.str (S ")") 1856), (.str (S "*") 1859), (.str (S "+") 1862), (.str (S ",") 1865), (.str (S "-") 1868), (.str (S ".") 1871), (.str (S "/") 1874), (.str (S "0") 1877), (.str (S "1") 1880), (.str (S "2") 1883), (.str (S "3") 1886), (.str (S "4") 1889), (.str (S "5") 1892), (.str (S "6") 1895), (.str (S "7") 1898), (.str (S "8") 1901), (.str (S "9") 1904), (.str (S ":") 1907), (.str (S ";") 1910), (.str (S "<") 1913), (.str (S "=3D") 825), (.str (S ">") 1916), (.str (S "?") 1919), (.str (S "@") 1922), (.str (S "A") 1925), (.str (S "B") 1928), (.str (S "C") 1931), (.str (S "D") 1934), (.str (S "E") 1937), (.str (S "F") 1940), (.str (S "G") 1943), (.str (S "H") 1946), (.str (S "I") 1949), (.str (S "J") 1952), (.str (S "K") 1955), (.str (S "L") 1958), (.str (S "M") 1961), (.str (S "N") 1964), (.str (S "O") 1967), (.str (S "P") 1970), (.str (S "Q") 1973), (.str (S "R") 1976), (.str (S "S") 1979), (.str (S "T") 1982), (.str (S "U") 1985), (.str (S "V") 1988), (.str (S "W") 1991), (.str (S "X") 1994), (.str (S "Y") 1997), (.str (S "Z") 2000), (.str (S "[") 2003), (.str (S "\\") 2006), (.str (S "]") 2009), (.str (S "^") 2012), (.str (S "_") 2015), (.str (S "`") 2018), (.str (S "a") 2021), (.str (S "b") 2024), (.str (S "c") 2027), (.str (S "d") 2030), (.str (S "e") 2033), (.str (S "f") 2036), (.str (S "g") 2039), (.str (S "h") 2042), (.str (S "i") 2045), (.str (S "j") 2048), (.str (S "k") 2051), (.str (S "l") 2054), (.str (S "m") 2057), (.str (S "n") 2060), (.str (S "o") 2063), (.str (S "p") 2066), (.str (S "q") 2069), (.str (S "r") 2072), (.str (S "s") 2075), (.str (S "t") 2078), (.str (S "u") 2081), (.str (S "v") 2084), (.str (S "w") 2087), (.str (S "x") 2090), (.str (S "y") 2093), (.str (S "z") 2096), (.str (S "{") 2099), (.str (S "|") 2102), (.str (S "}") 2105), (.str (S "~") 2108), (.str (S "=7F") 1089), (.str (S "=80") 1093), (.str (S "=81") 1097), (.str (S "=82") 1101), (.str (S "=83") 1105), (.str (S "=84") 1109), (.str (S "=85") 1113), (.str (S "=86") 1117), (.str (S "=87") 1121), (.str (S "=88") 1125), (.str (S "=89") 1129), (.str (S "=8A") 1133), (.str (S "=8B") 1137), (.str (S "=8C") 1141), (.str (S "=8D") 1145), (.str (S "=8E") 1149), (.str (S "=8F") 1153), (.str (S "=90") 1157), (.str (S "=91") 1161), (.str (S "=92") 1165), (.str (S "=93") 1169), (.str (S "=94") 1173), (.str (S "=95") 1177), (.str (S "=96") 1181), (.str (S "=97") 1185), (.str (S "=98") 1189), (.str (S "=99") 1193), (.str (S "=9A") 1197), (.str (S "=9B") 1201), (.str (S "=9C") 1205), (.str (S "=9D") 1209), (.str (S "=9E") 1213), (.str (S "=9F") 1217), (.str (S "=A0") 1221), (.str (S "=A1") 1225), (.str (S "=A2") 1229), (.str (S "=A3") 1233), (.str (S "=A4") 1237), (.str (S "=A5") 1241), (.str (S "=A6") 1245), (.str (S "=A7") 1249), (.str (S "=A8") 1253), (.str (S "=A9") 1257), (.str (S "=AA") 1261), (.str (S "=AB") 1265), (.str (S "=AC") 1269), (.str (S "=AD") 1273), (.str (S "=AE") 1277), (.str (S "=AF") 1281), (.str (S "=B0") 1285), (.str (S "=B1") 1289), (.str (S "=B2") 1293), (.str (S "=B3") 1297), (.str (S "=B4") 1301), (.str (S "=B5") 1305), (.str (S "=B6") 1309), (.str (S "=B7") 1313), (.str (S "=B8") 1317), (.str (S "=B9") 1321), (.str (S "=BA") 1325), (.str (S "=BB") 1329), (.str (S "=BC") 1333), (.str (S "=BD") 1337), (.str (S "=BE") 1341), (.str (S "=BF") 1345), (.str (S "=C0") 1349), (.str (S "=C1") 1353), (.str (S "=C2") 1357), (.str (S "=C3") 1361), (.str (S "=C4") 1365), (.str (S "=C5") 1369), (.str (S "=C6") 1373), (.str (S "=C7") 1377), (.str (S "=C8") 1381), (.str (S "=C9") 1385), (.str (S "=CA") 1389), (.str (S "=CB") 1393), (.str (S "=CC") 1397), (.str (S "=CD") 1401), (.str (S "=CE") 1405), (.str (S "=CF") 1409), (.str (S "=D0") 1413), (.str (S "=D1") 1417), (.str (S "=D2") 1421), (.str (S "=D3") 1425), (.str (S "=D4") 1429), (.str (S "=D5") 1433), (.str (S "=D6") 1437), (.str (S "=D7") 1441), (.str (S "=D8") 1445), (.str (S "=D9") 1449), (.str (S "=DA") 1453), (.str (S "=DB") 1457), (.str (S "=DC") 1461), (.str (S "=DD") 1465), (.str (S "=DE") 1469), (.str (S "=DF") 1473), (.str (S "=E0") 1477), (.str (S "=E1") 1481), (.str (S "=E2") 1485), (.str (S "=E3") 1489), (.str (S "=E4") 1493), (.str (S "=E5") 1497), (.str (S "=E6") 1501), (.str (S "=E7") 1505), (.str (S "=E8") 1509), (.str (S "=E9") 1513), (.str (S "=EA") 1517), (.str (S "=EB") 1521), (.str (S "=EC") 1525), (.str (S "=ED") 1529), (.str (S "=EE") 1533), (.str (S "=EF") 1537), (.str (S "=F0") 1541), (.str (S "=F1") 1545), (.str (S "=F2") 1549), (.str (S "=F3") 1553), (.str (S "=F4") 1557), (.str (S "=F5") 1561), (.str (S "=F6") 1565), (.str (S "=F7") 1569), (.str (S "=F8") 1573), (.str (S "=F9") 1577), (.str (S "=FA") 1581), (.str (S "=FB") 1585), (.str (S "=FC") 1589), (.str (S "=FD") 1593), (.str (S "=FE") 1597), (.str (S "=FF") 1601)]) 0), Array.mk []⟩
noncomputable def o273_K (P : Params) : Obj := ⟨(.type "bytes_iterator"), none, (.fields (Array.mk [.none, (.int 2 0)])), Array.mk []⟩
noncomputable def o274_K (P : Params) : Obj := ⟨(.type "tuple"), none, (.seq (Array.mk []) 0), Array.mk []⟩
noncomputable def o275_K (P : Params) : Obj := ⟨(.type "StopIteration"), none, (.fields (Array.mk [(.ref 274), .none, .none, .none, (.bool false), .none])), Array.mk []⟩
noncomputable def TK (P : Params) : BT := (.node (o0_A P) (.node (o1_A P) (.node (o3_K P) (.node (o7_A P) (.node (o15_B P) (.node (o31_B P) (.node (o63_B P) (.node (o127_C P) (.node (o255_F P) .nil .nil) .nil) (.node (o191_D P) .nil .nil)) (.node (o95_C P) (.node (o159_D P) .nil .nil) (.node (o223_D TOP P) .nil .nil))) (.node (o47_B P) (.node (o79_C P) (.node (o143_D TOP P) (.node (o271_J2 P) .nil .nil) .nil) (.node (o207_D P) .nil .nil)) (.node (o111_C P) (.node (o175_D P) .nil .nil) (.node (o239_D TOP P) .nil .nil)))) (.node (o23_B P) (.node (o39_B P) (.node (o71_C P) (.node (o135_C P) (.node (o263_J2 P) .nil .nil) .nil) (.node (o199_D P) .nil .nil)) (.node (o103_C P) (.node (o167_D TOP P) .nil .nil) (.node (o231_D P) .nil .nil))) (.node (o55_B TOP P) (.node (o87_C TOP P) (.node (o151_D P) .nil .nil) (.node (o215_D P) .nil .nil)) (.node (o119_C TOP P) (.node (o183_D P) .nil .nil) (.node (o247_Dx P) .nil .nil))))) (.node (o11_A P) (.node (o19_B TOP P) (.node (o35_B TOP P) (.node (o67_C P) (.node (o131_C P) (.node (o259_G P) .nil .nil) .nil) (.node (o195_D P) .nil .nil)) (.node (o99_C P) (.node (o163_D P) .nil .nil) (.node (o227_D P) .nil .nil))) (.node (o51_B P) (.node (o83_C P) (.node (o147_D P) (.node (o275_K P) .nil .nil) .nil) (.node (o211_D P) .nil .nil)) (.node (o115_C P) (.node (o179_D TOP P) .nil .nil) (.node (o243_D P) .nil .nil)))) (.node (o27_B P) (.node (o43_B TOP P) (.node (o75_C P) (.node (o139_D P) (.node (o267_J2 P) .nil .nil) .nil) (.node (o203_D TOP P) .nil .nil)) (.node (o107_C TOP P) (.node (o171_D P) .nil .nil) (.node (o235_D P) .nil .nil))) (.node (o59_B P) (.node (o91_C P) (.node (o155_D P) .nil .nil) (.node (o219_D P) .nil .nil)) (.node (o123_C P) (.node (o187_D P) .nil .nil) (.node (o251_Dy P) .nil .nil)))))) (.node (o5_A P) (.node (o9_A P) (.node (o17_B P) (.node (o33_B TOP P) (.node (o65_C P) (.node (o129_C P) (.node (o257_G P) .nil .nil) .nil) (.node (o193_D P) .nil .nil)) (.node (o97_C P) (.node (o161_D P) .nil .nil) (.node (o225_D TOP P) .nil .nil))) (.node (o49_B P) (.node (o81_C P) (.node (o145_D TOP P) (.node (o273_K P) .nil .nil) .nil) (.node (o209_D P) .nil .nil)) (.node (o113_C P) (.node (o177_D P) .nil .nil) (.node (o241_D TOP P) .nil .nil)))) (.node (o25_B P) (.node (o41_B TOP P) (.node (o73_C P) (.node (o137_C P) (.node (o265_J2 P) .nil .nil) .nil) (.node (o201_D TOP P) .nil .nil)) (.node (o105_C TOP P) (.node (o169_D P) .nil .nil) (.node (o233_D P) .nil .nil))) (.node (o57_B TOP P) (.node (o89_C TOP P) (.node (o153_D P) .nil .nil) (.node (o217_D P) .nil .nil)) (.node (o121_C TOP P) (.node (o185_D P) .nil .nil) (.node (o249_Dy P) .nil .nil))))) (.node (o13_A P) (.node (o21_B TOP P) (.node (o37_B P) (.node (o69_C P) (.node (o133_C P) (.node (o261_J P) .nil .nil) .nil) (.node (o197_D P) .nil .nil)) (.node (o101_C P) (.node (o165_D TOP P) .nil .nil) (.node (o229_D P) .nil .nil))) (.node (o53_B P) (.node (o85_C P) (.node (o149_D P) .nil .nil) (.node (o213_D P) .nil .nil)) (.node (o117_C P) (.node (o181_D TOP P) .nil .nil) (.node (o245_D P) .nil .nil)))) (.node (o29_B P) (.node (o45_B P) (.node (o77_C P) (.node (o141_D P) (.node (o269_J2 P) .nil .nil) .nil) (.node (o205_D P) .nil .nil)) (.node (o109_C P) (.node (o173_D P) .nil .nil) (.node (o237_D TOP P) .nil .nil))) (.node (o61_B P) (.node (o93_C P) (.node (o157_D P) .nil .nil) (.node (o221_D P) .nil .nil)) (.node (o125_C P) (.node (o189_D P) .nil .nil) (.node (o253_F P) .nil .nil))))))) (.node (o2_A P) (.node (o4_A P) (.node (o8_A P) (.node (o16_B P) (.node (o32_B P) (.node (o64_B P) (.node (o128_C P) (.node (o256_J P) .nil .nil) .nil) (.node (o192_D P) .nil .nil)) (.node (o96_C P) (.node (o160_D TOP P) .nil .nil) (.node (o224_D P) .nil .nil))) (.node (o48_B TOP P) (.node (o80_C TOP P) (.node (o144_D P) (.node (o272_K P) .nil .nil) .nil) (.node (o208_D TOP P) .nil .nil)) (.node (o112_C TOP P) (.node (o176_D P) .nil .nil) (.node (o240_D P) .nil .nil)))) (.node (o24_B P) (.node (o40_B P) (.node (o72_C P) (.node (o136_C P) (.node (o264_J2 P) .nil .nil) .nil) (.node (o200_D P) .nil .nil)) (.node (o104_C P) (.node (o168_D P) .nil .nil) (.node (o232_D TOP P) .nil .nil))) (.node (o56_B P) (.node (o88_C P) (.node (o152_D P) .nil .nil) (.node (o216_D TOP P) .nil .nil)) (.node (o120_C P) (.node (o184_D P) .nil .nil) (.node (o248_Dy P) .nil .nil))))) (.node (o12_J2 P) (.node (o20_B P) (.node (o36_B P) (.node (o68_C P) (.node (o132_C P) (.node (o260_J P) .nil .nil) .nil) (.node (o196_D TOP P) .nil .nil)) (.node (o100_C TOP P) (.node (o164_D P) .nil .nil) (.node (o228_D P) .nil .nil))) (.node (o52_B P) (.node (o84_C P) (.node (o148_D TOP P) .nil .nil) (.node (o212_D P) .nil .nil)) (.node (o116_C P) (.node (o180_D P) .nil .nil) (.node (o244_D P) .nil .nil)))) (.node (o28_B P) (.node (o44_B P) (.node (o76_C P) (.node (o140_D P) (.node (o268_J2 TOP P) .nil .nil) .nil) (.node (o204_D P) .nil .nil)) (.node (o108_C P) (.node (o172_D TOP P) .nil .nil) (.node (o236_D P) .nil .nil))) (.node (o60_B P) (.node (o92_C P) (.node (o156_D P) .nil .nil) (.node (o220_D P) .nil .nil)) (.node (o124_C P) (.node (o188_D TOP P) .nil .nil) (.node (o252_Dy P) .nil .nil)))))) (.node (o6_A P) (.node (o10_A P) (.node (o18_B P) (.node (o34_B P) (.node (o66_C P) (.node (o130_C P) (.node (o258_G P) .nil .nil) .nil) (.node (o194_D TOP P) .nil .nil)) (.node (o98_C TOP P) (.node (o162_D P) .nil .nil) (.node (o226_D P) .nil .nil))) (.node (o50_B TOP P) (.node (o82_C TOP P) (.node (o146_D P) (.node (o274_K P) .nil .nil) .nil) (.node (o210_D TOP P) .nil .nil)) (.node (o114_C TOP P) (.node (o178_D P) .nil .nil) (.node (o242_D P) .nil .nil)))) (.node (o26_B P) (.node (o42_B P) (.node (o74_C P) (.node (o138_C P) (.node (o266_J2 P) .nil .nil) .nil) (.node (o202_D P) .nil .nil)) (.node (o106_C P) (.node (o170_D P) .nil .nil) (.node (o234_D P) .nil .nil))) (.node (o58_B P) (.node (o90_C P) (.node (o154_D P) .nil .nil) (.node (o218_D TOP P) .nil .nil)) (.node (o122_C P) (.node (o186_D TOP P) .nil .nil) (.node (o250_E P) .nil .nil))))) (.node (o14_A P) (.node (o22_B P) (.node (o38_B P) (.node (o70_C P) (.node (o134_C P) (.node (o262_J P) .nil .nil) .nil) (.node (o198_D P) .nil .nil)) (.node (o102_C P) (.node (o166_D P) .nil .nil) (.node (o230_D TOP P) .nil .nil))) (.node (o54_B P) (.node (o86_C P) (.node (o150_D P) .nil .nil) (.node (o214_D P) .nil .nil)) (.node (o118_C P) (.node (o182_D P) .nil .nil) (.node (o246_D P) .nil .nil)))) (.node (o30_B P) (.node (o46_B P) (.node (o78_C P) (.node (o142_D P) (.node (o270_J2 TOP P) .nil .nil) .nil) (.node (o206_D P) .nil .nil)) (.node (o110_C P) (.node (o174_D TOP P) .nil .nil) (.node (o238_D P) .nil .nil))) (.node (o62_B P) (.node (o94_C P) (.node (o158_D TOP P) .nil .nil) (.node (o222_D P) .nil .nil)) (.node (o126_C P) (.node (o190_D P) .nil .nil) (.node (o254_I P) .nil .nil))))))))
noncomputable def SK (w : World) (os : OsState) : SharedT := ⟨TK w.params, 276, LIFE, Array.mk [], DRAWN, 2131, os⟩
noncomputable def o3_L (P : Params) : Obj := ⟨(.type "dict"), none, (.dict (Array.mk [⟨H P (S "__name__"), (.str (S "__name__") 165), (.str (S "law_pd0124_01") 2131)⟩, ⟨H P (S "__doc__"), (.str (S "__doc__") 166), .none⟩, ⟨H P (S "__package__"), (.str (S "__package__") 167), .none⟩, ⟨H P (S "__loader__"), (.str (S "__loader__") 168), (.builtin "__main__.__loader__#opaque")⟩, ⟨H P (S "__spec__"), (.str (S "__spec__") 169), .none⟩, ⟨H P (S "__annotations__"), (.str (S "__annotations__") 170), (.ref 6)⟩, ⟨H P (S "__builtins__"), (.str (S "__builtins__") 171), (.ref 4)⟩, ⟨H P (S "__file__"), (.str (S "__file__") 173), (.str (S "/claim/cut.py") 172)⟩, ⟨H P (S "__cached__"), (.str (S "__cached__") 174), .none⟩, ⟨H P (S "_wall"), (.str (S "_wall") 193), (.ref 21)⟩, ⟨H P (S "_tuplegetter"), (.str (S "_tuplegetter") 252), (.ref 60)⟩, ⟨H P (S "Match"), (.str (S "Match") 380), (.ref 135)⟩, ⟨H P (S "_calculate_ratio"), (.str (S "_calculate_ratio") 388), (.ref 145)⟩, ⟨H P (S "SequenceMatcher"), (.str (S "SequenceMatcher") 574), (.ref 242)⟩, ⟨H P (S "_QUOPRI_MAP"), (.str (S "_QUOPRI_MAP") 1602), (.ref 249)⟩, ⟨H P (S "_QUOPRI_HEADER_MAP"), (.str (S "_QUOPRI_HEADER_MAP") 1603), (.ref 254)⟩, ⟨H P (S "_QUOPRI_BODY_MAP"), (.str (S "_QUOPRI_BODY_MAP") 1604), (.ref 256)⟩, ⟨H P (S "ascii_lowercase"), (.str (S "ascii_lowercase") 1606), (.str (S "abcdefghijklmnopqrstuvwxyz") 1605)⟩, ⟨H P (S "ascii_uppercase"), (.str (S "ascii_uppercase") 1608), (.str (S "ABCDEFGHIJKLMNOPQRSTUVWXYZ") 1607)⟩, ⟨H P (S "ascii_letters"), (.str (S "ascii_letters") 1610), (.str (S "abcdefghijklmnopqrstuvwxyzABCDEFGHIJKLMNOPQRSTUVWXYZ") 1609)⟩, ⟨H P (S "digits"), (.str (S "digits") 1612), (.str (S "0123456789") 1611)⟩, ⟨H P (S "header_encode"), (.str (S "header_encode") 2122), (.ref 270)⟩, ⟨H P (S "_QUOPRI_BODY_ENCODE_MAP"), (.str (S "_QUOPRI_BODY_ENCODE_MAP") 2123), (.ref 272)⟩, ⟨H P (S "_law_octet"), (.str (S "_law_octet") 2139), (.ref 282)⟩, ⟨H P (S "_law_other"), (.str (S "_law_other") 2146), (.ref 289)⟩, ⟨H P (S "_law_rows"), (.str (S "_law_rows") 2157), (.ref 296)⟩, ⟨H P (S "_law_piece"), (.str (S "_law_piece") 2166), (.ref 303)⟩, ⟨H P (S "_law_places"), (.str (S "_law_places") 2175), (.ref 310)⟩, ⟨H P (S "_law_run"), (.str (S "_law_run") 2181), (.ref 315)⟩, ⟨H P (S "law"), (.str (S "law") 2187), (.ref 320)⟩]) 32), Array.mk []⟩
noncomputable def o12_L (P : Params) : Obj := ⟨.none, none, (.fields (Array.mk [(.int 1 0), (.int 0 0), (.ref 20), (.int 5 0), (.int 0 0), (.ref 27), (.int 23 0), (.int 0 0), (.ref 71), (.int 66 0), (.int 0 0), (.ref 144), (.int 70 0), (.int 0 0), (.ref 151), (.int 431 0), (.int 0 0), (.ref 269), (.int 451 0), (.int 0 0), (.ref 281), (.int 453 0), (.int 0 0), (.ref 288), (.int 455 0), (.int 0 0), (.ref 295), (.int 466 0), (.int 0 0), (.ref 302), (.int 474 0), (.int 0 0), (.ref 309), (.int 479 0), (.int 0 0), (.ref 314), (.int 501 0), (.int 0 0), (.ref 319)])), Array.mk []⟩
noncomputable def o276_L (P : Params) : Obj := ⟨(.type "tuple"), none, (.seq (Array.mk []) 0), Array.mk []⟩
noncomputable def o277_L (P : Params) : Obj := ⟨.none, none, (.fields (Array.mk [])), Array.mk []⟩
noncomputable def o278_L (P : Params) : Obj := ⟨(.type "tuple"), none, (.seq (Array.mk [(.str (S "q") 2136)]) 0), Array.mk []⟩
noncomputable def o279_L (P : Params) : Obj := ⟨(.type "tuple"), none, (.seq (Array.mk []) 0), Array.mk []⟩
noncomputable def o280_L (T : List Stmt) (P : Params) : Obj := ⟨.none, none, (.func { name := (S "_law_octet"), qualname := (S "_law_octet"), params := arOf (stAt T 22), body := .stmts (bdOf (stAt T 22)), scope := scOf (stAt T 22), globals := 0, closure := [], defaults := .none, kwdefaults := .none, doc := .none, pyModule := .none, annotations := none, code := .none, closureTuple := .none, builtins := 0 }), Array.mk []⟩
noncomputable def o281_L (P : Params) : Obj := ⟨(.type "code"), none, (.fields (Array.mk [(.str (S "_law_octet") 2133), (.str (S "_law_octet") 2134), (.str (S "/claim/cut.py") 2135), (.int 451 0), (.int 1 0), (.int 0 0), (.int 0 0), (.int 3 0), (.ref 276), (.bool true), (.int 181 0), (.ref 277), .none, (.ref 278), (.ref 279), (.ref 280), (.int 2137 0), (.int 451 0), (.str (S "/claim/cut.py") 2138)])), Array.mk []⟩
noncomputable def o282_L (T : List Stmt) (P : Params) : Obj := ⟨(.type "function"), none, (.func { name := (S "_law_octet"), qualname := (S "_law_octet"), params := arOf (stAt T 22), body := .stmts (bdOf (stAt T 22)), scope := scOf (stAt T 22), globals := 3, closure := [], defaults := .none, kwdefaults := .none, doc := .none, pyModule := (.str (S "law_pd0124_01") 2131), annotations := none, code := (.ref 281), closureTuple := .none, builtins := 0 }), Array.mk []⟩
noncomputable def o283_L (P : Params) : Obj := ⟨(.type "tuple"), none, (.seq (Array.mk []) 0), Array.mk []⟩
noncomputable def o284_L (P : Params) : Obj := ⟨.none, none, (.fields (Array.mk [])), Array.mk []⟩
noncomputable def o285_L (P : Params) : Obj := ⟨(.type "tuple"), none, (.seq (Array.mk [(.str (S "octet") 2143)]) 0), Array.mk []⟩
noncomputable def o286_L (P : Params) : Obj := ⟨(.type "tuple"), none, (.seq (Array.mk []) 0), Array.mk []⟩
noncomputable def o287_L (T : List Stmt) (P : Params) : Obj := ⟨.none, none, (.func { name := (S "_law_other"), qualname := (S "_law_other"), params := arOf (stAt T 23), body := .stmts (bdOf (stAt T 23)), scope := scOf (stAt T 23), globals := 0, closure := [], defaults := .none, kwdefaults := .none, doc := .none, pyModule := .none, annotations := none, code := .none, closureTuple := .none, builtins := 0 }), Array.mk []⟩
noncomputable def o288_L (P : Params) : Obj := ⟨(.type "code"), none, (.fields (Array.mk [(.str (S "_law_other") 2140), (.str (S "_law_other") 2141), (.str (S "/claim/cut.py") 2142), (.int 453 0), (.int 1 0), (.int 0 0), (.int 0 0), (.int 3 0), (.ref 283), (.bool true), (.int 181 0), (.ref 284), .none, (.ref 285), (.ref 286), (.ref 287), (.int 2144 0), (.int 453 0), (.str (S "/claim/cut.py") 2145)])), Array.mk []⟩
noncomputable def o289_L (T : List Stmt) (P : Params) : Obj := ⟨(.type "function"), none, (.func { name := (S "_law_other"), qualname := (S "_law_other"), params := arOf (stAt T 23), body := .stmts (bdOf (stAt T 23)), scope := scOf (stAt T 23), globals := 3, closure := [], defaults := .none, kwdefaults := .none, doc := .none, pyModule := (.str (S "law_pd0124_01") 2131), annotations := none, code := (.ref 288), closureTuple := .none, builtins := 0 }), Array.mk []⟩
noncomputable def o290_L (P : Params) : Obj := ⟨(.type "tuple"), none, (.seq (Array.mk []) 0), Array.mk []⟩
noncomputable def o291_L (P : Params) : Obj := ⟨.none, none, (.fields (Array.mk [])), Array.mk []⟩
noncomputable def o292_L (P : Params) : Obj := ⟨(.type "tuple"), none, (.seq (Array.mk [(.str (S "numbers") 2150), (.str (S "left") 2151), (.str (S "right") 2152), (.str (S "n") 2153), (.str (S "octet") 2154)]) 0), Array.mk []⟩
noncomputable def o293_L (P : Params) : Obj := ⟨(.type "tuple"), none, (.seq (Array.mk []) 0), Array.mk []⟩
noncomputable def o294_L (T : List Stmt) (P : Params) : Obj := ⟨.none, none, (.func { name := (S "_law_rows"), qualname := (S "_law_rows"), params := arOf (stAt T 24), body := .stmts (bdOf (stAt T 24)), scope := scOf (stAt T 24), globals := 0, closure := [], defaults := .none, kwdefaults := .none, doc := .none, pyModule := .none, annotations := none, code := .none, closureTuple := .none, builtins := 0 }), Array.mk []⟩
noncomputable def o295_L (P : Params) : Obj := ⟨(.type "code"), none, (.fields (Array.mk [(.str (S "_law_rows") 2147), (.str (S "_law_rows") 2148), (.str (S "/claim/cut.py") 2149), (.int 455 0), (.int 1 0), (.int 0 0), (.int 0 0), (.int 3 0), (.ref 290), (.bool true), (.int 181 0), (.ref 291), .none, (.ref 292), (.ref 293), (.ref 294), (.int 2155 0), (.int 455 0), (.str (S "/claim/cut.py") 2156)])), Array.mk []⟩
noncomputable def o296_L (T : List Stmt) (P : Params) : Obj := ⟨(.type "function"), none, (.func { name := (S "_law_rows"), qualname := (S "_law_rows"), params := arOf (stAt T 24), body := .stmts (bdOf (stAt T 24)), scope := scOf (stAt T 24), globals := 3, closure := [], defaults := .none, kwdefaults := .none, doc := .none, pyModule := (.str (S "law_pd0124_01") 2131), annotations := none, code := (.ref 295), closureTuple := .none, builtins := 0 }), Array.mk []⟩
noncomputable def o297_L (P : Params) : Obj := ⟨(.type "tuple"), none, (.seq (Array.mk []) 0), Array.mk []⟩
noncomputable def o298_L (P : Params) : Obj := ⟨.none, none, (.fields (Array.mk [])), Array.mk []⟩
noncomputable def o299_L (P : Params) : Obj := ⟨(.type "tuple"), none, (.seq (Array.mk [(.str (S "octet") 2161), (.str (S "figures") 2162), (.str (S "sign") 2163)]) 0), Array.mk []⟩
noncomputable def o300_L (P : Params) : Obj := ⟨(.type "tuple"), none, (.seq (Array.mk []) 0), Array.mk []⟩
noncomputable def o301_L (T : List Stmt) (P : Params) : Obj := ⟨.none, none, (.func { name := (S "_law_piece"), qualname := (S "_law_piece"), params := arOf (stAt T 25), body := .stmts (bdOf (stAt T 25)), scope := scOf (stAt T 25), globals := 0, closure := [], defaults := .none, kwdefaults := .none, doc := .none, pyModule := .none, annotations := none, code := .none, closureTuple := .none, builtins := 0 }), Array.mk []⟩
noncomputable def o302_L (P : Params) : Obj := ⟨(.type "code"), none, (.fields (Array.mk [(.str (S "_law_piece") 2158), (.str (S "_law_piece") 2159), (.str (S "/claim/cut.py") 2160), (.int 466 0), (.int 1 0), (.int 0 0), (.int 0 0), (.int 3 0), (.ref 297), (.bool true), (.int 181 0), (.ref 298), .none, (.ref 299), (.ref 300), (.ref 301), (.int 2164 0), (.int 466 0), (.str (S "/claim/cut.py") 2165)])), Array.mk []⟩
noncomputable def o303_L (T : List Stmt) (P : Params) : Obj := ⟨(.type "function"), none, (.func { name := (S "_law_piece"), qualname := (S "_law_piece"), params := arOf (stAt T 25), body := .stmts (bdOf (stAt T 25)), scope := scOf (stAt T 25), globals := 3, closure := [], defaults := .none, kwdefaults := .none, doc := .none, pyModule := (.str (S "law_pd0124_01") 2131), annotations := none, code := (.ref 302), closureTuple := .none, builtins := 0 }), Array.mk []⟩
noncomputable def o304_L (P : Params) : Obj := ⟨(.type "tuple"), none, (.seq (Array.mk []) 0), Array.mk []⟩
noncomputable def o305_L (P : Params) : Obj := ⟨.none, none, (.fields (Array.mk [])), Array.mk []⟩
noncomputable def o306_L (P : Params) : Obj := ⟨(.type "tuple"), none, (.seq (Array.mk [(.str (S "row") 2170), (.str (S "places") 2171), (.str (S "octet") 2172)]) 0), Array.mk []⟩
noncomputable def o307_L (P : Params) : Obj := ⟨(.type "tuple"), none, (.seq (Array.mk []) 0), Array.mk []⟩
noncomputable def o308_L (T : List Stmt) (P : Params) : Obj := ⟨.none, none, (.func { name := (S "_law_places"), qualname := (S "_law_places"), params := arOf (stAt T 26), body := .stmts (bdOf (stAt T 26)), scope := scOf (stAt T 26), globals := 0, closure := [], defaults := .none, kwdefaults := .none, doc := .none, pyModule := .none, annotations := none, code := .none, closureTuple := .none, builtins := 0 }), Array.mk []⟩
noncomputable def o309_L (P : Params) : Obj := ⟨(.type "code"), none, (.fields (Array.mk [(.str (S "_law_places") 2167), (.str (S "_law_places") 2168), (.str (S "/claim/cut.py") 2169), (.int 474 0), (.int 1 0), (.int 0 0), (.int 0 0), (.int 3 0), (.ref 304), (.bool true), (.int 181 0), (.ref 305), .none, (.ref 306), (.ref 307), (.ref 308), (.int 2173 0), (.int 474 0), (.str (S "/claim/cut.py") 2174)])), Array.mk []⟩
noncomputable def o310_L (T : List Stmt) (P : Params) : Obj := ⟨(.type "function"), none, (.func { name := (S "_law_places"), qualname := (S "_law_places"), params := arOf (stAt T 26), body := .stmts (bdOf (stAt T 26)), scope := scOf (stAt T 26), globals := 3, closure := [], defaults := .none, kwdefaults := .none, doc := .none, pyModule := (.str (S "law_pd0124_01") 2131), annotations := none, code := (.ref 309), closureTuple := .none, builtins := 0 }), Array.mk []⟩
noncomputable def o311_L (P : Params) : Obj := ⟨(.type "tuple"), none, (.seq (Array.mk []) 0), Array.mk []⟩
noncomputable def o312_L (P : Params) : Obj := ⟨.none, none, (.fields (Array.mk [])), Array.mk []⟩
noncomputable def o313_L (T : List Stmt) (P : Params) : Obj := ⟨.none, none, (.func { name := (S "_law_run"), qualname := (S "_law_run"), params := arOf (stAt T 27), body := .stmts (bdOf (stAt T 27)), scope := scOf (stAt T 27), globals := 0, closure := [], defaults := .none, kwdefaults := .none, doc := .none, pyModule := .none, annotations := none, code := .none, closureTuple := .none, builtins := 0 }), Array.mk []⟩
noncomputable def o314_L (P : Params) : Obj := ⟨(.type "code"), none, (.fields (Array.mk [(.str (S "_law_run") 2176), (.str (S "_law_run") 2177), (.str (S "/claim/cut.py") 2178), (.int 479 0), (.int 3 0), (.int 0 0), (.int 0 0), (.int 3 0), (.ref 311), (.bool true), (.int 181 0), (.ref 312), .none, .none, .none, (.ref 313), (.int 2179 0), (.int 479 0), (.str (S "/claim/cut.py") 2180)])), Array.mk []⟩
noncomputable def o315_L (T : List Stmt) (P : Params) : Obj := ⟨(.type "function"), none, (.func { name := (S "_law_run"), qualname := (S "_law_run"), params := arOf (stAt T 27), body := .stmts (bdOf (stAt T 27)), scope := scOf (stAt T 27), globals := 3, closure := [], defaults := .none, kwdefaults := .none, doc := .none, pyModule := (.str (S "law_pd0124_01") 2131), annotations := none, code := (.ref 314), closureTuple := .none, builtins := 0 }), Array.mk []⟩
noncomputable def o316_L (P : Params) : Obj := ⟨(.type "tuple"), none, (.seq (Array.mk []) 0), Array.mk []⟩
noncomputable def o317_L (P : Params) : Obj := ⟨.none, none, (.fields (Array.mk [])), Array.mk []⟩
noncomputable def o318_L (T : List Stmt) (P : Params) : Obj := ⟨.none, none, (.func { name := (S "law"), qualname := (S "law"), params := arOf (stAt T 28), body := .stmts (bdOf (stAt T 28)), scope := scOf (stAt T 28), globals := 0, closure := [], defaults := .none, kwdefaults := .none, doc := .none, pyModule := .none, annotations := none, code := .none, closureTuple := .none, builtins := 0 }), Array.mk []⟩
noncomputable def o319_L (P : Params) : Obj := ⟨(.type "code"), none, (.fields (Array.mk [(.str (S "law") 2182), (.str (S "law") 2183), (.str (S "/claim/cut.py") 2184), (.int 501 0), (.int 1 0), (.int 0 0), (.int 0 0), (.int 3 0), (.ref 316), (.bool true), (.int 181 0), (.ref 317), .none, .none, .none, (.ref 318), (.int 2185 0), (.int 501 0), (.str (S "/claim/cut.py") 2186)])), Array.mk []⟩
noncomputable def o320_L (T : List Stmt) (P : Params) : Obj := ⟨(.type "function"), none, (.func { name := (S "law"), qualname := (S "law"), params := arOf (stAt T 28), body := .stmts (bdOf (stAt T 28)), scope := scOf (stAt T 28), globals := 3, closure := [], defaults := .none, kwdefaults := .none, doc := .none, pyModule := (.str (S "law_pd0124_01") 2131), annotations := none, code := (.ref 319), closureTuple := .none, builtins := 0 }), Array.mk []⟩
noncomputable def TL (P : Params) : BT := (.node (o0_A P) (.node (o1_A P) (.node (o3_L P) (.node (o7_A P) (.node (o15_B P) (.node (o31_B P) (.node (o63_B P) (.node (o127_C P) (.node (o255_F P) .nil .nil) .nil) (.node (o191_D P) (.node (o319_L P) .nil .nil) .nil)) (.node (o95_C P) (.node (o159_D P) (.node (o287_L TOP P) .nil .nil) .nil) (.node (o223_D TOP P) .nil .nil))) (.node (o47_B P) (.node (o79_C P) (.node (o143_D TOP P) (.node (o271_J2 P) .nil .nil) .nil) (.node (o207_D P) .nil .nil)) (.node (o111_C P) (.node (o175_D P) (.node (o303_L TOP P) .nil .nil) .nil) (.node (o239_D TOP P) .nil .nil)))) (.node (o23_B P) (.node (o39_B P) (.node (o71_C P) (.node (o135_C P) (.node (o263_J2 P) .nil .nil) .nil) (.node (o199_D P) .nil .nil)) (.node (o103_C P) (.node (o167_D TOP P) (.node (o295_L P) .nil .nil) .nil) (.node (o231_D P) .nil .nil))) (.node (o55_B TOP P) (.node (o87_C TOP P) (.node (o151_D P) (.node (o279_L P) .nil .nil) .nil) (.node (o215_D P) .nil .nil)) (.node (o119_C TOP P) (.node (o183_D P) (.node (o311_L P) .nil .nil) .nil) (.node (o247_Dx P) .nil .nil))))) (.node (o11_A P) (.node (o19_B TOP P) (.node (o35_B TOP P) (.node (o67_C P) (.node (o131_C P) (.node (o259_G P) .nil .nil) .nil) (.node (o195_D P) .nil .nil)) (.node (o99_C P) (.node (o163_D P) (.node (o291_L P) .nil .nil) .nil) (.node (o227_D P) .nil .nil))) (.node (o51_B P) (.node (o83_C P) (.node (o147_D P) (.node (o275_K P) .nil .nil) .nil) (.node (o211_D P) .nil .nil)) (.node (o115_C P) (.node (o179_D TOP P) (.node (o307_L P) .nil .nil) .nil) (.node (o243_D P) .nil .nil)))) (.node (o27_B P) (.node (o43_B TOP P) (.node (o75_C P) (.node (o139_D P) (.node (o267_J2 P) .nil .nil) .nil) (.node (o203_D TOP P) .nil .nil)) (.node (o107_C TOP P) (.node (o171_D P) (.node (o299_L P) .nil .nil) .nil) (.node (o235_D P) .nil .nil))) (.node (o59_B P) (.node (o91_C P) (.node (o155_D P) (.node (o283_L P) .nil .nil) .nil) (.node (o219_D P) .nil .nil)) (.node (o123_C P) (.node (o187_D P) (.node (o315_L TOP P) .nil .nil) .nil) (.node (o251_Dy P) .nil .nil)))))) (.node (o5_A P) (.node (o9_A P) (.node (o17_B P) (.node (o33_B TOP P) (.node (o65_C P) (.node (o129_C P) (.node (o257_G P) .nil .nil) .nil) (.node (o193_D P) .nil .nil)) (.node (o97_C P) (.node (o161_D P) (.node (o289_L TOP P) .nil .nil) .nil) (.node (o225_D TOP P) .nil .nil))) (.node (o49_B P) (.node (o81_C P) (.node (o145_D TOP P) (.node (o273_K P) .nil .nil) .nil) (.node (o209_D P) .nil .nil)) (.node (o113_C P) (.node (o177_D P) (.node (o305_L P) .nil .nil) .nil) (.node (o241_D TOP P) .nil .nil)))) (.node (o25_B P) (.node (o41_B TOP P) (.node (o73_C P) (.node (o137_C P) (.node (o265_J2 P) .nil .nil) .nil) (.node (o201_D TOP P) .nil .nil)) (.node (o105_C TOP P) (.node (o169_D P) (.node (o297_L P) .nil .nil) .nil) (.node (o233_D P) .nil .nil))) (.node (o57_B TOP P) (.node (o89_C TOP P) (.node (o153_D P) (.node (o281_L P) .nil .nil) .nil) (.node (o217_D P) .nil .nil)) (.node (o121_C TOP P) (.node (o185_D P) (.node (o313_L TOP P) .nil .nil) .nil) (.node (o249_Dy P) .nil .nil))))) (.node (o13_A P) (.node (o21_B TOP P) (.node (o37_B P) (.node (o69_C P) (.node (o133_C P) (.node (o261_J P) .nil .nil) .nil) (.node (o197_D P) .nil .nil)) (.node (o101_C P) (.node (o165_D TOP P) (.node (o293_L P) .nil .nil) .nil) (.node (o229_D P) .nil .nil))) (.node (o53_B P) (.node (o85_C P) (.node (o149_D P) (.node (o277_L P) .nil .nil) .nil) (.node (o213_D P) .nil .nil)) (.node (o117_C P) (.node (o181_D TOP P) (.node (o309_L P) .nil .nil) .nil) (.node (o245_D P) .nil .nil)))) (.node (o29_B P) (.node (o45_B P) (.node (o77_C P) (.node (o141_D P) (.node (o269_J2 P) .nil .nil) .nil) (.node (o205_D P) .nil .nil)) (.node (o109_C P) (.node (o173_D P) (.node (o301_L TOP P) .nil .nil) .nil) (.node (o237_D TOP P) .nil .nil))) (.node (o61_B P) (.node (o93_C P) (.node (o157_D P) (.node (o285_L P) .nil .nil) .nil) (.node (o221_D P) .nil .nil)) (.node (o125_C P) (.node (o189_D P) (.node (o317_L P) .nil .nil) .nil) (.node (o253_F P) .nil .nil))))))) (.node (o2_A P) (.node (o4_A P) (.node (o8_A P) (.node (o16_B P) (.node (o32_B P) (.node (o64_B P) (.node (o128_C P) (.node (o256_J P) .nil .nil) .nil) (.node (o192_D P) (.node (o320_L TOP P) .nil .nil) .nil)) (.node (o96_C P) (.node (o160_D TOP P) (.node (o288_L P) .nil .nil) .nil) (.node (o224_D P) .nil .nil))) (.node (o48_B TOP P) (.node (o80_C TOP P) (.node (o144_D P) (.node (o272_K P) .nil .nil) .nil) (.node (o208_D TOP P) .nil .nil)) (.node (o112_C TOP P) (.node (o176_D P) (.node (o304_L P) .nil .nil) .nil) (.node (o240_D P) .nil .nil)))) (.node (o24_B P) (.node (o40_B P) (.node (o72_C P) (.node (o136_C P) (.node (o264_J2 P) .nil .nil) .nil) (.node (o200_D P) .nil .nil)) (.node (o104_C P) (.node (o168_D P) (.node (o296_L TOP P) .nil .nil) .nil) (.node (o232_D TOP P) .nil .nil))) (.node (o56_B P) (.node (o88_C P) (.node (o152_D P) (.node (o280_L TOP P) .nil .nil) .nil) (.node (o216_D TOP P) .nil .nil)) (.node (o120_C P) (.node (o184_D P) (.node (o312_L P) .nil .nil) .nil) (.node (o248_Dy P) .nil .nil))))) (.node (o12_L P) (.node (o20_B P) (.node (o36_B P) (.node (o68_C P) (.node (o132_C P) (.node (o260_J P) .nil .nil) .nil) (.node (o196_D TOP P) .nil .nil)) (.node (o100_C TOP P) (.node (o164_D P) (.node (o292_L P) .nil .nil) .nil) (.node (o228_D P) .nil .nil))) (.node (o52_B P) (.node (o84_C P) (.node (o148_D TOP P) (.node (o276_L P) .nil .nil) .nil) (.node (o212_D P) .nil .nil)) (.node (o116_C P) (.node (o180_D P) (.node (o308_L TOP P) .nil .nil) .nil) (.node (o244_D P) .nil .nil)))) (.node (o28_B P) (.node (o44_B P) (.node (o76_C P) (.node (o140_D P) (.node (o268_J2 TOP P) .nil .nil) .nil) (.node (o204_D P) .nil .nil)) (.node (o108_C P) (.node (o172_D TOP P) (.node (o300_L P) .nil .nil) .nil) (.node (o236_D P) .nil .nil))) (.node (o60_B P) (.node (o92_C P) (.node (o156_D P) (.node (o284_L P) .nil .nil) .nil) (.node (o220_D P) .nil .nil)) (.node (o124_C P) (.node (o188_D TOP P) (.node (o316_L P) .nil .nil) .nil) (.node (o252_Dy P) .nil .nil)))))) (.node (o6_A P) (.node (o10_A P) (.node (o18_B P) (.node (o34_B P) (.node (o66_C P) (.node (o130_C P) (.node (o258_G P) .nil .nil) .nil) (.node (o194_D TOP P) .nil .nil)) (.node (o98_C TOP P) (.node (o162_D P) (.node (o290_L P) .nil .nil) .nil) (.node (o226_D P) .nil .nil))) (.node (o50_B TOP P) (.node (o82_C TOP P) (.node (o146_D P) (.node (o274_K P) .nil .nil) .nil) (.node (o210_D TOP P) .nil .nil)) (.node (o114_C TOP P) (.node (o178_D P) (.node (o306_L P) .nil .nil) .nil) (.node (o242_D P) .nil .nil)))) (.node (o26_B P) (.node (o42_B P) (.node (o74_C P) (.node (o138_C P) (.node (o266_J2 P) .nil .nil) .nil) (.node (o202_D P) .nil .nil)) (.node (o106_C P) (.node (o170_D P) (.node (o298_L P) .nil .nil) .nil) (.node (o234_D P) .nil .nil))) (.node (o58_B P) (.node (o90_C P) (.node (o154_D P) (.node (o282_L TOP P) .nil .nil) .nil) (.node (o218_D TOP P) .nil .nil)) (.node (o122_C P) (.node (o186_D TOP P) (.node (o314_L P) .nil .nil) .nil) (.node (o250_E P) .nil .nil))))) (.node (o14_A P) (.node (o22_B P) (.node (o38_B P) (.node (o70_C P) (.node (o134_C P) (.node (o262_J P) .nil .nil) .nil) (.node (o198_D P) .nil .nil)) (.node (o102_C P) (.node (o166_D P) (.node (o294_L TOP P) .nil .nil) .nil) (.node (o230_D TOP P) .nil .nil))) (.node (o54_B P) (.node (o86_C P) (.node (o150_D P) (.node (o278_L P) .nil .nil) .nil) (.node (o214_D P) .nil .nil)) (.node (o118_C P) (.node (o182_D P) (.node (o310_L TOP P) .nil .nil) .nil) (.node (o246_D P) .nil .nil)))) (.node (o30_B P) (.node (o46_B P) (.node (o78_C P) (.node (o142_D P) (.node (o270_J2 TOP P) .nil .nil) .nil) (.node (o206_D P) .nil .nil)) (.node (o110_C P) (.node (o174_D TOP P) (.node (o302_L P) .nil .nil) .nil) (.node (o238_D P) .nil .nil))) (.node (o62_B P) (.node (o94_C P) (.node (o158_D TOP P) (.node (o286_L P) .nil .nil) .nil) (.node (o222_D P) .nil .nil)) (.node (o126_C P) (.node (o190_D P) (.node (o318_L TOP P) .nil .nil) .nil) (.node (o254_I P) .nil .nil))))))))
noncomputable def SL (w : World) (os : OsState) : SharedT := ⟨TL w.params, 321, LIFE, Array.mk [], DRAWN, 2188, os⟩
end Mine
end

-- Lk
section
open PySem PySem.W PyProof.Rows
set_option maxRecDepth 100000
set_option maxHeartbeats 0
namespace Mine
noncomputable def QF (P : Program) : Program := { P with main := { P.main with body := [stAt P.main.body 0, stAt P.main.body 2, stAt P.main.body 3, stAt P.main.body 4, stAt P.main.body 5, stAt P.main.body 6, stAt P.main.body 7, stAt P.main.body 8, stAt P.main.body 9, stAt P.main.body 10, stAt P.main.body 11, stAt P.main.body 12, stAt P.main.body 18, stAt P.main.body 22, stAt P.main.body 23, stAt P.main.body 24, stAt P.main.body 25, stAt P.main.body 26, stAt P.main.body 27, stAt P.main.body 28] } }
noncomputable def LOOSE : List Str := [S "_tuplegetter", S "Match", S "SequenceMatcher", S "_QUOPRI_MAP", S "_QUOPRI_HEADER_MAP", S "_QUOPRI_BODY_MAP", S "ascii_letters", S "header_encode", S "_QUOPRI_BODY_ENCODE_MAP"]
noncomputable def H1 (P : Params) : Heap := absHeap (TL P) 321 LIFE
noncomputable abbrev XT (s : Shared) : Bool := recOk [] s
theorem bt : behindTheImports PT = TOP := by kernel_rfl
theorem size0 (w : World) : ((boot_heap w.params).isNs mainGlobals && (Array.mk [] : Array GenState).size == 0, (boot_heap w.params).objs.size, (boot_heap w.params).nsMap mainGlobals (Str.ofString "__annotations__")) = (true, 11, some (.ref 6)) := by kernel_rfl
theorem pre (w : World) (os : OsState) : PySem.W.Fast.tw15667345088766844465 tb2 PT w 11 (some (.ref 6)) 12 ⟨boot_heap w.params, Array.mk [], boot_drawn, boot_toks, os⟩ (topStub PT) = some ((SA w os).abs, ⟨PySem.W.Fast.tw11892475500146522536 tb2 (.body (behindTheImports PT) ENV), .body (behindTheImports PT) ENV, ⟨0, 0, 0, 0⟩, BB⟩) := by kernel_rfl
theorem block (w : World) (os : OsState) : segRun treeTable PT w 11 (some (.ref 6)) 1 1 (SA w os).abs (blockOf TOP ENV (.body TOP ENV) ⟨0, 0, 0, 0⟩ BB) = some (.next, (SA w os).abs, .body TOP ENV, ⟨0, 0, 0, 0⟩) := by kernel_rfl
theorem look1 (w : World) (os : OsState) : (staticsOk (importedModules PT.main.body) (boot_heap w.params) (H1 w.params) && namesBound PT (H1 w.params) && gensDone ⟨H1 w.params, Array.mk [], DRAWN, 2188, os⟩ && laidKept (boot_heap w.params) (H1 w.params)) = true := by kernel_rfl
end Mine
end

-- Kf
section
open PySem PySem.W PyProof.Rows
set_option maxRecDepth 100000
set_option maxHeartbeats 0
namespace Mine
noncomputable def KT (T : List Stmt) (P : Params) : Frag := [(nat_lit 2, o2_A P), (nat_lit 3, o3_L P), (nat_lit 4, o4_A P), (nat_lit 5, o5_A P), (nat_lit 6, o6_A P), (nat_lit 7, o7_A P), (nat_lit 8, o8_A P), (nat_lit 9, o9_A P), (nat_lit 10, o10_A P), (nat_lit 11, o11_A P), (nat_lit 12, o12_L P), (nat_lit 13, o13_A P), (nat_lit 14, o14_A P), (nat_lit 15, o15_B P), (nat_lit 16, o16_B P), (nat_lit 17, o17_B P), (nat_lit 18, o18_B P), (nat_lit 19, o19_B T P), (nat_lit 20, o20_B P), (nat_lit 21, o21_B T P), (nat_lit 22, o22_B P), (nat_lit 23, o23_B P), (nat_lit 24, o24_B P), (nat_lit 25, o25_B P), (nat_lit 26, o26_B P), (nat_lit 27, o27_B P), (nat_lit 28, o28_B P), (nat_lit 29, o29_B P), (nat_lit 30, o30_B P), (nat_lit 31, o31_B P), (nat_lit 32, o32_B P), (nat_lit 33, o33_B T P), (nat_lit 34, o34_B P), (nat_lit 35, o35_B T P), (nat_lit 36, o36_B P), (nat_lit 37, o37_B P), (nat_lit 38, o38_B P), (nat_lit 39, o39_B P), (nat_lit 40, o40_B P), (nat_lit 41, o41_B T P), (nat_lit 42, o42_B P), (nat_lit 43, o43_B T P), (nat_lit 44, o44_B P), (nat_lit 45, o45_B P), (nat_lit 46, o46_B P), (nat_lit 47, o47_B P), (nat_lit 48, o48_B T P), (nat_lit 49, o49_B P), (nat_lit 50, o50_B T P), (nat_lit 51, o51_B P), (nat_lit 52, o52_B P), (nat_lit 53, o53_B P), (nat_lit 54, o54_B P), (nat_lit 55, o55_B T P), (nat_lit 56, o56_B P), (nat_lit 57, o57_B T P), (nat_lit 58, o58_B P), (nat_lit 59, o59_B P), (nat_lit 60, o60_B P), (nat_lit 61, o61_B P), (nat_lit 62, o62_B P), (nat_lit 63, o63_B P), (nat_lit 64, o64_B P), (nat_lit 65, o65_C P), (nat_lit 66, o66_C P), (nat_lit 67, o67_C P), (nat_lit 68, o68_C P), (nat_lit 69, o69_C P), (nat_lit 70, o70_C P), (nat_lit 71, o71_C P), (nat_lit 72, o72_C P), (nat_lit 73, o73_C P), (nat_lit 74, o74_C P), (nat_lit 75, o75_C P), (nat_lit 76, o76_C P), (nat_lit 77, o77_C P), (nat_lit 78, o78_C P), (nat_lit 79, o79_C P), (nat_lit 80, o80_C T P), (nat_lit 81, o81_C P), (nat_lit 82, o82_C T P), (nat_lit 83, o83_C P), (nat_lit 84, o84_C P), (nat_lit 85, o85_C P), (nat_lit 86, o86_C P), (nat_lit 87, o87_C T P), (nat_lit 88, o88_C P), (nat_lit 89, o89_C T P), (nat_lit 90, o90_C P), (nat_lit 91, o91_C P), (nat_lit 92, o92_C P), (nat_lit 93, o93_C P), (nat_lit 94, o94_C P), (nat_lit 95, o95_C P), (nat_lit 96, o96_C P), (nat_lit 97, o97_C P), (nat_lit 98, o98_C T P), (nat_lit 99, o99_C P), (nat_lit 100, o100_C T P), (nat_lit 101, o101_C P), (nat_lit 102, o102_C P), (nat_lit 103, o103_C P), (nat_lit 104, o104_C P), (nat_lit 105, o105_C T P), (nat_lit 106, o106_C P), (nat_lit 107, o107_C T P), (nat_lit 108, o108_C P), (nat_lit 109, o109_C P), (nat_lit 110, o110_C P), (nat_lit 111, o111_C P), (nat_lit 112, o112_C T P), (nat_lit 113, o113_C P), (nat_lit 114, o114_C T P), (nat_lit 115, o115_C P), (nat_lit 116, o116_C P), (nat_lit 117, o117_C P), (nat_lit 118, o118_C P), (nat_lit 119, o119_C T P), (nat_lit 120, o120_C P), (nat_lit 121, o121_C T P), (nat_lit 122, o122_C P), (nat_lit 123, o123_C P), (nat_lit 124, o124_C P), (nat_lit 125, o125_C P), (nat_lit 126, o126_C P), (nat_lit 127, o127_C P), (nat_lit 128, o128_C P), (nat_lit 129, o129_C P), (nat_lit 130, o130_C P), (nat_lit 131, o131_C P), (nat_lit 132, o132_C P), (nat_lit 133, o133_C P), (nat_lit 134, o134_C P), (nat_lit 135, o135_C P), (nat_lit 136, o136_C P), (nat_lit 137, o137_C P), (nat_lit 138, o138_C P), (nat_lit 139, o139_D P), (nat_lit 140, o140_D P), (nat_lit 141, o141_D P), (nat_lit 142, o142_D P), (nat_lit 143, o143_D T P), (nat_lit 144, o144_D P), (nat_lit 145, o145_D T P), (nat_lit 146, o146_D P), (nat_lit 147, o147_D P), (nat_lit 148, o148_D T P), (nat_lit 149, o149_D P), (nat_lit 150, o150_D P), (nat_lit 151, o151_D P), (nat_lit 152, o152_D P), (nat_lit 153, o153_D P), (nat_lit 154, o154_D P), (nat_lit 155, o155_D P), (nat_lit 156, o156_D P), (nat_lit 157, o157_D P), (nat_lit 158, o158_D T P), (nat_lit 159, o159_D P), (nat_lit 160, o160_D T P), (nat_lit 161, o161_D P), (nat_lit 162, o162_D P), (nat_lit 163, o163_D P), (nat_lit 164, o164_D P), (nat_lit 165, o165_D T P), (nat_lit 166, o166_D P), (nat_lit 167, o167_D T P), (nat_lit 168, o168_D P), (nat_lit 169, o169_D P), (nat_lit 170, o170_D P), (nat_lit 171, o171_D P), (nat_lit 172, o172_D T P), (nat_lit 173, o173_D P), (nat_lit 174, o174_D T P), (nat_lit 175, o175_D P), (nat_lit 176, o176_D P), (nat_lit 177, o177_D P), (nat_lit 178, o178_D P), (nat_lit 179, o179_D T P), (nat_lit 180, o180_D P), (nat_lit 181, o181_D T P), (nat_lit 182, o182_D P), (nat_lit 183, o183_D P), (nat_lit 184, o184_D P), (nat_lit 185, o185_D P), (nat_lit 186, o186_D T P), (nat_lit 187, o187_D P), (nat_lit 188, o188_D T P), (nat_lit 189, o189_D P), (nat_lit 190, o190_D P), (nat_lit 191, o191_D P), (nat_lit 192, o192_D P), (nat_lit 193, o193_D P), (nat_lit 194, o194_D T P), (nat_lit 195, o195_D P), (nat_lit 196, o196_D T P), (nat_lit 197, o197_D P), (nat_lit 198, o198_D P), (nat_lit 199, o199_D P), (nat_lit 200, o200_D P), (nat_lit 201, o201_D T P), (nat_lit 202, o202_D P), (nat_lit 203, o203_D T P), (nat_lit 204, o204_D P), (nat_lit 205, o205_D P), (nat_lit 206, o206_D P), (nat_lit 207, o207_D P), (nat_lit 208, o208_D T P), (nat_lit 209, o209_D P), (nat_lit 210, o210_D T P), (nat_lit 211, o211_D P), (nat_lit 212, o212_D P), (nat_lit 213, o213_D P), (nat_lit 214, o214_D P), (nat_lit 215, o215_D P), (nat_lit 216, o216_D T P), (nat_lit 217, o217_D P), (nat_lit 218, o218_D T P), (nat_lit 219, o219_D P), (nat_lit 220, o220_D P), (nat_lit 221, o221_D P), (nat_lit 222, o222_D P), (nat_lit 223, o223_D T P), (nat_lit 224, o224_D P), (nat_lit 225, o225_D T P), (nat_lit 226, o226_D P), (nat_lit 227, o227_D P), (nat_lit 228, o228_D P), (nat_lit 229, o229_D P), (nat_lit 230, o230_D T P), (nat_lit 231, o231_D P), (nat_lit 232, o232_D T P), (nat_lit 233, o233_D P), (nat_lit 234, o234_D P), (nat_lit 235, o235_D P), (nat_lit 236, o236_D P), (nat_lit 237, o237_D T P), (nat_lit 238, o238_D P), (nat_lit 239, o239_D T P), (nat_lit 240, o240_D P), (nat_lit 241, o241_D T P), (nat_lit 242, o242_D P), (nat_lit 243, o243_D P), (nat_lit 244, o244_D P), (nat_lit 245, o245_D P), (nat_lit 246, o246_D P), (nat_lit 247, o247_Dx P), (nat_lit 248, o248_Dy P), (nat_lit 249, o249_Dy P), (nat_lit 250, o250_E P), (nat_lit 251, o251_Dy P), (nat_lit 252, o252_Dy P), (nat_lit 253, o253_F P), (nat_lit 254, o254_I P), (nat_lit 255, o255_F P), (nat_lit 256, o256_J P), (nat_lit 257, o257_G P), (nat_lit 258, o258_G P), (nat_lit 259, o259_G P), (nat_lit 260, o260_J P), (nat_lit 261, o261_J P), (nat_lit 262, o262_J P), (nat_lit 263, o263_J2 P), (nat_lit 264, o264_J2 P), (nat_lit 265, o265_J2 P), (nat_lit 266, o266_J2 P), (nat_lit 267, o267_J2 P), (nat_lit 268, o268_J2 T P), (nat_lit 269, o269_J2 P), (nat_lit 270, o270_J2 T P), (nat_lit 271, o271_J2 P), (nat_lit 272, o272_K P), (nat_lit 273, o273_K P), (nat_lit 274, o274_K P), (nat_lit 275, o275_K P), (nat_lit 276, o276_L P), (nat_lit 277, o277_L P), (nat_lit 278, o278_L P), (nat_lit 279, o279_L P), (nat_lit 280, o280_L T P), (nat_lit 281, o281_L P), (nat_lit 282, o282_L T P), (nat_lit 283, o283_L P), (nat_lit 284, o284_L P), (nat_lit 285, o285_L P), (nat_lit 286, o286_L P), (nat_lit 287, o287_L T P), (nat_lit 288, o288_L P), (nat_lit 289, o289_L T P), (nat_lit 290, o290_L P), (nat_lit 291, o291_L P), (nat_lit 292, o292_L P), (nat_lit 293, o293_L P), (nat_lit 294, o294_L T P), (nat_lit 295, o295_L P), (nat_lit 296, o296_L T P), (nat_lit 297, o297_L P), (nat_lit 298, o298_L P), (nat_lit 299, o299_L P), (nat_lit 300, o300_L P), (nat_lit 301, o301_L T P), (nat_lit 302, o302_L P), (nat_lit 303, o303_L T P), (nat_lit 304, o304_L P), (nat_lit 305, o305_L P), (nat_lit 306, o306_L P), (nat_lit 307, o307_L P), (nat_lit 308, o308_L T P), (nat_lit 309, o309_L P), (nat_lit 310, o310_L T P), (nat_lit 311, o311_L P), (nat_lit 312, o312_L P), (nat_lit 313, o313_L T P), (nat_lit 314, o314_L P), (nat_lit 315, o315_L T P), (nat_lit 316, o316_L P), (nat_lit 317, o317_L P), (nat_lit 318, o318_L T P), (nat_lit 319, o319_L P), (nat_lit 320, o320_L T P)]
noncomputable def KA : List Addr := [2, 3, 4, 5, 6, 7, 8, 9, 10, 11, 12, 13, 14, 15, 16, 17, 18, 19, 20, 21, 22, 23, 24, 25, 26, 27, 28, 29, 30, 31, 32, 33, 34, 35, 36, 37, 38, 39, 40, 41, 42, 43, 44, 45, 46, 47, 48, 49, 50, 51, 52, 53, 54, 55, 56, 57, 58, 59, 60, 61, 62, 63, 64, 65, 66, 67, 68, 69, 70, 71, 72, 73, 74, 75, 76, 77, 78, 79, 80, 81, 82, 83, 84, 85, 86, 87, 88, 89, 90, 91, 92, 93, 94, 95, 96, 97, 98, 99, 100, 101, 102, 103, 104, 105, 106, 107, 108, 109, 110, 111, 112, 113, 114, 115, 116, 117, 118, 119, 120, 121, 122, 123, 124, 125, 126, 127, 128, 129, 130, 131, 132, 133, 134, 135, 136, 137, 138, 139, 140, 141, 142, 143, 144, 145, 146, 147, 148, 149, 150, 151, 152, 153, 154, 155, 156, 157, 158, 159, 160, 161, 162, 163, 164, 165, 166, 167, 168, 169, 170, 171, 172, 173, 174, 175, 176, 177, 178, 179, 180, 181, 182, 183, 184, 185, 186, 187, 188, 189, 190, 191, 192, 193, 194, 195, 196, 197, 198, 199, 200, 201, 202, 203, 204, 205, 206, 207, 208, 209, 210, 211, 212, 213, 214, 215, 216, 217, 218, 219, 220, 221, 222, 223, 224, 225, 226, 227, 228, 229, 230, 231, 232, 233, 234, 235, 236, 237, 238, 239, 240, 241, 242, 243, 244, 245, 246, 247, 248, 249, 250, 251, 252, 253, 254, 255, 256, 257, 258, 259, 260, 261, 262, 263, 264, 265, 266, 267, 268, 269, 270, 271, 272, 273, 274, 275, 276, 277, 278, 279, 280, 281, 282, 283, 284, 285, 286, 287, 288, 289, 290, 291, 292, 293, 294, 295, 296, 297, 298, 299, 300, 301, 302, 303, 304, 305, 306, 307, 308, 309, 310, 311, 312, 313, 314, 315, 316, 317, 318, 319, 320]
noncomputable abbrev NTOP : List Stmt := PySem.Challenge.pw_pd0124_01.main.body
theorem top_eq : TOP = NTOP := top_nt
theorem kmap (P : Params) : KA.map (H1 P).get? = (KT TOP P).map fun p => some p.2 := by kernel_rfl
theorem kadr (T : List Stmt) (P : Params) : KA = (KT T P).map (·.1) := by kernel_rfl
theorem lookup_map {h : Heap} : ∀ {K : Frag} {as : List Addr}, as = K.map (·.1) → as.map h.get? = K.map (fun p => some p.2) → K.In h
  | [], _, _, _ => fun a o e => by cases e
  | (a, o) :: r, as, e, q => by
    subst e
    simp only [List.map_cons, List.cons.injEq] at q
    intro b u hb
    simp only [List.lookup_cons] at hb
    split at hb
    · rename_i hq
      cases hb
      rw [eq_of_beq hq]
      exact q.1
    · exact lookup_map rfl q.2 b u hb
theorem k_in {w : World} {h : Heap} (Y : ∀ b o, (H1 w.params).get? b = some o → h.get? b = some o) : (KT NTOP w.params).In h := by
  rw [← top_eq]
  have k : (KT TOP w.params).In (H1 w.params) := lookup_map (kadr TOP w.params) (kmap w.params)
  exact fun a o e => Y a o (k a o e)
end Mine
end

-- Kk
section
open PySem PySem.W PyProof.Rows
set_option maxRecDepth 100000
set_option maxHeartbeats 0
namespace Mine
noncomputable def KK : Params → Frag := fun P => (nat_lit 2, o2_A P) :: (nat_lit 3, o3_L P) :: (nat_lit 4, o4_A P) :: (nat_lit 5, o5_A P) :: (nat_lit 6, o6_A P) :: (nat_lit 7, o7_A P) :: (nat_lit 8, o8_A P) :: (nat_lit 9, o9_A P) :: (nat_lit 10, o10_A P) :: (nat_lit 11, o11_A P) :: (nat_lit 12, o12_L P) :: (nat_lit 13, o13_A P) :: (nat_lit 14, o14_A P) :: (nat_lit 15, o15_B P) :: (nat_lit 16, o16_B P) :: (nat_lit 17, o17_B P) :: (nat_lit 18, o18_B P) :: (nat_lit 19, o19_B NTOP P) :: (nat_lit 20, o20_B P) :: (nat_lit 21, o21_B NTOP P) :: (nat_lit 22, o22_B P) :: (nat_lit 23, o23_B P) :: (nat_lit 24, o24_B P) :: (nat_lit 25, o25_B P) :: (nat_lit 26, o26_B P) :: (nat_lit 27, o27_B P) :: (nat_lit 28, o28_B P) :: (nat_lit 29, o29_B P) :: (nat_lit 30, o30_B P) :: (nat_lit 31, o31_B P) :: (nat_lit 32, o32_B P) :: (nat_lit 33, o33_B NTOP P) :: (nat_lit 34, o34_B P) :: (nat_lit 35, o35_B NTOP P) :: (nat_lit 36, o36_B P) :: (nat_lit 37, o37_B P) :: (nat_lit 38, o38_B P) :: (nat_lit 39, o39_B P) :: (nat_lit 40, o40_B P) :: (nat_lit 41, o41_B NTOP P) :: (nat_lit 42, o42_B P) :: (nat_lit 43, o43_B NTOP P) :: (nat_lit 44, o44_B P) :: (nat_lit 45, o45_B P) :: (nat_lit 46, o46_B P) :: (nat_lit 47, o47_B P) :: (nat_lit 48, o48_B NTOP P) :: (nat_lit 49, o49_B P) :: (nat_lit 50, o50_B NTOP P) :: (nat_lit 51, o51_B P) :: (nat_lit 52, o52_B P) :: (nat_lit 53, o53_B P) :: (nat_lit 54, o54_B P) :: (nat_lit 55, o55_B NTOP P) :: (nat_lit 56, o56_B P) :: (nat_lit 57, o57_B NTOP P) :: (nat_lit 58, o58_B P) :: (nat_lit 59, o59_B P) :: (nat_lit 60, o60_B P) :: (nat_lit 61, o61_B P) :: (nat_lit 62, o62_B P) :: (nat_lit 63, o63_B P) :: (nat_lit 64, o64_B P) :: (nat_lit 65, o65_C P) :: (nat_lit 66, o66_C P) :: (nat_lit 67, o67_C P) :: (nat_lit 68, o68_C P) :: (nat_lit 69, o69_C P) :: (nat_lit 70, o70_C P) :: (nat_lit 71, o71_C P) :: (nat_lit 72, o72_C P) :: (nat_lit 73, o73_C P) :: (nat_lit 74, o74_C P) :: (nat_lit 75, o75_C P) :: (nat_lit 76, o76_C P) :: (nat_lit 77, o77_C P) :: (nat_lit 78, o78_C P) :: (nat_lit 79, o79_C P) :: (nat_lit 80, o80_C NTOP P) :: (nat_lit 81, o81_C P) :: (nat_lit 82, o82_C NTOP P) :: (nat_lit 83, o83_C P) :: (nat_lit 84, o84_C P) :: (nat_lit 85, o85_C P) :: (nat_lit 86, o86_C P) :: (nat_lit 87, o87_C NTOP P) :: (nat_lit 88, o88_C P) :: (nat_lit 89, o89_C NTOP P) :: (nat_lit 90, o90_C P) :: (nat_lit 91, o91_C P) :: (nat_lit 92, o92_C P) :: (nat_lit 93, o93_C P) :: (nat_lit 94, o94_C P) :: (nat_lit 95, o95_C P) :: (nat_lit 96, o96_C P) :: (nat_lit 97, o97_C P) :: (nat_lit 98, o98_C NTOP P) :: (nat_lit 99, o99_C P) :: (nat_lit 100, o100_C NTOP P) :: (nat_lit 101, o101_C P) :: (nat_lit 102, o102_C P) :: (nat_lit 103, o103_C P) :: (nat_lit 104, o104_C P) :: (nat_lit 105, o105_C NTOP P) :: (nat_lit 106, o106_C P) :: (nat_lit 107, o107_C NTOP P) :: (nat_lit 108, o108_C P) :: (nat_lit 109, o109_C P) :: (nat_lit 110, o110_C P) :: (nat_lit 111, o111_C P) :: (nat_lit 112, o112_C NTOP P) :: (nat_lit 113, o113_C P) :: (nat_lit 114, o114_C NTOP P) :: (nat_lit 115, o115_C P) :: (nat_lit 116, o116_C P) :: (nat_lit 117, o117_C P) :: (nat_lit 118, o118_C P) :: (nat_lit 119, o119_C NTOP P) :: (nat_lit 120, o120_C P) :: (nat_lit 121, o121_C NTOP P) :: (nat_lit 122, o122_C P) :: (nat_lit 123, o123_C P) :: (nat_lit 124, o124_C P) :: (nat_lit 125, o125_C P) :: (nat_lit 126, o126_C P) :: (nat_lit 127, o127_C P) :: (nat_lit 128, o128_C P) :: (nat_lit 129, o129_C P) :: (nat_lit 130, o130_C P) :: (nat_lit 131, o131_C P) :: (nat_lit 132, o132_C P) :: (nat_lit 133, o133_C P) :: (nat_lit 134, o134_C P) :: (nat_lit 135, o135_C P) :: (nat_lit 136, o136_C P) :: (nat_lit 137, o137_C P) :: (nat_lit 138, o138_C P) :: (nat_lit 139, o139_D P) :: (nat_lit 140, o140_D P) :: (nat_lit 141, o141_D P) :: (nat_lit 142, o142_D P) :: (nat_lit 143, o143_D NTOP P) :: (nat_lit 144, o144_D P) :: (nat_lit 145, o145_D NTOP P) :: (nat_lit 146, o146_D P) :: (nat_lit 147, o147_D P) :: (nat_lit 148, o148_D NTOP P) :: (nat_lit 149, o149_D P) :: (nat_lit 150, o150_D P) :: (nat_lit 151, o151_D P) :: (nat_lit 152, o152_D P) :: (nat_lit 153, o153_D P) :: (nat_lit 154, o154_D P) :: (nat_lit 155, o155_D P) :: (nat_lit 156, o156_D P) :: (nat_lit 157, o157_D P) :: (nat_lit 158, o158_D NTOP P) :: (nat_lit 159, o159_D P) :: (nat_lit 160, o160_D NTOP P) :: (nat_lit 161, o161_D P) :: (nat_lit 162, o162_D P) :: (nat_lit 163, o163_D P) :: (nat_lit 164, o164_D P) :: (nat_lit 165, o165_D NTOP P) :: (nat_lit 166, o166_D P) :: (nat_lit 167, o167_D NTOP P) :: (nat_lit 168, o168_D P) :: (nat_lit 169, o169_D P) :: (nat_lit 170, o170_D P) :: (nat_lit 171, o171_D P) :: (nat_lit 172, o172_D NTOP P) :: (nat_lit 173, o173_D P) :: (nat_lit 174, o174_D NTOP P) :: (nat_lit 175, o175_D P) :: (nat_lit 176, o176_D P) :: (nat_lit 177, o177_D P) :: (nat_lit 178, o178_D P) :: (nat_lit 179, o179_D NTOP P) :: (nat_lit 180, o180_D P) :: (nat_lit 181, o181_D NTOP P) :: (nat_lit 182, o182_D P) :: (nat_lit 183, o183_D P) :: (nat_lit 184, o184_D P) :: (nat_lit 185, o185_D P) :: (nat_lit 186, o186_D NTOP P) :: (nat_lit 187, o187_D P) :: (nat_lit 188, o188_D NTOP P) :: (nat_lit 189, o189_D P) :: (nat_lit 190, o190_D P) :: (nat_lit 191, o191_D P) :: (nat_lit 192, o192_D P) :: (nat_lit 193, o193_D P) :: (nat_lit 194, o194_D NTOP P) :: (nat_lit 195, o195_D P) :: (nat_lit 196, o196_D NTOP P) :: (nat_lit 197, o197_D P) :: (nat_lit 198, o198_D P) :: (nat_lit 199, o199_D P) :: (nat_lit 200, o200_D P) :: (nat_lit 201, o201_D NTOP P) :: (nat_lit 202, o202_D P) :: (nat_lit 203, o203_D NTOP P) :: (nat_lit 204, o204_D P) :: (nat_lit 205, o205_D P) :: (nat_lit 206, o206_D P) :: (nat_lit 207, o207_D P) :: (nat_lit 208, o208_D NTOP P) :: (nat_lit 209, o209_D P) :: (nat_lit 210, o210_D NTOP P) :: (nat_lit 211, o211_D P) :: (nat_lit 212, o212_D P) :: (nat_lit 213, o213_D P) :: (nat_lit 214, o214_D P) :: (nat_lit 215, o215_D P) :: (nat_lit 216, o216_D NTOP P) :: (nat_lit 217, o217_D P) :: (nat_lit 218, o218_D NTOP P) :: (nat_lit 219, o219_D P) :: (nat_lit 220, o220_D P) :: (nat_lit 221, o221_D P) :: (nat_lit 222, o222_D P) :: (nat_lit 223, o223_D NTOP P) :: (nat_lit 224, o224_D P) :: (nat_lit 225, o225_D NTOP P) :: (nat_lit 226, o226_D P) :: (nat_lit 227, o227_D P) :: (nat_lit 228, o228_D P) :: (nat_lit 229, o229_D P) :: (nat_lit 230, o230_D NTOP P) :: (nat_lit 231, o231_D P) :: (nat_lit 232, o232_D NTOP P) :: (nat_lit 233, o233_D P) :: (nat_lit 234, o234_D P) :: (nat_lit 235, o235_D P) :: (nat_lit 236, o236_D P) :: (nat_lit 237, o237_D NTOP P) :: (nat_lit 238, o238_D P) :: (nat_lit 239, o239_D NTOP P) :: (nat_lit 240, o240_D P) :: (nat_lit 241, o241_D NTOP P) :: (nat_lit 242, o242_D P) :: (nat_lit 243, o243_D P) :: (nat_lit 244, o244_D P) :: (nat_lit 245, o245_D P) :: (nat_lit 246, o246_D P) :: (nat_lit 247, o247_Dx P) :: (nat_lit 248, o248_Dy P) :: (nat_lit 249, o249_Dy P) :: (nat_lit 250, o250_E P) :: (nat_lit 251, o251_Dy P) :: (nat_lit 252, o252_Dy P) :: (nat_lit 253, o253_F P) :: (nat_lit 254, o254_I P) :: (nat_lit 255, o255_F P) :: (nat_lit 256, o256_J P) :: (nat_lit 257, o257_G P) :: (nat_lit 258, o258_G P) :: (nat_lit 259, o259_G P) :: (nat_lit 260, o260_J P) :: (nat_lit 261, o261_J P) :: (nat_lit 262, o262_J P) :: (nat_lit 263, o263_J2 P) :: (nat_lit 264, o264_J2 P) :: (nat_lit 265, o265_J2 P) :: (nat_lit 266, o266_J2 P) :: (nat_lit 267, o267_J2 P) :: (nat_lit 268, o268_J2 NTOP P) :: (nat_lit 269, o269_J2 P) :: (nat_lit 270, o270_J2 NTOP P) :: (nat_lit 271, o271_J2 P) :: (nat_lit 272, o272_K P) :: (nat_lit 273, o273_K P) :: (nat_lit 274, o274_K P) :: (nat_lit 275, o275_K P) :: (nat_lit 276, o276_L P) :: (nat_lit 277, o277_L P) :: (nat_lit 278, o278_L P) :: (nat_lit 279, o279_L P) :: (nat_lit 280, o280_L NTOP P) :: (nat_lit 281, o281_L P) :: (nat_lit 282, o282_L NTOP P) :: (nat_lit 283, o283_L P) :: (nat_lit 284, o284_L P) :: (nat_lit 285, o285_L P) :: (nat_lit 286, o286_L P) :: (nat_lit 287, o287_L NTOP P) :: (nat_lit 288, o288_L P) :: (nat_lit 289, o289_L NTOP P) :: (nat_lit 290, o290_L P) :: (nat_lit 291, o291_L P) :: (nat_lit 292, o292_L P) :: (nat_lit 293, o293_L P) :: (nat_lit 294, o294_L NTOP P) :: (nat_lit 295, o295_L P) :: (nat_lit 296, o296_L NTOP P) :: (nat_lit 297, o297_L P) :: (nat_lit 298, o298_L P) :: (nat_lit 299, o299_L P) :: (nat_lit 300, o300_L P) :: (nat_lit 301, o301_L NTOP P) :: (nat_lit 302, o302_L P) :: (nat_lit 303, o303_L NTOP P) :: (nat_lit 304, o304_L P) :: (nat_lit 305, o305_L P) :: (nat_lit 306, o306_L P) :: (nat_lit 307, o307_L P) :: (nat_lit 308, o308_L NTOP P) :: (nat_lit 309, o309_L P) :: (nat_lit 310, o310_L NTOP P) :: (nat_lit 311, o311_L P) :: (nat_lit 312, o312_L P) :: (nat_lit 313, o313_L NTOP P) :: (nat_lit 314, o314_L P) :: (nat_lit 315, o315_L NTOP P) :: (nat_lit 316, o316_L P) :: (nat_lit 317, o317_L P) :: (nat_lit 318, o318_L NTOP P) :: (nat_lit 319, o319_L P) :: (nat_lit 320, o320_L NTOP P) :: []
theorem kk_in {w : World} {h : Heap} (Y : ∀ b o, (H1 w.params).get? b = some o → h.get? b = some o) : (KK w.params).In h := k_in Y
end Mine
end

-- M0
section
open PySem PySem.W PyProof.Rows
set_option maxRecDepth 100000
set_option maxHeartbeats 0
namespace Mine
noncomputable abbrev PR : Program := PySem.Challenge.rw_pd0124_01.prog
noncomputable abbrev Led := List (Addr × Obj)
noncomputable abbrev MeanT := ExcName → Option Value
noncomputable abbrev NoE : Value → Shared → Prop := fun _ _ => False

theorem fr_stays {h₀ h h' : Heap} {L : Addr} {m : Str → Option Value} (F : Fr h₀ L h m) (k : h.StaysIn h') : Fr h₀ L h' m :=
  ⟨F.ns.keeps k, fun b o e => k b o (F.keep b o e), F.above⟩
theorem news_stays {h₀ h h' : Heap} {L : Addr} {news : Led} (N : News h₀ L h news) (k : h.StaysIn h') : News h₀ L h' news :=
  fun p hp => ⟨k _ _ (N p hp).1, (N p hp).2⟩

section
variable {prog : Program} {w : World} {A₀ A : Around} {s : Shared} {base h₀ : Heap} {outer : List Env} {L : Addr} {m : Str → Option Value} {env : Env} {chg : Led} {K : Frag} {p : Program} {loose : List Str} {mean : MeanT} {mg mb : Str → Option Value}
  {R : Result → Shared → Prop} {name qual : Str} {params : Arguments} {body : List Stmt} {scope : Scope} {dV kV doc pm cdv ct oc : Value} {an od : Option Addr} {osl : Array (Option Value)} {f : Addr} {args : Args} {binds : List (Str × Value)}

/-- a def is entered: all the heap but the objects of chg is the new base -/
theorem code_mut (B : Below A₀ base outer h₀) (F : Fr h₀ L s.heap m) (X₀ : K.In h₀) (N : News h₀ L s.heap chg) (T : Top p loose mean mg mb h₀) (hA : A.frames = some (env :: outer)) (hf : env.frame = some L) (hke : env.scope.kind = .function)
    (ho : K.lookup f = some ⟨oc, od, .func (fnOf name qual params body scope dV kV doc pm an cdv ct), osl⟩) (hcd : codeIn K cdv qual = true) (hroom : A.depth < recursionLimit)
    (hbind : BindsTo s (fnOf name qual params body scope dV kV doc pm an cdv ct) args binds) (hloc : ∀ y ∈ binds, scope.names.lookup y.1 = some .local)
    (h : ∀ L' h₁, Fr (hideAll s.heap (chg.map (·.1))) L' h₁ (fun y => binds.reverse.lookup y) → News (hideAll s.heap (chg.map (·.1))) L' h₁ chg → Below A base (env :: outer) (hideAll s.heap (chg.map (·.1))) →
      K.In (hideAll s.heap (chg.map (·.1))) → Top p loose mean mg mb (hideAll s.heap (chg.map (·.1))) →
      wpAny (model prog w) (A.deeper (envOf qual scope L' f cdv)) (execs body (envOf qual scope L' f cdv)) (fun fl s' => R (.ok (.ret (match fl with | .ret v => v | _ => .none))) s') NoE
        { s with heap := h₁, toks := s.toks + binds.length })
    (hco : scope.isCoroutine = false) (hgen : scope.isGenerator = false) (hk : scope.kind = .function)
    (hcell : ∀ x ∈ scope.names, x.2 ≠ .cell) : codeAny (model prog w) A (.call (.ref f) args) R s := by
  obtain ⟨FG, BG, st, lv⟩ := groundX (R := R) B F N hA hf hke
  refine PySem.codeAny_call_def (fd := fnOf name qual params body scope dV kV doc pm an cdv ct) (body := body) (binds := binds) hroom ((X₀.keeps F.keep) _ _ ho) rfl (T.nolimit.keeps F.keep) (codeRec_of (X₀.keeps F.keep) hcd) rfl hbind hcell hloc (fun h₁ hns hk₁ => ?_) hco hgen hk
  exact wpAny_mono (h s.heap.objs.size h₁ ⟨hns, fun b o e => hk₁ b o (of_hideAll _ e), Nat.le_of_eq (hideAll_size _ _)⟩
    (fun p hp => ⟨hk₁ _ _ (N p hp).1, Nat.ne_of_lt (Heap.lt_size (N p hp).1), hideAll_none _ (List.mem_map_of_mem hp)⟩) BG (X₀.keeps st) (T.keeps st)) (fun _ _ y => y) fun _ _ y => y.elim

/-- the same, with nothing that the def may change -/
theorem code_pure (B : Below A₀ base outer h₀) (F : Fr h₀ L s.heap m) (X₀ : K.In h₀) (T : Top p loose mean mg mb h₀) (hA : A.frames = some (env :: outer)) (hf : env.frame = some L) (hke : env.scope.kind = .function)
    (ho : K.lookup f = some ⟨oc, od, .func (fnOf name qual params body scope dV kV doc pm an cdv ct), osl⟩) (hcd : codeIn K cdv qual = true) (hroom : A.depth < recursionLimit)
    (hbind : BindsTo s (fnOf name qual params body scope dV kV doc pm an cdv ct) args binds) (hloc : ∀ y ∈ binds, scope.names.lookup y.1 = some .local)
    (h : ∀ L' h₁, Fr s.heap L' h₁ (fun y => binds.reverse.lookup y) → News s.heap L' h₁ [] → Below A base (env :: outer) s.heap → K.In s.heap → Top p loose mean mg mb s.heap →
      wpAny (model prog w) (A.deeper (envOf qual scope L' f cdv)) (execs body (envOf qual scope L' f cdv)) (fun fl s' => R (.ok (.ret (match fl with | .ret v => v | _ => .none))) s') NoE
        { s with heap := h₁, toks := s.toks + binds.length })
    (hco : scope.isCoroutine = false) (hgen : scope.isGenerator = false) (hk : scope.kind = .function)
    (hcell : ∀ x ∈ scope.names, x.2 ≠ .cell) : codeAny (model prog w) A (.call (.ref f) args) R s :=
  code_mut (chg := []) B F X₀ News.nil T hA hf hke ho hcd hroom hbind hloc h hco hgen hk hcell
end

/-- what a def promises: called with vs where pre holds of the heap, it gives back an r of which out holds, and the heap stays -/
noncomputable abbrev PC (w : World) (p : Program) (loose : List Str) (mean : MeanT) (mg mb : Str → Option Value) (f : Addr) (vs : List Value) (pre : Heap → Prop) (out : Heap → Heap → Value → Prop) (D U : Nat) : Prop :=
  ∀ (dp un : Nat) (gd : Option (List Code)) (cn : Str) (cs : Scope) (a : Addr) (ccd : Value) (cl : List (Str × Addr)) (outer : List Env) (A₀ : Around) (base h₀ : Heap) (L : Addr) (m : Str → Option Value) (s : Shared) (Q E : Value → Shared → Prop),
    Below A₀ base outer h₀ → Fr h₀ L s.heap m → (KK w.params).In h₀ → Top p loose mean mg mb h₀ → cs.kind = .function → dp + D < recursionLimit → un + U < cLine → pre s.heap →
    (∀ r h' tk', s.heap.StaysIn h' → out s.heap h' r → Q r { s with heap := h', toks := tk' }) →
    wpAny (model PR w) (ktrTop dp un gd cn cs L a ccd cl outer) (call (.ref f) vs) Q E s

/-- the walk stops here -/
noncomputable def Stop (P : Prop) : Prop := P
theorem stop_ {P : Prop} (h : Stop P) : P := h

/-- a contract at a call -/
theorem pc_use {w : World} {p : Program} {loose : List Str} {mean : MeanT} {mg mb : Str → Option Value} {f : Addr} {vs : List Value} {pre : Heap → Prop} {out : Heap → Heap → Value → Prop} {D U : Nat} (C : PC w p loose mean mg mb f vs pre out D U)
    {dp un : Nat} {gd : Option (List Code)} {cn : Str} {cs : Scope} {a : Addr} {ccd : Value} {cl : List (Str × Addr)} {outer : List Env} {A₀ : Around} {base h₀ : Heap} {L : Addr} {m : Str → Option Value} {s : Shared} {news : Led} {Q E : Value → Shared → Prop}
    (B : Below A₀ base outer h₀) (F : Fr h₀ L s.heap m) (X : (KK w.params).In h₀) (N : News h₀ L s.heap news) (T : Top p loose mean mg mb h₀) (hk : cs.kind = .function) (hd : dp + D < recursionLimit) (hu : un + U < cLine) (hp : pre s.heap)
    (h : ∀ r h' tk', s.heap.StaysIn h' → Fr h₀ L h' m → News h₀ L h' news → out s.heap h' r → Q r { s with heap := h', toks := tk' }) :
    wpAny (model PR w) (ktrTop dp un gd cn cs L a ccd cl outer) (call (.ref f) vs) Q E s :=
  C _ _ _ _ _ _ _ _ _ _ _ _ _ _ _ _ _ B F X T hk hd hu hp fun r h' tk' st o => h r h' tk' st (fr_stays F st) (news_stays N st) o
end Mine
end

-- M1
section
open PySem PySem.W PyProof.Rows PySem.Calls
set_option maxRecDepth 100000
set_option maxHeartbeats 1000000
namespace Mine
/-- a turn's end: nx is the ledger that goes on, own the loop's own objects -/
noncomputable def TurnEnd (h₀ : Heap) (L : Addr) (J : (Str → Option Value) → Led → Prop) (own : Led) (s₁ s₂ : Shared) : Prop :=
  ∃ h' tk m' news' nx, s₂ = { s₁ with heap := h', toks := tk } ∧ Fr h₀ L h' m' ∧ News h₀ L h' news' ∧ (∀ p ∈ nx, p ∈ news') ∧ (∀ p ∈ own, p ∈ news') ∧ OwnOff own (nx.map (·.1)) ∧ J m' nx
theorem TurnEnd.intro {h₀ : Heap} {L : Addr} {J : (Str → Option Value) → Led → Prop} {own news' : Led} {s₁ : Shared} {h' : Heap} {tk : Nat} {m' : Str → Option Value} (nx : Led) (F : Fr h₀ L h' m') (N : News h₀ L h' news')
    (hn : ∀ p ∈ nx, p ∈ news') (ho : ∀ p ∈ own, p ∈ news') (hoff : OwnOff own (nx.map (·.1))) (hj : J m' nx) : TurnEnd h₀ L J own s₁ { s₁ with heap := h', toks := tk } := ⟨h', tk, m', news', nx, rfl, F, N, hn, ho, hoff, hj⟩
noncomputable def TurnPost (h₀ : Heap) (L : Addr) (J : (Str → Option Value) → Led → Prop) (own : Led) (s₁ : Shared) (Q : Flow → Shared → Prop) (f : Flow) (s₂ : Shared) : Prop :=
  match f with
  | .ret v => Q (.ret v) s₂
  | .brk => Q .next s₂
  | _ => TurnEnd h₀ L J own s₁ s₂
section
variable {prog : Program} {w : World} {A : Around} {E : Value → Shared → Prop} {s : Shared} {env : Env} {h₀ : Heap} {x : Str} {body : List Stmt} {Q : Flow → Shared → Prop}
theorem loopAt (K : Obj → Prop) {I : Addr} {fp : List Addr} {n : Nat} {P : Nat → Value → Prop} {St : Nat → Heap → Prop} {m₀ : Str → Option Value} {news : Led} (J : Nat → (Str → Option Value) → Led → Prop)
    (W : Walks prog w A I fp [I] n P St) (hLf : env.locals ∉ fp) (hI : h₀.get? I = none) (hstI : ∀ i h, St i h → ∃ o, h.get? I = some o ∧ K o) (hnI : ∀ p ∈ news, p.1 ≠ I) (hfp : ∀ b ∈ fp, b ≠ I → ∃ o, h₀.get? b = some o) (hst : St 0 s.heap) (F : Fr h₀ env.locals s.heap m₀) (N : News h₀ env.locals s.heap news) (hj : J 0 m₀ news)
    (turn : ∀ i v m₁ news₁ h tk own, i < n → P i v → (∀ p ∈ own, K p.2) → OwnOff own (news₁.map (·.1)) → J i m₁ news₁ → Fr h₀ env.locals h (fun y => if y = x then some v else m₁ y) → News h₀ env.locals h (news₁ ++ own) →
      wpAny (model prog w) A (execs body env) (TurnPost h₀ env.locals (J (i + 1)) own { s with heap := h, toks := tk } Q) E { s with heap := h, toks := tk })
    (done : ∀ m₁ news₁ h tk, J n m₁ news₁ → Fr h₀ env.locals h m₁ → News h₀ env.locals h news₁ → Q .next { s with heap := h, toks := tk }) :
    LoopAtV prog w A h₀ env x body Q E (.ref I) s := by
  refine ⟨I, fp, [I], n, P, St, m₀, news, fun i m nx => J i m nx, rfl, W, hLf, fun b hb => ?_, fun p hp hm => hnI p hp (List.mem_singleton.mp hm), hst, F, N, hj, ?_, ?_⟩
  · rw [List.mem_singleton.mp hb]; exact hI
  · rintro i v m₁ news₁ s₁ own ⟨hh', tk', rfl⟩ hin hP hJ hoff hown _ hall hst' F₁ N₁
    have hsep : OwnOff own (news₁.map (·.1)) := by
      intro p hp b hb e
      obtain ⟨q, hq, rfl⟩ := List.mem_map.mp hb
      by_cases h1 : p.1 = I
      · exact hoff q hq (by rw [← e, h1]; exact List.mem_singleton.mpr rfl)
      · obtain ⟨o, ho⟩ := hfp _ (hown p hp) h1
        have := (N₁ p (List.mem_append_left _ hp)).2.2
        rw [ho] at this; cases this
    have N₂ : News h₀ env.locals hh' (news₁ ++ own) := fun p hp => N₁ p ((List.mem_append.mp hp).elim (fun h => List.mem_append.mpr (.inr h)) fun h => List.mem_append.mpr (.inl h))
    obtain ⟨oI, hoI, hKI⟩ := hstI _ _ hst'
    have hIo := hall I (W.sub _ (List.mem_singleton.mpr rfl)) hI oI hoI
    have hKo : ∀ p ∈ own, K p.2 := by
      intro p hp
      have e := hall p.1 (hown p hp) (N₁ p (List.mem_append_left _ hp)).2.2 p.2 (N₁ p (List.mem_append_left _ hp)).1
      by_cases h1 : p.1 = I
      · have e2 := (N₁ p (List.mem_append_left _ hp)).1
        rw [h1, hoI] at e2
        cases e2
        exact hKI
      · obtain ⟨o, ho⟩ := hfp _ (hown p hp) h1
        have := (N₁ p (List.mem_append_left _ hp)).2.2
        rw [ho] at this; cases this
    refine wpAny_mono (turn i v m₁ news₁ hh' tk' own hin hP hKo hsep hJ F₁ N₂) (fun f s₂ p => ?_) fun _ _ e => e
    have fin : TurnEnd h₀ env.locals (J (i + 1)) own { s with heap := hh', toks := tk' } s₂ → LoopStepU h₀ env.locals [I] own (J (i + 1)) { s with heap := hh', toks := tk' } .next s₂ := by
      rintro ⟨h', tk, m', news', nx, e, F', N', hn, ho, ha, hm⟩
      refine ⟨rfl, h', tk, m', nx, e, F', fun p hp => N' p ((List.mem_append.mp hp).elim (ho p) (hn p)), fun p hp hq => ?_, hm⟩
      exact ha _ hIo p.1 (List.mem_map_of_mem hp) (List.mem_singleton.mp hq).symm
    cases f with
    | ret v => exact .ret p
    | brk => exact .brk p
    | next => exact .next (fin p)
    | cont => exact .cont (fin p)
  · rintro h' tk m' news' F' N' _ hJ
    exact done m' news' h' tk hJ F' N'

/-- a loop over a list of the base -/
theorem iterL {l : Addr} {items : Array Value} {m₀ : Str → Option Value} {news : Led} (J : Nat → (Str → Option Value) → Led → Prop)
    (hh : A.handled = none) (hl : h₀.IsList l items) (F : Fr h₀ env.locals s.heap m₀) (N : News h₀ env.locals s.heap news) (hj : J 0 m₀ news)
    (turn : ∀ i v m₁ news₁ h tk own, items[i]? = some v → OwnOff own (news₁.map (·.1)) → J i m₁ news₁ → Fr h₀ env.locals h (fun y => if y = x then some v else m₁ y) → News h₀ env.locals h (news₁ ++ own) →
      wpAny (model prog w) A (execs body env) (TurnPost h₀ env.locals (J (i + 1)) own { s with heap := h, toks := tk } Q) E { s with heap := h, toks := tk })
    (done : ∀ m₁ news₁ h tk, J items.size m₁ news₁ → Fr h₀ env.locals h m₁ → News h₀ env.locals h news₁ → Q .next { s with heap := h, toks := tk }) :
    wpAny (model prog w) A (pyIter (.ref l)) (fun it s₂ => LoopAtV prog w A h₀ env x body Q E it s₂) E s := by
  have hls : s.heap.IsList l items := hl.at fun o e => F.keep l o e
  obtain ⟨ol, hol, _⟩ := id hl
  have hlt : l < h₀.objs.size := Heap.lt_size hol
  have hne : l ≠ s.heap.objs.size := Nat.ne_of_lt (Nat.lt_trans (Nat.lt_of_lt_of_le hlt F.above) F.ns.lt)
  refine wpAny_pyIter_list hls ?_
  refine loopAt (fun _ => True) (s := { s with heap := s.heap.push _ }) J (Walks.list (prog := prog) (w := w) hh s.heap.objs.size l hne items) ?_ (next_is_new F) (fun i h st => by obtain ⟨o, e, _⟩ := st.1; exact ⟨o, e, trivial⟩) (fun p hp => Nat.ne_of_lt (Heap.lt_size (N p hp).1)) (fun b hb hbI => ?_)
    ⟨⟨_, Heap.get?_push_size _ rfl, rfl, rfl⟩, hls.at fun o e => Heap.get?_push_of_some _ e⟩ (F.push _) (fun p hp => ⟨Heap.get?_push_of_some _ (N p hp).1, (N p hp).2⟩) hj (fun i v m₁ news₁ h tk own _ hv _ => turn i v m₁ news₁ h tk own hv) done
  · intro hm
    rcases List.mem_cons.mp hm with e | hm
    · exact absurd F.ns.lt (e ▸ Nat.lt_irrefl _)
    · exact absurd (Nat.lt_of_lt_of_le hlt F.above) ((List.mem_singleton.mp hm) ▸ Nat.lt_irrefl _)
  · rcases List.mem_cons.mp hb with e | hb
    · exact absurd e hbI
    · rw [List.mem_singleton.mp hb]; exact ⟨ol, hol⟩

/-- a loop over a range of the ledger -/
theorem iterR {r : Addr} {a b : Int} {t u v : Tok} {n : Nat} {m₀ : Str → Option Value} {news : Led} (J : Nat → (Str → Option Value) → Led → Prop)
    (hh : A.handled = none) (hr : IsRange s.heap r a b 1 t u v) (hsm : Builtin.Range.small a b 1 = true) (hn : Builtin.Range.rangeSize a b 1 = ((n : Nat) : Int)) (F : Fr h₀ env.locals s.heap m₀) (N : News h₀ env.locals s.heap news) (hj : J 0 m₀ news)
    (turn : ∀ i t m₁ news₁ h tk own, i < n → (∀ p ∈ own, p.2.cls = .type "range_iterator") → OwnOff own (news₁.map (·.1)) → J i m₁ news₁ → Fr h₀ env.locals h (fun y => if y = x then some (.int (a + (i : Int)) t) else m₁ y) → News h₀ env.locals h (news₁ ++ own) →
      wpAny (model prog w) A (execs body env) (TurnPost h₀ env.locals (J (i + 1)) own { s with heap := h, toks := tk } Q) E { s with heap := h, toks := tk })
    (done : ∀ m₁ news₁ h tk, J n m₁ news₁ → Fr h₀ env.locals h m₁ → News h₀ env.locals h news₁ → Q .next { s with heap := h, toks := tk }) :
    wpAny (model prog w) A (pyIter (.ref r)) (fun it s₂ => LoopAtV prog w A h₀ env x body Q E it s₂) E s := by
  refine wpAny_pyIter_range hr hsm ?_
  refine loopAt (fun o => o.cls = .type "range_iterator") (s := { s with heap := s.heap.push _ }) J (PyProof.Rows.LCg.range_walks (prog := prog) (w := w) (I := s.heap.objs.size) hh a n) ?_ (next_is_new F) (fun i h st => ⟨_, st, rfl⟩) (fun p hp => Nat.ne_of_lt (Heap.lt_size (N p hp).1)) (fun b hb hbI => absurd (List.mem_singleton.mp hb) hbI)
    ?_ (F.push _) (fun p hp => ⟨Heap.get?_push_of_some _ (N p hp).1, (N p hp).2⟩) hj (fun i v m₁ news₁ h tk own hi hv hK => by obtain ⟨t, rfl⟩ := hv; exact turn i t m₁ news₁ h tk own hi hK) done
  · intro hm
    exact absurd F.ns.lt ((List.mem_singleton.mp hm) ▸ Nat.lt_irrefl _)
  · show IsRangeIter _ _ _ _ _
    have := Heap.get?_push_size s.heap (o := { cls := .type "range_iterator", data := .fields #[rawInt a, rawInt (Builtin.Range.rangeSize a b 1), rawInt 1] }) rfl
    unfold IsRangeIter
    rw [this, hn]
    simp
end
end Mine
namespace Mine
section
variable {prog : Program} {w : World} {A₀ A : Around} {s : Shared} {base h₀ : Heap} {outer : List Env} {L : Addr} {m : Str → Option Value} {env : Env} {chg : Led} {K : Frag} {p : Program} {loose : List Str} {mean : MeanT} {mg mb : Str → Option Value}
  {R : Result → Shared → Prop} {name qual : Str} {params : Arguments} {body : List Stmt} {scope : Scope} {dV kV doc pm cdv ct oc : Value} {an od : Option Addr} {osl : Array (Option Value)} {f : Addr} {args : Args} {binds : List (Str × Value)}
/-- a def with cells is entered: all the heap is the new base -/
theorem code_pureC (B : Below A₀ base outer h₀) (F : Fr h₀ L s.heap m) (X₀ : K.In h₀) (T : Top p loose mean mg mb h₀) (hA : A.frames = some (env :: outer)) (hf : env.frame = some L) (hke : env.scope.kind = .function)
    (ho : K.lookup f = some ⟨oc, od, .func (fnOf name qual params body scope dV kV doc pm an cdv ct), osl⟩) (hcd : codeIn K cdv qual = true) (hroom : A.depth < recursionLimit)
    (hbind : BindsTo s (fnOf name qual params body scope dV kV doc pm an cdv ct) args binds) (hkind : (binds.all fun y => scope.names.lookup y.1 == some .local || scope.names.lookup y.1 == some .cell) = true)
    (hnd : ((cellsFrom 0 scope.names []).map (·.1)).Nodup)
    (h : ∀ L' h₁ tk cells, Fr s.heap L' h₁ (bindL (envOfC qual scope L' f cdv).kindOf binds fun _ => none) → News s.heap L' h₁ (cells ++ []) → CellsAre (bindC (envOfC qual scope L' f cdv).kindOf binds fun _ => none) (cellsFrom (L' + 1) scope.names []) cells →
      Below A base (env :: outer) s.heap → K.In s.heap → Top p loose mean mg mb s.heap →
      wpAny (model prog w) (A.deeper (envOfC qual scope L' f cdv)) (execs body (envOfC qual scope L' f cdv)) (fun fl s' => R (.ok (.ret (match fl with | .ret v => v | _ => .none))) s') NoE
        { s with heap := h₁, toks := tk })
    (hco : scope.isCoroutine = false) (hgen : scope.isGenerator = false) (hk : scope.kind = .function) : codeAny (model prog w) A (.call (.ref f) args) R s := by
  obtain ⟨FG, BG, st, lv⟩ := groundX (R := R) (news := []) B F News.nil hA hf hke
  refine codeAny_call_function hroom ((X₀.keeps F.keep) _ _ ho) rfl hco hgen rfl (codeRec_of (X₀.keeps F.keep) hcd) (hbind _ _ _ _ ?_)
  refine wpAny_newFunctionEnv_cells hk (kindsX hkind _) fun env' he s' x => ?_
  subst he
  refine ⟨(T.nolimit.keeps F.keep).keeps x.toInCall.keep, codeAny_func ?_⟩
  obtain ⟨h₁, tk, rfl, _⟩ := x.done
  have hk₁ := x.toInCall.keep
  obtain ⟨cells, NC, Y⟩ := Cl.news (h₀ := s.heap) (Nat.le_refl _) fun n c hm => ⟨x.cell n c (lookup_of_mem_nodup (cellsFrom_names scope.names 0 (s.heap.objs.size + 1) [] [] rfl ▸ hnd) hm), x.above n c hm⟩
  exact wpAny_mono (h s.heap.objs.size h₁ tk cells ⟨x.toInCall.ns, fun b o e => hk₁ b o e, Nat.le_refl _⟩ (fun p hp => NC p (by rwa [List.append_nil] at hp)) Y BG (X₀.keeps st) (T.keeps st)) (fun _ _ y => y) fun _ _ y => y.elim
end
end Mine
namespace Mine
section
open PyProof.Rows.LCg
variable {prog : Program} {w : World} {A : Around} {s : Shared} {h₀ : Heap} {L : Addr} {m : Str → Option Value} {env : Env}
/-- a comprehension whose element keeps the heap -/
theorem comp_keep {elt : PySem.Expr} {x : Str} {scope : Scope} {cl : List (Str × Addr)} {S : Led → Prop} {P : Nat → Value → Prop} {Fin : List Value → Led → Prop} {n : Nat} {news : Led} (V : Nat → Value → Prop) (hS : S news)
    (elem : ∀ i vx I oI C oC D ys m₂ h tk (E' : Value → Shared → Prop), i < n → P i vx → NsObj oC m₂ → m₂ x = some vx → Fr h₀ L h m → News h₀ L h ((I, oI) :: (C, oC) :: (D, lst ys) :: news) → Off3 I C D news → ((@Ne Nat I C) ∧ (@Ne Nat I D) ∧ (@Ne Nat C D)) →
      wpAny (model prog w) A (eval elt (compEnvC scope cl C env)) (fun y s' => V i y ∧ ∃ h' tk', s' = { s with heap := h', toks := tk' } ∧ h.StaysIn h') E' { s with heap := h, toks := tk })
    (fin : ∀ ys, ys.length = n → (∀ j y, ys[j]? = some y → V j y) → Fin ys news) : CompRest prog w A h₀ L m env elt x scope cl s S P Fin n 0 [] news := by
  have all : ∀ k i ys, i + k = n → ys.length = i → (∀ j y, ys[j]? = some y → V j y) → CompRest prog w A h₀ L m env elt x scope cl s S P Fin k i ys news := by
    intro k
    induction k with
    | zero => intro i ys e el hv; exact fin ys (by (first | lia | omega)) hv
    | succ k ih =>
      intro i ys e el hv
      refine CompRest.succ fun v I oI C oC D m₂ h tk E' hP hC hx F N off ne => ?_
      refine wpAny_mono (elem i v I oI C oC D ys m₂ h tk E' (by (first | lia | omega)) hP hC hx F N off ne) (fun y s' q => ?_) fun _ _ e => e
      obtain ⟨hy, h', tk', rfl, st⟩ := q
      refine ⟨h', tk', news, rfl, fr_stays F st, news_stays N st, off, hS, ih (i + 1) (ys ++ [y]) (by (first | lia | omega)) (by rw [List.length_append, List.length_singleton, el]) fun j z hz => ?_⟩
      rcases Nat.lt_trichotomy j ys.length with h | h | h
      · exact hv j z (by rwa [List.getElem?_append_left h] at hz)
      · subst h; simp at hz; subst hz; rw [el]; exact hy
      · rw [List.getElem?_eq_none (by rw [List.length_append, List.length_singleton]; (first | lia | omega))] at hz; cases hz
  exact all n 0 [] (Nat.zero_add n) rfl fun j y hj => by simp at hj
end
end Mine
namespace Mine
theorem news_in' {h₀ h h' : Heap} {L b : Addr} {m : PySem.Str → Option Value} {news : Led} {o : Obj} (F : Fr h₀ L h m) (N : News h₀ L h' news) (hf : h.get? b = none) (hb : h'.get? b = some o) : News h₀ L h' ((b, o) :: news) := by
  intro p hp
  rcases List.mem_cons.mp hp with rfl | hp
  · refine ⟨hb, fun e => ?_, ?_⟩
    · obtain ⟨oL, _, _, hL, _⟩ := F.ns
      rw [← e, hf] at hL; cases hL
    · cases q : h₀.get? b with
      | none => rfl
      | some o' => have := F.keep _ _ q; rw [hf] at this; cases this
  · exact N p hp
theorem range_size (a n : Nat) : Builtin.Range.rangeSize (a : Int) ((a + n : Nat) : Int) 1 = ((n : Nat) : Int) := by
  unfold Builtin.Range.rangeSize
  rw [if_pos (by decide)]
  split <;> (first | lia | omega)
theorem range_size0 (n : Nat) : Builtin.Range.rangeSize 0 (n : Int) 1 = ((n : Nat) : Int) := by
  have := range_size 0 n
  rwa [Nat.zero_add] at this
theorem range_small {a n : Nat} (h : a < 1000) (h' : n < 1000) : Builtin.Range.small (a : Int) (n : Int) 1 = true := by
  have e : Builtin.Range.rangeSize (a : Int) (n : Int) 1 ≤ 1000 ∧ 0 ≤ Builtin.Range.rangeSize (a : Int) (n : Int) 1 := by
    unfold Builtin.Range.rangeSize
    rw [if_pos (by decide)]
    split <;> (first | lia | omega)
  have f : ∀ x : Int, -10000 ≤ x → x ≤ 10000 → Builtin.Range.rangeFitsLong x = true := by
    intro x h1 h2
    unfold Builtin.Range.rangeFitsLong
    simp
    (first | lia | omega)
  unfold Builtin.Range.small
  rw [f _ (by first | lia | omega) (by first | lia | omega), f _ (by first | lia | omega) (by first | lia | omega), f 1 (by first | lia | omega) (by first | lia | omega), f _ (by first | lia | omega) (by first | lia | omega), if_pos (by decide), f _ (by first | lia | omega) (by first | lia | omega)]
  simp
noncomputable def AllNe (d : Nat) : Led → Prop
  | [] => True
  | p :: r => @Ne Nat p.1 d ∧ AllNe d r
theorem allNe_of {d : Addr} : ∀ {l : Led}, (∀ p ∈ l, p.1 ≠ d) → AllNe d l
  | [], _ => trivial
  | p :: _, h => ⟨h p (.head _), allNe_of fun q hq => h q (.tail _ hq)⟩
theorem news_ne {h₀ h : Heap} {L b : Addr} {news : Led} (N : News h₀ L h news) (hf : h.get? b = none) : AllNe b news := allNe_of fun p hp e => by
  have := (N p hp).1
  rw [e, hf] at this; cases this
end Mine
end

-- F2
section
open PySem PySem.W PyProof.Rows
set_option maxRecDepth 100000
set_option maxHeartbeats 0
namespace Mine
section
variable {w : World} {p : Program} {loose : List Str} {mean : MeanT} {mg mb : Str → Option Value}

noncomputable def lawOther (x : Int) : Int := if (48 ≤ x ∧ x ≤ 57) ∨ (65 ≤ x ∧ x ≤ 70) then x + 128 else x
theorem other_ (x : Int) (t : Tok) : PC w p loose mean mg mb 289 [.int x t] (fun _ => True) (fun _ _ r => ∃ t', r = .int (lawOther x) t') 1 8 := by
  unfold PC PR
  k_fill
  intro dp un gd cn cs a ccd cl outer A₀ base h₀ L m s Q E B F X T hk hd hu hpre hret
  refine wpAny_call ?_
  k_dflt (refine' code_pure (binds := [(S "octet", .int x t)]) ?k1 ?k2 ?k3 ?k5 ?kA ?kF ?kK ?k6 ?k7 ?k8 ?k9 ?kB ?_ ?c2 ?c3 ?c4 ?c5; (case kA => exact rfl); (case kF => exact rfl); (case kK => assumption); (case k1 => k_asm); (case k2 => k_asm); (case k3 => k_asm); (case k5 => k_asm); (case k6 => k_is); (case k7 => k_is); (case k8 => ktr_room); (case k9 => exact BindsTo.of_eq rfl); (case c5 => decide); (case kB => exact locs rfl); (case c2 => exact rfl); (case c3 => exact rfl); (case c4 => exact rfl); k_whole; intro L' h' F' N' B' X' T')
  dsimp only
  generalize s.toks + List.length _ = tk0

  k_steps
  all_goals (refine hret _ _ _ (Fr.keep (by assumption)) ⟨_, congrArg (Value.int · _) ?_⟩; unfold lawOther)
  all_goals (first | rw [if_pos (by (first | lia | omega))] | rw [if_neg (by (first | lia | omega))])
noncomputable def lawOctet (q : Int) : Int := if q % 2 = 0 then ([61, 233, 158, 211, 62, 32, 103, 45] : List Int).getD (q / 2 % 8).toNat 0 else q / 2 % 256
theorem octet_ (x : Int) (t : Tok) : PC w p loose mean mg mb 282 [.int x t] (fun _ => True) (fun _ _ r => ∃ t', r = .int (lawOctet x) t') 1 8 := by
  unfold PC PR
  k_fill
  intro dp un gd cn cs a ccd cl outer A₀ base h₀ L m s Q E B F X T hk hd hu hpre hret
  refine wpAny_call ?_
  k_dflt (refine' code_pure (binds := [(S "q", .int x t)]) ?k1 ?k2 ?k3 ?k5 ?kA ?kF ?kK ?k6 ?k7 ?k8 ?k9 ?kB ?_ ?c2 ?c3 ?c4 ?c5; (case kA => exact rfl); (case kF => exact rfl); (case kK => assumption); (case k1 => k_asm); (case k2 => k_asm); (case k3 => k_asm); (case k5 => k_asm); (case k6 => k_is); (case k7 => k_is); (case k8 => ktr_room); (case k9 => exact BindsTo.of_eq rfl); (case c5 => decide); (case kB => exact locs rfl); (case c2 => exact rfl); (case c3 => exact rfl); (case c4 => exact rfl); k_whole; intro L' h' F' N' B' X' T')
  dsimp only
  generalize s.toks + List.length _ = tk0

  k_steps
  all_goals (try dsimp only)
  all_goals (refine hret _ _ _ (Fr.keep (by assumption)) ⟨_, congrArg (Value.int · _) ?_⟩; unfold lawOctet)
  all_goals simp only [Int.fdiv_eq_ediv_of_nonneg _ (by decide : (0:Int) ≤ 2), Int.fmod_eq_emod_of_nonneg _ (by decide : (0:Int) ≤ 2), Int.fmod_eq_emod_of_nonneg _ (by decide : (0:Int) ≤ 8), Int.fmod_eq_emod_of_nonneg _ (by decide : (0:Int) ≤ 256)] at *
  all_goals (first | (rw [if_pos (by assumption)]; simp only [*]; rfl) | rw [if_neg (by assumption)])
noncomputable def pieceL (x : Int) : List Nat := if x = 32 then [95] else if (71 ≤ x ∧ x ≤ 90) ∨ (97 ≤ x ∧ x ≤ 122) ∨ x = 33 ∨ x = 42 ∨ x = 43 ∨ x = 45 ∨ x = 47 then [x.toNat] else [61, hexd (x / 16).toNat, hexd (x % 16).toNat]
where hexd (n : Nat) : Nat := if n < 10 then 48 + n else 55 + n
noncomputable def pieceStr (x : Int) : Str := ⟨(pieceL x).toArray⟩
theorem of_fin {P : Int → Prop} (h : ∀ n : Fin 256, P (n.val : Int)) : ∀ (x : Int), 0 ≤ x → x < 256 → P x := by
  intro x h0 h1
  have := h ⟨x.toNat, by (first | lia | omega)⟩
  rwa [show ((x.toNat : Nat) : Int) = x by (first | lia | omega)] at this
theorem piece_ (x : Int) (t : Tok) (h0 : 0 ≤ x) (h1 : x < 256) : PC w p loose mean mg mb 303 [.int x t] (fun _ => True) (fun _ _ r => ∃ t', r = .str (pieceStr x) t') 1 8 := by
  unfold PC PR
  k_fill
  intro dp un gd cn cs a ccd cl outer A₀ base h₀ L m s Q E B F X T hk hd hu hpre hret
  refine wpAny_call ?_
  k_dflt (refine' code_pure (binds := [(S "octet", .int x t)]) ?k1 ?k2 ?k3 ?k5 ?kA ?kF ?kK ?k6 ?k7 ?k8 ?k9 ?kB ?_ ?c2 ?c3 ?c4 ?c5; (case kA => exact rfl); (case kF => exact rfl); (case kK => assumption); (case k1 => k_asm); (case k2 => k_asm); (case k3 => k_asm); (case k5 => k_asm); (case k6 => k_is); (case k7 => k_is); (case k8 => ktr_room); (case k9 => exact BindsTo.of_eq rfl); (case c5 => decide); (case kB => exact locs rfl); (case c2 => exact rfl); (case c3 => exact rfl); (case c4 => exact rfl); k_whole; intro L' h' F' N' B' X' T')
  dsimp only
  generalize s.toks + List.length _ = tk0

  k_steps
  all_goals (try dsimp only)
  all_goals (refine hret _ _ _ (Fr.keep (by assumption)) ⟨_, congrArg (Value.str · _) ?_⟩)
  all_goals (clear hret B' X' T' B F X T hk hd hu hpre; (repeat (rename Fr _ _ _ _ => hF; clear hF)))
  all_goals (revert x; exact of_fin (by decide +kernel))
end
end Mine
end

-- E2
section
open PySem PySem.W PyProof.Rows PySem.Calls
set_option maxRecDepth 100000
set_option maxHeartbeats 1000000
namespace Mine
theorem forIn_steps {α σ : Type} {F : α → σ → Sem (ForInStep σ)} : ∀ (l : List α) (g : Nat → σ), (∀ i (hi : i < l.length), F l[i] (g i) = pure (.yield (g (i + 1)))) → forIn l (g 0) F = (pure (g l.length) : Sem σ)
  | [], g, _ => rfl
  | x :: r, g, h => by
    rw [List.forIn_cons]
    have h0 := h 0 (Nat.zero_lt_succ _)
    simp only [List.getElem_cons_zero] at h0
    rw [h0]
    show forIn r (g 1) F = _
    exact forIn_steps r (fun i => g (i + 1)) fun i hi => h (i + 1) (Nat.succ_lt_succ hi)
theorem wpAny_forIn {M : Model} {A : Around} {E : Value → Shared → Prop} {α σ : Type} {F : α → σ → Sem (ForInStep σ)} : ∀ (l : List α) (I : Nat → σ → Shared → Prop) (st : σ) (s : Shared) (Q : σ → Shared → Prop), I 0 st s →
    (∀ i (hi : i < l.length) st' s', I i st' s' → wpAny M A (F l[i] st') (fun r s'' => ∃ st'', r = .yield st'' ∧ I (i + 1) st'' s'') E s') → (∀ st' s', I l.length st' s' → Q st' s') → wpAny M A (forIn l st F) Q E s
  | [], I, st, s, Q, h0, _, hq => wpAny_pure (hq _ _ h0)
  | x :: r, I, st, s, Q, h0, hs, hq => by
    rw [List.forIn_cons]
    refine wpAny_bind (wpAny_mono (hs 0 (Nat.zero_lt_succ _) st s h0) (fun z s' hz => ?_) fun _ _ e => e)
    obtain ⟨st', rfl, hI⟩ := hz
    exact wpAny_forIn r (fun i => I (i + 1)) st' s' Q hI (fun i hi => hs (i + 1) (Nat.succ_lt_succ hi)) hq
open PySem.Builtin PySem.Builtin._codecs
theorem latin1_run (id : String) (b : Array UInt8) (h : b.size < 1000) : runDecoder id latin1Decoder none true b 0 [] = pure (b.map (·.toNat), b.size) := by
  unfold runDecoder
  simp only [Std.Legacy.Range.forIn_eq_forIn_range']
  have hl : (List.range' 0 [:b.size].size).length = b.size := by simp [Std.Legacy.Range.size]
  refine Eq.trans (congrArg (fun m => m >>= _) (?key : _ = pure ((fun i => (i, ((b.toList.take i).map (·.toNat)).toArray, ({} : Faults))) (List.range' 0 [:b.size].size).length))) ?_
  case key =>
    refine forIn_steps (List.range' 0 [:b.size].size) (fun i => (i, ((b.toList.take i).map (·.toNat)).toArray, ({} : Faults))) ?_
    intro i hi
    rw [hl] at hi
    have h1 : ¬ (((b.toList.take i).map (·.toNat)).toArray.size > sizeLine) := by simp [sizeLine_eq]; (first | lia | omega)
    refine (if_neg h1).trans ((if_neg (by first | lia | omega)).trans ?_)
    show pure (ForInStep.yield (i + 1, (((b.toList.take i).map (·.toNat)).toArray ++ [(b.getD i 0).toNat].toArray, ({} : Faults)))) = _
    congr 4
    apply Array.ext'
    simp only [Array.toList_append]
    rw [List.take_succ_eq_append_getElem (by simpa using hi), List.map_append]
    simp [Array.getD, hi]
  rw [hl]
  refine congrArg (fun x => (pure (x, b.size) : Sem _)) ?_
  dsimp only
  rw [List.take_of_length_le (by simp)]
  apply Array.ext'
  simp
theorem lat_road (id : String) (b : Array UInt8) : decodeRoad id b (PySem.Str.ofString "latin1") none [] = (runDecoder id latin1Decoder none true b 0 [] >>= fun r => mkStr ⟨r.1⟩) := by kernel_rfl
theorem lat_text {t t1 t2 : Tok} {d : PySem.Str} {b : Array UInt8} (h : b.size < 1000) :
    Meets («_codecs.decode.text» ⟨[.bytes b t, .str (PySem.Str.ofString "latin1") t1, .none, .str d t2], []⟩) (fun _ R s => R (.ok (.ret (.str ⟨b.map (·.toNat)⟩ s.toks))) { s with toks := s.toks + 1 }) := by
  refine .of_wp fun prog w A R s hS => ?_
  show wpAny _ _ (Bytes.bytesLike _ (.bytes b t) >>= fun r => _) _ _ s
  refine wpAny_bind (wpAny_of_eq KBd.like_eq ?_)
  refine wpAny_bind (wpAny_of_eq KBd.held_eq ?_)
  show wpAny _ _ (decodeRoad _ b (PySem.Str.ofString "latin1") none [] >>= fun v => _) _ _ s
  rw [lat_road, latin1_run _ _ h]
  refine wpAny_bind (wpAny_bind (wpAny_pure ?_))
  exact wpAny_mkStr (wpAny_pure ⟨_, rfl, hS⟩) (by rw [sizeLine_eq]; show (b.map _).size ≤ _; simp; (first | lia | omega))
theorem lat_entry {c : UInt8} {cs : List UInt8} {t t1 : Tok} : «bytes.decode» ⟨[.bytes (c :: cs).toArray t, .str (PySem.Str.ofString "latin1") t1], []⟩ = (mkStr (PySem.Str.ofString "utf-8") >>= fun _ => mkStr (PySem.Str.ofString "latin1") >>= fun e => mkStr (PySem.Str.ofString "bytes.decode") >>= fun d =>
    call (.builtin "_codecs.decode.text") [.bytes (c :: cs).toArray t, e, .none, d] >>= fun v => ret v) := by kernel_rfl
end Mine
end

-- E3
section
open PySem PySem.W PyProof.Rows PySem.Calls
set_option maxRecDepth 100000
set_option maxHeartbeats 1000000
namespace Mine
open PySem.Builtin PySem.Builtin.Str
theorem tr_one (x : PySem.Str) (t : Tok) (v : Value) : strOneArg "translate" ⟨[.str x t, v], []⟩ = pure (.str x t, x, v) := by kernel_rfl
section
variable {prog : Program} {w : World} {A : Around} {E : Value → Shared → Prop} {s : Shared}
theorem tab_look {tab : Addr} {items : Array Value} {c : Nat} {x : PySem.Str} {t : Tok} {Q : Mapped → Shared → Prop} (hl : s.heap.IsList tab items) (hc : c < 1000) (hx : items[c]? = some (.str x t)) (h : Q (.text x) { s with toks := s.toks + 1 }) :
    wpAny (model prog w) A (tableLookup (.ref tab) c) Q E s := by
  unfold tableLookup
  refine wpAny_bind (wpAny_attempt (wpAny_bind (wpAny_mkInt (wpAny_getItem_list (s := { s with toks := s.toks + 1 }) hl (by (first | lia | omega)) (by (first | lia | omega)) (by simpa using hx) ?_))))
  exact wpAny_pure h
noncomputable def joinT (txt : Nat → PySem.Str) (cs : List Nat) : List Nat := cs.flatMap fun c => (txt c).cps.toList
theorem joinT_len {txt : Nat → PySem.Str} : ∀ cs : List Nat, (∀ c ∈ cs, (txt c).length ≤ 3) → (joinT txt cs).length ≤ 3 * cs.length
  | [], _ => Nat.le_refl _
  | c :: r, h => by
    have h1 := h c (.head _)
    have h2 := joinT_len r fun x hx => h x (.tail _ hx)
    unfold joinT at *
    rw [List.flatMap_cons, List.length_append, List.length_cons]
    have : (txt c).cps.toList.length = (txt c).length := by simp [PySem.Str.length]
    (first | lia | omega)
theorem joinT_append {txt : Nat → PySem.Str} (a b : List Nat) : joinT txt (a ++ b) = joinT txt a ++ joinT txt b := by simp [joinT]
theorem fold_pieces : ∀ (l : List PySem.Str) (acc : Array Nat), l.foldl (fun acc p => acc ++ p.cps) acc = acc ++ (l.flatMap fun p => p.cps.toList).toArray
  | [], acc => by simp
  | p :: r, acc => by
    rw [List.foldl_cons, fold_pieces r]
    apply Array.ext'
    simp
theorem translate_wp {tab : Addr} {items : Array Value} {x : PySem.Str} {t : Tok} {txt : Nat → PySem.Str} {Q : Fin → Shared → Prop} (hl : s.heap.IsList tab items) (hn : x.length ≠ 0) (hx : x.length < 1000) (hna : (x.cps.all fun c => decide (c < 128)) = false)
    (ht : ∀ c ∈ x.cps, c < 1000 ∧ (txt c).length ≤ 3 ∧ ∃ tk, items[c]? = some (.str (txt c) tk))
    (h : ∀ k k', Q (.done (.ret (.str ⟨(joinT txt x.cps.toList).toArray⟩ k))) { s with toks := k' }) :
    wpAny (model prog w) A (Builtin.«str.translate» ⟨[.str x t, .ref tab], []⟩) Q E s := by
  unfold Builtin.«str.translate»
  rw [tr_one]
  refine wpAny_bind (wpAny_pure ?_)
  dsimp only
  rw [if_neg (by simpa using hn), hna, ← Array.forIn_toList]
  have hxl : x.cps.toList.length = x.length := by simp [PySem.Str.length]
  have hll : ∀ i, (joinT txt (x.cps.toList.take i)).length ≤ 3000 := fun i => by
    have := joinT_len (txt := txt) (x.cps.toList.take i) fun c hc => (ht c (Array.mem_toList_iff.mp (List.mem_of_mem_take hc))).2.1
    rw [List.length_take] at this
    (first | lia | omega)
  refine wpAny_bind (wpAny_forIn _ (fun i st s' => st = (((x.cps.toList.take i).map txt).reverse, (joinT txt (x.cps.toList.take i)).length, false, [], false) ∧ ∃ k, s' = { s with toks := k }) _ _ _ ⟨rfl, s.toks, rfl⟩ ?_ ?_)
  · rintro i hi _ _ ⟨rfl, k, rfl⟩
    have hm : x.cps.toList[i] ∈ x.cps := Array.mem_toList_iff.mp (List.getElem_mem hi)
    obtain ⟨h1, h2, tk, h3⟩ := ht _ hm
    refine wpAny_ite ?_
    rw [if_neg (by show ¬ (tooLong _ = true); unfold tooLong; have := hll i; rw [decide_eq_true_iff, sizeLine_eq]; dsimp only; (first | lia | omega))]
    refine wpAny_ite ?_
    rw [if_neg Bool.false_ne_true]
    refine wpAny_ite ?_
    rw [if_neg Bool.false_ne_true]
    refine wpAny_bind (tab_look hl h1 h3 ?_)
    refine wpAny_pure ⟨_, rfl, ?_, _, rfl⟩
    rw [List.take_succ_eq_append_getElem hi, joinT_append, List.length_append]
    simp [joinT, PySem.Str.length]
  · rintro _ _ ⟨rfl, k, rfl⟩
    refine wpAny_ite ?_
    rw [if_neg (by show ¬ (tooLong _ = true); unfold tooLong; have := hll x.cps.toList.length; rw [decide_eq_true_iff, sizeLine_eq]; dsimp only; (first | lia | omega))]
    dsimp only
    rw [List.reverse_reverse, fold_pieces, List.take_length]
    have e : (#[] ++ (List.flatMap (fun p : PySem.Str => p.cps.toList) (List.map txt x.cps.toList)).toArray : Array Nat) = (joinT txt x.cps.toList).toArray := by
      apply Array.ext'
      simp [joinT, List.flatMap_map]
    rw [e]
    refine wpAny_bind (wpAny_mkStr (wpAny_pure (h _ _)) ?_)
    have := hll x.cps.toList.length
    rw [List.take_length] at this
    rw [sizeLine_eq]
    show (joinT txt x.cps.toList).toArray.size ≤ _
    rw [List.size_toArray]; (first | lia | omega)
end
end Mine
end

-- E4
section
open PySem PySem.W PyProof.Rows PySem.Calls
set_option maxRecDepth 100000
set_option maxHeartbeats 0
namespace Mine
section
variable {w : World} {p : Program} {loose : List Str} {mean : MeanT} {mg mb : Str → Option Value}

section
variable {prog : Program} {w : World} {A : Around} {E : Value → Shared → Prop} {s : Shared}
theorem gm_str {M : Model} {pl : Sem Bool} {Q : Value × List Value → Shared → Prop} {name : PySem.Str} {id : String} (v : Value) (hT : s.TypeIs v "str") (slot : Slot "str" name id) (ty : typeOf (.builtin id) = pure (.type "method_descriptor"))
    (hd : ∀ a, v = .ref a → ∃ o, s.heap.get? a = some o ∧ o.dict = none) (h : Q (.builtin id, [v]) s) : wpAny M A (getMethod v name pl) Q E s :=
  getMethod_builtin hT PySem.F.plainAttrs_str slot ty hd h
theorem strNoRef {x : PySem.Str} {t : Tok} : ∀ a, Value.str x t = .ref a → ∃ o, s.heap.get? a = some o ∧ o.dict = none := fun _ e => nomatch e
theorem gm_translate {M : Model} {x : PySem.Str} {t : Tok} {pl : Sem Bool} {Q : Value × List Value → Shared → Prop} (h : Q (.builtin "str.translate", [.str x t]) s) : wpAny M A (getMethod (.str x t) "translate" pl) Q E s := by
  with_reducible exact gm_str (.str x t) (typeIs_str _ _ _) PySem.F.slot_str_translate PySem.F.type_str_translate strNoRef h
theorem lat_args (a b : Value) : argsOk "bytes.decode" ⟨[a, b], []⟩ := by unfold argsOk; kernel_rfl
theorem decode_lat {b : Array UInt8} {t t1 : Tok} {Q : Value → Shared → Prop} (h0 : 0 < b.size) (h1 : b.size < 1000) (h : ∀ t' k, Q (.str ⟨b.map (·.toNat)⟩ t') { s with toks := k }) :
    wpAny (model prog w) A (call (.builtin "bytes.decode") [.bytes b t, .str (PySem.Str.ofString "latin1") t1]) Q E s := by
  refine call_meets FB.slot_bytes_decode (typeIs_bytes _ _ _) FB.entry_bytes_decode (lat_args _ _) (S := fun _ R s => ∀ t' k, R (.ok (.ret (.str ⟨b.map (·.toNat)⟩ t'))) { s with toks := k }) (.of_wp fun prog w A R s hS => ?_) h
  obtain ⟨l⟩ := b
  cases l with
  | nil => exact absurd h0 (Nat.lt_irrefl _)
  | cons c cs =>
    rw [lat_entry]
    refine wpAny_bind (wpAny_mkStr ?_ (by decide))
    refine wpAny_bind (wpAny_mkStr ?_ (by decide))
    refine wpAny_bind (wpAny_mkStr ?_ (by decide))
    exact wpAny_bind (call_function_meets KBd.kind_text KBd.plain_text KBd.entry_text (KBd.args_text _ _ _ _) (lat_text h1) (wpAny_pure ⟨_, rfl, hS _ _⟩))
theorem translate_ {tab : Addr} {items : Array Value} {x : PySem.Str} {t : Tok} {txt : Nat → PySem.Str} {Q : Value → Shared → Prop} (hl : s.heap.IsList tab items) (hn : x.length ≠ 0) (hx : x.length < 1000) (hna : (x.cps.all fun c => decide (c < 128)) = false)
    (ht : ∀ c ∈ x.cps, c < 1000 ∧ (txt c).length ≤ 3 ∧ ∃ tk, items[c]? = some (.str (txt c) tk))
    (h : ∀ k k', Q (.str ⟨(joinT txt x.cps.toList).toArray⟩ k) { s with toks := k' }) :
    wpAny (model prog w) A (call (.builtin "str.translate") [.str x t, .ref tab]) Q E s :=
 by
  have g : MeetsIn prog w (Builtin.«str.translate» ⟨[.str x t, .ref tab], []⟩) (fun _ R s => s.heap.IsList tab items ∧ ∀ k k', R (.ok (.ret (.str ⟨(joinT txt x.cps.toList).toArray⟩ k))) { s with toks := k' }) := by
    refine MeetsIn.of_wp fun A R s hS => ?_
    refine translate_wp (txt := txt) hS.1 hn hx hna ht fun k k' => ?_
    exact ⟨_, rfl, hS.2 _ _⟩
  refine call_meetsIn PySem.F.slot_str_translate (typeIs_str _ _ _) PySem.F.entry_str_translate (PySem.F.args_str_translate_2 _ _) g ?_
  exact ⟨hl, h⟩
end

noncomputable def seqOf (o : Obj) : Array Value := match o.data with | .seq xs _ => xs | _ => #[]
noncomputable def tabL (c : Nat) : List Nat := if (48 ≤ c ∧ c ≤ 57) ∨ (65 ≤ c ∧ c ≤ 70) then [c] else pieceL (c : Int)
noncomputable def tabStr (c : Nat) : PySem.Str := ⟨(tabL c).toArray⟩
noncomputable def isTxt (v : Option Value) (x : PySem.Str) : Bool := match v with | some (.str y _) => y == x | _ => false
theorem isTxt_of {v : Option Value} {x : PySem.Str} (h : isTxt v x = true) : ∃ t, v = some (.str x t) := by
  unfold isTxt at h
  split at h
  · exact ⟨_, by rw [eq_of_beq h]⟩
  · cases h
theorem tab_items (P : Params) : ∀ c : Fin 256, isTxt ((seqOf (o254_I P))[c.val]?) (tabStr c.val) = true := by
  have h : ((List.range 256).all fun c => isTxt ((seqOf (o254_I P))[c]?) (tabStr c)) = true := by kernel_rfl
  exact fun c => List.all_eq_true.mp h c.val (List.mem_range.mpr c.isLt)
theorem tab_lens : ∀ c : Fin 256, (tabStr c.val).length ≤ 3 := by decide +kernel
theorem tab_at (P : Params) : (KK P).lookup 254 = some (o254_I P) := by kernel_rfl
noncomputable def epOf (o : Obj) : Nat := match o.data with | .seq _ n => n | _ => 0
theorem tab_data (P : Params) : (o254_I P).data = .seq (seqOf (o254_I P)) (epOf (o254_I P)) := by kernel_rfl
theorem tab_cls (P : Params) : (o254_I P).cls = .type "list" := by kernel_rfl
theorem tab_list {P : Params} {h : Heap} (X : (KK P).In h) : h.IsList 254 (seqOf (o254_I P)) := ⟨_, X _ _ (tab_at P), tab_cls P, _, tab_data P⟩
noncomputable def encL (b : Array UInt8) : List Nat := b.toList.flatMap fun c => tabL c.toNat
theorem all_map {b : Array UInt8} (h : (b.all fun c => decide (c < 128)) = false) : ((b.map (·.toNat)).all fun c => decide (c < 128)) = false := by
  rw [← h]
  obtain ⟨l⟩ := b
  simp only [List.map_toArray, List.all_toArray, List.all_map]
  congr 1
theorem lm0 {b : Array UInt8} (h : 0 < b.size) : (PySem.Str.mk (b.map (·.toNat))).length ≠ 0 := by
  show (b.map _).size ≠ 0
  rw [Array.size_map]; (first | lia | omega)
theorem lm1 {b : Array UInt8} (h : b.size < 1000) : (PySem.Str.mk (b.map (·.toNat))).length < 1000 := by
  show (b.map _).size < 1000
  rw [Array.size_map]; exact h
theorem translate_y {prog : Program} {w : World} {A : Around} {E : Value → Shared → Prop} {s : Shared} {tab : Addr} {items : Array Value} {x : PySem.Str} {t : Tok} {txt : Nat → PySem.Str} {Q : Value → Shared → Prop} (hl : s.heap.IsList tab items) (hn : x.length ≠ 0) (hx : x.length < 1000) (hna : (x.cps.all fun c => decide (c < 128)) = false)
    (ht : ∀ c ∈ x.cps, c < 1000 ∧ (txt c).length ≤ 3 ∧ ∃ tk, items[c]? = some (.str (txt c) tk))
    (h : ∀ y k k', y = ⟨(joinT txt x.cps.toList).toArray⟩ → PySem.Str.length y ≤ 3000 → Q (.str y k) { s with toks := k' }) :
    wpAny (model prog w) A (call (.builtin "str.translate") [.str x t, .ref tab]) Q E s :=
  translate_ hl hn hx hna ht fun k k' => h _ k k' rfl (by
    have := joinT_len (txt := txt) x.cps.toList fun c hc => (ht c (Array.mem_toList_iff.mp hc)).2.1
    have hxl : x.cps.toList.length = x.length := by simp [PySem.Str.length]
    show (joinT txt x.cps.toList).toArray.size ≤ 3000
    rw [List.size_toArray]; (first | lia | omega))
theorem henc_tr {b : Array UInt8} {P : Params} : ∀ c ∈ (PySem.Str.mk (b.map (·.toNat))).cps, c < 1000 ∧ (tabStr c).length ≤ 3 ∧ ∃ tk, (seqOf (o254_I P))[c]? = some (.str (tabStr c) tk) := by
  intro c hc
  obtain ⟨u, _, rfl⟩ := Array.mem_map.mp hc
  have hu : u.toNat < 256 := u.toNat_lt
  exact ⟨by (first | lia | omega), tab_lens ⟨_, hu⟩, isTxt_of (tab_items P ⟨_, hu⟩)⟩
theorem henc_end {b : Array UInt8} {y : PySem.Str} (h : y = ⟨(joinT tabStr (PySem.Str.mk (b.map (·.toNat))).cps.toList).toArray⟩) :
    Str.empty ++ Str.ofString "=?" ++ S "q" ++ Str.ofString "?q?" ++ y ++ Str.ofString "?=" = ⟨([61, 63, 113, 63, 113, 63] ++ encL b ++ [63, 61]).toArray⟩ := by
  have e : Str.empty ++ Str.ofString "=?" ++ S "q" ++ Str.ofString "?q?" = ⟨#[61, 63, 113, 63, 113, 63]⟩ := by decide +kernel
  have e' : Str.ofString "?=" = ⟨#[63, 61]⟩ := by decide +kernel
  rw [e, e', h]
  apply Str.ext'
  simp only [Str.cps_append]
  apply Array.ext'
  simp [joinT, encL, tabStr, List.flatMap_map]
local macro_rules | `(tactic| walk_at "getMethod str") => `(tactic| (k_here; (with_reducible refine gm_translate ?_)))
theorem henc_ (b : Array UInt8) (t t' : Tok) (h0 : 0 < b.size) (h1 : b.size < 1000) (hna : (b.all fun c => decide (c < 128)) = false) : PC w p loose mean mg mb 270 [.bytes b t, .str (S "q") t'] (fun _ => True) (fun _ _ r => ∃ t', r = .str ⟨([61, 63, 113, 63, 113, 63] ++ encL b ++ [63, 61]).toArray⟩ t') 1 8 := by
  unfold PC PR
  k_fill
  intro dp un gd cn cs a ccd cl outer A₀ base h₀ L m s Q E B F X T hk hd hu hpre hret
  refine wpAny_call ?_
  k_dflt (refine' code_pure (binds := [(S "header_bytes", .bytes b t), (S "charset", .str (S "q") t')]) ?k1 ?k2 ?k3 ?k5 ?kA ?kF ?kK ?k6 ?k7 ?k8 ?k9 ?kB ?_ ?c2 ?c3 ?c4 ?c5; (case kA => exact rfl); (case kF => exact rfl); (case kK => assumption); (case k1 => k_asm); (case k2 => k_asm); (case k3 => k_asm); (case k5 => k_asm); (case k6 => k_is); (case k7 => k_is); (case k8 => ktr_room); (case k9 => first | exact BindsTo.of_eq rfl | exact binds_K (by k_in) rfl (by k_is) rfl rfl rfl); (case c5 => decide); (case kB => exact locs rfl); (case c2 => exact rfl); (case c3 => exact rfl); (case c4 => exact rfl); k_whole; intro L' h' F' N' B' X' T')
  dsimp only
  generalize s.toks + List.length _ = tk0

  k_steps
  repeat (
    any_goals first
      | with_reducible (k_here; (with_reducible show wpAny _ _ (call (Value.builtin "bytes.decode") [Value.bytes _ _, Value.str _ _]) _ _ _); (refine decode_lat (by assumption) (by assumption) ?_); intro _ _)
      | (k_here; (with_reducible show wpAny _ _ (call (Value.builtin "bytes.decode") [Value.bytes _ _, Value.str _ _]) _ _ _); (refine decode_lat (by assumption) (by assumption) ?_); intro _ _)
      | with_reducible (k_here; (with_reducible show wpAny _ _ (call (Value.builtin "str.translate") [Value.str _ _, Value.ref _]) _ _ _); (refine translate_y (txt := tabStr) (tab_list (Frag.In.keeps (by assumption) (Fr.keep (by assumption)))) (lm0 (by assumption)) (lm1 (by assumption)) (all_map (by assumption)) henc_tr ?_); intro _ _ _ _ _)
      | (k_here; (with_reducible show wpAny _ _ (call (Value.builtin "str.translate") [Value.str _ _, Value.ref _]) _ _ _); (refine translate_y (txt := tabStr) (tab_list (Frag.In.keeps (by assumption) (Fr.keep (by assumption)))) (lm0 (by assumption)) (lm1 (by assumption)) (all_map (by assumption)) henc_tr ?_); intro _ _ _ _ _)
      | fail
    all_goals k_steps)
  all_goals (try dsimp only)
  all_goals first | (exfalso; (first | lia | omega)) | exact hret _ _ _ (Fr.keep (by assumption)) ⟨_, congrArg (Value.str · _) (henc_end (by assumption))⟩
end
end Mine
end

-- E5
section
open PySem PySem.W PyProof.Rows PySem.Calls
set_option maxRecDepth 100000
set_option maxHeartbeats 0
namespace Mine
section
variable {w : World} {p : Program} {loose : List Str} {mean : MeanT} {mg mb : Str → Option Value}

noncomputable def flatL (ns : List Int) : List Nat := ns.flatMap pieceL
noncomputable def placesL (ns : List Int) : List Int := (List.range (ns.length + 1)).map fun p => ((flatL (ns.take p)).length : Int)
theorem pieceStr_len (x : Int) : (pieceStr x).length ≤ 3 := by
  show (pieceL x).toArray.size ≤ 3
  rw [List.size_toArray]
  unfold pieceL
  split <;> (try split) <;> simp
theorem flatL_len : ∀ ns : List Int, (flatL ns).length ≤ 3 * ns.length
  | [] => Nat.le_refl _
  | x :: r => by
    have := flatL_len r
    have h := pieceStr_len x
    have e : (pieceL x).length = (pieceStr x).length := by simp [pieceStr, PySem.Str.length]
    show ((pieceL x) ++ flatL r).length ≤ _
    rw [List.length_append, List.length_cons]
    (first | lia | omega)
theorem placesL_len (ns : List Int) : (placesL ns).length = ns.length + 1 := by simp [placesL]
theorem placesL_last (ns : List Int) : (placesL ns)[ns.length]? = some ((flatL ns).length : Int) := by simp [placesL]
theorem flatL_append (a b : List Int) : flatL (a ++ b) = flatL a ++ flatL b := by simp [flatL]
theorem placesL_snoc (ns : List Int) (x : Int) : placesL (ns ++ [x]) = placesL ns ++ [((flatL ns).length : Int) + ((pieceStr x).length : Int)] := by
  unfold placesL
  rw [List.length_append, List.length_singleton, List.range_succ, List.map_append]
  congr 1
  · refine List.map_congr_left fun p hp => ?_
    rw [List.mem_range] at hp
    rw [List.take_append_of_le_length (by first | lia | omega)]
  · rw [List.map_singleton, List.take_of_length_le (by simp)]
    simp [flatL, pieceStr, PySem.Str.length]
theorem map1 {x : PySem.Str} {v : Option Value} {m₁ m₀ : PySem.Str → Option Value} (h : ∀ z, z ≠ x → m₁ z = m₀ z) : (fun y => if y = x then v else m₁ y) = fun y => if y = x then v else m₀ y := by
  funext y
  by_cases e : y = x
  · simp [e]
  · simp only [if_neg e]; exact h y e
theorem intsAre_snoc : ∀ {vs : List Value} {ns : List Int}, IntsAre vs ns → ∀ (x : Int) (t : Tok), IntsAre (vs ++ [.int x t]) (ns ++ [x])
  | _, _, .nil, x, t => .cons x t .nil
  | _, _, .cons n t' h, x, t => .cons n t' (intsAre_snoc h x t)
theorem item_last {prog : Program} {w : World} {A : Around} {E : Value → Shared → Prop} {s : Shared} {value slice : PySem.Expr} {l : Addr} {us : List Value} {n : Nat} {u : Tok} {v : Value} {Q : Value → Shared → Prop}
    (hl : s.heap.get? l = some (W.listOf us.toArray n)) (hx : us[us.length - 1]? = some v) (h : Q v s)
    (hs : subscripted slice false (.ref l) (.int (-1) u) = operate [.ref l, .int (-1) u] (getItem (.ref l) (.int (-1) u)) := by with_unfolding_all rfl) :
    wpAny (model prog w) A (subscriptTail value slice (.ref l) (.int (-1) u)) Q E s := by
  have hL : s.heap.IsList l us.toArray := ⟨_, hl, rfl, _, rfl⟩
  have h0 : us.length - 1 < us.length := (List.getElem?_eq_some_iff.mp hx).1
  refine tail_any hL.typeIs slot_list_getitem.lookup (wpAny_getItem_list_neg hL (by decide) ?_ (by decide) ?_ h) hs
  · rw [List.size_toArray]; (first | lia | omega)
  · rw [List.size_toArray, show ((-1 : Int) + (us.length : Int)).toNat = us.length - 1 by (first | lia | omega)]; simpa using hx
local macro_rules | `(tactic| walk_at "subscriptTail Name UnaryOp ref int") => `(tactic| (k_here; (with_reducible show wpAny _ _ (subscriptTail _ _ (Value.ref _) (Value.int (-1) _)) _ _ _); (with_unfolding_all refine' item_last ?k1 ?k2 ?_ ?k6; (case k1 => exact News.get (by assumption) (by k_mem)); (case k2 => assumption); (case k6 => with_unfolding_all rfl); k_whole)))
local macro_rules | `(tactic| walk_at "pyIter ref") => `(tactic| refine stop_ ?_)
theorem places_ (l : Addr) (vs : List Value) (ns : List Int) (hI : IntsAre vs ns) (hn : ns.length < 100) (hb : ∀ n ∈ ns, 0 ≤ n ∧ n < 256) : PC w p loose mean mg mb 310 [.ref l] (fun h => h.IsList l vs.toArray) (fun h h' r => ∃ b vs' n, r = .ref b ∧ h.get? b = none ∧ h'.get? b = some (W.listOf vs'.toArray n) ∧ IntsAre vs' (placesL ns)) 2 16 := by
  unfold PC PR
  k_fill
  intro dp un gd cn cs a ccd cl outer A₀ base h₀ L m s Q E B F X T hk hd hu hpre hret
  refine wpAny_call ?_
  k_dflt (refine' code_pure (binds := [(S "row", .ref l)]) ?k1 ?k2 ?k3 ?k5 ?kA ?kF ?kK ?k6 ?k7 ?k8 ?k9 ?kB ?_ ?c2 ?c3 ?c4 ?c5; (case kA => exact rfl); (case kF => exact rfl); (case kK => assumption); (case k1 => k_asm); (case k2 => k_asm); (case k3 => k_asm); (case k5 => k_asm); (case k6 => k_is); (case k7 => k_is); (case k8 => ktr_room); (case k9 => exact BindsTo.of_eq rfl); (case c5 => decide); (case kB => exact locs rfl); (case c2 => exact rfl); (case c3 => exact rfl); (case c4 => exact rfl); k_whole; intro L' h' F' N' B' X' T')
  dsimp only
  generalize s.toks + List.length _ = tk0

  k_steps
  repeat (
    any_goals first
      | with_reducible (k_here; (with_reducible show wpAny _ _ (call (Value.ref 303) [Value.int _ _]) _ _ _); (k_dflt (refine' pc_use (piece_ _ _ ?q0 ?q1) ?k1 ?k2 ?k3 ?kN ?k5 ?kK ?kd ?ku ?kp ?_; (case k1 | k2 | k3 | kN | k5 => k_asm); (case kK => first | exact rfl | assumption); (case kd => ktr_room); (case ku => ktr_units); (case kp => trivial); (case q0 | q1 => assumption); intro r9 h9 tk9 st9 F9 N9 o9; obtain ⟨t9, e9⟩ := o9; subst e9; (try k_sweep))))
      | (k_here; (with_reducible show wpAny _ _ (call (Value.ref 303) [Value.int _ _]) _ _ _); (k_dflt (refine' pc_use (piece_ _ _ ?q0 ?q1) ?k1 ?k2 ?k3 ?kN ?k5 ?kK ?kd ?ku ?kp ?_; (case k1 | k2 | k3 | kN | k5 => k_asm); (case kK => first | exact rfl | assumption); (case kd => ktr_room); (case ku => ktr_units); (case kp => trivial); (case q0 | q1 => assumption); intro r9 h9 tk9 st9 F9 N9 o9; obtain ⟨t9, e9⟩ := o9; subst e9; (try k_sweep))))
      | fail
    all_goals k_steps)
  unfold Stop
  rename_i lp _ _ _ F1 N1
  refine iterL (fun i m nx => (∃ us n', nx = [(lp, W.listOf us.toArray n')] ∧ IntsAre us (placesL (ns.take i))) ∧ ∀ z, z ≠ Str.ofString "octet" → m z = if z = Str.ofString "places" then some (Value.ref lp) else List.lookup z [(S "row", Value.ref l)].reverse) rfl (by assumption) F1 N1 ⟨⟨_, _, rfl, ?_⟩, fun _ _ => rfl⟩ ?_ ?_
  · exact (IntsAre.cons 0 _ .nil : IntsAre _ [0])
  · rintro i v m₁ _ h tk own hv hoff ⟨⟨us, n', rfl, hu⟩, hm⟩ F2 N2
    rw [map1 hm] at F2
    clear F1 N1 hm
    have hi : i < ns.length := by
      have := (Array.getElem?_eq_some_iff.mp hv).1
      rw [List.size_toArray, IntsAre.length (by assumption)] at this
      exact this
    obtain ⟨t1, ht1⟩ := IntsAre.get (vs := vs) (by assumption) i ns[i] (by simp [hi])
    obtain rfl : v = .int ns[i] t1 := by simpa [ht1] using hv.symm
    clear hv
    obtain ⟨b0, b1⟩ := hb ns[i] (List.getElem_mem hi)
    have hul := hu.length
    rw [placesL_len, List.length_take, Nat.min_eq_left (Nat.le_of_lt hi)] at hul
    have hlast := placesL_last (ns.take i)
    rw [List.length_take, Nat.min_eq_left (Nat.le_of_lt hi)] at hlast
    obtain ⟨t0, ht0⟩ := hu.get _ _ hlast
    rw [show us[i]? = us[us.length - 1]? by rw [hul]; rfl] at ht0
    have hf3 := flatL_len (ns.take i)
    rw [List.length_take, Nat.min_eq_left (Nat.le_of_lt hi)] at hf3
    have hsnoc := placesL_snoc (ns.take i) ns[i]
    rw [← List.take_succ_eq_append_getElem hi] at hsnoc
    have hp3 := pieceStr_len ns[i]
    generalize ns[i] = x at *
    k_steps
    repeat (
      any_goals first
        | with_reducible (k_here; (with_reducible show wpAny _ _ (call (Value.ref 303) [Value.int _ _]) _ _ _); (k_dflt (refine' pc_use (piece_ _ _ ?q0 ?q1) ?k1 ?k2 ?k3 ?kN ?k5 ?kK ?kd ?ku ?kp ?_; (case k1 | k2 | k3 | kN | k5 => k_asm); (case kK => first | exact rfl | assumption); (case kd => ktr_room); (case ku => ktr_units); (case kp => trivial); (case q0 | q1 => assumption); intro r9 h9 tk9 st9 F9 N9 o9; obtain ⟨t9, e9⟩ := o9; subst e9; (try k_sweep))))
        | (k_here; (with_reducible show wpAny _ _ (call (Value.ref 303) [Value.int _ _]) _ _ _); (k_dflt (refine' pc_use (piece_ _ _ ?q0 ?q1) ?k1 ?k2 ?k3 ?kN ?k5 ?kK ?kd ?ku ?kp ?_; (case k1 | k2 | k3 | kN | k5 => k_asm); (case kK => first | exact rfl | assumption); (case kd => ktr_room); (case ku => ktr_units); (case kp => trivial); (case q0 | q1 => assumption); intro r9 h9 tk9 st9 F9 N9 o9; obtain ⟨t9, e9⟩ := o9; subst e9; (try k_sweep))))
        | fail
      all_goals k_steps)
    rename Fr _ _ _ _ => F3
    rename News _ _ _ _ => N3
    refine TurnEnd.intro [(lp, W.listOf (us.toArray.push _) (n' + 1))] F3 N3 (fun p hp => List.mem_cons.mpr (.inl (List.mem_singleton.mp hp))) (fun p hp => List.mem_cons_of_mem _ hp) hoff ⟨⟨us ++ [_], n' + 1, by rw [List.push_toArray], ?_⟩, fun z hz => if_neg hz⟩
    rw [hsnoc]
    exact intsAre_snoc hu _ _
  · rintro m₁ _ h tk ⟨⟨us, n', rfl, hu⟩, hm⟩ F2 N2
    have hm' : m₁ = fun z => if z = Str.ofString "octet" then m₁ z else if z = Str.ofString "places" then some (Value.ref lp) else List.lookup z [(S "row", Value.ref l)].reverse := by
      funext z
      by_cases e : z = Str.ofString "octet"
      · rw [if_pos e]
      · rw [if_neg e]; exact hm z e
    rw [hm'] at F2
    generalize m₁ = m₂ at *
    clear F1 N1 hm hm'
    dsimp only
    k_steps
    repeat (
      any_goals first
        | with_reducible (k_here; (with_reducible show wpAny _ _ (call (Value.ref 303) [Value.int _ _]) _ _ _); (k_dflt (refine' pc_use (piece_ _ _ ?q0 ?q1) ?k1 ?k2 ?k3 ?kN ?k5 ?kK ?kd ?ku ?kp ?_; (case k1 | k2 | k3 | kN | k5 => k_asm); (case kK => first | exact rfl | assumption); (case kd => ktr_room); (case ku => ktr_units); (case kp => trivial); (case q0 | q1 => assumption); intro r9 h9 tk9 st9 F9 N9 o9; obtain ⟨t9, e9⟩ := o9; subst e9; (try k_sweep))))
        | (k_here; (with_reducible show wpAny _ _ (call (Value.ref 303) [Value.int _ _]) _ _ _); (k_dflt (refine' pc_use (piece_ _ _ ?q0 ?q1) ?k1 ?k2 ?k3 ?kN ?k5 ?kK ?kd ?ku ?kp ?_; (case k1 | k2 | k3 | kN | k5 => k_asm); (case kK => first | exact rfl | assumption); (case kd => ktr_room); (case ku => ktr_units); (case kp => trivial); (case q0 | q1 => assumption); intro r9 h9 tk9 st9 F9 N9 o9; obtain ⟨t9, e9⟩ := o9; subst e9; (try k_sweep))))
        | fail
      all_goals k_steps)
    rw [show ns.take vs.toArray.size = ns by rw [List.size_toArray, IntsAre.length (by assumption), List.take_length]] at hu
    exact hret _ _ _ F2.keep ⟨lp, us, n', rfl, (N2 _ (.head _)).2.2, N2.get (.head _), hu⟩
end
end Mine
end

-- E6
section
open PySem PySem.W PyProof.Rows PySem.Calls
set_option maxRecDepth 100000
set_option maxHeartbeats 0
namespace Mine
section
variable {w : World} {p : Program} {loose : List Str} {mean : MeanT} {mg mb : Str → Option Value}

theorem map2 {x y : PySem.Str} {v : Option Value} {m₁ m₀ : PySem.Str → Option Value} (h : ∀ z, z ≠ x → z ≠ y → m₁ z = m₀ z) : (fun z => if z = x then v else m₁ z) = fun z => if z = x then v else if z = y then m₁ z else m₀ z := by
  funext z
  by_cases e : z = x
  · simp [e]
  · simp only [if_neg e]
    by_cases e2 : z = y
    · rw [if_pos e2]
    · rw [if_neg e2]; exact h z e e2
noncomputable def octN (n : Int) : Int := lawOther (lawOctet (n.fdiv 4))
noncomputable def lfT (n : Int) : List Int := if n.fmod 4 ≠ 2 then [octN n] else []
noncomputable def rgT (n : Int) : List Int := if n.fmod 2 = 0 then [octN n] else if n.fmod 4 = 3 then [lawOther ((octN n).fmod 16 * 16 + (octN n).fdiv 16)] else []
noncomputable def leftL (ns : List Int) : List Int := [158, 103] ++ ns.flatMap lfT
noncomputable def rightL (ns : List Int) : List Int := [62, 103, 233] ++ ns.flatMap rgT
theorem mod42 {x : Int} (h : x.fmod 4 = 2) (h' : x.fmod 2 ≠ 0) : False := by
  rw [Int.fmod_eq_emod_of_nonneg _ (by decide)] at h h'
  (first | lia | omega)
theorem sub2 {α : Type} {a b : α} {r : List α} : ∀ p ∈ [a, b], p ∈ a :: b :: r := fun p hp => by
  rcases List.mem_cons.mp hp with rfl | hp
  · exact .head _
  · rw [List.mem_singleton.mp hp]; exact .tail _ (.head _)
theorem lfT_len (n : Int) : (lfT n).length ≤ 1 := by unfold lfT; split <;> simp
theorem rgT_len (n : Int) : (rgT n).length ≤ 1 := by unfold rgT; split <;> (try split) <;> simp
theorem flat_len1 {f : Int → List Int} (h : ∀ n, (f n).length ≤ 1) : ∀ ns : List Int, (ns.flatMap f).length ≤ ns.length
  | [] => Nat.le_refl _
  | x :: r => by
    have h1 := flat_len1 h r
    have h2 := h x
    rw [List.flatMap_cons, List.length_append, List.length_cons]
    (first | lia | omega)
theorem leftL_len (ns : List Int) : (leftL ns).length ≤ 2 + ns.length := by
  have := flat_len1 lfT_len ns
  unfold leftL
  rw [List.length_append]
  exact Nat.add_le_add_left this 2
theorem rightL_len (ns : List Int) : (rightL ns).length ≤ 3 + ns.length := by
  have := flat_len1 rgT_len ns
  unfold rightL
  rw [List.length_append]
  exact Nat.add_le_add_left this 3
theorem leftL_snoc (ns : List Int) (x : Int) : leftL (ns ++ [x]) = leftL ns ++ lfT x := by simp [leftL]
theorem rightL_snoc (ns : List Int) (x : Int) : rightL (ns ++ [x]) = rightL ns ++ rgT x := by simp [rightL]
local macro_rules | `(tactic| walk_at "pyIter ref") => `(tactic| refine stop_ ?_)

theorem rows_ (l : Addr) (vs : List Value) (ns : List Int) (hI : IntsAre vs ns) (hn : ns.length ≤ 5) : PC w p loose mean mg mb 296 [.ref l] (fun h => h.IsList l vs.toArray)
    (fun h h' r => ∃ T a b us us' n n', r = .ref T ∧ h.get? T = none ∧ h.get? a = none ∧ h.get? b = none ∧ a < b ∧ b < T ∧ h'.get? T = some { cls := .type "tuple", data := .seq #[.ref a, .ref b] } ∧ h'.get? a = some (W.listOf us.toArray n) ∧ h'.get? b = some (W.listOf us'.toArray n') ∧ IntsAre us (leftL ns) ∧ IntsAre us' (rightL ns)) 2 16 := by
  unfold PC PR
  k_fill
  intro dp un gd cn cs a ccd cl outer A₀ base h₀ L m s Q E B F X T hk hd hu hpre hret
  refine wpAny_call ?_
  k_dflt (refine' code_pure (binds := [(S "numbers", .ref l)]) ?k1 ?k2 ?k3 ?k5 ?kA ?kF ?kK ?k6 ?k7 ?k8 ?k9 ?kB ?_ ?c2 ?c3 ?c4 ?c5; (case kA => exact rfl); (case kF => exact rfl); (case kK => assumption); (case k1 => k_asm); (case k2 => k_asm); (case k3 => k_asm); (case k5 => k_asm); (case k6 => k_is); (case k7 => k_is); (case k8 => ktr_room); (case k9 => exact BindsTo.of_eq rfl); (case c5 => decide); (case kB => exact locs rfl); (case c2 => exact rfl); (case c3 => exact rfl); (case c4 => exact rfl); k_whole; intro L' h' F' N' B' X' T')
  dsimp only
  generalize s.toks + List.length _ = tk0

  k_steps
  repeat (
    any_goals first
      | with_reducible (k_here; (with_reducible show wpAny _ _ (call (Value.ref 289) [Value.int _ _]) _ _ _); (k_dflt (refine' pc_use (other_ _ _) ?k1 ?k2 ?k3 ?kN ?k5 ?kK ?kd ?ku ?kp ?_; (case k1 | k2 | k3 | kN | k5 => k_asm); (case kK => first | exact rfl | assumption); (case kd => ktr_room); (case ku => ktr_units); (case kp => trivial); intro r9 h9 tk9 st9 F9 N9 o9; obtain ⟨t9, e9⟩ := o9; subst e9; (try k_sweep))))
      | (k_here; (with_reducible show wpAny _ _ (call (Value.ref 289) [Value.int _ _]) _ _ _); (k_dflt (refine' pc_use (other_ _ _) ?k1 ?k2 ?k3 ?kN ?k5 ?kK ?kd ?ku ?kp ?_; (case k1 | k2 | k3 | kN | k5 => k_asm); (case kK => first | exact rfl | assumption); (case kd => ktr_room); (case ku => ktr_units); (case kp => trivial); intro r9 h9 tk9 st9 F9 N9 o9; obtain ⟨t9, e9⟩ := o9; subst e9; (try k_sweep))))
      | with_reducible (k_here; (with_reducible show wpAny _ _ (call (Value.ref 282) [Value.int _ _]) _ _ _); (k_dflt (refine' pc_use (octet_ _ _) ?k1 ?k2 ?k3 ?kN ?k5 ?kK ?kd ?ku ?kp ?_; (case k1 | k2 | k3 | kN | k5 => k_asm); (case kK => first | exact rfl | assumption); (case kd => ktr_room); (case ku => ktr_units); (case kp => trivial); intro r9 h9 tk9 st9 F9 N9 o9; obtain ⟨t9, e9⟩ := o9; subst e9; (try k_sweep))))
      | (k_here; (with_reducible show wpAny _ _ (call (Value.ref 282) [Value.int _ _]) _ _ _); (k_dflt (refine' pc_use (octet_ _ _) ?k1 ?k2 ?k3 ?kN ?k5 ?kK ?kd ?ku ?kp ?_; (case k1 | k2 | k3 | kN | k5 => k_asm); (case kK => first | exact rfl | assumption); (case kd => ktr_room); (case ku => ktr_units); (case kp => trivial); intro r9 h9 tk9 st9 F9 N9 o9; obtain ⟨t9, e9⟩ := o9; subst e9; (try k_sweep))))
      | fail
    all_goals k_steps)
  unfold Stop
  rename_i la _ _ lb _ hab D _ _ _ _ _ F1 N1
  have N1' : News s.heap L' _ [(lb, W.listOf #[Value.int 62 (tk0 + 1 + 1), Value.int 103 (tk0 + 1 + 1 + 1), Value.int 233 (tk0 + 1 + 1 + 1 + 1)] 0), (la, W.listOf #[Value.int 158 tk0, Value.int 103 (tk0 + 1)] 0)] := fun p hp => N1 p (List.mem_cons_of_mem _ hp)
  clear N1
  refine iterL (fun i m nx => (∃ us us' n n', nx = [(lb, W.listOf us'.toArray n'), (la, W.listOf us.toArray n)] ∧ IntsAre us (leftL (ns.take i)) ∧ IntsAre us' (rightL (ns.take i))) ∧ ∀ z, z ≠ Str.ofString "n" → z ≠ Str.ofString "octet" → m z = if z = Str.ofString "left" then some (Value.ref la) else if z = Str.ofString "right" then some (Value.ref lb) else List.lookup z [(S "numbers", Value.ref l)].reverse) rfl (by assumption) F1 N1' ⟨⟨_, _, _, _, rfl, ?_, ?_⟩, fun _ _ _ => rfl⟩ ?_ ?_
  · exact (IntsAre.cons 158 _ (.cons 103 _ .nil) : IntsAre _ [158, 103])
  · exact (IntsAre.cons 62 _ (.cons 103 _ (.cons 233 _ .nil)) : IntsAre _ [62, 103, 233])
  · rintro i v m₁ _ h tk own hv hoff ⟨⟨us, us', n, n', rfl, hu, hu'⟩, hm⟩ F2 N2
    rw [map2 hm] at F2
    clear F1 N1' hm
    have hi : i < ns.length := by
      have := (Array.getElem?_eq_some_iff.mp hv).1
      rw [List.size_toArray, IntsAre.length (by assumption)] at this
      exact this
    obtain ⟨t1, ht1⟩ := IntsAre.get (vs := vs) (by assumption) i ns[i] (by simp [hi])
    obtain rfl : v = .int ns[i] t1 := by simpa [ht1] using hv.symm
    clear hv
    have hul := hu.length
    have hul' := hu'.length
    have hl1 := leftL_len (ns.take i)
    have hl2 := rightL_len (ns.take i)
    rw [List.length_take, Nat.min_eq_left (Nat.le_of_lt hi)] at hl1 hl2
    have hs1 := leftL_snoc (ns.take i) ns[i]
    have hs2 := rightL_snoc (ns.take i) ns[i]
    rw [← List.take_succ_eq_append_getElem hi] at hs1 hs2
    generalize ns[i] = x at *
    k_steps
    repeat (
      any_goals first
        | with_reducible (k_here; (with_reducible show wpAny _ _ (call (Value.ref 289) [Value.int _ _]) _ _ _); (k_dflt (refine' pc_use (other_ _ _) ?k1 ?k2 ?k3 ?kN ?k5 ?kK ?kd ?ku ?kp ?_; (case k1 | k2 | k3 | kN | k5 => k_asm); (case kK => first | exact rfl | assumption); (case kd => ktr_room); (case ku => ktr_units); (case kp => trivial); intro r9 h9 tk9 st9 F9 N9 o9; obtain ⟨t9, e9⟩ := o9; subst e9; (try k_sweep))))
        | (k_here; (with_reducible show wpAny _ _ (call (Value.ref 289) [Value.int _ _]) _ _ _); (k_dflt (refine' pc_use (other_ _ _) ?k1 ?k2 ?k3 ?kN ?k5 ?kK ?kd ?ku ?kp ?_; (case k1 | k2 | k3 | kN | k5 => k_asm); (case kK => first | exact rfl | assumption); (case kd => ktr_room); (case ku => ktr_units); (case kp => trivial); intro r9 h9 tk9 st9 F9 N9 o9; obtain ⟨t9, e9⟩ := o9; subst e9; (try k_sweep))))
        | with_reducible (k_here; (with_reducible show wpAny _ _ (call (Value.ref 282) [Value.int _ _]) _ _ _); (k_dflt (refine' pc_use (octet_ _ _) ?k1 ?k2 ?k3 ?kN ?k5 ?kK ?kd ?ku ?kp ?_; (case k1 | k2 | k3 | kN | k5 => k_asm); (case kK => first | exact rfl | assumption); (case kd => ktr_room); (case ku => ktr_units); (case kp => trivial); intro r9 h9 tk9 st9 F9 N9 o9; obtain ⟨t9, e9⟩ := o9; subst e9; (try k_sweep))))
        | (k_here; (with_reducible show wpAny _ _ (call (Value.ref 282) [Value.int _ _]) _ _ _); (k_dflt (refine' pc_use (octet_ _ _) ?k1 ?k2 ?k3 ?kN ?k5 ?kK ?kd ?ku ?kp ?_; (case k1 | k2 | k3 | kN | k5 => k_asm); (case kK => first | exact rfl | assumption); (case kd => ktr_room); (case ku => ktr_units); (case kp => trivial); intro r9 h9 tk9 st9 F9 N9 o9; obtain ⟨t9, e9⟩ := o9; subst e9; (try k_sweep))))
        | fail
      all_goals k_steps)
    all_goals (
      rename Fr _ _ _ _ => F3
      rename News _ _ _ _ => N3
      simp only [List.push_toArray] at N3
      refine TurnEnd.intro [_, _] F3 N3 sub2 (fun p hp => List.mem_cons_of_mem _ (List.mem_cons_of_mem _ hp)) hoff ⟨⟨_, _, _, _, rfl, ?_, ?_⟩, fun z hz hz2 => by simp only [if_neg hz, if_neg hz2]⟩)
    all_goals first | (rw [hs1]; unfold lfT octN) | (rw [hs2]; unfold rgT octN)
    all_goals first
      | (exfalso; exact mod42 (by assumption) (by assumption))
      | (rw [if_pos (by assumption)]; exact intsAre_snoc (by assumption) _ _)
      | (rw [if_neg (fun e => e (by assumption)), List.append_nil]; assumption)
      | (rw [if_neg (by assumption), if_pos (by assumption)]; exact intsAre_snoc (by assumption) _ _)
      | (rw [if_neg (by assumption), if_neg (by assumption), List.append_nil]; assumption)
  · rintro m₁ _ h tk ⟨⟨us, us', n, n', rfl, hu, hu'⟩, hm⟩ F2 N2
    have hm' : m₁ = fun z => if z = Str.ofString "n" then m₁ z else if z = Str.ofString "octet" then m₁ z else if z = Str.ofString "left" then some (Value.ref la) else if z = Str.ofString "right" then some (Value.ref lb) else List.lookup z [(S "numbers", Value.ref l)].reverse := by
      funext z
      by_cases e : z = Str.ofString "n"
      · rw [if_pos e]
      · rw [if_neg e]
        by_cases e2 : z = Str.ofString "octet"
        · rw [if_pos e2]
        · rw [if_neg e2]; exact hm z e e2
    rw [hm'] at F2
    generalize m₁ = m₂ at *
    clear F1 N1' hm hm'
    rw [show ns.take vs.toArray.size = ns by rw [List.size_toArray, IntsAre.length (by assumption), List.take_length]] at hu hu'
    dsimp only
    k_steps
    repeat (
      any_goals first
        | with_reducible (k_here; (with_reducible show wpAny _ _ (call (Value.ref 289) [Value.int _ _]) _ _ _); (k_dflt (refine' pc_use (other_ _ _) ?k1 ?k2 ?k3 ?kN ?k5 ?kK ?kd ?ku ?kp ?_; (case k1 | k2 | k3 | kN | k5 => k_asm); (case kK => first | exact rfl | assumption); (case kd => ktr_room); (case ku => ktr_units); (case kp => trivial); intro r9 h9 tk9 st9 F9 N9 o9; obtain ⟨t9, e9⟩ := o9; subst e9; (try k_sweep))))
        | (k_here; (with_reducible show wpAny _ _ (call (Value.ref 289) [Value.int _ _]) _ _ _); (k_dflt (refine' pc_use (other_ _ _) ?k1 ?k2 ?k3 ?kN ?k5 ?kK ?kd ?ku ?kp ?_; (case k1 | k2 | k3 | kN | k5 => k_asm); (case kK => first | exact rfl | assumption); (case kd => ktr_room); (case ku => ktr_units); (case kp => trivial); intro r9 h9 tk9 st9 F9 N9 o9; obtain ⟨t9, e9⟩ := o9; subst e9; (try k_sweep))))
        | with_reducible (k_here; (with_reducible show wpAny _ _ (call (Value.ref 282) [Value.int _ _]) _ _ _); (k_dflt (refine' pc_use (octet_ _ _) ?k1 ?k2 ?k3 ?kN ?k5 ?kK ?kd ?ku ?kp ?_; (case k1 | k2 | k3 | kN | k5 => k_asm); (case kK => first | exact rfl | assumption); (case kd => ktr_room); (case ku => ktr_units); (case kp => trivial); intro r9 h9 tk9 st9 F9 N9 o9; obtain ⟨t9, e9⟩ := o9; subst e9; (try k_sweep))))
        | (k_here; (with_reducible show wpAny _ _ (call (Value.ref 282) [Value.int _ _]) _ _ _); (k_dflt (refine' pc_use (octet_ _ _) ?k1 ?k2 ?k3 ?kN ?k5 ?kK ?kd ?ku ?kp ?_; (case k1 | k2 | k3 | kN | k5 => k_asm); (case kK => first | exact rfl | assumption); (case kd => ktr_room); (case ku => ktr_units); (case kp => trivial); intro r9 h9 tk9 st9 F9 N9 o9; obtain ⟨t9, e9⟩ := o9; subst e9; (try k_sweep))))
        | fail
      all_goals k_steps)
    rename News _ _ _ _ => N3
    exact hret _ _ _ (Fr.keep (by assumption)) ⟨_, la, lb, us, us', n, n', rfl, (N3 _ (.head _)).2.2, (N3 _ (.tail _ (.tail _ (.head _)))).2.2, (N3 _ (.tail _ (.head _))).2.2, hab, And.left (by assumption), N3.get (.head _), N3.get (.tail _ (.tail _ (.head _))), N3.get (.tail _ (.head _)), by assumption, by assumption⟩
end
end Mine
end

-- R0
section
open PySem PySem.W PyProof.Rows
set_option maxRecDepth 100000
set_option maxHeartbeats 400000
namespace Mine
theorem places_at {ns : List Int} {p : Nat} (h : p ≤ ns.length) : (placesL ns).getD p 0 = ((flatL (ns.take p)).length : Int) := by
  unfold placesL
  rw [List.getD_eq_getElem?_getD, List.getElem?_map, List.getElem?_range (by first | lia | omega)]
  rfl
theorem places_diff {ns : List Int} {i : Nat} (h : i < ns.length) : (placesL ns).getD ((i : Int) + 1).toNat 0 - (placesL ns).getD ((i : Int)).toNat 0 = ((pieceL (ns.getD i 0)).length : Int) := by
  rw [show ((i : Int) + 1).toNat = i + 1 by (first | lia | omega), show (i : Int).toNat = i by (first | lia | omega), places_at (by first | lia | omega), places_at (by first | lia | omega), List.take_succ_eq_append_getElem h, flatL_append, List.length_append]
  have e : flatL [ns[i]] = pieceL (ns.getD i 0) := by
    rw [List.getD_eq_getElem?_getD, List.getElem?_eq_getElem h]
    simp [flatL]
  rw [e]
  (first | lia | omega)
noncomputable def longB (o : Int) : Bool := decide ((pieceL o).length = 3)
theorem long_at {ns : List Int} {i : Nat} (h : i < ns.length) : Value.bool ((placesL ns).getD ((i : Int) + 1).toNat 0 - (placesL ns).getD ((i : Int)).toNat 0 == 3) = Value.bool (longB (ns.getD i 0)) := by
  rw [places_diff h]
  unfold longB
  congr 1
  rw [Bool.eq_iff_iff, beq_iff_eq, decide_eq_true_iff]
  (first | lia | omega)
noncomputable def placeN (ns : List Int) (p : Nat) : Int := ((flatL (ns.take p)).length : Int)
noncomputable def lexLt (f g : Int × Int × Int) : Prop := f.1 < g.1 ∨ (f.1 = g.1 ∧ (f.2.1 < g.2.1 ∨ (f.2.1 = g.2.1 ∧ f.2.2 < g.2.2)))
theorem lex_tr {f g h : Int × Int × Int} (a : lexLt f g) (b : lexLt g h) : lexLt f h := by
  rcases a with a | ⟨a, a' | ⟨a', a''⟩⟩ <;> rcases b with b | ⟨b, b' | ⟨b', b''⟩⟩
  · exact .inl (Int.lt_trans a b)
  · exact .inl (b ▸ a)
  · exact .inl (b ▸ a)
  · exact .inl (a ▸ b)
  · exact .inr ⟨a.trans b, .inl (Int.lt_trans a' b')⟩
  · exact .inr ⟨a.trans b, .inl (b' ▸ a')⟩
  · exact .inl (a ▸ b)
  · exact .inr ⟨a.trans b, .inl (a' ▸ b')⟩
  · exact .inr ⟨a.trans b, .inr ⟨a'.trans b', Int.lt_trans a'' b''⟩⟩
theorem lexLt_trans' {f g h : Int × Int × Int} (a : lexLt f g) (b : ¬ lexLt h g) : ¬ lexLt h f := fun c => b (lex_tr c a)
theorem lexLt_irrefl (f : Int × Int × Int) : ¬ lexLt f f := fun h => h.elim (Int.lt_irrefl _) fun ⟨_, h⟩ => h.elim (Int.lt_irrefl _) fun ⟨_, h⟩ => Int.lt_irrefl _ h
theorem lex_tot (f g : Int × Int × Int) (x : ¬ lexLt f g) (y : ¬ lexLt g f) : f = g := by
  obtain ⟨f1, f2, f3⟩ := f
  obtain ⟨g1, g2, g3⟩ := g
  obtain rfl : f1 = g1 := Int.le_antisymm (Int.not_lt.mp fun c => y (.inl c)) (Int.not_lt.mp fun c => x (.inl c))
  obtain rfl : f2 = g2 := Int.le_antisymm (Int.not_lt.mp fun c => y (.inr ⟨rfl, .inl c⟩)) (Int.not_lt.mp fun c => x (.inr ⟨rfl, .inl c⟩))
  obtain rfl : f3 = g3 := Int.le_antisymm (Int.not_lt.mp fun c => y (.inr ⟨rfl, .inr ⟨rfl, c⟩⟩)) (Int.not_lt.mp fun c => x (.inr ⟨rfl, .inr ⟨rfl, c⟩⟩))
  rfl
theorem lex_not_mk {f g : Int × Int × Int} (h1 : g.1 ≤ f.1) (h2 : f.1 = g.1 → g.2.1 ≤ f.2.1) (h3 : f.1 = g.1 → f.2.1 = g.2.1 → g.2.2 ≤ f.2.2) : ¬ lexLt f g := fun h =>
  h.elim (fun c => Int.not_lt.mpr h1 c) fun ⟨e, h⟩ => h.elim (fun c => Int.not_lt.mpr (h2 e) c) fun ⟨e', c⟩ => Int.not_lt.mpr (h3 e e') c
theorem lex_le_trans {f g h : Int × Int × Int} (a : ¬ lexLt f g) (b : ¬ lexLt g h) : ¬ lexLt f h := fun c =>
  (Classical.em (lexLt g f)).elim (fun d => b (lex_tr d c)) fun d => b (lex_tot f g a d ▸ c)
section
variable (ns ns' : List Int) (p1 p2 q1 q2 : Nat)
noncomputable def IsRun (p q r : Nat) : Prop := (∀ t, t < r → p + t < p2 ∧ q + t < q2 ∧ ns.getD (p + t) 0 = ns'.getD (q + t) 0) ∧ ¬ (p + r < p2 ∧ q + r < q2 ∧ ns.getD (p + r) 0 = ns'.getD (q + r) 0)
noncomputable def SkipAt (p q : Nat) : Prop := p1 < p ∧ q1 < q ∧ ns.getD (p - 1) 0 = ns'.getD (q - 1) 0
noncomputable def NearAt (p q : Nat) : Prop := p1 < p ∧ q1 < q ∧ longB (ns.getD (p - 1) 0) = true ∧ longB (ns'.getD (q - 1) 0) = true ∧ (ns.getD (p - 1) 0).fmod 16 = (ns'.getD (q - 1) 0).fmod 16
noncomputable def FarAt (p q : Nat) : Prop := p < p2 ∧ q < q2 ∧ longB (ns.getD p 0) = true ∧ longB (ns'.getD q 0) = true
open Classical in
noncomputable def nearOf (p q : Nat) : Int := if NearAt ns ns' p1 q1 p q then 1 else 0
open Classical in
noncomputable def farOf (p q : Nat) : Int := if FarAt ns ns' p2 q2 p q then (if (ns.getD p 0).fdiv 16 = (ns'.getD q 0).fdiv 16 then 2 else 1) else 0
noncomputable def foundOf (p q r : Nat) : Int × Int × Int :=
  (placeN ns p - placeN ns (p + r) - nearOf ns ns' p1 q1 p q - farOf ns ns' p2 q2 (p + r) (q + r), placeN ns p - nearOf ns ns' p1 q1 p q, placeN ns' q - nearOf ns ns' p1 q1 p q)
noncomputable def Found (p q : Nat) (f : Int × Int × Int) : Prop := ¬ SkipAt ns ns' p1 q1 p q ∧ ∃ r, IsRun ns ns' p2 q2 p q r ∧ f = foundOf ns ns' p1 p2 q1 q2 p q r
noncomputable def initOf : Int × Int × Int := (0, placeN ns p1, placeN ns' q1)
noncomputable def BestAt (Done : Nat → Nat → Prop) (b : Int × Int × Int) : Prop :=
  (b = initOf ns ns' p1 q1 ∨ ∃ p q, Done p q ∧ Found ns ns' p1 p2 q1 q2 p q b) ∧ ¬ lexLt (initOf ns ns' p1 q1) b ∧ ∀ p q f, Done p q → Found ns ns' p1 p2 q1 q2 p q f → ¬ lexLt f b
end
section
variable {ns ns' : List Int} {p1 p2 q1 q2 : Nat}
theorem run_unique {p q r r' : Nat} (h : IsRun ns ns' p2 q2 p q r) (h' : IsRun ns ns' p2 q2 p q r') : r = r' := by
  rcases Nat.lt_trichotomy r r' with e | e | e
  · exact absurd (h'.1 r e) h.2
  · exact e
  · exact absurd (h.1 r' e) h'.2
theorem found_unique {p q : Nat} {f g : Int × Int × Int} (h : Found ns ns' p1 p2 q1 q2 p q f) (h' : Found ns ns' p1 p2 q1 q2 p q g) : f = g := by
  obtain ⟨_, r, hr, rfl⟩ := h
  obtain ⟨_, r', hr', rfl⟩ := h'
  rw [run_unique hr hr']
theorem best_init {Done : Nat → Nat → Prop} (h : ∀ p q, ¬ Done p q) : BestAt ns ns' p1 p2 q1 q2 Done (initOf ns ns' p1 q1) :=
  ⟨.inl rfl, lexLt_irrefl _, fun p q _ d => absurd d (h p q)⟩
theorem best_same {Done Done' : Nat → Nat → Prop} {b : Int × Int × Int} (B : BestAt ns ns' p1 p2 q1 q2 Done b) (h : ∀ p q, Done p q ↔ Done' p q) : BestAt ns ns' p1 p2 q1 q2 Done' b :=
  ⟨B.1.imp id fun ⟨p, q, d, f⟩ => ⟨p, q, (h p q).mp d, f⟩, B.2.1, fun p q f d => B.2.2 p q f ((h p q).mpr d)⟩
theorem best_skip {Done Done' : Nat → Nat → Prop} {b : Int × Int × Int} {p₀ q₀ : Nat} (B : BestAt ns ns' p1 p2 q1 q2 Done b) (hs : SkipAt ns ns' p1 q1 p₀ q₀) (h : ∀ p q, Done' p q ↔ Done p q ∨ (p = p₀ ∧ q = q₀)) : BestAt ns ns' p1 p2 q1 q2 Done' b :=
  ⟨B.1.imp id fun ⟨p, q, d, f⟩ => ⟨p, q, (h p q).mpr (.inl d), f⟩, B.2.1, fun p q f d F => by
    rcases (h p q).mp d with d | ⟨rfl, rfl⟩
    · exact B.2.2 p q f d F
    · exact absurd hs F.1⟩
theorem best_keep {Done Done' : Nat → Nat → Prop} {b f₀ : Int × Int × Int} {p₀ q₀ : Nat} (B : BestAt ns ns' p1 p2 q1 q2 Done b) (hf : Found ns ns' p1 p2 q1 q2 p₀ q₀ f₀) (hn : ¬ lexLt f₀ b) (h : ∀ p q, Done' p q ↔ Done p q ∨ (p = p₀ ∧ q = q₀)) : BestAt ns ns' p1 p2 q1 q2 Done' b :=
  ⟨B.1.imp id fun ⟨p, q, d, f⟩ => ⟨p, q, (h p q).mpr (.inl d), f⟩, B.2.1, fun p q f d F => by
    rcases (h p q).mp d with d | ⟨rfl, rfl⟩
    · exact B.2.2 p q f d F
    · rw [found_unique F hf]; exact hn⟩
theorem best_take {Done Done' : Nat → Nat → Prop} {b f₀ : Int × Int × Int} {p₀ q₀ : Nat} (B : BestAt ns ns' p1 p2 q1 q2 Done b) (hf : Found ns ns' p1 p2 q1 q2 p₀ q₀ f₀) (hn : lexLt f₀ b) (h : ∀ p q, Done' p q ↔ Done p q ∨ (p = p₀ ∧ q = q₀)) : BestAt ns ns' p1 p2 q1 q2 Done' f₀ :=
  ⟨.inr ⟨p₀, q₀, (h _ _).mpr (.inr ⟨rfl, rfl⟩), hf⟩, lexLt_trans' hn B.2.1, fun p q f d F => by
    rcases (h p q).mp d with d | ⟨rfl, rfl⟩
    · exact lexLt_trans' hn (B.2.2 p q f d F)
    · rw [found_unique F hf]; exact lexLt_irrefl _⟩
end
end Mine
end

-- E8
section
open PySem PySem.W PyProof.Rows PySem.Calls
set_option maxRecDepth 100000
set_option maxHeartbeats 1000000
namespace Mine
noncomputable abbrev tup3 (x y z : Int) (tx ty tz : Tok) : Obj := { cls := .type "tuple", data := .seq #[.int x tx, .int y ty, .int z tz] }
noncomputable def lexDec (f g : Int × Int × Int) : Decidable (lexLt f g) := inferInstanceAs (Decidable (_ ∨ _))
theorem lex_of {f g : Int × Int × Int} (h : @decide (lexLt f g) (lexDec f g) = true) : lexLt f g := @of_decide_eq_true _ (lexDec f g) h
theorem lex_not {f g : Int × Int × Int} (h : ¬ @decide (lexLt f g) (lexDec f g) = true) : ¬ lexLt f g := fun k => h (@decide_eq_true _ (lexDec f g) k)
theorem lex_not2 {f g : Int × Int × Int} (h : @decide (lexLt f g) (lexDec f g) = false) : ¬ lexLt f g := @of_decide_eq_false _ (lexDec f g) h
section
variable {prog : Program} {w : World} {A : Around} {E : Value → Shared → Prop} {s : Shared}
theorem lt_cons {x y : Int} {t u : Tok} {r : List (Value × Value)} {P : Option Fin × Unit → Shared → Prop}
    (hy : x = y → wpAny (model prog w) A (forIn r ((none, ()) : Option Fin × Unit) fun (x : Value × Value) (_ : Option Fin × Unit) => (do
      let c ← eqBool x.fst x.snd
      if (!c) = true then do
          rule "tuple.compare.by-the-first-pair-that-differs"
          let v ← richCompare CmpOp.Lt x.fst x.snd
          let f ← ret v
          pure (ForInStep.done (some f, ()))
        else pure (ForInStep.yield (none, ())) : Sem (ForInStep (Option Fin × Unit)))) P E s)
    (hn : x ≠ y → P (some (.done (.ret (.bool (decide (x < y))))), ()) s) :
    wpAny (model prog w) A (forIn ((Value.int x t, Value.int y u) :: r) ((none, ()) : Option Fin × Unit) fun (x : Value × Value) (_ : Option Fin × Unit) => (do
      let c ← eqBool x.fst x.snd
      if (!c) = true then do
          rule "tuple.compare.by-the-first-pair-that-differs"
          let v ← richCompare CmpOp.Lt x.fst x.snd
          let f ← ret v
          pure (ForInStep.done (some f, ()))
        else pure (ForInStep.yield (none, ())) : Sem (ForInStep (Option Fin × Unit)))) P E s := by
  rw [List.forIn_cons]
  refine wpAny_bind (wpAny_bind (wpAny_eqBool_int ?_))
  by_cases e : x = y
  · rw [show (x == y) = true from beq_iff_eq.mpr e]
    exact wpAny_pure (hy e)
  · rw [show (x == y) = false from beq_eq_false_iff_ne.mpr e]
    refine wpAny_bind (wpAny_rule (wpAny_bind ?_))
    refine wpAny_lt_int ?_
    exact wpAny_bind (wpAny_pure (wpAny_pure (wpAny_pure (hn e))))
theorem tup_lt_tree {a b : Addr} {f g : Int × Int × Int} {tx ty tz ux uy uz : Tok} {P : Fin → Shared → Prop} (hoa : s.heap.get? a = some (tup3 f.1 f.2.1 f.2.2 tx ty tz)) (hob : s.heap.get? b = some (tup3 g.1 g.2.1 g.2.2 ux uy uz)) (h : P (.done (.ret (.bool (@decide (lexLt f g) (lexDec f g))))) s) :
    wpAny (model prog w) A (Builtin.«tuple.__lt__» ⟨[.ref a, .ref b], []⟩) P E s := by
  obtain ⟨x, y, z⟩ := f
  obtain ⟨x', y', z'⟩ := g
  show wpAny _ _ (isInstance (.ref b) (.type "tuple") >>= _) _ _ s
  refine wpAny_bind (wpAny_isInstance ⟨_, hob, rfl⟩ isSubtype_tuple_tuple ?_)
  simp only [Bool.not_true, Bool.false_eq_true, if_false]
  refine wpAny_bind (wpAny_tupleItemsOf hoa rfl ?_)
  refine wpAny_bind (wpAny_tupleItemsOf hob rfl ?_)
  refine wpAny_bind ?_
  refine lt_cons (fun e => ?_) fun e => ?_
  · subst e
    refine lt_cons (fun e => ?_) fun e => ?_
    · subst e
      refine lt_cons (fun e => ?_) fun e => ?_
      · subst e
        refine wpAny_pure (wpAny_pure ?_)
        rw [@decide_eq_false _ (lexDec _ _) (lexLt_irrefl _)] at h
        exact h
      · refine wpAny_pure ?_
        rw [show @decide (lexLt (x, y, z) (x, y, z')) (lexDec (x, y, z) (x, y, z')) = decide (z < z') from (@decide_eq_decide _ _ (lexDec _ _) _).mpr (by simp [lexLt])] at h
        exact h
    · refine wpAny_pure ?_
      rw [show @decide (lexLt (x, y, z) (x, y', z')) (lexDec (x, y, z) (x, y', z')) = decide (y < y') from (@decide_eq_decide _ _ (lexDec _ _) _).mpr (by dsimp only at e; simp [lexLt, e])] at h
      exact h
  · refine wpAny_pure ?_
    rw [show @decide (lexLt (x, y, z) (x', y', z')) (lexDec (x, y, z) (x', y', z')) = decide (x < x') from (@decide_eq_decide _ _ (lexDec _ _) _).mpr (by dsimp only at e; simp [lexLt, e])] at h
    exact h
theorem tup_lt {a b : Addr} {f g : Int × Int × Int} {tx ty tz ux uy uz : Tok} {Q : Value → Shared → Prop} (hoa : s.heap.get? a = some (tup3 f.1 f.2.1 f.2.2 tx ty tz)) (hob : s.heap.get? b = some (tup3 g.1 g.2.1 g.2.2 ux uy uz)) (hu : A.units < cLine) (h : Q (.bool (@decide (lexLt f g) (lexDec f g))) s) :
    wpAny (model prog w) A (compareOp .Lt (.ref a) (.ref b)) Q E s := by
  have g' : Meets (Builtin.«tuple.__lt__» ⟨[.ref a, .ref b], []⟩) (fun _ R s => s.heap.get? a = some (tup3 f.1 f.2.1 f.2.2 tx ty tz) ∧ s.heap.get? b = some (tup3 g.1 g.2.1 g.2.2 ux uy uz) ∧ R (.ok (.ret (.bool (@decide (lexLt f g) (lexDec f g))))) s) :=
    Meets.of_wp fun prog w A R s hS => tup_lt_tree hS.1 hS.2.1 ⟨_, rfl, hS.2.2⟩
  show wpAny _ _ (richCompare .Lt (.ref a) (.ref b)) _ _ _
  exact richCompare_meets_room ⟨_, hoa, rfl⟩ ⟨_, hob, rfl⟩ F.slot_tuple_lt F.entry_tuple_lt (F.args_tuple_lt_2 _ _) g' ⟨hoa, hob, (nofun), h⟩ hu
end
end Mine
namespace Mine
theorem tup_lt' {prog : Program} {w : World} {A : Around} {E : Value → Shared → Prop} {s : Shared} {a b : Addr} {x y z : Int} {g : Int × Int × Int} {tx ty tz ux uy uz : Tok} {Q : Value → Shared → Prop} (hoa : s.heap.get? a = some (tup3 x y z tx ty tz)) (hob : s.heap.get? b = some (tup3 g.1 g.2.1 g.2.2 ux uy uz)) (hu : A.units < cLine) (h : Q (.bool (@decide (lexLt (x, y, z) g) (lexDec (x, y, z) g))) s) :
    wpAny (model prog w) A (compareOp .Lt (.ref a) (.ref b)) Q E s := tup_lt (f := (x, y, z)) hoa hob hu h
end Mine
end

-- E7a
section
open PySem PySem.W PyProof.Rows PySem.Calls
set_option maxRecDepth 100000
set_option maxHeartbeats 0
namespace Mine
local macro_rules | `(tactic| walk_at "idle line") => `(tactic| skip)
section
variable {w : World} {p : Program} {loose : List Str} {mean : MeanT} {mg mb : Str → Option Value}

/-- a frame's map, some of its names written ahead -/
noncomputable def ovl : List (PySem.Str × Value) → (PySem.Str → Option Value) → PySem.Str → Option Value
  | [], m => m
  | p :: r, m => fun z => if z = p.1 then some p.2 else ovl r m z
theorem ovl_eq {m : PySem.Str → Option Value} : ∀ {l : List (PySem.Str × Value)}, (∀ p ∈ l, m p.1 = some p.2) → ovl l m = m
  | [], _ => rfl
  | p :: r, h => by
    funext z
    show (if z = p.1 then some p.2 else ovl r m z) = m z
    by_cases e : z = p.1
    · rw [if_pos e, e]; exact (h p (.head _)).symm
    · rw [if_neg e, ovl_eq fun q hq => h q (.tail _ hq)]
theorem fr_ovl {h₀ h : Heap} {L : Addr} {m : PySem.Str → Option Value} {l : List (PySem.Str × Value)} (hm : ∀ p ∈ l, m p.1 = some p.2) (F : Fr h₀ L h m) : Fr h₀ L h (ovl l m) := by rw [ovl_eq hm]; exact F
noncomputable def forBody : Stmt → List Stmt | .For _ _ b _ _ => b | _ => []
noncomputable abbrev runBody : List Stmt := bdOf (stAt NTOP 27)
noncomputable abbrev outBody : List Stmt := forBody (stAt runBody 5)
noncomputable abbrev inBody : List Stmt := forBody (stAt outBody 0)
noncomputable abbrev envRun (L : Addr) : Env := envOfC (S "_law_run") (scOf (stAt NTOP 27)) L 315 (.ref 314)
noncomputable abbrev ledRun (L D D' hb tb : Addr) (ys ys' vsh vst : List Value) (nh nt : Nat) (oH oT : Obj) (own : Led) : Led :=
  (D', LCg.lst ys') :: (D, LCg.lst ys) :: (tb, W.listOf vst.toArray nt) :: (hb, W.listOf vsh.toArray nh) :: (L + 1 + 1, oT) :: (L + 1, oH) :: own
noncomputable abbrev cstRun (l r D D' : Addr) (p1 p2 q1 q2 : Nat) (t1 t2 t3 t4 : Tok) : List (PySem.Str × Value) :=
  [(Str.ofString "left", .ref l), (Str.ofString "right", .ref r), (Str.ofString "p1", .int p1 t1), (Str.ofString "p2", .int p2 t2), (Str.ofString "q1", .int q1 t3), (Str.ofString "q2", .int q2 t4), (Str.ofString "long", .ref D), (Str.ofString "wide", .ref D')]
theorem item_bool {prog : Program} {w : World} {A : Around} {E : Value → Shared → Prop} {s : Shared} {value slice : PySem.Expr} {l : Addr} {ys : List Value} {f : Nat → Bool} {k : Int} {u : Tok} {Q : Value → Shared → Prop}
    (hl : s.heap.get? l = some (LCg.lst ys)) (hy : ∀ (j : Nat) (y : Value), ys[j]? = some y → y = .bool (f j)) (h0 : 0 ≤ k) (h1 : k < ys.length) (h2 : ys.length < 1000) (h : Q (.bool (f k.toNat)) s)
    (hs : subscripted slice false (.ref l) (.int k u) = operate [.ref l, .int k u] (getItem (.ref l) (.int k u)) := by with_unfolding_all rfl) :
    wpAny (model prog w) A (subscriptTail value slice (.ref l) (.int k u)) Q E s := by
  have hL : s.heap.IsList l ys.toArray := ⟨_, hl, rfl, _, rfl⟩
  have hk : k.toNat < ys.length := by (first | lia | omega)
  have hx : ys[k.toNat]? = some (.bool (f k.toNat)) := by
    rw [List.getElem?_eq_getElem hk]
    exact congrArg some (hy _ _ (List.getElem?_eq_getElem hk))
  exact tail_any hL.typeIs slot_list_getitem.lookup (wpAny_getItem_list hL h0 (by (first | lia | omega)) (by simpa using hx) h) hs
theorem units3 {dp un : Nat} {gd : Option (List Code)} {cn : PySem.Str} {cs : Scope} {a : Addr} {ccd : Value} {cl : List (PySem.Str × Addr)} {outer : List Env} {L₀ : Addr} {e : Env} (h : un + 16 < cLine) : ((ktrTop dp un gd cn cs L₀ a ccd cl outer).deeper e).units < cLine := by
  show un + 3 < cLine
  (first | lia | omega)
local macro_rules | `(tactic| walk_at "subscriptTail") => `(tactic| (k_here; (with_reducible show wpAny _ _ (subscriptTail _ _ (Value.ref _) (Value.int _ _)) _ _ _); (with_unfolding_all apply item_bool; exact News.get (by assumption) (by k_mem); assumption; omega; omega; omega; rotate_left; with_unfolding_all rfl; k_whole)))
theorem run_le {ns ns' : List Int} {p2 q2 P R rr : Nat} (h : IsRun ns ns' p2 q2 P R rr) (hP : P ≤ p2) (hR : R ≤ q2) : P + rr ≤ p2 ∧ R + rr ≤ q2 := by
  cases rr with
  | zero => exact ⟨hP, hR⟩
  | succ k =>
    have := h.1 k (Nat.lt_succ_self _)
    (first | lia | omega)
section
variable {ns ns' : List Int} {p1 p2 q1 q2 P R rr : Nat}
theorem toN (a b : Nat) : ((a : Int) + (b : Int)).toNat = a + b := by (first | lia | omega)
theorem far2 (h1 : (P : Int) + (rr : Int) < (p2 : Int)) (h2 : (R : Int) + (rr : Int) < (q2 : Int)) (h3 : longB (ns.getD ((P : Int) + (rr : Int)).toNat 0) = true) (h4 : longB (ns'.getD ((R : Int) + (rr : Int)).toNat 0) = true)
    (h5 : (ns.getD ((P : Int) + (rr : Int)).toNat 0).fdiv 16 = (ns'.getD ((R : Int) + (rr : Int)).toNat 0).fdiv 16) : farOf ns ns' p2 q2 (P + rr) (R + rr) = 2 := by
  rw [toN] at h3 h4 h5
  rw [toN] at h5
  unfold farOf FarAt
  rw [if_pos ⟨by (first | lia | omega), by (first | lia | omega), h3, h4⟩, if_pos h5]
theorem far1 (h1 : (P : Int) + (rr : Int) < (p2 : Int)) (h2 : (R : Int) + (rr : Int) < (q2 : Int)) (h3 : longB (ns.getD ((P : Int) + (rr : Int)).toNat 0) = true) (h4 : longB (ns'.getD ((R : Int) + (rr : Int)).toNat 0) = true)
    (h5 : (ns.getD ((P : Int) + (rr : Int)).toNat 0).fdiv 16 ≠ (ns'.getD ((R : Int) + (rr : Int)).toNat 0).fdiv 16) : farOf ns ns' p2 q2 (P + rr) (R + rr) = 1 := by
  rw [toN] at h3 h4 h5
  rw [toN] at h5
  unfold farOf FarAt
  rw [if_pos ⟨by (first | lia | omega), by (first | lia | omega), h3, h4⟩, if_neg h5]
theorem far0a (h4 : longB (ns'.getD ((R : Int) + (rr : Int)).toNat 0) = false) : farOf ns ns' p2 q2 (P + rr) (R + rr) = 0 := by
  rw [toN] at h4
  unfold farOf FarAt
  rw [if_neg (fun h => by rw [h4] at h; exact Bool.false_ne_true h.2.2.2)]
theorem far0b (h4 : longB (ns.getD ((P : Int) + (rr : Int)).toNat 0) = false) : farOf ns ns' p2 q2 (P + rr) (R + rr) = 0 := by
  rw [toN] at h4
  unfold farOf FarAt
  rw [if_neg (fun h => by rw [h4] at h; exact Bool.false_ne_true h.2.2.1)]
theorem far0c (h : ¬ (R : Int) + (rr : Int) < (q2 : Int)) : farOf ns ns' p2 q2 (P + rr) (R + rr) = 0 := by
  unfold farOf FarAt
  rw [if_neg (fun h' => h (by first | lia | omega))]
theorem far0d (h : ¬ (P : Int) + (rr : Int) < (p2 : Int)) : farOf ns ns' p2 q2 (P + rr) (R + rr) = 0 := by
  unfold farOf FarAt
  rw [if_neg (fun h' => h (by first | lia | omega))]
theorem found_mk {nr fv : Int} (hp2 : p2 ≤ ns.length) (hq2 : q2 ≤ ns'.length) (hP : P ≤ p2) (hR : R ≤ q2) (hsk : ¬ SkipAt ns ns' p1 q1 P R) (hrun : IsRun ns ns' p2 q2 P R rr) (hnr : nr = nearOf ns ns' p1 q1 P R) (hf : farOf ns ns' p2 q2 (P + rr) (R + rr) = fv) :
    Found ns ns' p1 p2 q1 q2 P R ((placesL ns).getD (P : Int).toNat 0 - (placesL ns).getD ((P : Int) + (rr : Int)).toNat 0 - nr - fv, (placesL ns).getD (P : Int).toNat 0 - nr, (placesL ns').getD (R : Int).toNat 0 - nr) := by
  have hrr := run_le hrun hP hR
  refine ⟨hsk, rr, hrun, ?_⟩
  unfold foundOf placeN
  rw [toN, Int.toNat_natCast, Int.toNat_natCast, places_at (by first | lia | omega), places_at (by first | lia | omega), places_at (by first | lia | omega), hf, hnr]
end
theorem drop2 {α : Type} {a b p : α} {r : List α} (h : p ∈ a :: r) : p ∈ a :: b :: r := (List.mem_cons.mp h).elim (fun e => e ▸ .head _) fun h => .tail _ (.tail _ h)
theorem half4 {dp un : Nat} {gd : Option (List Code)} {cn : PySem.Str} {cs : Scope} {a : Addr} {ccd : Value} {cl : List (PySem.Str × Addr)} {outer : List Env} {base h₀ : Heap} {L L₀ : Addr} {s : Shared} {Post : Flow → Shared → Prop}
    {l r D D' hb tb bt : Addr} {ns ns' : List Int} {vs vs' ys ys' vsh vst : List Value} {nh nt : Nat} {oH oT : Obj} {own : Led} {p1 p2 q1 q2 P R : Nat} {t1 t2 t3 t4 tp tq tn tf tr : Tok} {m : PySem.Str → Option Value} {h : Heap} {tk : Nat} {nr : Int} {rr : Nat} {fv : Int} {b : Int × Int × Int} {tx ty tz : Tok} {Done Done' : Nat → Nat → Prop}
    (hu : un + 16 < cLine) (B : Below (ktrTop dp un gd cn cs L₀ a ccd cl outer) base (envX cn cs L₀ a ccd cl :: outer) h₀) (X : (KK w.params).In h₀) (T : Top p loose mean mg mb h₀)
    (hI : IntsAre vs ns) (hI' : IntsAre vs' ns') (hl : h₀.IsList l vs.toArray) (hr : h₀.IsList r vs'.toArray) (hn : ns.length ≤ 7) (hn' : ns'.length ≤ 8)
    (hp2 : p2 ≤ ns.length) (hq2 : q2 ≤ ns'.length) (hP1 : p1 ≤ P) (hP : P ≤ p2) (hR1 : q1 ≤ R) (hR : R ≤ q2)
    (hH : oH.data = .cell (some (.ref hb))) (hT : oT.data = .cell (some (.ref tb))) (iH : IntsAre vsh (placesL ns)) (iT : IntsAre vst (placesL ns'))
    (hys : ys.length = ns.length) (hyv : ∀ (j : Nat) (y : Value), ys[j]? = some y → y = .bool (longB (ns.getD j 0))) (hys' : ys'.length = ns'.length) (hyv' : ∀ (j : Nat) (y : Value), ys'[j]? = some y → y = .bool (longB (ns'.getD j 0)))
    (hf : farOf ns ns' p2 q2 (P + rr) (R + rr) = fv) (hrun : IsRun ns ns' p2 q2 P R rr) (hnr : nr = nearOf ns ns' p1 q1 P R) (hsk : ¬ SkipAt ns ns' p1 q1 P R) (hB : BestAt ns ns' p1 p2 q1 q2 Done b) (hDone : ∀ p q, Done' p q ↔ Done p q ∨ (p = P ∧ q = R))
    (F : Fr h₀ L h m) (N : News h₀ L h ((bt, tup3 b.1 b.2.1 b.2.2 tx ty tz) :: ledRun L D D' hb tb ys ys' vsh vst nh nt oH oT own))
    (hfr : m (Str.ofString "far") = some (.int fv tf)) (hc0 : ∀ p ∈ (Str.ofString "p", Value.int P tp) :: (Str.ofString "q", .int R tq) :: (Str.ofString "near", .int nr tn) :: (Str.ofString "r", .int rr tr) :: (Str.ofString "best", .ref bt) :: cstRun l r D D' p1 p2 q1 q2 t1 t2 t3 t4, m p.1 = some p.2)
    (hend : ∀ h' tk' m' bt' b' tx ty tz, Fr h₀ L h' m' → News h₀ L h' ((bt', tup3 b'.1 b'.2.1 b'.2.2 tx ty tz) :: ledRun L D D' hb tb ys ys' vsh vst nh nt oH oT own) →
      (∀ p ∈ (Str.ofString "p", Value.int P tp) :: (Str.ofString "best", .ref bt') :: cstRun l r D D' p1 p2 q1 q2 t1 t2 t3 t4, m' p.1 = some p.2) → BestAt ns ns' p1 p2 q1 q2 Done' b' → Post .next { s with heap := h', toks := tk' }) :
    wpAny (model PR w) ((ktrTop dp un gd cn cs L₀ a ccd cl outer).deeper (envRun L)) (execs (inBody.drop 4) (envRun L)) Post NoE { s with heap := h, toks := tk } := by
  unfold PR
  k_fill
  have hL1 := placesL_len ns
  have hL2 := placesL_len ns'
  have hV1 := hI.length
  have hV2 := hI'.length
  have hrr := run_le hrun hP hR
  replace F := fr_ovl (List.forall_mem_cons.mpr ⟨hfr, hc0⟩ : ∀ p ∈ (Str.ofString "far", Value.int fv tf) :: _, m p.1 = some p.2) F
  dsimp only [ovl] at F
  k_steps
  repeat (
    any_goals first
      | with_reducible (k_here; (with_reducible show wpAny _ _ (compareOp CmpOp.Lt (Value.ref _) (Value.ref _)) _ _ _); (refine' tup_lt' ?k1 ?k2 ?k3 ?_; (case k1 | k2 => exact News.get (by assumption) (by k_mem)); (case k3 => exact units3 (by assumption)); k_whole))
      | (k_here; (with_reducible show wpAny _ _ (compareOp CmpOp.Lt (Value.ref _) (Value.ref _)) _ _ _); (refine' tup_lt' ?k1 ?k2 ?k3 ?_; (case k1 | k2 => exact News.get (by assumption) (by k_mem)); (case k3 => exact units3 (by assumption)); k_whole))
      | fail
    all_goals k_steps)
  all_goals (
    rename Fr _ _ _ _ => F3
    rename News _ _ _ _ => N3
    first
    | (refine hend _ _ _ _ (_, _, _) _ _ _ F3 (fun p hp => N3 p (drop2 hp)) ?hcs (best_take hB (found_mk hp2 hq2 hP hR hsk hrun hnr hf) (lex_of (by assumption)) hDone))
    | (refine hend _ _ _ _ b _ _ _ F3 (fun p hp => N3 p (.tail _ hp)) ?hcs (best_keep hB (found_mk hp2 hq2 hP hR hsk hrun hnr hf) (lex_not (by assumption)) hDone))
    | (refine hend _ _ _ _ b _ _ _ F3 (fun p hp => N3 p (.tail _ hp)) ?hcs (best_keep hB (found_mk hp2 hq2 hP hR hsk hrun hnr hf) (lex_not2 (by assumption)) hDone))
    case hcs => (repeat (refine List.forall_mem_cons.mpr ⟨rfl, ?_⟩)); exact fun _ h => nomatch h)
local macro_rules | `(tactic| walk_at "execs cons Assign") => `(tactic| ((with_reducible show wpAny _ _ (execs (_ :: _ :: _) _) _ _ _); refine stop_ ?_))
theorem half3 {dp un : Nat} {gd : Option (List Code)} {cn : PySem.Str} {cs : Scope} {a : Addr} {ccd : Value} {cl : List (PySem.Str × Addr)} {outer : List Env} {base h₀ : Heap} {L L₀ : Addr} {s : Shared} {Post : Flow → Shared → Prop}
    {l r D D' hb tb bt : Addr} {ns ns' : List Int} {vs vs' ys ys' vsh vst : List Value} {nh nt : Nat} {oH oT : Obj} {own : Led} {p1 p2 q1 q2 P R : Nat} {t1 t2 t3 t4 tp tq tn tf tr : Tok} {m : PySem.Str → Option Value} {h : Heap} {tk : Nat} {nr : Int} {rr : Nat} {b : Int × Int × Int} {tx ty tz : Tok} {Done Done' : Nat → Nat → Prop}
    (hu : un + 16 < cLine) (B : Below (ktrTop dp un gd cn cs L₀ a ccd cl outer) base (envX cn cs L₀ a ccd cl :: outer) h₀) (X : (KK w.params).In h₀) (T : Top p loose mean mg mb h₀)
    (hI : IntsAre vs ns) (hI' : IntsAre vs' ns') (hl : h₀.IsList l vs.toArray) (hr : h₀.IsList r vs'.toArray) (hn : ns.length ≤ 7) (hn' : ns'.length ≤ 8)
    (hp2 : p2 ≤ ns.length) (hq2 : q2 ≤ ns'.length) (hP1 : p1 ≤ P) (hP : P ≤ p2) (hR1 : q1 ≤ R) (hR : R ≤ q2)
    (hH : oH.data = .cell (some (.ref hb))) (hT : oT.data = .cell (some (.ref tb))) (iH : IntsAre vsh (placesL ns)) (iT : IntsAre vst (placesL ns'))
    (hys : ys.length = ns.length) (hyv : ∀ (j : Nat) (y : Value), ys[j]? = some y → y = .bool (longB (ns.getD j 0))) (hys' : ys'.length = ns'.length) (hyv' : ∀ (j : Nat) (y : Value), ys'[j]? = some y → y = .bool (longB (ns'.getD j 0)))
    (hrun : IsRun ns ns' p2 q2 P R rr) (hnr : nr = nearOf ns ns' p1 q1 P R) (hsk : ¬ SkipAt ns ns' p1 q1 P R) (hB : BestAt ns ns' p1 p2 q1 q2 Done b) (hDone : ∀ p q, Done' p q ↔ Done p q ∨ (p = P ∧ q = R))
    (F : Fr h₀ L h m) (N : News h₀ L h ((bt, tup3 b.1 b.2.1 b.2.2 tx ty tz) :: ledRun L D D' hb tb ys ys' vsh vst nh nt oH oT own))
    (hc : ∀ p ∈ (Str.ofString "p", Value.int P tp) :: (Str.ofString "q", .int R tq) :: (Str.ofString "near", .int nr tn) :: (Str.ofString "far", .int 0 tf) :: (Str.ofString "r", .int rr tr) :: (Str.ofString "best", .ref bt) :: cstRun l r D D' p1 p2 q1 q2 t1 t2 t3 t4, m p.1 = some p.2)
    (hend : ∀ h' tk' m' bt' b' tx ty tz, Fr h₀ L h' m' → News h₀ L h' ((bt', tup3 b'.1 b'.2.1 b'.2.2 tx ty tz) :: ledRun L D D' hb tb ys ys' vsh vst nh nt oH oT own) →
      (∀ p ∈ (Str.ofString "p", Value.int P tp) :: (Str.ofString "best", .ref bt') :: cstRun l r D D' p1 p2 q1 q2 t1 t2 t3 t4, m' p.1 = some p.2) → BestAt ns ns' p1 p2 q1 q2 Done' b' → Post .next { s with heap := h', toks := tk' }) :
    wpAny (model PR w) ((ktrTop dp un gd cn cs L₀ a ccd cl outer).deeper (envRun L)) (execs (inBody.drop 3) (envRun L)) Post NoE { s with heap := h, toks := tk } := by
  unfold PR
  k_fill
  have hL1 := placesL_len ns
  have hL2 := placesL_len ns'
  have hV1 := hI.length
  have hV2 := hI'.length
  have hrr := run_le hrun hP hR
  have F2 := fr_ovl hc F
  dsimp only [ovl] at F2
  have nxt := fun (fv : Int) (tf' : Tok) (tk' : Tok) (m' : PySem.Str → Option Value) (h' : Heap) (F' : Fr h₀ L h' m') (N' : News h₀ L h' ((bt, tup3 b.1 b.2.1 b.2.2 tx ty tz) :: ledRun L D D' hb tb ys ys' vsh vst nh nt oH oT own)) hfr' hc' hf => half4 (s := s) (m := m') (h := h') (tk := tk') (fv := fv) (tf := tf') (tp := tp) (tq := tq) (tn := tn) (tr := tr) (t1 := t1) (t2 := t2) (t3 := t3) (t4 := t4) hu B X T hI hI' hl hr hn hn' hp2 hq2 hP1 hP hR1 hR hH hT iH iT hys hyv hys' hyv' hf hrun hnr hsk hB hDone F' N' hfr' hc' hend
  unfold PR at nxt
  clear F hc hend hB hDone hsk hnr
  k_steps
  repeat (
    any_goals first
      | with_reducible (k_here; (with_reducible show wpAny _ _ (compareOp CmpOp.Lt (Value.ref _) (Value.ref _)) _ _ _); (refine' tup_lt' ?k1 ?k2 ?k3 ?_; (case k1 | k2 => exact News.get (by assumption) (by k_mem)); (case k3 => exact units3 (by assumption)); k_whole))
      | (k_here; (with_reducible show wpAny _ _ (compareOp CmpOp.Lt (Value.ref _) (Value.ref _)) _ _ _); (refine' tup_lt' ?k1 ?k2 ?k3 ?_; (case k1 | k2 => exact News.get (by assumption) (by k_mem)); (case k3 => exact units3 (by assumption)); k_whole))
      | fail
    all_goals k_steps)
  all_goals (
    unfold Stop
    rename Fr _ _ _ _ => F3
    rename News _ _ _ _ => N3
    refine nxt _ _ _ _ _ F3 N3 rfl ?hcs ?hfar
    case hcs => (repeat (refine List.forall_mem_cons.mpr ⟨rfl, ?_⟩)); exact fun _ h => nomatch h
    case hfar => first | exact far2 (by assumption) (by assumption) (by assumption) (by assumption) (by assumption) | exact far1 (by assumption) (by assumption) (by assumption) (by assumption) (by assumption) | exact far0a (by assumption) | exact far0b (by assumption) | exact far0c (by assumption) | exact far0d (by assumption))
end
end Mine
end

-- E7b
section
open PySem PySem.W PyProof.Rows PySem.Calls
set_option maxRecDepth 100000
set_option maxHeartbeats 0
namespace Mine
section
variable {w : World} {p : Program} {loose : List Str} {mean : MeanT} {mg mb : Str → Option Value}

theorem run_le' {ns ns' : List Int} {p2 q2 P R rr : Nat} (h : ∀ t, t < rr → P + t < p2 ∧ R + t < q2 ∧ ns.getD (P + t) 0 = ns'.getD (R + t) 0) (hP : P ≤ p2) (hR : R ≤ q2) : P + rr ≤ p2 ∧ R + rr ≤ q2 := by
  cases rr with
  | zero => exact ⟨hP, hR⟩
  | succ k =>
    have := h k (Nat.lt_succ_self _)
    (first | lia | omega)
section
variable {ns ns' : List Int} {p2 q2 P R rr : Nat}
theorem run_step (h1 : (P : Int) + (rr : Int) < (p2 : Int)) (h2 : (R : Int) + (rr : Int) < (q2 : Int)) (h3 : ns.getD ((P : Int) + (rr : Int)).toNat 0 = ns'.getD ((R : Int) + (rr : Int)).toNat 0) : P + rr < p2 ∧ R + rr < q2 ∧ ns.getD (P + rr) 0 = ns'.getD (R + rr) 0 := by
  rw [toN, toN] at h3
  exact ⟨by (first | lia | omega), by (first | lia | omega), h3⟩
theorem run_no3 (h3 : ns.getD ((P : Int) + (rr : Int)).toNat 0 ≠ ns'.getD ((R : Int) + (rr : Int)).toNat 0) : ¬ (P + rr < p2 ∧ R + rr < q2 ∧ ns.getD (P + rr) 0 = ns'.getD (R + rr) 0) := fun h => h3 (by rw [toN, toN]; exact h.2.2)
theorem run_no2 (h2 : ¬ (R : Int) + (rr : Int) < (q2 : Int)) : ¬ (P + rr < p2 ∧ R + rr < q2 ∧ ns.getD (P + rr) 0 = ns'.getD (R + rr) 0) := fun h => h2 (by first | lia | omega)
theorem run_no1 (h1 : ¬ (P : Int) + (rr : Int) < (p2 : Int)) : ¬ (P + rr < p2 ∧ R + rr < q2 ∧ ns.getD (P + rr) 0 = ns'.getD (R + rr) 0) := fun h => h1 (by first | lia | omega)
end
local macro_rules | `(tactic| walk_at "exec While BoolOp") => `(tactic| refine stop_ ?_)
local macro_rules | `(tactic| walk_at "execs cons If") => `(tactic| refine stop_ ?_)
theorem half2 {dp un : Nat} {gd : Option (List Code)} {cn : PySem.Str} {cs : Scope} {a : Addr} {ccd : Value} {cl : List (PySem.Str × Addr)} {outer : List Env} {base h₀ : Heap} {L L₀ : Addr} {s : Shared} {Post : Flow → Shared → Prop}
    {l r D D' hb tb bt : Addr} {ns ns' : List Int} {vs vs' ys ys' vsh vst : List Value} {nh nt : Nat} {oH oT : Obj} {own : Led} {p1 p2 q1 q2 P R : Nat} {t1 t2 t3 t4 tp tq tn tf tr : Tok} {m : PySem.Str → Option Value} {h : Heap} {tk : Nat} {nr : Int} {b : Int × Int × Int} {tx ty tz : Tok} {Done Done' : Nat → Nat → Prop}
    (hu : un + 16 < cLine) (B : Below (ktrTop dp un gd cn cs L₀ a ccd cl outer) base (envX cn cs L₀ a ccd cl :: outer) h₀) (X : (KK w.params).In h₀) (T : Top p loose mean mg mb h₀)
    (hI : IntsAre vs ns) (hI' : IntsAre vs' ns') (hl : h₀.IsList l vs.toArray) (hr : h₀.IsList r vs'.toArray) (hn : ns.length ≤ 7) (hn' : ns'.length ≤ 8)
    (hp2 : p2 ≤ ns.length) (hq2 : q2 ≤ ns'.length) (hP1 : p1 ≤ P) (hP : P ≤ p2) (hR1 : q1 ≤ R) (hR : R ≤ q2)
    (hH : oH.data = .cell (some (.ref hb))) (hT : oT.data = .cell (some (.ref tb))) (iH : IntsAre vsh (placesL ns)) (iT : IntsAre vst (placesL ns'))
    (hys : ys.length = ns.length) (hyv : ∀ (j : Nat) (y : Value), ys[j]? = some y → y = .bool (longB (ns.getD j 0))) (hys' : ys'.length = ns'.length) (hyv' : ∀ (j : Nat) (y : Value), ys'[j]? = some y → y = .bool (longB (ns'.getD j 0)))
    (hnr : nr = nearOf ns ns' p1 q1 P R) (hsk : ¬ SkipAt ns ns' p1 q1 P R) (hB : BestAt ns ns' p1 p2 q1 q2 Done b) (hDone : ∀ p q, Done' p q ↔ Done p q ∨ (p = P ∧ q = R))
    (F : Fr h₀ L h m) (N : News h₀ L h ((bt, tup3 b.1 b.2.1 b.2.2 tx ty tz) :: ledRun L D D' hb tb ys ys' vsh vst nh nt oH oT own))
    (hc : ∀ p ∈ (Str.ofString "p", Value.int P tp) :: (Str.ofString "q", .int R tq) :: (Str.ofString "near", .int nr tn) :: (Str.ofString "far", .int 0 tf) :: (Str.ofString "r", .int 0 tr) :: (Str.ofString "best", .ref bt) :: cstRun l r D D' p1 p2 q1 q2 t1 t2 t3 t4, m p.1 = some p.2)
    (hend : ∀ h' tk' m' bt' b' tx ty tz, Fr h₀ L h' m' → News h₀ L h' ((bt', tup3 b'.1 b'.2.1 b'.2.2 tx ty tz) :: ledRun L D D' hb tb ys ys' vsh vst nh nt oH oT own) →
      (∀ p ∈ (Str.ofString "p", Value.int P tp) :: (Str.ofString "best", .ref bt') :: cstRun l r D D' p1 p2 q1 q2 t1 t2 t3 t4, m' p.1 = some p.2) → BestAt ns ns' p1 p2 q1 q2 Done' b' → Post .next { s with heap := h', toks := tk' }) :
    wpAny (model PR w) ((ktrTop dp un gd cn cs L₀ a ccd cl outer).deeper (envRun L)) (execs (inBody.drop 2) (envRun L)) Post NoE { s with heap := h, toks := tk } := by
  unfold PR
  k_fill
  have hL1 := placesL_len ns
  have hL2 := placesL_len ns'
  have hV1 := hI.length
  have hV2 := hI'.length
  k_steps
  unfold Stop
  refine While_inv2 (fun n m' nx => ∃ (rr : Nat) (tr' : Tok), nx = (bt, tup3 b.1 b.2.1 b.2.2 tx ty tz) :: ledRun L D D' hb tb ys ys' vsh vst nh nt oH oT own ∧ n = p2 + 1 - rr ∧ (∀ t, t < rr → P + t < p2 ∧ R + t < q2 ∧ ns.getD (P + t) 0 = ns'.getD (R + t) 0) ∧
    ∀ p ∈ (Str.ofString "p", Value.int P tp) :: (Str.ofString "q", .int R tq) :: (Str.ofString "near", .int nr tn) :: (Str.ofString "far", .int 0 tf) :: (Str.ofString "r", .int rr tr') :: (Str.ofString "best", .ref bt) :: cstRun l r D D' p1 p2 q1 q2 t1 t2 t3 t4, m' p.1 = some p.2) (n₀ := p2 + 1)
    F N ⟨0, tr, rfl, rfl, (fun _ h => absurd h (Nat.not_lt_zero _)), hc⟩ ?_
  rintro n m₁ _ h₁ tk₁ F1 N1 ⟨rr, tr', rfl, rfl, hrun, hc1⟩
  have F2 := fr_ovl hc1 F1
  dsimp only [ovl] at F2
  have hrr := run_le' hrun hP hR
  have hfin : ∀ tk', ¬ (P + rr < p2 ∧ R + rr < q2 ∧ ns.getD (P + rr) 0 = ns'.getD (R + rr) 0) → wpAny (model PR w) ((ktrTop dp un gd cn cs L₀ a ccd cl outer).deeper (envRun L)) (execs (inBody.drop 3) (envRun L)) Post NoE { s with heap := h₁, toks := tk' } := fun tk' hno =>
    half3 hu B X T hI hI' hl hr hn hn' hp2 hq2 hP1 hP hR1 hR hH hT iH iT hys hyv hys' hyv' ⟨hrun, hno⟩ hnr hsk hB hDone F1 N1 hc1 hend
  unfold PR at hfin
  clear F N hc hend hB hDone hsk hnr
  k_steps
  · rename Fr _ _ _ _ => F3
    rename News _ _ _ _ => N3
    refine ⟨_, _, _, _, p2 + 1 - (rr + 1), rfl, F3, N3, by (first | lia | omega), rr + 1, _, rfl, rfl, ?_, List.forall_mem_cons.mpr ⟨rfl, List.forall_mem_cons.mpr ⟨rfl, List.forall_mem_cons.mpr ⟨rfl, List.forall_mem_cons.mpr ⟨rfl, List.forall_mem_cons.mpr ⟨rfl, List.forall_mem_cons.mpr ⟨rfl, List.forall_mem_cons.mpr ⟨rfl, List.forall_mem_cons.mpr ⟨rfl, List.forall_mem_cons.mpr ⟨rfl, List.forall_mem_cons.mpr ⟨rfl, List.forall_mem_cons.mpr ⟨rfl, List.forall_mem_cons.mpr ⟨rfl, List.forall_mem_cons.mpr ⟨rfl, List.forall_mem_cons.mpr ⟨rfl, (fun _ h => nomatch h)⟩⟩⟩⟩⟩⟩⟩⟩⟩⟩⟩⟩⟩⟩⟩
    · intro t ht
      rcases Nat.lt_succ_iff_lt_or_eq.mp ht with h | rfl
      · exact hrun t h
      · exact run_step (by assumption) (by assumption) (by assumption)
  · exact hfin _ (run_no3 (by assumption))
  · exact hfin _ (run_no2 (by assumption))
  · exact hfin _ (run_no1 (by assumption))
end
end Mine
end

-- E7c
section
open PySem PySem.W PyProof.Rows PySem.Calls
set_option maxRecDepth 100000
set_option maxHeartbeats 0
namespace Mine
section
variable {w : World} {p : Program} {loose : List Str} {mean : MeanT} {mg mb : Str → Option Value}

section
variable {ns ns' : List Int} {p1 q1 P R : Nat}
theorem toN1 (a : Nat) : ((a : Int) - 1).toNat = a - 1 := by (first | lia | omega)
theorem nskip1 (h : ¬ (p1 : Int) < (P : Int)) : ¬ SkipAt ns ns' p1 q1 P R := fun k => h (by have := k.1; (first | lia | omega))
theorem nskip2 (h : ¬ (q1 : Int) < (R : Int)) : ¬ SkipAt ns ns' p1 q1 P R := fun k => h (by have := k.2.1; (first | lia | omega))
theorem nskip3 (h : ns.getD ((P : Int) - 1).toNat 0 ≠ ns'.getD ((R : Int) - 1).toNat 0) : ¬ SkipAt ns ns' p1 q1 P R := fun k => h (by rw [toN1, toN1]; exact k.2.2)
theorem skip_mk (h1 : (p1 : Int) < (P : Int)) (h2 : (q1 : Int) < (R : Int)) (h : ns.getD ((P : Int) - 1).toNat 0 = ns'.getD ((R : Int) - 1).toNat 0) : SkipAt ns ns' p1 q1 P R := by
  rw [toN1, toN1] at h
  exact ⟨by (first | lia | omega), by (first | lia | omega), h⟩
theorem near0a (h : ¬ (p1 : Int) < (P : Int)) : 0 = nearOf ns ns' p1 q1 P R := by unfold nearOf NearAt; rw [if_neg fun k => h (by have := k.1; (first | lia | omega))]
theorem near0b (h : ¬ (q1 : Int) < (R : Int)) : 0 = nearOf ns ns' p1 q1 P R := by unfold nearOf NearAt; rw [if_neg fun k => h (by have := k.2.1; (first | lia | omega))]
theorem near0c (h : longB (ns.getD ((P : Int) - 1).toNat 0) = false) : 0 = nearOf ns ns' p1 q1 P R := by
  rw [toN1] at h
  unfold nearOf NearAt; rw [if_neg fun k => by rw [h] at k; exact Bool.false_ne_true k.2.2.1]
theorem near0d (h : longB (ns'.getD ((R : Int) - 1).toNat 0) = false) : 0 = nearOf ns ns' p1 q1 P R := by
  rw [toN1] at h
  unfold nearOf NearAt; rw [if_neg fun k => by rw [h] at k; exact Bool.false_ne_true k.2.2.2.1]
theorem near0e (h : (ns.getD ((P : Int) - 1).toNat 0).fmod 16 ≠ (ns'.getD ((R : Int) - 1).toNat 0).fmod 16) : 0 = nearOf ns ns' p1 q1 P R := by
  rw [toN1, toN1] at h
  unfold nearOf NearAt; rw [if_neg fun k => h k.2.2.2.2]
theorem near1 (h1 : (p1 : Int) < (P : Int)) (h2 : (q1 : Int) < (R : Int)) (h3 : longB (ns.getD ((P : Int) - 1).toNat 0) = true) (h4 : longB (ns'.getD ((R : Int) - 1).toNat 0) = true) (h : (ns.getD ((P : Int) - 1).toNat 0).fmod 16 = (ns'.getD ((R : Int) - 1).toNat 0).fmod 16) : 1 = nearOf ns ns' p1 q1 P R := by
  rw [toN1] at h3 h4
  rw [toN1, toN1] at h
  unfold nearOf NearAt; rw [if_pos ⟨by (first | lia | omega), by (first | lia | omega), h3, h4, h⟩]
end
local macro_rules | `(tactic| walk_at "ite") => `(tactic| with_reducible refine ite_tt ?_)
local macro_rules | `(tactic| walk_at "ite") => `(tactic| with_reducible refine ite_ff ?_)
structure StopHere : Prop where
theorem stopG {P : Prop} (_ : StopHere) (h : Stop P) : P := h
local macro_rules | `(tactic| walk_at "execs nil") => `(tactic| ((with_reducible rename StopHere => hS9); refine stopG hS9 ?_))
local macro_rules | `(tactic| walk_at "execs cons Assign nil") => `(tactic| ((with_reducible rename StopHere => hS9); refine stopG hS9 ?_))
local macro_rules | `(tactic| walk_at "execs cons While") => `(tactic| refine stop_ ?_)
local macro_rules | `(tactic| walk_at "subscriptTail") => `(tactic| (k_here; (with_reducible show wpAny _ _ (subscriptTail _ _ (Value.ref _) (Value.int _ _)) _ _ _); (with_unfolding_all apply item_bool; exact News.get (by assumption) (by k_mem); assumption; omega; omega; omega; rotate_left; with_unfolding_all rfl; k_whole)))
theorem inTurn {dp un : Nat} {gd : Option (List Code)} {cn : PySem.Str} {cs : Scope} {a : Addr} {ccd : Value} {cl : List (PySem.Str × Addr)} {outer : List Env} {base h₀ : Heap} {L L₀ : Addr} {s : Shared} {Post : Flow → Shared → Prop}
    {l r D D' hb tb bt : Addr} {ns ns' : List Int} {vs vs' ys ys' vsh vst : List Value} {nh nt : Nat} {oH oT : Obj} {own : Led} {p1 p2 q1 q2 P R : Nat} {t1 t2 t3 t4 tp tq : Tok} {m : PySem.Str → Option Value} {h : Heap} {tk : Nat} {b : Int × Int × Int} {tx ty tz : Tok} {Done Done' : Nat → Nat → Prop}
    (hu : un + 16 < cLine) (B : Below (ktrTop dp un gd cn cs L₀ a ccd cl outer) base (envX cn cs L₀ a ccd cl :: outer) h₀) (X : (KK w.params).In h₀) (T : Top p loose mean mg mb h₀)
    (hI : IntsAre vs ns) (hI' : IntsAre vs' ns') (hl : h₀.IsList l vs.toArray) (hr : h₀.IsList r vs'.toArray) (hn : ns.length ≤ 7) (hn' : ns'.length ≤ 8)
    (hp2 : p2 ≤ ns.length) (hq2 : q2 ≤ ns'.length) (hP1 : p1 ≤ P) (hP : P ≤ p2) (hR1 : q1 ≤ R) (hR : R ≤ q2)
    (hH : oH.data = .cell (some (.ref hb))) (hT : oT.data = .cell (some (.ref tb))) (iH : IntsAre vsh (placesL ns)) (iT : IntsAre vst (placesL ns'))
    (hys : ys.length = ns.length) (hyv : ∀ (j : Nat) (y : Value), ys[j]? = some y → y = .bool (longB (ns.getD j 0))) (hys' : ys'.length = ns'.length) (hyv' : ∀ (j : Nat) (y : Value), ys'[j]? = some y → y = .bool (longB (ns'.getD j 0)))
    (hB : BestAt ns ns' p1 p2 q1 q2 Done b) (hDone : ∀ p q, Done' p q ↔ Done p q ∨ (p = P ∧ q = R))
    (F : Fr h₀ L h m) (N : News h₀ L h ((bt, tup3 b.1 b.2.1 b.2.2 tx ty tz) :: ledRun L D D' hb tb ys ys' vsh vst nh nt oH oT own))
    (hc : ∀ p ∈ (Str.ofString "p", Value.int P tp) :: (Str.ofString "q", .int R tq) :: (Str.ofString "best", .ref bt) :: cstRun l r D D' p1 p2 q1 q2 t1 t2 t3 t4, m p.1 = some p.2)
    (hend : ∀ f h' tk' m' bt' b' tx ty tz, (f = Flow.next ∨ f = Flow.cont) → Fr h₀ L h' m' → News h₀ L h' ((bt', tup3 b'.1 b'.2.1 b'.2.2 tx ty tz) :: ledRun L D D' hb tb ys ys' vsh vst nh nt oH oT own) →
      (∀ p ∈ (Str.ofString "p", Value.int P tp) :: (Str.ofString "best", .ref bt') :: cstRun l r D D' p1 p2 q1 q2 t1 t2 t3 t4, m' p.1 = some p.2) → BestAt ns ns' p1 p2 q1 q2 Done' b' → Post f { s with heap := h', toks := tk' }) :
    wpAny (model PR w) ((ktrTop dp un gd cn cs L₀ a ccd cl outer).deeper (envRun L)) (execs inBody (envRun L)) Post NoE { s with heap := h, toks := tk } := by
  unfold PR
  k_fill
  have hL1 := placesL_len ns
  have hL2 := placesL_len ns'
  have hV1 := hI.length
  have hV2 := hI'.length
  have F2 := fr_ovl hc F
  dsimp only [ovl] at F2
  clear F hc
  have hS : StopHere := StopHere.mk
  k_steps
  all_goals (try (unfold Stop))
  · (with_reducible rename StopHere => hS9); clear hS9
    rename Fr _ _ _ _ => F3
    rename News _ _ _ _ => N3
    exact hend .cont _ _ _ bt b _ _ _ (.inr rfl) F3 (fun p hp => N3 p (.tail _ hp)) (List.forall_mem_cons.mpr ⟨rfl, List.forall_mem_cons.mpr ⟨rfl, List.forall_mem_cons.mpr ⟨rfl, List.forall_mem_cons.mpr ⟨rfl, List.forall_mem_cons.mpr ⟨rfl, List.forall_mem_cons.mpr ⟨rfl, List.forall_mem_cons.mpr ⟨rfl, List.forall_mem_cons.mpr ⟨rfl, List.forall_mem_cons.mpr ⟨rfl, List.forall_mem_cons.mpr ⟨rfl, (fun _ h => nomatch h)⟩⟩⟩⟩⟩⟩⟩⟩⟩⟩) (best_skip hB (skip_mk (by assumption) (by assumption) (by assumption)) hDone)
  · have hsk : ¬ SkipAt ns ns' p1 q1 P R := nskip3 (by assumption)
    rename (List.getD _ _ _ ≠ List.getD _ _ _) => e1
    clear e1
    refine wpAny_execs_nil ?_
    dsimp only
    k_steps
    all_goals (try (unfold Stop))
    · have hnr : 1 = nearOf ns ns' p1 q1 P R := near1 (by assumption) (by assumption) (by assumption) (by assumption) (by assumption)
      (with_reducible rename StopHere => hS9); clear hS9
      rename (Int.fmod _ _ = Int.fmod _ _) => e1
      clear e1
      k_steps
      unfold Stop
      rename Fr _ _ _ _ => F3
      rename News _ _ _ _ => N3
      exact half2 hu B X T (by assumption) (by assumption) hl hr hn hn' hp2 hq2 hP1 hP hR1 hR hH hT (by assumption) (by assumption) hys hyv hys' hyv' hnr hsk hB hDone F3 (fun p hp => N3 p (.tail _ hp)) (List.forall_mem_cons.mpr ⟨rfl, List.forall_mem_cons.mpr ⟨rfl, List.forall_mem_cons.mpr ⟨rfl, List.forall_mem_cons.mpr ⟨rfl, List.forall_mem_cons.mpr ⟨rfl, List.forall_mem_cons.mpr ⟨rfl, List.forall_mem_cons.mpr ⟨rfl, List.forall_mem_cons.mpr ⟨rfl, List.forall_mem_cons.mpr ⟨rfl, List.forall_mem_cons.mpr ⟨rfl, List.forall_mem_cons.mpr ⟨rfl, List.forall_mem_cons.mpr ⟨rfl, List.forall_mem_cons.mpr ⟨rfl, List.forall_mem_cons.mpr ⟨rfl, (fun _ h => nomatch h)⟩⟩⟩⟩⟩⟩⟩⟩⟩⟩⟩⟩⟩⟩) (fun h' tk' m' bt' b' tx ty tz F N c B => hend .next h' tk' m' bt' b' tx ty tz (.inl rfl) F N c B)
    all_goals (
      have hnr : 0 = nearOf ns ns' p1 q1 P R := by first | exact near0e (by assumption) | exact near0d (by assumption) | exact near0c (by assumption)
      (with_reducible rename StopHere => hS9); clear hS9
      try (rename (Int.fmod _ _ ≠ Int.fmod _ _) => e1; clear e1)
      refine wpAny_execs_nil ?_
      dsimp only
      k_steps
      unfold Stop
      rename Fr _ _ _ _ => F3
      rename News _ _ _ _ => N3
      exact half2 hu B X T (by assumption) (by assumption) hl hr hn hn' hp2 hq2 hP1 hP hR1 hR hH hT (by assumption) (by assumption) hys hyv hys' hyv' hnr hsk hB hDone F3 (fun p hp => N3 p (.tail _ hp)) (List.forall_mem_cons.mpr ⟨rfl, List.forall_mem_cons.mpr ⟨rfl, List.forall_mem_cons.mpr ⟨rfl, List.forall_mem_cons.mpr ⟨rfl, List.forall_mem_cons.mpr ⟨rfl, List.forall_mem_cons.mpr ⟨rfl, List.forall_mem_cons.mpr ⟨rfl, List.forall_mem_cons.mpr ⟨rfl, List.forall_mem_cons.mpr ⟨rfl, List.forall_mem_cons.mpr ⟨rfl, List.forall_mem_cons.mpr ⟨rfl, List.forall_mem_cons.mpr ⟨rfl, List.forall_mem_cons.mpr ⟨rfl, List.forall_mem_cons.mpr ⟨rfl, (fun _ h => nomatch h)⟩⟩⟩⟩⟩⟩⟩⟩⟩⟩⟩⟩⟩⟩) (fun h' tk' m' bt' b' tx ty tz F N c B => hend .next h' tk' m' bt' b' tx ty tz (.inl rfl) F N c B))
  · have hsk : ¬ SkipAt ns ns' p1 q1 P R := nskip2 (by assumption)
    have hnr : 0 = nearOf ns ns' p1 q1 P R := near0b (by assumption)
    (with_reducible rename StopHere => hS9); clear hS9
    refine wpAny_execs_nil ?_
    dsimp only
    k_steps
    unfold Stop
    rename Fr _ _ _ _ => F3
    rename News _ _ _ _ => N3
    exact half2 hu B X T (by assumption) (by assumption) hl hr hn hn' hp2 hq2 hP1 hP hR1 hR hH hT (by assumption) (by assumption) hys hyv hys' hyv' hnr hsk hB hDone F3 (fun p hp => N3 p (.tail _ hp)) (List.forall_mem_cons.mpr ⟨rfl, List.forall_mem_cons.mpr ⟨rfl, List.forall_mem_cons.mpr ⟨rfl, List.forall_mem_cons.mpr ⟨rfl, List.forall_mem_cons.mpr ⟨rfl, List.forall_mem_cons.mpr ⟨rfl, List.forall_mem_cons.mpr ⟨rfl, List.forall_mem_cons.mpr ⟨rfl, List.forall_mem_cons.mpr ⟨rfl, List.forall_mem_cons.mpr ⟨rfl, List.forall_mem_cons.mpr ⟨rfl, List.forall_mem_cons.mpr ⟨rfl, List.forall_mem_cons.mpr ⟨rfl, List.forall_mem_cons.mpr ⟨rfl, (fun _ h => nomatch h)⟩⟩⟩⟩⟩⟩⟩⟩⟩⟩⟩⟩⟩⟩) (fun h' tk' m' bt' b' tx ty tz F N c B => hend .next h' tk' m' bt' b' tx ty tz (.inl rfl) F N c B)
  · have hsk : ¬ SkipAt ns ns' p1 q1 P R := nskip1 (by assumption)
    have hnr : 0 = nearOf ns ns' p1 q1 P R := near0a (by assumption)
    (with_reducible rename StopHere => hS9); clear hS9
    refine wpAny_execs_nil ?_
    dsimp only
    k_steps
    unfold Stop
    rename Fr _ _ _ _ => F3
    rename News _ _ _ _ => N3
    exact half2 hu B X T (by assumption) (by assumption) hl hr hn hn' hp2 hq2 hP1 hP hR1 hR hH hT (by assumption) (by assumption) hys hyv hys' hyv' hnr hsk hB hDone F3 (fun p hp => N3 p (.tail _ hp)) (List.forall_mem_cons.mpr ⟨rfl, List.forall_mem_cons.mpr ⟨rfl, List.forall_mem_cons.mpr ⟨rfl, List.forall_mem_cons.mpr ⟨rfl, List.forall_mem_cons.mpr ⟨rfl, List.forall_mem_cons.mpr ⟨rfl, List.forall_mem_cons.mpr ⟨rfl, List.forall_mem_cons.mpr ⟨rfl, List.forall_mem_cons.mpr ⟨rfl, List.forall_mem_cons.mpr ⟨rfl, List.forall_mem_cons.mpr ⟨rfl, List.forall_mem_cons.mpr ⟨rfl, List.forall_mem_cons.mpr ⟨rfl, List.forall_mem_cons.mpr ⟨rfl, (fun _ h => nomatch h)⟩⟩⟩⟩⟩⟩⟩⟩⟩⟩⟩⟩⟩⟩) (fun h' tk' m' bt' b' tx ty tz F N c B => hend .next h' tk' m' bt' b' tx ty tz (.inl rfl) F N c B)
end
end Mine
end

-- E7d
section
open PySem PySem.W PyProof.Rows PySem.Calls
set_option maxRecDepth 100000
set_option maxHeartbeats 0
namespace Mine
section
variable {w : World} {p : Program} {loose : List Str} {mean : MeanT} {mg mb : Str → Option Value}

noncomputable def DoneO (p1 q1 q2 i p q : Nat) : Prop := p1 ≤ p ∧ p < p1 + i ∧ q1 ≤ q ∧ q ≤ q2
noncomputable def DoneI (p1 q1 q2 i j p q : Nat) : Prop := DoneO p1 q1 q2 i p q ∨ (p = p1 + i ∧ q1 ≤ q ∧ q < q1 + j)
theorem done_i0 (p1 q1 q2 i p q : Nat) : DoneO p1 q1 q2 i p q ↔ DoneI p1 q1 q2 i 0 p q := ⟨.inl, fun h => h.elim id fun x => absurd x.2.2 (Nat.not_lt.mpr x.2.1)⟩
theorem done_is (p1 q1 q2 i j p q : Nat) : DoneI p1 q1 q2 i (j + 1) p q ↔ DoneI p1 q1 q2 i j p q ∨ (p = p1 + i ∧ q = q1 + j) := by
  constructor
  · rintro (h | ⟨h, h1, h2⟩)
    · exact .inl (.inl h)
    · rcases Nat.lt_or_eq_of_le (Nat.le_of_lt_succ h2) with c | c
      · exact .inl (.inr ⟨h, h1, c⟩)
      · exact .inr ⟨h, c⟩
  · rintro ((h | ⟨h, h1, h2⟩) | ⟨h, h1⟩)
    · exact .inl h
    · exact .inr ⟨h, h1, Nat.lt_succ_of_lt h2⟩
    · exact .inr ⟨h, h1 ▸ Nat.le_add_right _ _, h1 ▸ Nat.lt_succ_self _⟩
theorem done_ie {p1 q1 q2 i : Nat} (h : q1 ≤ q2) (p q : Nat) : DoneI p1 q1 q2 i (q2 + 1 - q1) p q ↔ DoneO p1 q1 q2 (i + 1) p q := by
  have e : q1 + (q2 + 1 - q1) = q2 + 1 := Nat.add_sub_cancel' (Nat.le_succ_of_le h)
  unfold DoneI DoneO
  rw [e]
  constructor
  · rintro (⟨a, b, c⟩ | ⟨rfl, b, c⟩)
    · exact ⟨a, Nat.lt_succ_of_lt b, c⟩
    · exact ⟨Nat.le_add_right _ _, Nat.lt_succ_self _, b, Nat.le_of_lt_succ c⟩
  · rintro ⟨a, b, c, d⟩
    rcases Nat.lt_or_eq_of_le (Nat.le_of_lt_succ b) with x | x
    · exact .inl ⟨a, x, c, d⟩
    · exact .inr ⟨x, c, Nat.lt_succ_of_le d⟩
theorem done_o0 (p1 q1 q2 p q : Nat) : ¬ DoneO p1 q1 q2 0 p q := by unfold DoneO; (first | lia | omega)
theorem range_sizeS {a b : Nat} (h : a ≤ b) : Builtin.Range.rangeSize (a : Int) ((b : Int) + 1) 1 = ((b + 1 - a : Nat) : Int) := by
  have := range_size a (b + 1 - a)
  rwa [show ((a + (b + 1 - a) : Nat) : Int) = (b : Int) + 1 by (first | lia | omega)] at this
theorem range_smallS {a b : Nat} (h : a < 500) (h' : b < 500) : Builtin.Range.small (a : Int) ((b : Int) + 1) 1 = true := by
  have := range_small (a := a) (n := b + 1) (by first | lia | omega) (by first | lia | omega)
  rwa [show ((b + 1 : Nat) : Int) = (b : Int) + 1 by (first | lia | omega)] at this
theorem tup_ne_range : Value.type "tuple" ≠ Value.type "range_iterator" := by decide
theorem off_new {h₀ h : Heap} {L bt bt' : Addr} {o o' : Obj} {own r : Led} {c : Value} (hcl : ∀ p ∈ own, p.2.cls = c) (hoff : OwnOff own (((bt, o) :: r).map (·.1))) (N : News h₀ L h ((bt', o') :: (r ++ own))) (hm : (bt', o') ∈ (bt', o') :: (r ++ own)) (hc : o'.cls ≠ c) : OwnOff own (((bt', o') :: r).map (·.1)) := by
  intro p hp b hb
  rcases List.mem_cons.mp hb with rfl | hb
  · intro e
    have h1 := (N p (.tail _ (List.mem_append_right _ hp))).1
    have h2 := (N _ hm).1
    rw [e] at h1
    dsimp only at h1 h2
    rw [h2] at h1
    have e2 : p.2 = o' := (Option.some.inj h1).symm
    exact hc (e2 ▸ hcl p hp)
  · exact hoff p hp b (.tail _ hb)
local macro_rules | `(tactic| walk_at "pyIter ref") => `(tactic| refine stop_ ?_)
theorem outTurn {dp un : Nat} {gd : Option (List Code)} {cn : PySem.Str} {cs : Scope} {a : Addr} {ccd : Value} {cl : List (PySem.Str × Addr)} {outer : List Env} {base h₀ : Heap} {L L₀ : Addr} {s : Shared} {Post : Flow → Shared → Prop}
    {l r D D' hb tb bt : Addr} {ns ns' : List Int} {vs vs' ys ys' vsh vst : List Value} {nh nt : Nat} {oH oT : Obj} {own : Led} {p1 p2 q1 q2 i : Nat} {t1 t2 t3 t4 tp : Tok} {m : PySem.Str → Option Value} {h : Heap} {tk : Nat} {b : Int × Int × Int} {tx ty tz : Tok}
    (hu : un + 16 < cLine) (B : Below (ktrTop dp un gd cn cs L₀ a ccd cl outer) base (envX cn cs L₀ a ccd cl :: outer) h₀) (X : (KK w.params).In h₀) (T : Top p loose mean mg mb h₀)
    (hI : IntsAre vs ns) (hI' : IntsAre vs' ns') (hl : h₀.IsList l vs.toArray) (hr : h₀.IsList r vs'.toArray) (hn : ns.length ≤ 7) (hn' : ns'.length ≤ 8)
    (hp2 : p2 ≤ ns.length) (hq2 : q2 ≤ ns'.length) (hP : p1 + i ≤ p2) (hq : q1 ≤ q2)
    (hH : oH.data = .cell (some (.ref hb))) (hT : oT.data = .cell (some (.ref tb))) (iH : IntsAre vsh (placesL ns)) (iT : IntsAre vst (placesL ns'))
    (hys : ys.length = ns.length) (hyv : ∀ (j : Nat) (y : Value), ys[j]? = some y → y = .bool (longB (ns.getD j 0))) (hys' : ys'.length = ns'.length) (hyv' : ∀ (j : Nat) (y : Value), ys'[j]? = some y → y = .bool (longB (ns'.getD j 0)))
    (hB : BestAt ns ns' p1 p2 q1 q2 (DoneO p1 q1 q2 i) b)
    (F : Fr h₀ L h m) (N : News h₀ L h ((bt, tup3 b.1 b.2.1 b.2.2 tx ty tz) :: ledRun L D D' hb tb ys ys' vsh vst nh nt oH oT own))
    (hc : ∀ p ∈ (Str.ofString "p", Value.int ((p1 + i : Nat) : Int) tp) :: (Str.ofString "best", .ref bt) :: cstRun l r D D' p1 p2 q1 q2 t1 t2 t3 t4, m p.1 = some p.2)
    (hend : ∀ h' tk' m' bt' b' tx ty tz, Fr h₀ L h' m' → News h₀ L h' ((bt', tup3 b'.1 b'.2.1 b'.2.2 tx ty tz) :: ledRun L D D' hb tb ys ys' vsh vst nh nt oH oT own) →
      (∀ p ∈ (Str.ofString "p", Value.int ((p1 + i : Nat) : Int) tp) :: (Str.ofString "best", .ref bt') :: cstRun l r D D' p1 p2 q1 q2 t1 t2 t3 t4, m' p.1 = some p.2) → BestAt ns ns' p1 p2 q1 q2 (DoneO p1 q1 q2 (i + 1)) b' → Post .next { s with heap := h', toks := tk' }) :
    wpAny (model PR w) ((ktrTop dp un gd cn cs L₀ a ccd cl outer).deeper (envRun L)) (execs outBody (envRun L)) Post NoE { s with heap := h, toks := tk } := by
  unfold PR
  revert X
  k_fill
  intro X
  have hL1 := placesL_len ns
  have hL2 := placesL_len ns'
  have hV1 := hI.length
  have hV2 := hI'.length
  replace F := fr_ovl hc F
  dsimp only [ovl] at F
  k_steps
  unfold Stop
  rename News _ _ _ _ => N1
  rename Fr _ _ _ _ => F1
  rename IsRange _ _ _ _ _ _ _ _ => R1
  refine iterR (n := q2 + 1 - q1) (fun j m nx => ∃ b bt tx ty tz, nx = (bt, tup3 b.1 b.2.1 b.2.2 tx ty tz) :: ledRun L D D' hb tb ys ys' vsh vst nh nt oH oT own ∧
    (∀ p ∈ (Str.ofString "p", Value.int ((p1 + i : Nat) : Int) tp) :: (Str.ofString "best", .ref bt) :: cstRun l r D D' p1 p2 q1 q2 t1 t2 t3 t4, m p.1 = some p.2) ∧ BestAt ns ns' p1 p2 q1 q2 (DoneI p1 q1 q2 i j) b)
    rfl R1 (range_smallS (by (first | lia | omega)) (by (first | lia | omega))) (range_sizeS hq) F1 N1 ⟨b, bt, tx, ty, tz, rfl, (List.forall_mem_cons.mpr ⟨rfl, List.forall_mem_cons.mpr ⟨rfl, List.forall_mem_cons.mpr ⟨rfl, List.forall_mem_cons.mpr ⟨rfl, List.forall_mem_cons.mpr ⟨rfl, List.forall_mem_cons.mpr ⟨rfl, List.forall_mem_cons.mpr ⟨rfl, List.forall_mem_cons.mpr ⟨rfl, List.forall_mem_cons.mpr ⟨rfl, List.forall_mem_cons.mpr ⟨rfl, (fun _ h => nomatch h)⟩⟩⟩⟩⟩⟩⟩⟩⟩⟩), best_same hB (done_i0 _ _ _ _)⟩ ?_ ?_
  · rintro j t m₁ _ h₁ tk₁ own₂ hj hcl hoff ⟨b₁, bt₁, tx₁, ty₁, tz₁, rfl, hc1, hB1⟩ F2 N2
    rw [← Int.natCast_add] at F2
    refine inTurn (own := own ++ own₂) (P := p1 + i) (R := q1 + j) hu B X T (by assumption) (by assumption) hl hr hn hn' hp2 hq2 (by (first | lia | omega)) hP (by (first | lia | omega)) (by (first | lia | omega)) hH hT (by assumption) (by assumption) hys hyv hys' hyv' hB1 (done_is _ _ _ _ _) F2 N2 (m := fun y => if y = Str.ofString "q" then some (.int ((q1 + j : Nat) : Int) t) else m₁ y) (tq := t) (tp := tp) (t1 := t1) (t2 := t2) (t3 := t3) (t4 := t4) ?_ ?_
    · exact (List.forall_mem_cons.mpr ⟨(hc1 _ (.head _)), List.forall_mem_cons.mpr ⟨rfl, List.forall_mem_cons.mpr ⟨(hc1 _ (.tail _ (.head _))), List.forall_mem_cons.mpr ⟨(hc1 _ (.tail _ (.tail _ (.head _)))), List.forall_mem_cons.mpr ⟨(hc1 _ (.tail _ (.tail _ (.tail _ (.head _))))), List.forall_mem_cons.mpr ⟨(hc1 _ (.tail _ (.tail _ (.tail _ (.tail _ (.head _)))))), List.forall_mem_cons.mpr ⟨(hc1 _ (.tail _ (.tail _ (.tail _ (.tail _ (.tail _ (.head _))))))), List.forall_mem_cons.mpr ⟨(hc1 _ (.tail _ (.tail _ (.tail _ (.tail _ (.tail _ (.tail _ (.head _)))))))), List.forall_mem_cons.mpr ⟨(hc1 _ (.tail _ (.tail _ (.tail _ (.tail _ (.tail _ (.tail _ (.tail _ (.head _))))))))), List.forall_mem_cons.mpr ⟨(hc1 _ (.tail _ (.tail _ (.tail _ (.tail _ (.tail _ (.tail _ (.tail _ (.tail _ (.head _)))))))))), List.forall_mem_cons.mpr ⟨(hc1 _ (.tail _ (.tail _ (.tail _ (.tail _ (.tail _ (.tail _ (.tail _ (.tail _ (.tail _ (.head _))))))))))), (fun _ h => nomatch h)⟩⟩⟩⟩⟩⟩⟩⟩⟩⟩⟩)
    · rintro f h' tk' m' bt' b' ux uy uz hf F3 N3 hc3 hB3
      have fin : TurnEnd h₀ L (fun m nx => ∃ b bt tx ty tz, nx = (bt, tup3 b.1 b.2.1 b.2.2 tx ty tz) :: ledRun L D D' hb tb ys ys' vsh vst nh nt oH oT own ∧
          (∀ p ∈ (Str.ofString "p", Value.int ((p1 + i : Nat) : Int) tp) :: (Str.ofString "best", .ref bt) :: cstRun l r D D' p1 p2 q1 q2 t1 t2 t3 t4, m p.1 = some p.2) ∧ BestAt ns ns' p1 p2 q1 q2 (DoneI p1 q1 q2 i (j + 1)) b) own₂ { s with heap := h₁, toks := tk₁ } { s with heap := h', toks := tk' } :=
        TurnEnd.intro ((bt', tup3 b'.1 b'.2.1 b'.2.2 ux uy uz) :: ledRun L D D' hb tb ys ys' vsh vst nh nt oH oT own) F3 N3 (fun p hp => List.mem_append_left own₂ hp) (fun p hp => List.mem_append_right ((bt', tup3 b'.1 b'.2.1 b'.2.2 ux uy uz) :: ledRun L D D' hb tb ys ys' vsh vst nh nt oH oT own) hp) (off_new (r := ledRun L D D' hb tb ys ys' vsh vst nh nt oH oT own) hcl hoff N3 (.head _) tup_ne_range) ⟨b', bt', ux, uy, uz, rfl, hc3, hB3⟩
      rcases hf with rfl | rfl
      · exact fin
      · exact fin
  · rintro m₁ _ h₁ tk₁ ⟨b₁, bt₁, tx₁, ty₁, tz₁, rfl, hc1, hB1⟩ F2 N2
    dsimp only
    refine wpAny_execs_nil ?_
    exact hend _ _ _ bt₁ b₁ _ _ _ F2 N2 hc1 (best_same hB1 (done_ie hq))
end
end Mine
end

-- E7
section
open PySem PySem.W PyProof.Rows PySem.Calls
set_option maxRecDepth 100000
set_option maxHeartbeats 0
namespace Mine
section
variable {w : World} {p : Program} {loose : List Str} {mean : MeanT} {mg mb : Str → Option Value}

noncomputable def Pack (h₀ h : Heap) (L D D' l r : Addr) (ys ys' : List Value) (ns ns' : List Int) (p1 p2 q1 q2 : Nat) (t1 t2 t3 t4 : Tok) (m : PySem.Str → Option Value) (bt₀ : Addr) : Prop :=
  Fr h₀ L h m → (∀ p ∈ (Str.ofString "best", Value.ref bt₀) :: cstRun l r D D' p1 p2 q1 q2 t1 t2 t3 t4, m p.1 = some p.2) → ∃ hb vsh nh tb vst nt oH oT bt tx ty tz, News h₀ L h ((bt, tup3 (initOf ns ns' p1 q1).1 (initOf ns ns' p1 q1).2.1 (initOf ns ns' p1 q1).2.2 tx ty tz) :: ledRun L D D' hb tb ys ys' vsh vst nh nt oH oT []) ∧
    IntsAre vsh (placesL ns) ∧ IntsAre vst (placesL ns') ∧ oH.data = .cell (some (.ref hb)) ∧ oT.data = .cell (some (.ref tb)) ∧ ∀ p ∈ (Str.ofString "best", Value.ref bt) :: cstRun l r D D' p1 p2 q1 q2 t1 t2 t3 t4, m p.1 = some p.2
theorem pack_mk {h₀ h : Heap} {L D D' l r hb tb bt x : Addr} {ys ys' vsh vst : List Value} {nh nt : Nat} {oH oT o : Obj} {ns ns' : List Int} {p1 p2 q1 q2 : Nat} {t1 t2 t3 t4 tx ty tz : Tok} {m : PySem.Str → Option Value} (hp : p1 ≤ ns.length) (hq : q1 ≤ ns'.length)
    (N : News h₀ L h [(bt, { cls := .type "tuple", data := .seq #[.int 0 tx, .int ((placesL ns).getD (p1 : Int).toNat 0) ty, .int ((placesL ns').getD (q1 : Int).toNat 0) tz] }), (D', LCg.lst ys'), (D, LCg.lst ys), (x, o), (tb, W.listOf vst.toArray nt), (hb, W.listOf vsh.toArray nh), (L + 1 + 1, oT), (L + 1, oH)])
    (iH : IntsAre vsh (placesL ns)) (iT : IntsAre vst (placesL ns')) (hH : oH.data = .cell (some (.ref hb))) (hT : oT.data = .cell (some (.ref tb))) : Pack h₀ h L D D' l r ys ys' ns ns' p1 p2 q1 q2 t1 t2 t3 t4 m bt := by
  intro F hc
  refine ⟨hb, vsh, nh, tb, vst, nt, oH, oT, bt, tx, ty, tz, fun p hp => N p ?_, iH, iT, hH, hT, hc⟩
  rcases List.mem_cons.mp hp with rfl | hp
  · have e : (bt, tup3 (initOf ns ns' p1 q1).1 (initOf ns ns' p1 q1).2.1 (initOf ns ns' p1 q1).2.2 tx ty tz) = (bt, ({ cls := .type "tuple", data := .seq #[.int 0 tx, .int ((placesL ns).getD (p1 : Int).toNat 0) ty, .int ((placesL ns').getD (q1 : Int).toNat 0) tz] } : Obj)) := by
      unfold initOf placeN
      rw [Int.toNat_natCast, Int.toNat_natCast, places_at (by assumption), places_at (by assumption)]
    rw [e]
    exact .head _
  · refine .tail _ ?_
    rcases List.mem_cons.mp hp with rfl | hp
    · exact .head _
    · refine .tail _ ?_
      rcases List.mem_cons.mp hp with rfl | hp
      · exact .head _
      · exact .tail _ (.tail _ hp)
local macro_rules | `(tactic| walk_at "pyIter ref") => `(tactic| refine stop_ ?_)
local macro_rules | `(tactic| walk_at "CompSrc") => `(tactic| refine stop_ ?_)
local macro_rules | `(tactic| walk_at "exec While BoolOp") => `(tactic| refine stop_ ?_)

theorem lrun_ (l r t : Addr) (vs vs' : List Value) (ns ns' : List Int) (p1 p2 q1 q2 : Nat) (t1 t2 t3 t4 : Tok) (hI : IntsAre vs ns) (hI' : IntsAre vs' ns') (hn : ns.length ≤ 7) (hn' : ns'.length ≤ 8) (hb : ∀ n ∈ ns, 0 ≤ n ∧ n < 256) (hb' : ∀ n ∈ ns', 0 ≤ n ∧ n < 256)
    (hp : p1 ≤ p2) (hp2 : p2 ≤ ns.length) (hq : q1 ≤ q2) (hq2 : q2 ≤ ns'.length) :
    PC w p loose mean mg mb 315 [.ref l, .ref r, .ref t] (fun h => h.IsList l vs.toArray ∧ h.IsList r vs'.toArray ∧ IsTup h t #[.int p1 t1, .int p2 t2, .int q1 t3, .int q2 t4])
    (fun h h' r => ∃ T b tx ty tz, r = .ref T ∧ h.get? T = none ∧ h'.get? T = some (tup3 b.2.1 b.2.2 (0 - b.1) tx ty tz) ∧ BestAt ns ns' p1 p2 q1 q2 (DoneO p1 q1 q2 (p2 + 1 - p1)) b) 3 24 := by
  unfold PC PR
  k_fill
  intro dp un gd cn cs a ccd cl outer A₀ base h₀ L m s Q E B F X T hk hd hu hpre hret
  refine wpAny_call ?_
  k_dflt (refine' code_pureC (binds := [(S "left", .ref l), (S "right", .ref r), (S "window", .ref t)]) ?k1 ?k2 ?k3 ?k5 ?kA ?kF ?kK ?k6 ?k7 ?k8 ?k9 ?kB ?kD ?_ ?c2 ?c3 ?c4; (case kA => exact rfl); (case kF => exact rfl); (case kK => assumption); (case k1 => k_asm); (case k2 => k_asm); (case k3 => k_asm); (case k5 => k_asm); (case k6 => k_is); (case k7 => k_is); (case k8 => ktr_room); (case k9 => exact BindsTo.of_eq rfl); (case kB => exact rfl); (case kD => decide +kernel); (case c2 => exact rfl); (case c3 => exact rfl); (case c4 => exact rfl); k_whole; intro L' h' tk0 cells' F' N' Y' B' X' T')
  k_cells Y'
  try simp only [List.cons_append, List.nil_append, List.append_nil] at N'
  dsimp only

  obtain ⟨hl, hr, ht⟩ := hpre
  have hL1 := placesL_len ns
  have hL2 := placesL_len ns'
  have hV1 := hI.length
  have hV2 := hI'.length
  k_steps
  repeat (
    any_goals first
      | with_reducible (k_here; (with_reducible show wpAny _ _ (call (Value.ref 310) [Value.ref _]) _ _ _); (k_dflt (refine' pc_use (places_ _ _ _ ?p0 ?p1 ?p2) ?k1 ?k2 ?k3 ?kN ?k5 ?kK ?kd ?ku ?kp ?_; (case k1 | k2 | k3 | kN | k5 => k_asm); (case kK => first | exact rfl | assumption); (case kd => ktr_room); (case ku => ktr_units); (case kp => exact stays_list (Fr.keep (by assumption)) (by assumption)); (case p0 => assumption); (case p1 => (first | lia | omega)); (case p2 => assumption); intro r9 h9 tk9 st9 F9 N9 o9; obtain ⟨b9, vs9, n9, e9, fr9, g9, i9⟩ := o9; subst e9; (have l9 := news_ne (by assumption) fr9); (replace N9 := news_in' (by assumption) N9 fr9 g9); (try simp only [AllNe, and_true] at l9); (try k_sweep))))
      | (k_here; (with_reducible show wpAny _ _ (call (Value.ref 310) [Value.ref _]) _ _ _); (k_dflt (refine' pc_use (places_ _ _ _ ?p0 ?p1 ?p2) ?k1 ?k2 ?k3 ?kN ?k5 ?kK ?kd ?ku ?kp ?_; (case k1 | k2 | k3 | kN | k5 => k_asm); (case kK => first | exact rfl | assumption); (case kd => ktr_room); (case ku => ktr_units); (case kp => exact stays_list (Fr.keep (by assumption)) (by assumption)); (case p0 => assumption); (case p1 => (first | lia | omega)); (case p2 => assumption); intro r9 h9 tk9 st9 F9 N9 o9; obtain ⟨b9, vs9, n9, e9, fr9, g9, i9⟩ := o9; subst e9; (have l9 := news_ne (by assumption) fr9); (replace N9 := news_in' (by assumption) N9 fr9 g9); (try simp only [AllNe, and_true] at l9); (try k_sweep))))
      | fail
    all_goals k_steps)
  unfold Stop
  rename News _ _ _ _ => N1
  rename Fr _ _ _ _ => F1
  rename IsRange _ _ _ _ _ _ _ _ => R1
  refine LCg.CompSrc.range (n := ns.length) rfl F1 N1 R1 (range_small (a := 0) (by (first | lia | omega)) (by (first | lia | omega))) (range_size0 _) (by rw [sizeLine_eq]; (first | lia | omega)) ?_
  intro g
  refine comp_keep (fun j y => y = .bool (longB (ns.getD j 0))) trivial ?_ ?_
  · rintro i _ I oI C oC D ys m₂ h tk E' hi ⟨tv, rfl⟩ hC hx F2 N2 off ne
    rw [Int.zero_add] at hx
    clear F1 N1 R1
    k_steps
    repeat (
      any_goals first
        | with_reducible (k_here; (with_reducible show wpAny _ _ (call (Value.ref 310) [Value.ref _]) _ _ _); (k_dflt (refine' pc_use (places_ _ _ _ ?p0 ?p1 ?p2) ?k1 ?k2 ?k3 ?kN ?k5 ?kK ?kd ?ku ?kp ?_; (case k1 | k2 | k3 | kN | k5 => k_asm); (case kK => first | exact rfl | assumption); (case kd => ktr_room); (case ku => ktr_units); (case kp => exact stays_list (Fr.keep (by assumption)) (by assumption)); (case p0 => assumption); (case p1 => (first | lia | omega)); (case p2 => assumption); intro r9 h9 tk9 st9 F9 N9 o9; obtain ⟨b9, vs9, n9, e9, fr9, g9, i9⟩ := o9; subst e9; (have l9 := news_ne (by assumption) fr9); (replace N9 := news_in' (by assumption) N9 fr9 g9); (try simp only [AllNe, and_true] at l9); (try k_sweep))))
        | (k_here; (with_reducible show wpAny _ _ (call (Value.ref 310) [Value.ref _]) _ _ _); (k_dflt (refine' pc_use (places_ _ _ _ ?p0 ?p1 ?p2) ?k1 ?k2 ?k3 ?kN ?k5 ?kK ?kd ?ku ?kp ?_; (case k1 | k2 | k3 | kN | k5 => k_asm); (case kK => first | exact rfl | assumption); (case kd => ktr_room); (case ku => ktr_units); (case kp => exact stays_list (Fr.keep (by assumption)) (by assumption)); (case p0 => assumption); (case p1 => (first | lia | omega)); (case p2 => assumption); intro r9 h9 tk9 st9 F9 N9 o9; obtain ⟨b9, vs9, n9, e9, fr9, g9, i9⟩ := o9; subst e9; (have l9 := news_ne (by assumption) fr9); (replace N9 := news_in' (by assumption) N9 fr9 g9); (try simp only [AllNe, and_true] at l9); (try k_sweep))))
        | fail
      all_goals k_steps)
    · exact long_at hi
    · exact fun _ _ e => e
  · intro ys hys hyv D h tk F2 N2 off
    clear F1 N1 R1
    k_steps
    repeat (
      any_goals first
        | with_reducible (k_here; (with_reducible show wpAny _ _ (call (Value.ref 310) [Value.ref _]) _ _ _); (k_dflt (refine' pc_use (places_ _ _ _ ?p0 ?p1 ?p2) ?k1 ?k2 ?k3 ?kN ?k5 ?kK ?kd ?ku ?kp ?_; (case k1 | k2 | k3 | kN | k5 => k_asm); (case kK => first | exact rfl | assumption); (case kd => ktr_room); (case ku => ktr_units); (case kp => exact stays_list (Fr.keep (by assumption)) (by assumption)); (case p0 => assumption); (case p1 => (first | lia | omega)); (case p2 => assumption); intro r9 h9 tk9 st9 F9 N9 o9; obtain ⟨b9, vs9, n9, e9, fr9, g9, i9⟩ := o9; subst e9; (have l9 := news_ne (by assumption) fr9); (replace N9 := news_in' (by assumption) N9 fr9 g9); (try simp only [AllNe, and_true] at l9); (try k_sweep))))
        | (k_here; (with_reducible show wpAny _ _ (call (Value.ref 310) [Value.ref _]) _ _ _); (k_dflt (refine' pc_use (places_ _ _ _ ?p0 ?p1 ?p2) ?k1 ?k2 ?k3 ?kN ?k5 ?kK ?kd ?ku ?kp ?_; (case k1 | k2 | k3 | kN | k5 => k_asm); (case kK => first | exact rfl | assumption); (case kd => ktr_room); (case ku => ktr_units); (case kp => exact stays_list (Fr.keep (by assumption)) (by assumption)); (case p0 => assumption); (case p1 => (first | lia | omega)); (case p2 => assumption); intro r9 h9 tk9 st9 F9 N9 o9; obtain ⟨b9, vs9, n9, e9, fr9, g9, i9⟩ := o9; subst e9; (have l9 := news_ne (by assumption) fr9); (replace N9 := news_in' (by assumption) N9 fr9 g9); (try simp only [AllNe, and_true] at l9); (try k_sweep))))
        | fail
      all_goals k_steps)
    unfold Stop
    rename News _ _ _ _ => N1
    rename Fr _ _ _ _ => F1
    rename IsRange _ _ _ _ _ _ _ _ => R1
    refine LCg.CompSrc.range (n := ns'.length) rfl F1 N1 R1 (range_small (a := 0) (by (first | lia | omega)) (by (first | lia | omega))) (range_size0 _) (by rw [sizeLine_eq]; (first | lia | omega)) ?_
    intro g
    refine comp_keep (fun j y => y = .bool (longB (ns'.getD j 0))) trivial ?_ ?_
    · rintro i _ I oI C oC D' ys' m₂ h tk E' hi ⟨tv, rfl⟩ hC hx F2 N2 off ne
      rw [Int.zero_add] at hx
      clear F1 N1 R1
      k_steps
      repeat (
        any_goals first
          | with_reducible (k_here; (with_reducible show wpAny _ _ (call (Value.ref 310) [Value.ref _]) _ _ _); (k_dflt (refine' pc_use (places_ _ _ _ ?p0 ?p1 ?p2) ?k1 ?k2 ?k3 ?kN ?k5 ?kK ?kd ?ku ?kp ?_; (case k1 | k2 | k3 | kN | k5 => k_asm); (case kK => first | exact rfl | assumption); (case kd => ktr_room); (case ku => ktr_units); (case kp => exact stays_list (Fr.keep (by assumption)) (by assumption)); (case p0 => assumption); (case p1 => (first | lia | omega)); (case p2 => assumption); intro r9 h9 tk9 st9 F9 N9 o9; obtain ⟨b9, vs9, n9, e9, fr9, g9, i9⟩ := o9; subst e9; (have l9 := news_ne (by assumption) fr9); (replace N9 := news_in' (by assumption) N9 fr9 g9); (try simp only [AllNe, and_true] at l9); (try k_sweep))))
          | (k_here; (with_reducible show wpAny _ _ (call (Value.ref 310) [Value.ref _]) _ _ _); (k_dflt (refine' pc_use (places_ _ _ _ ?p0 ?p1 ?p2) ?k1 ?k2 ?k3 ?kN ?k5 ?kK ?kd ?ku ?kp ?_; (case k1 | k2 | k3 | kN | k5 => k_asm); (case kK => first | exact rfl | assumption); (case kd => ktr_room); (case ku => ktr_units); (case kp => exact stays_list (Fr.keep (by assumption)) (by assumption)); (case p0 => assumption); (case p1 => (first | lia | omega)); (case p2 => assumption); intro r9 h9 tk9 st9 F9 N9 o9; obtain ⟨b9, vs9, n9, e9, fr9, g9, i9⟩ := o9; subst e9; (have l9 := news_ne (by assumption) fr9); (replace N9 := news_in' (by assumption) N9 fr9 g9); (try simp only [AllNe, and_true] at l9); (try k_sweep))))
          | fail
        all_goals k_steps)
      · exact long_at hi
      · exact fun _ _ e => e
    · intro ys' hys' hyv' D' h tk F2 N2 off
      clear F1 N1 R1
      k_steps
      repeat (
        any_goals first
          | with_reducible (k_here; (with_reducible show wpAny _ _ (call (Value.ref 310) [Value.ref _]) _ _ _); (k_dflt (refine' pc_use (places_ _ _ _ ?p0 ?p1 ?p2) ?k1 ?k2 ?k3 ?kN ?k5 ?kK ?kd ?ku ?kp ?_; (case k1 | k2 | k3 | kN | k5 => k_asm); (case kK => first | exact rfl | assumption); (case kd => ktr_room); (case ku => ktr_units); (case kp => exact stays_list (Fr.keep (by assumption)) (by assumption)); (case p0 => assumption); (case p1 => (first | lia | omega)); (case p2 => assumption); intro r9 h9 tk9 st9 F9 N9 o9; obtain ⟨b9, vs9, n9, e9, fr9, g9, i9⟩ := o9; subst e9; (have l9 := news_ne (by assumption) fr9); (replace N9 := news_in' (by assumption) N9 fr9 g9); (try simp only [AllNe, and_true] at l9); (try k_sweep))))
          | (k_here; (with_reducible show wpAny _ _ (call (Value.ref 310) [Value.ref _]) _ _ _); (k_dflt (refine' pc_use (places_ _ _ _ ?p0 ?p1 ?p2) ?k1 ?k2 ?k3 ?kN ?k5 ?kK ?kd ?ku ?kp ?_; (case k1 | k2 | k3 | kN | k5 => k_asm); (case kK => first | exact rfl | assumption); (case kd => ktr_room); (case ku => ktr_units); (case kp => exact stays_list (Fr.keep (by assumption)) (by assumption)); (case p0 => assumption); (case p1 => (first | lia | omega)); (case p2 => assumption); intro r9 h9 tk9 st9 F9 N9 o9; obtain ⟨b9, vs9, n9, e9, fr9, g9, i9⟩ := o9; subst e9; (have l9 := news_ne (by assumption) fr9); (replace N9 := news_in' (by assumption) N9 fr9 g9); (try simp only [AllNe, and_true] at l9); (try k_sweep))))
          | fail
        all_goals k_steps)
      unfold Stop
      rename News _ _ _ _ => N1
      rename Fr _ _ _ _ => F1
      rename IsRange _ _ _ _ _ _ _ _ => R1
      obtain ⟨hb9, vsh, nh, tb, vst, nt, oH, oT, bt, tx, ty, tz, N1', iH, iT, hH, hT, hct⟩ := pack_mk (l := l) (r := r) (p2 := p2) (q2 := q2) (t1 := t1) (t2 := t2) (t3 := t3) (t4 := t4) (by (first | lia | omega)) (by (first | lia | omega)) N1 (by assumption) (by assumption) (by assumption) (by assumption) F1 (List.forall_mem_cons.mpr ⟨rfl, List.forall_mem_cons.mpr ⟨rfl, List.forall_mem_cons.mpr ⟨rfl, List.forall_mem_cons.mpr ⟨rfl, List.forall_mem_cons.mpr ⟨rfl, List.forall_mem_cons.mpr ⟨rfl, List.forall_mem_cons.mpr ⟨rfl, List.forall_mem_cons.mpr ⟨rfl, List.forall_mem_cons.mpr ⟨rfl, (fun _ h => nomatch h)⟩⟩⟩⟩⟩⟩⟩⟩⟩)
      clear N1
      refine iterR (n := p2 + 1 - p1) (fun i m nx => ∃ b bt tx ty tz, nx = (bt, tup3 b.1 b.2.1 b.2.2 tx ty tz) :: ledRun L' D D' hb9 tb ys ys' vsh vst nh nt oH oT [] ∧
        (∀ p ∈ (Str.ofString "best", Value.ref bt) :: cstRun l r D D' p1 p2 q1 q2 t1 t2 t3 t4, m p.1 = some p.2) ∧ BestAt ns ns' p1 p2 q1 q2 (DoneO p1 q1 q2 i) b)
        rfl R1 (range_smallS (by (first | lia | omega)) (by (first | lia | omega))) (range_sizeS hp) F1 N1' ⟨_, bt, tx, ty, tz, rfl, hct, best_init (done_o0 _ _ _)⟩ ?_ ?_
      · rintro i t m₁ _ h₁ tk₁ own hi hcl hoff ⟨b₁, bt₁, tx₁, ty₁, tz₁, rfl, hc1, hB1⟩ F2 N2
        rw [← Int.natCast_add] at F2
        refine outTurn (own := own) (i := i) (by (first | lia | omega)) B' X' T' (by assumption) (by assumption) hl hr hn hn' hp2 hq2 (by (first | lia | omega)) hq hH hT (by assumption) (by assumption) hys hyv hys' hyv' hB1 F2 N2 (m := fun y => if y = Str.ofString "p" then some (.int ((p1 + i : Nat) : Int) t) else m₁ y) (tp := t) (t1 := t1) (t2 := t2) (t3 := t3) (t4 := t4) ?_ ?_
        · exact (List.forall_mem_cons.mpr ⟨rfl, List.forall_mem_cons.mpr ⟨(hc1 _ (.head _)), List.forall_mem_cons.mpr ⟨(hc1 _ (.tail _ (.head _))), List.forall_mem_cons.mpr ⟨(hc1 _ (.tail _ (.tail _ (.head _)))), List.forall_mem_cons.mpr ⟨(hc1 _ (.tail _ (.tail _ (.tail _ (.head _))))), List.forall_mem_cons.mpr ⟨(hc1 _ (.tail _ (.tail _ (.tail _ (.tail _ (.head _)))))), List.forall_mem_cons.mpr ⟨(hc1 _ (.tail _ (.tail _ (.tail _ (.tail _ (.tail _ (.head _))))))), List.forall_mem_cons.mpr ⟨(hc1 _ (.tail _ (.tail _ (.tail _ (.tail _ (.tail _ (.tail _ (.head _)))))))), List.forall_mem_cons.mpr ⟨(hc1 _ (.tail _ (.tail _ (.tail _ (.tail _ (.tail _ (.tail _ (.tail _ (.head _))))))))), List.forall_mem_cons.mpr ⟨(hc1 _ (.tail _ (.tail _ (.tail _ (.tail _ (.tail _ (.tail _ (.tail _ (.tail _ (.head _)))))))))), (fun _ h => nomatch h)⟩⟩⟩⟩⟩⟩⟩⟩⟩⟩)
        · rintro h' tk' m' bt' b' ux uy uz F3 N3 hc3 hB3
          have fin : TurnEnd s.heap L' (fun m nx => ∃ b bt tx ty tz, nx = (bt, tup3 b.1 b.2.1 b.2.2 tx ty tz) :: ledRun L' D D' hb9 tb ys ys' vsh vst nh nt oH oT [] ∧
              (∀ p ∈ (Str.ofString "best", Value.ref bt) :: cstRun l r D D' p1 p2 q1 q2 t1 t2 t3 t4, m p.1 = some p.2) ∧ BestAt ns ns' p1 p2 q1 q2 (DoneO p1 q1 q2 (i + 1)) b) own { s with heap := h₁, toks := tk₁ } { s with heap := h', toks := tk' } :=
            TurnEnd.intro ((bt', tup3 b'.1 b'.2.1 b'.2.2 ux uy uz) :: ledRun L' D D' hb9 tb ys ys' vsh vst nh nt oH oT []) F3 N3 (fun p hp => List.mem_append_left own hp) (fun p hp => List.mem_append_right ((bt', tup3 b'.1 b'.2.1 b'.2.2 ux uy uz) :: ledRun L' D D' hb9 tb ys ys' vsh vst nh nt oH oT []) hp) (off_new (r := ledRun L' D D' hb9 tb ys ys' vsh vst nh nt oH oT []) hcl hoff N3 (.head _) tup_ne_range)
              ⟨b', bt', ux, uy, uz, rfl, fun p hp => hc3 p (.tail _ hp), hB3⟩
          exact fin
      · rintro m₁ _ h₁ tk₁ ⟨b₁, bt₁, tx₁, ty₁, tz₁, rfl, hc1, hB1⟩ F2 N2
        replace F2 := fr_ovl hc1 F2
        dsimp only [ovl] at F2
        clear F1 N1' R1 hc1
        dsimp only
        k_steps
        repeat (
          any_goals first
            | with_reducible (k_here; (with_reducible show wpAny _ _ (call (Value.ref 310) [Value.ref _]) _ _ _); (k_dflt (refine' pc_use (places_ _ _ _ ?p0 ?p1 ?p2) ?k1 ?k2 ?k3 ?kN ?k5 ?kK ?kd ?ku ?kp ?_; (case k1 | k2 | k3 | kN | k5 => k_asm); (case kK => first | exact rfl | assumption); (case kd => ktr_room); (case ku => ktr_units); (case kp => exact stays_list (Fr.keep (by assumption)) (by assumption)); (case p0 => assumption); (case p1 => (first | lia | omega)); (case p2 => assumption); intro r9 h9 tk9 st9 F9 N9 o9; obtain ⟨b9, vs9, n9, e9, fr9, g9, i9⟩ := o9; subst e9; (have l9 := news_ne (by assumption) fr9); (replace N9 := news_in' (by assumption) N9 fr9 g9); (try simp only [AllNe, and_true] at l9); (try k_sweep))))
            | (k_here; (with_reducible show wpAny _ _ (call (Value.ref 310) [Value.ref _]) _ _ _); (k_dflt (refine' pc_use (places_ _ _ _ ?p0 ?p1 ?p2) ?k1 ?k2 ?k3 ?kN ?k5 ?kK ?kd ?ku ?kp ?_; (case k1 | k2 | k3 | kN | k5 => k_asm); (case kK => first | exact rfl | assumption); (case kd => ktr_room); (case ku => ktr_units); (case kp => exact stays_list (Fr.keep (by assumption)) (by assumption)); (case p0 => assumption); (case p1 => (first | lia | omega)); (case p2 => assumption); intro r9 h9 tk9 st9 F9 N9 o9; obtain ⟨b9, vs9, n9, e9, fr9, g9, i9⟩ := o9; subst e9; (have l9 := news_ne (by assumption) fr9); (replace N9 := news_in' (by assumption) N9 fr9 g9); (try simp only [AllNe, and_true] at l9); (try k_sweep))))
            | fail
          all_goals k_steps)
        rename News _ _ _ _ => N3
        exact hret _ _ _ (Fr.keep (by assumption)) ⟨_, b₁, _, _, _, rfl, (N3 _ (.head _)).2.2, N3.get (.head _), hB1⟩
end
end Mine
end

-- M2
section
open PySem PySem.W PyProof.Rows PySem.Calls
set_option maxRecDepth 100000
set_option maxHeartbeats 1000000
namespace Mine
section
variable {prog : Program} {w : World} {A : Around} {E : Value → Shared → Prop} {s : Shared} {env : Env} {h₀ : Heap} {Q : Flow → Shared → Prop}
theorem pairLoop {R : Result → Shared → Prop} {xi xc : PySem.Str} {pk pv pt : Pos} {x1 : Nat} {body : List Stmt} {I : Addr} {fp : List Addr} {n : Nat} {Pt : Nat → Array Value → Prop} {St : Nat → Heap → Prop} {Mid : Nat → Addr → Heap → Prop}
    {P2 : Nat → Value → Value → Prop} {m : PySem.Str → Option Value} {news : Led} (hh : A.handled = none) (W : WalksT prog w A I fp fp n Pt St Mid) (h2 : ∀ i vals, Pt i vals → ∃ v0 v1, vals = #[v0, v1] ∧ P2 i v0 v1)
    (hxi : env.kindOf xi = some .local) (hxc : env.kindOf xc = some .local)
    (hp : (env.scope.kind == .class || (env.scope.kind == .module && env.locals != env.globals)) = false)
    (hLf : env.locals ∉ fp) (hwr : ∀ b ∈ fp, h₀.get? b = none) (hal : ∀ i h, St i h → ∀ b ∈ fp, ∃ o, h.get? b = some o ∧ o.cls ≠ .type "dict" ∧ o.cls ≠ .type "list" ∧ o.cls ≠ .type "tuple") (hnw : ∀ p ∈ news, p.1 ∉ fp)
    (hst : St 0 s.heap) (F : Fr h₀ env.locals s.heap m) (N : News h₀ env.locals s.heap news)
    (J : Nat → (PySem.Str → Option Value) → Led → Prop) (h0 : J 0 m news)
    (step : ∀ i v0 v1 m₁ news₁ h tk own, i < n → P2 i v0 v1 → (∀ p ∈ own, p.2.cls ≠ .type "dict" ∧ p.2.cls ≠ .type "list" ∧ p.2.cls ≠ .type "tuple") → OwnOff own (news₁.map (·.1)) → J i m₁ news₁ →
      Fr h₀ env.locals h (fun y => if y = xc then some v1 else if y = xi then some v0 else m₁ y) → News h₀ env.locals h (news₁ ++ own) →
      wpAny (model prog w) A (execs body env) (TurnPost h₀ env.locals (J (i + 1)) own { s with heap := h, toks := tk } (fun f s' => R (.ok f) s')) (notedBy (model prog w) A env fun e s' => R (.error e) s') { s with heap := h, toks := tk })
    (hR : ∀ h' tk m' news', Fr h₀ env.locals h' m' → News h₀ env.locals h' news' → J n m' news' → R (.ok .next) { s with heap := h', toks := tk }) :
    codeAny (model prog w) A (.forLoop (.Tuple [.Name xi pk, .Name xc pv] x1 pt) (.ref I) body [] env) R s := by
  have old : ∀ b o, h₀.get? b = some o → b ∉ fp := fun b o e hb => by rw [hwr b hb] at e; cases e
  refine codeAny_forLoop_any
    (fun k s' => ∃ h' tk m' news' i, s' = { s with heap := h', toks := tk } ∧ St i h' ∧ Fr h₀ env.locals h' m' ∧ News h₀ env.locals h' news' ∧ (∀ p ∈ news', p.1 ∉ fp) ∧ J i m' news' ∧ i ≤ n ∧ k = n + 1 - i) ?_ (n + 1)
    ⟨s.heap, s.toks, m, news, 0, rfl, hst, F, N, hnw, h0, Nat.zero_le _, rfl⟩
  rintro k s' ⟨H, tk, m', news', i, rfl, hst', F', N', ha', hJ, hi, rfl⟩
  have next : ∀ h₁ : Heap, (∀ b o, b ∉ fp → H.get? b = some o → h₁.get? b = some o) → Fr h₀ env.locals h₁ m' ∧ News h₀ env.locals h₁ news' := fun h₁ hk₁ =>
    ⟨⟨F'.ns.at' fun o e => hk₁ _ o hLf e, fun b o e => hk₁ b o (old b o e) (F'.keep b o e), F'.above⟩, fun p hp => ⟨hk₁ _ _ (ha' p hp) (N' p hp).1, (N' p hp).2⟩⟩
  by_cases hlt : i < n
  · refine W.item i _ _ _ hlt hst' fun T vals h₁ tk₁ hPt _ hT hMid hk₁ => ?_
    obtain ⟨v0, v1, rfl, hP2⟩ := h2 i vals hPt
    refine W.go _ x1 pt i T _ _ _ hMid fun h₂ hst₂ hk₂ => ?_
    have ht₂ : h₂.IsTuple T #[v0, v1] := hT.at fun o e => hk₂ T o (W.apart i T h₁ hMid) e
    refine wpAny_assign_Tuple hh ht₂ rfl rfl fun h₃ hx₃ => ?_
    replace hx₃ : Heap.ExtBut h₂.objs.size h₂ h₃ := hx₃
    have up₃ : ∀ b o, h₂.get? b = some o → h₃.get? b = some o := fun b o x => hx₃ b o (Nat.ne_of_lt (Heap.lt_size x)) x
    obtain ⟨F₃, N₃⟩ := next h₃ fun b o hb x => up₃ b o (hk₂ b o hb (hk₁ b o hb x))
    show wpAny _ A (do holding [v1] (assign (.Name xi pk) env v0); do holding [] (assign (.Name xc pv) env v1); pure ()) _ _ _
    refine wpAny_bind (wpAny_holding (wpAny_assign_Name (wpAny_storeName_local hxi F₃.ns (fun h₄ hn₄ hs₄ => ?_) hp)))
    replace hs₄ : Heap.SameBut env.locals h₃ h₄ := hs₄
    have F₄ := F₃.set hn₄ hs₄
    refine wpAny_bind (wpAny_holding (wpAny_assign_Name (wpAny_storeName_local hxc F₄.ns (fun h₅ hn₅ hs₅ => wpAny_pure ?_) hp)))
    replace hs₅ : Heap.SameBut env.locals h₄ h₅ := hs₅
    have F₅ := F₄.set hn₅ hs₅
    have N₅ : News h₀ env.locals h₅ news' := (N₃.set hs₄).set hs₅
    have hst₅ : St (i + 1) h₅ := W.frame _ _ _ hst₂ fun b hb o e => hs₅.extBut b o (fun q => hLf (q ▸ hb)) (hs₄.extBut b o (fun q => hLf (q ▸ hb)) (up₃ b o e))
    have hsep : OwnOff (ownOf h₀ fp h₅) (news'.map (·.1)) := fun p hp b hb e => by
      obtain ⟨q, hq, rfl⟩ := List.mem_map.mp hb
      exact ha' q hq (e ▸ ownOf_sub p hp)
    have hNo : News h₀ env.locals h₅ (ownOf h₀ fp h₅) := news_ownOf hLf
    have hcl : ∀ p ∈ ownOf h₀ fp h₅, p.2.cls ≠ .type "dict" ∧ p.2.cls ≠ .type "list" ∧ p.2.cls ≠ .type "tuple" := fun p hp => by
      obtain ⟨o, e, c⟩ := hal _ _ hst₅ p.1 (ownOf_sub p hp)
      have := (hNo p hp).1
      rw [e] at this
      cases this
      exact c
    refine wpAny_mono (step i v0 v1 m' news' h₅ _ (ownOf h₀ fp h₅) hlt hP2 hcl hsep hJ F₅ (fun p hp => (List.mem_append.mp hp).elim (N₅ p) (hNo p))) (fun f s₃ h₆ => ?_) fun _ _ e => e
    have fin : ∀ tkk, TurnEnd h₀ env.locals (J (i + 1)) (ownOf h₀ fp h₅) { s with heap := h₅, toks := tkk } s₃ → ∃ k', k' < n + 1 - i ∧ ∃ h' tk m' news' i, s₃ = { s with heap := h', toks := tk } ∧ St i h' ∧ Fr h₀ env.locals h' m' ∧ News h₀ env.locals h' news' ∧ (∀ p ∈ news', p.1 ∉ fp) ∧ J i m' news' ∧ i ≤ n ∧ k' = n + 1 - i := by
      rintro tkk ⟨h₆', tk₆, m₂, all, nx, rfl, F₆, N₆, hn, ho, hoff, hJ₆⟩
      refine ⟨n + 1 - (i + 1), by (first | lia | omega), h₆', tk₆, m₂, nx, i + 1, rfl, ?_, F₆, fun p hp => N₆ p (hn p hp), fun p hp hb => ?_, hJ₆, hlt, rfl⟩
      · refine W.frame _ _ _ hst₅ fun b hb o e => ?_
        exact (N₆ _ (ho _ (mem_ownOf hb (hwr b hb) e))).1
      · obtain ⟨o, e, _⟩ := hal _ _ hst₅ p.1 hb
        exact hoff _ (mem_ownOf hb (hwr _ hb) e) p.1 (List.mem_map_of_mem hp) rfl
    cases f with
    | ret v => exact h₆
    | brk => exact h₆
    | cont => exact fin _ h₆
    | next => exact fin _ h₆
  · have hin : i = n := by (first | lia | omega)
    subst hin
    refine W.done _ _ _ hst' fun h₁ tk₁ hk₁ => wpAny_execs_nil ?_
    obtain ⟨F₁, N₁⟩ := next h₁ hk₁
    exact hR h₁ tk₁ m' news' F₁ N₁ hJ

theorem enum_cls : Value.type "enumerate" ≠ .type "dict" ∧ Value.type "enumerate" ≠ .type "list" ∧ Value.type "enumerate" ≠ .type "tuple" := by decide
/-- for i, c in enumerate(text): -/
theorem For_enum {xi xc : PySem.Str} {pk pv pt pos : Pos} {x1 : Nat} {iter : PySem.Expr} {body : List Stmt} {x : PySem.Str} {t : Tok} {m : PySem.Str → Option Value} {news : Led} (hh : A.handled = none)
    (hxi : env.kindOf xi = some .local) (hxc : env.kindOf xc = some .local)
    (hp : (env.scope.kind == .class || (env.scope.kind == .module && env.locals != env.globals)) = false)
    (F : Fr h₀ env.locals s.heap m) (N : News h₀ env.locals s.heap news) (J : Nat → (PySem.Str → Option Value) → Led → Prop) (h0 : J 0 m news)
    (hiter : ∀ Q' : Value → Shared → Prop, (∀ tk, wpAny (model prog w) A (call (.type "enumerate") [.str x t]) Q' E { s with toks := tk }) → wpAny (model prog w) A (eval iter env) Q' E s)
    (step : ∀ i c ti u m₁ news₁ h tk own, x.cps[i]? = some c → (∀ p ∈ own, p.2.cls ≠ .type "dict" ∧ p.2.cls ≠ .type "list" ∧ p.2.cls ≠ .type "tuple") → OwnOff own (news₁.map (·.1)) → J i m₁ news₁ →
      Fr h₀ env.locals h (fun y => if y = xc then some (.str ⟨#[c]⟩ u) else if y = xi then some (.int (i : Int) ti) else m₁ y) → News h₀ env.locals h (news₁ ++ own) →
      wpAny (model prog w) A (execs body env) (TurnPost h₀ env.locals (J (i + 1)) own { s with heap := h, toks := tk } Q) E { s with heap := h, toks := tk })
    (done : ∀ h' tk m' news', Fr h₀ env.locals h' m' → News h₀ env.locals h' news' → J x.cps.size m' news' → Q .next { s with heap := h', toks := tk })
    (hs : ∀ x, foldedSetIterable iter env x = pure x)
    (hE : PassesOwn (model prog w) A env E := by passes_own) :
    wpAny (model prog w) A (exec (.For (.Tuple [.Name xi pk, .Name xc pv] x1 pt) iter body [] pos) env) Q E s := by
  refine wpAny_For (hiter _ fun tk => ?_) hs
  refine call_enumerate_str fun h' he hit hsz hk => ?_
  refine wpAny_pyIter_enum he ?_
  dsimp only at he hit hsz hk ⊢
  have hLs : env.locals < s.heap.objs.size := F.ns.lt
  have hab : h₀.objs.size ≤ env.locals := F.above
  have F' : Fr h₀ env.locals h' m := ⟨F.ns.keeps hk, fun b o e => hk b o (F.keep b o e), F.above⟩
  have N' : News h₀ env.locals h' news := fun p hp => ⟨hk _ _ (N p hp).1, (N p hp).2⟩
  have D : ∃ ty, ty = strIterType x ∧ Draws prog w A.in1 s.heap.objs.size [s.heap.objs.size] x.cps.size (fun i v => ∃ c u, x.cps[i]? = some c ∧ v = .str ⟨#[c]⟩ u) (fun i h => h.IsStrIter s.heap.objs.size ty x t i) := by
    cases ha : x.cps.all (· < 128)
    · exact ⟨"str_iterator", by simp [strIterType, ha], Draws.strWide (A := A.in1) hh s.heap.objs.size x t⟩
    · exact ⟨"str_ascii_iterator", by simp [strIterType, ha], Draws.strAscii (A := A.in1) hh s.heap.objs.size x t⟩
  obtain ⟨ty, hty, D⟩ := D
  have hne : ∀ b ∈ [s.heap.objs.size + 1, s.heap.objs.size], ∀ a, a < s.heap.objs.size → a ≠ b := fun b hb a ha e => by
    rcases List.mem_cons.mp hb with e1 | hb
    · rw [e, e1] at ha; exact absurd ha (by show ¬ ((_ : Nat) + 1 < _); (first | lia | omega))
    · rw [e, List.mem_singleton.mp hb] at ha; exact Nat.lt_irrefl _ ha
  refine pairLoop (s := { s with heap := h', toks := tk }) (R := fun r s' => match r with | .ok f => Q f s' | .error e => cameBackBy (model prog w) A env E e s') (P2 := fun i v0 v1 => (∃ ti, v0 = .int (i : Int) ti) ∧ ∃ c u, x.cps[i]? = some c ∧ v1 = .str ⟨#[c]⟩ u) hh
    (WalksT.enumerateD D (s.heap.objs.size + 1) (Nat.succ_ne_self _) (fun hm => Nat.succ_ne_self _ (List.mem_singleton.mp hm)) (by simp)) ?_ hxi hxc hp (fun hm => hne _ hm _ hLs rfl) (fun b hb => ?_) ?_ (fun q hq hm => hne _ hm _ (Heap.lt_size (N q hq).1) rfl) ⟨⟨_, by simpa using he⟩, hty ▸ hit⟩ F' N' J h0 ?_ ?_
  · rintro i vals ⟨ti, v, hP, rfl⟩
    exact ⟨_, _, rfl, ⟨ti, rfl⟩, hP⟩
  · refine Heap.get?_none_of_le (Nat.le_trans hab (Nat.le_of_lt ?_))
    rcases List.mem_cons.mp hb with e1 | hb
    · rw [e1]; exact Nat.lt_succ_of_lt hLs
    · rw [List.mem_singleton.mp hb]; exact hLs
  · rintro i h ⟨⟨old, he'⟩, o, ho, hc, _⟩ b hb
    rcases List.mem_cons.mp hb with rfl | hb
    · exact ⟨_, he', enum_cls⟩
    · rw [List.mem_singleton.mp hb]
      refine ⟨o, ho, ?_⟩
      rw [hc, hty]
      unfold strIterType
      split <;> decide
  · rintro i v0 v1 m₁ news₁ h tk' own hi ⟨⟨ti, rfl⟩, c, u, hc, rfl⟩ hcl hoff hJ F₁ N₁
    exact wpAny_passesOwn hE (step i c ti u m₁ news₁ h tk' own hc hcl hoff hJ F₁ N₁)
  · exact fun h₁ tk₁ m' news' F₁ N₁ hJ => done h₁ tk₁ m' news' F₁ N₁ hJ
end
end Mine
end

-- R1
section
open PySem PySem.W PyProof.Rows
set_option maxRecDepth 100000
set_option maxHeartbeats 1000000
namespace Mine
/-- where c stands in pre -/
noncomputable def posL (c : Nat) (pre : List Nat) : List Int := ((List.range pre.length).filter fun j => pre[j]? == some c).map fun (j : Nat) => (j : Int)
theorem posL_snoc (c : Nat) (pre : List Nat) (d : Nat) : posL c (pre ++ [d]) = if d = c then posL c pre ++ [(pre.length : Int)] else posL c pre := by
  unfold posL
  rw [List.length_append, List.length_singleton, List.range_succ, List.filter_append]
  have h1 : (List.range pre.length).filter (fun j => (pre ++ [d])[j]? == some c) = (List.range pre.length).filter (fun j => pre[j]? == some c) := by
    refine List.filter_congr fun j hj => ?_
    rw [List.mem_range] at hj
    rw [List.getElem?_append_left hj]
  rw [h1]
  by_cases e : d = c
  · simp [e]
  · simp [e]
theorem posL_nil_of {c : Nat} {pre : List Nat} (h : c ∉ pre) : posL c pre = [] := by
  unfold posL
  rw [List.map_eq_nil_iff, List.filter_eq_nil_iff]
  intro j _ e
  exact h (List.mem_of_getElem? (eq_of_beq e))
theorem posL_len (c : Nat) (pre : List Nat) : (posL c pre).length ≤ pre.length := by
  unfold posL
  rw [List.length_map]
  exact Nat.le_trans (List.length_filter_le _ _) (Nat.le_of_eq List.length_range)
/-- an entry of b2j: the sign, the list's address, its items, its epoch -/
noncomputable abbrev Ent := Nat × Addr × List Value × Nat
noncomputable abbrev entKv (e : Ent) : PySem.Str × Value := (⟨#[e.1]⟩, .ref e.2.1)
noncomputable abbrev entOb (e : Ent) : Addr × Obj := (e.2.1, W.listOf e.2.2.1.toArray e.2.2.2)
section
variable {w : World}
structure Ents (w : World) (ads : List Addr) (od : Obj) (pre : List Nat) (es : List Ent) : Prop where
  dict : Obj.IsDictOf (PySem.strKind PR w) od (es.map entKv)
  lsts : ∀ e ∈ es, IntsAre e.2.2.1 (posL e.1 pre)
  all : ∀ c ∈ pre, c ∈ es.map (·.1)
  only : ∀ e ∈ es, e.1 ∈ pre
  keys : (es.map (·.1)).Nodup
  addr : (es.map (·.2.1)).Nodup
  off : ∀ e ∈ es, ∀ b ∈ ads, e.2.1 ≠ b
  len : es.length ≤ pre.length
theorem chr_inj {a b : Nat} : ((⟨#[a]⟩ : PySem.Str) = ⟨#[b]⟩) ↔ a = b := by
  constructor
  · intro h; injection h with h; simpa using h
  · intro h; rw [h]
theorem valueAt_ents : ∀ (es : List Ent) (c : Nat), valueAt (es.map entKv) (⟨#[c]⟩ : PySem.Str) = (es.find? fun e => e.1 = c).map fun e => Value.ref e.2.1
  | [], _ => rfl
  | e :: r, c => by
    have ih := valueAt_ents r c
    unfold valueAt at ih ⊢
    simp only [List.map_cons, List.find?_cons, chr_inj]
    by_cases h : e.1 = c
    · simp [h]
    · simp only [h, decide_false]
      exact ih
theorem ents_there {w : World} {ads : List Addr} {od : Obj} {pre : List Nat} {es : List Ent} (h : Ents w ads od pre es) {c : Nat} {v : Value} (hv : valueAt (es.map entKv) (⟨#[c]⟩ : PySem.Str) = some v) :
    ∃ l1 l2 a us n, es = l1 ++ (c, a, us, n) :: l2 ∧ v = .ref a := by
  rw [valueAt_ents] at hv
  obtain ⟨e, he, rfl⟩ := Option.map_eq_some_iff.mp hv
  obtain ⟨l1, l2, rfl⟩ := List.append_of_mem (List.mem_of_find?_eq_some he)
  have := List.find?_some he
  simp only [decide_eq_true_eq] at this
  obtain ⟨c', a, us, n⟩ := e
  dsimp only at this
  subst this
  exact ⟨l1, l2, a, us, n, rfl, rfl⟩
theorem ents_push {w : World} {ads : List Addr} {od : Obj} {pre : List Nat} {l1 l2 : List Ent} {c : Nat} {a : Addr} {us : List Value} {n n' : Nat} (h : Ents w ads od pre (l1 ++ (c, a, us, n) :: l2)) (t : Tok) :
    Ents w ads od (pre ++ [c]) (l1 ++ (c, a, us ++ [.int (pre.length : Int) t], n') :: l2) := by
  have hk := h.keys
  rw [List.map_append, List.map_cons] at hk
  have hne : ∀ e ∈ l1 ++ l2, c ≠ e.1 := by
    intro e he hc
    rw [List.nodup_append] at hk
    obtain ⟨_, h2, h3⟩ := hk
    rcases List.mem_append.mp he with he | he
    · exact h3 e.1 (List.mem_map_of_mem he) c (.head _) hc.symm
    · exact (List.nodup_cons.mp h2).1 (List.mem_map.mpr ⟨e, he, hc.symm⟩)
  refine ⟨?_, ?_, ?_, ?_, ?_, ?_, ?_, ?_⟩
  · have := h.dict; simpa [entKv] using this
  · intro e he
    rw [posL_snoc]
    rcases List.mem_append.mp he with he | he
    · rw [if_neg (hne e (List.mem_append_left _ he))]; exact h.lsts e (List.mem_append_left _ he)
    · rcases List.mem_cons.mp he with rfl | he
      · rw [if_pos rfl]
        exact intsAre_snoc (h.lsts (c, a, us, n) (List.mem_append_right _ (.head _))) _ _
      · rw [if_neg (hne e (List.mem_append_right _ he))]; exact h.lsts e (List.mem_append_right _ (.tail _ he))
  · intro d hd
    have e1 : (l1 ++ (c, a, us ++ [.int (pre.length : Int) t], n') :: l2).map (·.1) = (l1 ++ (c, a, us, n) :: l2).map (·.1) := by simp
    rw [e1]
    rcases List.mem_append.mp hd with hd | hd
    · exact h.all d hd
    · rw [List.mem_singleton.mp hd]; simp
  · intro e he
    rcases List.mem_append.mp he with he | he
    · exact List.mem_append_left _ (h.only e (List.mem_append_left _ he))
    · rcases List.mem_cons.mp he with rfl | he
      · exact List.mem_append_right _ (.head _)
      · exact List.mem_append_left _ (h.only e (List.mem_append_right _ (.tail _ he)))
  · have := h.keys; simpa using this
  · have := h.addr; simpa using this
  · intro e he
    rcases List.mem_append.mp he with he | he
    · exact h.off e (List.mem_append_left _ he)
    · rcases List.mem_cons.mp he with rfl | he
      · exact h.off (c, a, us, n) (List.mem_append_right _ (.head _))
      · exact h.off e (List.mem_append_right _ (.tail _ he))
  · have := h.len; simp at this ⊢; (first | lia | omega)
theorem ents_new {w : World} {ads : List Addr} {od od' : Obj} {pre : List Nat} {es : List Ent} {c : Nat} {a : Addr} {n : Nat} (h : Ents w ads od pre es) (hv : valueAt (es.map entKv) (⟨#[c]⟩ : PySem.Str) = none)
    (hd : Obj.IsDictOf (PySem.strKind PR w) od' (stored (es.map entKv) (⟨#[c]⟩ : PySem.Str) (.ref a))) (ha : ∀ b ∈ ads, a ≠ b) (hn : ∀ e ∈ es, a ≠ e.2.1) (t : Tok) :
    Ents w ads od' (pre ++ [c]) (es ++ [(c, a, [.int (pre.length : Int) t], n)]) := by
  have hc : c ∉ es.map (·.1) := by
    intro hm
    obtain ⟨e, he, e1⟩ := List.mem_map.mp hm
    rw [valueAt_ents] at hv
    have := List.find?_eq_none.mp (Option.map_eq_none_iff.mp hv) e he
    exact this (by simpa using e1)
  have hcp : c ∉ pre := fun hm => hc (h.all c hm)
  refine ⟨?_, ?_, ?_, ?_, ?_, ?_, ?_, ?_⟩
  · rw [stored_absent hv] at hd; rw [List.map_append]; exact hd
  · intro e he
    rw [posL_snoc]
    rcases List.mem_append.mp he with he | he
    · rw [if_neg (fun q => hc (List.mem_map.mpr ⟨e, he, q.symm⟩))]; exact h.lsts e he
    · rw [List.mem_singleton.mp he, if_pos rfl, posL_nil_of hcp]
      exact .cons _ t .nil
  · intro d hd
    rw [List.map_append]
    rcases List.mem_append.mp hd with hd | hd
    · exact List.mem_append_left _ (h.all d hd)
    · exact List.mem_append_right _ (by rw [List.mem_singleton.mp hd]; exact .head _)
  · intro e he
    rcases List.mem_append.mp he with he | he
    · exact List.mem_append_left _ (h.only e he)
    · rw [List.mem_singleton.mp he]; exact List.mem_append_right _ (.head _)
  · rw [List.map_append, List.nodup_append]
    refine ⟨h.keys, by simp, fun x hx y hy => ?_⟩
    rw [List.map_singleton, List.mem_singleton] at hy
    rw [hy]; intro q; rw [q] at hx; exact hc hx
  · rw [List.map_append, List.nodup_append]
    refine ⟨h.addr, by simp, fun x hx y hy => ?_⟩
    rw [List.map_singleton, List.mem_singleton] at hy
    obtain ⟨e, he, rfl⟩ := List.mem_map.mp hx
    rw [hy]; exact fun q => hn e he q.symm
  · intro e he
    rcases List.mem_append.mp he with he | he
    · exact h.off e he
    · rw [List.mem_singleton.mp he]; exact ha
  · have := h.len; simp; (first | lia | omega)
theorem ents_off {w : World} {ads : List Addr} {od : Obj} {pre : List Nat} {l1 l2 : List Ent} {c : Nat} {a : Addr} {us : List Value} {n : Nat} (h : Ents w ads od pre (l1 ++ (c, a, us, n) :: l2)) :
    OwnOff ((l1 ++ l2).map entOb) (ads ++ [a]) := by
  intro p hp b hb
  obtain ⟨e, he, rfl⟩ := List.mem_map.mp hp
  rcases List.mem_append.mp hb with hb | hb
  · refine h.off e ?_ b hb
    rcases List.mem_append.mp he with he | he
    · exact List.mem_append_left _ he
    · exact List.mem_append_right _ (.tail _ he)
  · rw [List.mem_singleton.mp hb]
    have := h.addr
    rw [List.map_append, List.map_cons, List.nodup_append] at this
    obtain ⟨_, h2, h3⟩ := this
    rcases List.mem_append.mp he with he | he
    · exact h3 _ (List.mem_map_of_mem he) _ (.head _)
    · exact fun q => (List.nodup_cons.mp h2).1 (List.mem_map.mpr ⟨e, he, q⟩)
theorem ownOff_append {a b : Led} {l : List Addr} (h1 : OwnOff a l) (h2 : OwnOff b l) : OwnOff (a ++ b) l := fun p hp => (List.mem_append.mp hp).elim (h1 p) (h2 p)
end
end Mine
end

-- E9
section
open PySem PySem.W PyProof.Rows PySem.Calls
set_option maxRecDepth 100000
set_option maxHeartbeats 0
namespace Mine
local macro_rules | `(tactic| walk_at "idle line") => `(tactic| skip)
section
variable {w : World} {p : Program} {loose : List Str} {mean : MeanT} {mg mb : Str → Option Value}

local macro_rules | `(tactic| walk_at "exec For Tuple Call") => `(tactic| refine stop_ ?_)
local macro_rules | `(tactic| walk_at "call type:enumerate") => `(tactic| refine stop_ ?_)
local macro_rules | `(tactic| walk_at "call builtin:dict.setdefault") => `(tactic| (k_here; (with_reducible show wpAny _ _ (call (Value.builtin "dict.setdefault") [Value.ref _, Value.str _ _, _]) _ _ _); k_dflt (first
  | refine kob_setdef_there (knd := PySem.strKind _ _) (by k_asm) (by k_mem) (by k_asm) (by k_asm) (strKind_is _ _ _ _) (PySem.F.args_dict_setdefault_3 _ _ _) (by assumption) (by assumption) ?_
  | (refine' kob_setdef_new (knd := PySem.strKind _ _) ?F ?N ?U ?d ?o (strKind_is _ _ _ _) (PySem.F.args_dict_setdefault_3 _ _ _) ?l ?z ?_; (case F => k_asm); (case N => k_asm); (case U => k_updF); (case d => k_asm); (case o => k_asm); (case l => assumption); (case z => assumption); intro h' o' F' N' hd'; (try dsimp only at N')))))
theorem back_get {h₀ h h' : Heap} {L L' : Addr} {m' : PySem.Str → Option Value} {chg : Led} (N : News h₀ L h chg) (F' : Fr (hideAll h (chg.map (·.1))) L' h' m') {b : Addr} {o : Obj} (hb : ∀ p ∈ chg, p.1 ≠ b) (e : h.get? b = some o) : h'.get? b = some o :=
  F'.keep b o (hideAll_get _ e fun hm => by
    obtain ⟨p, hp, e1⟩ := List.mem_map.mp hm
    exact hb p hp e1)
theorem back_fr {h₀ h h' : Heap} {L L' : Addr} {m m' : PySem.Str → Option Value} {chg : Led} (F : Fr h₀ L h m) (N : News h₀ L h chg) (F' : Fr (hideAll h (chg.map (·.1))) L' h' m') : Fr h₀ L h' m :=
  ⟨F.ns.at' fun o e => back_get N F' (fun p hp => (N p hp).2.1) e, fun b o e => back_get N F' (fun p hp q => by have := (N p hp).2.2; rw [q, e] at this; cases this) (F.keep b o e), F.above⟩
theorem back_news {h₀ h h' : Heap} {L L' : Addr} {m : PySem.Str → Option Value} {chg news : Led} (F : Fr h₀ L h m) (N : News h₀ L h chg) (N' : News (hideAll h (chg.map (·.1))) L' h' news) : News h₀ L h' news := by
  intro p hp
  obtain ⟨h1, _, h3⟩ := N' p hp
  refine ⟨h1, fun e => ?_, ?_⟩
  · obtain ⟨oL, _, _, hL, _⟩ := F.ns
    have := hideAll_get (chg.map (·.1)) hL fun hm => by
      obtain ⟨q, hq, e1⟩ := List.mem_map.mp hm
      exact (N q hq).2.1 e1
    rw [← e, h3] at this; cases this
  · cases q : h₀.get? p.1 with
    | none => rfl
    | some o =>
      have := hideAll_get (chg.map (·.1)) (F.keep _ _ q) fun hm => by
        obtain ⟨r, hr, e1⟩ := List.mem_map.mp hm
        have z := (N r hr).2.2
        rw [e1, q] at z; cases z
      rw [h3] at this; cases this
theorem lt_of_allLt {d : Nat} : ∀ (l : Led), AllLt d l → ∀ p ∈ l, @LT.lt Nat _ p.1 d := by
  intro l
  induction l with
  | nil => intro _ p hp; exact absurd hp (by simp)
  | cons q r ih =>
    intro h p hp
    rcases List.mem_cons.mp hp with e | hp
    · rw [e]; exact h.1
    · exact ih h.2 p hp
theorem chain_ (x dx : Addr) (b : PySem.Str) (tb : Tok) (a1 a2 a3 a4 a5 a6 a7 : Tok) (va : Value) (hbn : b.cps.size < 100) (dp un : Nat) (gd : Option (List Code)) (cn : PySem.Str) (cs : Scope) (a : Addr) (ccd : Value) (cl : List (PySem.Str × Addr)) (outer : List Env) (A₀ : Around) (base h₀ : Heap) (L : Addr) (m : PySem.Str → Option Value) (s : Shared) (Q E : Value → Shared → Prop)
    (B : Below A₀ base outer h₀) (F : Fr h₀ L s.heap m) (X : (KK w.params).In h₀) (T : Top p loose mean mg mb h₀) (hk : cs.kind = .function) (hd : dp + 3 < recursionLimit) (hu : un + 24 < cLine) (hxd : @LT.lt Nat _ dx x)
    (N : News h₀ L s.heap [(x, instObj 242 dx), (dx, dictOf [⟨PyData.keyHash w.params (Str.ofString "isjunk"), .str (Str.ofString "isjunk") a1, .none⟩, ⟨PyData.keyHash w.params (Str.ofString "a"), .str (Str.ofString "a") a2, va⟩, ⟨PyData.keyHash w.params (Str.ofString "b"), .str (Str.ofString "b") a3, .str b tb⟩, ⟨PyData.keyHash w.params (Str.ofString "autojunk"), .str (Str.ofString "autojunk") a4, .bool true⟩, ⟨PyData.keyHash w.params (Str.ofString "matching_blocks"), .str (Str.ofString "matching_blocks") a5, .none⟩, ⟨PyData.keyHash w.params (Str.ofString "opcodes"), .str (Str.ofString "opcodes") a6, .none⟩, ⟨PyData.keyHash w.params (Str.ofString "fullbcount"), .str (Str.ofString "fullbcount") a7, .none⟩] 7)])
    (hret : ∀ h' tk' d od es js jp lj lp t1 t2 t3, Fr h₀ L h' m → News h₀ L h' ((jp, { cls := .type "set", data := .set #[] 0 (SetTable.fresh 0 0 lp) }) :: (js, { cls := .type "set", data := .set #[] 0 (SetTable.fresh 0 0 lj) }) :: (d, od) :: (x, instObj 242 dx) :: (dx, dictOf [⟨PyData.keyHash w.params (Str.ofString "isjunk"), .str (Str.ofString "isjunk") a1, .none⟩, ⟨PyData.keyHash w.params (Str.ofString "a"), .str (Str.ofString "a") a2, va⟩, ⟨PyData.keyHash w.params (Str.ofString "b"), .str (Str.ofString "b") a3, .str b tb⟩, ⟨PyData.keyHash w.params (Str.ofString "autojunk"), .str (Str.ofString "autojunk") a4, .bool true⟩, ⟨PyData.keyHash w.params (Str.ofString "matching_blocks"), .str (Str.ofString "matching_blocks") a5, .none⟩, ⟨PyData.keyHash w.params (Str.ofString "opcodes"), .str (Str.ofString "opcodes") a6, .none⟩, ⟨PyData.keyHash w.params (Str.ofString "fullbcount"), .str (Str.ofString "fullbcount") a7, .none⟩, ⟨PyData.keyHash w.params (Str.ofString "b2j"), .str (Str.ofString "b2j") t1, .ref d⟩, ⟨PyData.keyHash w.params (Str.ofString "bjunk"), .str (Str.ofString "bjunk") t2, .ref js⟩, ⟨PyData.keyHash w.params (Str.ofString "bpopular"), .str (Str.ofString "bpopular") t3, .ref jp⟩] 10) :: es.map entOb) →
      Ents w [d, x, dx] od b.cps.toList es → (@LT.lt Nat _ js jp ∧ @LT.lt Nat _ d jp ∧ @LT.lt Nat _ x jp ∧ @LT.lt Nat _ dx jp ∧ AllLt jp (es.map entOb)) → (@LT.lt Nat _ d js ∧ @LT.lt Nat _ x js ∧ @LT.lt Nat _ dx js ∧ AllLt js (es.map entOb)) → (@LT.lt Nat _ x d ∧ @LT.lt Nat _ dx d) → (d == sysModules) = false →
      Q .none { s with heap := h', toks := tk' })
    : wpAny (model PR w) (ktrTop dp un gd cn cs L a ccd cl outer) (call (.ref 188) [.ref x]) Q E s := by
  unfold PR
  revert X
  k_fill
  intro X
  refine wpAny_call ?_
  k_dflt (refine' code_mut (binds := [(S "self", .ref x)]) ?k1 ?k2 ?k3 ?kN ?k5 ?kA ?kF ?kK ?k6 ?k7 ?k8 ?k9 ?kB ?_ ?c2 ?c3 ?c4 ?c5; (case kA => exact rfl); (case kF => exact rfl); (case kK => assumption); (case k1 => k_asm); (case k2 => k_asm); (case k3 => k_asm); (case kN => k_asm); (case k5 => k_asm); (case k6 => k_is); (case k7 => k_is); (case k8 => ktr_room); (case k9 => exact BindsTo.of_eq rfl); (case c5 => decide); (case kB => exact locs rfl); (case c2 => exact rfl); (case c3 => exact rfl); (case c4 => exact rfl); k_whole; intro L' h' F' N' B' X' T')
  dsimp only
  generalize s.toks + List.length _ = tk0
  have hbF := fun h' m' f => back_fr (h' := h') (m' := m') (L' := L') F N f
  have hbN := fun h' news f => back_news (h' := h') (news := news) (L' := L') F N f
  generalize hideAll _ _ = g at *
  k_steps
  unfold Stop
  rename Addr => d
  rename Obj => o0
  rename (d == sysModules) = false => hds
  rename Fr g _ _ _ => F1
  rename News g _ _ _ => N1
  rename Obj.IsDictOf (PySem.strKind _ _) o0 _ => hd0
  rename x < d ∧ dx < d => hlt
  dsimp only at N1
  generalize hoD : dictOf _ _ = oD at N1
  refine For_enum (x := b) (t := tb) rfl rfl rfl rfl F1 N1 (fun i m nx => (∃ od es, nx = [(d, od), (x, instObj 242 dx), (dx, oD)] ++ es.map entOb ∧ Ents w [d, x, dx] od (b.cps.toList.take i) es) ∧ ∀ p ∈ [(S "self", Value.ref x), (S "b", .str b tb), (S "b2j", .ref d)], m p.1 = some p.2) ?h0 ?hiter ?step ?done (by intro _; rfl)
  case h0 =>
    refine ⟨⟨o0, [], rfl, ⟨hd0, (fun _ h => nomatch h), (fun c hc => absurd hc (by simp)), (fun _ h => nomatch h), List.nodup_nil, List.nodup_nil, (fun _ h => nomatch h), Nat.zero_le _⟩⟩, (List.forall_mem_cons.mpr ⟨rfl, List.forall_mem_cons.mpr ⟨rfl, List.forall_mem_cons.mpr ⟨rfl, (fun _ h => nomatch h)⟩⟩⟩)⟩
  case hiter =>
    intro Q' hq
    k_steps
    exact hq _
  case step =>
    clear F1 N1 hd0 hoD
    rintro i c ti u m₁ _ h tk own hic hcl hoff ⟨⟨od, es, rfl, hE⟩, hm⟩ F2 N2
    have hc3 : ∀ p ∈ [(S "self", Value.ref x), (S "b", Value.str b tb), (S "b2j", Value.ref d), (Str.ofString "elt", Value.str ⟨#[c]⟩ u), (Str.ofString "i", Value.int (i : Int) ti)], (fun y => if y = Str.ofString "elt" then some (Value.str ⟨#[c]⟩ u) else if y = Str.ofString "i" then some (Value.int (i : Int) ti) else m₁ y) p.1 = some p.2 := by
      intro p hp
      rcases List.mem_cons.mp hp with rfl | hp
      · exact hm _ (.head _)
      rcases List.mem_cons.mp hp with rfl | hp
      · exact hm _ (.tail _ (.head _))
      rcases List.mem_cons.mp hp with rfl | hp
      · exact hm _ (.tail _ (.tail _ (.head _)))
      rcases List.mem_cons.mp hp with rfl | hp
      · rfl
      rcases List.mem_cons.mp hp with rfl | hp
      · rfl
      · exact nomatch hp
    replace F2 := fr_ovl hc3 F2
    clear hc3 hm
    dsimp only [ovl] at F2
    generalize (fun y => if y = Str.ofString "elt" then some (Value.str ⟨#[c]⟩ u) else if y = Str.ofString "i" then some (Value.int (i : Int) ti) else m₁ y) = m₂ at F2
    have hsz : (es.map entKv).length ≤ sizeLine := by
      have h1 := hE.len
      rw [List.length_take] at h1
      rw [List.length_map, sizeLine_eq]
      have h2 : b.cps.toList.length < 100 := by simpa using hbn
      (first | lia | omega)
    have hpre : b.cps.toList.take (i + 1) = b.cps.toList.take i ++ [c] := by
      obtain ⟨h1, h2⟩ := Array.getElem?_eq_some_iff.mp hic
      rw [List.take_succ_eq_append_getElem (by simpa using h1)]
      simpa using h2
    have hpl : ((b.cps.toList.take i).length : Int) = (i : Int) := by
      obtain ⟨h1, h2⟩ := Array.getElem?_eq_some_iff.mp hic
      rw [List.length_take, Nat.min_eq_left (by simpa using Nat.le_of_lt h1)]
    have hdic := hE.dict
    cases hv : valueAt (es.map entKv) (⟨#[c]⟩ : PySem.Str) with
    | some v =>
      obtain ⟨l1, l2, la, us, n, rfl, rfl⟩ := ents_there hE hv
      have hof := ents_off hE
      have N3 : News g L' h ((d, od) :: (x, instObj 242 dx) :: (dx, oD) :: (la, W.listOf us.toArray n) :: ((l1 ++ l2).map entOb ++ own)) := by
        intro p hp
        refine N2 p ?_
        simp only [List.map_append, List.map_cons, List.mem_append, List.mem_cons, List.not_mem_nil, or_false] at hp ⊢
        rcases hp with h1 | h1 | h1 | h1 | (h1 | h1) | h1
        · exact .inl (.inl (.inl h1))
        · exact .inl (.inl (.inr (.inl h1)))
        · exact .inl (.inl (.inr (.inr h1)))
        · exact .inl (.inr (.inr (.inl h1)))
        · exact .inl (.inr (.inl h1))
        · exact .inl (.inr (.inr (.inr h1)))
        · exact .inr h1
      have hof2 : OwnOff ((l1 ++ l2).map entOb ++ own) ([(d, od), (x, instObj 242 dx), (dx, oD), (la, W.listOf us.toArray n)].map (·.1)) := by
        refine ownOff_append hof ?_
        intro p hp a' ha
        refine hoff p hp a' ?_
        simp only [List.map_append, List.map_cons, List.mem_append, List.mem_cons, List.map_nil, List.not_mem_nil, or_false] at ha ⊢
        rcases ha with h1 | h1 | h1 | h1
        · exact .inl (.inl h1)
        · exact .inl (.inr (.inl h1))
        · exact .inl (.inr (.inr h1))
        · exact .inr (.inr (.inl h1))
      have hla : @Ne Nat la d ∧ @Ne Nat la x ∧ @Ne Nat la dx := by
        have := hE.off (c, la, us, n) (List.mem_append_right _ (.head _))
        exact ⟨this d (.head _), this x (.tail _ (.head _)), this dx (.tail _ (.tail _ (.head _)))⟩
      have hul : us.length < 100 := by
        rw [(hE.lsts (c, la, us, n) (List.mem_append_right _ (.head _))).length]
        refine Nat.lt_of_le_of_lt (posL_len _ _) (Nat.lt_of_le_of_lt (List.length_take_le' _ _) ?_)
        simpa using hbn
      clear N2 hof
      generalize hown : ((l1 ++ l2).map entOb ++ own) = own2 at N3 hof2
      generalize (l1 ++ (c, la, us, n) :: l2).map entKv = kvs at hv hdic hsz
      k_steps
      with_reducible rename Fr _ _ _ _ => F4
      with_reducible rename News _ _ _ _ => N4
      simp only [List.push_toArray] at N4
      have hE4 := ents_push (n' := n + 1) hE ti
      rw [hpl, ← hpre] at hE4
      refine TurnEnd.intro ((d, od) :: (x, instObj 242 dx) :: (dx, oD) :: (l1 ++ (c, la, us ++ [Value.int (i : Int) ti], n + 1) :: l2).map entOb) F4 N4 ?_ ?_ ?_ ⟨⟨od, _, rfl, hE4⟩, (List.forall_mem_cons.mpr ⟨rfl, List.forall_mem_cons.mpr ⟨rfl, List.forall_mem_cons.mpr ⟨rfl, (fun _ h => nomatch h)⟩⟩⟩)⟩
      · intro p hp
        rw [← hown]
        simp only [List.map_append, List.map_cons, List.mem_append, List.mem_cons] at hp ⊢
        rcases hp with h1 | h1 | h1 | h1 | h1 | h1
        · exact .inr (.inl h1)
        · exact .inr (.inr (.inl h1))
        · exact .inr (.inr (.inr (.inl h1)))
        · exact .inr (.inr (.inr (.inr (.inr (.inl (.inl h1))))))
        · exact .inr (.inr (.inr (.inr (.inl h1))))
        · exact .inr (.inr (.inr (.inr (.inr (.inl (.inr h1))))))
      · intro p hp
        rw [← hown]
        refine .tail _ (.tail _ (.tail _ (.tail _ (.tail _ (List.mem_append_right _ hp)))))
      · have e : ((d, od) :: (x, instObj 242 dx) :: (dx, oD) :: (l1 ++ (c, la, us ++ [Value.int (i : Int) ti], n + 1) :: l2).map entOb).map (·.1) = ([(d, od), (x, instObj 242 dx), (dx, oD)] ++ (l1 ++ (c, la, us, n) :: l2).map entOb).map (·.1) := by simp [entOb]
        rw [e]
        exact hoff
    | none =>
      have N3 : News g L' h ((d, od) :: (x, instObj 242 dx) :: (dx, oD) :: (es.map entOb ++ own)) := N2
      have hof2 : OwnOff (es.map entOb ++ own) ([(d, od), (x, instObj 242 dx), (dx, oD)].map (·.1)) := by
        refine ownOff_append (fun p hp a' ha => ?_) (fun p hp a' ha => hoff p hp a' ?_)
        · obtain ⟨e, he, rfl⟩ := List.mem_map.mp hp
          exact hE.off e he a' ha
        · rw [List.map_append]
          exact List.mem_append_left _ ha
      clear N2
      generalize hown : es.map entOb ++ own = own2 at N3 hof2
      generalize hkvs : es.map entKv = kvs at hv hdic hsz
      k_steps
      with_reducible rename Fr _ _ _ _ => F4
      with_reducible rename News _ _ _ _ => N4
      with_reducible rename Obj => od'
      with_reducible rename Obj.IsDictOf _ od' _ => hd4
      with_reducible rename _ ∧ _ ∧ _ ∧ AllLt _ _ => hl4
      have hlt4 := lt_of_allLt _ hl4.2.2.2
      rw [← hown] at hlt4
      rw [← hkvs] at hd4 hv
      have hE4 := ents_new (n := 0 + 1) hE hv hd4 (fun b' hb' => ?ads) (fun e he => ?ent) ti
      rw [hpl, ← hpre] at hE4
      refine TurnEnd.intro ((d, od') :: (x, instObj 242 dx) :: (dx, oD) :: (es ++ [(c, _, [Value.int (i : Int) ti], 0 + 1)]).map entOb) F4 N4 ?_ ?_ ?_ ⟨⟨od', _, rfl, hE4⟩, (List.forall_mem_cons.mpr ⟨rfl, List.forall_mem_cons.mpr ⟨rfl, List.forall_mem_cons.mpr ⟨rfl, (fun _ h => nomatch h)⟩⟩⟩)⟩
      case ads =>
        rcases List.mem_cons.mp hb' with rfl | hb'
        · exact Nat.ne_of_gt hl4.1
        rcases List.mem_cons.mp hb' with rfl | hb'
        · exact Nat.ne_of_gt hl4.2.1
        rw [List.mem_singleton.mp hb']
        exact Nat.ne_of_gt hl4.2.2.1
      case ent => exact Nat.ne_of_gt (hlt4 (entOb e) (List.mem_append_left _ (List.mem_map_of_mem he)))
      · intro p hp
        rw [← hown]
        simp only [List.map_append, List.map_cons, List.map_nil, List.mem_append, List.mem_cons, List.not_mem_nil, or_false] at hp ⊢
        rcases hp with h1 | h1 | h1 | h1 | h1
        · exact .inr (.inl h1)
        · exact .inr (.inr (.inl h1))
        · exact .inr (.inr (.inr (.inl h1)))
        · exact .inr (.inr (.inr (.inr (.inl h1))))
        · exact .inl h1
      · intro p hp
        rw [← hown]
        exact .tail _ (.tail _ (.tail _ (.tail _ (List.mem_append_right _ hp))))
      · intro p hp a' ha
        have e : ∀ l4 : Addr, ((d, od') :: (x, instObj 242 dx) :: (dx, oD) :: (es ++ [(c, l4, [Value.int (i : Int) ti], 0 + 1)]).map entOb).map (·.1) = ([(d, od), (x, instObj 242 dx), (dx, oD)] ++ es.map entOb).map (·.1) ++ [l4] := by intro l4; simp [entOb]
        rw [e] at ha
        rcases List.mem_append.mp ha with ha | ha
        · exact hoff p hp a' ha
        · rw [List.mem_singleton.mp ha]
          exact Nat.ne_of_lt (hlt4 p (List.mem_append_right _ hp))
  case done =>
    rintro h tk m₁ _ F2 N2 ⟨⟨od, es, rfl, hE⟩, hm⟩
    clear F1 N1 hd0
    replace F2 := fr_ovl hm F2
    clear hm
    dsimp only [ovl] at F2
    have hE' : Ents w [d, x, dx] od b.cps.toList es := by
      rwa [show b.cps.toList.take b.cps.size = b.cps.toList from List.take_of_length_le (by simp)] at hE
    clear hE
    have hof : OwnOff (es.map entOb) ([(d, od), (x, instObj 242 dx), (dx, oD)].map (·.1)) := fun p hp a' ha => by
      obtain ⟨e, he, rfl⟩ := List.mem_map.mp hp
      exact hE'.off e he a' ha
    have hdic := hE'.dict
    subst hoD
    have N3 : News g L' h ((d, od) :: (x, instObj 242 dx) :: (dx, _) :: es.map entOb) := N2
    clear N2
    generalize hown : es.map entOb = own at N3 hof
    dsimp only
    have hbl : b.length < 100 := hbn
    k_steps
    with_reducible rename Fr _ _ _ _ => F4
    with_reducible rename News _ _ _ _ => N4
    with_reducible rename _ ∧ _ ∧ _ ∧ _ ∧ AllLt _ _ => l1
    with_reducible rename _ ∧ _ ∧ _ ∧ AllLt _ _ => l2
    subst hown
    exact hret _ _ _ _ _ _ _ _ _ _ _ _ (hbF _ _ F4) (hbN _ _ N4) hE' l1 l2 hlt hds
end
end Mine
end

-- E10
section
open PySem PySem.W PyProof.Rows PySem.Calls
set_option maxRecDepth 100000
set_option maxHeartbeats 0
namespace Mine
section
variable {w : World} {p : Program} {loose : List Str} {mean : MeanT} {mg mb : Str → Option Value}

local macro_rules | `(tactic| k_room) => `(tactic| ktr_room)
local macro_rules | `(tactic| walk_at "call ref") => `(tactic| (k_here; (show wpAny _ _ (call (Value.ref 188) _) _ _ _); refine stop_ ?_))
theorem ctor_ (va vb : PySem.Str) (ta tb tn : Tok) (hbn : vb.cps.size < 100) (dp un : Nat) (gd : Option (List Code)) (cn : PySem.Str) (cs : Scope) (a : Addr) (ccd : Value) (cl : List (PySem.Str × Addr)) (outer : List Env) (A₀ : Around) (base h₀ : Heap) (L : Addr) (m : PySem.Str → Option Value) (s : Shared) (Q E : Value → Shared → Prop)
    (B : Below A₀ base outer h₀) (F : Fr h₀ L s.heap m) (X : (KK w.params).In h₀) (T : Top p loose mean mg mb h₀) (hk : cs.kind = .function) (hd : dp + 8 < recursionLimit) (hu : un + 150 < cLine) (news : Led) (N : News h₀ L s.heap news)
    (hret : ∀ x dx h' tk' d od es js jp lj lp a1 a2 a3 a4 a5 a6 a7 t1 t2 t3, Fr h₀ L h' m → News h₀ L h' ((jp, { cls := .type "set", data := .set #[] 0 (SetTable.fresh 0 0 lp) }) :: (js, { cls := .type "set", data := .set #[] 0 (SetTable.fresh 0 0 lj) }) :: (d, od) :: (x, instObj 242 dx) :: (dx, dictOf [⟨PyData.keyHash w.params (Str.ofString "isjunk"), .str (Str.ofString "isjunk") a1, .none⟩, ⟨PyData.keyHash w.params (Str.ofString "a"), .str (Str.ofString "a") a2, .str va ta⟩, ⟨PyData.keyHash w.params (Str.ofString "b"), .str (Str.ofString "b") a3, .str vb tb⟩, ⟨PyData.keyHash w.params (Str.ofString "autojunk"), .str (Str.ofString "autojunk") a4, .bool true⟩, ⟨PyData.keyHash w.params (Str.ofString "matching_blocks"), .str (Str.ofString "matching_blocks") a5, .none⟩, ⟨PyData.keyHash w.params (Str.ofString "opcodes"), .str (Str.ofString "opcodes") a6, .none⟩, ⟨PyData.keyHash w.params (Str.ofString "fullbcount"), .str (Str.ofString "fullbcount") a7, .none⟩, ⟨PyData.keyHash w.params (Str.ofString "b2j"), .str (Str.ofString "b2j") t1, .ref d⟩, ⟨PyData.keyHash w.params (Str.ofString "bjunk"), .str (Str.ofString "bjunk") t2, .ref js⟩, ⟨PyData.keyHash w.params (Str.ofString "bpopular"), .str (Str.ofString "bpopular") t3, .ref jp⟩] 10) :: es.map entOb) → News h₀ L h' news → AllLt dx news →
      Ents w [d, x, dx] od vb.cps.toList es → (@LT.lt Nat _ js jp ∧ @LT.lt Nat _ d jp ∧ @LT.lt Nat _ x jp ∧ @LT.lt Nat _ dx jp ∧ AllLt jp (es.map entOb)) → (@LT.lt Nat _ d js ∧ @LT.lt Nat _ x js ∧ @LT.lt Nat _ dx js ∧ AllLt js (es.map entOb)) → (@LT.lt Nat _ x d ∧ @LT.lt Nat _ dx d) → @LT.lt Nat _ dx x → (d == sysModules) = false →
      Q (.ref x) { s with heap := h', toks := tk' })
    : wpAny (model PR w) (ktrTop dp un gd cn cs L a ccd cl outer) (call (.ref 242) [.none, .str va ta, .str vb tb]) Q E s := by
  unfold PR
  revert X
  k_fill
  intro X
  have q1 : makesIn (KK w.params) 242 = true := by k_is
  have q2 : findIn (KK w.params) (.ref 242) "__init__" = some (some (.ref 160)) := by k_is
  have q3 : isFn (KK w.params) (.ref 160) = true := by k_is
  refine call_cls F X N q1 q2 q3 ?_
  clear q1 q2 q3
  intro x dx h1 F1 N1 l1 l2
  replace l2 : @LT.lt Nat _ dx x := l2
  have l1' : AllLt dx news := allLt_of l1
  have hnn : ∀ p ∈ news, ∀ q ∈ [(x, instObj 242 dx), (dx, dictOf [] 0)], q.1 ≠ p.1 := by
    intro p hp q hq
    have h2 := lt_of_allLt _ l1' p hp
    rcases List.mem_cons.mp hq with rfl | hq
    · exact Nat.ne_of_gt (Nat.lt_trans h2 l2)
    · rw [List.mem_singleton.mp hq]; exact Nat.ne_of_gt h2
  have N0 : News h₀ L h1 news := fun p hp => N1 p (.tail _ (.tail _ hp))
  replace N1 : News h₀ L h1 [(x, instObj 242 dx), (dx, dictOf [] 0)] := fun p hp => N1 p (by
    rcases List.mem_cons.mp hp with rfl | hp
    · exact .head _
    · rw [List.mem_singleton.mp hp]; exact .tail _ (.head _))
  k_dflt (refine' code_mut (chg := [(x, instObj 242 dx), (dx, dictOf [] 0)]) (binds := [(S "self", .ref x), (S "isjunk", .none), (S "a", .str va ta), (S "b", .str vb tb), (S "autojunk", .bool true)]) ?k1 ?k2 ?k3 ?kN ?k5 ?kA ?kF ?kK ?k6 ?k7 ?k8 ?k9 ?kB ?_ ?c2 ?c3 ?c4 ?c5; (case kA => exact rfl); (case kF => exact rfl); (case kK => assumption); (case k1 => k_asm); (case k2 => k_asm); (case k3 => k_asm); (case kN => k_asm); (case k5 => k_asm); (case k6 => k_is); (case k7 => k_is); (case k8 => ktr_room); (case k9 => exact binds_K (by k_in) rfl (by k_is) rfl rfl rfl); (case c5 => decide); (case kB => exact locs rfl); (case c2 => exact rfl); (case c3 => exact rfl); (case c4 => exact rfl); k_whole; intro L' h' F' N' B' X' T')
  dsimp only
  generalize s.toks + List.length _ = tk0
  have hbF := fun h' m' f => back_fr (h' := h') (m' := m') (L' := L') F1 N1 f
  have hbO : ∀ h' m', Fr (hideAll h1 ([(x, instObj 242 dx), (dx, dictOf [] 0)].map (·.1))) L' h' m' → News h₀ L h' news := fun h' m' f p hp => ⟨back_get N1 f (hnn p hp) (N0 p hp).1, (N0 p hp).2⟩
  clear N N0 hnn l1
  have hbN := fun h' news f => back_news (h' := h') (news := news) (L' := L') F1 N1 f
  generalize hideAll _ _ = g at *
  k_steps
  unfold Stop
  refine' chain_ _ _ _ _ _ _ _ _ _ _ _ _ ?hb _ _ _ _ _ _ _ _ _ _ _ _ _ _ _ _ _ ?B ?F ?X ?T ?hk ?hd ?hu ?l ?N ?ret
  case B => k_asm
  case F => k_asm
  case X => k_asm
  case T => k_asm
  case hk => first | exact rfl | assumption
  case hd => ktr_room
  case hu =>
    have hcL9 := cLine_is
    simp only [units_deeper, units_under_make]
    (try dsimp only [ktrTop])
    (first | lia | omega)
  case l => assumption
  case N => k_asm
  case hb => assumption
  intro h9 tk9 d9 od9 es9 js9 jp9 lj9 lp9 t1 t2 t3 F9 N9 en9 o1 o2 o3 o4
  k_steps
  with_reducible rename Fr _ _ _ _ => F5
  with_reducible rename News _ _ _ _ => N5
  exact hret _ _ _ _ _ _ _ _ _ _ _ _ _ _ _ _ _ _ _ _ _ (hbF _ _ F5) (hbN _ _ N5) (hbO _ _ F5) l1' en9 o1 o2 o3 l2 o4
end
end Mine
end

-- PL
section
set_option maxRecDepth 100000
set_option maxHeartbeats 400000
namespace Mine
/-- a like stretch of two texts within a window -/
noncomputable def TMatch (a b : List Nat) (alo ahi blo bhi i j k : Nat) : Prop := alo ≤ i ∧ i + k ≤ ahi ∧ blo ≤ j ∧ j + k ≤ bhi ∧ ∀ t, t < k → a[i + t]? = b[j + t]?
noncomputable def TBest (a b : List Nat) (alo ahi blo bhi : Nat) (f : Int × Int × Int) : Prop :=
  (f = (0, (alo : Int), (blo : Int)) ∨ ∃ i j k : Nat, 1 ≤ k ∧ TMatch a b alo ahi blo bhi i j k ∧ f = (-(k : Int), (i : Int), (j : Int))) ∧
    ∀ i j k : Nat, 1 ≤ k → TMatch a b alo ahi blo bhi i j k → ¬ lexLt (-(k : Int), (i : Int), (j : Int)) f
theorem neg_lt {k : Nat} (h : 1 ≤ k) : -(k : Int) < 0 := Int.neg_neg_of_pos (Int.natCast_pos.mpr h)
theorem tbest_unique {a b : List Nat} {alo ahi blo bhi : Nat} {f g : Int × Int × Int} (h : TBest a b alo ahi blo bhi f) (h' : TBest a b alo ahi blo bhi g) : f = g := by
  obtain ⟨h1, h2⟩ := h
  obtain ⟨g1, g2⟩ := h'
  rcases h1 with rfl | ⟨i, j, k, hk, hm, rfl⟩
  · rcases g1 with rfl | ⟨i', j', k', hk', hm', rfl⟩
    · rfl
    · exact absurd (.inl (neg_lt hk')) (h2 _ _ _ hk' hm')
  · rcases g1 with rfl | ⟨i', j', k', hk', hm', rfl⟩
    · exact absurd (.inl (neg_lt hk)) (g2 _ _ _ hk hm)
    · exact lex_tot _ _ (g2 _ _ _ hk hm) (h2 _ _ _ hk' hm')

/-- a figure of base 16 -/
noncomputable def IsH (c : Nat) : Prop := (48 ≤ c ∧ c ≤ 57) ∨ (65 ≤ c ∧ c ≤ 70)
theorem hexd_h {n : Nat} (h : n < 16) : IsH (pieceL.hexd n) := by
  unfold IsH pieceL.hexd; split <;> (first | lia | omega)
theorem hexd_inj {n m : Nat} (h : n < 16) (h' : m < 16) (e : pieceL.hexd n = pieceL.hexd m) : n = m := by
  unfold pieceL.hexd at e; split at e <;> split at e <;> (first | lia | omega)
/-- one sign, no figure and no '=', or '=' and two figures -/
theorem piece_cases (x : Int) (h0 : 0 ≤ x) (h1 : x < 256) :
    (∃ c, pieceL x = [c] ∧ ¬ IsH c ∧ c ≠ 61 ∧ longB x = false) ∨ (pieceL x = [61, pieceL.hexd (x / 16).toNat, pieceL.hexd (x % 16).toNat] ∧ longB x = true) := by
  unfold longB pieceL
  by_cases e : x = 32
  · left; refine ⟨95, ?_, ?_, by (first | lia | omega), ?_⟩
    · rw [if_pos e]
    · unfold IsH; (first | lia | omega)
    · rw [if_pos e]; rfl
  · rw [if_neg e]
    by_cases e2 : (71 ≤ x ∧ x ≤ 90) ∨ (97 ≤ x ∧ x ≤ 122) ∨ x = 33 ∨ x = 42 ∨ x = 43 ∨ x = 45 ∨ x = 47
    · left; refine ⟨x.toNat, ?_, ?_, by (first | lia | omega), ?_⟩
      · rw [if_pos e2]
      · unfold IsH; (first | lia | omega)
      · rw [if_pos e2]; rfl
    · right
      rw [if_neg e2]
      exact ⟨rfl, rfl⟩
theorem piece_one {x y : Int} {c : Nat} (h0 : 0 ≤ x) (h0' : 0 ≤ y) (h : pieceL x = [c]) (h' : pieceL y = [c]) : x = y := by
  unfold pieceL at h h'
  by_cases e : x = 32
  · rw [if_pos e] at h
    by_cases e' : y = 32
    · (first | lia | omega)
    · rw [if_neg e'] at h'
      split at h'
      · injection h with h; injection h' with h'; (first | lia | omega)
      · injection h' with _ h'; cases h'
  · rw [if_neg e] at h
    split at h
    · by_cases e' : y = 32
      · rw [if_pos e'] at h'
        injection h with h; injection h' with h'; (first | lia | omega)
      · rw [if_neg e'] at h'
        split at h'
        · injection h with h; injection h' with h'; (first | lia | omega)
        · injection h' with _ h'; cases h'
    · injection h with _ h; cases h
theorem long_len {x : Int} : longB x = true ↔ (pieceL x).length = 3 := by unfold longB; exact decide_eq_true_iff

noncomputable def plc (ns : List Int) (p : Nat) : Nat := (flatL (ns.take p)).length
theorem placeN_plc (ns : List Int) (p : Nat) : placeN ns p = (plc ns p : Int) := rfl
theorem plc_succ {ns : List Int} {p : Nat} (h : p < ns.length) : plc ns (p + 1) = plc ns p + (pieceL (ns.getD p 0)).length := by
  unfold plc
  rw [List.take_succ_eq_append_getElem h, flatL_append, List.length_append]
  congr 1
  rw [List.getD_eq_getElem?_getD, List.getElem?_eq_getElem h]
  simp [flatL]
theorem flat_get {ns : List Int} {p o : Nat} (h : p < ns.length) (ho : o < (pieceL (ns.getD p 0)).length) : (flatL ns)[plc ns p + o]? = (pieceL (ns.getD p 0))[o]? := by
  have e : flatL ns = flatL (ns.take p) ++ (pieceL (ns.getD p 0) ++ flatL (ns.drop (p + 1))) := by
    conv => lhs; rw [← List.take_append_drop p ns, flatL_append]
    congr 1
    rw [List.drop_eq_getElem_cons h, List.getD_eq_getElem?_getD, List.getElem?_eq_getElem h]
    unfold flatL
    rw [List.flatMap_cons]
    rfl
  rw [e]
  unfold plc
  rw [List.getElem?_append_right (Nat.le_add_right _ _), Nat.add_sub_cancel_left, List.getElem?_append_left ho]
theorem plc_all (ns : List Int) : plc ns ns.length = (flatL ns).length := by unfold plc; rw [List.take_length]
theorem flat_at {ns : List Int} : ∀ (n t : Nat), n ≤ ns.length → t < plc ns n → ∃ p o, p < n ∧ o < (pieceL (ns.getD p 0)).length ∧ t = plc ns p + o := by
  intro n
  induction n with
  | zero => intro t _ h; exact absurd h (by unfold plc; simp [flatL])
  | succ n ih =>
    intro t hn h
    by_cases e : t < plc ns n
    · obtain ⟨p, o, h1, h2, h3⟩ := ih t (by first | lia | omega) e
      exact ⟨p, o, by (first | lia | omega), h2, h3⟩
    · rw [plc_succ (by first | lia | omega)] at h
      exact ⟨n, t - plc ns n, by (first | lia | omega), by (first | lia | omega), by (first | lia | omega)⟩
theorem plc_mono {ns : List Int} {p p' : Nat} (h : p ≤ p') (h' : p' ≤ ns.length) : plc ns p ≤ plc ns p' := by
  induction p' with
  | zero => rw [show p = 0 by (first | lia | omega)]; exact Nat.le_refl _
  | succ n ih =>
    by_cases e : p = n + 1
    · rw [e]; exact Nat.le_refl _
    · have := ih (by first | lia | omega) (by first | lia | omega)
      rw [plc_succ (by first | lia | omega)]
      (first | lia | omega)
noncomputable abbrev InOct (ns : List Int) : Prop := ∀ n ∈ ns, 0 ≤ n ∧ n < 256
theorem oct_at {ns : List Int} (h : InOct ns) (p : Nat) : 0 ≤ ns.getD p 0 ∧ ns.getD p 0 < 256 := by
  rw [List.getD_eq_getElem?_getD]
  cases e : ns[p]? with
  | none => exact ⟨Int.le_refl _, by decide⟩
  | some x => exact h x (List.mem_of_getElem? e)
theorem piece_pos {ns : List Int} (h : InOct ns) (p : Nat) : 1 ≤ (pieceL (ns.getD p 0)).length ∧ (pieceL (ns.getD p 0)).length ≤ 3 := by
  rcases piece_cases _ (oct_at h p).1 (oct_at h p).2 with ⟨c, e, _⟩ | ⟨e, _⟩ <;> rw [e] <;> simp
/-- a sign of the text is a figure just where it does not begin an octet's writing -/
theorem flat_h {ns : List Int} (h : InOct ns) {p o c : Nat} (hp : p < ns.length) (ho : o < (pieceL (ns.getD p 0)).length) (hc : (flatL ns)[plc ns p + o]? = some c) : IsH c ↔ o ≠ 0 := by
  rw [flat_get hp ho] at hc
  have hb := oct_at h p
  generalize ns.getD p 0 = x at hc hb ho
  rcases piece_cases _ hb.1 hb.2 with ⟨d, e, h1, _⟩ | ⟨e, _⟩
  · rw [e] at hc ho
    have : o = 0 := by simpa using ho
    subst this
    simp at hc
    subst hc
    exact ⟨fun x => absurd x h1, fun x => absurd rfl x⟩
  · rw [e] at hc ho
    have : o = 0 ∨ o = 1 ∨ o = 2 := by simp at ho; (first | lia | omega)
    rcases this with rfl | rfl | rfl
    · simp at hc
      subst hc
      exact ⟨fun x => by unfold IsH at x; (first | lia | omega), fun x => absurd rfl x⟩
    · simp at hc
      subst hc
      exact ⟨fun _ => by decide, fun _ => hexd_h (by first | lia | omega)⟩
    · simp at hc
      subst hc
      exact ⟨fun _ => by decide, fun _ => hexd_h (by first | lia | omega)⟩
section
variable {ns ns' : List Int} {p1 p2 q1 q2 : Nat}
theorem run_like {p q : Nat} : ∀ r, p + r ≤ ns.length → q + r ≤ ns'.length → (∀ t, t < r → ns.getD (p + t) 0 = ns'.getD (q + t) 0) →
    ∃ S, plc ns (p + r) = plc ns p + S ∧ plc ns' (q + r) = plc ns' q + S ∧ ∀ t, t < S → (flatL ns)[plc ns p + t]? = (flatL ns')[plc ns' q + t]? := by
  intro r
  induction r with
  | zero => intro _ _ _; exact ⟨0, rfl, rfl, fun t h => absurd h (Nat.not_lt_zero _)⟩
  | succ r ih =>
    intro h1 h2 h3
    obtain ⟨S, e1, e2, e3⟩ := ih (by first | lia | omega) (by first | lia | omega) (fun t ht => h3 t (by first | lia | omega))
    have e := h3 r (Nat.lt_succ_self _)
    refine ⟨S + (pieceL (ns.getD (p + r) 0)).length, ?_, ?_, fun t ht => ?_⟩
    · rw [← Nat.add_assoc, plc_succ (by first | lia | omega), e1]; (first | lia | omega)
    · rw [← Nat.add_assoc, plc_succ (by first | lia | omega), e2, e]; (first | lia | omega)
    · by_cases ht' : t < S
      · exact e3 t ht'
      · have h4 := flat_get (ns := ns) (p := p + r) (o := t - S) (by first | lia | omega) (by first | lia | omega)
        have h5 := flat_get (ns := ns') (p := q + r) (o := t - S) (by first | lia | omega) (by rw [← e]; omega)
        rw [e1, show plc ns p + S + (t - S) = plc ns p + t by (first | lia | omega)] at h4
        rw [e2, show plc ns' q + S + (t - S) = plc ns' q + t by (first | lia | omega)] at h5
        rw [h4, h5, e]
theorem fdm {x : Int} (h0 : 0 ≤ x) : x.fdiv 16 = x / 16 ∧ x.fmod 16 = x % 16 :=
  ⟨Int.fdiv_eq_ediv_of_nonneg _ (by decide), Int.fmod_eq_emod_of_nonneg _ (by decide)⟩
/-- the like signs of two unlike octets' writings, from the front -/
theorem far_pair {x y : Int} (hx : 0 ≤ x ∧ x < 256) (hy : 0 ≤ y ∧ y < 256) (hne : x ≠ y) :
    ∃ e : Nat, (if longB x = true ∧ longB y = true then (if x.fdiv 16 = y.fdiv 16 then 2 else 1) else (0 : Int)) = (e : Int) ∧ e < (pieceL x).length ∧ e < (pieceL y).length ∧ (∀ t, t < e → (pieceL x)[t]? = (pieceL y)[t]?) ∧ (pieceL x)[e]? ≠ (pieceL y)[e]? := by
  obtain ⟨d1, m1⟩ := fdm hx.1
  obtain ⟨d2, m2⟩ := fdm hy.1
  rw [d1, d2]
  rcases piece_cases x hx.1 hx.2 with ⟨c, e, h1, h2, h3⟩ | ⟨e, h3⟩ <;> rcases piece_cases y hy.1 hy.2 with ⟨c', e', h1', h2', h3'⟩ | ⟨e', h3'⟩
  · refine ⟨0, by simp [h3], by simp [e], by simp [e'], fun t h => absurd h (Nat.not_lt_zero _), ?_⟩
    rw [e, e']
    intro q
    simp at q
    subst q
    exact hne (piece_one hx.1 hy.1 e e')
  · refine ⟨0, by simp [h3], by simp [e], by simp [e'], fun t h => absurd h (Nat.not_lt_zero _), ?_⟩
    rw [e, e']
    intro q
    simp at q
    exact h2 q
  · refine ⟨0, by simp [h3'], by simp [e], by simp [e'], fun t h => absurd h (Nat.not_lt_zero _), ?_⟩
    rw [e, e']
    intro q
    simp at q
    exact h2' q.symm
  · rw [if_pos ⟨h3, h3'⟩]
    by_cases hq : x / 16 = y / 16
    · rw [if_pos hq]
      refine ⟨2, rfl, by simp [e], by simp [e'], fun t h => ?_, ?_⟩
      · rw [e, e', hq]
        have : t = 0 ∨ t = 1 := by (first | lia | omega)
        rcases this with rfl | rfl <;> rfl
      · rw [e, e']
        intro q
        simp at q
        have := hexd_inj (by first | lia | omega) (by first | lia | omega) q
        (first | lia | omega)
    · rw [if_neg hq]
      refine ⟨1, rfl, by simp [e], by simp [e'], fun t h => ?_, ?_⟩
      · rw [e, e', show t = 0 by (first | lia | omega)]; rfl
      · rw [e, e']
        intro q
        simp at q
        have := hexd_inj (by first | lia | omega) (by first | lia | omega) q
        (first | lia | omega)
/-- from the back -/
theorem near_pair {x y : Int} (hx : 0 ≤ x ∧ x < 256) (hy : 0 ≤ y ∧ y < 256) (hne : x ≠ y) :
    ∃ e : Nat, (if longB x = true ∧ longB y = true ∧ x.fmod 16 = y.fmod 16 then (1 : Int) else 0) = (e : Int) ∧ e < (pieceL x).length ∧ e < (pieceL y).length ∧
      (∀ t, t < e → (pieceL x)[(pieceL x).length - 1 - t]? = (pieceL y)[(pieceL y).length - 1 - t]?) ∧ (pieceL x)[(pieceL x).length - 1 - e]? ≠ (pieceL y)[(pieceL y).length - 1 - e]? := by
  obtain ⟨d1, m1⟩ := fdm hx.1
  obtain ⟨d2, m2⟩ := fdm hy.1
  rw [m1, m2]
  rcases piece_cases x hx.1 hx.2 with ⟨c, e, h1, h2, h3⟩ | ⟨e, h3⟩ <;> rcases piece_cases y hy.1 hy.2 with ⟨c', e', h1', h2', h3'⟩ | ⟨e', h3'⟩
  · refine ⟨0, by simp [h3], by simp [e], by simp [e'], fun t h => absurd h (Nat.not_lt_zero _), ?_⟩
    rw [e, e']
    intro q
    simp at q
    subst q
    exact hne (piece_one hx.1 hy.1 e e')
  · refine ⟨0, by simp [h3], by simp [e], by simp [e'], fun t h => absurd h (Nat.not_lt_zero _), ?_⟩
    rw [e, e']
    intro q
    simp at q
    exact h1 (q ▸ hexd_h (by first | lia | omega))
  · refine ⟨0, by simp [h3'], by simp [e], by simp [e'], fun t h => absurd h (Nat.not_lt_zero _), ?_⟩
    rw [e, e']
    intro q
    simp at q
    exact h1' (q ▸ hexd_h (by first | lia | omega))
  · by_cases hq : x % 16 = y % 16
    · rw [if_pos ⟨h3, h3', hq⟩]
      refine ⟨1, rfl, by simp [e], by simp [e'], fun t h => ?_, ?_⟩
      · rw [e, e', hq, show t = 0 by (first | lia | omega)]; rfl
      · rw [e, e']
        intro q
        simp at q
        have := hexd_inj (by first | lia | omega) (by first | lia | omega) q
        (first | lia | omega)
    · rw [if_neg (fun h => hq h.2.2)]
      refine ⟨0, rfl, by simp [e], by simp [e'], fun t h => absurd h (Nat.not_lt_zero _), ?_⟩
      rw [e, e']
      intro q
      simp at q
      have := hexd_inj (by first | lia | omega) (by first | lia | omega) q
      (first | lia | omega)
theorem far_spec (H : InOct ns) (H' : InOct ns') {p q : Nat} (hp : p ≤ p2) (hp2 : p2 ≤ ns.length) (hq : q ≤ q2) (hq2 : q2 ≤ ns'.length) (hne : ¬ (p < p2 ∧ q < q2 ∧ ns.getD p 0 = ns'.getD q 0)) :
    ∃ e : Nat, farOf ns ns' p2 q2 p q = (e : Int) ∧ (∀ t, t < e → (flatL ns)[plc ns p + t]? = (flatL ns')[plc ns' q + t]?) ∧ plc ns p + e ≤ plc ns p2 ∧ plc ns' q + e ≤ plc ns' q2 ∧
      (plc ns p + e = plc ns p2 ∨ plc ns' q + e = plc ns' q2 ∨ (flatL ns)[plc ns p + e]? ≠ (flatL ns')[plc ns' q + e]?) := by
  have hm := plc_mono (ns := ns) hp hp2
  have hm' := plc_mono (ns := ns') hq hq2
  by_cases hw : p < p2 ∧ q < q2
  · obtain ⟨e, he, l1, l2, h1, h2⟩ := far_pair (oct_at H p) (oct_at H' q) (fun x => hne ⟨hw.1, hw.2, x⟩)
    have a1 := plc_mono (ns := ns) (p := p + 1) (p' := p2) (by first | lia | omega) hp2
    have a2 := plc_mono (ns := ns') (p := q + 1) (p' := q2) (by first | lia | omega) hq2
    rw [plc_succ (by first | lia | omega)] at a1 a2
    refine ⟨e, ?_, fun t ht => ?_, by (first | lia | omega), by (first | lia | omega), .inr (.inr ?_)⟩
    · rw [← he]
      unfold farOf FarAt
      by_cases c : longB (ns.getD p 0) = true ∧ longB (ns'.getD q 0) = true
      · rw [if_pos ⟨hw.1, hw.2, c⟩, if_pos c]
      · rw [if_neg (fun x => c x.2.2), if_neg c]
    · rw [flat_get (by first | lia | omega) (by first | lia | omega), flat_get (by first | lia | omega) (by first | lia | omega)]; exact h1 t ht
    · rw [flat_get (by first | lia | omega) (by first | lia | omega), flat_get (by first | lia | omega) (by first | lia | omega)]; exact h2
  · refine ⟨0, ?_, fun t h => absurd h (Nat.not_lt_zero _), by (first | lia | omega), by (first | lia | omega), ?_⟩
    · unfold farOf FarAt
      rw [if_neg (fun x => hw ⟨x.1, x.2.1⟩)]; rfl
    · by_cases h : p < p2
      · right; left; rw [show q = q2 by (first | lia | omega)]; rfl
      · left; rw [show p = p2 by (first | lia | omega)]; rfl
theorem near_spec (H : InOct ns) (H' : InOct ns') {p q : Nat} (hp1 : p1 ≤ p) (hp : p ≤ ns.length) (hq1 : q1 ≤ q) (hq : q ≤ ns'.length) (hne : ¬ SkipAt ns ns' p1 q1 p q) :
    ∃ e : Nat, nearOf ns ns' p1 q1 p q = (e : Int) ∧ plc ns p1 + e ≤ plc ns p ∧ plc ns' q1 + e ≤ plc ns' q ∧ (∀ t, t < e → (flatL ns)[plc ns p - 1 - t]? = (flatL ns')[plc ns' q - 1 - t]?) ∧
      (plc ns p1 + e = plc ns p ∨ plc ns' q1 + e = plc ns' q ∨ (flatL ns)[plc ns p - 1 - e]? ≠ (flatL ns')[plc ns' q - 1 - e]?) := by
  have hm := plc_mono (ns := ns) hp1 hp
  have hm' := plc_mono (ns := ns') hq1 hq
  by_cases hw : p1 < p ∧ q1 < q
  · obtain ⟨e, he, l1, l2, h1, h2⟩ := near_pair (oct_at H (p - 1)) (oct_at H' (q - 1)) (fun x => hne ⟨hw.1, hw.2, x⟩)
    have a1 := plc_mono (ns := ns) (p := p1) (p' := p - 1) (by first | lia | omega) (by first | lia | omega)
    have a2 := plc_mono (ns := ns') (p := q1) (p' := q - 1) (by first | lia | omega) (by first | lia | omega)
    have b1 := plc_succ (ns := ns) (p := p - 1) (by first | lia | omega)
    have b2 := plc_succ (ns := ns') (p := q - 1) (by first | lia | omega)
    rw [show p - 1 + 1 = p by (first | lia | omega)] at b1
    rw [show q - 1 + 1 = q by (first | lia | omega)] at b2
    have g1 : ∀ t, t ≤ e → (flatL ns)[plc ns p - 1 - t]? = (pieceL (ns.getD (p - 1) 0))[(pieceL (ns.getD (p - 1) 0)).length - 1 - t]? := fun t ht => by
      rw [← flat_get (ns := ns) (p := p - 1) (by first | lia | omega) (by first | lia | omega)]
      congr 1; (first | lia | omega)
    have g2 : ∀ t, t ≤ e → (flatL ns')[plc ns' q - 1 - t]? = (pieceL (ns'.getD (q - 1) 0))[(pieceL (ns'.getD (q - 1) 0)).length - 1 - t]? := fun t ht => by
      rw [← flat_get (ns := ns') (p := q - 1) (by first | lia | omega) (by first | lia | omega)]
      congr 1; (first | lia | omega)
    refine ⟨e, ?_, by (first | lia | omega), by (first | lia | omega), fun t ht => ?_, .inr (.inr ?_)⟩
    · rw [← he]
      unfold nearOf NearAt
      by_cases c : longB (ns.getD (p - 1) 0) = true ∧ longB (ns'.getD (q - 1) 0) = true ∧ (ns.getD (p - 1) 0).fmod 16 = (ns'.getD (q - 1) 0).fmod 16
      · rw [if_pos ⟨hw.1, hw.2, c⟩, if_pos c]
      · rw [if_neg (fun x => c x.2.2), if_neg c]
    · rw [g1 t (by first | lia | omega), g2 t (by first | lia | omega)]; exact h1 t ht
    · rw [g1 e (Nat.le_refl _), g2 e (Nat.le_refl _)]; exact h2
  · refine ⟨0, ?_, by (first | lia | omega), by (first | lia | omega), fun t h => absurd h (Nat.not_lt_zero _), ?_⟩
    · unfold nearOf NearAt
      rw [if_neg (fun x => hw ⟨x.1, x.2.1⟩)]; rfl
    · by_cases h : p1 < p
      · right; left; rw [show q = q1 by (first | lia | omega)]; rfl
      · left; rw [show p = p1 by (first | lia | omega)]; rfl
end
end Mine
end

-- PL2
section
set_option maxRecDepth 100000
set_option maxHeartbeats 400000
namespace Mine
section
variable {ns ns' : List Int} {p1 p2 q1 q2 : Nat}
/-- what is found at (p, q) is a like stretch that cannot be made longer; the places of its run lie in it -/
theorem found_spec (H : InOct ns) (H' : InOct ns') {p q r : Nat} (hp1 : p1 ≤ p) (hp : p ≤ p2) (hp2 : p2 ≤ ns.length) (hq1 : q1 ≤ q) (hq : q ≤ q2) (hq2 : q2 ≤ ns'.length) (hs : ¬ SkipAt ns ns' p1 q1 p q) (hr : IsRun ns ns' p2 q2 p q r) :
    ∃ I J K : Nat, foundOf ns ns' p1 p2 q1 q2 p q r = (-(K : Int), (I : Int), (J : Int)) ∧ TMatch (flatL ns) (flatL ns') (plc ns p1) (plc ns p2) (plc ns' q1) (plc ns' q2) I J K ∧
      (∀ u, u ≤ r → I ≤ plc ns (p + u) ∧ plc ns (p + u) ≤ I + K ∧ plc ns' (q + u) + I = plc ns (p + u) + J) ∧
      (I = plc ns p1 ∨ J = plc ns' q1 ∨ (flatL ns)[I - 1]? ≠ (flatL ns')[J - 1]?) ∧
      (I + K = plc ns p2 ∨ J + K = plc ns' q2 ∨ (flatL ns)[I + K]? ≠ (flatL ns')[J + K]?) := by
  have hlen : p + r ≤ p2 ∧ q + r ≤ q2 := by
    by_cases e : r = 0
    · (first | lia | omega)
    · have := hr.1 (r - 1) (by first | lia | omega)
      (first | lia | omega)
  obtain ⟨S, e1, e2, e3⟩ := run_like (ns := ns) (ns' := ns') (p := p) (q := q) r (by first | lia | omega) (by first | lia | omega) (fun t ht => (hr.1 t ht).2.2)
  obtain ⟨f, hf, f1, f2, f3, f4⟩ := far_spec H H' (p := p + r) (q := q + r) hlen.1 hp2 hlen.2 hq2 hr.2
  obtain ⟨n, hn, n1, n2, n3, n4⟩ := near_spec H H' (p := p) (q := q) hp1 (by first | lia | omega) hq1 (by first | lia | omega) hs
  refine ⟨plc ns p - n, plc ns' q - n, n + S + f, ?_, ⟨by (first | lia | omega), by (first | lia | omega), by (first | lia | omega), by (first | lia | omega), fun t ht => ?_⟩, fun u hu => ?_, ?_, ?_⟩
  · unfold foundOf
    rw [hf, hn, placeN_plc, placeN_plc, placeN_plc, e1, Prod.mk.injEq, Prod.mk.injEq]
    (first | lia | omega)
  · by_cases h1 : t < n
    · have := n3 (n - 1 - t) (by first | lia | omega)
      rw [show plc ns p - 1 - (n - 1 - t) = plc ns p - n + t by (first | lia | omega), show plc ns' q - 1 - (n - 1 - t) = plc ns' q - n + t by (first | lia | omega)] at this
      exact this
    · by_cases h2 : t < n + S
      · have := e3 (t - n) (by first | lia | omega)
        rw [show plc ns p + (t - n) = plc ns p - n + t by (first | lia | omega), show plc ns' q + (t - n) = plc ns' q - n + t by (first | lia | omega)] at this
        exact this
      · have := f1 (t - n - S) (by first | lia | omega)
        rw [e1, e2, show plc ns p + S + (t - n - S) = plc ns p - n + t by (first | lia | omega), show plc ns' q + S + (t - n - S) = plc ns' q - n + t by (first | lia | omega)] at this
        exact this
  · obtain ⟨S', d1, d2, _⟩ := run_like (ns := ns) (ns' := ns') (p := p) (q := q) u (by first | lia | omega) (by first | lia | omega) (fun t ht => (hr.1 t (by first | lia | omega)).2.2)
    have := plc_mono (ns := ns) (p := p + u) (p' := p + r) (by first | lia | omega) (by first | lia | omega)
    (first | lia | omega)
  · rcases n4 with h | h | h
    · left; (first | lia | omega)
    · right; left; (first | lia | omega)
    · right; right
      rw [show plc ns p - n - 1 = plc ns p - 1 - n by (first | lia | omega), show plc ns' q - n - 1 = plc ns' q - 1 - n by (first | lia | omega)]
      exact h
  · rcases f4 with h | h | h
    · left; (first | lia | omega)
    · right; left; (first | lia | omega)
    · right; right
      rw [e1, e2] at h
      rw [show plc ns p - n + (n + S + f) = plc ns p + S + f by (first | lia | omega), show plc ns' q - n + (n + S + f) = plc ns' q + S + f by (first | lia | omega)]
      exact h
theorem cover {a b : List Nat} {alo ahi blo bhi I J K i j k P Q : Nat} (hm : TMatch a b alo ahi blo bhi I J K) (h : TMatch a b alo ahi blo bhi i j k) (h1 : I ≤ P ∧ P ≤ I + K ∧ Q + I = P + J) (h2 : i ≤ P ∧ P ≤ i + k ∧ Q + i = P + j)
    (hl : I = alo ∨ J = blo ∨ a[I - 1]? ≠ b[J - 1]?) (hr : I + K = ahi ∨ J + K = bhi ∨ a[I + K]? ≠ b[J + K]?) : ¬ lexLt (-(k : Int), (i : Int), (j : Int)) (-(K : Int), (I : Int), (J : Int)) := by
  obtain ⟨a1, a2, a3, a4, a5⟩ := hm
  obtain ⟨b1, b2, b3, b4, b5⟩ := h
  have l1 : I ≤ i := by
    by_cases e : I ≤ i
    · exact e
    · have := b5 (I - 1 - i) (by first | lia | omega)
      rw [show i + (I - 1 - i) = I - 1 by (first | lia | omega), show j + (I - 1 - i) = J - 1 by (first | lia | omega)] at this
      rcases hl with h | h | h
      · (first | lia | omega)
      · (first | lia | omega)
      · exact absurd this h
  have l2 : i + k ≤ I + K := by
    by_cases e : i + k ≤ I + K
    · exact e
    · have := b5 (I + K - i) (by first | lia | omega)
      rw [show i + (I + K - i) = I + K by (first | lia | omega), show j + (I + K - i) = J + K by (first | lia | omega)] at this
      rcases hr with h | h | h
      · (first | lia | omega)
      · (first | lia | omega)
      · exact absurd this h
  unfold lexLt
  dsimp only
  (first | lia | omega)
theorem run_exists : ∀ (n p q : Nat), p2 - p = n → ∃ r, IsRun ns ns' p2 q2 p q r := by
  intro n
  induction n with
  | zero => intro p q h; exact ⟨0, fun t ht => absurd ht (Nat.not_lt_zero _), fun x => by (first | lia | omega)⟩
  | succ n ih =>
    intro p q h
    by_cases c : p < p2 ∧ q < q2 ∧ ns.getD p 0 = ns'.getD q 0
    · obtain ⟨r, h1, h2⟩ := ih (p + 1) (q + 1) (by first | lia | omega)
      refine ⟨r + 1, fun t ht => ?_, ?_⟩
      · by_cases e : t = 0
        · subst e; exact c
        · have := h1 (t - 1) (by first | lia | omega)
          rwa [show p + 1 + (t - 1) = p + t by (first | lia | omega), show q + 1 + (t - 1) = q + t by (first | lia | omega)] at this
      · rwa [show p + 1 + r = p + (r + 1) by (first | lia | omega), show q + 1 + r = q + (r + 1) by (first | lia | omega)] at h2
    · exact ⟨0, fun t ht => absurd ht (Nat.not_lt_zero _), c⟩
theorem start_exists : ∀ (n p q : Nat), p = n → p1 ≤ p → q1 ≤ q → p ≤ p2 → q ≤ q2 → ∃ P Q u, p = P + u ∧ q = Q + u ∧ p1 ≤ P ∧ q1 ≤ Q ∧ ¬ SkipAt ns ns' p1 q1 P Q ∧ ∀ t, t < u → P + t < p2 ∧ Q + t < q2 ∧ ns.getD (P + t) 0 = ns'.getD (Q + t) 0 := by
  intro n
  induction n with
  | zero => intro p q h h1 h2 _ _; exact ⟨p, q, 0, rfl, rfl, h1, h2, fun x => by unfold SkipAt at x; (first | lia | omega), fun t ht => absurd ht (Nat.not_lt_zero _)⟩
  | succ n ih =>
    intro p q h h1 h2 h3 h4
    by_cases c : SkipAt ns ns' p1 q1 p q
    · obtain ⟨c1, c2, c3⟩ := c
      obtain ⟨P, Q, u, e1, e2, e3, e4, e5, e6⟩ := ih (p - 1) (q - 1) (by first | lia | omega) (by first | lia | omega) (by first | lia | omega) (by first | lia | omega) (by first | lia | omega)
      refine ⟨P, Q, u + 1, by (first | lia | omega), by (first | lia | omega), e3, e4, e5, fun t ht => ?_⟩
      by_cases e : t < u
      · exact e6 t e
      · rw [show P + t = p - 1 by (first | lia | omega), show Q + t = q - 1 by (first | lia | omega)]
        exact ⟨by (first | lia | omega), by (first | lia | omega), c3⟩
    · exact ⟨p, q, 0, rfl, rfl, h1, h2, c, fun t ht => absurd ht (Nat.not_lt_zero _)⟩
/-- a like stretch that holds a pair of octets' beginnings, or ends at one, is beaten by what is found on its slant -/
theorem beaten (H : InOct ns) (H' : InOct ns') (hp2 : p2 ≤ ns.length) (hq2 : q2 ≤ ns'.length) {i j k p q : Nat} (hm : TMatch (flatL ns) (flatL ns') (plc ns p1) (plc ns p2) (plc ns' q1) (plc ns' q2) i j k)
    (hp : p1 ≤ p ∧ p ≤ p2) (hq : q1 ≤ q ∧ q ≤ q2) (h : i ≤ plc ns p ∧ plc ns p ≤ i + k ∧ plc ns' q + i = plc ns p + j) :
    ∃ p q f, DoneO p1 q1 q2 (p2 + 1 - p1) p q ∧ Found ns ns' p1 p2 q1 q2 p q f ∧ ¬ lexLt (-(k : Int), (i : Int), (j : Int)) f := by
  obtain ⟨P, Q, u, rfl, rfl, e3, e4, e5, e6⟩ := start_exists (ns := ns) (ns' := ns') (p1 := p1) (p2 := p2) (q1 := q1) (q2 := q2) p p q rfl hp.1 hq.1 hp.2 hq.2
  obtain ⟨r, hr⟩ := run_exists (ns := ns) (ns' := ns') (p2 := p2) (q2 := q2) (p2 - P) P Q rfl
  have hur : u ≤ r := by
    by_cases c : u ≤ r
    · exact c
    · exact absurd (e6 r (by first | lia | omega)) hr.2
  obtain ⟨I, J, K, g1, g2, g3, g4, g5⟩ := found_spec H H' e3 (by first | lia | omega) hp2 e4 (by first | lia | omega) hq2 e5 hr
  refine ⟨P, Q, foundOf ns ns' p1 p2 q1 q2 P Q r, ⟨e3, by (first | lia | omega), e4, by (first | lia | omega)⟩, ⟨e5, r, hr, rfl⟩, ?_⟩
  rw [g1]
  exact cover g2 hm (g3 u hur) h g4 g5
/-- where a place of the text lies among the octets -/
theorem in_window (H : InOct ns) {t : Nat} (hp1 : p1 ≤ p2) (hp2 : p2 ≤ ns.length) (h1 : plc ns p1 ≤ t) (h2 : t < plc ns p2) : ∃ p o, p1 ≤ p ∧ p < p2 ∧ o < (pieceL (ns.getD p 0)).length ∧ t = plc ns p + o := by
  obtain ⟨p, o, e1, e2, e3⟩ := flat_at p2 t hp2 h2
  refine ⟨p, o, ?_, e1, e2, e3⟩
  by_cases c : p1 ≤ p
  · exact c
  · have := plc_mono (ns := ns) (p := p + 1) (p' := p1) (by first | lia | omega) (by first | lia | omega)
    rw [plc_succ (by first | lia | omega)] at this
    (first | lia | omega)
theorem flat_some {ns : List Int} {t : Nat} {n : Nat} (hn : n ≤ ns.length) (h : t < plc ns n) : ∃ c, (flatL ns)[t]? = some c := by
  have := plc_mono (ns := ns) hn (Nat.le_refl _)
  rw [plc_all] at this
  exact ⟨_, List.getElem?_eq_getElem (by first | lia | omega)⟩
/-- each like stretch is beaten by one that is found -/
theorem each_beaten (H : InOct ns) (H' : InOct ns') (hp : p1 ≤ p2) (hp2 : p2 ≤ ns.length) (hq : q1 ≤ q2) (hq2 : q2 ≤ ns'.length) {i j k : Nat} (hk : 1 ≤ k) (hm : TMatch (flatL ns) (flatL ns') (plc ns p1) (plc ns p2) (plc ns' q1) (plc ns' q2) i j k) :
    ∃ p q f, DoneO p1 q1 q2 (p2 + 1 - p1) p q ∧ Found ns ns' p1 p2 q1 q2 p q f ∧ ¬ lexLt (-(k : Int), (i : Int), (j : Int)) f := by
  have hm0 := hm
  obtain ⟨m1, m2, m3, m4, m5⟩ := hm
  obtain ⟨p, o, a1, a2, a3, a4⟩ := in_window H (t := i) hp hp2 m1 (by first | lia | omega)
  obtain ⟨q, o', b1, b2, b3, b4⟩ := in_window H' (t := j) hq hq2 m3 (by first | lia | omega)
  have s1 := plc_succ (ns := ns) (p := p) (by first | lia | omega)
  have s2 := plc_succ (ns := ns') (p := q) (by first | lia | omega)
  have w1 := plc_mono (ns := ns) (p := p + 1) (p' := p2) (by first | lia | omega) (by first | lia | omega)
  have w2 := plc_mono (ns := ns') (p := q + 1) (p' := q2) (by first | lia | omega) (by first | lia | omega)
  have v1 := plc_mono (ns := ns) (p := p1) (p' := p) (by first | lia | omega) (by first | lia | omega)
  have v2 := plc_mono (ns := ns') (p := q1) (p' := q) (by first | lia | omega) (by first | lia | omega)
  have t1 := (piece_pos H p).2
  have t2 := (piece_pos H' q).2
  obtain ⟨c, hc⟩ := flat_some (ns := ns) (t := i) hp2 (by first | lia | omega)
  have h0 := m5 0 (by first | lia | omega)
  rw [Nat.add_zero, Nat.add_zero, hc] at h0
  have ho := flat_h H (p := p) (o := o) (c := c) (by first | lia | omega) a3 (by rw [← a4]; exact hc)
  have ho' := flat_h H' (p := q) (o := o') (c := c) (by first | lia | omega) b3 (by rw [← b4]; exact h0.symm)
  by_cases z : o = 0
  · have z' : o' = 0 := by
      by_cases e : o' = 0
      · exact e
      · exact absurd z (ho.mp (ho'.mpr e))
    exact beaten H H' hp2 hq2 hm0 (p := p) (q := q) ⟨a1, by (first | lia | omega)⟩ ⟨b1, by (first | lia | omega)⟩ (by first | lia | omega)
  · have z' : o' ≠ 0 := ho'.mp (ho.mpr z)
    -- both lie within an escape
    have long : ∀ {ms : List Int} (Hm : InOct ms) (x y : Nat), y < (pieceL (ms.getD x 0)).length → y ≠ 0 → pieceL (ms.getD x 0) = [61, pieceL.hexd (ms.getD x 0 / 16).toNat, pieceL.hexd (ms.getD x 0 % 16).toNat] := by
      intro ms Hm x y h1 h2
      have hb := oct_at Hm x
      rcases piece_cases _ hb.1 hb.2 with ⟨d, e, _⟩ | ⟨e, _⟩
      · rw [e] at h1; simp at h1; exact absurd h1 h2
      · exact e
    have l1 := long H p o a3 z
    have l2 := long H' q o' b3 z'
    have k1 : (pieceL (ns.getD p 0)).length = 3 := by rw [l1]; rfl
    have k2 : (pieceL (ns'.getD q 0)).length = 3 := by rw [l2]; rfl
    have eq0 : (flatL ns)[plc ns p]? = (flatL ns')[plc ns' q]? := by
      have x1 := flat_get (ns := ns) (p := p) (o := 0) (by first | lia | omega) (by first | lia | omega)
      have x2 := flat_get (ns := ns') (p := q) (o := 0) (by first | lia | omega) (by first | lia | omega)
      rw [Nat.add_zero, l1] at x1
      rw [Nat.add_zero, l2] at x2
      rw [x1, x2]; rfl
    by_cases same : o = o'
    · by_cases o2 : o = 2
      · exact beaten H H' hp2 hq2 hm0 (p := p + 1) (q := q + 1) ⟨by (first | lia | omega), by (first | lia | omega)⟩ ⟨by (first | lia | omega), by (first | lia | omega)⟩ (by first | lia | omega)
      · have o1 : o = 1 := by (first | lia | omega)
        obtain ⟨p', q', f, d1, d2, d3⟩ := beaten H H' (k := k + 1) (i := plc ns p) (j := plc ns' q) hp2 hq2 ⟨v1, by (first | lia | omega), v2, by (first | lia | omega), fun t ht => by
          by_cases e : t = 0
          · rw [e]; exact eq0
          · have := m5 (t - 1) (by first | lia | omega)
            rw [show i + (t - 1) = plc ns p + t by (first | lia | omega), show j + (t - 1) = plc ns' q + t by (first | lia | omega)] at this
            exact this⟩ (p := p) (q := q) ⟨a1, by (first | lia | omega)⟩ ⟨b1, by (first | lia | omega)⟩ (by first | lia | omega)
        refine ⟨p', q', f, d1, d2, lex_le_trans ?_ d3⟩
        unfold lexLt
        dsimp only
        (first | lia | omega)
    · have kk : k = 1 := by
        by_cases e : k = 1
        · exact e
        · exfalso
          have hn := m5 1 (by first | lia | omega)
          obtain ⟨c1, hc1⟩ := flat_some (ns := ns) (t := i + 1) hp2 (by first | lia | omega)
          rw [hc1] at hn
          by_cases o1 : o = 1
          · have o2 : o' = 2 := by (first | lia | omega)
            have y1 := flat_h H (p := p) (o := 2) (c := c1) (by first | lia | omega) (by first | lia | omega) (by rw [show plc ns p + 2 = i + 1 by (first | lia | omega)]; exact hc1)
            have pq := (piece_pos H' (q + 1)).1
            have w3 : q + 1 < q2 := by
              by_cases e3 : q + 1 < q2
              · exact e3
              · have : q2 = q + 1 := by (first | lia | omega)
                rw [this, s2] at m4; (first | lia | omega)
            have y2 := flat_h H' (p := q + 1) (o := 0) (c := c1) (by first | lia | omega) (by first | lia | omega) (by rw [Nat.add_zero, s2, show plc ns' q + (pieceL (ns'.getD q 0)).length = j + 1 by (first | lia | omega)]; exact hn.symm)
            exact absurd rfl (y2.mp (y1.mpr (by decide)))
          · have o2 : o = 2 := by (first | lia | omega)
            have o3 : o' = 1 := by (first | lia | omega)
            have y1 := flat_h H' (p := q) (o := 2) (c := c1) (by first | lia | omega) (by first | lia | omega) (by rw [show plc ns' q + 2 = j + 1 by (first | lia | omega)]; exact hn.symm)
            have pq := (piece_pos H (p + 1)).1
            have w3 : p + 1 < p2 := by
              by_cases e3 : p + 1 < p2
              · exact e3
              · have : p2 = p + 1 := by (first | lia | omega)
                rw [this, s1] at m2; (first | lia | omega)
            have y2 := flat_h H (p := p + 1) (o := 0) (c := c1) (by first | lia | omega) (by first | lia | omega) (by rw [Nat.add_zero, s1, show plc ns p + (pieceL (ns.getD p 0)).length = i + 1 by (first | lia | omega)]; exact hc1)
            exact absurd rfl (y2.mp (y1.mpr (by decide)))
      obtain ⟨p', q', f, d1, d2, d3⟩ := beaten H H' (k := 1) (i := plc ns p) (j := plc ns' q) hp2 hq2 ⟨v1, by (first | lia | omega), v2, by (first | lia | omega), fun t ht => by
        rw [show t = 0 by (first | lia | omega)]; exact eq0⟩ (p := p) (q := q) ⟨a1, by (first | lia | omega)⟩ ⟨b1, by (first | lia | omega)⟩ (by first | lia | omega)
      refine ⟨p', q', f, d1, d2, lex_le_trans ?_ d3⟩
      unfold lexLt
      dsimp only
      (first | lia | omega)
/-- the plain law: what _law_run reckons is the best like stretch of the two texts -/
theorem best_text (H : InOct ns) (H' : InOct ns') (hp : p1 ≤ p2) (hp2 : p2 ≤ ns.length) (hq : q1 ≤ q2) (hq2 : q2 ≤ ns'.length) {b : Int × Int × Int} (B : BestAt ns ns' p1 p2 q1 q2 (DoneO p1 q1 q2 (p2 + 1 - p1)) b) :
    TBest (flatL ns) (flatL ns') (plc ns p1) (plc ns p2) (plc ns' q1) (plc ns' q2) b := by
  obtain ⟨B1, B2, B3⟩ := B
  refine ⟨?_, fun i j k hk hm => ?_⟩
  · rcases B1 with h | ⟨p, q, hd, hs, r, hr, rfl⟩
    · left; rw [h]; rfl
    · unfold DoneO at hd
      obtain ⟨I, J, K, g1, g2, _⟩ := found_spec H H' (p := p) (q := q) (r := r) (by first | lia | omega) (by first | lia | omega) hp2 (by first | lia | omega) (by first | lia | omega) hq2 hs hr
      by_cases e : K = 0
      · left
        subst e
        rw [g1] at B2 ⊢
        obtain ⟨x1, _, x3, _⟩ := g2
        unfold lexLt initOf at B2
        dsimp only at B2
        rw [placeN_plc, placeN_plc] at B2
        rw [Prod.mk.injEq, Prod.mk.injEq]
        (first | lia | omega)
      · right
        exact ⟨I, J, K, by (first | lia | omega), g2, g1⟩
  · obtain ⟨p, q, f, d1, d2, d3⟩ := each_beaten H H' hp hp2 hq hq2 hk hm
    exact lex_le_trans d3 (B3 p q f d1 d2)
end
end Mine
end

-- PF
section
set_option maxRecDepth 100000
set_option maxHeartbeats 400000
namespace Mine
/-- the length of the longest like stretch that ends ahead of i and j -/
noncomputable def suf (a b : List Nat) (alo blo : Nat) : Nat → Nat → Nat
  | 0, _ => 0
  | _ + 1, 0 => 0
  | i + 1, j + 1 => if alo ≤ i ∧ blo ≤ j ∧ a[i]? = b[j]? then suf a b alo blo i j + 1 else 0
section
variable {a b : List Nat} {alo ahi blo bhi : Nat}
theorem suf_zero (j : Nat) : suf a b alo blo 0 j = 0 := by unfold suf; rfl
theorem suf_zero' (i : Nat) : suf a b alo blo i 0 = 0 := by cases i <;> (unfold suf; rfl)
theorem suf_in {i j : Nat} (h1 : alo ≤ i) (h2 : blo ≤ j) (h3 : a[i]? = b[j]?) : suf a b alo blo (i + 1) (j + 1) = suf a b alo blo i j + 1 := by
  conv => lhs; unfold suf
  rw [if_pos ⟨h1, h2, h3⟩]
theorem suf_out {i j : Nat} (h : ¬ (alo ≤ i ∧ blo ≤ j ∧ a[i]? = b[j]?)) : suf a b alo blo (i + 1) (j + 1) = 0 := by
  unfold suf
  rw [if_neg h]
theorem suf_pos {i j : Nat} (h : 1 ≤ suf a b alo blo (i + 1) (j + 1)) : alo ≤ i ∧ blo ≤ j ∧ a[i]? = b[j]? := by
  by_cases c : alo ≤ i ∧ blo ≤ j ∧ a[i]? = b[j]?
  · exact c
  · rw [suf_out c] at h; (first | lia | omega)
theorem suf_le : ∀ (i j : Nat), suf a b alo blo i j = 0 ∨ (alo + suf a b alo blo i j ≤ i ∧ blo + suf a b alo blo i j ≤ j) := by
  intro i
  induction i with
  | zero => intro j; left; exact suf_zero j
  | succ i ih =>
    intro j
    cases j with
    | zero => left; exact suf_zero' _
    | succ j =>
      by_cases c : alo ≤ i ∧ blo ≤ j ∧ a[i]? = b[j]?
      · right
        rw [suf_in c.1 c.2.1 c.2.2]
        rcases ih j with h | h <;> (first | lia | omega)
      · left; exact suf_out c
theorem suf_like : ∀ (i j t : Nat), t < suf a b alo blo i j → a[i - 1 - t]? = b[j - 1 - t]? := by
  intro i
  induction i with
  | zero => intro j t h; rw [suf_zero] at h; (first | lia | omega)
  | succ i ih =>
    intro j t h
    cases j with
    | zero => rw [suf_zero'] at h; (first | lia | omega)
    | succ j =>
      obtain ⟨c1, c2, c3⟩ := suf_pos (a := a) (b := b) (alo := alo) (blo := blo) (i := i) (j := j) (by first | lia | omega)
      rw [suf_in c1 c2 c3] at h
      cases t with
      | zero => simpa using c3
      | succ t =>
        have := ih j t (by first | lia | omega)
        rw [show i + 1 - 1 - (t + 1) = i - 1 - t by (first | lia | omega), show j + 1 - 1 - (t + 1) = j - 1 - t by (first | lia | omega)]
        exact this
theorem suf_ge : ∀ (k i j : Nat), alo + k ≤ i → blo + k ≤ j → (∀ t, t < k → a[i - 1 - t]? = b[j - 1 - t]?) → k ≤ suf a b alo blo i j := by
  intro k
  induction k with
  | zero => intro i j _ _ _; exact Nat.zero_le _
  | succ k ih =>
    intro i j h1 h2 h3
    obtain ⟨i, rfl⟩ : ∃ i', i = i' + 1 := ⟨i - 1, by (first | lia | omega)⟩
    obtain ⟨j, rfl⟩ : ∃ j', j = j' + 1 := ⟨j - 1, by (first | lia | omega)⟩
    have c3 := h3 0 (by first | lia | omega)
    rw [suf_in (by first | lia | omega) (by first | lia | omega) (by simpa using c3)]
    have := ih i j (by first | lia | omega) (by first | lia | omega) (fun t ht => by
      have := h3 (t + 1) (by first | lia | omega)
      rwa [show i + 1 - 1 - (t + 1) = i - 1 - t by (first | lia | omega), show j + 1 - 1 - (t + 1) = j - 1 - t by (first | lia | omega)] at this)
    (first | lia | omega)
noncomputable def fo (a b : List Nat) (alo blo i j : Nat) : Int × Int × Int :=
  (-(suf a b alo blo (i + 1) (j + 1) : Int), (i : Int) + 1 - (suf a b alo blo (i + 1) (j + 1) : Int), (j : Int) + 1 - (suf a b alo blo (i + 1) (j + 1) : Int))
/-- the best of the stretches that end at a pair of D -/
noncomputable def FBest (a b : List Nat) (alo blo : Nat) (D : Nat → Nat → Prop) (f : Int × Int × Int) : Prop :=
  (f = (0, (alo : Int), (blo : Int)) ∨ ∃ i j, D i j ∧ 1 ≤ suf a b alo blo (i + 1) (j + 1) ∧ f = fo a b alo blo i j) ∧
    ∀ i j, D i j → 1 ≤ suf a b alo blo (i + 1) (j + 1) → ¬ lexLt (fo a b alo blo i j) f
theorem fbest_init : FBest a b alo blo (fun _ _ => False) (0, (alo : Int), (blo : Int)) := ⟨.inl rfl, fun _ _ h => h.elim⟩
/-- D' and D are the same among the pairs that count -/
theorem fbest_same {D D' : Nat → Nat → Prop} {f : Int × Int × Int} (h : FBest a b alo blo D f) (e : ∀ i j, 1 ≤ suf a b alo blo (i + 1) (j + 1) → (D' i j ↔ D i j)) : FBest a b alo blo D' f :=
  ⟨h.1.imp id fun ⟨i, j, d, s, g⟩ => ⟨i, j, (e i j s).mpr d, s, g⟩, fun i j d s => h.2 i j ((e i j s).mp d) s⟩
theorem fbest_take {D D' : Nat → Nat → Prop} {f : Int × Int × Int} {i₀ j₀ : Nat} (h : FBest a b alo blo D f) (hs : 1 ≤ suf a b alo blo (i₀ + 1) (j₀ + 1)) (hb : -f.1 < (suf a b alo blo (i₀ + 1) (j₀ + 1) : Int))
    (e : ∀ i j, 1 ≤ suf a b alo blo (i + 1) (j + 1) → (D' i j ↔ D i j ∨ (i = i₀ ∧ j = j₀))) : FBest a b alo blo D' (fo a b alo blo i₀ j₀) := by
  refine ⟨.inr ⟨i₀, j₀, (e _ _ hs).mpr (.inr ⟨rfl, rfl⟩), hs, rfl⟩, fun i j d s => ?_⟩
  rcases (e i j s).mp d with d | ⟨rfl, rfl⟩
  · exact fun c => h.2 i j d s (lex_tr c (.inl (Int.neg_lt_of_neg_lt hb)))
  · exact lexLt_irrefl _
theorem fbest_keep {D D' : Nat → Nat → Prop} {f : Int × Int × Int} {i₀ j₀ : Nat} (h : FBest a b alo blo D f) (hb : (suf a b alo blo (i₀ + 1) (j₀ + 1) : Int) ≤ -f.1) (ho : ∀ i j, D i j → i < i₀ ∨ (i = i₀ ∧ j < j₀))
    (e : ∀ i j, 1 ≤ suf a b alo blo (i + 1) (j + 1) → (D' i j ↔ D i j ∨ (i = i₀ ∧ j = j₀))) : FBest a b alo blo D' f := by
  refine ⟨h.1.imp id fun ⟨i, j, d, s, g⟩ => ⟨i, j, (e i j s).mpr (.inl d), s, g⟩, fun i j d s => ?_⟩
  rcases (e i j s).mp d with d | ⟨rfl, rfl⟩
  · exact h.2 i j d s
  · rcases h.1 with rfl | ⟨i', j', d', s', rfl⟩
    · dsimp only at hb; (first | lia | omega)
    · have := ho i' j' d'
      unfold lexLt fo at *
      dsimp only at *
      (first | lia | omega)
/-- the best of all is the best stretch of the window -/
theorem fbest_all {D : Nat → Nat → Prop} {f : Int × Int × Int} (h : FBest a b alo blo D f) (hD : ∀ i j, 1 ≤ suf a b alo blo (i + 1) (j + 1) → (D i j ↔ i < ahi ∧ j < bhi)) : TBest a b alo ahi blo bhi f := by
  obtain ⟨h1, h2⟩ := h
  refine ⟨?_, fun i j k hk hm => ?_⟩
  · rcases h1 with h | ⟨i, j, d, s, rfl⟩
    · exact .inl h
    · right
      have hd := (hD i j s).mp d
      have hl := suf_le (a := a) (b := b) (alo := alo) (blo := blo) (i + 1) (j + 1)
      have hk := suf_like (a := a) (b := b) (alo := alo) (blo := blo) (i + 1) (j + 1)
      unfold fo
      generalize suf a b alo blo (i + 1) (j + 1) = k at *
      refine ⟨i + 1 - k, j + 1 - k, k, s, ⟨by (first | lia | omega), by (first | lia | omega), by (first | lia | omega), by (first | lia | omega), fun t ht => ?_⟩, ?_⟩
      · have := hk (k - 1 - t) (by first | lia | omega)
        rwa [show i + 1 - 1 - (k - 1 - t) = i + 1 - k + t by (first | lia | omega), show j + 1 - 1 - (k - 1 - t) = j + 1 - k + t by (first | lia | omega)] at this
      · rw [Prod.mk.injEq, Prod.mk.injEq]; (first | lia | omega)
  · obtain ⟨m1, m2, m3, m4, m5⟩ := hm
    have hg := suf_ge (a := a) (b := b) (alo := alo) (blo := blo) k (i + k) (j + k) (by first | lia | omega) (by first | lia | omega) (fun t ht => by
      have := m5 (k - 1 - t) (by first | lia | omega)
      rwa [show i + (k - 1 - t) = i + k - 1 - t by (first | lia | omega), show j + (k - 1 - t) = j + k - 1 - t by (first | lia | omega)] at this)
    have e1 : i + k = (i + k - 1) + 1 := by (first | lia | omega)
    have e2 : j + k = (j + k - 1) + 1 := by (first | lia | omega)
    rw [e1, e2] at hg
    have := h2 (i + k - 1) (j + k - 1) ((hD _ _ (by first | lia | omega)).mpr ⟨by (first | lia | omega), by (first | lia | omega)⟩) (by first | lia | omega)
    refine lex_le_trans ?_ this
    unfold lexLt fo
    dsimp only
    (first | lia | omega)
/-- where the best begins it cannot be made longer, nor where it ends -/
theorem tbest_left {f : Int × Int × Int} (h : TBest a b alo ahi blo bhi f) (h1 : (alo : Int) < f.2.1) (h2 : (blo : Int) < f.2.2) : a[(f.2.1 - 1).toNat]? ≠ b[(f.2.2 - 1).toNat]? := by
  obtain ⟨g1, g2⟩ := h
  rcases g1 with rfl | ⟨i, j, k, hk, ⟨m1, m2, m3, m4, m5⟩, rfl⟩
  · dsimp only at h1; (first | lia | omega)
  · dsimp only at *
    intro e
    have := g2 (i - 1) (j - 1) (k + 1) (by first | lia | omega) ⟨by (first | lia | omega), by (first | lia | omega), by (first | lia | omega), by (first | lia | omega), fun t ht => by
      by_cases z : t = 0
      · subst z
        rwa [show ((i : Int) - 1).toNat = i - 1 + 0 by (first | lia | omega), show ((j : Int) - 1).toNat = j - 1 + 0 by (first | lia | omega)] at e
      · have := m5 (t - 1) (by first | lia | omega)
        rwa [show i + (t - 1) = i - 1 + t by (first | lia | omega), show j + (t - 1) = j - 1 + t by (first | lia | omega)] at this⟩
    unfold lexLt at this
    dsimp only at this
    (first | lia | omega)
theorem tbest_right {f : Int × Int × Int} (h : TBest a b alo ahi blo bhi f) (h1 : f.2.1 - f.1 < (ahi : Int)) (h2 : f.2.2 - f.1 < (bhi : Int)) : a[(f.2.1 - f.1).toNat]? ≠ b[(f.2.2 - f.1).toNat]? := by
  obtain ⟨g1, g2⟩ := h
  rcases g1 with rfl | ⟨i, j, k, hk, ⟨m1, m2, m3, m4, m5⟩, rfl⟩
  · dsimp only at *
    intro e
    have := g2 alo blo 1 (by first | lia | omega) ⟨by (first | lia | omega), by (first | lia | omega), by (first | lia | omega), by (first | lia | omega), fun t ht => by
      rw [show t = 0 by (first | lia | omega)]
      rwa [show ((alo : Int) - 0).toNat = alo + 0 by (first | lia | omega), show ((blo : Int) - 0).toNat = blo + 0 by (first | lia | omega)] at e⟩
    unfold lexLt at this
    dsimp only at this
    (omega)
  · dsimp only at *
    intro e
    have := g2 i j (k + 1) (by first | lia | omega) ⟨by (omega), by (first | lia | omega), by (omega), by (first | lia | omega), fun t ht => by
      by_cases z : t = k
      · subst z
        rwa [show ((i : Int) - -(t : Int)).toNat = i + t by (first | lia | omega), show ((j : Int) - -(t : Int)).toNat = j + t by (first | lia | omega)] at e
      · exact m5 t (by first | lia | omega)⟩
    unfold lexLt at this
    dsimp only at this
    (first | lia | omega)
/-- bounds of the best -/
theorem tbest_in {f : Int × Int × Int} (h : TBest a b alo ahi blo bhi f) (h1 : alo ≤ ahi) (h2 : blo ≤ bhi) : (alo : Int) ≤ f.2.1 ∧ f.2.1 - f.1 ≤ (ahi : Int) ∧ (blo : Int) ≤ f.2.2 ∧ f.2.2 - f.1 ≤ (bhi : Int) ∧ f.1 ≤ 0 := by
  obtain ⟨g1, _⟩ := h
  rcases g1 with rfl | ⟨i, j, k, hk, ⟨m1, m2, m3, m4, _⟩, rfl⟩
  · dsimp only; (first | lia | omega)
  · dsimp only; (first | lia | omega)
/-- nothing on one side: nothing found -/
theorem tbest_empty {f : Int × Int × Int} (h : TBest a b alo ahi blo bhi f) (e : ahi = alo ∨ bhi = blo) : f = (0, (alo : Int), (blo : Int)) := by
  obtain ⟨g1, _⟩ := h
  rcases g1 with rfl | ⟨i, j, k, hk, ⟨m1, m2, m3, m4, _⟩, rfl⟩
  · rfl
  · exfalso; (first | lia | omega)
end
/-- the row's table of lengths as the next row reads it -/
noncomputable def JGet (a b : List Nat) (alo blo bhi : Nat) (i : Nat) (val : Int → Option PySem.Value) : Prop :=
  ∀ j : Nat, j < bhi → (∃ t, val ((j : Int) - 1) = some (.int (suf a b alo blo i j : Int) t)) ∨ (val ((j : Int) - 1) = none ∧ suf a b alo blo i j = 0)
/-- the row's table as it is filled: P are the columns done -/
noncomputable def JPut (a b : List Nat) (alo blo : Nat) (i : Nat) (P : Nat → Prop) (val : Int → Option PySem.Value) : Prop :=
  ∀ x : Int, (∃ j : Nat, P j ∧ blo ≤ j ∧ x = (j : Int) ∧ ∃ t, val x = some (.int (suf a b alo blo (i + 1) (j + 1) : Int) t)) ∨ (val x = none ∧ ∀ j : Nat, P j → blo ≤ j → x ≠ (j : Int))
section
variable {a b : List Nat} {alo ahi blo bhi : Nat}
theorem jget_start {val : Int → Option PySem.Value} (hv : ∀ x, val x = none) : JGet a b alo blo bhi alo val := fun j _ => .inr ⟨hv _, by
  rcases suf_le (a := a) (b := b) (alo := alo) (blo := blo) alo j with h | h
  · exact h
  · (first | lia | omega)⟩
theorem jput_start {val : Int → Option PySem.Value} {i : Nat} {P : Nat → Prop} (hv : ∀ x, val x = none) (hP : ∀ j, ¬ P j) : JPut a b alo blo i P val := fun x => .inr ⟨hv _, fun j h => absurd h (hP j)⟩
theorem jput_skip {val : Int → Option PySem.Value} {i j₀ : Nat} {P P' : Nat → Prop} (h : JPut a b alo blo i P val) (hj : j₀ < blo) (e : ∀ j, P' j ↔ P j ∨ j = j₀) : JPut a b alo blo i P' val := by
  intro x
  rcases h x with ⟨j, h1, h2, h3, h4⟩ | ⟨h1, h2⟩
  · exact .inl ⟨j, (e j).mpr (.inl h1), h2, h3, h4⟩
  · refine .inr ⟨h1, fun j hj2 hb => ?_⟩
    rcases (e j).mp hj2 with hp | rfl
    · exact h2 j hp hb
    · (first | lia | omega)
theorem jput_set {val val' : Int → Option PySem.Value} {i j₀ : Nat} {P P' : Nat → Prop} {t : PySem.Tok} (h : JPut a b alo blo i P val) (hj : blo ≤ j₀) (e : ∀ j, P' j ↔ P j ∨ j = j₀)
    (hv : ∀ x, val' x = if x = (j₀ : Int) then some (.int (suf a b alo blo (i + 1) (j₀ + 1) : Int) t) else val x) : JPut a b alo blo i P' val' := by
  intro x
  rw [hv]
  by_cases c : x = (j₀ : Int)
  · rw [if_pos c]
    exact .inl ⟨j₀, (e j₀).mpr (.inr rfl), hj, c, t, rfl⟩
  · rw [if_neg c]
    rcases h x with ⟨j, h1, h2, h3, h4⟩ | ⟨h1, h2⟩
    · exact .inl ⟨j, (e j).mpr (.inl h1), h2, h3, h4⟩
    · refine .inr ⟨h1, fun j hj2 hb => ?_⟩
      rcases (e j).mp hj2 with hp | rfl
      · exact h2 j hp hb
      · exact c
/-- a row that is filled is ready to be read -/
theorem jget_of_put {val : Int → Option PySem.Value} {i : Nat} {P : Nat → Prop} (h : JPut a b alo blo i P val) (hP : ∀ j, P j → a[i]? = b[j]?) (hall : ∀ j, j < bhi → a[i]? = b[j]? → P j) (hi : alo ≤ i) : JGet a b alo blo bhi (i + 1) val := by
  intro j hj
  cases j with
  | zero =>
    right
    refine ⟨?_, suf_zero' _⟩
    rcases h ((0 : Nat) - 1 : Int) with ⟨j, h1, h2, h3, h4⟩ | ⟨h1, _⟩
    · (first | lia | omega)
    · exact h1
  | succ j =>
    rw [show (((j + 1 : Nat) : Int) - 1) = (j : Int) by (first | lia | omega)]
    rcases h (j : Int) with ⟨j', h1, h2, h3, h4⟩ | ⟨h1, h2⟩
    · have : j = j' := by (first | lia | omega)
      subst this
      exact .inl h4
    · right
      refine ⟨h1, suf_out fun c => ?_⟩
      exact h2 j (hall j (by first | lia | omega) c.2.2) c.2.1 rfl
end
end Mine
end

-- B1
section
open PySem PySem.Calls
set_option maxRecDepth 100000
set_option maxHeartbeats 400000
namespace Mine
theorem tl_get : typeLookup (.type "dict") (PySem.Str.ofString "get") = pure (some (.builtin "dict.get")) := by rw [typeLookup_type, builtinLookup_eq_fast]; kernel_rfl
theorem ty_get : typeOf (.builtin "dict.get") = pure (.type "method_descriptor") := by show builtinType _ = _; rw [builtinType_eq_fast]; kernel_rfl
theorem tl_cont : typeLookup (.type "set") (PySem.Str.ofString "__contains__") = pure (some (.builtin "set.__contains__")) := by rw [typeLookup_type, builtinLookup_eq_fast]; kernel_rfl
theorem ty_cont : typeOf (.builtin "set.__contains__") = pure (.type "method_descriptor") := by show builtinType _ = _; rw [builtinType_eq_fast]; kernel_rfl
theorem tl_mget : typeLookup (.type "method_descriptor") "__get__" = pure (some (.builtin "method_descriptor.__get__")) := by rw [typeLookup_type, builtinLookup_eq_fast]; kernel_rfl
theorem tl_mset : typeLookup (.type "method_descriptor") "__set__" = pure none := by rw [typeLookup_type, builtinLookup_eq_fast]; kernel_rfl
theorem tl_mdel : typeLookup (.type "method_descriptor") "__delete__" = pure none := by rw [typeLookup_type, builtinLookup_eq_fast]; kernel_rfl
end Mine
namespace Mine
noncomputable def bmOf (id : String) (self : Value) : Obj := { cls := .type "builtin_function_or_method", data := .fields #[.builtin id, self] }
theorem slot_mget : Slot "method_descriptor" "__get__" "method_descriptor.__get__" :=
  .of (owner := "method_descriptor") (n := "__get__") (by rw [typeLookup_type, builtinLookup_eq_fast]; kernel_rfl) (by decide +kernel) (by decide +kernel) (by decide +kernel)
    (by first | exact .inl (by decide +kernel) | exact .inr (by decide +kernel)) (by rw [isSubtype_type]; kernel_rfl)
theorem entry_mget : entryFor table "method_descriptor.__get__" = some Builtin.«method_descriptor.__get__» := entryFor_of_tree (by kernel_rfl)
theorem args_mget (a b c : Value) : argsOk "method_descriptor.__get__" ⟨[a, b, c], []⟩ := by unfold argsOk; kernel_rfl
theorem run_mget {M : Model} {A : Around} {E : Value → Shared → Prop} {s : Shared} {P : Fin → Shared → Prop} {a : Addr} (hT : s.TypeIs (.ref a) "dict") (h : P (.done (.ret (.ref s.heap.objs.size))) { s with heap := s.heap.push (bmOf "dict.get" (.ref a)) }) :
    wpAny M A (Builtin.«method_descriptor.__get__» ⟨[.builtin "dict.get", .ref a, .type "dict"], []⟩) P E s := by
  unfold Builtin.«method_descriptor.__get__»
  refine wpAny_bind (wpAny_of_eq (a := (.builtin "dict.get", some (.ref a), some (.type "dict"))) (by first | rfl | kernel_rfl) ?_)
  dsimp only
  rw [if_neg (by decide +kernel)]
  refine wpAny_bind (wpAny_bind (wpAny_of_eq (a := (PySem.Str.ofString "get", .type "dict")) (by first | rfl | kernel_rfl) ?_))
  dsimp only
  have f9 : isSubtype (.type "dict") (.type "dict") = pure true := by first | rfl | kernel_rfl | (rw [isSubtype_type]; kernel_rfl)
  repeat (any_goals (first | assumption | wp_step))
theorem meets_get_dict (a : Addr) (es : Array DictEntry) (k : Nat) (sl : Array (Option Value)) (u : Tok) :
    Meets (Builtin.«object.__getattribute__» ⟨[.ref a, .str (PySem.Str.ofString "get") u], []⟩) (fun A R s => s.heap.get? a = some { cls := .type "dict", dict := none, data := .dict es k, slots := sl } ∧
      R (.ok (.ret (.ref s.heap.objs.size))) { s with heap := s.heap.push (bmOf "dict.get" (.ref a)) }) :=
  Meets.of_wp fun prog w A R s hs => by
    obtain ⟨hp, g, d, tk, os⟩ := s
    obtain ⟨hx, hs⟩ := hs
    have hT : (⟨hp, g, d, tk, os⟩ : Shared).TypeIs (.ref a) "dict" := ⟨_, hx, rfl⟩
    have f1 := tl_get
    have f2 := ty_get
    have f3 := tl_mget
    have f4 := tl_mset
    have f5 := tl_mdel
    unfold Builtin.«object.__getattribute__»
    repeat (any_goals (first | assumption | ((with_reducible show wpAny _ _ (call (Value.builtin "method_descriptor.__get__") _ _) _ _ _); refine wpAny_call_entry slot_mget ty_get entry_mget (run_mget hT ?_) (args_mget _ _ _)) | wp_step))
    exact ⟨_, rfl, wpAny_pure ⟨_, rfl, hs⟩⟩
end Mine
namespace Mine
theorem getAttr_get_dict {prog : Program} {w : World} {A : Around} {E : Value → Shared → Prop} {s : Shared} {a : Addr} {es : Array DictEntry} {k : Nat} {sl : Array (Option Value)} {Q : Value → Shared → Prop}
    (hx : s.heap.get? a = some { cls := .type "dict", dict := none, data := .dict es k, slots := sl })
    (h : ∀ tk, Q (.ref s.heap.objs.size) { s with heap := s.heap.push (bmOf "dict.get" (.ref a)), toks := tk }) :
    wpAny (model prog w) A (getAttr (.ref a) (PySem.Str.ofString "get") true) Q E s := by
  obtain ⟨hp, g, d, tk, os⟩ := s
  have hT : ∀ tk', (⟨hp, g, d, tk', os⟩ : Shared).TypeIs (.ref a) "dict" := fun _ => ⟨_, hx, rfl⟩
  have f3 := F.slot_dict_getattribute.lookup
  have f4 := F.slot_dict_getattribute.bind (.ref a)
  have f5 := am_dict_getattr_none
  unfold getAttr getAttrBy
  repeat (any_goals (first | assumption | exact hT _ | ((with_reducible show wpAny _ _ (call (Value.builtin "dict.__getattribute__") _ _) _ _ _); refine call_meets F.slot_dict_getattribute (hT _) am_entry_dict_getattribute (F.args_dict_getattribute_2 _ _) (meets_get_dict a es k sl _) ⟨hx, ?_⟩) | wp_step))
  show wpAny _ _ (handedOut _) _ _ _
  unfold handedOut
  have hz : (hp.push (bmOf "dict.get" (.ref a))).get? hp.objs.size = some (bmOf "dict.get" (.ref a)) := Heap.get?_push_size _ rfl
  repeat (any_goals (first | assumption | exact h _ | wp_step))
  all_goals trace_state
end Mine
end

-- B2
section
open PySem PySem.Calls PySem.W PyProof.Rows
set_option maxRecDepth 100000
set_option maxHeartbeats 400000
namespace Mine
theorem am_set_getattr_none : typeLookup (.type "set") "__getattr__" = pure none := by rw [typeLookup_type, builtinLookup_eq_fast]; kernel_rfl
theorem am_entry_set_getattribute : entryFor table "set.__getattribute__" = some Builtin.«object.__getattribute__» :=
  entryFor_alias (id' := "object.__getattribute__") (by kernel_rfl) (by decide +kernel) (by decide +kernel) (by kernel_rfl)
theorem run_mget_set {M : Model} {A : Around} {E : Value → Shared → Prop} {s : Shared} {P : Fin → Shared → Prop} {a : Addr} (hT : s.TypeIs (.ref a) "set") (h : P (.done (.ret (.ref s.heap.objs.size))) { s with heap := s.heap.push (bmOf "set.__contains__" (.ref a)) }) :
    wpAny M A (Builtin.«method_descriptor.__get__» ⟨[.builtin "set.__contains__", .ref a, .type "set"], []⟩) P E s := by
  unfold Builtin.«method_descriptor.__get__»
  refine wpAny_bind (wpAny_of_eq (a := (.builtin "set.__contains__", some (.ref a), some (.type "set"))) (by first | rfl | kernel_rfl) ?_)
  dsimp only
  rw [if_neg (by decide +kernel)]
  refine wpAny_bind (wpAny_bind (wpAny_of_eq (a := (PySem.Str.ofString "__contains__", .type "set")) (by first | rfl | kernel_rfl) ?_))
  dsimp only
  have f9 : isSubtype (.type "set") (.type "set") = pure true := by first | rfl | kernel_rfl | (rw [isSubtype_type]; kernel_rfl)
  repeat (any_goals (first | assumption | wp_step))
theorem meets_cont_set (a : Addr) (es : Array (Int × Value)) (k : Nat) (st : SetTable) (sl : Array (Option Value)) (u : Tok) :
    Meets (Builtin.«object.__getattribute__» ⟨[.ref a, .str (PySem.Str.ofString "__contains__") u], []⟩) (fun A R s => s.heap.get? a = some { cls := .type "set", dict := none, data := .set es k st, slots := sl } ∧
      R (.ok (.ret (.ref s.heap.objs.size))) { s with heap := s.heap.push (bmOf "set.__contains__" (.ref a)) }) :=
  Meets.of_wp fun prog w A R s hs => by
    obtain ⟨hp, g, d, tk, os⟩ := s
    obtain ⟨hx, hs⟩ := hs
    have hT : (⟨hp, g, d, tk, os⟩ : Shared).TypeIs (.ref a) "set" := ⟨_, hx, rfl⟩
    have f1 := tl_cont
    have f2 := ty_cont
    have f3 := tl_mget
    have f4 := tl_mset
    have f5 := tl_mdel
    unfold Builtin.«object.__getattribute__»
    repeat (any_goals (first | assumption | ((with_reducible show wpAny _ _ (call (Value.builtin "method_descriptor.__get__") _ _) _ _ _); refine wpAny_call_entry slot_mget ty_cont entry_mget (run_mget_set hT ?_) (args_mget _ _ _)) | wp_step))
    exact ⟨_, rfl, wpAny_pure ⟨_, rfl, hs⟩⟩
theorem getAttr_cont_set {prog : Program} {w : World} {A : Around} {E : Value → Shared → Prop} {s : Shared} {a : Addr} {es : Array (Int × Value)} {k : Nat} {st : SetTable} {sl : Array (Option Value)} {Q : Value → Shared → Prop}
    (hx : s.heap.get? a = some { cls := .type "set", dict := none, data := .set es k st, slots := sl })
    (h : ∀ tk, Q (.ref s.heap.objs.size) { s with heap := s.heap.push (bmOf "set.__contains__" (.ref a)), toks := tk }) :
    wpAny (model prog w) A (getAttr (.ref a) (PySem.Str.ofString "__contains__") true) Q E s := by
  obtain ⟨hp, g, d, tk, os⟩ := s
  have hT : ∀ tk', (⟨hp, g, d, tk', os⟩ : Shared).TypeIs (.ref a) "set" := fun _ => ⟨_, hx, rfl⟩
  have f3 := F.slot_set_getattribute.lookup
  have f4 := F.slot_set_getattribute.bind (.ref a)
  have f5 := am_set_getattr_none
  unfold getAttr getAttrBy
  repeat (any_goals (first | assumption | exact hT _ | ((with_reducible show wpAny _ _ (call (Value.builtin "set.__getattribute__") _ _) _ _ _); refine call_meets F.slot_set_getattribute (hT _) am_entry_set_getattribute (F.args_set_getattribute_2 _ _) (meets_cont_set a es k st sl _) ⟨hx, ?_⟩) | wp_step))
  show wpAny _ _ (handedOut _) _ _ _
  unfold handedOut
  have hz : (hp.push (bmOf "set.__contains__" (.ref a))).get? hp.objs.size = some (bmOf "set.__contains__" (.ref a)) := Heap.get?_push_size _ rfl
  repeat (any_goals (first | assumption | exact h _ | wp_step))
/-- the bound object stands -/
noncomputable def BmAt (u : Addr) (id : String) (self : Value) (h : Heap) : Prop := h.get? u = some (bmOf id self)
section
variable {prog : Program} {w : World} {M : Model} {A : Around} {E : Value → Shared → Prop} {s : Shared} {h₀ : Heap} {L : Addr} {m : PySem.Str → Option Value} {news : List (Addr × Obj)}
theorem callWith_bm {pos : Pos} {u : Addr} {id : String} {self : Value} {first : List Value} {args : List (Bool × Sem Value)} {Q : Value → Shared → Prop} (hplain : args.any (·.1) = false)
    (h : wpAny M A (evalArgs (.ref u) true args []) (fun x s₁ => BmAt u id self s₁.heap ∧ wpAny M A (call (.ref u) (first ++ x.pos) x.kw) Q E s₁) E s) : wpAny M A (callWith pos (.ref u) first args []) Q E s := by
  unfold callWith
  refine wpAny_bind (wpAny_holding (wpAny_mono h (fun x s₁ h₁ => wpAny_bind (wpAny_standAt ?_)) fun _ _ x => x))
  obtain ⟨ho, hcall⟩ := h₁
  simp only [hplain, List.any_nil, Bool.or_false]
  refine wpAny_bind (m := keeperOf (.ref u)) ?_
  unfold keeperOf
  refine wpAny_bind (wpAny_load ho ?_)
  simp only [bmOf, show (Value.type "builtin_function_or_method" != Value.type "method") = true by decide, show (Value.type "builtin_function_or_method" == Value.type "builtin_function_or_method" || Value.type "builtin_function_or_method" == Value.type "method-wrapper") = true by decide, if_true]
  refine wpAny_pure ?_
  exact wpAny_bind (wpAny_mono hcall (fun r s₂ hr => wpAny_bind (wpAny_holding (wpAny_point (wpAny_pure hr)))) fun _ _ x => x)
theorem callWith_bound {pos : Pos} {u : Addr} {id : String} {self : Value} {first : List Value} {env : Env} {e : Expr} {rest : List Expr} {Q : Value → Shared → Prop} (_N : News h₀ L s.heap news) (_hm : (u, bmOf id self) ∈ news)
    (h : wpAny M A (spliced (backTo pos (starEach (e :: rest) env))) (fun vs s₁ => BmAt u id self s₁.heap ∧ wpAny M A (call (.ref u) (first ++ vs)) Q E s₁) E s)
    (he : starEach (e :: rest) env = (false, eval e env) :: starEach rest env := by rfl) (hplain : (backTo pos (starEach rest env)).any (·.1) = false := by rfl) :
    wpAny M A (callWith pos (.ref u) first (backTo pos (starEach (e :: rest) env)) []) Q E s := by
  rw [he] at h ⊢
  refine callWith_bm (id := id) (self := self) (by show (false || (backTo pos (starEach rest env)).any (·.1)) = false; rw [hplain]; rfl) ?_
  exact evalArgs_plain h
noncomputable def sgGet : Manifest.Signature := ((Manifest.signature? "dict.get").getD ⟨.hand, "", "", .none, []⟩)
theorem sg_get : Manifest.signature? "dict.get" = some sgGet := by kernel_rfl
theorem kd_get : builtinKind "dict.get" = some .method := by kernel_rfl
theorem va_get : Manifest.varargsMethods.contains "dict.get" = false := by kernel_rfl
theorem ck_get (d k v : Value) : Bind.checkArgs "dict.get" { machinery := sgGet.machinery, full := toString (Bind.lastOf "dict") ++ toString "." ++ toString (Bind.lastOf "dict.get"), short := sgGet.short, receiver := sgGet.receiver, params := sgGet.params } ⟨[d, k, v], []⟩ = pure () := by kernel_rfl
theorem check_get {d : Addr} {k v : Value} {es : Array DictEntry} {ep : Nat} {sl : Array (Option Value)} (hx : s.heap.get? d = some { cls := .type "dict", dict := none, data := .dict es ep, slots := sl }) {Q : Unit → Shared → Prop} (h : Q () s) : wpAny M A (checkBoundCall "dict.get" ⟨[.ref d, k, v], []⟩) Q E s := by
  have hT : s.TypeIs (.ref d) "dict" := ⟨_, hx, rfl⟩
  unfold checkBoundCall
  rw [sg_get]
  dsimp only
  rw [kd_get]
  dsimp only
  rw [if_neg (by decide), va_get]
  have f1 : isSubtype (.type "dict") (.type "module") = pure false := by first | rfl | kernel_rfl | (rw [isSubtype_type]; kernel_rfl)
  have f2 : isSubtype (.type "dict") (.type "type") = pure false := by first | rfl | kernel_rfl | (rw [isSubtype_type]; kernel_rfl)
  obtain ⟨hp, g, dw, tk, os⟩ := s
  repeat (any_goals (first | assumption | (with_reducible show wpAny _ _ (Bind.checkArgs _ _ _) _ _ _; rw [ck_get]; exact wpAny_pure h) | wp_step))
noncomputable def sgCont : Manifest.Signature := ((Manifest.signature? "set.__contains__").getD ⟨.hand, "", "", .none, []⟩)
theorem sg_cont : Manifest.signature? "set.__contains__" = some sgCont := by kernel_rfl
theorem kd_cont : builtinKind "set.__contains__" = some .method := by kernel_rfl
theorem va_cont : Manifest.varargsMethods.contains "set.__contains__" = false := by kernel_rfl
theorem ck_cont (d k : Value) : Bind.checkArgs "set.__contains__" { machinery := sgCont.machinery, full := toString (Bind.lastOf "set") ++ toString "." ++ toString (Bind.lastOf "set.__contains__"), short := sgCont.short, receiver := sgCont.receiver, params := sgCont.params } ⟨[d, k], []⟩ = pure () := by kernel_rfl
theorem check_cont {d : Addr} {k : Value} {es : Array (Int × Value)} {ep : Nat} {st : SetTable} {sl : Array (Option Value)} (hx : s.heap.get? d = some { cls := .type "set", dict := none, data := .set es ep st, slots := sl }) {Q : Unit → Shared → Prop} (h : Q () s) : wpAny M A (checkBoundCall "set.__contains__" ⟨[.ref d, k], []⟩) Q E s := by
  have hT : s.TypeIs (.ref d) "set" := ⟨_, hx, rfl⟩
  unfold checkBoundCall
  rw [sg_cont]
  dsimp only
  rw [kd_cont]
  dsimp only
  rw [if_neg (by decide), va_cont]
  have f1 : isSubtype (.type "set") (.type "module") = pure false := by first | rfl | kernel_rfl | (rw [isSubtype_type]; kernel_rfl)
  have f2 : isSubtype (.type "set") (.type "type") = pure false := by first | rfl | kernel_rfl | (rw [isSubtype_type]; kernel_rfl)
  obtain ⟨hp, g, dw, tk, os⟩ := s
  repeat (any_goals (first | assumption | (with_reducible show wpAny _ _ (Bind.checkArgs _ _ _) _ _ _; rw [ck_cont]; exact wpAny_pure h) | wp_step))
theorem quiet_get {as : Args} : (Code.builtin "dict.get" as).quiet = true := Code.quiet_builtin _ (by decide +kernel)
theorem quiet_cont {as : Args} : (Code.builtin "set.__contains__" as).quiet = true := Code.quiet_builtin _ (by decide +kernel)
theorem bm_call {u : Addr} {id : String} {self : Value} {as : List Value} {T : Builtin} {S : Around → (Result → Shared → Prop) → Shared → Prop} {Q : Value → Shared → Prop} (ho : BmAt u id self s.heap) (hq : ∀ {as : Args}, (Code.builtin id as).quiet = true) (hpl : plainId id = true) (he : entryFor table id = some T)
    (hc : ∀ {A' : Around} {E' : Value → Shared → Prop} {Q' : Unit → Shared → Prop}, Q' () s → wpAny (model prog w) A' (checkBoundCall id ⟨self :: as, []⟩) Q' E' s)
    (g : MeetsIn prog w (T ⟨self :: as, []⟩) S) (h : S A (wants Q E) s) : wpAny (model prog w) A (call (.ref u) as) Q E s := by
  refine wpAny_call (codeAny_of_tree ?_)
  show wpAny _ A.in1 (callAny (.ref u) ⟨as, []⟩) _ _ s
  simp only [callAny]
  refine wpAny_bind (wpAny_load ho ?_)
  simp only [bmOf, show (Value.type "builtin_function_or_method" == Value.type "method" || Value.type "builtin_function_or_method" == Value.type "builtin_function_or_method" || Value.type "builtin_function_or_method" == Value.type "method-wrapper") = true by decide, if_true]
  refine PySem.W.KFB.if_so (by decide) ?_
  refine wpAny_bind (hc ?_)
  refine wpAny_bind (wpAny_pure (wpAny_pure ?_))
  refine ⟨hq, ?_⟩
  refine codeAny_builtin he ?_
  rw [Around.under_plainId hpl]
  exact g A (wants Q E) s h
/-- a bound dict.get of an int key, with a default -/
theorem bm_get {u d : Addr} {kvs : List (Int × Value)} {k : Int} {t : Tok} {dflt : Value} {od : Obj} {Q : Value → Shared → Prop} (ho : BmAt u "dict.get" (.ref d) s.heap) (hx : s.heap.get? d = some od) (hd : od.IsDictOf (PySem.intKind prog w) kvs) (lo : (d == sysModules) = false)
    (h : Q ((valueAt kvs k).getD dflt) { s with toks := s.toks + 1 }) : wpAny (model prog w) A (call (.ref u) [.int k t, dflt]) Q E s := by
  have hm : s.heap.DictOf (PySem.intKind prog w) d kvs := Heap.dictOf_iff.mpr ⟨od, hx, hd⟩
  obtain ⟨es, ep, hex, hdat, _⟩ := hd
  obtain ⟨c, dd, dt, sl⟩ := od
  obtain ⟨rfl, rfl, rfl⟩ := hex
  dsimp only at hdat
  subst hdat
  exact bm_call ho quiet_get (by decide +kernel) PySem.F.entry_dict_get (check_get hx) (meets_dict_get_default (PySem.intKind prog w) d (intKind_is _ _ _ _) lo dflt) ⟨_, hm.mapOf, h⟩
theorem meets_set_contains_none {a : Addr} {x : PySem.Str} {t : Tok} :
    MeetsIn prog w (Builtin.«frozenset.__contains__» ⟨[.ref a, .str x t], []⟩) (fun _ R s => s.heap.SetOf (PySem.strKind prog w) a (fun _ => false) 0 ∧ R (.ok (.ret (.bool false))) { s with toks := s.toks + 1 }) :=
  .of_wp fun A R s ⟨hS, h⟩ => by
    unfold Builtin.«frozenset.__contains__» Builtin.Frozenset.oneOther
    simp only [List.isEmpty_nil, bind_assoc]
    unfold Builtin.Frozenset.addrOf Builtin.Frozenset.withSetAsKey setContains
    refine wpAny_bind (wpAny_pure ?_)
    try dsimp only
    refine wpAny_bind (wpAny_pure ?_)
    try dsimp only
    refine wpAny_bind (wpAny_tryCatch ?_)
    refine wpAny_holding ?_
    refine wpAny_bind ((PySem.strKind prog w).pyHash (strKind_is prog w x t) ?_)
    refine wpAny_bind (wpAny_setFind_of (s := { s with toks := s.toks + 1 }) (strKind_is prog w x t) (by rfl) hS fun r hr => ?_)
    refine wpAny_pure ?_
    show wpAny _ _ (ret (Value.bool r.isSome)) _ _ _
    rw [hr]
    exact wpAny_pure ⟨_, rfl, h⟩
theorem setOf_none {h : Heap} {a : Addr} {lj : Bool} (hx : h.get? a = some { cls := .type "set", data := .set #[] 0 (SetTable.fresh 0 0 lj) }) : h.SetOf (PySem.strKind prog w) a (fun _ => false) 0 := by
  refine ⟨_, #[], 0, _, hx, ⟨rfl, rfl, rfl⟩, rfl, ?_, ?_, ?_, ?_, rfl⟩
  · intro e he; exact absurd he (by simp)
  · intro k; constructor
    · intro h; cases h
    · rintro ⟨e, he, _⟩; exact absurd he (by simp)
  · decide
  · rfl
/-- a bound set.__contains__ of the empty set -/
theorem bm_cont {u a : Addr} {x : PySem.Str} {t : Tok} {lj : Bool} {Q : Value → Shared → Prop} (ho : BmAt u "set.__contains__" (.ref a) s.heap) (hx : s.heap.get? a = some { cls := .type "set", data := .set #[] 0 (SetTable.fresh 0 0 lj) })
    (h : Q (.bool false) { s with toks := s.toks + 1 }) : wpAny (model prog w) A (call (.ref u) [.str x t]) Q E s :=
  bm_call ho quiet_cont (by decide +kernel) entry_set_contains (check_cont hx) meets_set_contains_none ⟨setOf_none hx, h⟩
end
end Mine
end

-- E11a
section
open PySem PySem.W PyProof.Rows PySem.Calls
set_option maxRecDepth 100000
set_option maxHeartbeats 0
namespace Mine
section
variable {w : World} {p : Program} {loose : List Str} {mean : MeanT} {mg mb : Str → Option Value}

/-- a SequenceMatcher as it stands behind its constructor -/
noncomputable def SM (w : World) (h : Heap) (x : Addr) (va vb : PySem.Str) : Prop :=
  ∃ (dx d js jp : Addr) (od : Obj) (es : List Ent) (lj : Bool) (ta tb a1 a2 a3 a4 a5 a6 a7 t1 t2 t3 : Tok), PySem.W.InstAt h x (instObj 242 dx) 242 (some (dictOf [⟨PyData.keyHash w.params (Str.ofString "isjunk"), .str (Str.ofString "isjunk") a1, .none⟩, ⟨PyData.keyHash w.params (Str.ofString "a"), .str (Str.ofString "a") a2, .str va ta⟩, ⟨PyData.keyHash w.params (Str.ofString "b"), .str (Str.ofString "b") a3, .str vb tb⟩, ⟨PyData.keyHash w.params (Str.ofString "autojunk"), .str (Str.ofString "autojunk") a4, .bool true⟩, ⟨PyData.keyHash w.params (Str.ofString "matching_blocks"), .str (Str.ofString "matching_blocks") a5, .none⟩, ⟨PyData.keyHash w.params (Str.ofString "opcodes"), .str (Str.ofString "opcodes") a6, .none⟩, ⟨PyData.keyHash w.params (Str.ofString "fullbcount"), .str (Str.ofString "fullbcount") a7, .none⟩, ⟨PyData.keyHash w.params (Str.ofString "b2j"), .str (Str.ofString "b2j") t1, .ref d⟩, ⟨PyData.keyHash w.params (Str.ofString "bjunk"), .str (Str.ofString "bjunk") t2, .ref js⟩, ⟨PyData.keyHash w.params (Str.ofString "bpopular"), .str (Str.ofString "bpopular") t3, .ref jp⟩] 10)) ∧
    h.get? d = some od ∧ h.get? js = some { cls := .type "set", data := .set #[] 0 (SetTable.fresh 0 0 lj) } ∧ (∀ e ∈ es, h.IsList e.2.1 e.2.2.1.toArray) ∧ Ents w [d, x, dx] od vb.cps.toList es ∧ (d == sysModules) = false
theorem inst_keep {h h' : Heap} {x C : Addr} {ox od : Obj} (k : ∀ b o, h.get? b = some o → h'.get? b = some o) (I : PySem.W.InstAt h x ox C (some od)) : PySem.W.InstAt h' x ox C (some od) := by
  refine ⟨k _ _ I.at_, I.cls, I.no, ?_⟩
  have := I.dict
  cases e : ox.dict with
  | none => rw [e] at this; exact this
  | some dx => rw [e] at this; exact k _ _ this
theorem sm_keep {w : World} {h h' : Heap} {x : Addr} {va vb : PySem.Str} (S : SM w h x va vb) (k : h.StaysIn h') : SM w h' x va vb := by
  obtain ⟨dx, d, js, jp, od, es, lj, ta, tb, a1, a2, a3, a4, a5, a6, a7, t1, t2, t3, h1, h2, h3, h4, h5, h6⟩ := S
  exact ⟨dx, d, js, jp, od, es, lj, ta, tb, a1, a2, a3, a4, a5, a6, a7, t1, t2, t3, inst_keep k h1, k _ _ h2, k _ _ h3, fun e he => stays_list k (h4 e he), h5, h6⟩
section
variable {prog : Program} {w : World} {A : Around} {E : Value → Shared → Prop} {s : Shared} {h₀ : Heap} {L : Addr} {m : PySem.Str → Option Value} {news : Led}
theorem ga_cont {js : Addr} {lj : Bool} {Q : Value → Shared → Prop} (F : Fr h₀ L s.heap m) (N : News h₀ L s.heap news) (hx : h₀.get? js = some { cls := .type "set", data := .set #[] 0 (SetTable.fresh 0 0 lj) })
    (h : ∀ x h' tk, Fr h₀ L h' m → News h₀ L h' ((x, bmOf "set.__contains__" (.ref js)) :: news) → (∀ p ∈ news, p.1 < x) → Q (.ref x) { s with heap := h', toks := tk }) :
    wpAny (model prog w) A (getAttr (.ref js) (PySem.Str.ofString "__contains__") true) Q E s :=
  getAttr_cont_set (F.keep _ _ hx) fun tk => h s.heap.objs.size _ tk (F.push _) (N.push F _) fun p hp => Heap.lt_size (N p hp).1
theorem ga_get {K : Type} [DecidableEq K] {knd : KeyKind prog w K} {kvs : List (K × Value)} {d : Addr} {od : Obj} {Q : Value → Shared → Prop} (F : Fr h₀ L s.heap m) (N : News h₀ L s.heap news) (hm : (d, od) ∈ news) (hd : od.IsDictOf knd kvs)
    (h : ∀ x h' tk, Fr h₀ L h' m → News h₀ L h' ((x, bmOf "dict.get" (.ref d)) :: news) → (∀ p ∈ news, p.1 < x) → Q (.ref x) { s with heap := h', toks := tk }) :
    wpAny (model prog w) A (getAttr (.ref d) (PySem.Str.ofString "get") true) Q E s := by
  obtain ⟨es, ep, hex, hdat, _⟩ := hd
  obtain ⟨c, dd, dt, sl⟩ := od
  obtain ⟨rfl, rfl, rfl⟩ := hex
  dsimp only at hdat
  subst hdat
  exact getAttr_get_dict (N _ hm).1 fun tk => h s.heap.objs.size _ tk (F.push _) (N.push F _) fun p hp => Heap.lt_size (N p hp).1
theorem bmAt_of {u : Addr} {id : String} {self : Value} {h : Heap} (N : News h₀ L h news) (hm : (u, bmOf id self) ∈ news) : BmAt u id self h := (N _ hm).1
end
end
end Mine
end

open PySem PySem.W PyProof.Rows PySem.Calls Mine
local macro_rules | `(tactic| walk_at "h:gac") => `(tactic| (k_here; (with_reducible show wpAny _ _ (getAttr (Value.ref _) (PySem.Str.ofString "__contains__") true) _ _ _); k_dflt (apply ga_cont; k_asm; k_asm; assumption; k_whole; intro x' h' tk' F' N' l1; (try k_lt l1); (try k_sweep))))
local macro_rules | `(tactic| walk_at "h:gag") => `(tactic| (k_here; (with_reducible show wpAny _ _ (getAttr (Value.ref _) (PySem.Str.ofString "get") true) _ _ _); k_dflt (apply ga_get (knd := PySem.intKind _ _); k_asm; k_asm; k_mem; assumption; k_whole; intro x' h' tk' F' N' l1; (try k_lt l1); (try k_sweep))))
local macro_rules | `(tactic| walk_at "h:cw") => `(tactic| (k_here; k_dflt (apply callWith_bound; k_asm; k_mem; k_whole)))
local macro_rules | `(tactic| walk_at "h:and") => `(tactic| ((with_reducible show BmAt _ _ _ _ ∧ _); k_dflt (refine ⟨bmAt_of (by k_asm) (by k_mem), ?_⟩); (try dsimp only [List.nil_append, List.cons_append])))

-- E11b
section
open PySem PySem.W PyProof.Rows PySem.Calls
set_option maxRecDepth 100000
set_option maxHeartbeats 0
namespace Mine
section
variable {w : World} {p : Program} {loose : List Str} {mean : MeanT} {mg mb : Str → Option Value}

noncomputable abbrev flmBody : List Stmt := bdOf (stAt (bdOf (stAt NTOP 5)) 6)
noncomputable abbrev outBodyF : List Stmt := forBody (stAt flmBody 7)
noncomputable abbrev inBodyF : List Stmt := forBody (stAt outBodyF 2)
noncomputable abbrev envF (L : Addr) : Env := envOf (S "SequenceMatcher.find_longest_match") (scOf (stAt (bdOf (stAt NTOP 5)) 6)) L 196 (.ref 195)
noncomputable abbrev cstF (va vb : PySem.Str) (ta tb : Tok) (d bm nl : Addr) (alo ahi blo bhi : Nat) (u1 u2 u3 u4 : Tok) : List (PySem.Str × Value) :=
  [(Str.ofString "a", .str va ta), (Str.ofString "b", .str vb tb), (Str.ofString "b2j", .ref d), (Str.ofString "isbjunk", .ref bm), (Str.ofString "alo", .int (alo : Int) u1), (Str.ofString "ahi", .int (ahi : Int) u2), (Str.ofString "blo", .int (blo : Int) u3), (Str.ofString "bhi", .int (bhi : Int) u4), (Str.ofString "nothing", .ref nl)]
noncomputable abbrev bestF (bi bj bs : Int) (v1 v2 v3 : Tok) : List (PySem.Str × Value) := [(Str.ofString "besti", .int bi v1), (Str.ofString "bestj", .int bj v2), (Str.ofString "bestsize", .int bs v3)]
theorem valueAt_stored {K : Type} [DecidableEq K] (kvs : List (K × Value)) (k x : K) (v : Value) : valueAt (stored kvs k v) x = if x = k then some v else valueAt kvs x := by
  unfold valueAt stored
  by_cases c : (kvs.any fun kv => decide (kv.1 = k)) = true
  · rw [if_pos c]
    induction kvs with
    | nil => simp at c
    | cons q r ih =>
      by_cases e : q.1 = k
      · by_cases e2 : x = k
        · subst e2
          simp [e]
        · rw [if_neg e2]
          simp only [List.map_cons, if_pos e, List.find?_cons]
          have : ¬ q.1 = x := fun h => e2 (by rw [← h, e])
          simp only [this, decide_false]
          by_cases c2 : (r.any fun kv => decide (kv.1 = k)) = true
          · rw [ih c2, if_neg e2]
          · congr 1
            have hm : ∀ p ∈ r, ¬ p.1 = k := fun p hp e => c2 (List.any_eq_true.mpr ⟨p, hp, decide_eq_true e⟩)
            clear ih c c2
            induction r with
            | nil => rfl
            | cons p r ih2 =>
              have h1 := hm p (.head _)
              simp only [List.map_cons, if_neg h1, List.find?_cons]
              rw [ih2 fun y hy => hm y (.tail _ hy)]
      · have c2 : (r.any fun kv => decide (kv.1 = k)) = true := by simpa [e] using c
        simp only [List.map_cons, if_neg e, List.find?_cons]
        by_cases e3 : q.1 = x
        · have : ¬ x = k := fun h => e (by rw [e3, h])
          simp [e3, this]
        · simp only [e3, decide_false]
          exact ih c2
  · rw [if_neg c]
    have hm : ∀ p ∈ kvs, ¬ p.1 = k := fun p hp e => c (List.any_eq_true.mpr ⟨p, hp, decide_eq_true e⟩)
    clear c
    induction kvs with
    | nil =>
      by_cases e : x = k
      · subst e; simp
      · have : ¬ k = x := fun h => e h.symm
        simp [e, this]
    | cons q r ih =>
      have h1 := hm q (.head _)
      have ih' := ih fun y hy => hm y (.tail _ hy)
      simp only [List.cons_append, List.find?_cons]
      by_cases e3 : q.1 = x
      · have : ¬ x = k := fun h => h1 (by rw [e3, h])
        simp [e3, this]
      · simp only [e3, decide_false]
        exact ih'
theorem jput_stored {ca cb : List Nat} {alo blo i j : Nat} {P P' : Nat → Prop} {kvn : List (Int × Value)} {t : Tok} (es : suf ca cb alo blo (i + 1) (j + 1) = suf ca cb alo blo i j + 1) (h : JPut ca cb alo blo i P (valueAt kvn)) (hj : blo ≤ j) (e : ∀ y, P' y ↔ P y ∨ y = j) :
    JPut ca cb alo blo i P' (valueAt (stored kvn (j : Int) (.int ((suf ca cb alo blo i j : Int) + 1) t))) :=
  jput_set (t := t) h hj e fun x => by rw [es]; exact valueAt_stored _ _ _ _
section
variable {prog : Program} {w : World} {A : Around} {E : Value → Shared → Prop} {s : Shared} {h₀ : Heap} {L : Addr} {news : Led}
theorem bm_suf {ca cb : List Nat} {alo blo bhi i j : Nat} {u d : Addr} {kvs : List (Int × Value)} {t t2 : Tok} {od : Obj} {Q : Value → Shared → Prop} (N : News h₀ L s.heap news) (hm : (u, bmOf "dict.get" (.ref d)) ∈ news) (hx : (d, od) ∈ news) (hd : od.IsDictOf (PySem.intKind prog w) kvs) (lo : (d == sysModules) = false)
    (hJ : JGet ca cb alo blo bhi i (valueAt kvs)) (hj : j < bhi) (h : ∀ t' tk, Q (.int (suf ca cb alo blo i j : Int) t') { s with toks := tk }) : wpAny (model prog w) A (call (.ref u) [.int ((j : Int) - 1) t, .int 0 t2]) Q E s := by
  refine bm_get (bmAt_of N hm) (N _ hx).1 hd lo ?_
  rcases hJ j hj with ⟨t', e⟩ | ⟨e, e0⟩
  · rw [e]; exact h _ _
  · rw [e]
    have := h t2 (s.toks + 1)
    rw [e0] at this
    exact this
end

local macro_rules | `(tactic| k_inst) => `(tactic| exact inst_keep (Fr.keep (by assumption)) (by assumption))
local macro_rules | `(tactic| walk_at "getAttr ref") => `(tactic| walk_at "h:gac")
local macro_rules | `(tactic| walk_at "getAttr ref") => `(tactic| walk_at "h:gag")
local macro_rules | `(tactic| walk_at "callWith ref") => `(tactic| walk_at "h:cw")
local macro_rules | `(tactic| walk_at "And") => `(tactic| walk_at "h:and")
local macro_rules | `(tactic| walk_at "pyIter ref") => `(tactic| refine stop_ ?_)

local macro_rules | `(tactic| walk_at "setItem ref int") => `(tactic| (k_here; k_dflt (refine' PySem.W.kda_set (knd := PySem.intKind _ _) ?F ?N ?U ?d (intKind_is _ _ _ _) ?z ?_; (case F | N => k_asm); (case U => exact PySem.W.UpdF.head (by with_reducible assumption)); (case d | z => with_reducible assumption)); intro h' o' F' N' hd'; (try dsimp only at N')))
theorem inF {dp un : Nat} {gd : Option (List Code)} {cn : PySem.Str} {cs : Scope} {a : Addr} {ccd : Value} {cl : List (PySem.Str × Addr)} {outer : List Env} {base h₀ : Heap} {L L₀ : Addr} {s : Shared} {Post : Flow → Shared → Prop}
    {d nl bm bg jd nd : Addr} {ojd ond : Obj} {kvo kvn : List (Int × Value)} {own : Led} {va vb : PySem.Str} {ta tb : Tok} {alo ahi blo bhi i j : Nat} {u1 u2 u3 u4 ti tj v1 v2 v3 : Tok} {m : PySem.Str → Option Value} {h : Heap} {tk : Nat} {bi bj bs : Int} {D D' : Nat → Nat → Prop} {P P' : Nat → Prop}
    (hu : un + 16 < cLine) (B : Below (ktrTop dp un gd cn cs L₀ a ccd cl outer) base (envX cn cs L₀ a ccd cl :: outer) h₀) (X : (KK w.params).In h₀) (T : Top p loose mean mg mb h₀)
    (hA : va.cps.size < 100) (hB : vb.cps.size < 100) (hi : alo ≤ i) (hb : bhi ≤ vb.cps.size)
    (hodn : ond.IsDictOf (PySem.intKind PR w) kvn) (hodo : ojd.IsDictOf (PySem.intKind PR w) kvo) (hlo : (jd == sysModules) = false) (hln : (nd == sysModules) = false) (hsz : kvn.length ≤ sizeLine) (hupd : ∀ p ∈ ((bg, bmOf "dict.get" (.ref jd)) :: (jd, ojd) :: own), p.1 ≠ nd)
    (hJ : JGet va.cps.toList vb.cps.toList alo blo bhi i (valueAt kvo)) (hP : JPut va.cps.toList vb.cps.toList alo blo i P (valueAt kvn)) (hPe : ∀ y, P' y ↔ P y ∨ y = j)
    (hF : FBest va.cps.toList vb.cps.toList alo blo D (-bs, bi, bj)) (hDo : ∀ i' j', D i' j' → i' < i ∨ (i' = i ∧ j' < j)) (hDe : ∀ i' j', 1 ≤ suf va.cps.toList vb.cps.toList alo blo (i' + 1) (j' + 1) → (D' i' j' ↔ D i' j' ∨ (i' = i ∧ j' = j))) (hij : va.cps.toList[i]? = vb.cps.toList[j]?)
    (F : Fr h₀ L h m) (N : News h₀ L h ((nd, ond) :: (bg, bmOf "dict.get" (.ref jd)) :: (jd, ojd) :: own))
    (hc : ∀ p ∈ (Str.ofString "j", Value.int (j : Int) tj) :: (Str.ofString "i", .int (i : Int) ti) :: (Str.ofString "newj2len", .ref nd) :: (Str.ofString "j2lenget", .ref bg) :: (bestF bi bj bs v1 v2 v3 ++ cstF va vb ta tb d bm nl alo ahi blo bhi u1 u2 u3 u4), m p.1 = some p.2)
    (hcont : ∀ h' tk' m', j < blo → Fr h₀ L h' m' → (∀ p ∈ (Str.ofString "i", Value.int (i : Int) ti) :: (Str.ofString "newj2len", .ref nd) :: (Str.ofString "j2lenget", .ref bg) :: (bestF bi bj bs v1 v2 v3 ++ cstF va vb ta tb d bm nl alo ahi blo bhi u1 u2 u3 u4), m' p.1 = some p.2) → News h₀ L h' ((nd, ond) :: (bg, bmOf "dict.get" (.ref jd)) :: (jd, ojd) :: own) → Post .cont { s with heap := h', toks := tk' })
    (hbrk : ∀ h' tk' m', bhi ≤ j → Fr h₀ L h' m' → (∀ p ∈ (Str.ofString "i", Value.int (i : Int) ti) :: (Str.ofString "newj2len", .ref nd) :: (Str.ofString "j2lenget", .ref bg) :: (bestF bi bj bs v1 v2 v3 ++ cstF va vb ta tb d bm nl alo ahi blo bhi u1 u2 u3 u4), m' p.1 = some p.2) → News h₀ L h' ((nd, ond) :: (bg, bmOf "dict.get" (.ref jd)) :: (jd, ojd) :: own) → Post .brk { s with heap := h', toks := tk' })
    (hnext : ∀ h' tk' m' ond' kvn' bi' bj' bs', j < bhi → Fr h₀ L h' m' → News h₀ L h' ((nd, ond') :: (bg, bmOf "dict.get" (.ref jd)) :: (jd, ojd) :: own) → ond'.IsDictOf (PySem.intKind PR w) kvn' → kvn'.length ≤ kvn.length + 1 →
      (∃ v1 v2 v3, ∀ p ∈ (Str.ofString "i", Value.int (i : Int) ti) :: (Str.ofString "newj2len", .ref nd) :: (Str.ofString "j2lenget", .ref bg) :: (bestF bi' bj' bs' v1 v2 v3 ++ cstF va vb ta tb d bm nl alo ahi blo bhi u1 u2 u3 u4), m' p.1 = some p.2) →
      JPut va.cps.toList vb.cps.toList alo blo i P' (valueAt kvn') → FBest va.cps.toList vb.cps.toList alo blo D' (-bs', bi', bj') → Post .next { s with heap := h', toks := tk' }) :
    wpAny (model PR w) ((ktrTop dp un gd cn cs L₀ a ccd cl outer).deeper (envF L)) (execs inBodyF (envF L)) Post NoE { s with heap := h, toks := tk } := by
  unfold PR
  revert X
  k_fill
  intro X
  dsimp only [bestF, cstF, List.cons_append, List.nil_append] at hc hnext hcont hbrk
  replace F := fr_ovl hc F
  dsimp only [ovl] at F
  k_steps
  repeat (
    any_goals first
      | with_reducible (k_here; (with_reducible show wpAny _ _ (call (Value.ref _) [Value.int _ _, Value.int _ _]) _ _ _); k_dflt (refine' bm_suf ?k1 ?k2 ?k3 ?k4 ?k5 ?k6 ?k7 ?_; (case k1 => k_asm); (case k2 => k_mem); (case k4 => assumption); (case k3 => k_mem); (case k5 | k6 => assumption); (case k7 => (first | lia | omega)); k_whole; intro t' tk'))
      | (k_here; (with_reducible show wpAny _ _ (call (Value.ref _) [Value.int _ _, Value.int _ _]) _ _ _); k_dflt (refine' bm_suf ?k1 ?k2 ?k3 ?k4 ?k5 ?k6 ?k7 ?_; (case k1 => k_asm); (case k2 => k_mem); (case k4 => assumption); (case k3 => k_mem); (case k5 | k6 => assumption); (case k7 => (first | lia | omega)); k_whole; intro t' tk'))
      | fail
    all_goals k_steps)
  · with_reducible rename Fr _ _ _ _ => F1
    with_reducible rename News _ _ _ _ => N1
    exact hcont _ _ _ (by (first | lia | omega)) F1 (List.forall_mem_cons.mpr ⟨rfl, List.forall_mem_cons.mpr ⟨rfl, List.forall_mem_cons.mpr ⟨rfl, List.forall_mem_cons.mpr ⟨rfl, List.forall_mem_cons.mpr ⟨rfl, List.forall_mem_cons.mpr ⟨rfl, List.forall_mem_cons.mpr ⟨rfl, List.forall_mem_cons.mpr ⟨rfl, List.forall_mem_cons.mpr ⟨rfl, List.forall_mem_cons.mpr ⟨rfl, List.forall_mem_cons.mpr ⟨rfl, List.forall_mem_cons.mpr ⟨rfl, List.forall_mem_cons.mpr ⟨rfl, List.forall_mem_cons.mpr ⟨rfl, List.forall_mem_cons.mpr ⟨rfl, (fun _ h => nomatch h)⟩⟩⟩⟩⟩⟩⟩⟩⟩⟩⟩⟩⟩⟩⟩) N1
  · with_reducible rename Fr _ _ _ _ => F1
    with_reducible rename News _ _ _ _ => N1
    exact hbrk _ _ _ (by (first | lia | omega)) F1 (List.forall_mem_cons.mpr ⟨rfl, List.forall_mem_cons.mpr ⟨rfl, List.forall_mem_cons.mpr ⟨rfl, List.forall_mem_cons.mpr ⟨rfl, List.forall_mem_cons.mpr ⟨rfl, List.forall_mem_cons.mpr ⟨rfl, List.forall_mem_cons.mpr ⟨rfl, List.forall_mem_cons.mpr ⟨rfl, List.forall_mem_cons.mpr ⟨rfl, List.forall_mem_cons.mpr ⟨rfl, List.forall_mem_cons.mpr ⟨rfl, List.forall_mem_cons.mpr ⟨rfl, List.forall_mem_cons.mpr ⟨rfl, List.forall_mem_cons.mpr ⟨rfl, List.forall_mem_cons.mpr ⟨rfl, (fun _ h => nomatch h)⟩⟩⟩⟩⟩⟩⟩⟩⟩⟩⟩⟩⟩⟩⟩) N1
  all_goals (
    with_reducible rename Fr _ _ _ _ => F1
    with_reducible rename News _ _ _ _ => N1
    with_reducible rename Obj => on1
    with_reducible rename Obj.IsDictOf _ on1 _ => hd1
    have es := suf_in (a := va.cps.toList) (b := vb.cps.toList) (alo := alo) (blo := blo) hi (by (first | lia | omega)) hij)
  · refine hnext _ _ _ _ _ ((i : Int) - ((suf va.cps.toList vb.cps.toList alo blo i j : Int) + 1) + 1) ((j : Int) - ((suf va.cps.toList vb.cps.toList alo blo i j : Int) + 1) + 1) ((suf va.cps.toList vb.cps.toList alo blo i j : Int) + 1) (by (first | lia | omega)) F1 (fun p hp => N1 p (.tail _ hp)) hd1 (stored_length_le _ _ _) ⟨_, _, _, (List.forall_mem_cons.mpr ⟨rfl, List.forall_mem_cons.mpr ⟨rfl, List.forall_mem_cons.mpr ⟨rfl, List.forall_mem_cons.mpr ⟨rfl, List.forall_mem_cons.mpr ⟨rfl, List.forall_mem_cons.mpr ⟨rfl, List.forall_mem_cons.mpr ⟨rfl, List.forall_mem_cons.mpr ⟨rfl, List.forall_mem_cons.mpr ⟨rfl, List.forall_mem_cons.mpr ⟨rfl, List.forall_mem_cons.mpr ⟨rfl, List.forall_mem_cons.mpr ⟨rfl, List.forall_mem_cons.mpr ⟨rfl, List.forall_mem_cons.mpr ⟨rfl, List.forall_mem_cons.mpr ⟨rfl, (fun _ h => nomatch h)⟩⟩⟩⟩⟩⟩⟩⟩⟩⟩⟩⟩⟩⟩⟩)⟩ (jput_stored es hP (by (first | lia | omega)) hPe) ?fb
    case fb =>
      have := fbest_take hF (by rw [es]; (first | lia | omega)) (by rw [es]; dsimp only; (first | lia | omega)) hDe
      unfold fo at this
      rw [es] at this
      refine Eq.mp (congrArg _ ?_) this
      rw [Prod.mk.injEq, Prod.mk.injEq]
      (first | lia | omega)
  · refine hnext _ _ _ _ _ bi bj bs (by (first | lia | omega)) F1 N1 hd1 (stored_length_le _ _ _) ⟨_, _, _, (List.forall_mem_cons.mpr ⟨rfl, List.forall_mem_cons.mpr ⟨rfl, List.forall_mem_cons.mpr ⟨rfl, List.forall_mem_cons.mpr ⟨rfl, List.forall_mem_cons.mpr ⟨rfl, List.forall_mem_cons.mpr ⟨rfl, List.forall_mem_cons.mpr ⟨rfl, List.forall_mem_cons.mpr ⟨rfl, List.forall_mem_cons.mpr ⟨rfl, List.forall_mem_cons.mpr ⟨rfl, List.forall_mem_cons.mpr ⟨rfl, List.forall_mem_cons.mpr ⟨rfl, List.forall_mem_cons.mpr ⟨rfl, List.forall_mem_cons.mpr ⟨rfl, List.forall_mem_cons.mpr ⟨rfl, (fun _ h => nomatch h)⟩⟩⟩⟩⟩⟩⟩⟩⟩⟩⟩⟩⟩⟩⟩)⟩ (jput_stored es hP (by (first | lia | omega)) hPe) ?fb
    case fb => exact fbest_keep hF (by rw [es]; dsimp only; (first | lia | omega)) hDo hDe
end
end Mine
end

-- E11c
section
open PySem PySem.W PyProof.Rows PySem.Calls
set_option maxRecDepth 100000
set_option maxHeartbeats 0
namespace Mine
local macro_rules | `(tactic| walk_at "idle line") => `(tactic| skip)
section
variable {w : World} {p : Program} {loose : List Str} {mean : MeanT} {mg mb : Str → Option Value}

/-- where c stands in b -/
noncomputable def posN (c : Nat) (b : List Nat) : List Nat := (List.range b.length).filter fun j => b[j]? == some c
theorem posL_posN (c : Nat) (b : List Nat) : posL c b = (posN c b).map fun (j : Nat) => (j : Int) := rfl
theorem posN_mem {c : Nat} {b : List Nat} {j : Nat} : j ∈ posN c b ↔ b[j]? = some c := by
  unfold posN
  rw [List.mem_filter, List.mem_range, beq_iff_eq]
  constructor
  · exact fun h => h.2
  · exact fun h => ⟨(List.getElem?_eq_some_iff.mp h).1, h⟩
theorem posN_sorted (c : Nat) (b : List Nat) : (posN c b).Pairwise (· < ·) := List.Pairwise.filter _ List.pairwise_lt_range
theorem take_lt {l : List Nat} (h : l.Pairwise (· < ·)) {n j j' : Nat} (hn : l[n]? = some j) (hj : j' ∈ l.take n) : j' < j := by
  obtain ⟨k, hk, e⟩ := List.mem_iff_getElem.mp hj
  obtain ⟨h1, h2⟩ := List.getElem?_eq_some_iff.mp hn
  rw [List.length_take] at hk
  rw [List.getElem_take] at e
  rw [← e, ← h2]
  exact List.pairwise_iff_getElem.mp h _ _ _ _ (by first | lia | omega)
theorem mem_take {l : List Nat} (h : l.Pairwise (· < ·)) {n j j' : Nat} (hn : l[n]? = some j) (hj : j' ∈ l) (hlt : j' < j) : j' ∈ l.take n := by
  obtain ⟨k, hk, e⟩ := List.mem_iff_getElem.mp hj
  obtain ⟨h1, h2⟩ := List.getElem?_eq_some_iff.mp hn
  have : k < n := by
    by_cases c : k < n
    · exact c
    · exfalso
      by_cases c2 : k = n
      · subst c2; (first | lia | omega)
      · have := List.pairwise_iff_getElem.mp h n k h1 hk (by first | lia | omega)
        (first | lia | omega)
  exact List.mem_iff_getElem.mpr ⟨k, by rw [List.length_take]; (first | lia | omega), by rw [List.getElem_take]; exact e⟩
theorem take_next {l : List Nat} {n j y : Nat} (hn : l[n]? = some j) : y ∈ l.take (n + 1) ↔ y ∈ l.take n ∨ y = j := by
  obtain ⟨h1, h2⟩ := List.getElem?_eq_some_iff.mp hn
  rw [List.take_succ_eq_append_getElem h1, List.mem_append, List.mem_singleton, h2]
/-- the pairs done ahead of the n-th column of row i -/
noncomputable def DnF (c : Nat) (b : List Nat) (bhi i n i' j' : Nat) : Prop := (i' < i ∧ j' < bhi) ∨ (i' = i ∧ j' ∈ (posN c b).take n)
section
variable {ca cb : List Nat} {alo blo bhi i c : Nat} {f : Int × Int × Int}
/-- behind a row: all columns that count are done -/
theorem row_done {n : Nat} (hc : ca[i]? = some c) (hF : FBest ca cb alo blo (DnF c cb bhi i n) f) (h1 : ∀ j ∈ (posN c cb).take n, j < bhi) (h2 : ∀ j, j < bhi → j ∈ posN c cb → j ∈ (posN c cb).take n) :
    FBest ca cb alo blo (fun i' j' => i' < i + 1 ∧ j' < bhi) f := by
  refine fbest_same hF fun i' j' s => ?_
  obtain ⟨_, _, e⟩ := suf_pos s
  unfold DnF
  constructor
  · rintro ⟨h3, h4⟩
    by_cases z : i' = i
    · subst z
      exact .inr ⟨rfl, h2 _ h4 (posN_mem.mpr (by rw [← e]; exact hc))⟩
    · exact .inl ⟨by (first | lia | omega), h4⟩
  · rintro (⟨h3, h4⟩ | ⟨h3, h4⟩)
    · exact ⟨by (first | lia | omega), h4⟩
    · exact ⟨by (first | lia | omega), h1 _ h4⟩
theorem row_start (hF : FBest ca cb alo blo (fun i' j' => i' < i ∧ j' < bhi) f) : FBest ca cb alo blo (DnF c cb bhi i 0) f :=
  fbest_same hF fun i' j' _ => by unfold DnF; simp
theorem row_skip {n j : Nat} (hn : (posN c cb)[n]? = some j) (hj : j < blo) (hF : FBest ca cb alo blo (DnF c cb bhi i n) f) : FBest ca cb alo blo (DnF c cb bhi i (n + 1)) f :=
  fbest_same hF fun i' j' s => by
    obtain ⟨_, h2, _⟩ := suf_pos s
    unfold DnF
    rw [take_next hn]
    constructor
    · rintro (h | ⟨h, h' | h'⟩)
      · exact .inl h
      · exact .inr ⟨h, h'⟩
      · (first | lia | omega)
    · rintro (h | ⟨h, h'⟩)
      · exact .inl h
      · exact .inr ⟨h, .inl h'⟩
theorem row_next {n j : Nat} (hn : (posN c cb)[n]? = some j) (i' j' : Nat) : DnF c cb bhi i (n + 1) i' j' ↔ DnF c cb bhi i n i' j' ∨ (i' = i ∧ j' = j) := by
  unfold DnF
  rw [take_next hn]
  constructor
  · rintro (h | ⟨h, h' | h'⟩)
    · exact .inl (.inl h)
    · exact .inl (.inr ⟨h, h'⟩)
    · exact .inr ⟨h, h'⟩
  · rintro ((h | h) | h)
    · exact .inl h
    · exact .inr ⟨h.1, .inl h.2⟩
    · exact .inr ⟨h.1, .inr h.2⟩
theorem row_before {n j : Nat} (hn : (posN c cb)[n]? = some j) (i' j' : Nat) (h : DnF c cb bhi i n i' j') : i' < i ∨ (i' = i ∧ j' < j) := by
  rcases h with h | h
  · exact .inl h.1
  · exact .inr ⟨h.1, take_lt (posN_sorted c cb) hn h.2⟩
end
section
variable {prog : Program} {w : World} {A : Around} {E : Value → Shared → Prop} {s : Shared} {env : Env} {h₀ : Heap} {x : Str} {body : List Stmt} {Q : Flow → Shared → Prop}
/-- a loop over an empty list of the ledger -/
theorem iterE {l : Addr} {k : Nat} {m₀ : Str → Option Value} {news : Led} (hh : A.handled = none) (F : Fr h₀ env.locals s.heap m₀) (N : News h₀ env.locals s.heap news) (hm : (l, W.listOf #[] k) ∈ news)
    (done : ∀ h tk, Fr h₀ env.locals h m₀ → News h₀ env.locals h news → Q .next { s with heap := h, toks := tk }) :
    wpAny (model prog w) A (pyIter (.ref l)) (fun it s₂ => LoopAtV prog w A h₀ env x body Q E it s₂) E s := by
  have hls : s.heap.IsList l #[] := ⟨_, (N _ hm).1, rfl, _, rfl⟩
  have hne : l ≠ s.heap.objs.size := Nat.ne_of_lt (Heap.lt_size (N _ hm).1)
  have hlL : l ≠ env.locals := (N _ hm).2.1
  refine wpAny_pyIter_list hls ?_
  refine ⟨s.heap.objs.size, [s.heap.objs.size, l], [s.heap.objs.size], 0, _, _, m₀, news, fun _ m nx => m = m₀ ∧ nx = news, rfl, Walks.list (prog := prog) (w := w) hh s.heap.objs.size l hne #[], ?_, fun b hb => ?_, fun p hp hm => ?_,
    ⟨⟨_, Heap.get?_push_size _ rfl, rfl, rfl⟩, hls.at fun o e => Heap.get?_push_of_some _ e⟩, F.push _, fun p hp => ⟨Heap.get?_push_of_some _ (N p hp).1, (N p hp).2⟩, ⟨rfl, rfl⟩, ?_, ?_⟩
  · intro hm
    rcases List.mem_cons.mp hm with e | hm
    · exact absurd F.ns.lt (e ▸ Nat.lt_irrefl _)
    · exact hlL (List.mem_singleton.mp hm).symm
  · rw [List.mem_singleton.mp hb]; exact next_is_new F
  · have := Heap.lt_size (N p hp).1
    rw [List.mem_singleton.mp hm] at this
    exact Nat.lt_irrefl _ this
  · intro i v m₁ news₁ s₁ own _ hin
    exact absurd hin (Nat.not_lt_zero _)
  · rintro h' tk' m' news' F' N' _ ⟨rfl, rfl⟩
    exact done h' tk' F' N'
end
section
variable {prog : Program} {w : World} {A : Around} {E : Value → Shared → Prop} {s : Shared} {h₀ : Heap} {L : Addr} {m : PySem.Str → Option Value}
theorem item_ch {value slice : PySem.Expr} {x : PySem.Str} {c : Nat} {i : Int} {t u : Tok} {Q : Value → Shared → Prop} (h0 : 0 ≤ i) (hc : x.cps[i.toNat]? = some c) (hx : x.cps.size < 100) (h : ∀ t' k, Q (.str ⟨#[c]⟩ t') { s with toks := k })
    (hs : subscripted slice false (.str x t) (.int i u) = operate [.str x t, .int i u] (getItem (.str x t) (.int i u)) := by with_unfolding_all rfl)
    (ht : ∀ r, letTemporaryGo value (.str x t) r = pure () := by intro _; with_unfolding_all rfl) : wpAny (model prog w) A (subscriptTail value slice (.str x t) (.int i u)) Q E s := by
  obtain ⟨h1, h2⟩ := Array.getElem?_eq_some_iff.mp hc
  have hl : x.length = x.cps.size := rfl
  refine PySem.W.KXi.item (n := x.cps.size) rfl (by (first | lia | omega)) (by (first | lia | omega)) (by (first | lia | omega)) (fun _ => ?_) hs ht
  rw [item_meets ⟨h0, by rw [hl]; (first | lia | omega)⟩]
  rw [show x.cps.getD i.toNat 0 = c by rw [Array.getD_eq_getD_getElem?, hc]; rfl]
  exact h _ _
theorem gm_base {K : Type} [DecidableEq K] {knd : KeyKind prog w K} {kvs : List (K × Value)} {d : Addr} {od : Obj} {pl : Sem Bool} {Q : Value × List Value → Shared → Prop} (F : Fr h₀ L s.heap m) (hx : h₀.get? d = some od) (hd : od.IsDictOf knd kvs) (h : Q (.builtin "dict.get", [.ref d]) s) :
    wpAny (model prog w) A (getMethod (.ref d) (Str.ofString "get") pl) Q E s :=
  have hD : s.heap.DictOf knd d kvs := Heap.dictOf_iff.mpr ⟨od, F.keep _ _ hx, hd⟩
  getMethod_builtin hD.typeIs PySem.F.plainAttrs_dict PySem.F.slot_dict_get PySem.F.type_dict_get hD.mapOf.noDict h
theorem get_base {kvs : List (PySem.Str × Value)} {d : Addr} {od : Obj} {k : PySem.Str} {t : Tok} {dflt x : Value} {Q : Value → Shared → Prop} (F : Fr h₀ L s.heap m) (hx : h₀.get? d = some od) (hd : od.IsDictOf (PySem.strKind prog w) kvs) (lo : (d == sysModules) = false) (hl : (valueAt kvs k).getD dflt = x) (h : Q x { s with toks := s.toks + 1 }) :
    wpAny (model prog w) A (call (.builtin "dict.get") [.ref d, .str k t, dflt]) Q E s :=
  have hD : s.heap.DictOf (PySem.strKind prog w) d kvs := Heap.dictOf_iff.mpr ⟨od, F.keep _ _ hx, hd⟩
  call_meetsIn PySem.F.slot_dict_get hD.typeIs PySem.F.entry_dict_get (PySem.F.args_dict_get_3 _ _ _) (meets_dict_get_default (PySem.strKind prog w) d (strKind_is _ _ _ _) lo dflt) ⟨_, hD.mapOf, by rw [hl]; exact h⟩
end

local macro_rules | `(tactic| k_inst) => `(tactic| exact inst_keep (Fr.keep (by assumption)) (by assumption))
local macro_rules | `(tactic| walk_at "getAttr ref") => `(tactic| walk_at "h:gac")
local macro_rules | `(tactic| walk_at "getAttr ref") => `(tactic| walk_at "h:gag")
local macro_rules | `(tactic| walk_at "callWith ref") => `(tactic| walk_at "h:cw")
local macro_rules | `(tactic| walk_at "And") => `(tactic| walk_at "h:and")

local macro_rules | `(tactic| walk_at "subscriptTail") => `(tactic| (k_here; (with_reducible show wpAny _ _ (subscriptTail _ _ (Value.str _ _) (Value.int _ _)) _ _ _); k_dflt (with_unfolding_all apply item_ch; omega; with_reducible assumption; with_reducible assumption; rotate_left; with_unfolding_all rfl; (intro _; with_unfolding_all rfl); k_whole; intro t9' k9')))
local macro_rules | `(tactic| walk_at "pyIter ref") => `(tactic| refine stop_ ?_)
theorem ents_none {ads : List Addr} {od : Obj} {pre : List Nat} {es : List Ent} {c : Nat} (hE : Ents w ads od pre es) (hv : valueAt (es.map entKv) (⟨#[c]⟩ : PySem.Str) = none) (j : Nat) : pre[j]? ≠ some c := by
  intro hj
  obtain ⟨e, he, e1⟩ := List.mem_map.mp (hE.all c (List.mem_of_getElem? hj))
  rw [valueAt_ents] at hv
  have := List.find?_eq_none.mp (Option.map_eq_none_iff.mp hv) e he
  exact this (by simpa using e1)
theorem afterF {dp un : Nat} {gd : Option (List Code)} {cn : PySem.Str} {cs : Scope} {a : Addr} {ccd : Value} {cl : List (PySem.Str × Addr)} {outer : List Env} {base h₀ : Heap} {L L₀ : Addr} {s : Shared} {Post : Flow → Shared → Prop}
    {d bm nl jd bg nd : Addr} {ond ojd : Obj} {kvn : List (Int × Value)} {own : Led} {va vb : PySem.Str} {ta tb : Tok} {alo ahi blo bhi i c n : Nat} {u1 u2 u3 u4 ti v1 v2 v3 : Tok} {m : PySem.Str → Option Value} {h : Heap} {tk : Nat} {bi bj bs : Int}
    (hu : un + 16 < cLine) (B : Below (ktrTop dp un gd cn cs L₀ a ccd cl outer) base (envX cn cs L₀ a ccd cl :: outer) h₀) (X : (KK w.params).In h₀) (T : Top p loose mean mg mb h₀)
    (hi : alo ≤ i) (hic : va.cps.toList[i]? = some c) (hodn : ond.IsDictOf (PySem.intKind PR w) kvn) (hln : (nd == sysModules) = false) (hao : AllLt nd own)
    (F : Fr h₀ L h m) (N : News h₀ L h ((nd, ond) :: (bg, bmOf "dict.get" (.ref jd)) :: (jd, ojd) :: (nl, W.listOf #[] 0) :: own))
    (hc : ∀ p ∈ (Str.ofString "i", Value.int (i : Int) ti) :: (Str.ofString "newj2len", .ref nd) :: (Str.ofString "j2lenget", .ref bg) :: (bestF bi bj bs v1 v2 v3 ++ cstF va vb ta tb d bm nl alo ahi blo bhi u1 u2 u3 u4), m p.1 = some p.2)
    (hP : JPut va.cps.toList vb.cps.toList alo blo i (fun y => y ∈ (posN c vb.cps.toList).take n) (valueAt kvn)) (hF : FBest va.cps.toList vb.cps.toList alo blo (DnF c vb.cps.toList bhi i n) (-bs, bi, bj))
    (h1 : ∀ y ∈ (posN c vb.cps.toList).take n, y < bhi) (h2 : ∀ y, y < bhi → y ∈ posN c vb.cps.toList → y ∈ (posN c vb.cps.toList).take n)
    (hend : ∀ h' tk' m' nd ond kvn bi' bj' bs', Fr h₀ L h' m' → News h₀ L h' ((nd, ond) :: (nl, W.listOf #[] 0) :: own) → ond.IsDictOf (PySem.intKind PR w) kvn → (nd == sysModules) = false → AllLt nd own →
      (∃ v1 v2 v3, ∀ p ∈ (Str.ofString "j2len", Value.ref nd) :: (bestF bi' bj' bs' v1 v2 v3 ++ cstF va vb ta tb d bm nl alo ahi blo bhi u1 u2 u3 u4), m' p.1 = some p.2) →
      JGet va.cps.toList vb.cps.toList alo blo bhi (i + 1) (valueAt kvn) → FBest va.cps.toList vb.cps.toList alo blo (fun i' j' => i' < i + 1 ∧ j' < bhi) (-bs', bi', bj') → Post .next { s with heap := h', toks := tk' }) :
    wpAny (model PR w) ((ktrTop dp un gd cn cs L₀ a ccd cl outer).deeper (envF L)) (execs (outBodyF.drop 3) (envF L)) Post NoE { s with heap := h, toks := tk } := by
  unfold PR
  revert X
  k_fill
  intro X
  have hJ : JGet va.cps.toList vb.cps.toList alo blo bhi (i + 1) (valueAt kvn) := jget_of_put hP (fun j hj => by rw [hic]; exact (posN_mem.mp (List.mem_of_mem_take hj)).symm) (fun j hj e => h2 j hj (posN_mem.mpr (by rw [← e]; exact hic))) hi
  have hF2 := row_done hic hF h1 h2
  dsimp only [bestF, cstF, List.cons_append, List.nil_append] at hc hend
  replace F := fr_ovl hc F
  dsimp only [ovl] at F
  k_steps
  repeat (
    any_goals first
      | with_reducible (k_here; (with_reducible show wpAny _ _ (call (Value.builtin "dict.get") [Value.ref _, Value.str _ _, Value.ref _]) _ _ _); k_dflt (refine' get_base ?k1 ?k2 ?k3 ?k4 ?k5 ?_; (case k1 => k_asm); (case k2 | k3 | k4 | k5 => with_reducible assumption); k_whole))
      | (k_here; (with_reducible show wpAny _ _ (call (Value.builtin "dict.get") [Value.ref _, Value.str _ _, Value.ref _]) _ _ _); k_dflt (refine' get_base ?k1 ?k2 ?k3 ?k4 ?k5 ?_; (case k1 => k_asm); (case k2 | k3 | k4 | k5 => with_reducible assumption); k_whole))
      | with_reducible (k_here; (with_reducible show wpAny _ _ (getMethod (Value.ref _) (Str.ofString "get") _) _ _ _); k_dflt (refine' gm_base (knd := PySem.strKind _ _) ?k1 ?k2 ?k3 ?_; (case k1 => k_asm); (case k2 | k3 => with_reducible assumption); k_whole))
      | (k_here; (with_reducible show wpAny _ _ (getMethod (Value.ref _) (Str.ofString "get") _) _ _ _); k_dflt (refine' gm_base (knd := PySem.strKind _ _) ?k1 ?k2 ?k3 ?_; (case k1 => k_asm); (case k2 | k3 => with_reducible assumption); k_whole))
      | fail
    all_goals k_steps)
  with_reducible rename Fr _ _ _ _ => F1
  with_reducible rename News _ _ _ _ => N1
  exact hend _ _ _ _ _ _ bi bj bs F1 (fun p hp => N1 p (by
    rcases List.mem_cons.mp hp with rfl | hp
    · exact .head _
    · exact .tail _ (.tail _ (.tail _ hp)))) hodn hln hao ⟨_, _, _, (List.forall_mem_cons.mpr ⟨rfl, List.forall_mem_cons.mpr ⟨rfl, List.forall_mem_cons.mpr ⟨rfl, List.forall_mem_cons.mpr ⟨rfl, List.forall_mem_cons.mpr ⟨rfl, List.forall_mem_cons.mpr ⟨rfl, List.forall_mem_cons.mpr ⟨rfl, List.forall_mem_cons.mpr ⟨rfl, List.forall_mem_cons.mpr ⟨rfl, List.forall_mem_cons.mpr ⟨rfl, List.forall_mem_cons.mpr ⟨rfl, List.forall_mem_cons.mpr ⟨rfl, List.forall_mem_cons.mpr ⟨rfl, (fun _ h => nomatch h)⟩⟩⟩⟩⟩⟩⟩⟩⟩⟩⟩⟩⟩)⟩ hJ hF2
theorem outF {dp un : Nat} {gd : Option (List Code)} {cn : PySem.Str} {cs : Scope} {a : Addr} {ccd : Value} {cl : List (PySem.Str × Addr)} {outer : List Env} {base h₀ : Heap} {L L₀ : Addr} {s : Shared} {Post : Flow → Shared → Prop}
    {d bm nl jd : Addr} {od ojd : Obj} {es : List Ent} {ads : List Addr} {kvo : List (Int × Value)} {own : Led} {va vb : PySem.Str} {ta tb : Tok} {alo ahi blo bhi i c : Nat} {u1 u2 u3 u4 ti v1 v2 v3 : Tok} {m : PySem.Str → Option Value} {h : Heap} {tk : Nat} {bi bj bs : Int}
    (hu : un + 16 < cLine) (B : Below (ktrTop dp un gd cn cs L₀ a ccd cl outer) base (envX cn cs L₀ a ccd cl :: outer) h₀) (X : (KK w.params).In h₀) (T : Top p loose mean mg mb h₀)
    (hA : va.cps.size < 100) (hB : vb.cps.size < 100) (hi : alo ≤ i) (hb : bhi ≤ vb.cps.size) (hbb : blo ≤ bhi) (hic : va.cps.toList[i]? = some c)
    (hd : h₀.get? d = some od) (hes : ∀ e ∈ es, h₀.IsList e.2.1 e.2.2.1.toArray) (hE : Ents w ads od vb.cps.toList es) (hds : (d == sysModules) = false)
    (hodo : ojd.IsDictOf (PySem.intKind PR w) kvo) (hlo : (jd == sysModules) = false)
    (hJ : JGet va.cps.toList vb.cps.toList alo blo bhi i (valueAt kvo))
    (hF : FBest va.cps.toList vb.cps.toList alo blo (fun i' j' => i' < i ∧ j' < bhi) (-bs, bi, bj))
    (F : Fr h₀ L h m) (N : News h₀ L h ((jd, ojd) :: (nl, W.listOf #[] 0) :: own))
    (hc : ∀ p ∈ (Str.ofString "i", Value.int (i : Int) ti) :: (Str.ofString "j2len", .ref jd) :: (bestF bi bj bs v1 v2 v3 ++ cstF va vb ta tb d bm nl alo ahi blo bhi u1 u2 u3 u4), m p.1 = some p.2)
    (hend : ∀ h' tk' m' nd ond kvn bi' bj' bs', Fr h₀ L h' m' → News h₀ L h' ((nd, ond) :: (nl, W.listOf #[] 0) :: own) → ond.IsDictOf (PySem.intKind PR w) kvn → (nd == sysModules) = false → AllLt nd own →
      (∃ v1 v2 v3, ∀ p ∈ (Str.ofString "j2len", Value.ref nd) :: (bestF bi' bj' bs' v1 v2 v3 ++ cstF va vb ta tb d bm nl alo ahi blo bhi u1 u2 u3 u4), m' p.1 = some p.2) →
      JGet va.cps.toList vb.cps.toList alo blo bhi (i + 1) (valueAt kvn) → FBest va.cps.toList vb.cps.toList alo blo (fun i' j' => i' < i + 1 ∧ j' < bhi) (-bs', bi', bj') → Post .next { s with heap := h', toks := tk' }) :
    wpAny (model PR w) ((ktrTop dp un gd cn cs L₀ a ccd cl outer).deeper (envF L)) (execs outBodyF (envF L)) Post NoE { s with heap := h, toks := tk } := by
  unfold PR
  revert X
  k_fill
  intro X
  have hdic := hE.dict
  have hend0 := hend
  dsimp only [bestF, cstF, List.cons_append, List.nil_append] at hc hend
  replace F := fr_ovl hc F
  dsimp only [ovl] at F
  have hcl : va.cps[((i : Nat) : Int).toNat]? = some c := by simpa using hic
  cases hv : valueAt (es.map entKv) (⟨#[c]⟩ : PySem.Str) with
  | none =>
    have hv2 : (valueAt (es.map entKv) (⟨#[c]⟩ : PySem.Str)).getD (.ref nl) = .ref nl := by rw [hv]; rfl
    k_steps
    repeat (
      any_goals first
        | with_reducible (k_here; (with_reducible show wpAny _ _ (call (Value.builtin "dict.get") [Value.ref _, Value.str _ _, Value.ref _]) _ _ _); k_dflt (refine' get_base ?k1 ?k2 ?k3 ?k4 ?k5 ?_; (case k1 => k_asm); (case k2 | k3 | k4 | k5 => with_reducible assumption); k_whole))
        | (k_here; (with_reducible show wpAny _ _ (call (Value.builtin "dict.get") [Value.ref _, Value.str _ _, Value.ref _]) _ _ _); k_dflt (refine' get_base ?k1 ?k2 ?k3 ?k4 ?k5 ?_; (case k1 => k_asm); (case k2 | k3 | k4 | k5 => with_reducible assumption); k_whole))
        | with_reducible (k_here; (with_reducible show wpAny _ _ (getMethod (Value.ref _) (Str.ofString "get") _) _ _ _); k_dflt (refine' gm_base (knd := PySem.strKind _ _) ?k1 ?k2 ?k3 ?_; (case k1 => k_asm); (case k2 | k3 => with_reducible assumption); k_whole))
        | (k_here; (with_reducible show wpAny _ _ (getMethod (Value.ref _) (Str.ofString "get") _) _ _ _); k_dflt (refine' gm_base (knd := PySem.strKind _ _) ?k1 ?k2 ?k3 ?_; (case k1 => k_asm); (case k2 | k3 => with_reducible assumption); k_whole))
        | fail
      all_goals k_steps)
    unfold Stop
    with_reducible rename Fr _ _ _ _ => F1
    with_reducible rename News _ _ _ _ => N1
    with_reducible rename Heap => h9
    with_reducible rename (_ == sysModules) = false => hln
    with_reducible rename Obj.IsDictOf (PySem.intKind _ _) _ _ => hdn
    with_reducible rename _ ∧ _ ∧ _ ∧ AllLt _ own => hord
    obtain ⟨nd, ond, bg, m1, F1, N1, hdn, hln, hord, hc1⟩ : ∃ (nd : Addr) (ond : Obj) (bg : Addr) (m1 : PySem.Str → Option Value), Fr h₀ L h9 m1 ∧ News h₀ L h9 ((nd, ond) :: (bg, bmOf "dict.get" (.ref jd)) :: (jd, ojd) :: (nl, W.listOf #[] 0) :: own) ∧ Obj.IsDictOf (PySem.intKind PR w) ond [] ∧ (nd == sysModules) = false ∧
      (@LT.lt Nat _ bg nd ∧ @LT.lt Nat _ jd nd ∧ @LT.lt Nat _ nl nd ∧ AllLt nd own) ∧ ∀ p ∈ (Str.ofString "i", Value.int (i : Int) ti) :: (Str.ofString "newj2len", .ref nd) :: (Str.ofString "j2lenget", .ref bg) :: (bestF bi bj bs v1 v2 v3 ++ cstF va vb ta tb d bm nl alo ahi blo bhi u1 u2 u3 u4), m1 p.1 = some p.2 :=
      ⟨_, _, _, _, F1, N1, hdn, hln, hord, (List.forall_mem_cons.mpr ⟨rfl, List.forall_mem_cons.mpr ⟨rfl, List.forall_mem_cons.mpr ⟨rfl, List.forall_mem_cons.mpr ⟨rfl, List.forall_mem_cons.mpr ⟨rfl, List.forall_mem_cons.mpr ⟨rfl, List.forall_mem_cons.mpr ⟨rfl, List.forall_mem_cons.mpr ⟨rfl, List.forall_mem_cons.mpr ⟨rfl, List.forall_mem_cons.mpr ⟨rfl, List.forall_mem_cons.mpr ⟨rfl, List.forall_mem_cons.mpr ⟨rfl, List.forall_mem_cons.mpr ⟨rfl, List.forall_mem_cons.mpr ⟨rfl, List.forall_mem_cons.mpr ⟨rfl, (fun _ h => nomatch h)⟩⟩⟩⟩⟩⟩⟩⟩⟩⟩⟩⟩⟩⟩⟩)⟩
    refine iterE rfl F1 N1 (.tail _ (.tail _ (.tail _ (.head _)))) ?_
    intro h2 tk2 F2 N2
    exact afterF (n := 0) (c := c) (kvn := []) (ti := ti) (v1 := v1) (v2 := v2) (v3 := v3) hu B X T hi hic hdn hln hord.2.2.2 F2 N2 hc1 (jput_start (fun _ => rfl) (fun j hj => by simp at hj)) (row_start hF) (fun y hy => by simp at hy) (fun y _ hy => absurd (posN_mem.mp hy) (ents_none hE hv y)) hend0
  | some v =>
    obtain ⟨e1, e2, la, us, n0, rfl, rfl⟩ := ents_there hE hv
    have hl : h₀.IsList la us.toArray := hes (c, la, us, n0) (List.mem_append_right _ (.head _))
    have hus : IntsAre us (posL c vb.cps.toList) := hE.lsts (c, la, us, n0) (List.mem_append_right _ (.head _))
    have hul : us.length = (posN c vb.cps.toList).length := by rw [hus.length, posL_posN, List.length_map]
    have hpl : (posN c vb.cps.toList).length < 100 := by
      have := posL_len c vb.cps.toList
      rw [posL_posN, List.length_map] at this
      have hz : vb.cps.toList.length = vb.cps.size := by simp
      (first | lia | omega)
    generalize (e1 ++ (c, la, us, n0) :: e2).map entKv = kvs at hv hdic
    have hv2 : (valueAt kvs (⟨#[c]⟩ : PySem.Str)).getD (.ref nl) = .ref la := by rw [hv]; rfl
    clear hE hes
    k_steps
    repeat (
      any_goals first
        | with_reducible (k_here; (with_reducible show wpAny _ _ (call (Value.builtin "dict.get") [Value.ref _, Value.str _ _, Value.ref _]) _ _ _); k_dflt (refine' get_base ?k1 ?k2 ?k3 ?k4 ?k5 ?_; (case k1 => k_asm); (case k2 | k3 | k4 | k5 => with_reducible assumption); k_whole))
        | (k_here; (with_reducible show wpAny _ _ (call (Value.builtin "dict.get") [Value.ref _, Value.str _ _, Value.ref _]) _ _ _); k_dflt (refine' get_base ?k1 ?k2 ?k3 ?k4 ?k5 ?_; (case k1 => k_asm); (case k2 | k3 | k4 | k5 => with_reducible assumption); k_whole))
        | with_reducible (k_here; (with_reducible show wpAny _ _ (getMethod (Value.ref _) (Str.ofString "get") _) _ _ _); k_dflt (refine' gm_base (knd := PySem.strKind _ _) ?k1 ?k2 ?k3 ?_; (case k1 => k_asm); (case k2 | k3 => with_reducible assumption); k_whole))
        | (k_here; (with_reducible show wpAny _ _ (getMethod (Value.ref _) (Str.ofString "get") _) _ _ _); k_dflt (refine' gm_base (knd := PySem.strKind _ _) ?k1 ?k2 ?k3 ?_; (case k1 => k_asm); (case k2 | k3 => with_reducible assumption); k_whole))
        | fail
      all_goals k_steps)
    unfold Stop
    with_reducible rename Fr _ _ _ _ => F1
    with_reducible rename News _ _ _ _ => N1
    with_reducible rename Heap => h9
    with_reducible rename (_ == sysModules) = false => hln
    with_reducible rename Obj.IsDictOf (PySem.intKind _ _) _ _ => hdn
    with_reducible rename _ ∧ _ ∧ _ ∧ AllLt _ own => hord
    obtain ⟨nd, ond, bg, m1, F1, N1, hdn, hln, hord, hc1⟩ : ∃ (nd : Addr) (ond : Obj) (bg : Addr) (m1 : PySem.Str → Option Value), Fr h₀ L h9 m1 ∧ News h₀ L h9 ((nd, ond) :: (bg, bmOf "dict.get" (.ref jd)) :: (jd, ojd) :: (nl, W.listOf #[] 0) :: own) ∧ Obj.IsDictOf (PySem.intKind PR w) ond [] ∧ (nd == sysModules) = false ∧
      (@LT.lt Nat _ bg nd ∧ @LT.lt Nat _ jd nd ∧ @LT.lt Nat _ nl nd ∧ AllLt nd own) ∧ ∀ p ∈ (Str.ofString "i", Value.int (i : Int) ti) :: (Str.ofString "newj2len", .ref nd) :: (Str.ofString "j2lenget", .ref bg) :: (bestF bi bj bs v1 v2 v3 ++ cstF va vb ta tb d bm nl alo ahi blo bhi u1 u2 u3 u4), m1 p.1 = some p.2 :=
      ⟨_, _, _, _, F1, N1, hdn, hln, hord, (List.forall_mem_cons.mpr ⟨rfl, List.forall_mem_cons.mpr ⟨rfl, List.forall_mem_cons.mpr ⟨rfl, List.forall_mem_cons.mpr ⟨rfl, List.forall_mem_cons.mpr ⟨rfl, List.forall_mem_cons.mpr ⟨rfl, List.forall_mem_cons.mpr ⟨rfl, List.forall_mem_cons.mpr ⟨rfl, List.forall_mem_cons.mpr ⟨rfl, List.forall_mem_cons.mpr ⟨rfl, List.forall_mem_cons.mpr ⟨rfl, List.forall_mem_cons.mpr ⟨rfl, List.forall_mem_cons.mpr ⟨rfl, List.forall_mem_cons.mpr ⟨rfl, List.forall_mem_cons.mpr ⟨rfl, (fun _ h => nomatch h)⟩⟩⟩⟩⟩⟩⟩⟩⟩⟩⟩⟩⟩⟩⟩)⟩
    refine iterL (fun n m nx => ∃ ond kvn bi bj bs v1 v2 v3, nx = (nd, ond) :: (bg, bmOf "dict.get" (.ref jd)) :: (jd, ojd) :: (nl, W.listOf #[] 0) :: own ∧ ond.IsDictOf (PySem.intKind PR w) kvn ∧ kvn.length ≤ n ∧
      (∀ p ∈ (Str.ofString "i", Value.int (i : Int) ti) :: (Str.ofString "newj2len", .ref nd) :: (Str.ofString "j2lenget", .ref bg) :: (bestF bi bj bs v1 v2 v3 ++ cstF va vb ta tb d bm nl alo ahi blo bhi u1 u2 u3 u4), m p.1 = some p.2) ∧
      JPut va.cps.toList vb.cps.toList alo blo i (fun y => y ∈ (posN c vb.cps.toList).take n) (valueAt kvn) ∧ FBest va.cps.toList vb.cps.toList alo blo (DnF c vb.cps.toList bhi i n) (-bs, bi, bj) ∧ ∀ y ∈ (posN c vb.cps.toList).take n, y < bhi)
      rfl hl F1 N1 ⟨ond, [], bi, bj, bs, v1, v2, v3, rfl, hdn, Nat.le_refl _, hc1, jput_start (fun _ => rfl) (fun j hj => by simp at hj), row_start hF, fun y hy => by simp at hy⟩ ?_ ?_
    · rintro n v m₁ _ h₂ tk₂ own₂ hvn hoff ⟨ond₁, kvn₁, bi₁, bj₁, bs₁, w1, w2, w3, rfl, hd₁, hlen₁, hc₂, hP₁, hF₁, hlt₁⟩ F2 N2
      have hnu : n < us.length := by
        have := (Array.getElem?_eq_some_iff.mp hvn).1
        rwa [List.size_toArray] at this
      obtain ⟨j, hnj⟩ : ∃ j, (posN c vb.cps.toList)[n]? = some j := ⟨_, List.getElem?_eq_getElem (by (first | lia | omega))⟩
      have hpj : (posL c vb.cps.toList)[n]? = some (j : Int) := by rw [posL_posN, List.getElem?_map, hnj]; rfl
      obtain ⟨t, ht⟩ := IntsAre.get hus n _ hpj
      obtain rfl : v = .int (j : Int) t := by simpa [ht] using hvn.symm
      have hij : va.cps.toList[i]? = vb.cps.toList[j]? := by rw [hic, posN_mem.mp (List.mem_of_getElem? hnj)]
      have hupd : ∀ p ∈ ((bg, bmOf "dict.get" (.ref jd)) :: (jd, ojd) :: ((nl, W.listOf #[] 0) :: own ++ own₂)), p.1 ≠ nd := by
        intro p hp
        rcases List.mem_cons.mp hp with rfl | hp
        · exact Nat.ne_of_lt hord.1
        rcases List.mem_cons.mp hp with rfl | hp
        · exact Nat.ne_of_lt hord.2.1
        rcases List.mem_append.mp hp with hp | hp
        · rcases List.mem_cons.mp hp with rfl | hp
          · exact Nat.ne_of_lt hord.2.2.1
          · exact Nat.ne_of_lt (lt_of_allLt _ hord.2.2.2 p hp)
        · exact hoff p hp nd (.head _)
      refine inF (own := (nl, W.listOf #[] 0) :: own ++ own₂) (m := fun y => if y = Str.ofString "j" then some (.int (j : Int) t) else m₁ y) (P := fun y => y ∈ (posN c vb.cps.toList).take n) (P' := fun y => y ∈ (posN c vb.cps.toList).take (n + 1)) (D := DnF c vb.cps.toList bhi i n) (D' := DnF c vb.cps.toList bhi i (n + 1)) (j := j) (tj := t) (ti := ti) (v1 := w1) (v2 := w2) (v3 := w3) (ta := ta) (tb := tb) (d := d) (bm := bm) (nl := nl) (ahi := ahi) (u1 := u1) (u2 := u2) (u3 := u3) (u4 := u4)
        hu B X T hA hB hi hb hd₁ hodo hlo hln (by rw [sizeLine_eq]; (first | lia | omega)) hupd hJ hP₁ (fun y => take_next hnj) hF₁ (row_before hnj) (fun i' j' _ => row_next hnj i' j') hij F2 N2 ?hc ?hcont ?hbrk ?hnext
      case hc => exact (List.forall_mem_cons.mpr ⟨rfl, (List.forall_mem_cons.mpr ⟨hc₂ _ (.head _), List.forall_mem_cons.mpr ⟨hc₂ _ (.tail _ (.head _)), List.forall_mem_cons.mpr ⟨hc₂ _ (.tail _ (.tail _ (.head _))), List.forall_mem_cons.mpr ⟨hc₂ _ (.tail _ (.tail _ (.tail _ (.head _)))), List.forall_mem_cons.mpr ⟨hc₂ _ (.tail _ (.tail _ (.tail _ (.tail _ (.head _))))), List.forall_mem_cons.mpr ⟨hc₂ _ (.tail _ (.tail _ (.tail _ (.tail _ (.tail _ (.head _)))))), List.forall_mem_cons.mpr ⟨hc₂ _ (.tail _ (.tail _ (.tail _ (.tail _ (.tail _ (.tail _ (.head _))))))), List.forall_mem_cons.mpr ⟨hc₂ _ (.tail _ (.tail _ (.tail _ (.tail _ (.tail _ (.tail _ (.tail _ (.head _)))))))), List.forall_mem_cons.mpr ⟨hc₂ _ (.tail _ (.tail _ (.tail _ (.tail _ (.tail _ (.tail _ (.tail _ (.tail _ (.head _))))))))), List.forall_mem_cons.mpr ⟨hc₂ _ (.tail _ (.tail _ (.tail _ (.tail _ (.tail _ (.tail _ (.tail _ (.tail _ (.tail _ (.head _)))))))))), List.forall_mem_cons.mpr ⟨hc₂ _ (.tail _ (.tail _ (.tail _ (.tail _ (.tail _ (.tail _ (.tail _ (.tail _ (.tail _ (.tail _ (.head _))))))))))), List.forall_mem_cons.mpr ⟨hc₂ _ (.tail _ (.tail _ (.tail _ (.tail _ (.tail _ (.tail _ (.tail _ (.tail _ (.tail _ (.tail _ (.tail _ (.head _)))))))))))), List.forall_mem_cons.mpr ⟨hc₂ _ (.tail _ (.tail _ (.tail _ (.tail _ (.tail _ (.tail _ (.tail _ (.tail _ (.tail _ (.tail _ (.tail _ (.tail _ (.head _))))))))))))), List.forall_mem_cons.mpr ⟨hc₂ _ (.tail _ (.tail _ (.tail _ (.tail _ (.tail _ (.tail _ (.tail _ (.tail _ (.tail _ (.tail _ (.tail _ (.tail _ (.tail _ (.head _)))))))))))))), List.forall_mem_cons.mpr ⟨hc₂ _ (.tail _ (.tail _ (.tail _ (.tail _ (.tail _ (.tail _ (.tail _ (.tail _ (.tail _ (.tail _ (.tail _ (.tail _ (.tail _ (.tail _ (.head _))))))))))))))), (fun _ h => nomatch h)⟩⟩⟩⟩⟩⟩⟩⟩⟩⟩⟩⟩⟩⟩⟩)⟩)
      case hcont =>
        intro h' tk' m' hjb F3 hc3 N3
        show TurnEnd _ _ _ _ _ _
        refine TurnEnd.intro ((nd, ond₁) :: (bg, bmOf "dict.get" (.ref jd)) :: (jd, ojd) :: (nl, W.listOf #[] 0) :: own) F3 N3 (fun p hp => List.mem_append_left own₂ hp) (fun p hp => List.mem_append_right ((nd, ond₁) :: (bg, bmOf "dict.get" (.ref jd)) :: (jd, ojd) :: (nl, W.listOf #[] 0) :: own) hp) hoff ?_
        exact ⟨ond₁, kvn₁, bi₁, bj₁, bs₁, w1, w2, w3, rfl, hd₁, by (first | lia | omega), hc3, jput_skip hP₁ hjb (fun y => take_next hnj), row_skip hnj hjb hF₁, fun y hy => by
          rcases (take_next hnj).mp hy with h | rfl
          · exact hlt₁ y h
          · (first | lia | omega)⟩
      case hbrk =>
        intro h' tk' m' hjb F3 hc3 N3
        exact afterF (n := n) (c := c) hu B X T hi hic hd₁ hln hord.2.2.2 F3 (fun p hp => N3 p (List.mem_append_left own₂ hp)) hc3 hP₁ hF₁ hlt₁ (fun y hy hm => mem_take (posN_sorted _ _) hnj hm (by (first | lia | omega))) hend0
      case hnext =>
        rintro h' tk' m' ond' kvn' bi' bj' bs' hjb F3 N3 hd3 hl3 ⟨x1, x2, x3, hc3⟩ hP3 hF3
        show TurnEnd _ _ _ _ _ _
        refine TurnEnd.intro ((nd, ond') :: (bg, bmOf "dict.get" (.ref jd)) :: (jd, ojd) :: (nl, W.listOf #[] 0) :: own) F3 N3 (fun p hp => List.mem_append_left own₂ hp) (fun p hp => List.mem_append_right ((nd, ond') :: (bg, bmOf "dict.get" (.ref jd)) :: (jd, ojd) :: (nl, W.listOf #[] 0) :: own) hp) hoff ?_
        exact ⟨ond', kvn', bi', bj', bs', x1, x2, x3, rfl, hd3, by (first | lia | omega), hc3, hP3, hF3, fun y hy => by
          rcases (take_next hnj).mp hy with h | rfl
          · exact hlt₁ y h
          · (first | lia | omega)⟩
    · rintro m₁ _ h₂ tk₂ ⟨ond₁, kvn₁, bi₁, bj₁, bs₁, w1, w2, w3, rfl, hd₁, hlen₁, hc₂, hP₁, hF₁, hlt₁⟩ F2 N2
      exact afterF (c := c) hu B X T hi hic hd₁ hln hord.2.2.2 F2 N2 hc₂ hP₁ hF₁ hlt₁ (fun y hy hm => by
        rw [List.take_of_length_le (by rw [List.size_toArray]; (first | lia | omega))]; exact hm) hend0
end
end Mine
end

-- Mt1
section
open PySem PySem.W PyProof.Rows PySem.Calls
set_option maxRecDepth 100000
set_option maxHeartbeats 1000000
namespace Mine
/-- what must be known of a class over tuple that has its own __new__ -/
structure TupCls (M : Model) (h : Heap) (C : Addr) : Prop where
  obj : ∃ oc od cd sl, h.get? C = some ⟨oc, od, .cls cd, sl⟩ ∧ cd.hasDel = false ∧ cd.mro = [.ref C, .type "tuple", .type "object"]
  made : Looks M h (Bind.madeBy (.ref C)) none
  base : Looks M h (Bind.staticBase (.ref C)) (.type "tuple")
  self : Looks M h (isSubtype (.ref C) (.ref C)) true
  tup : Looks M h (isSubtype (.ref C) (.type "tuple")) true
  top : Looks M h (isSubtype (.ref C) (.type "object")) true
  call : Looks M h (specialOf (.ref C) "__call__") (some (.builtin "type.__call__"))
  typ : Looks M h (isInstance (.ref C) (.type "type")) true
  init : Looks M h (typeLookup (.ref C) "__init__") (some (.builtin "object.__init__"))
noncomputable def tupIn (K : Frag) (C : Addr) : Bool := match K.lookup C with
  | some ⟨_, _, .cls cd, sl⟩ => !cd.hasDel && (sl.toList[4]?).join == some .none && cd.mro == [.ref C, .type "tuple", .type "object"] && cd.bases == [.type "tuple"] &&
      specialIn K (.ref C) "__call__" == some (some (.builtin "type.__call__")) && instIn K (.ref C) (.type "type") == some true && findIn K (.ref C) "__init__" == some (some (.builtin "object.__init__"))
  | _ => false
theorem tup_of {K : Frag} {M : Model} {h : Heap} (X : K.In h) {C : Addr} (e : tupIn K C = true) : TupCls M h C := by
  unfold tupIn at e
  split at e
  · rename_i oc od cd sl ho
    simp only [Bool.and_eq_true, Bool.not_eq_true', beq_iff_eq] at e
    obtain ⟨⟨⟨⟨⟨⟨e1, e2⟩, e3⟩, e4⟩, e5⟩, e6⟩, e7⟩ := e
    have hc : clsIn K C = some cd := by unfold clsIn; rw [ho]
    have hm : Looks M h (mroOf (.ref C)) cd.mro := (looks_clsIn X hc).andThen .now
    have hcd : Looks M h (classData C) cd := looks_clsIn X hc
    have made : Looks M h (Bind.madeBy (.ref C)) none := by
      intro A Q E s k q
      unfold Bind.madeBy
      refine wpAny_bind (hm A _ E s k ?_)
      rw [e3, List.forIn_cons]
      refine wpAny_bind (wpAny_bind (wpAny_bind (wpAny_bind (wpAny_loadPart (k _ _ (X _ _ ho)) (wpAny_pure ?_)))))
      dsimp only
      rw [← Array.getElem?_toList, e2]
      exact wpAny_pure (wpAny_pure (wpAny_pure q))
    have hbb : Builtin.Slots.bestBase [.type "tuple"] = pure (.type "tuple") := by first | rfl | kernel_rfl
    have base : Looks M h (Bind.staticBase (.ref C)) (.type "tuple") := by
      intro A Q E s k q
      unfold Bind.staticBase
      refine wpAny_bind (hm A _ E s k ?_)
      rw [e3, List.forIn_cons]
      refine wpAny_bind (wpAny_bind (wpAny_bind (made A _ E s k ?_)))
      rw [if_neg (by decide)]
      dsimp only
      refine wpAny_bind (hcd A _ E s k ?_)
      rw [e4, hbb]
      refine wpAny_bind (wpAny_pure (wpAny_pure ?_))
      dsimp only
      rw [List.forIn_cons]
      dsimp only
      rw [PySem.F.called_tuple.made]
      refine wpAny_bind (wpAny_bind (wpAny_pure ?_))
      rw [if_pos (by decide)]
      exact wpAny_pure (wpAny_pure (wpAny_pure q))
    refine ⟨⟨oc, od, cd, sl, X _ _ ho, e1, e3⟩, made, base, looks_mroIn X ?_, looks_mroIn X ?_, looks_mroIn X ?_, looks_specialIn X e5, looks_instIn X e6, looks_findIn X e7⟩
    · unfold mroIn; rw [hc, Option.bind_some, e3]; simp
    · unfold mroIn; rw [hc, Option.bind_some, e3]; simp
    · unfold mroIn; rw [hc, Option.bind_some, e3]; simp
  · cases e
noncomputable def sgTnew : Manifest.Signature := ((Manifest.signature? "tuple.__new__").getD ⟨.hand, "", "", .none, []⟩)
theorem sg_tnew : Manifest.signature? "tuple.__new__" = some sgTnew := by kernel_rfl
theorem kd_tnew : builtinKind "tuple.__new__" = some .builtinFn := by decide +kernel
theorem sp_tnew : splitId "tuple.__new__" = some ("tuple", "__new__") := by decide +kernel
section
variable {prog : Program} {w : World} {A : Around} {E : Value → Shared → Prop} {s : Shared} {C T : Addr} {items : Array Value}
/-- tuple.__new__ of such a class and a tuple -/
theorem tnew_tree {P : Fin → Shared → Prop} (Y : TupCls (model prog w) s.heap C) (ht : s.heap.IsTuple T items) (hsz : items.size ≤ sizeLine)
    (h : ∀ h' : Heap, (∀ b o', s.heap.get? b = some o' → h'.get? b = some o') → P (.done (.ret (.ref (h'.objs.size + 1)))) { s with heap := (h'.push { cls := .type "dict", data := .dict #[] }).push { cls := .ref C, dict := some h'.objs.size, data := .seq items } }) :
    wpAny (model prog w) A (Builtin.«tuple.__new__» ⟨[.ref C, .ref T], []⟩) P E s := by
  obtain ⟨hh, g, d, t, os⟩ := s
  obtain ⟨⟨oc, od, cd, sl, hC, e1, e3⟩, made, base, self, tup, top, call, typ, init⟩ := Y
  obtain ⟨o, ho, hoc, n, hod⟩ := ht
  have hmb : Looks (model prog w) hh (Bind.madeBy (.type "tuple")) (some "tuple.__new__") := Looks.of_pure PySem.F.called_tuple.made
  have here : Looks (model prog w) hh (Bind.madeHere "tuple.__new__" (.ref C)) () := base.andThen (hmb.andThen (Looks.of_pure (by simp only [Option.map_some, bne_self_eq_false, Bool.false_eq_true, if_false])))
  unfold Builtin.«tuple.__new__»
  repeat (first | with_reducible refine Looks.at (by assumption) ?_ | with_reducible refine wpAny_collect_seq (hsz := hsz) T (.inr rfl) ho hoc hod ?_ | lk)
  intro h' k'
  dsimp only
  have hC' := k' _ _ hC
  refine wpAny_bind (wpAny_pure ?_)
  refine wpAny_bind (wpAny_alloc ?_)
  refine wpAny_bind ?_
  unfold newObj
  dsimp only
  rw [Array.toArray_toList, if_neg (by (first | lia | omega))]
  unfold newObjAsIs classHasDel
  refine wpAny_bind (wpAny_alloc (wpAny_bind (wpAny_bind (wpAny_load (Heap.get?_push_of_some _ (Heap.get?_push_of_some _ hC')) (wpAny_pure ?_)))))
  dsimp only
  rw [e1, if_neg (by decide)]
  refine wpAny_pure (wpAny_pure ?_)
  rw [Heap.size_push]
  exact h h' k'
theorem check_tnew {Q : Unit → Shared → Prop} {a : Value} (Y : TupCls (model prog w) s.heap C) (q : Q () s) : wpAny (model prog w) A (checkBuiltinCall "tuple.__new__" ⟨[.ref C, a], []⟩) Q E s := by
  obtain ⟨hh, g, d, t, os⟩ := s
  obtain ⟨⟨oc, od, cd, sl, hC, e1, e3⟩, made, base, self, tup, top, call, typ, init⟩ := Y
  have ck : Bind.checkArgs "tuple.__new__" sgTnew ⟨[.ref C, a], []⟩ = pure () := by kernel_rfl
  have hmb : Looks (model prog w) hh (Bind.madeBy (.type "tuple")) (some "tuple.__new__") := Looks.of_pure PySem.F.called_tuple.made
  have hm : Looks (model prog w) hh (mroOf (.ref C)) cd.mro := ((Looks.ld (part := none) hC).andThen .now).andThen .now
  simp only [checkBuiltinCall, kd_tnew, sp_tnew, sg_tnew]
  rw [ck]
  repeat (first | simp only [bne_self_eq_false, Bool.false_eq_true, if_false] | with_reducible refine Looks.at (by assumption) ?_ | lk)
  exact q
/-- the call of tuple.__new__ -/
theorem call_tnew {Q : Value → Shared → Prop} (Y : TupCls (model prog w) s.heap C) (ht : s.heap.IsTuple T items) (hsz : items.size ≤ sizeLine)
    (h : ∀ h' : Heap, (∀ b o', s.heap.get? b = some o' → h'.get? b = some o') → Q (.ref (h'.objs.size + 1)) { s with heap := (h'.push { cls := .type "dict", data := .dict #[] }).push { cls := .ref C, dict := some h'.objs.size, data := .seq items } }) :
    wpAny (model prog w) A (call (.builtin "tuple.__new__") [.ref C, .ref T]) Q E s := by
  refine wpAny_call (codeAny_call_builtin (by decide +kernel) PySem.F.entry_tuple_new (check_tnew Y ?_))
  exact tnew_tree Y ht hsz h
theorem oi_args4 (a b c d : Value) : argsOk "object.__init__" ⟨[a, b, c, d], []⟩ := by unfold argsOk; kernel_rfl
/-- object.__init__ of an instance of such a class: more arguments are let pass -/
theorem oi_tree {P : Fin → Shared → Prop} {x : Addr} {o : Obj} {a b c : Value} (Y : TupCls (model prog w) s.heap C) (hx : s.heap.get? x = some o) (hc : o.cls = .ref C) (h : P (.done (.ret .none)) s) :
    wpAny (model prog w) A (Builtin.«object.__init__» ⟨[.ref x, a, b, c], []⟩) P E s := by
  obtain ⟨hh, g, d, t, os⟩ := s
  obtain ⟨⟨oc, od, cd, sl, hC, e1, e3⟩, made, base, self, tup, top, call, typ, init⟩ := Y
  obtain ⟨ocl, odi, oda, osl⟩ := o
  dsimp only at hc
  subst hc
  have t1 : Looks (model prog w) hh (typeOf (.ref x)) (.ref C) := (Looks.ld hx).andThen .now
  unfold Builtin.«object.__init__»
  repeat (first | simp only [bne_self_eq_false, Bool.false_eq_true, if_false] | with_reducible refine Looks.at (by assumption) ?_ | lk)
  exact h
noncomputable def NewBack (K : Frag) (C : Addr) (Q E : Value → Shared → Prop) (r : Result) (s' : Shared) : Prop := match r with
  | .ok (.ret (.ref x)) => K.In s'.heap ∧ (∃ o, s'.heap.get? x = some o ∧ o.cls = .ref C) ∧ Q (.ref x) s'
  | .ok _ => False
  | .error e => E e s'
theorem call_tup {K : Frag} {h₀ : Heap} {L : Addr} {m : PySem.Str → Option Value} {mc : Value} {p fN : Addr} {rest : List Value} {a b c : Value} {Q : Value → Shared → Prop} (F : Fr h₀ L s.heap m) (X₀ : K.In h₀) (ht : tupIn K C = true)
    (hm : typeIn K (.ref C) = some mc) (hr : readsIn K C mc = true) (e : findCls K (.ref C) mc "__new__" = some (.get (.builtin "staticmethod.__get__") (.ref p) .none (.ref C))) (hp : recIn K p "staticmethod" = some (.ref fN :: rest)) (hv : handedIn (.ref fN) = true)
    (hq : codeAny (model prog w) (A.under (.builtin "type.__call__" ⟨[.ref C, a, b, c], []⟩)) (.call (.ref fN) ⟨[.ref C, a, b, c], []⟩) (NewBack K C Q E) { s with toks := s.toks + 1 }) :
    wpAny (model prog w) A (call (.ref C) [a, b, c]) Q E s := by
  have Y := tup_of (M := model prog w) (X₀.keeps F.keep) ht
  have ga : ∀ {A' : Around} {Q' E' : Value → Shared → Prop}, Q' (.ref fN) { s with toks := s.toks + 1 } → wpAny (model prog w) A' (getAttr (.ref C) "__new__") Q' E' s := fun h => cls_sm F X₀ hm hr e hp hv h
  obtain ⟨hh, g, d, t, os⟩ := s
  obtain ⟨⟨oc, od, cd, sl, hC, e1, e3⟩, made, base, self, tup, top, call, typ, init⟩ := Y
  refine wpAny_call (codeAny_of_tree ?_)
  show wpAny _ _ (callAny (.ref C) _) _ _ _
  refine nd_load hC ?_
  show wpAny _ _ (callAny.viaDunder (.ref C) _) _ _ _
  unfold callAny.viaDunder
  refine wpAny_bind (call.at ?_)
  dsimp only
  rw [tc_bind]
  refine wpAny_bind (wpAny_pure (wpAny_bind (wpAny_pure ?_)))
  refine wpAny_pure (a := Fin.again (.call (.builtin "type.__call__") ⟨[.ref C, a, b, c], []⟩)) (And.intro rfl ?_)
  refine codeAny_call_builtin_at (Code.quiet_builtin _ (by decide +kernel)) entry_typeCall (check_slot tc_kind tc_split typ (tc_args _ _ _) ?_)
  unfold Builtin.«type.__call__»
  have hmr : Looks (model prog w) hh (mroOf (.ref C)) cd.mro := ((Looks.ld (part := none) hC).andThen .now).andThen .now
  have hne : cd.mro.isEmpty = false := by rw [e3]; rfl
  repeat (first | simp only [hne, Bool.false_eq_true, if_false] | with_reducible refine ga ?_ | with_reducible refine wpAny_call ?_ | lk)
  refine codeAny_mono hq fun r s' z => ?_
  have hz : ∃ x, r = .ok (.ret (.ref x)) ∨ ∃ er, r = .error er := by
    unfold NewBack at z
    split at z
    · exact ⟨_, .inl rfl⟩
    · exact z.elim
    · exact ⟨0, .inr ⟨_, rfl⟩⟩
  obtain ⟨x, rfl | ⟨er, rfl⟩⟩ := hz
  case inr => exact z
  obtain ⟨X', ⟨o, hx, hoc⟩, hQ⟩ := z
  have Y' := tup_of (M := model prog w) X' ht
  have Y2 := Y'
  obtain ⟨hh', g', d', t', os'⟩ := s'
  obtain ⟨⟨oc', od', cd', sl', hC', e1', e3'⟩, made', base', self', tup', top', call', typ', init'⟩ := Y'
  have hx0 := hx
  obtain ⟨ocl, odi, oda, osl⟩ := o
  dsimp only at hoc
  subst hoc
  have t1 : Looks (model prog w) hh' (typeOf (.ref x)) (.ref C) := (Looks.ld hx).andThen .now
  have t2 : Looks (model prog w) hh' (isInstance (.ref x) (.type "object")) true := t1.andThen top'
  have ob : Looks (model prog w) hh' (bindSpecial (.builtin "object.__init__") (.ref x)) (.builtin "object.__init__", [.ref x]) := Looks.of_pure (oi_bind (.ref x))
  unfold isInstance callSpecial? specialOf
  repeat (first | with_reducible refine wpAny_call ?_ | lk)
  refine codeAny_call_builtin oi_plain entry_oi (@check_slot (model prog w) _ _ _ "object.__init__" "object" "__init__" (.ref x) [a, b, c] [] _ oi_kind oi_split t2 (oi_args4 _ _ _ _) ?_)
  refine oi_tree Y2 hx0 rfl ?_
  exact wpAny_pure (wpAny_pure hQ)
end
theorem tup135 (P : Params) : tupIn (KK P) 135 = true := by kernel_rfl
end Mine
end

-- Mt2
section
open PySem PySem.W PyProof.Rows PySem.Calls
set_option maxRecDepth 100000
set_option maxHeartbeats 0
namespace Mine
section
variable {w : World} {p : Program} {loose : List Str} {mean : MeanT} {mg mb : Str → Option Value}

noncomputable def matchOb (dx : Addr) (bi bj bs : Int) (v1 v2 v3 : Tok) : Obj := { cls := .ref 135, dict := some dx, data := .seq #[.int bi v1, .int bj v2, .int bs v3] }
section
variable {prog : Program} {w : World} {A : Around} {E : Value → Shared → Prop} {s : Shared} {K : Frag} {h₀ : Heap} {L : Addr} {m : PySem.Str → Option Value}
theorem gm_tnew {pl : Sem Bool} {Q : Value × List Value → Shared → Prop} (F : Fr h₀ L s.heap m) (X₀ : K.In h₀)
    (e : findCls K (.type "tuple") (.type "type") (PySem.Str.ofString "__new__") = some (.val (.builtin "tuple.__new__")))
    (h : Q (.builtin "tuple.__new__", []) { s with toks := s.toks + 1 }) :
    wpAny (model prog w) A (getMethod (.type "tuple") (PySem.Str.ofString "__new__") pl) Q E s := by
  have X := X₀.keeps F.keep
  have hstub : opaqueClassAbove (.type "tuple") = pure none := by unfold opaqueClassAbove; dsimp only; rw [show Manifest.isStub "tuple" = false by decide +kernel]; rfl
  have ht : typeOf (.type "tuple") = pure (.type "type") := by first | rfl | kernel_rfl
  have L0 : Looks (model prog w) s.heap (typeOf (.type "tuple")) (.type "type") := Looks.of_pure ht
  have hg : findIn K (.type "type") "__getattribute__" = some (some (.builtin "type.__getattribute__")) := type_tga
  unfold getMethod specialOf
  refine wpAny_bind (wpAny_bind (L0.here ((looks_findIn X hg).here ?_)))
  dsimp only
  rw [if_pos canon_tga]
  refine wpAny_bind (wpAny_mono (Q := fun v => Q (v, [])) (E := E) ?_ (fun _ _ z => wpAny_pure z) fun _ _ z => z)
  have LO : Looks (model prog w) s.heap (opaqueClassAbove (.type "tuple")) none := Looks.of_pure hstub
  refine cls_open X LO L0 hg (looks_hook X (r := none) (by rfl)) (by show subIn K _ _ = _; rfl) e ?_
  exact wpAny_pure (handed_on rfl h)
end
theorem isTup_of {h₀ h : Heap} {L T : Addr} {news : Led} {items : Array Value} (N : News h₀ L h news) (hm : (T, ({ cls := .type "tuple", data := .seq items } : Obj)) ∈ news) : h.IsTuple T items := ⟨_, (N _ hm).1, rfl, _, rfl⟩
local macro_rules | `(tactic| walk_at "call builtin:tuple.__new__") => `(tactic| refine stop_ ?_)
local macro_rules | `(tactic| k_room) => `(tactic| ktr_room)
theorem match_ (bi bj bs : Int) (v1 v2 v3 : Tok) : PC w p loose mean mg mb 135 [.int bi v1, .int bj v2, .int bs v3] (fun _ => True) (fun h h' r => ∃ T dx, r = .ref T ∧ h.get? T = none ∧ h'.get? T = some (matchOb dx bi bj bs v1 v2 v3)) 8 100 := by
  unfold PC PR
  k_fill
  intro dp un gd cn cs a ccd cl outer A₀ base h₀ L m s Q E B F X T hk hd hu hpre hret
  have q1 : tupIn (KK w.params) 135 = true := tup135 _
  have q2 : typeIn (KK w.params) (.ref 135) = some (.type "type") := by k_is
  have q3 : readsIn (KK w.params) 135 (.type "type") = true := by k_is
  have q4 : findCls (KK w.params) (.ref 135) (.type "type") "__new__" = some (.get (.builtin "staticmethod.__get__") (.ref 136) .none (.ref 135)) := by k_is
  have q5 : recIn (KK w.params) 136 "staticmethod" = some [.ref 82] := by rfl
  refine call_tup F X q1 q2 q3 q4 q5 rfl ?_
  clear q1 q2 q3 q4 q5
  k_dflt (refine' code_pure (binds := [(S "_cls", .ref 135), (S "a", .int bi v1), (S "b", .int bj v2), (S "size", .int bs v3)]) ?k1 ?k2 ?k3 ?k5 ?kA ?kF ?kK ?k6 ?k7 ?k8 ?k9 ?kB ?_ ?c2 ?c3 ?c4 ?c5; (case kA => exact rfl); (case kF => exact rfl); (case kK => assumption); (case k1 => k_asm); (case k2 => k_asm); (case k3 => k_asm); (case k5 => k_asm); (case k6 => k_is); (case k7 => k_is); (case k8 => ktr_room); (case k9 => exact BindsTo.of_eq rfl); (case c5 => decide); (case kB => exact locs rfl); (case c2 => exact rfl); (case c3 => exact rfl); (case c4 => exact rfl); k_whole; intro L' h' F' N' B' X' T')
  dsimp only
  generalize s.toks + 1 + List.length _ = tk0
  k_steps
  repeat (
    any_goals first
      | with_reducible (k_here; (with_reducible show wpAny _ _ (getMethod (Value.type "tuple") _ _) _ _ _); k_dflt (refine' gm_tnew ?k1 ?k2 ?k3 ?_; (case k1 | k2 => k_asm); (case k3 => k_is); k_whole))
      | (k_here; (with_reducible show wpAny _ _ (getMethod (Value.type "tuple") _ _) _ _ _); k_dflt (refine' gm_tnew ?k1 ?k2 ?k3 ?_; (case k1 | k2 => k_asm); (case k3 => k_is); k_whole))
      | with_reducible (k_here; (with_reducible show wpAny _ _ (getMethod (Value.type "tuple") _ _) _ _ _); k_dflt (refine' gm_tnew ?k1 ?k2 ?k3 ?_; (case k1 | k2 => k_asm); (case k3 => k_is); k_whole))
      | (k_here; (with_reducible show wpAny _ _ (getMethod (Value.type "tuple") _ _) _ _ _); k_dflt (refine' gm_tnew ?k1 ?k2 ?k3 ?_; (case k1 | k2 => k_asm); (case k3 => k_is); k_whole))
      | fail
    all_goals k_steps)
  unfold Stop
  with_reducible rename Heap => h9
  with_reducible rename Fr _ _ h9 _ => F1
  with_reducible rename News _ _ h9 _ => N1
  refine call_tnew (tup_of (Frag.In.keeps X' F1.keep) (tup135 _)) (isTup_of N1 (.head _)) (by rw [sizeLine_eq]; exact (by decide : (3 : Nat) ≤ 16777216)) ?_
  intro g9 k9
  have k8 : ∀ b o, s.heap.get? b = some o → ((g9.push { cls := .type "dict", data := .dict #[] }).push { cls := .ref 135, dict := some g9.objs.size, data := .seq #[.int bi v1, .int bj v2, .int bs v3] }).get? b = some o := fun b o e => Heap.get?_push_of_some _ (Heap.get?_push_of_some _ (k9 _ _ (F1.keep _ _ e)))
  have hz : ((g9.push { cls := .type "dict", data := .dict #[] }).push { cls := .ref 135, dict := some g9.objs.size, data := .seq #[.int bi v1, .int bj v2, .int bs v3] }).get? (g9.objs.size + 1) = some (matchOb g9.objs.size bi bj bs v1 v2 v3) := by
    rw [← Heap.size_push g9 { cls := .type "dict", data := .dict #[] }]
    exact Heap.get?_push_size _ rfl
  refine ⟨Frag.In.keeps X' k8, ⟨_, hz, rfl⟩, hret _ _ _ k8 ⟨_, _, rfl, ?_, hz⟩⟩
  cases q : s.heap.get? (g9.objs.size + 1) with
  | none => rfl
  | some o =>
    have := Heap.lt_size (k9 _ _ (F1.keep _ _ q))
    exact absurd this (by show ¬ ((_ : Nat) + 1 < _); (first | lia | omega))
end
end Mine
end

-- E11d
section
open PySem PySem.W PyProof.Rows PySem.Calls
set_option maxRecDepth 100000
set_option maxHeartbeats 0
namespace Mine
section
variable {w : World} {p : Program} {loose : List Str} {mean : MeanT} {mg mb : Str → Option Value}

section
variable {prog : Program} {w : World} {A : Around} {E : Value → Shared → Prop} {s : Shared} {h₀ : Heap} {L : Addr} {m : PySem.Str → Option Value} {news : Led}
theorem item_at {value slice : PySem.Expr} {x : PySem.Str} {i : Int} {t u : Tok} {Q : Value → Shared → Prop} (h0 : 0 ≤ i) (h1 : i < (x.cps.size : Int)) (hx : x.cps.size < 100) (h : ∀ t' k, Q (.str ⟨#[x.cps.getD i.toNat 0]⟩ t') { s with toks := k })
    (hs : subscripted slice false (.str x t) (.int i u) = operate [.str x t, .int i u] (getItem (.str x t) (.int i u)) := by with_unfolding_all rfl)
    (ht : ∀ r, letTemporaryGo value (.str x t) r = pure () := by intro _; with_unfolding_all rfl) : wpAny (model prog w) A (subscriptTail value slice (.str x t) (.int i u)) Q E s := by
  refine item_ch (c := x.cps.getD i.toNat 0) h0 ?_ hx h hs ht
  rw [Array.getD_eq_getD_getElem?, Array.getElem?_eq_getElem (by omega)]
  rfl
theorem bm_no {u js : Addr} {x : PySem.Str} {t : Tok} {lj : Bool} {Q : Value → Shared → Prop} (F : Fr h₀ L s.heap m) (N : News h₀ L s.heap news) (hm : (u, bmOf "set.__contains__" (.ref js)) ∈ news) (hx : h₀.get? js = some { cls := .type "set", data := .set #[] 0 (SetTable.fresh 0 0 lj) })
    (h : Q (.bool false) { s with toks := s.toks + 1 }) : wpAny (model prog w) A (call (.ref u) [.str x t]) Q E s := bm_cont (bmAt_of N hm) (F.keep _ _ hx) h
end

local macro_rules | `(tactic| k_inst) => `(tactic| exact inst_keep (Fr.keep (by assumption)) (by assumption))
local macro_rules | `(tactic| walk_at "getAttr ref") => `(tactic| walk_at "h:gac")
local macro_rules | `(tactic| walk_at "getAttr ref") => `(tactic| walk_at "h:gag")
local macro_rules | `(tactic| walk_at "callWith ref") => `(tactic| walk_at "h:cw")
local macro_rules | `(tactic| walk_at "And") => `(tactic| walk_at "h:and")

local macro_rules | `(tactic| walk_at "subscriptTail") => `(tactic| (k_here; (with_reducible show wpAny _ _ (subscriptTail _ _ (Value.str _ _) (Value.int _ _)) _ _ _); k_dflt (with_unfolding_all apply item_at; omega; omega; with_reducible assumption; rotate_left; with_unfolding_all rfl; (intro _; with_unfolding_all rfl); k_whole; intro t9' k9')))
theorem ch_eq {x y : Array Nat} {i j : Int} (h : ((⟨#[x.getD i.toNat 0]⟩ : PySem.Str) == ⟨#[y.getD j.toNat 0]⟩) = true) (hi : i < (x.size : Int)) (hj : j < (y.size : Int)) (h0 : 0 ≤ i) (h1 : 0 ≤ j) : x.toList[i.toNat]? = y.toList[j.toNat]? := by
  have e := eq_of_beq h
  injection e with e
  have e2 : x.getD i.toNat 0 = y.getD j.toNat 0 := by simpa using e
  rw [Array.getD_eq_getD_getElem?, Array.getD_eq_getD_getElem?, Array.getElem?_eq_getElem (by first | lia | omega), Array.getElem?_eq_getElem (by first | lia | omega)] at e2
  rw [Array.getElem?_toList, Array.getElem?_toList, Array.getElem?_eq_getElem (by first | lia | omega), Array.getElem?_eq_getElem (by first | lia | omega)]
  exact congrArg some e2
theorem back_none {h₀ h : Heap} {L T : Addr} {m : PySem.Str → Option Value} (F : Fr h₀ L h m) (e : h.get? T = none) : h₀.get? T = none := by
  cases q : h₀.get? T with
  | none => rfl
  | some o => have := F.keep _ _ q; rw [e] at this; cases this
local macro_rules | `(tactic| walk_at "exec While BoolOp") => `(tactic| refine stop_ ?_)
local macro_rules | `(tactic| walk_at "execs cons While") => `(tactic| refine stop_ ?_)
local macro_rules | `(tactic| walk_at "execs cons Return") => `(tactic| refine stop_ ?_)
theorem w5F {dp un : Nat} {gd : Option (List Code)} {cn : PySem.Str} {cs : Scope} {a : Addr} {ccd : Value} {cl : List (PySem.Str × Addr)} {outer : List Env} {base h₀ : Heap} {L L₀ : Addr} {s : Shared} {Post : Flow → Shared → Prop}
    {d js nl bm : Addr} {own : Led} {lj : Bool} {va vb : PySem.Str} {ta tb : Tok} {alo ahi blo bhi : Nat} {u1 u2 u3 u4 v1 v2 v3 : Tok} {m : PySem.Str → Option Value} {h : Heap} {tk : Nat} {bi bj bs : Int}
    (hu : un + 120 < cLine) (hd : dp + 12 < recursionLimit) (B : Below (ktrTop dp un gd cn cs L₀ a ccd cl outer) base (envX cn cs L₀ a ccd cl :: outer) h₀) (X : (KK w.params).In h₀) (T : Top p loose mean mg mb h₀)
    (hA : va.cps.size < 100) (hB : vb.cps.size < 100) (h1 : alo ≤ ahi) (h2 : ahi ≤ va.cps.size) (h3 : blo ≤ bhi) (h4 : bhi ≤ vb.cps.size)
    (hjs : h₀.get? js = some { cls := .type "set", data := .set #[] 0 (SetTable.fresh 0 0 lj) })
    (hF : TBest va.cps.toList vb.cps.toList alo ahi blo bhi (-bs, bi, bj))
    (F : Fr h₀ L h m) (N : News h₀ L h ((bm, bmOf "set.__contains__" (.ref js)) :: own))
    (hc : ∀ p ∈ (bestF bi bj bs v1 v2 v3 ++ cstF va vb ta tb d bm nl alo ahi blo bhi u1 u2 u3 u4), m p.1 = some p.2)
    (hend : ∀ h' tk' m' Tm dx v1 v2 v3, Fr h₀ L h' m' → h₀.get? Tm = none → h'.get? Tm = some (matchOb dx bi bj bs v1 v2 v3) → Post (.ret (.ref Tm)) { s with heap := h', toks := tk' }) :
    wpAny (model PR w) ((ktrTop dp un gd cn cs L₀ a ccd cl outer).deeper (envF L)) (execs (flmBody.drop 12) (envF L)) Post NoE { s with heap := h, toks := tk } := by
  unfold PR
  revert X
  k_fill
  intro X
  have hb := tbest_in hF h1 h3
  dsimp only at hb
  replace F := fr_ovl hc F
  dsimp only [ovl, bestF, cstF, List.cons_append, List.nil_append] at F
  k_steps
  repeat (
    any_goals first
      | with_reducible (k_here; (with_reducible show wpAny _ _ (call (Value.ref 135) [Value.int _ _, Value.int _ _, Value.int _ _]) _ _ _); (k_dflt (refine' pc_use (match_ _ _ _ _ _ _) ?k1 ?k2 ?k3 ?kN ?k5 ?kK ?kd ?ku ?kp ?_; (case k1 | k2 | k3 | kN | k5 => k_asm); (case kK => first | exact rfl | assumption); (case kd => ktr_room); (case ku => ktr_units); (case kp => trivial); intro r9 h9 tk9 st9 F9 N9 o9; obtain ⟨T9, d9, e9, f9, g9⟩ := o9; subst e9)))
      | (k_here; (with_reducible show wpAny _ _ (call (Value.ref 135) [Value.int _ _, Value.int _ _, Value.int _ _]) _ _ _); (k_dflt (refine' pc_use (match_ _ _ _ _ _ _) ?k1 ?k2 ?k3 ?kN ?k5 ?kK ?kd ?ku ?kp ?_; (case k1 | k2 | k3 | kN | k5 => k_asm); (case kK => first | exact rfl | assumption); (case kd => ktr_room); (case ku => ktr_units); (case kp => trivial); intro r9 h9 tk9 st9 F9 N9 o9; obtain ⟨T9, d9, e9, f9, g9⟩ := o9; subst e9)))
      | with_reducible (k_here; (with_reducible show wpAny _ _ (call (Value.ref _) [Value.str _ _]) _ _ _); k_dflt (refine' bm_no ?k1 ?k2 ?k3 ?k4 ?_; (case k1 | k2 => k_asm); (case k3 => k_mem); (case k4 => with_reducible assumption); k_whole))
      | (k_here; (with_reducible show wpAny _ _ (call (Value.ref _) [Value.str _ _]) _ _ _); k_dflt (refine' bm_no ?k1 ?k2 ?k3 ?k4 ?_; (case k1 | k2 => k_asm); (case k3 => k_mem); (case k4 => with_reducible assumption); k_whole))
      | fail
    all_goals k_steps)
  exact hend _ _ _ _ _ _ _ _ (by assumption) (back_none F (by assumption)) (by assumption)
theorem w4F {dp un : Nat} {gd : Option (List Code)} {cn : PySem.Str} {cs : Scope} {a : Addr} {ccd : Value} {cl : List (PySem.Str × Addr)} {outer : List Env} {base h₀ : Heap} {L L₀ : Addr} {s : Shared} {Post : Flow → Shared → Prop}
    {d js nl bm : Addr} {own : Led} {lj : Bool} {va vb : PySem.Str} {ta tb : Tok} {alo ahi blo bhi : Nat} {u1 u2 u3 u4 v1 v2 v3 : Tok} {m : PySem.Str → Option Value} {h : Heap} {tk : Nat} {bi bj bs : Int}
    (hu : un + 120 < cLine) (hd : dp + 12 < recursionLimit) (B : Below (ktrTop dp un gd cn cs L₀ a ccd cl outer) base (envX cn cs L₀ a ccd cl :: outer) h₀) (X : (KK w.params).In h₀) (T : Top p loose mean mg mb h₀)
    (hA : va.cps.size < 100) (hB : vb.cps.size < 100) (h1 : alo ≤ ahi) (h2 : ahi ≤ va.cps.size) (h3 : blo ≤ bhi) (h4 : bhi ≤ vb.cps.size)
    (hjs : h₀.get? js = some { cls := .type "set", data := .set #[] 0 (SetTable.fresh 0 0 lj) })
    (hF : TBest va.cps.toList vb.cps.toList alo ahi blo bhi (-bs, bi, bj))
    (F : Fr h₀ L h m) (N : News h₀ L h ((bm, bmOf "set.__contains__" (.ref js)) :: own))
    (hc : ∀ p ∈ (bestF bi bj bs v1 v2 v3 ++ cstF va vb ta tb d bm nl alo ahi blo bhi u1 u2 u3 u4), m p.1 = some p.2)
    (hend : ∀ h' tk' m' Tm dx v1 v2 v3, Fr h₀ L h' m' → h₀.get? Tm = none → h'.get? Tm = some (matchOb dx bi bj bs v1 v2 v3) → Post (.ret (.ref Tm)) { s with heap := h', toks := tk' }) :
    wpAny (model PR w) ((ktrTop dp un gd cn cs L₀ a ccd cl outer).deeper (envF L)) (execs (flmBody.drop 11) (envF L)) Post NoE { s with heap := h, toks := tk } := by
  unfold PR
  revert X
  k_fill
  intro X
  have hb := tbest_in hF h1 h3
  dsimp only at hb
  k_steps
  repeat (
    any_goals first
      | with_reducible (k_here; (with_reducible show wpAny _ _ (call (Value.ref 135) [Value.int _ _, Value.int _ _, Value.int _ _]) _ _ _); (k_dflt (refine' pc_use (match_ _ _ _ _ _ _) ?k1 ?k2 ?k3 ?kN ?k5 ?kK ?kd ?ku ?kp ?_; (case k1 | k2 | k3 | kN | k5 => k_asm); (case kK => first | exact rfl | assumption); (case kd => ktr_room); (case ku => ktr_units); (case kp => trivial); intro r9 h9 tk9 st9 F9 N9 o9; obtain ⟨T9, d9, e9, f9, g9⟩ := o9; subst e9)))
      | (k_here; (with_reducible show wpAny _ _ (call (Value.ref 135) [Value.int _ _, Value.int _ _, Value.int _ _]) _ _ _); (k_dflt (refine' pc_use (match_ _ _ _ _ _ _) ?k1 ?k2 ?k3 ?kN ?k5 ?kK ?kd ?ku ?kp ?_; (case k1 | k2 | k3 | kN | k5 => k_asm); (case kK => first | exact rfl | assumption); (case kd => ktr_room); (case ku => ktr_units); (case kp => trivial); intro r9 h9 tk9 st9 F9 N9 o9; obtain ⟨T9, d9, e9, f9, g9⟩ := o9; subst e9)))
      | with_reducible (k_here; (with_reducible show wpAny _ _ (call (Value.ref _) [Value.str _ _]) _ _ _); k_dflt (refine' bm_no ?k1 ?k2 ?k3 ?k4 ?_; (case k1 | k2 => k_asm); (case k3 => k_mem); (case k4 => with_reducible assumption); k_whole))
      | (k_here; (with_reducible show wpAny _ _ (call (Value.ref _) [Value.str _ _]) _ _ _); k_dflt (refine' bm_no ?k1 ?k2 ?k3 ?k4 ?_; (case k1 | k2 => k_asm); (case k3 => k_mem); (case k4 => with_reducible assumption); k_whole))
      | fail
    all_goals k_steps)
  unfold Stop
  refine While_inv2 (fun n m' nx => nx = (bm, bmOf "set.__contains__" (.ref js)) :: own ∧ ∀ p ∈ (bestF bi bj bs v1 v2 v3 ++ cstF va vb ta tb d bm nl alo ahi blo bhi u1 u2 u3 u4), m' p.1 = some p.2) (n₀ := 0) F N ⟨rfl, hc⟩ ?_
  rintro n m₁ _ h₁ tk₁ F1 N1 ⟨rfl, hc1⟩
  have nxt := fun tk' => w5F (s := s) (tk := tk') hu hd B X T hA hB h1 h2 h3 h4 hjs hF F1 N1 hc1 hend
  unfold PR at nxt
  have F2 := fr_ovl hc1 F1
  dsimp only [ovl, bestF, cstF, List.cons_append, List.nil_append] at F2
  clear F N hc hend
  k_steps
  repeat (
    any_goals first
      | with_reducible (k_here; (with_reducible show wpAny _ _ (call (Value.ref 135) [Value.int _ _, Value.int _ _, Value.int _ _]) _ _ _); (k_dflt (refine' pc_use (match_ _ _ _ _ _ _) ?k1 ?k2 ?k3 ?kN ?k5 ?kK ?kd ?ku ?kp ?_; (case k1 | k2 | k3 | kN | k5 => k_asm); (case kK => first | exact rfl | assumption); (case kd => ktr_room); (case ku => ktr_units); (case kp => trivial); intro r9 h9 tk9 st9 F9 N9 o9; obtain ⟨T9, d9, e9, f9, g9⟩ := o9; subst e9)))
      | (k_here; (with_reducible show wpAny _ _ (call (Value.ref 135) [Value.int _ _, Value.int _ _, Value.int _ _]) _ _ _); (k_dflt (refine' pc_use (match_ _ _ _ _ _ _) ?k1 ?k2 ?k3 ?kN ?k5 ?kK ?kd ?ku ?kp ?_; (case k1 | k2 | k3 | kN | k5 => k_asm); (case kK => first | exact rfl | assumption); (case kd => ktr_room); (case ku => ktr_units); (case kp => trivial); intro r9 h9 tk9 st9 F9 N9 o9; obtain ⟨T9, d9, e9, f9, g9⟩ := o9; subst e9)))
      | with_reducible (k_here; (with_reducible show wpAny _ _ (call (Value.ref _) [Value.str _ _]) _ _ _); k_dflt (refine' bm_no ?k1 ?k2 ?k3 ?k4 ?_; (case k1 | k2 => k_asm); (case k3 => k_mem); (case k4 => with_reducible assumption); k_whole))
      | (k_here; (with_reducible show wpAny _ _ (call (Value.ref _) [Value.str _ _]) _ _ _); k_dflt (refine' bm_no ?k1 ?k2 ?k3 ?k4 ?_; (case k1 | k2 => k_asm); (case k3 => k_mem); (case k4 => with_reducible assumption); k_whole))
      | fail
    all_goals k_steps)
  all_goals exact nxt _
theorem w3F {dp un : Nat} {gd : Option (List Code)} {cn : PySem.Str} {cs : Scope} {a : Addr} {ccd : Value} {cl : List (PySem.Str × Addr)} {outer : List Env} {base h₀ : Heap} {L L₀ : Addr} {s : Shared} {Post : Flow → Shared → Prop}
    {d js nl bm : Addr} {own : Led} {lj : Bool} {va vb : PySem.Str} {ta tb : Tok} {alo ahi blo bhi : Nat} {u1 u2 u3 u4 v1 v2 v3 : Tok} {m : PySem.Str → Option Value} {h : Heap} {tk : Nat} {bi bj bs : Int}
    (hu : un + 120 < cLine) (hd : dp + 12 < recursionLimit) (B : Below (ktrTop dp un gd cn cs L₀ a ccd cl outer) base (envX cn cs L₀ a ccd cl :: outer) h₀) (X : (KK w.params).In h₀) (T : Top p loose mean mg mb h₀)
    (hA : va.cps.size < 100) (hB : vb.cps.size < 100) (h1 : alo ≤ ahi) (h2 : ahi ≤ va.cps.size) (h3 : blo ≤ bhi) (h4 : bhi ≤ vb.cps.size)
    (hjs : h₀.get? js = some { cls := .type "set", data := .set #[] 0 (SetTable.fresh 0 0 lj) })
    (hF : TBest va.cps.toList vb.cps.toList alo ahi blo bhi (-bs, bi, bj))
    (F : Fr h₀ L h m) (N : News h₀ L h ((bm, bmOf "set.__contains__" (.ref js)) :: own))
    (hc : ∀ p ∈ (bestF bi bj bs v1 v2 v3 ++ cstF va vb ta tb d bm nl alo ahi blo bhi u1 u2 u3 u4), m p.1 = some p.2)
    (hend : ∀ h' tk' m' Tm dx v1 v2 v3, Fr h₀ L h' m' → h₀.get? Tm = none → h'.get? Tm = some (matchOb dx bi bj bs v1 v2 v3) → Post (.ret (.ref Tm)) { s with heap := h', toks := tk' }) :
    wpAny (model PR w) ((ktrTop dp un gd cn cs L₀ a ccd cl outer).deeper (envF L)) (execs (flmBody.drop 10) (envF L)) Post NoE { s with heap := h, toks := tk } := by
  unfold PR
  revert X
  k_fill
  intro X
  have hb := tbest_in hF h1 h3
  dsimp only at hb
  k_steps
  repeat (
    any_goals first
      | with_reducible (k_here; (with_reducible show wpAny _ _ (call (Value.ref 135) [Value.int _ _, Value.int _ _, Value.int _ _]) _ _ _); (k_dflt (refine' pc_use (match_ _ _ _ _ _ _) ?k1 ?k2 ?k3 ?kN ?k5 ?kK ?kd ?ku ?kp ?_; (case k1 | k2 | k3 | kN | k5 => k_asm); (case kK => first | exact rfl | assumption); (case kd => ktr_room); (case ku => ktr_units); (case kp => trivial); intro r9 h9 tk9 st9 F9 N9 o9; obtain ⟨T9, d9, e9, f9, g9⟩ := o9; subst e9)))
      | (k_here; (with_reducible show wpAny _ _ (call (Value.ref 135) [Value.int _ _, Value.int _ _, Value.int _ _]) _ _ _); (k_dflt (refine' pc_use (match_ _ _ _ _ _ _) ?k1 ?k2 ?k3 ?kN ?k5 ?kK ?kd ?ku ?kp ?_; (case k1 | k2 | k3 | kN | k5 => k_asm); (case kK => first | exact rfl | assumption); (case kd => ktr_room); (case ku => ktr_units); (case kp => trivial); intro r9 h9 tk9 st9 F9 N9 o9; obtain ⟨T9, d9, e9, f9, g9⟩ := o9; subst e9)))
      | with_reducible (k_here; (with_reducible show wpAny _ _ (call (Value.ref _) [Value.str _ _]) _ _ _); k_dflt (refine' bm_no ?k1 ?k2 ?k3 ?k4 ?_; (case k1 | k2 => k_asm); (case k3 => k_mem); (case k4 => with_reducible assumption); k_whole))
      | (k_here; (with_reducible show wpAny _ _ (call (Value.ref _) [Value.str _ _]) _ _ _); k_dflt (refine' bm_no ?k1 ?k2 ?k3 ?k4 ?_; (case k1 | k2 => k_asm); (case k3 => k_mem); (case k4 => with_reducible assumption); k_whole))
      | fail
    all_goals k_steps)
  unfold Stop
  refine While_inv2 (fun n m' nx => nx = (bm, bmOf "set.__contains__" (.ref js)) :: own ∧ ∀ p ∈ (bestF bi bj bs v1 v2 v3 ++ cstF va vb ta tb d bm nl alo ahi blo bhi u1 u2 u3 u4), m' p.1 = some p.2) (n₀ := 0) F N ⟨rfl, hc⟩ ?_
  rintro n m₁ _ h₁ tk₁ F1 N1 ⟨rfl, hc1⟩
  have nxt := fun tk' => w4F (s := s) (tk := tk') hu hd B X T hA hB h1 h2 h3 h4 hjs hF F1 N1 hc1 hend
  unfold PR at nxt
  have F2 := fr_ovl hc1 F1
  dsimp only [ovl, bestF, cstF, List.cons_append, List.nil_append] at F2
  clear F N hc hend
  k_steps
  repeat (
    any_goals first
      | with_reducible (k_here; (with_reducible show wpAny _ _ (call (Value.ref 135) [Value.int _ _, Value.int _ _, Value.int _ _]) _ _ _); (k_dflt (refine' pc_use (match_ _ _ _ _ _ _) ?k1 ?k2 ?k3 ?kN ?k5 ?kK ?kd ?ku ?kp ?_; (case k1 | k2 | k3 | kN | k5 => k_asm); (case kK => first | exact rfl | assumption); (case kd => ktr_room); (case ku => ktr_units); (case kp => trivial); intro r9 h9 tk9 st9 F9 N9 o9; obtain ⟨T9, d9, e9, f9, g9⟩ := o9; subst e9)))
      | (k_here; (with_reducible show wpAny _ _ (call (Value.ref 135) [Value.int _ _, Value.int _ _, Value.int _ _]) _ _ _); (k_dflt (refine' pc_use (match_ _ _ _ _ _ _) ?k1 ?k2 ?k3 ?kN ?k5 ?kK ?kd ?ku ?kp ?_; (case k1 | k2 | k3 | kN | k5 => k_asm); (case kK => first | exact rfl | assumption); (case kd => ktr_room); (case ku => ktr_units); (case kp => trivial); intro r9 h9 tk9 st9 F9 N9 o9; obtain ⟨T9, d9, e9, f9, g9⟩ := o9; subst e9)))
      | with_reducible (k_here; (with_reducible show wpAny _ _ (call (Value.ref _) [Value.str _ _]) _ _ _); k_dflt (refine' bm_no ?k1 ?k2 ?k3 ?k4 ?_; (case k1 | k2 => k_asm); (case k3 => k_mem); (case k4 => with_reducible assumption); k_whole))
      | (k_here; (with_reducible show wpAny _ _ (call (Value.ref _) [Value.str _ _]) _ _ _); k_dflt (refine' bm_no ?k1 ?k2 ?k3 ?k4 ?_; (case k1 | k2 => k_asm); (case k3 => k_mem); (case k4 => with_reducible assumption); k_whole))
      | fail
    all_goals k_steps)
  all_goals exact nxt _
theorem w2F {dp un : Nat} {gd : Option (List Code)} {cn : PySem.Str} {cs : Scope} {a : Addr} {ccd : Value} {cl : List (PySem.Str × Addr)} {outer : List Env} {base h₀ : Heap} {L L₀ : Addr} {s : Shared} {Post : Flow → Shared → Prop}
    {d js nl bm : Addr} {own : Led} {lj : Bool} {va vb : PySem.Str} {ta tb : Tok} {alo ahi blo bhi : Nat} {u1 u2 u3 u4 v1 v2 v3 : Tok} {m : PySem.Str → Option Value} {h : Heap} {tk : Nat} {bi bj bs : Int}
    (hu : un + 120 < cLine) (hd : dp + 12 < recursionLimit) (B : Below (ktrTop dp un gd cn cs L₀ a ccd cl outer) base (envX cn cs L₀ a ccd cl :: outer) h₀) (X : (KK w.params).In h₀) (T : Top p loose mean mg mb h₀)
    (hA : va.cps.size < 100) (hB : vb.cps.size < 100) (h1 : alo ≤ ahi) (h2 : ahi ≤ va.cps.size) (h3 : blo ≤ bhi) (h4 : bhi ≤ vb.cps.size)
    (hjs : h₀.get? js = some { cls := .type "set", data := .set #[] 0 (SetTable.fresh 0 0 lj) })
    (hF : TBest va.cps.toList vb.cps.toList alo ahi blo bhi (-bs, bi, bj))
    (F : Fr h₀ L h m) (N : News h₀ L h ((bm, bmOf "set.__contains__" (.ref js)) :: own))
    (hc : ∀ p ∈ (bestF bi bj bs v1 v2 v3 ++ cstF va vb ta tb d bm nl alo ahi blo bhi u1 u2 u3 u4), m p.1 = some p.2)
    (hend : ∀ h' tk' m' Tm dx v1 v2 v3, Fr h₀ L h' m' → h₀.get? Tm = none → h'.get? Tm = some (matchOb dx bi bj bs v1 v2 v3) → Post (.ret (.ref Tm)) { s with heap := h', toks := tk' }) :
    wpAny (model PR w) ((ktrTop dp un gd cn cs L₀ a ccd cl outer).deeper (envF L)) (execs (flmBody.drop 9) (envF L)) Post NoE { s with heap := h, toks := tk } := by
  unfold PR
  revert X
  k_fill
  intro X
  have hb := tbest_in hF h1 h3
  dsimp only at hb
  k_steps
  repeat (
    any_goals first
      | with_reducible (k_here; (with_reducible show wpAny _ _ (call (Value.ref 135) [Value.int _ _, Value.int _ _, Value.int _ _]) _ _ _); (k_dflt (refine' pc_use (match_ _ _ _ _ _ _) ?k1 ?k2 ?k3 ?kN ?k5 ?kK ?kd ?ku ?kp ?_; (case k1 | k2 | k3 | kN | k5 => k_asm); (case kK => first | exact rfl | assumption); (case kd => ktr_room); (case ku => ktr_units); (case kp => trivial); intro r9 h9 tk9 st9 F9 N9 o9; obtain ⟨T9, d9, e9, f9, g9⟩ := o9; subst e9)))
      | (k_here; (with_reducible show wpAny _ _ (call (Value.ref 135) [Value.int _ _, Value.int _ _, Value.int _ _]) _ _ _); (k_dflt (refine' pc_use (match_ _ _ _ _ _ _) ?k1 ?k2 ?k3 ?kN ?k5 ?kK ?kd ?ku ?kp ?_; (case k1 | k2 | k3 | kN | k5 => k_asm); (case kK => first | exact rfl | assumption); (case kd => ktr_room); (case ku => ktr_units); (case kp => trivial); intro r9 h9 tk9 st9 F9 N9 o9; obtain ⟨T9, d9, e9, f9, g9⟩ := o9; subst e9)))
      | with_reducible (k_here; (with_reducible show wpAny _ _ (call (Value.ref _) [Value.str _ _]) _ _ _); k_dflt (refine' bm_no ?k1 ?k2 ?k3 ?k4 ?_; (case k1 | k2 => k_asm); (case k3 => k_mem); (case k4 => with_reducible assumption); k_whole))
      | (k_here; (with_reducible show wpAny _ _ (call (Value.ref _) [Value.str _ _]) _ _ _); k_dflt (refine' bm_no ?k1 ?k2 ?k3 ?k4 ?_; (case k1 | k2 => k_asm); (case k3 => k_mem); (case k4 => with_reducible assumption); k_whole))
      | fail
    all_goals k_steps)
  unfold Stop
  refine While_inv2 (fun n m' nx => nx = (bm, bmOf "set.__contains__" (.ref js)) :: own ∧ ∀ p ∈ (bestF bi bj bs v1 v2 v3 ++ cstF va vb ta tb d bm nl alo ahi blo bhi u1 u2 u3 u4), m' p.1 = some p.2) (n₀ := 0) F N ⟨rfl, hc⟩ ?_
  rintro n m₁ _ h₁ tk₁ F1 N1 ⟨rfl, hc1⟩
  have nxt := fun tk' => w3F (s := s) (tk := tk') hu hd B X T hA hB h1 h2 h3 h4 hjs hF F1 N1 hc1 hend
  unfold PR at nxt
  have F2 := fr_ovl hc1 F1
  dsimp only [ovl, bestF, cstF, List.cons_append, List.nil_append] at F2
  clear F N hc hend
  k_steps
  repeat (
    any_goals first
      | with_reducible (k_here; (with_reducible show wpAny _ _ (call (Value.ref 135) [Value.int _ _, Value.int _ _, Value.int _ _]) _ _ _); (k_dflt (refine' pc_use (match_ _ _ _ _ _ _) ?k1 ?k2 ?k3 ?kN ?k5 ?kK ?kd ?ku ?kp ?_; (case k1 | k2 | k3 | kN | k5 => k_asm); (case kK => first | exact rfl | assumption); (case kd => ktr_room); (case ku => ktr_units); (case kp => trivial); intro r9 h9 tk9 st9 F9 N9 o9; obtain ⟨T9, d9, e9, f9, g9⟩ := o9; subst e9)))
      | (k_here; (with_reducible show wpAny _ _ (call (Value.ref 135) [Value.int _ _, Value.int _ _, Value.int _ _]) _ _ _); (k_dflt (refine' pc_use (match_ _ _ _ _ _ _) ?k1 ?k2 ?k3 ?kN ?k5 ?kK ?kd ?ku ?kp ?_; (case k1 | k2 | k3 | kN | k5 => k_asm); (case kK => first | exact rfl | assumption); (case kd => ktr_room); (case ku => ktr_units); (case kp => trivial); intro r9 h9 tk9 st9 F9 N9 o9; obtain ⟨T9, d9, e9, f9, g9⟩ := o9; subst e9)))
      | with_reducible (k_here; (with_reducible show wpAny _ _ (call (Value.ref _) [Value.str _ _]) _ _ _); k_dflt (refine' bm_no ?k1 ?k2 ?k3 ?k4 ?_; (case k1 | k2 => k_asm); (case k3 => k_mem); (case k4 => with_reducible assumption); k_whole))
      | (k_here; (with_reducible show wpAny _ _ (call (Value.ref _) [Value.str _ _]) _ _ _); k_dflt (refine' bm_no ?k1 ?k2 ?k3 ?k4 ?_; (case k1 | k2 => k_asm); (case k3 => k_mem); (case k4 => with_reducible assumption); k_whole))
      | fail
    all_goals k_steps)
  · exfalso
    have hr := tbest_right hF (by dsimp only; omega) (by dsimp only; omega)
    dsimp only at hr
    rw [show bi - -bs = bi + bs by omega, show bj - -bs = bj + bs by omega] at hr
    exact hr (ch_eq (by assumption) (by omega) (by omega) (by omega) (by omega))
  all_goals exact nxt _
theorem w1F {dp un : Nat} {gd : Option (List Code)} {cn : PySem.Str} {cs : Scope} {a : Addr} {ccd : Value} {cl : List (PySem.Str × Addr)} {outer : List Env} {base h₀ : Heap} {L L₀ : Addr} {s : Shared} {Post : Flow → Shared → Prop}
    {d js nl bm : Addr} {own : Led} {lj : Bool} {va vb : PySem.Str} {ta tb : Tok} {alo ahi blo bhi : Nat} {u1 u2 u3 u4 v1 v2 v3 : Tok} {m : PySem.Str → Option Value} {h : Heap} {tk : Nat} {bi bj bs : Int}
    (hu : un + 120 < cLine) (hd : dp + 12 < recursionLimit) (B : Below (ktrTop dp un gd cn cs L₀ a ccd cl outer) base (envX cn cs L₀ a ccd cl :: outer) h₀) (X : (KK w.params).In h₀) (T : Top p loose mean mg mb h₀)
    (hA : va.cps.size < 100) (hB : vb.cps.size < 100) (h1 : alo ≤ ahi) (h2 : ahi ≤ va.cps.size) (h3 : blo ≤ bhi) (h4 : bhi ≤ vb.cps.size)
    (hjs : h₀.get? js = some { cls := .type "set", data := .set #[] 0 (SetTable.fresh 0 0 lj) })
    (hF : TBest va.cps.toList vb.cps.toList alo ahi blo bhi (-bs, bi, bj))
    (F : Fr h₀ L h m) (N : News h₀ L h ((bm, bmOf "set.__contains__" (.ref js)) :: own))
    (hc : ∀ p ∈ (bestF bi bj bs v1 v2 v3 ++ cstF va vb ta tb d bm nl alo ahi blo bhi u1 u2 u3 u4), m p.1 = some p.2)
    (hend : ∀ h' tk' m' Tm dx v1 v2 v3, Fr h₀ L h' m' → h₀.get? Tm = none → h'.get? Tm = some (matchOb dx bi bj bs v1 v2 v3) → Post (.ret (.ref Tm)) { s with heap := h', toks := tk' }) :
    wpAny (model PR w) ((ktrTop dp un gd cn cs L₀ a ccd cl outer).deeper (envF L)) (execs (flmBody.drop 8) (envF L)) Post NoE { s with heap := h, toks := tk } := by
  unfold PR
  revert X
  k_fill
  intro X
  have hb := tbest_in hF h1 h3
  dsimp only at hb
  k_steps
  repeat (
    any_goals first
      | with_reducible (k_here; (with_reducible show wpAny _ _ (call (Value.ref 135) [Value.int _ _, Value.int _ _, Value.int _ _]) _ _ _); (k_dflt (refine' pc_use (match_ _ _ _ _ _ _) ?k1 ?k2 ?k3 ?kN ?k5 ?kK ?kd ?ku ?kp ?_; (case k1 | k2 | k3 | kN | k5 => k_asm); (case kK => first | exact rfl | assumption); (case kd => ktr_room); (case ku => ktr_units); (case kp => trivial); intro r9 h9 tk9 st9 F9 N9 o9; obtain ⟨T9, d9, e9, f9, g9⟩ := o9; subst e9)))
      | (k_here; (with_reducible show wpAny _ _ (call (Value.ref 135) [Value.int _ _, Value.int _ _, Value.int _ _]) _ _ _); (k_dflt (refine' pc_use (match_ _ _ _ _ _ _) ?k1 ?k2 ?k3 ?kN ?k5 ?kK ?kd ?ku ?kp ?_; (case k1 | k2 | k3 | kN | k5 => k_asm); (case kK => first | exact rfl | assumption); (case kd => ktr_room); (case ku => ktr_units); (case kp => trivial); intro r9 h9 tk9 st9 F9 N9 o9; obtain ⟨T9, d9, e9, f9, g9⟩ := o9; subst e9)))
      | with_reducible (k_here; (with_reducible show wpAny _ _ (call (Value.ref _) [Value.str _ _]) _ _ _); k_dflt (refine' bm_no ?k1 ?k2 ?k3 ?k4 ?_; (case k1 | k2 => k_asm); (case k3 => k_mem); (case k4 => with_reducible assumption); k_whole))
      | (k_here; (with_reducible show wpAny _ _ (call (Value.ref _) [Value.str _ _]) _ _ _); k_dflt (refine' bm_no ?k1 ?k2 ?k3 ?k4 ?_; (case k1 | k2 => k_asm); (case k3 => k_mem); (case k4 => with_reducible assumption); k_whole))
      | fail
    all_goals k_steps)
  unfold Stop
  refine While_inv2 (fun n m' nx => nx = (bm, bmOf "set.__contains__" (.ref js)) :: own ∧ ∀ p ∈ (bestF bi bj bs v1 v2 v3 ++ cstF va vb ta tb d bm nl alo ahi blo bhi u1 u2 u3 u4), m' p.1 = some p.2) (n₀ := 0) F N ⟨rfl, hc⟩ ?_
  rintro n m₁ _ h₁ tk₁ F1 N1 ⟨rfl, hc1⟩
  have nxt := fun tk' => w2F (s := s) (tk := tk') hu hd B X T hA hB h1 h2 h3 h4 hjs hF F1 N1 hc1 hend
  unfold PR at nxt
  have F2 := fr_ovl hc1 F1
  dsimp only [ovl, bestF, cstF, List.cons_append, List.nil_append] at F2
  clear F N hc hend
  k_steps
  repeat (
    any_goals first
      | with_reducible (k_here; (with_reducible show wpAny _ _ (call (Value.ref 135) [Value.int _ _, Value.int _ _, Value.int _ _]) _ _ _); (k_dflt (refine' pc_use (match_ _ _ _ _ _ _) ?k1 ?k2 ?k3 ?kN ?k5 ?kK ?kd ?ku ?kp ?_; (case k1 | k2 | k3 | kN | k5 => k_asm); (case kK => first | exact rfl | assumption); (case kd => ktr_room); (case ku => ktr_units); (case kp => trivial); intro r9 h9 tk9 st9 F9 N9 o9; obtain ⟨T9, d9, e9, f9, g9⟩ := o9; subst e9)))
      | (k_here; (with_reducible show wpAny _ _ (call (Value.ref 135) [Value.int _ _, Value.int _ _, Value.int _ _]) _ _ _); (k_dflt (refine' pc_use (match_ _ _ _ _ _ _) ?k1 ?k2 ?k3 ?kN ?k5 ?kK ?kd ?ku ?kp ?_; (case k1 | k2 | k3 | kN | k5 => k_asm); (case kK => first | exact rfl | assumption); (case kd => ktr_room); (case ku => ktr_units); (case kp => trivial); intro r9 h9 tk9 st9 F9 N9 o9; obtain ⟨T9, d9, e9, f9, g9⟩ := o9; subst e9)))
      | with_reducible (k_here; (with_reducible show wpAny _ _ (call (Value.ref _) [Value.str _ _]) _ _ _); k_dflt (refine' bm_no ?k1 ?k2 ?k3 ?k4 ?_; (case k1 | k2 => k_asm); (case k3 => k_mem); (case k4 => with_reducible assumption); k_whole))
      | (k_here; (with_reducible show wpAny _ _ (call (Value.ref _) [Value.str _ _]) _ _ _); k_dflt (refine' bm_no ?k1 ?k2 ?k3 ?k4 ?_; (case k1 | k2 => k_asm); (case k3 => k_mem); (case k4 => with_reducible assumption); k_whole))
      | fail
    all_goals k_steps)
  · exfalso
    have hl := tbest_left hF (by assumption) (by assumption)
    dsimp only at hl
    exact hl (ch_eq (by assumption) (by omega) (by omega) (by omega) (by omega))
  all_goals exact nxt _
end
end Mine
end

-- E11
section
open PySem PySem.W PyProof.Rows PySem.Calls
set_option maxRecDepth 100000
set_option maxHeartbeats 0
namespace Mine
section
variable {w : World} {p : Program} {loose : List Str} {mean : MeanT} {mg mb : Str → Option Value}

theorem range_szF {a b : Nat} (h : a ≤ b) : Builtin.Range.rangeSize (a : Int) (b : Int) 1 = ((b - a : Nat) : Int) := by
  have := range_size a (b - a)
  rwa [show a + (b - a) = b by (first | lia | omega)] at this

local macro_rules | `(tactic| k_inst) => `(tactic| exact inst_keep (Fr.keep (by assumption)) (by assumption))
local macro_rules | `(tactic| walk_at "getAttr ref") => `(tactic| walk_at "h:gac")
local macro_rules | `(tactic| walk_at "getAttr ref") => `(tactic| walk_at "h:gag")
local macro_rules | `(tactic| walk_at "callWith ref") => `(tactic| walk_at "h:cw")
local macro_rules | `(tactic| walk_at "And") => `(tactic| walk_at "h:and")
local macro_rules | `(tactic| walk_at "pyIter ref") => `(tactic| refine stop_ ?_)

theorem loopF {dp un : Nat} {gd : Option (List Code)} {cn : PySem.Str} {cs : Scope} {a : Addr} {ccd : Value} {cl : List (PySem.Str × Addr)} {outer : List Env} {base h₀ : Heap} {L L₀ : Addr} {s : Shared} {Post : Flow → Shared → Prop}
    {d js nl bm jd : Addr} {od ojd : Obj} {es : List Ent} {ads : List Addr} {lj : Bool} {va vb : PySem.Str} {ta tb : Tok} {alo ahi blo bhi : Nat} {w1 w2 w3 w4 w5 w6 w7 : Tok} {m1 : PySem.Str → Option Value} {h9 : Heap} {tk : Nat}
    (hu : un + 130 < cLine) (hd : dp + 13 < recursionLimit) (B : Below (ktrTop dp un gd cn cs L₀ a ccd cl outer) base (envX cn cs L₀ a ccd cl :: outer) h₀) (X : (KK w.params).In h₀) (T : Top p loose mean mg mb h₀)
    (hA : va.cps.size < 100) (hB : vb.cps.size < 100) (h1 : alo ≤ ahi) (h2 : ahi ≤ va.cps.size) (h3 : blo ≤ bhi) (h4 : bhi ≤ vb.cps.size)
    (hd0 : h₀.get? d = some od) (hjs : h₀.get? js = some { cls := .type "set", data := .set #[] 0 (SetTable.fresh 0 0 lj) }) (hes : ∀ e ∈ es, h₀.IsList e.2.1 e.2.2.1.toArray) (hE : Ents w ads od vb.cps.toList es) (hds : (d == sysModules) = false)
    (hdn : ojd.IsDictOf (PySem.intKind PR w) []) (hln : (jd == sysModules) = false)
    (F1 : Fr h₀ L h9 m1) (N1 : News h₀ L h9 [(jd, ojd), (nl, W.listOf #[] 0), (bm, bmOf "set.__contains__" (.ref js))])
    (hc1 : ∀ p ∈ (Str.ofString "j2len", Value.ref jd) :: (bestF (alo : Int) (blo : Int) 0 w5 w6 w7 ++ cstF va vb ta tb d bm nl alo ahi blo bhi w1 w2 w3 w4), m1 p.1 = some p.2)
    (hend : ∀ h' tk' m' Tm dx bi bj bs v1 v2 v3, Fr h₀ L h' m' → h₀.get? Tm = none → h'.get? Tm = some (matchOb dx bi bj bs v1 v2 v3) → TBest va.cps.toList vb.cps.toList alo ahi blo bhi (-bs, bi, bj) → Post (.ret (.ref Tm)) { s with heap := h', toks := tk' }) :
    wpAny (model PR w) ((ktrTop dp un gd cn cs L₀ a ccd cl outer).deeper (envF L)) (execs (flmBody.drop 7) (envF L)) Post NoE { s with heap := h9, toks := tk } := by
  unfold PR
  revert X
  k_fill
  intro X
  have hc2 := hc1
  dsimp only [bestF, cstF, List.cons_append, List.nil_append] at hc2
  replace F1 := fr_ovl hc2 F1
  dsimp only [ovl] at F1
  clear hc1 hc2
  k_steps
  unfold Stop
  with_reducible rename Heap => h8
  with_reducible rename IsRange h8 _ _ _ _ _ _ _ => R1
  with_reducible rename Fr _ _ h8 _ => F1
  with_reducible rename News _ _ h8 _ => N1
  obtain ⟨m9, F1, hc1⟩ : ∃ m9, Fr h₀ L h8 m9 ∧ ∀ p ∈ (Str.ofString "j2len", Value.ref jd) :: (bestF (alo : Int) (blo : Int) 0 w5 w6 w7 ++ cstF va vb ta tb d bm nl alo ahi blo bhi w1 w2 w3 w4), m9 p.1 = some p.2 := ⟨_, F1, (List.forall_mem_cons.mpr ⟨rfl, List.forall_mem_cons.mpr ⟨rfl, List.forall_mem_cons.mpr ⟨rfl, List.forall_mem_cons.mpr ⟨rfl, List.forall_mem_cons.mpr ⟨rfl, List.forall_mem_cons.mpr ⟨rfl, List.forall_mem_cons.mpr ⟨rfl, List.forall_mem_cons.mpr ⟨rfl, List.forall_mem_cons.mpr ⟨rfl, List.forall_mem_cons.mpr ⟨rfl, List.forall_mem_cons.mpr ⟨rfl, List.forall_mem_cons.mpr ⟨rfl, List.forall_mem_cons.mpr ⟨rfl, (fun _ h => nomatch h)⟩⟩⟩⟩⟩⟩⟩⟩⟩⟩⟩⟩⟩)⟩
  refine iterR (n := ahi - alo) (fun i m nx => ∃ jd ojd kvo bi bj bs v1 v2 v3, nx = [(jd, ojd), (nl, W.listOf #[] 0), (bm, bmOf "set.__contains__" (.ref js))] ∧ Obj.IsDictOf (PySem.intKind PR w) ojd kvo ∧ (jd == sysModules) = false ∧
      (∀ p ∈ (Str.ofString "j2len", Value.ref jd) :: (bestF bi bj bs v1 v2 v3 ++ cstF va vb ta tb d bm nl alo ahi blo bhi w1 w2 w3 w4), m p.1 = some p.2) ∧
      JGet va.cps.toList vb.cps.toList alo blo bhi (alo + i) (valueAt kvo) ∧ FBest va.cps.toList vb.cps.toList alo blo (fun i' j' => i' < alo + i ∧ j' < bhi) (-bs, bi, bj))
    rfl R1 (range_small (by omega) (by omega)) (range_szF (by omega)) F1 N1 ⟨jd, ojd, [], (alo : Int), (blo : Int), 0, w5, w6, w7, rfl, hdn, hln, hc1, jget_start (fun _ => rfl), fbest_same fbest_init fun i' j' s' => ⟨fun h => by have := (suf_pos s').1; omega, fun h => h.elim⟩⟩ ?_ ?_
  · rintro n t m₁ _ h₂ tk₂ own₂ hn hcl hoff ⟨jd, ojd, kvo, bi, bj, bs, v1, v2, v3, rfl, hd₁, hl₁, hc₂, hJ₁, hF₁⟩ F2 N2
    rw [← Int.natCast_add] at F2
    obtain ⟨c, hic⟩ : ∃ c, va.cps.toList[alo + n]? = some c := ⟨_, List.getElem?_eq_getElem (by rw [Array.length_toList]; omega)⟩
    refine outF (h₀ := h₀) (own := [(bm, bmOf "set.__contains__" (.ref js))] ++ own₂) (i := alo + n) (c := c) (m := fun y => if y = Str.ofString "i" then some (.int ((alo + n : Nat) : Int) t) else m₁ y) (ti := t) (v1 := v1) (v2 := v2) (v3 := v3) (u1 := w1) (u2 := w2) (u3 := w3) (u4 := w4) (ta := ta) (tb := tb) (d := d) (bm := bm) (nl := nl) (ahi := ahi)
      (by omega) B X T hA hB (by omega) h4 h3 hic hd0 hes hE hds hd₁ hl₁ hJ₁ hF₁ F2 N2 ?hc ?hend
    case hc => exact (List.forall_mem_cons.mpr ⟨rfl, (List.forall_mem_cons.mpr ⟨hc₂ _ (.head _), List.forall_mem_cons.mpr ⟨hc₂ _ (.tail _ (.head _)), List.forall_mem_cons.mpr ⟨hc₂ _ (.tail _ (.tail _ (.head _))), List.forall_mem_cons.mpr ⟨hc₂ _ (.tail _ (.tail _ (.tail _ (.head _)))), List.forall_mem_cons.mpr ⟨hc₂ _ (.tail _ (.tail _ (.tail _ (.tail _ (.head _))))), List.forall_mem_cons.mpr ⟨hc₂ _ (.tail _ (.tail _ (.tail _ (.tail _ (.tail _ (.head _)))))), List.forall_mem_cons.mpr ⟨hc₂ _ (.tail _ (.tail _ (.tail _ (.tail _ (.tail _ (.tail _ (.head _))))))), List.forall_mem_cons.mpr ⟨hc₂ _ (.tail _ (.tail _ (.tail _ (.tail _ (.tail _ (.tail _ (.tail _ (.head _)))))))), List.forall_mem_cons.mpr ⟨hc₂ _ (.tail _ (.tail _ (.tail _ (.tail _ (.tail _ (.tail _ (.tail _ (.tail _ (.head _))))))))), List.forall_mem_cons.mpr ⟨hc₂ _ (.tail _ (.tail _ (.tail _ (.tail _ (.tail _ (.tail _ (.tail _ (.tail _ (.tail _ (.head _)))))))))), List.forall_mem_cons.mpr ⟨hc₂ _ (.tail _ (.tail _ (.tail _ (.tail _ (.tail _ (.tail _ (.tail _ (.tail _ (.tail _ (.tail _ (.head _))))))))))), List.forall_mem_cons.mpr ⟨hc₂ _ (.tail _ (.tail _ (.tail _ (.tail _ (.tail _ (.tail _ (.tail _ (.tail _ (.tail _ (.tail _ (.tail _ (.head _)))))))))))), List.forall_mem_cons.mpr ⟨hc₂ _ (.tail _ (.tail _ (.tail _ (.tail _ (.tail _ (.tail _ (.tail _ (.tail _ (.tail _ (.tail _ (.tail _ (.tail _ (.head _))))))))))))), (fun _ h => nomatch h)⟩⟩⟩⟩⟩⟩⟩⟩⟩⟩⟩⟩⟩)⟩)
    case hend =>
      rintro h' tk' m' nd ond kvn bi' bj' bs' F3 N3 hd3 hl3 hao ⟨x1, x2, x3, hc3⟩ hJ3 hF3
      show TurnEnd _ _ _ _ _ _
      refine TurnEnd.intro [(nd, ond), (nl, W.listOf #[] 0), (bm, bmOf "set.__contains__" (.ref js))] F3 N3 (fun p hp => List.mem_append_left own₂ hp) (fun p hp => List.mem_append_right [(nd, ond), (nl, W.listOf #[] 0), (bm, bmOf "set.__contains__" (.ref js))] hp) (fun p hp b hb => ?_) ?_
      · rcases List.mem_cons.mp hb with rfl | hb
        · exact Nat.ne_of_lt (lt_of_allLt _ hao p (List.mem_append_right _ hp))
        · exact hoff p hp b (.tail _ hb)
      · exact ⟨nd, ond, kvn, bi', bj', bs', x1, x2, x3, rfl, hd3, hl3, hc3, hJ3, hF3⟩
  · rintro m₁ _ h₂ tk₂ ⟨jd, ojd, kvo, bi, bj, bs, v1, v2, v3, rfl, hd₁, hl₁, hc₂, hJ₁, hF₁⟩ F2 N2
    have hT : TBest va.cps.toList vb.cps.toList alo ahi blo bhi (-bs, bi, bj) := fbest_all hF₁ fun i' j' _ => by
      constructor
      · rintro ⟨h, h'⟩; exact ⟨by omega, h'⟩
      · rintro ⟨h, h'⟩; exact ⟨by omega, h'⟩
    refine w1F (own := []) (v1 := v1) (v2 := v2) (v3 := v3) (u1 := w1) (u2 := w2) (u3 := w3) (u4 := w4) (ta := ta) (tb := tb) (d := d) (bm := bm) (nl := nl) (by omega) (by omega) B X T hA hB h1 h2 h3 h4 hjs hT F2 (fun p hp => N2 p ?_) (fun p hp => hc₂ p (.tail _ hp)) ?_
    · rw [List.mem_singleton.mp hp]
      exact .tail _ (.tail _ (.head _))
    · intro h' tk' m' Tm dx' x1 x2 x3 F3 e3 g3
      exact hend _ _ _ _ _ _ _ _ _ _ _ F3 e3 g3 hT
local macro_rules | `(tactic| walk_at "execs cons For") => `(tactic| refine stop_ ?_)
theorem flm_ (x : Addr) (va vb : PySem.Str) (alo ahi blo bhi : Nat) (u1 u2 u3 u4 : Tok) (hA : va.cps.size < 100) (hB : vb.cps.size < 100) (h1 : alo ≤ ahi) (h2 : ahi ≤ va.cps.size) (h3 : blo ≤ bhi) (h4 : bhi ≤ vb.cps.size) :
    PC w p loose mean mg mb 196 [.ref x, .int (alo : Int) u1, .int (ahi : Int) u2, .int (blo : Int) u3, .int (bhi : Int) u4] (fun h => SM w h x va vb) (fun h h' r => ∃ T dx bi bj bs v1 v2 v3, r = .ref T ∧ h.get? T = none ∧ h'.get? T = some (matchOb dx bi bj bs v1 v2 v3) ∧ TBest va.cps.toList vb.cps.toList alo ahi blo bhi (-bs, bi, bj)) 16 150 := by
  unfold PC PR
  k_fill
  intro dp un gd cn cs a ccd cl outer A₀ base h₀ L m s Q E B F X T hk hd hu hpre hret
  refine wpAny_call ?_
  k_dflt (refine' code_pure (binds := [(S "self", .ref x), (S "alo", .int (alo : Int) u1), (S "ahi", .int (ahi : Int) u2), (S "blo", .int (blo : Int) u3), (S "bhi", .int (bhi : Int) u4)]) ?k1 ?k2 ?k3 ?k5 ?kA ?kF ?kK ?k6 ?k7 ?k8 ?k9 ?kB ?_ ?c2 ?c3 ?c4 ?c5; (case kA => exact rfl); (case kF => exact rfl); (case kK => assumption); (case k1 => k_asm); (case k2 => k_asm); (case k3 => k_asm); (case k5 => k_asm); (case k6 => k_is); (case k7 => k_is); (case k8 => ktr_room); (case k9 => exact binds_K (by k_in) rfl (by k_is) rfl rfl rfl); (case c5 => decide); (case kB => exact locs rfl); (case c2 => exact rfl); (case c3 => exact rfl); (case c4 => exact rfl); k_whole; intro L' h' F' N' B' X' T')
  dsimp only
  generalize s.toks + List.length _ = tk0
  obtain ⟨dx, d, js, jp, od, es, lj, ta, tb, a1, a2, a3, a4, a5, a6, a7, t1, t2, t3, hI, hd0, hjs, hes, hE, hds⟩ := hpre
  k_steps
  unfold Stop
  with_reducible rename Heap => h9
  with_reducible rename Fr _ _ h9 _ => F1
  with_reducible rename News _ _ h9 _ => N1
  with_reducible rename (_ == sysModules) = false => hln
  with_reducible rename Obj.IsDictOf (PySem.intKind _ _) _ _ => hdn
  obtain ⟨nl, jd, ojd, bm, m1, w1, w2, w3, w4, w5, w6, w7, F1, N1, hdn, hln, hc1⟩ : ∃ (nl jd : Addr) (ojd : Obj) (bm : Addr) (m1 : PySem.Str → Option Value) (w1 w2 w3 w4 w5 w6 w7 : Tok), Fr s.heap L' h9 m1 ∧ News s.heap L' h9 [(jd, ojd), (nl, W.listOf #[] 0), (bm, bmOf "set.__contains__" (.ref js))] ∧ Obj.IsDictOf (PySem.intKind PR w) ojd [] ∧ (jd == sysModules) = false ∧
      ∀ p ∈ (Str.ofString "j2len", Value.ref jd) :: (bestF (alo : Int) (blo : Int) 0 w5 w6 w7 ++ cstF va vb ta tb d bm nl alo ahi blo bhi w1 w2 w3 w4), m1 p.1 = some p.2 :=
    ⟨_, _, _, _, _, _, _, _, _, _, _, _, F1, (fun p hp => N1 p (by
      rcases List.mem_cons.mp hp with rfl | hp
      · exact .tail _ (.head _)
      rcases List.mem_cons.mp hp with rfl | hp
      · exact .head _
      · rw [List.mem_singleton.mp hp]
        exact .tail _ (.tail _ (.tail _ (.tail _ (.head _)))))), hdn, hln, (List.forall_mem_cons.mpr ⟨rfl, List.forall_mem_cons.mpr ⟨rfl, List.forall_mem_cons.mpr ⟨rfl, List.forall_mem_cons.mpr ⟨rfl, List.forall_mem_cons.mpr ⟨rfl, List.forall_mem_cons.mpr ⟨rfl, List.forall_mem_cons.mpr ⟨rfl, List.forall_mem_cons.mpr ⟨rfl, List.forall_mem_cons.mpr ⟨rfl, List.forall_mem_cons.mpr ⟨rfl, List.forall_mem_cons.mpr ⟨rfl, List.forall_mem_cons.mpr ⟨rfl, List.forall_mem_cons.mpr ⟨rfl, (fun _ h => nomatch h)⟩⟩⟩⟩⟩⟩⟩⟩⟩⟩⟩⟩⟩)⟩
  exact loopF (by omega) (by omega) B' X' T' hA hB h1 h2 h3 h4 hd0 hjs hes hE hds hdn hln F1 N1 hc1 fun _ _ _ _ _ _ _ _ _ _ _ F3 e3 g3 hT => hret _ _ _ (Fr.keep F3) ⟨_, _, _, _, _, _, _, _, rfl, e3, g3, hT⟩

theorem flm0_ (x : Addr) (va vb : PySem.Str) (hA : va.cps.size < 100) (hB : vb.cps.size < 100) :
    PC w p loose mean mg mb 196 [.ref x] (fun h => SM w h x va vb) (fun h h' r => ∃ T dx bi bj bs v1 v2 v3, r = .ref T ∧ h.get? T = none ∧ h'.get? T = some (matchOb dx bi bj bs v1 v2 v3) ∧ TBest va.cps.toList vb.cps.toList 0 va.cps.size 0 vb.cps.size (-bs, bi, bj)) 16 150 := by
  unfold PC PR
  k_fill
  intro dp un gd cn cs a ccd cl outer A₀ base h₀ L m s Q E B F X T hk hd hu hpre hret
  refine wpAny_call ?_
  k_dflt (refine' code_pure (binds := [(S "self", .ref x), (S "alo", .int 0 464), (S "ahi", .none), (S "blo", .int 0 465), (S "bhi", .none)]) ?k1 ?k2 ?k3 ?k5 ?kA ?kF ?kK ?k6 ?k7 ?k8 ?k9 ?kB ?_ ?c2 ?c3 ?c4 ?c5; (case kA => exact rfl); (case kF => exact rfl); (case kK => assumption); (case k1 => k_asm); (case k2 => k_asm); (case k3 => k_asm); (case k5 => k_asm); (case k6 => k_is); (case k7 => k_is); (case k8 => ktr_room); (case k9 => exact binds_K (by k_in) rfl (by k_is) rfl rfl rfl); (case c5 => decide); (case kB => exact locs rfl); (case c2 => exact rfl); (case c3 => exact rfl); (case c4 => exact rfl); k_whole; intro L' h' F' N' B' X' T')
  dsimp only
  generalize s.toks + List.length _ = tk0
  have h1 : 0 ≤ va.cps.size := Nat.zero_le _
  have h3 : 0 ≤ vb.cps.size := Nat.zero_le _
  have h2 : va.cps.size ≤ va.cps.size := Nat.le_refl _
  have h4 : vb.cps.size ≤ vb.cps.size := Nat.le_refl _
  have hal : va.length < 100 := hA
  have hbl : vb.length < 100 := hB
  obtain ⟨dx, d, js, jp, od, es, lj, ta, tb, a1, a2, a3, a4, a5, a6, a7, t1, t2, t3, hI, hd0, hjs, hes, hE, hds⟩ := hpre
  k_steps
  unfold Stop
  with_reducible rename Heap => h9
  with_reducible rename Fr _ _ h9 _ => F1
  with_reducible rename News _ _ h9 _ => N1
  with_reducible rename (_ == sysModules) = false => hln
  with_reducible rename Obj.IsDictOf (PySem.intKind _ _) _ _ => hdn
  obtain ⟨nl, jd, ojd, bm, m1, w1, w2, w3, w4, w5, w6, w7, F1, N1, hdn, hln, hc1⟩ : ∃ (nl jd : Addr) (ojd : Obj) (bm : Addr) (m1 : PySem.Str → Option Value) (w1 w2 w3 w4 w5 w6 w7 : Tok), Fr s.heap L' h9 m1 ∧ News s.heap L' h9 [(jd, ojd), (nl, W.listOf #[] 0), (bm, bmOf "set.__contains__" (.ref js))] ∧ Obj.IsDictOf (PySem.intKind PR w) ojd [] ∧ (jd == sysModules) = false ∧
      ∀ p ∈ (Str.ofString "j2len", Value.ref jd) :: (bestF ((0 : Nat) : Int) ((0 : Nat) : Int) 0 w5 w6 w7 ++ cstF va vb ta tb d bm nl 0 va.cps.size 0 vb.cps.size w1 w2 w3 w4), m1 p.1 = some p.2 :=
    ⟨_, _, _, _, _, _, _, _, _, _, _, _, F1, (fun p hp => N1 p (by
      rcases List.mem_cons.mp hp with rfl | hp
      · exact .tail _ (.head _)
      rcases List.mem_cons.mp hp with rfl | hp
      · exact .head _
      · rw [List.mem_singleton.mp hp]
        exact .tail _ (.tail _ (.tail _ (.tail _ (.head _)))))), hdn, hln, (List.forall_mem_cons.mpr ⟨rfl, List.forall_mem_cons.mpr ⟨rfl, List.forall_mem_cons.mpr ⟨rfl, List.forall_mem_cons.mpr ⟨rfl, List.forall_mem_cons.mpr ⟨rfl, List.forall_mem_cons.mpr ⟨rfl, List.forall_mem_cons.mpr ⟨rfl, List.forall_mem_cons.mpr ⟨rfl, List.forall_mem_cons.mpr ⟨rfl, List.forall_mem_cons.mpr ⟨rfl, List.forall_mem_cons.mpr ⟨rfl, List.forall_mem_cons.mpr ⟨rfl, List.forall_mem_cons.mpr ⟨rfl, (fun _ h => nomatch h)⟩⟩⟩⟩⟩⟩⟩⟩⟩⟩⟩⟩⟩)⟩
  exact loopF (alo := 0) (ahi := va.cps.size) (blo := 0) (bhi := vb.cps.size) (by omega) (by omega) B' X' T' hA hB h1 h2 h3 h4 hd0 hjs hes hE hds hdn hln F1 N1 hc1 fun _ _ _ _ _ _ _ _ _ _ _ F3 e3 g3 hT => hret _ _ _ (Fr.keep F3) ⟨_, _, _, _, _, _, _, _, rfl, e3, g3, hT⟩
end
end Mine
end

-- R2
section
open PySem PySem.W PyProof.Rows
set_option maxRecDepth 100000
set_option maxHeartbeats 1000000
namespace Mine
/-- an octet as the law's rows hold them: no figure, none of A to F -/
noncomputable def OctOK (x : Int) : Prop := 0 ≤ x ∧ x < 256 ∧ ¬ ((48 ≤ x ∧ x ≤ 57) ∨ (65 ≤ x ∧ x ≤ 70))
theorem other_ok {x : Int} (h0 : 0 ≤ x) (h1 : x < 256) : OctOK (lawOther x) := by
  unfold OctOK lawOther
  split <;> (first | lia | omega)
theorem octet_in (q : Int) : 0 ≤ lawOctet q ∧ lawOctet q < 256 := by
  unfold lawOctet
  split
  · have h : ∀ n : Nat, 0 ≤ ([61, 233, 158, 211, 62, 32, 103, 45] : List Int).getD n 0 ∧ ([61, 233, 158, 211, 62, 32, 103, 45] : List Int).getD n 0 < 256 := by
      intro n
      by_cases c : n < 8
      · have : n = 0 ∨ n = 1 ∨ n = 2 ∨ n = 3 ∨ n = 4 ∨ n = 5 ∨ n = 6 ∨ n = 7 := by (first | lia | omega)
        rcases this with rfl | rfl | rfl | rfl | rfl | rfl | rfl | rfl <;> decide
      · rw [List.getD_eq_getElem?_getD, List.getElem?_eq_none (by simp; (first | lia | omega))]; decide
    exact h _
  · (first | lia | omega)
theorem octN_ok (n : Int) : OctOK (octN n) := other_ok (octet_in _).1 (octet_in _).2
/-- what the walk asks of a row -/
structure RowOK (r : List Int) (lo hi : Nat) : Prop where
  ok : ∀ x ∈ r, OctOK x
  lo : lo ≤ r.length
  hi : r.length ≤ hi
  wide : ∃ x ∈ r, 128 ≤ x
theorem left_ok {ns : List Int} (h : ns.length ≤ 5) : RowOK (leftL ns) 2 7 := by
  refine ⟨fun x hx => ?_, ?_, ?_, 158, by simp [leftL], by decide⟩
  · unfold leftL at hx
    rcases List.mem_append.mp hx with hx | hx
    · simp at hx
      rcases hx with rfl | rfl <;> (unfold OctOK; decide)
    · obtain ⟨n, _, hn⟩ := List.mem_flatMap.mp hx
      unfold lfT at hn
      split at hn
      · rw [List.mem_singleton.mp hn]; exact octN_ok n
      · exact absurd hn (by simp)
  · unfold leftL; simp
  · have := leftL_len ns; (first | lia | omega)
theorem right_ok {ns : List Int} (h : ns.length ≤ 5) : RowOK (rightL ns) 3 8 := by
  refine ⟨fun x hx => ?_, ?_, ?_, 233, by simp [rightL], by decide⟩
  · unfold rightL at hx
    rcases List.mem_append.mp hx with hx | hx
    · simp at hx
      rcases hx with rfl | rfl | rfl <;> (unfold OctOK; decide)
    · obtain ⟨n, _, hn⟩ := List.mem_flatMap.mp hx
      have hk := octN_ok n
      unfold rgT at hn
      split at hn
      · rw [List.mem_singleton.mp hn]; exact hk
      · split at hn
        · rw [List.mem_singleton.mp hn]
          unfold OctOK at hk
          rw [Int.fmod_eq_emod_of_nonneg _ (by decide), Int.fdiv_eq_ediv_of_nonneg _ (by decide)]
          exact other_ok (by first | lia | omega) (by first | lia | omega)
        · exact absurd hn (by simp)
  · unfold rightL; simp
  · have := rightL_len ns; (first | lia | omega)
theorem RowOK.oct {r : List Int} {lo hi : Nat} (h : RowOK r lo hi) : ∀ n ∈ r, 0 ≤ n ∧ n < 256 := fun n hn => ⟨(h.ok n hn).1, (h.ok n hn).2.1⟩
noncomputable abbrev bytA (r : List Int) : Array UInt8 := (r.map fun n => n.toNat.toUInt8).toArray
theorem enc_flat {r : List Int} {lo hi : Nat} (h : RowOK r lo hi) : encL (bytA r) = flatL r := by
  unfold encL flatL bytA
  simp only [List.flatMap_map]
  have : ∀ l : List Int, (∀ x ∈ l, OctOK x) → (l.flatMap fun a => tabL (a.toNat.toUInt8).toNat) = l.flatMap pieceL := by
    intro l
    induction l with
    | nil => intro _; rfl
    | cons x t ih =>
      intro hx
      have hk := hx x (.head _)
      unfold OctOK at hk
      rw [List.flatMap_cons, List.flatMap_cons, ih fun y hy => hx y (.tail _ hy)]
      congr 1
      have e : (x.toNat.toUInt8).toNat = x.toNat := by
        rw [Nat.toUInt8_eq, UInt8.toNat_ofNat']
        exact Nat.mod_eq_of_lt (by first | lia | omega)
      rw [e]
      unfold tabL
      rw [if_neg (by first | lia | omega), show ((x.toNat : Nat) : Int) = x by (first | lia | omega)]
  exact this r h.ok
theorem byt_size (r : List Int) : (bytA r).size = r.length := by simp [bytA]
theorem byt_wide {r : List Int} {lo hi : Nat} (h : RowOK r lo hi) : ((bytA r).all fun c => decide (c < 128)) = false := by
  obtain ⟨x, hx, hw⟩ := h.wide
  have hk := h.ok x hx
  unfold OctOK at hk
  rw [Array.all_eq_false]
  obtain ⟨i, hi, e⟩ := List.mem_iff_getElem.mp hx
  refine ⟨i, by rw [byt_size]; exact hi, ?_⟩
  simp only [bytA, List.getElem_toArray, List.getElem_map, e, decide_eq_true_eq]
  intro hlt
  have : (x.toNat.toUInt8).toNat < 128 := hlt
  rw [Nat.toUInt8_eq, UInt8.toNat_ofNat', Nat.mod_eq_of_lt (by first | lia | omega)] at this
  (first | lia | omega)
/-- a row's writing, with its brackets -/
noncomputable def wrapS (r : List Int) : PySem.Str := ⟨([61, 63, 113, 63, 113, 63] ++ flatL r ++ [63, 61]).toArray⟩
noncomputable def txtS (r : List Int) : PySem.Str := ⟨(flatL r).toArray⟩
end Mine
end

-- E12a
section
open PySem PySem.W PyProof.Rows PySem.Calls
set_option maxRecDepth 100000
set_option maxHeartbeats 0
namespace Mine
section
variable {w : World} {p : Program} {loose : List Str} {mean : MeanT} {mg mb : Str → Option Value}

noncomputable abbrev lawBody : List Stmt := bdOf (stAt NTOP 28)
theorem lst_of {h₀ h : Heap} {L a : Addr} {news : Led} {vs : List Value} {n : Nat} (N : News h₀ L h news) (hm : (a, W.listOf vs.toArray n) ∈ news) : h.IsList a vs.toArray := ⟨_, (N _ hm).1, rfl, _, rfl⟩
theorem byt_0 {r : List Int} {lo hi : Nat} (h : RowOK r lo hi) (hl : 0 < lo) : 0 < (bytA r).size := by rw [byt_size]; exact Nat.lt_of_lt_of_le hl h.lo
theorem byt_1 {r : List Int} {lo hi : Nat} (h : RowOK r lo hi) (hl : hi < 1000) : (bytA r).size < 1000 := by rw [byt_size]; exact Nat.lt_of_le_of_lt h.hi hl
section
variable {prog : Program} {w : World} {A : Around} {E : Value → Shared → Prop} {s : Shared} {h₀ : Heap} {L : Addr} {m : PySem.Str → Option Value} {news : Led}
theorem bytes_row {l : Addr} {vs : List Value} {r : List Int} {lo hi n : Nat} {Q : Value → Shared → Prop} (F : Fr h₀ L s.heap m) (N : News h₀ L s.heap news) (hm : (l, W.listOf vs.toArray n) ∈ news) (hi' : IntsAre vs r) (hr : RowOK r lo hi) (hz : hi < 1000) (hh : A.handled = none)
    (h : ∀ h' t k, Fr h₀ L h' m → News h₀ L h' news → Q (.bytes (bytA r) t) { s with heap := h', toks := k }) : wpAny (model prog w) A (call (.type "bytes") [.ref l]) Q E s :=
  bytes_K F N (lst_of N hm) hi' hr.oct (by rw [hi'.length, sizeLine_eq]; have := hr.hi; (first | lia | omega)) hh fun h' t k F' N' _ => h h' t k F' N'
end
section
local macro_rules | `(tactic| walk_at "execs cons Assign") => `(tactic| refine stop_ ?_)

theorem lawA {dp un : Nat} {gd : Option (List Code)} {fa : Addr} {cd : Value} {outer : List Env} {A₀ : Around} {base h₀ : Heap} {L : Addr} {m : PySem.Str → Option Value} {s : Shared} {Post : Flow → Shared → Prop} {E : Value → Shared → Prop} {h : Heap} {tk : Nat} {l : Addr} {vs : List Value} {ns : List Int}
    (B : Below A₀ base outer h₀) (X : (KK w.params).In h₀) (T : Top p loose mean mg mb h₀) (hd : dp + 40 < recursionLimit) (hu : un + 400 < cLine)
    (hl : h₀.IsList l vs.toArray) (hI : IntsAre vs ns) (hn : ns.length < 64)
    (F : Fr h₀ L h (fun y => List.lookup y [(S "script", Value.ref l)].reverse)) (N : News h₀ L h [])
    (hend : ∀ h' tk' m' nl us ms, Fr h₀ L h' m' → News h₀ L h' [(nl, W.listOf us.toArray 0)] → IntsAre us ms → ms.length ≤ 5 → (∀ x ∈ ms, x ∈ ns ∨ x ∈ [700, 12, 3]) → m' (S "numbers") = some (.ref nl) →
      wpAny (model PR w) (ktrTop dp un gd (S "law") (scOf (stAt NTOP 28)) L fa cd [] outer) (execs (lawBody.drop 1) (envX (S "law") (scOf (stAt NTOP 28)) L fa cd [])) Post E { s with heap := h', toks := tk' }) :
    wpAny (model PR w) (ktrTop dp un gd (S "law") (scOf (stAt NTOP 28)) L fa cd [] outer) (execs (lawBody.drop 0) (envX (S "law") (scOf (stAt NTOP 28)) L fa cd [])) Post E { s with heap := h, toks := tk } := by
  unfold PR
  revert X
  k_fill
  intro X
  unfold PR at hend
  k_steps
  all_goals (
    unfold Stop
    with_reducible rename Fr _ _ _ _ => F1
    with_reducible rename News _ _ _ _ => N1
  )
  · exact hend _ _ _ _ _ _ F1 N1 (by assumption) (by rw [List.length_take]; (first | lia | omega)) (fun x hx => .inl (List.mem_of_mem_take hx)) rfl
  · exact hend _ _ _ _ [_, _, _] [700, 12, 3] F1 (fun p hp => N1 p (by rw [List.mem_singleton.mp hp]; exact .head _)) (.cons 700 _ (.cons 12 _ (.cons 3 _ .nil))) (by decide) (fun x hx => .inr hx) rfl

theorem lawB {dp un : Nat} {gd : Option (List Code)} {fa : Addr} {cd : Value} {outer : List Env} {A₀ : Around} {base h₀ : Heap} {L : Addr} {m : PySem.Str → Option Value} {s : Shared} {Post : Flow → Shared → Prop} {E : Value → Shared → Prop} {h : Heap} {tk : Nat} {nl : Addr} {us : List Value} {ns : List Int} {k0 : Nat}
    (B : Below A₀ base outer h₀) (X : (KK w.params).In h₀) (T : Top p loose mean mg mb h₀) (hd : dp + 40 < recursionLimit) (hu : un + 400 < cLine)
    (hI : IntsAre us ns) (hn : ns.length ≤ 5)
    (F : Fr h₀ L h m) (N : News h₀ L h [(nl, W.listOf us.toArray k0)]) (hc : ∀ p ∈ [(S "numbers", Value.ref nl)], m p.1 = some p.2)
    (hend : ∀ h' tk' m' la lb us1 us2 n1 n2, Fr h₀ L h' m' → News h₀ L h' [(la, W.listOf us1.toArray n1), (lb, W.listOf us2.toArray n2), (nl, W.listOf us.toArray k0)] → IntsAre us1 (leftL ns) → IntsAre us2 (rightL ns) → (@Ne Nat la lb ∧ @Ne Nat la nl ∧ @Ne Nat lb nl) →
      (∀ p ∈ [(S "left", Value.ref la), (S "right", .ref lb), (S "numbers", .ref nl)], m' p.1 = some p.2) →
      wpAny (model PR w) (ktrTop dp un gd (S "law") (scOf (stAt NTOP 28)) L fa cd [] outer) (execs (lawBody.drop 2) (envX (S "law") (scOf (stAt NTOP 28)) L fa cd [])) Post E { s with heap := h', toks := tk' }) :
    wpAny (model PR w) (ktrTop dp un gd (S "law") (scOf (stAt NTOP 28)) L fa cd [] outer) (execs (lawBody.drop 1) (envX (S "law") (scOf (stAt NTOP 28)) L fa cd [])) Post E { s with heap := h, toks := tk } := by
  unfold PR
  revert X
  k_fill
  intro X
  unfold PR at hend
  replace F := fr_ovl hc F
  dsimp only [ovl] at F
  k_steps
  repeat (
    any_goals first
      | with_reducible (k_here; (with_reducible show wpAny _ _ (call (Value.ref 296) [Value.ref _]) _ _ _); (k_dflt (refine' pc_use (rows_ _ _ _ ?p0 ?p1) ?k1 ?k2 ?k3 ?kN ?k5 ?kK ?kd ?ku ?kp ?_; (case k1 | k2 | k3 | kN | k5 => k_asm); (case kK => first | exact rfl | assumption); (case kd => ktr_room); (case ku => ktr_units); (case kp => exact lst_of (by assumption) (by k_mem)); (case p0 | p1 => assumption); intro r9 h9 tk9 st9 F9 N9 o9; obtain ⟨T9, a9, b9, us9, vs9, n9, m9, e9, fT9, fa9, fb9, l19, l29, gT9, ga9, gb9, i19, i29⟩ := o9; subst e9; (have x9 := news_ne (by assumption) fa9); (have y9 := news_ne (by assumption) fb9); (have z9 := news_ne (by assumption) fT9); (replace N9 := news_in' (by assumption) N9 fa9 ga9); (replace N9 := news_in' (by assumption) N9 fb9 gb9); (replace N9 := news_in' (by assumption) N9 fT9 gT9); (try simp only [AllNe, and_true] at x9 y9 z9); (try k_sweep))))
      | (k_here; (with_reducible show wpAny _ _ (call (Value.ref 296) [Value.ref _]) _ _ _); (k_dflt (refine' pc_use (rows_ _ _ _ ?p0 ?p1) ?k1 ?k2 ?k3 ?kN ?k5 ?kK ?kd ?ku ?kp ?_; (case k1 | k2 | k3 | kN | k5 => k_asm); (case kK => first | exact rfl | assumption); (case kd => ktr_room); (case ku => ktr_units); (case kp => exact lst_of (by assumption) (by k_mem)); (case p0 | p1 => assumption); intro r9 h9 tk9 st9 F9 N9 o9; obtain ⟨T9, a9, b9, us9, vs9, n9, m9, e9, fT9, fa9, fb9, l19, l29, gT9, ga9, gb9, i19, i29⟩ := o9; subst e9; (have x9 := news_ne (by assumption) fa9); (have y9 := news_ne (by assumption) fb9); (have z9 := news_ne (by assumption) fT9); (replace N9 := news_in' (by assumption) N9 fa9 ga9); (replace N9 := news_in' (by assumption) N9 fb9 gb9); (replace N9 := news_in' (by assumption) N9 fT9 gT9); (try simp only [AllNe, and_true] at x9 y9 z9); (try k_sweep))))
      | fail
    all_goals k_steps)
  unfold Stop
  with_reducible rename Fr _ _ _ _ => F1
  with_reducible rename News _ _ _ _ => N1
  exact hend _ _ _ _ _ _ _ _ _ F1 (fun p hp => N1 p (by
    rcases List.mem_cons.mp hp with rfl | hp
    · exact .tail _ (.tail _ (.head _))
    rcases List.mem_cons.mp hp with rfl | hp
    · exact .tail _ (.head _)
    · exact .tail _ (.tail _ (.tail _ hp)))) (by assumption) (by assumption) ⟨Nat.ne_of_lt (by assumption), by (first | lia | omega), by (first | lia | omega)⟩ (List.forall_mem_cons.mpr ⟨rfl, List.forall_mem_cons.mpr ⟨rfl, List.forall_mem_cons.mpr ⟨rfl, (fun _ h => nomatch h)⟩⟩⟩)
end
section
local macro_rules | `(tactic| walk_at "execs cons If") => `(tactic| refine stop_ ?_)

theorem lawC {dp un : Nat} {gd : Option (List Code)} {fa : Addr} {cd : Value} {outer : List Env} {A₀ : Around} {base h₀ : Heap} {L : Addr} {m : PySem.Str → Option Value} {s : Shared} {Post : Flow → Shared → Prop} {E : Value → Shared → Prop} {h : Heap} {tk : Nat} {nl la lb : Addr} {us us1 us2 : List Value} {ns Lf Rg : List Int} {k0 n1 n2 : Nat}
    (B : Below A₀ base outer h₀) (X : (KK w.params).In h₀) (T : Top p loose mean mg mb h₀) (hd : dp + 40 < recursionLimit) (hu : un + 400 < cLine)
    (hI : IntsAre us ns) (hI1 : IntsAre us1 Lf) (hI2 : IntsAre us2 Rg) (hL : RowOK Lf 2 7) (hR : RowOK Rg 3 8)
    (F : Fr h₀ L h m) (N : News h₀ L h [(la, W.listOf us1.toArray n1), (lb, W.listOf us2.toArray n2), (nl, W.listOf us.toArray k0)]) (hc : ∀ p ∈ [(S "left", Value.ref la), (S "right", .ref lb), (S "numbers", .ref nl)], m p.1 = some p.2)
    (hend : ∀ h' tk' m' t1 t2, Fr h₀ L h' m' → News h₀ L h' [(la, W.listOf us1.toArray n1), (lb, W.listOf us2.toArray n2), (nl, W.listOf us.toArray k0)] →
      (∀ p ∈ [(S "one", Value.str (wrapS Lf) t1), (S "other", .str (wrapS Rg) t2), (S "left", Value.ref la), (S "right", .ref lb), (S "numbers", .ref nl)], m' p.1 = some p.2) →
      wpAny (model PR w) (ktrTop dp un gd (S "law") (scOf (stAt NTOP 28)) L fa cd [] outer) (execs (lawBody.drop 3) (envX (S "law") (scOf (stAt NTOP 28)) L fa cd [])) Post E { s with heap := h', toks := tk' }) :
    wpAny (model PR w) (ktrTop dp un gd (S "law") (scOf (stAt NTOP 28)) L fa cd [] outer) (execs (lawBody.drop 2) (envX (S "law") (scOf (stAt NTOP 28)) L fa cd [])) Post E { s with heap := h, toks := tk } := by
  unfold PR
  revert X
  k_fill
  intro X
  unfold PR at hend
  replace F := fr_ovl hc F
  dsimp only [ovl] at F
  k_steps
  repeat (
    any_goals first
      | with_reducible (k_here; (with_reducible show wpAny _ _ (call (Value.ref 270) [Value.bytes _ _, Value.str _ _]) _ _ _); (k_dflt (refine' pc_use (henc_ _ _ _ ?p0 ?p1 ?p2) ?k1 ?k2 ?k3 ?kN ?k5 ?kK ?kd ?ku ?kp ?_; (case k1 | k2 | k3 | kN | k5 => k_asm); (case kK => first | exact rfl | assumption); (case kd => ktr_room); (case ku => ktr_units); (case kp => trivial); (case p0 => exact byt_0 (by assumption) (by decide)); (case p1 => exact byt_1 (by assumption) (by decide)); (case p2 => exact byt_wide (by assumption)); intro r9 h9 tk9 st9 F9 N9 o9; obtain ⟨t9, e9⟩ := o9; (rw [enc_flat (by assumption)] at e9); subst e9; (try k_sweep))))
      | (k_here; (with_reducible show wpAny _ _ (call (Value.ref 270) [Value.bytes _ _, Value.str _ _]) _ _ _); (k_dflt (refine' pc_use (henc_ _ _ _ ?p0 ?p1 ?p2) ?k1 ?k2 ?k3 ?kN ?k5 ?kK ?kd ?ku ?kp ?_; (case k1 | k2 | k3 | kN | k5 => k_asm); (case kK => first | exact rfl | assumption); (case kd => ktr_room); (case ku => ktr_units); (case kp => trivial); (case p0 => exact byt_0 (by assumption) (by decide)); (case p1 => exact byt_1 (by assumption) (by decide)); (case p2 => exact byt_wide (by assumption)); intro r9 h9 tk9 st9 F9 N9 o9; obtain ⟨t9, e9⟩ := o9; (rw [enc_flat (by assumption)] at e9); subst e9; (try k_sweep))))
      | with_reducible (k_here; (with_reducible show wpAny _ _ (call (Value.type "bytes") [Value.ref _]) _ _ _); k_dflt (refine' bytes_row ?k1 ?k2 ?k3 ?k4 ?k5 ?k6 ?k7 ?_; (case k1 | k2 => k_asm); (case k3 => k_mem); (case k4 | k5 => with_reducible assumption); (case k6 => decide); (case k7 => with_unfolding_all rfl); k_whole); intro h' t' k' F' N'; (try k_sweep))
      | (k_here; (with_reducible show wpAny _ _ (call (Value.type "bytes") [Value.ref _]) _ _ _); k_dflt (refine' bytes_row ?k1 ?k2 ?k3 ?k4 ?k5 ?k6 ?k7 ?_; (case k1 | k2 => k_asm); (case k3 => k_mem); (case k4 | k5 => with_reducible assumption); (case k6 => decide); (case k7 => with_unfolding_all rfl); k_whole); intro h' t' k' F' N'; (try k_sweep))
      | fail
    all_goals k_steps)
  unfold Stop
  with_reducible rename Fr _ _ _ _ => F1
  with_reducible rename News _ _ _ _ => N1
  exact hend _ _ _ _ _ F1 (fun p hp => N1 p (.tail _ hp)) (List.forall_mem_cons.mpr ⟨rfl, List.forall_mem_cons.mpr ⟨rfl, List.forall_mem_cons.mpr ⟨rfl, List.forall_mem_cons.mpr ⟨rfl, List.forall_mem_cons.mpr ⟨rfl, (fun _ h => nomatch h)⟩⟩⟩⟩⟩)
end
end
end Mine
end

-- E12b
section
open PySem PySem.W PyProof.Rows PySem.Calls
set_option maxRecDepth 100000
set_option maxHeartbeats 0
namespace Mine
section
variable {w : World} {p : Program} {loose : List Str} {mean : MeanT} {mg mb : Str → Option Value}

theorem sjoin_flat : ∀ r : List Int, PySem.Str.join (Str.ofString "") (r.map pieceStr) = txtS r
  | [] => rfl
  | [x] => by
    show pieceStr x = txtS [x]
    unfold pieceStr txtS flatL
    simp
  | x :: y :: t => by
    show pieceStr x ++ Str.ofString "" ++ PySem.Str.join (Str.ofString "") ((y :: t).map pieceStr) = _
    rw [sjoin_flat (y :: t)]
    have e : Str.ofString "" = ⟨#[]⟩ := by decide +kernel
    rw [e]
    apply Str.ext'
    simp only [Str.cps_append]
    apply Array.ext'
    simp [pieceStr, txtS, flatL]
theorem join_flat (r : List Int) : Txt.join (Str.ofString "") (r.map pieceStr) = txtS r := (StrLaws.glued_eq_join _ _).trans (sjoin_flat r)
theorem strs_row : ∀ (ys : List Value) (r : List Int), ys.length = r.length → (∀ (j : Nat) y, ys[j]? = some y → ∃ t, y = Value.str (pieceStr (r.getD j 0)) t) → StrsAre ys (r.map pieceStr)
  | [], [], _, _ => .nil
  | y :: ys, x :: r, hl, hv => by
    obtain ⟨t, e⟩ := hv 0 y rfl
    rw [e]
    exact .cons _ t (strs_row ys r (by simpa using hl) fun j z hz => by simpa using hv (j + 1) z (by simpa using hz))
  | [], _ :: _, hl, _ => by simp at hl
  | _ :: _, [], hl, _ => by simp at hl
theorem txt_len (r : List Int) {n : Nat} (h : r.length ≤ n) : (txtS r).length ≤ 3 * n := by
  have := flatL_len r
  show (flatL r).toArray.size ≤ _
  rw [List.size_toArray]
  (first | lia | omega)
theorem wrap_eq (r : List Int) : Str.ofString "=?q?q?" ++ txtS r ++ Str.ofString "?=" = wrapS r := by
  have e : Str.ofString "=?q?q?" = ⟨#[61, 63, 113, 63, 113, 63]⟩ := by decide +kernel
  have e' : Str.ofString "?=" = ⟨#[63, 61]⟩ := by decide +kernel
  rw [e, e']
  apply Str.ext'
  simp only [Str.cps_append]
  apply Array.ext'
  simp [txtS, wrapS]
section
variable {prog : Program} {w : World} {A : Around} {E : Value → Shared → Prop} {s : Shared} {h₀ : Heap} {L : Addr} {news : Led}
theorem join_row {D : Addr} {ys : List Value} {r : List Int} {t : Tok} {Q : Value → Shared → Prop} (N : News h₀ L s.heap news) (hm : (D, LCg.lst ys) ∈ news) (hl : ys.length = r.length) (hv : ∀ (j : Nat) y, ys[j]? = some y → ∃ t, y = Value.str (pieceStr (r.getD j 0)) t) (hr : r.length ≤ 8)
    (h : ∀ t' k, Q (.str (txtS r) t') { s with toks := k }) : wpAny (model prog w) A (call (.builtin "str.join") [.str (Str.ofString "") t, .ref D]) Q E s := by
  refine join_listC (items := ys.toArray) (ys := r.map pieceStr) ⟨_, (N _ hm).1, rfl, _, rfl⟩ (strs_row _ _ hl hv) (by decide) ?_ fun t' k => ?_
  · have : ∀ r : List Int, ((r.map pieceStr).map (·.length)).sum ≤ 3 * r.length := by
      intro r
      induction r with
      | nil => exact Nat.le_refl _
      | cons x r ih =>
        have := pieceStr_len x
        simp only [List.map_cons, List.sum_cons, List.length_cons]
        (first | lia | omega)
    have h1 := this r
    rw [List.length_map]
    (first | lia | omega)
  · rw [join_flat]; exact h t' k
end
local macro_rules | `(tactic| walk_at "CompSrc") => `(tactic| refine stop_ ?_)
local macro_rules | `(tactic| walk_at "execs cons If") => `(tactic| refine stop_ ?_)
local macro_rules | `(tactic| walk_at "execs cons Assign") => `(tactic| refine stop_ ?_)
theorem lawD1 {dp un : Nat} {gd : Option (List Code)} {fa : Addr} {cd : Value} {outer : List Env} {A₀ : Around} {base h₀ : Heap} {L : Addr} {m : PySem.Str → Option Value} {s : Shared} {Post : Flow → Shared → Prop} {E : Value → Shared → Prop} {h : Heap} {tk : Nat} {nl la lb : Addr} {us us1 us2 : List Value} {ns Lf Rg : List Int} {k0 n1 n2 : Nat} {t1 t2 : Tok}
    (B : Below A₀ base outer h₀) (X : (KK w.params).In h₀) (T : Top p loose mean mg mb h₀) (hd : dp + 40 < recursionLimit) (hu : un + 400 < cLine)
    (hI : IntsAre us ns) (hI1 : IntsAre us1 Lf) (hI2 : IntsAre us2 Rg) (hL : RowOK Lf 2 7) (hR : RowOK Rg 3 8)
    (F : Fr h₀ L h m) (N : News h₀ L h [(la, W.listOf us1.toArray n1), (lb, W.listOf us2.toArray n2), (nl, W.listOf us.toArray k0)])
    (hc : ∀ p ∈ [(S "one", Value.str (wrapS Lf) t1), (S "other", .str (wrapS Rg) t2), (S "left", Value.ref la), (S "right", .ref lb), (S "numbers", .ref nl)], m p.1 = some p.2)
    (hend : ∀ h' tk' m', Fr h₀ L h' m' → News h₀ L h' [(la, W.listOf us1.toArray n1), (lb, W.listOf us2.toArray n2), (nl, W.listOf us.toArray k0)] →
      (∀ p ∈ [(S "one", Value.str (wrapS Lf) t1), (S "other", .str (wrapS Rg) t2), (S "left", Value.ref la), (S "right", .ref lb), (S "numbers", .ref nl)], m' p.1 = some p.2) →
      wpAny (model PR w) (ktrTop dp un gd (S "law") (scOf (stAt NTOP 28)) L fa cd [] outer) (execs (lawBody.drop 4) (envX (S "law") (scOf (stAt NTOP 28)) L fa cd [])) Post E { s with heap := h', toks := tk' }) :
    wpAny (model PR w) (ktrTop dp un gd (S "law") (scOf (stAt NTOP 28)) L fa cd [] outer) (execs (lawBody.drop 3) (envX (S "law") (scOf (stAt NTOP 28)) L fa cd [])) Post E { s with heap := h, toks := tk } := by
  unfold PR
  revert X
  k_fill
  intro X
  unfold PR at hend
  replace F := fr_ovl hc F
  dsimp only [ovl] at F
  k_steps
  repeat (
    any_goals first
      | with_reducible (k_here; (with_reducible show wpAny _ _ (call (Value.ref 303) [Value.int _ _]) _ _ _); (k_dflt (refine' pc_use (piece_ _ _ ?q0 ?q1) ?k1 ?k2 ?k3 ?kN ?k5 ?kK ?kd ?ku ?kp ?_; (case k1 | k2 | k3 | kN | k5 => k_asm); (case kK => first | exact rfl | assumption); (case kd => ktr_room); (case ku => ktr_units); (case kp => trivial); (case q0 | q1 => with_reducible assumption); intro r9 h9 tk9 st9 F9 N9 o9; obtain ⟨t9, e9⟩ := o9; subst e9; (try k_sweep))))
      | (k_here; (with_reducible show wpAny _ _ (call (Value.ref 303) [Value.int _ _]) _ _ _); (k_dflt (refine' pc_use (piece_ _ _ ?q0 ?q1) ?k1 ?k2 ?k3 ?kN ?k5 ?kK ?kd ?ku ?kp ?_; (case k1 | k2 | k3 | kN | k5 => k_asm); (case kK => first | exact rfl | assumption); (case kd => ktr_room); (case ku => ktr_units); (case kp => trivial); (case q0 | q1 => with_reducible assumption); intro r9 h9 tk9 st9 F9 N9 o9; obtain ⟨t9, e9⟩ := o9; subst e9; (try k_sweep))))
      | with_reducible (k_here; (with_reducible show wpAny _ _ (call (Value.builtin "str.join") [Value.str _ _, Value.ref _]) _ _ _); k_dflt (refine' join_row ?k1 ?k2 ?k3 ?k4 ?k5 ?_; (case k1 => k_asm); (case k2 => k_mem); (case k4 | k3 => with_reducible assumption); (case k5 => (first | lia | omega)); k_whole; intro t9' k9'))
      | (k_here; (with_reducible show wpAny _ _ (call (Value.builtin "str.join") [Value.str _ _, Value.ref _]) _ _ _); k_dflt (refine' join_row ?k1 ?k2 ?k3 ?k4 ?k5 ?_; (case k1 => k_asm); (case k2 => k_mem); (case k4 | k3 => with_reducible assumption); (case k5 => (first | lia | omega)); k_whole; intro t9' k9'))
      | fail
    all_goals k_steps)
  unfold Stop
  with_reducible rename Fr _ _ _ _ => F1
  with_reducible rename News _ _ _ _ => N1
  have hll := hL.lo
  have hlh := hL.hi
  have hus := hI1.length
  refine LCg.CompSrc.ledger (its := us1.toArray) rfl F1 N1 (by k_mem) (by rw [sizeLine_eq, List.size_toArray]; (first | lia | omega)) ?_
  intro g
  refine comp_keep (fun j y => ∃ t, y = .str (pieceStr (Lf.getD j 0)) t) (.inr ⟨_, by k_mem, rfl, _, rfl⟩) ?_ ?_
  · rintro i v I oI C oC D ys m₂ h tk E' hi hP hC hx F2 N2 off ne
    rw [List.size_toArray, hI1.length] at hi
    obtain ⟨tv, ht⟩ := IntsAre.get hI1 i _ (List.getElem?_eq_getElem hi)
    obtain rfl : v = .int Lf[i] tv := by simpa [ht] using hP.symm
    have ho := hL.oct _ (List.getElem_mem hi)
    have eg : Lf.getD i 0 = Lf[i] := by rw [List.getD_eq_getElem?_getD, List.getElem?_eq_getElem hi]; rfl
    rw [eg]
    generalize Lf[i] = xo at *
    obtain ⟨ho0, ho1⟩ := ho
    clear F1 N1
    k_steps
    repeat (
      any_goals first
        | with_reducible (k_here; (with_reducible show wpAny _ _ (call (Value.ref 303) [Value.int _ _]) _ _ _); (k_dflt (refine' pc_use (piece_ _ _ ?q0 ?q1) ?k1 ?k2 ?k3 ?kN ?k5 ?kK ?kd ?ku ?kp ?_; (case k1 | k2 | k3 | kN | k5 => k_asm); (case kK => first | exact rfl | assumption); (case kd => ktr_room); (case ku => ktr_units); (case kp => trivial); (case q0 | q1 => with_reducible assumption); intro r9 h9 tk9 st9 F9 N9 o9; obtain ⟨t9, e9⟩ := o9; subst e9; (try k_sweep))))
        | (k_here; (with_reducible show wpAny _ _ (call (Value.ref 303) [Value.int _ _]) _ _ _); (k_dflt (refine' pc_use (piece_ _ _ ?q0 ?q1) ?k1 ?k2 ?k3 ?kN ?k5 ?kK ?kd ?ku ?kp ?_; (case k1 | k2 | k3 | kN | k5 => k_asm); (case kK => first | exact rfl | assumption); (case kd => ktr_room); (case ku => ktr_units); (case kp => trivial); (case q0 | q1 => with_reducible assumption); intro r9 h9 tk9 st9 F9 N9 o9; obtain ⟨t9, e9⟩ := o9; subst e9; (try k_sweep))))
        | with_reducible (k_here; (with_reducible show wpAny _ _ (call (Value.builtin "str.join") [Value.str _ _, Value.ref _]) _ _ _); k_dflt (refine' join_row ?k1 ?k2 ?k3 ?k4 ?k5 ?_; (case k1 => k_asm); (case k2 => k_mem); (case k4 | k3 => with_reducible assumption); (case k5 => (first | lia | omega)); k_whole; intro t9' k9'))
        | (k_here; (with_reducible show wpAny _ _ (call (Value.builtin "str.join") [Value.str _ _, Value.ref _]) _ _ _); k_dflt (refine' join_row ?k1 ?k2 ?k3 ?k4 ?k5 ?_; (case k1 => k_asm); (case k2 => k_mem); (case k4 | k3 => with_reducible assumption); (case k5 => (first | lia | omega)); k_whole; intro t9' k9'))
        | fail
      all_goals k_steps)
    assumption
  · intro ys hys hyv D h tk F2 N2 off
    clear F1 N1
    rw [List.size_toArray, hI1.length] at hys
    have hsz := txt_len Lf (n := 8) (by (first | lia | omega))
    k_steps
    repeat (
      any_goals first
        | with_reducible (k_here; (with_reducible show wpAny _ _ (call (Value.ref 303) [Value.int _ _]) _ _ _); (k_dflt (refine' pc_use (piece_ _ _ ?q0 ?q1) ?k1 ?k2 ?k3 ?kN ?k5 ?kK ?kd ?ku ?kp ?_; (case k1 | k2 | k3 | kN | k5 => k_asm); (case kK => first | exact rfl | assumption); (case kd => ktr_room); (case ku => ktr_units); (case kp => trivial); (case q0 | q1 => with_reducible assumption); intro r9 h9 tk9 st9 F9 N9 o9; obtain ⟨t9, e9⟩ := o9; subst e9; (try k_sweep))))
        | (k_here; (with_reducible show wpAny _ _ (call (Value.ref 303) [Value.int _ _]) _ _ _); (k_dflt (refine' pc_use (piece_ _ _ ?q0 ?q1) ?k1 ?k2 ?k3 ?kN ?k5 ?kK ?kd ?ku ?kp ?_; (case k1 | k2 | k3 | kN | k5 => k_asm); (case kK => first | exact rfl | assumption); (case kd => ktr_room); (case ku => ktr_units); (case kp => trivial); (case q0 | q1 => with_reducible assumption); intro r9 h9 tk9 st9 F9 N9 o9; obtain ⟨t9, e9⟩ := o9; subst e9; (try k_sweep))))
        | with_reducible (k_here; (with_reducible show wpAny _ _ (call (Value.builtin "str.join") [Value.str _ _, Value.ref _]) _ _ _); k_dflt (refine' join_row ?k1 ?k2 ?k3 ?k4 ?k5 ?_; (case k1 => k_asm); (case k2 => k_mem); (case k4 | k3 => with_reducible assumption); (case k5 => (first | lia | omega)); k_whole; intro t9' k9'))
        | (k_here; (with_reducible show wpAny _ _ (call (Value.builtin "str.join") [Value.str _ _, Value.ref _]) _ _ _); k_dflt (refine' join_row ?k1 ?k2 ?k3 ?k4 ?k5 ?_; (case k1 => k_asm); (case k2 => k_mem); (case k4 | k3 => with_reducible assumption); (case k5 => (first | lia | omega)); k_whole; intro t9' k9'))
        | fail
      all_goals k_steps)
    · exfalso
      with_reducible rename (_ != _) = true => hne
      rw [wrap_eq] at hne
      simp at hne
    · unfold Stop
      with_reducible rename Fr _ _ _ _ => F1
      with_reducible rename News _ _ _ _ => N1
      exact hend _ _ _ F1 (fun p hp => N1 p (.tail _ hp)) (List.forall_mem_cons.mpr ⟨rfl, List.forall_mem_cons.mpr ⟨rfl, List.forall_mem_cons.mpr ⟨rfl, List.forall_mem_cons.mpr ⟨rfl, List.forall_mem_cons.mpr ⟨rfl, (fun _ h => nomatch h)⟩⟩⟩⟩⟩)
theorem lawD2 {dp un : Nat} {gd : Option (List Code)} {fa : Addr} {cd : Value} {outer : List Env} {A₀ : Around} {base h₀ : Heap} {L : Addr} {m : PySem.Str → Option Value} {s : Shared} {Post : Flow → Shared → Prop} {E : Value → Shared → Prop} {h : Heap} {tk : Nat} {nl la lb : Addr} {us us1 us2 : List Value} {ns Lf Rg : List Int} {k0 n1 n2 : Nat} {t1 t2 : Tok}
    (B : Below A₀ base outer h₀) (X : (KK w.params).In h₀) (T : Top p loose mean mg mb h₀) (hd : dp + 40 < recursionLimit) (hu : un + 400 < cLine)
    (hI : IntsAre us ns) (hI1 : IntsAre us1 Lf) (hI2 : IntsAre us2 Rg) (hL : RowOK Lf 2 7) (hR : RowOK Rg 3 8)
    (F : Fr h₀ L h m) (N : News h₀ L h [(la, W.listOf us1.toArray n1), (lb, W.listOf us2.toArray n2), (nl, W.listOf us.toArray k0)])
    (hc : ∀ p ∈ [(S "one", Value.str (wrapS Lf) t1), (S "other", .str (wrapS Rg) t2), (S "left", Value.ref la), (S "right", .ref lb), (S "numbers", .ref nl)], m p.1 = some p.2)
    (hend : ∀ h' tk' m', Fr h₀ L h' m' → News h₀ L h' [(la, W.listOf us1.toArray n1), (lb, W.listOf us2.toArray n2), (nl, W.listOf us.toArray k0)] →
      (∀ p ∈ [(S "one", Value.str (wrapS Lf) t1), (S "other", .str (wrapS Rg) t2), (S "left", Value.ref la), (S "right", .ref lb), (S "numbers", .ref nl)], m' p.1 = some p.2) →
      wpAny (model PR w) (ktrTop dp un gd (S "law") (scOf (stAt NTOP 28)) L fa cd [] outer) (execs (lawBody.drop 5) (envX (S "law") (scOf (stAt NTOP 28)) L fa cd [])) Post E { s with heap := h', toks := tk' }) :
    wpAny (model PR w) (ktrTop dp un gd (S "law") (scOf (stAt NTOP 28)) L fa cd [] outer) (execs (lawBody.drop 4) (envX (S "law") (scOf (stAt NTOP 28)) L fa cd [])) Post E { s with heap := h, toks := tk } := by
  unfold PR
  revert X
  k_fill
  intro X
  unfold PR at hend
  replace F := fr_ovl hc F
  dsimp only [ovl] at F
  k_steps
  repeat (
    any_goals first
      | with_reducible (k_here; (with_reducible show wpAny _ _ (call (Value.ref 303) [Value.int _ _]) _ _ _); (k_dflt (refine' pc_use (piece_ _ _ ?q0 ?q1) ?k1 ?k2 ?k3 ?kN ?k5 ?kK ?kd ?ku ?kp ?_; (case k1 | k2 | k3 | kN | k5 => k_asm); (case kK => first | exact rfl | assumption); (case kd => ktr_room); (case ku => ktr_units); (case kp => trivial); (case q0 | q1 => with_reducible assumption); intro r9 h9 tk9 st9 F9 N9 o9; obtain ⟨t9, e9⟩ := o9; subst e9; (try k_sweep))))
      | (k_here; (with_reducible show wpAny _ _ (call (Value.ref 303) [Value.int _ _]) _ _ _); (k_dflt (refine' pc_use (piece_ _ _ ?q0 ?q1) ?k1 ?k2 ?k3 ?kN ?k5 ?kK ?kd ?ku ?kp ?_; (case k1 | k2 | k3 | kN | k5 => k_asm); (case kK => first | exact rfl | assumption); (case kd => ktr_room); (case ku => ktr_units); (case kp => trivial); (case q0 | q1 => with_reducible assumption); intro r9 h9 tk9 st9 F9 N9 o9; obtain ⟨t9, e9⟩ := o9; subst e9; (try k_sweep))))
      | with_reducible (k_here; (with_reducible show wpAny _ _ (call (Value.builtin "str.join") [Value.str _ _, Value.ref _]) _ _ _); k_dflt (refine' join_row ?k1 ?k2 ?k3 ?k4 ?k5 ?_; (case k1 => k_asm); (case k2 => k_mem); (case k4 | k3 => with_reducible assumption); (case k5 => (first | lia | omega)); k_whole; intro t9' k9'))
      | (k_here; (with_reducible show wpAny _ _ (call (Value.builtin "str.join") [Value.str _ _, Value.ref _]) _ _ _); k_dflt (refine' join_row ?k1 ?k2 ?k3 ?k4 ?k5 ?_; (case k1 => k_asm); (case k2 => k_mem); (case k4 | k3 => with_reducible assumption); (case k5 => (first | lia | omega)); k_whole; intro t9' k9'))
      | fail
    all_goals k_steps)
  unfold Stop
  with_reducible rename Fr _ _ _ _ => F1
  with_reducible rename News _ _ _ _ => N1
  have hll := hR.lo
  have hlh := hR.hi
  have hus := hI2.length
  refine LCg.CompSrc.ledger (its := us2.toArray) rfl F1 N1 (by k_mem) (by rw [sizeLine_eq, List.size_toArray]; (first | lia | omega)) ?_
  intro g
  refine comp_keep (fun j y => ∃ t, y = .str (pieceStr (Rg.getD j 0)) t) (.inr ⟨_, by k_mem, rfl, _, rfl⟩) ?_ ?_
  · rintro i v I oI C oC D ys m₂ h tk E' hi hP hC hx F2 N2 off ne
    rw [List.size_toArray, hI2.length] at hi
    obtain ⟨tv, ht⟩ := IntsAre.get hI2 i _ (List.getElem?_eq_getElem hi)
    obtain rfl : v = .int Rg[i] tv := by simpa [ht] using hP.symm
    have ho := hR.oct _ (List.getElem_mem hi)
    have eg : Rg.getD i 0 = Rg[i] := by rw [List.getD_eq_getElem?_getD, List.getElem?_eq_getElem hi]; rfl
    rw [eg]
    generalize Rg[i] = xo at *
    obtain ⟨ho0, ho1⟩ := ho
    clear F1 N1
    k_steps
    repeat (
      any_goals first
        | with_reducible (k_here; (with_reducible show wpAny _ _ (call (Value.ref 303) [Value.int _ _]) _ _ _); (k_dflt (refine' pc_use (piece_ _ _ ?q0 ?q1) ?k1 ?k2 ?k3 ?kN ?k5 ?kK ?kd ?ku ?kp ?_; (case k1 | k2 | k3 | kN | k5 => k_asm); (case kK => first | exact rfl | assumption); (case kd => ktr_room); (case ku => ktr_units); (case kp => trivial); (case q0 | q1 => with_reducible assumption); intro r9 h9 tk9 st9 F9 N9 o9; obtain ⟨t9, e9⟩ := o9; subst e9; (try k_sweep))))
        | (k_here; (with_reducible show wpAny _ _ (call (Value.ref 303) [Value.int _ _]) _ _ _); (k_dflt (refine' pc_use (piece_ _ _ ?q0 ?q1) ?k1 ?k2 ?k3 ?kN ?k5 ?kK ?kd ?ku ?kp ?_; (case k1 | k2 | k3 | kN | k5 => k_asm); (case kK => first | exact rfl | assumption); (case kd => ktr_room); (case ku => ktr_units); (case kp => trivial); (case q0 | q1 => with_reducible assumption); intro r9 h9 tk9 st9 F9 N9 o9; obtain ⟨t9, e9⟩ := o9; subst e9; (try k_sweep))))
        | with_reducible (k_here; (with_reducible show wpAny _ _ (call (Value.builtin "str.join") [Value.str _ _, Value.ref _]) _ _ _); k_dflt (refine' join_row ?k1 ?k2 ?k3 ?k4 ?k5 ?_; (case k1 => k_asm); (case k2 => k_mem); (case k4 | k3 => with_reducible assumption); (case k5 => (first | lia | omega)); k_whole; intro t9' k9'))
        | (k_here; (with_reducible show wpAny _ _ (call (Value.builtin "str.join") [Value.str _ _, Value.ref _]) _ _ _); k_dflt (refine' join_row ?k1 ?k2 ?k3 ?k4 ?k5 ?_; (case k1 => k_asm); (case k2 => k_mem); (case k4 | k3 => with_reducible assumption); (case k5 => (first | lia | omega)); k_whole; intro t9' k9'))
        | fail
      all_goals k_steps)
    assumption
  · intro ys hys hyv D h tk F2 N2 off
    clear F1 N1
    rw [List.size_toArray, hI2.length] at hys
    have hsz := txt_len Rg (n := 8) (by (first | lia | omega))
    k_steps
    repeat (
      any_goals first
        | with_reducible (k_here; (with_reducible show wpAny _ _ (call (Value.ref 303) [Value.int _ _]) _ _ _); (k_dflt (refine' pc_use (piece_ _ _ ?q0 ?q1) ?k1 ?k2 ?k3 ?kN ?k5 ?kK ?kd ?ku ?kp ?_; (case k1 | k2 | k3 | kN | k5 => k_asm); (case kK => first | exact rfl | assumption); (case kd => ktr_room); (case ku => ktr_units); (case kp => trivial); (case q0 | q1 => with_reducible assumption); intro r9 h9 tk9 st9 F9 N9 o9; obtain ⟨t9, e9⟩ := o9; subst e9; (try k_sweep))))
        | (k_here; (with_reducible show wpAny _ _ (call (Value.ref 303) [Value.int _ _]) _ _ _); (k_dflt (refine' pc_use (piece_ _ _ ?q0 ?q1) ?k1 ?k2 ?k3 ?kN ?k5 ?kK ?kd ?ku ?kp ?_; (case k1 | k2 | k3 | kN | k5 => k_asm); (case kK => first | exact rfl | assumption); (case kd => ktr_room); (case ku => ktr_units); (case kp => trivial); (case q0 | q1 => with_reducible assumption); intro r9 h9 tk9 st9 F9 N9 o9; obtain ⟨t9, e9⟩ := o9; subst e9; (try k_sweep))))
        | with_reducible (k_here; (with_reducible show wpAny _ _ (call (Value.builtin "str.join") [Value.str _ _, Value.ref _]) _ _ _); k_dflt (refine' join_row ?k1 ?k2 ?k3 ?k4 ?k5 ?_; (case k1 => k_asm); (case k2 => k_mem); (case k4 | k3 => with_reducible assumption); (case k5 => (first | lia | omega)); k_whole; intro t9' k9'))
        | (k_here; (with_reducible show wpAny _ _ (call (Value.builtin "str.join") [Value.str _ _, Value.ref _]) _ _ _); k_dflt (refine' join_row ?k1 ?k2 ?k3 ?k4 ?k5 ?_; (case k1 => k_asm); (case k2 => k_mem); (case k4 | k3 => with_reducible assumption); (case k5 => (first | lia | omega)); k_whole; intro t9' k9'))
        | fail
      all_goals k_steps)
    · exfalso
      with_reducible rename (_ != _) = true => hne
      rw [wrap_eq] at hne
      simp at hne
    · unfold Stop
      with_reducible rename Fr _ _ _ _ => F1
      with_reducible rename News _ _ _ _ => N1
      exact hend _ _ _ F1 (fun p hp => N1 p (.tail _ hp)) (List.forall_mem_cons.mpr ⟨rfl, List.forall_mem_cons.mpr ⟨rfl, List.forall_mem_cons.mpr ⟨rfl, List.forall_mem_cons.mpr ⟨rfl, List.forall_mem_cons.mpr ⟨rfl, (fun _ h => nomatch h)⟩⟩⟩⟩⟩)
end
end Mine
end

-- E12c
section
open PySem PySem.W PyProof.Rows PySem.Calls
set_option maxRecDepth 100000
set_option maxHeartbeats 0
namespace Mine
local macro_rules | `(tactic| walk_at "idle line") => `(tactic| skip)
section
variable {w : World} {p : Program} {loose : List Str} {mean : MeanT} {mg mb : Str → Option Value}

theorem clip_neg (n : Nat) (h : 2 ≤ n) : Builtin.Str.strSliceIndices (some 6) (some (-2)) 1 n = Builtin.Str.strSliceIndices (some 6) (some ((n : Int) - 2)) 1 n := by
  unfold Builtin.Str.strSliceIndices
  have e1 : ((-2 : Int) < 0) := by decide
  have e2 : ¬ ((n : Int) - 2 < 0) := by (first | lia | omega)
  simp only [e1, e2, if_true, if_false, show (-2 : Int) + (n : Int) = (n : Int) - 2 by (first | lia | omega)]
theorem slice_wrap (r : List Int) : Txt.slice (wrapS r) (some 6) (some (-2)) = txtS r := by
  have hn : (wrapS r).length = (flatL r).length + 8 := by
    show (([61, 63, 113, 63, 113, 63] ++ flatL r ++ [63, 61] : List Nat)).toArray.size = _
    simp
  have hz : (wrapS r).cps.toList.length = (wrapS r).length := by simp [PySem.Str.length]
  have e : Txt.slice (wrapS r) (some 6) (some (-2)) = StrLaws.sliceText (wrapS r) (some 6) (some (((wrapS r).length : Int) - 2)) := by
    unfold Txt.slice StrLaws.sliceText
    rw [clip_neg _ (by first | lia | omega)]
  rw [e, StrLaws.sliceText_plain ⟨by decide, by (first | lia | omega), by (first | lia | omega)⟩]
  unfold txtS
  congr 2
  rw [hn]
  have e2 : (((((flatL r).length + 8 : Nat) : Int) - 2) - 6).toNat = (flatL r).length := by (first | lia | omega)
  rw [e2]
  simp [wrapS]
noncomputable abbrev smD (w : World) (va vb : PySem.Str) (d js jp : Addr) (ta tb a1 a2 a3 a4 a5 a6 a7 t1 t2 t3 : Tok) : Obj := dictOf [⟨PyData.keyHash w.params (Str.ofString "isjunk"), .str (Str.ofString "isjunk") a1, .none⟩, ⟨PyData.keyHash w.params (Str.ofString "a"), .str (Str.ofString "a") a2, .str va ta⟩, ⟨PyData.keyHash w.params (Str.ofString "b"), .str (Str.ofString "b") a3, .str vb tb⟩, ⟨PyData.keyHash w.params (Str.ofString "autojunk"), .str (Str.ofString "autojunk") a4, .bool true⟩, ⟨PyData.keyHash w.params (Str.ofString "matching_blocks"), .str (Str.ofString "matching_blocks") a5, .none⟩, ⟨PyData.keyHash w.params (Str.ofString "opcodes"), .str (Str.ofString "opcodes") a6, .none⟩, ⟨PyData.keyHash w.params (Str.ofString "fullbcount"), .str (Str.ofString "fullbcount") a7, .none⟩, ⟨PyData.keyHash w.params (Str.ofString "b2j"), .str (Str.ofString "b2j") t1, .ref d⟩, ⟨PyData.keyHash w.params (Str.ofString "bjunk"), .str (Str.ofString "bjunk") t2, .ref js⟩, ⟨PyData.keyHash w.params (Str.ofString "bpopular"), .str (Str.ofString "bpopular") t3, .ref jp⟩] 10
section
variable {prog : Program} {w : World} {A : Around} {E : Value → Shared → Prop} {s : Shared} {h₀ : Heap} {L : Addr} {m : PySem.Str → Option Value} {news : Led}
theorem slice_row {value slice : PySem.Expr} {r : List Int} {t ui uj : Tok} {Q : Value → Shared → Prop} (hF : Fr h₀ L s.heap m) (hN : News h₀ L s.heap news) (hr : r.length ≤ 8) (h : ∀ h' t' k, Fr h₀ L h' m → News h₀ L h' news → Q (.str (txtS r) t') { s with heap := h', toks := k })
    (hs : subscripted slice false (.str (wrapS r) t) (.ref s.heap.objs.size) = operate [.ref s.heap.objs.size, .str (wrapS r) t] (getItem (.str (wrapS r) t) (.ref s.heap.objs.size)) := by with_unfolding_all rfl)
    (ht : ∀ z, letTemporaryGo value (.str (wrapS r) t) z = pure () := by intro _; with_unfolding_all rfl) :
    wpAny (model prog w) A (subscriptTail value slice (.str (wrapS r) t) (.ref s.heap.objs.size)) Q E { s with heap := s.heap.push { cls := .type "slice", data := .fields #[.int 6 ui, .int (-2) uj, .none] } } := by
  refine slice_strN_ss hF hN (fun h' t' k F' N' => ?_) hs ht ?_
  · rw [slice_wrap]; exact h h' t' k F' N'
  · have := flatL_len r
    have hn : (wrapS r).length = (flatL r).length + 8 := by
      show (([61, 63, 113, 63, 113, 63] ++ flatL r ++ [63, 61] : List Nat)).toArray.size = _
      simp
    rw [sizeLine_eq]
    (first | lia | omega)
end
section
local macro_rules | `(tactic| walk_at "subscriptTail Name Slice str ref") => `(tactic| (k_here; k_dflt (with_unfolding_all refine' slice_row (s := ⟨_, _, _, _, _⟩) ?k1 ?k2 ?k3 ?_ ?k5 ?k6; (case k1 | k2 => k_asm); (case k3 => omega); (case k5 => with_unfolding_all rfl); (case k6 => intro _; with_unfolding_all rfl); k_whole; intro h' t' k' F' N')))
local macro_rules | `(tactic| walk_at "execs cons If") => `(tactic| refine stop_ ?_)
local macro_rules | `(tactic| walk_at "call ref") => `(tactic| (k_here; (with_reducible show wpAny _ _ (call (Value.ref 242) _) _ _ _); refine stop_ ?_))
theorem txt_small {r : List Int} (h : r.length ≤ 8) : (txtS r).cps.size < 100 := by
  have := txt_len r h
  show (txtS r).length < 100
  (first | lia | omega)
theorem lawE {dp un : Nat} {gd : Option (List Code)} {fa : Addr} {cd : Value} {outer : List Env} {A₀ : Around} {base h₀ : Heap} {L : Addr} {m : PySem.Str → Option Value} {s : Shared} {Post : Flow → Shared → Prop} {E : Value → Shared → Prop} {h : Heap} {tk : Nat} {nl la lb : Addr} {us us1 us2 : List Value} {ns Lf Rg : List Int} {k0 n1 n2 : Nat} {t1 t2 : Tok}
    (B : Below A₀ base outer h₀) (X : (KK w.params).In h₀) (T : Top p loose mean mg mb h₀) (hd : dp + 40 < recursionLimit) (hu : un + 400 < cLine)
    (hI : IntsAre us ns) (hI1 : IntsAre us1 Lf) (hI2 : IntsAre us2 Rg) (hL : RowOK Lf 2 7) (hR : RowOK Rg 3 8) (hne : @Ne Nat la lb ∧ @Ne Nat la nl ∧ @Ne Nat lb nl)
    (F : Fr h₀ L h m) (N : News h₀ L h [(la, W.listOf us1.toArray n1), (lb, W.listOf us2.toArray n2), (nl, W.listOf us.toArray k0)])
    (hc : ∀ p ∈ [(S "one", Value.str (wrapS Lf) t1), (S "other", .str (wrapS Rg) t2), (S "left", Value.ref la), (S "right", .ref lb), (S "numbers", .ref nl)], m p.1 = some p.2)
    (hend : ∀ h' tk' m' x own dx d js jp ta tb a1 a2 a3 a4 a5 a6 a7 t1 t2 t3, Fr h₀ L h' m' → News h₀ L h' ((la, W.listOf us1.toArray n1) :: (lb, W.listOf us2.toArray n2) :: (nl, W.listOf us.toArray k0) :: own) →
      (∀ g, News h₀ L g own → PySem.W.InstAt g x (instObj 242 dx) 242 (some (smD w (txtS Lf) (txtS Rg) d js jp ta tb a1 a2 a3 a4 a5 a6 a7 t1 t2 t3))) → (∀ g, News h₀ L g own → SM w g x (txtS Lf) (txtS Rg)) →
      (∀ p ∈ [(S "matcher", Value.ref x), (S "left", Value.ref la), (S "right", .ref lb), (S "numbers", .ref nl)], m' p.1 = some p.2) →
      wpAny (model PR w) (ktrTop dp un gd (S "law") (scOf (stAt NTOP 28)) L fa cd [] outer) (execs (lawBody.drop 6) (envX (S "law") (scOf (stAt NTOP 28)) L fa cd [])) Post E { s with heap := h', toks := tk' }) :
    wpAny (model PR w) (ktrTop dp un gd (S "law") (scOf (stAt NTOP 28)) L fa cd [] outer) (execs (lawBody.drop 5) (envX (S "law") (scOf (stAt NTOP 28)) L fa cd [])) Post E { s with heap := h, toks := tk } := by
  unfold PR
  revert X
  k_fill
  intro X
  unfold PR at hend
  replace F := fr_ovl hc F
  dsimp only [ovl] at F
  have hlL := hL.hi
  have hlR := hR.hi
  k_steps
  unfold Stop
  refine' ctor_ _ _ _ _ 0 ?hb _ _ _ _ _ _ _ _ _ _ _ _ _ _ _ _ _ ?B ?F ?X ?T ?hk ?hd ?hu _ ?N ?ret
  case B => k_asm
  case F => k_asm
  case X => k_asm
  case T => k_asm
  case hk => first | exact rfl | assumption
  case hd => ktr_room
  case hu => (first | lia | omega)
  case N => k_asm
  case hb => exact txt_small (by (first | lia | omega))
  intro x dx h9 tk9 d od es js jp lj lp a1 a2 a3 a4 a5 a6 a7 t1 t2 t3 F9 M9 O9 lt9 en9 o1 o2 o3 o4 o5
  have N9 : News h₀ L h9 ((la, W.listOf us1.toArray n1) :: (lb, W.listOf us2.toArray n2) :: (nl, W.listOf us.toArray k0) :: _) := fun p hp => (List.mem_append.mp (show p ∈ [(la, W.listOf us1.toArray n1), (lb, W.listOf us2.toArray n2), (nl, W.listOf us.toArray k0)] ++ _ from hp)).elim (O9 p) (M9 p)
  generalize hown : (jp, ({ cls := .type "set", data := .set #[] 0 (SetTable.fresh 0 0 lp) } : Obj)) :: _ = own at N9
  have hIn : ∀ g, News h₀ L g own → PySem.W.InstAt g x (instObj 242 dx) 242 (some (smD w (txtS Lf) (txtS Rg) d js jp _ _ a1 a2 a3 a4 a5 a6 a7 t1 t2 t3)) := fun g G => by
    rw [← hown] at G
    exact PySem.W.InstAt.of_news G (.tail _ (.tail _ (.tail _ (.head _)))) (.tail _ (.tail _ (.tail _ (.tail _ (.head _)))))
  have hSM : ∀ g, News h₀ L g own → SM w g x (txtS Lf) (txtS Rg) := fun g G => by
    have I := hIn g G
    rw [← hown] at G
    exact ⟨dx, d, js, jp, od, es, lj, _, _, a1, a2, a3, a4, a5, a6, a7, t1, t2, t3, I, (G _ (.tail _ (.tail _ (.head _)))).1, (G _ (.tail _ (.head _))).1, (fun e he => ⟨_, (G (entOb e) (.tail _ (.tail _ (.tail _ (.tail _ (.tail _ (List.mem_map_of_mem he))))))).1, rfl, _, rfl⟩), en9, o5⟩
  clear M9 O9 hown
  k_steps
  unfold Stop
  with_reducible rename Fr _ _ _ _ => F1
  with_reducible rename News _ _ _ _ => N1
  exact hend _ _ _ _ _ _ _ _ _ _ _ _ _ _ _ _ _ _ _ _ _ F1 N1 hIn hSM (List.forall_mem_cons.mpr ⟨rfl, List.forall_mem_cons.mpr ⟨rfl, List.forall_mem_cons.mpr ⟨rfl, List.forall_mem_cons.mpr ⟨rfl, (fun _ h => nomatch h)⟩⟩⟩⟩)
end
end
end Mine
end

-- Mt3
section
open PySem PySem.W PyProof.Rows PySem.Calls
set_option maxRecDepth 100000
set_option maxHeartbeats 1000000
namespace Mine
section
variable {prog : Program} {w : World} {A : Around} {E : Value → Shared → Prop} {s : Shared}
theorem q_cons {r0 : Bool} {x y : Int} {t u : Tok} {r : List (Value × Value)} {P : Option Fin × Unit → Shared → Prop}
    (hy : x = y → wpAny (model prog w) A (forIn r ((none, ()) : Option Fin × Unit) fun (x : Value × Value) (_ : Option Fin × Unit) => (do
      let c ← eqBool x.fst x.snd
      if (!c) = true then do
          let f ← ret (.bool r0)
          pure (ForInStep.done (some f, ()))
        else pure (ForInStep.yield (none, ())) : Sem (ForInStep (Option Fin × Unit)))) P E s)
    (hn : x ≠ y → P (some (.done (.ret (.bool r0))), ()) s) :
    wpAny (model prog w) A (forIn ((Value.int x t, Value.int y u) :: r) ((none, ()) : Option Fin × Unit) fun (x : Value × Value) (_ : Option Fin × Unit) => (do
      let c ← eqBool x.fst x.snd
      if (!c) = true then do
          let f ← ret (.bool r0)
          pure (ForInStep.done (some f, ()))
        else pure (ForInStep.yield (none, ())) : Sem (ForInStep (Option Fin × Unit)))) P E s := by
  rw [List.forIn_cons]
  refine wpAny_bind (wpAny_bind (wpAny_eqBool_int ?_))
  by_cases e : x = y
  · rw [show (x == y) = true from beq_iff_eq.mpr e]
    exact wpAny_pure (hy e)
  · rw [show (x == y) = false from beq_eq_false_iff_ne.mpr e]
    exact wpAny_bind (wpAny_pure (wpAny_pure (wpAny_pure (hn e))))
theorem ne_tree {a b : Addr} {oa ob : Obj} {x y z x' y' z' : Int} {tx ty tz ux uy uz : Tok} {na nb : Nat} {P : Fin → Shared → Prop} (hoa : s.heap.get? a = some oa) (hda : oa.data = .seq #[.int x tx, .int y ty, .int z tz] na)
    (hob : s.heap.get? b = some ob) (hcb : ob.cls = .type "tuple") (hdb : ob.data = .seq #[.int x' ux, .int y' uy, .int z' uz] nb) (h : P (.done (.ret (.bool (!(x == x' && y == y' && z == z'))))) s) :
    wpAny (model prog w) A (Builtin.«tuple.__ne__» ⟨[.ref a, .ref b], []⟩) P E s := by
  show wpAny _ _ (isInstance (.ref b) (.type "tuple") >>= _) _ _ s
  refine wpAny_bind (wpAny_isInstance ⟨_, hob, hcb⟩ isSubtype_tuple_tuple ?_)
  simp only [Bool.not_true, Bool.false_eq_true, if_false]
  refine wpAny_bind (wpAny_tupleItemsOf hoa hda ?_)
  refine wpAny_bind (wpAny_tupleItemsOf hob hdb ?_)
  refine wpAny_bind ?_
  refine q_cons (fun e1 => q_cons (fun e2 => q_cons (fun e3 => ?_) fun e => ?_) fun e => ?_) fun e => ?_
  · refine wpAny_pure (wpAny_pure ?_)
    subst e1 e2 e3
    simp only [beq_self_eq_true, Bool.and_self, Bool.not_true] at h
    exact h
  · refine wpAny_pure ?_
    rw [show (z == z') = false from beq_eq_false_iff_ne.mpr e, Bool.and_false] at h
    exact h
  · refine wpAny_pure ?_
    rw [show (y == y') = false from beq_eq_false_iff_ne.mpr e, Bool.and_false, Bool.false_and] at h
    exact h
  · refine wpAny_pure ?_
    rw [show (x == x') = false from beq_eq_false_iff_ne.mpr e, Bool.false_and, Bool.false_and] at h
    exact h
theorem eq_tree {a b : Addr} {oa ob : Obj} {x y z x' y' z' : Int} {tx ty tz ux uy uz : Tok} {na nb : Nat} {P : Fin → Shared → Prop} (hoa : s.heap.get? a = some oa) (hda : oa.data = .seq #[.int x tx, .int y ty, .int z tz] na)
    (hob : s.heap.get? b = some ob) (hcb : ob.cls = .type "tuple") (hdb : ob.data = .seq #[.int x' ux, .int y' uy, .int z' uz] nb) (h : P (.done (.ret (.bool (x == x' && y == y' && z == z')))) s) :
    wpAny (model prog w) A (Builtin.«tuple.__eq__» ⟨[.ref a, .ref b], []⟩) P E s := by
  show wpAny _ _ (isInstance (.ref b) (.type "tuple") >>= _) _ _ s
  refine wpAny_bind (wpAny_isInstance ⟨_, hob, hcb⟩ isSubtype_tuple_tuple ?_)
  simp only [Bool.not_true, Bool.false_eq_true, if_false]
  refine wpAny_bind (wpAny_tupleItemsOf hoa hda ?_)
  refine wpAny_bind (wpAny_tupleItemsOf hob hdb ?_)
  refine wpAny_bind ?_
  refine q_cons (fun e1 => q_cons (fun e2 => q_cons (fun e3 => ?_) fun e => ?_) fun e => ?_) fun e => ?_
  · refine wpAny_pure (wpAny_pure ?_)
    subst e1 e2 e3
    simp only [beq_self_eq_true, Bool.and_self, Bool.not_true] at h
    exact h
  · refine wpAny_pure ?_
    rw [show (z == z') = false from beq_eq_false_iff_ne.mpr e, Bool.and_false] at h
    exact h
  · refine wpAny_pure ?_
    rw [show (y == y') = false from beq_eq_false_iff_ne.mpr e, Bool.and_false, Bool.false_and] at h
    exact h
  · refine wpAny_pure ?_
    rw [show (x == x') = false from beq_eq_false_iff_ne.mpr e, Bool.false_and, Bool.false_and] at h
    exact h
theorem tup_notsub {M : Model} {h : Heap} {C : Addr} : Looks M h (isSubtype (.type "tuple") (.ref C)) false := Looks.of_pure (by rw [isSubtype_type]; kernel_rfl)
theorem cmp_ne {K : Frag} {C a b : Addr} {oa ob : Obj} {x y z x' y' z' : Int} {tx ty tz ux uy uz : Tok} {na nb : Nat} {Q : Value → Shared → Prop} (X : K.In s.heap) (ht : tupIn K C = true) (hf : findIn K (.ref C) (cmpInfo .NotEq).2.1 = some (some (.builtin "tuple.__ne__")))
    (hoa : s.heap.get? a = some oa) (hca : oa.cls = .ref C) (hda : oa.data = .seq #[.int x tx, .int y ty, .int z tz] na)
    (hob : s.heap.get? b = some ob) (hcb : ob.cls = .type "tuple") (hdb : ob.data = .seq #[.int x' ux, .int y' uy, .int z' uz] nb) (hu : A.units < cLine)
    (h : Q (.bool (!(x == x' && y == y' && z == z'))) s) : wpAny (model prog w) A (compareOp .NotEq (.ref a) (.ref b)) Q E s := by
  have Y := tup_of (M := model prog w) X ht
  have L9 := looks_findIn (M := model prog w) X hf
  obtain ⟨hh, g, d, t, os⟩ := s
  have tree := fun (A' : Around) (P : Fin → Shared → Prop) (hp : P (.done (.ret (.bool (!(x == x' && y == y' && z == z'))))) ⟨hh, g, d, t, os⟩) => ne_tree (prog := prog) (w := w) (A := A') (E := E) (s := ⟨hh, g, d, t, os⟩) hoa hda hob hcb hdb hp
  obtain ⟨⟨oc, od, cd, sl, hC, e1, e3⟩, made, base, self, tup, top, call, typ, init⟩ := Y
  obtain ⟨ocl, odi, oda, osl⟩ := oa
  dsimp only at hca hda
  subst hca hda
  obtain ⟨obc, obd, oba, obs⟩ := ob
  dsimp only at hcb hdb
  subst hcb hdb
  have t1 : Looks (model prog w) hh (typeOf (.ref a)) (.ref C) := (Looks.ld hoa).andThen .now
  have t2 : Looks (model prog w) hh (typeOf (.ref b)) (.type "tuple") := (Looks.ld hob).andThen .now
  have t3 : Looks (model prog w) hh (isSubtype (.type "tuple") (.ref C)) false := tup_notsub
  have t4 : Looks (model prog w) hh (isInstance (.ref a) (.type "tuple")) true := t1.andThen tup
  have ob : Looks (model prog w) hh (bindSpecial (.builtin "tuple.__ne__") (.ref a)) (.builtin "tuple.__ne__", [.ref a]) := Looks.of_pure (PySem.F.slot_tuple_ne.bind (.ref a))
  show wpAny _ _ (richCompare .NotEq (.ref a) (.ref b)) _ _ _
  unfold richCompare
  refine wpAny_holding (wpAny_bind (wpAny_cRoomFor hu ?_))
  rw [show oneThing? .NotEq (.ref a) (.ref b) = none from rfl]
  dsimp only [cmpInfo] at L9 ⊢
  refine wpAny_bind (Looks.at t1 (wpAny_bind (Looks.at t2 ?_)))
  (try dsimp only)
  rw [if_pos (show (Value.ref C != Value.type "tuple") = true from rfl)]
  refine wpAny_bind (Looks.at t3 ?_)
  (try dsimp only)
  rw [if_neg (by decide)]
  refine wpAny_bind ?_
  unfold tryCompare callSpecialIfBound? bindSpecialIfBound? specialOf
  refine wpAny_bind (wpAny_holding (wpAny_bind (wpAny_bind (wpAny_bind (Looks.at t1 (Looks.at L9 ?_))))))
  (try dsimp only)
  refine wpAny_bind (PySem.W.nd_ask (PySem.W.nd_pure ?_))
  (try dsimp only)
  have hb : ∀ {c : Bool} {Q' : Option (Value × List Value) → Shared → Prop}, Q' (some (.builtin "tuple.__ne__", [.ref a])) ⟨hh, g, d, t, os⟩ → wpAny (model prog w) A (if c = true then (do
          let x ← bindSpecial (Value.builtin "tuple.__ne__") (Value.ref a)
          pure (some x)) else ((do
          let x ← bindSpecial (Value.builtin "tuple.__ne__") (Value.ref a)
          pure (some x)).tryCatch fun _ => do
            rule "special.get-raises-dropped"
            pure none)) Q' E ⟨hh, g, d, t, os⟩ := fun {c} {Q'} hq => by
    split
    · exact wpAny_bind (Looks.at ob (wpAny_pure hq))
    · exact wpAny_tryCatch (wpAny_bind (Looks.at ob (wpAny_pure hq)))
  refine hb ?_
  (try dsimp only)
  refine wpAny_bind (wpAny_call (codeAny_call_builtin (by decide +kernel) PySem.F.entry_tuple_ne (@check_slot (model prog w) _ _ _ "tuple.__ne__" "tuple" "__ne__" (.ref a) [.ref b] [] _ (by decide +kernel) (by decide +kernel) t4 (PySem.F.args_tuple_ne_2 _ _) ?_)))
  refine tree _ _ ?_
  exact wpAny_pure (wpAny_pure (wpAny_pure h))
theorem cmp_eq {K : Frag} {C a b : Addr} {oa ob : Obj} {x y z x' y' z' : Int} {tx ty tz ux uy uz : Tok} {na nb : Nat} {Q : Value → Shared → Prop} (X : K.In s.heap) (ht : tupIn K C = true) (hf : findIn K (.ref C) (cmpInfo .Eq).2.1 = some (some (.builtin "tuple.__eq__")))
    (hoa : s.heap.get? a = some oa) (hca : oa.cls = .ref C) (hda : oa.data = .seq #[.int x tx, .int y ty, .int z tz] na)
    (hob : s.heap.get? b = some ob) (hcb : ob.cls = .type "tuple") (hdb : ob.data = .seq #[.int x' ux, .int y' uy, .int z' uz] nb) (hu : A.units < cLine)
    (h : Q (.bool (x == x' && y == y' && z == z')) s) : wpAny (model prog w) A (compareOp .Eq (.ref a) (.ref b)) Q E s := by
  have Y := tup_of (M := model prog w) X ht
  have L9 := looks_findIn (M := model prog w) X hf
  obtain ⟨hh, g, d, t, os⟩ := s
  have tree := fun (A' : Around) (P : Fin → Shared → Prop) (hp : P (.done (.ret (.bool (x == x' && y == y' && z == z')))) ⟨hh, g, d, t, os⟩) => eq_tree (prog := prog) (w := w) (A := A') (E := E) (s := ⟨hh, g, d, t, os⟩) hoa hda hob hcb hdb hp
  obtain ⟨⟨oc, od, cd, sl, hC, e1, e3⟩, made, base, self, tup, top, call, typ, init⟩ := Y
  obtain ⟨ocl, odi, oda, osl⟩ := oa
  dsimp only at hca hda
  subst hca hda
  obtain ⟨obc, obd, oba, obs⟩ := ob
  dsimp only at hcb hdb
  subst hcb hdb
  have t1 : Looks (model prog w) hh (typeOf (.ref a)) (.ref C) := (Looks.ld hoa).andThen .now
  have t2 : Looks (model prog w) hh (typeOf (.ref b)) (.type "tuple") := (Looks.ld hob).andThen .now
  have t3 : Looks (model prog w) hh (isSubtype (.type "tuple") (.ref C)) false := tup_notsub
  have t4 : Looks (model prog w) hh (isInstance (.ref a) (.type "tuple")) true := t1.andThen tup
  have ob : Looks (model prog w) hh (bindSpecial (.builtin "tuple.__eq__") (.ref a)) (.builtin "tuple.__eq__", [.ref a]) := Looks.of_pure (PySem.F.slot_tuple_eq.bind (.ref a))
  show wpAny _ _ (richCompare .Eq (.ref a) (.ref b)) _ _ _
  unfold richCompare
  refine wpAny_holding (wpAny_bind (wpAny_cRoomFor hu ?_))
  rw [show oneThing? .Eq (.ref a) (.ref b) = none from rfl]
  dsimp only [cmpInfo] at L9 ⊢
  refine wpAny_bind (Looks.at t1 (wpAny_bind (Looks.at t2 ?_)))
  (try dsimp only)
  rw [if_pos (show (Value.ref C != Value.type "tuple") = true from rfl)]
  refine wpAny_bind (Looks.at t3 ?_)
  (try dsimp only)
  rw [if_neg (by decide)]
  refine wpAny_bind ?_
  unfold tryCompare callSpecialIfBound? bindSpecialIfBound? specialOf
  refine wpAny_bind (wpAny_holding (wpAny_bind (wpAny_bind (wpAny_bind (Looks.at t1 (Looks.at L9 ?_))))))
  (try dsimp only)
  refine wpAny_bind (PySem.W.nd_ask (PySem.W.nd_pure ?_))
  (try dsimp only)
  have hb : ∀ {c : Bool} {Q' : Option (Value × List Value) → Shared → Prop}, Q' (some (.builtin "tuple.__eq__", [.ref a])) ⟨hh, g, d, t, os⟩ → wpAny (model prog w) A (if c = true then (do
          let x ← bindSpecial (Value.builtin "tuple.__eq__") (Value.ref a)
          pure (some x)) else ((do
          let x ← bindSpecial (Value.builtin "tuple.__eq__") (Value.ref a)
          pure (some x)).tryCatch fun _ => do
            rule "special.get-raises-dropped"
            pure none)) Q' E ⟨hh, g, d, t, os⟩ := fun {c} {Q'} hq => by
    split
    · exact wpAny_bind (Looks.at ob (wpAny_pure hq))
    · exact wpAny_tryCatch (wpAny_bind (Looks.at ob (wpAny_pure hq)))
  refine hb ?_
  (try dsimp only)
  refine wpAny_bind (wpAny_call (codeAny_call_builtin (by decide +kernel) PySem.F.entry_tuple_eq (@check_slot (model prog w) _ _ _ "tuple.__eq__" "tuple" "__eq__" (.ref a) [.ref b] [] _ (by decide +kernel) (by decide +kernel) t4 (PySem.F.args_tuple_eq_2 _ _) ?_)))
  refine tree _ _ ?_
  exact wpAny_pure (wpAny_pure (wpAny_pure h))
end
end Mine
end

-- E12d
section
open PySem PySem.W PyProof.Rows PySem.Calls
set_option maxRecDepth 100000
set_option maxHeartbeats 0
namespace Mine
section
variable {w : World} {p : Program} {loose : List Str} {mean : MeanT} {mg mb : Str → Option Value}

theorem own_use {P : Heap → Prop} {h₀ g : Heap} {L : Addr} {own : Led} (H : ∀ g, News h₀ L g own → P g) (N : News h₀ L g own) : P g := H g N
theorem news_tail {h₀ h : Heap} {L : Addr} {a : Addr × Obj} {r : Led} (N : News h₀ L h (a :: r)) : News h₀ L h r := fun p hp => N p (.tail _ hp)
theorem ne135 (P : Params) : findIn (KK P) (.ref 135) (cmpInfo .NotEq).2.1 = some (some (.builtin "tuple.__ne__")) := by kernel_rfl
theorem eq135 (P : Params) : findIn (KK P) (.ref 135) (cmpInfo .Eq).2.1 = some (some (.builtin "tuple.__eq__")) := by kernel_rfl
section
variable {prog : Program} {w : World} {A : Around} {E : Value → Shared → Prop} {s : Shared} {h₀ : Heap} {L : Addr} {m : PySem.Str → Option Value} {news : Led} {a b : Addr} {ob : Obj} {dx : Addr} {x y z x' y' z' : Int} {tx ty tz ux uy uz : Tok}
theorem cmpM_ne {Q : Value → Shared → Prop} (X : (KK w.params).In h₀) (F : Fr h₀ L s.heap m) (N : News h₀ L s.heap news) (ha : (a, matchOb dx x y z tx ty tz) ∈ news) (hb : (b, ob) ∈ news) (hob : ob = { cls := .type "tuple", data := .seq #[.int x' ux, .int y' uy, .int z' uz] }) (hu : A.units < cLine)
    (he : x = x' ∧ y = y' ∧ z = z') (h : Q (.bool false) s) : wpAny (model prog w) A (compareOp .NotEq (.ref a) (.ref b)) Q E s := by
  obtain ⟨rfl, rfl, rfl⟩ := he
  subst hob
  refine cmp_ne (K := KK w.params) (X.keeps F.keep) (tup135 _) (ne135 _) (N _ ha).1 rfl rfl (N _ hb).1 rfl rfl hu ?_
  simpa using h
theorem cmpM_eq {Q : Value → Shared → Prop} (X : (KK w.params).In h₀) (F : Fr h₀ L s.heap m) (N : News h₀ L s.heap news) (ha : (a, matchOb dx x y z tx ty tz) ∈ news) (hb : (b, ob) ∈ news) (hob : ob = { cls := .type "tuple", data := .seq #[.int x' ux, .int y' uy, .int z' uz] }) (hu : A.units < cLine)
    (he : x = x' ∧ y = y' ∧ z = z') (h : Q (.bool true) s) : wpAny (model prog w) A (compareOp .Eq (.ref a) (.ref b)) Q E s := by
  obtain ⟨rfl, rfl, rfl⟩ := he
  subst hob
  refine cmp_eq (K := KK w.params) (X.keeps F.keep) (tup135 _) (eq135 _) (N _ ha).1 rfl rfl (N _ hb).1 rfl rfl hu ?_
  simpa using h
end
theorem txt_cps (r : List Int) : (txtS r).cps.toList = flatL r := by simp [txtS]
theorem plc_0 (r : List Int) : plc r 0 = 0 := by simp [plc, flatL]
theorem plc_len (r : List Int) : plc r r.length = (txtS r).cps.size := by rw [plc_all, ← txt_cps]; simp
theorem same_win {Lf Rg : List Int} {lo hi lo' hi' : Nat} {bi bj bs : Int} {q : Int × Int × Int} {p1 p2 q1 q2 : Nat}
    (T : TBest (txtS Lf).cps.toList (txtS Rg).cps.toList (plc Lf p1) (plc Lf p2) (plc Rg q1) (plc Rg q2) (-bs, bi, bj)) (B : BestAt Lf Rg p1 p2 q1 q2 (DoneO p1 q1 q2 (p2 + 1 - p1)) q) (hL : RowOK Lf lo hi) (hR : RowOK Rg lo' hi') (hp : p1 ≤ p2) (hp2 : p2 ≤ Lf.length) (hq : q1 ≤ q2) (hq2 : q2 ≤ Rg.length) : bi = q.2.1 ∧ bj = q.2.2 ∧ bs = 0 - q.1 := by
  rw [txt_cps, txt_cps] at T
  have e := tbest_unique T (best_text hL.oct hR.oct hp hp2 hq hq2 B)
  subst e
  exact ⟨rfl, rfl, by dsimp only; (first | lia | omega)⟩
theorem same_whole {Lf Rg : List Int} {lo hi lo' hi' : Nat} {bi bj bs : Int} {q : Int × Int × Int}
    (T : TBest (txtS Lf).cps.toList (txtS Rg).cps.toList 0 (txtS Lf).cps.size 0 (txtS Rg).cps.size (-bs, bi, bj)) (B : BestAt Lf Rg 0 Lf.length 0 Rg.length (DoneO 0 0 Rg.length (Lf.length + 1 - 0)) q) (hL : RowOK Lf lo hi) (hR : RowOK Rg lo' hi') : bi = q.2.1 ∧ bj = q.2.2 ∧ bs = 0 - q.1 := by
  refine same_win ?_ B hL hR (Nat.zero_le _) (Nat.le_refl _) (Nat.zero_le _) (Nat.le_refl _)
  rw [plc_0, plc_0, plc_len, plc_len]
  exact T
theorem same_zero {a b : List Nat} {ahi bhi : Nat} {bi bj bs : Int} (T : TBest a b 0 ahi 0 bhi (-bs, bi, bj)) (e : ahi = 0 ∨ bhi = 0) : bi = 0 ∧ bj = 0 ∧ bs = 0 := by
  have := tbest_empty T e
  rw [Prod.mk.injEq, Prod.mk.injEq] at this
  (first | lia | omega)
section
local macro_rules | `(tactic| walk_at "execs cons If") => `(tactic| refine stop_ ?_)
local macro_rules | `(tactic| walk_at "execs cons Assign") => `(tactic| refine stop_ ?_)
local macro_rules | `(tactic| k_inst) => `(tactic| (exact own_use (P := fun g => PySem.W.InstAt g _ _ _ _) (by assumption) (by iterate 15 (first | done | with_reducible assumption | apply news_tail))))

theorem tup_at {h₀ h : Heap} {L a : Addr} {news : Led} {o : Obj} {items : Array Value} (N : News h₀ L h news) (hm : (a, o) ∈ news) (e : o = ({ cls := .type "tuple", data := .seq items } : Obj) := by rfl) : IsTup h a items := by
  subst e
  exact ⟨_, (N _ hm).1, rfl, _, rfl⟩

theorem lawF {dp un : Nat} {gd : Option (List Code)} {fa : Addr} {cd : Value} {outer : List Env} {A₀ : Around} {base h₀ : Heap} {L : Addr} {m : PySem.Str → Option Value} {s : Shared} {Post : Flow → Shared → Prop} {E : Value → Shared → Prop} {h : Heap} {tk : Nat}{nl la lb x dx d js jp : Addr} {own : Led} {us us1 us2 : List Value} {ns Lf Rg : List Int} {k0 n1 n2 : Nat} {ta tb a1 a2 a3 a4 a5 a6 a7 t1 t2 t3 : Tok}
    (B : Below A₀ base outer h₀) (X : (KK w.params).In h₀) (T : Top p loose mean mg mb h₀) (hd : dp + 40 < recursionLimit) (hu : un + 400 < cLine)
    (hI : IntsAre us ns) (hI1 : IntsAre us1 Lf) (hI2 : IntsAre us2 Rg) (hL : RowOK Lf 2 7) (hR : RowOK Rg 3 8)
    (F : Fr h₀ L h m) (N : News h₀ L h ((la, W.listOf us1.toArray n1) :: (lb, W.listOf us2.toArray n2) :: (nl, W.listOf us.toArray k0) :: own))
    (hIn : ∀ g, News h₀ L g own → PySem.W.InstAt g x (instObj 242 dx) 242 (some (smD w (txtS Lf) (txtS Rg) d js jp ta tb a1 a2 a3 a4 a5 a6 a7 t1 t2 t3))) (hSM : ∀ g, News h₀ L g own → SM w g x (txtS Lf) (txtS Rg))
    (hc : ∀ p ∈ [(S "matcher", Value.ref x), (S "left", Value.ref la), (S "right", .ref lb), (S "numbers", .ref nl)], m p.1 = some p.2)
    (hend : ∀ h' tk' m', Fr h₀ L h' m' → News h₀ L h' ((la, W.listOf us1.toArray n1) :: (lb, W.listOf us2.toArray n2) :: (nl, W.listOf us.toArray k0) :: own) → (∀ p ∈ [(S "matcher", Value.ref x), (S "left", Value.ref la), (S "right", .ref lb), (S "numbers", .ref nl)], m' p.1 = some p.2) →
      wpAny (model PR w) (ktrTop dp un gd (S "law") (scOf (stAt NTOP 28)) L fa cd [] outer) (execs (lawBody.drop 7) (envX (S "law") (scOf (stAt NTOP 28)) L fa cd [])) Post E { s with heap := h', toks := tk' }) :
    wpAny (model PR w) (ktrTop dp un gd (S "law") (scOf (stAt NTOP 28)) L fa cd [] outer) (execs (lawBody.drop 6) (envX (S "law") (scOf (stAt NTOP 28)) L fa cd [])) Post E { s with heap := h, toks := tk } := by
  unfold PR
  revert X
  k_fill
  intro X
  replace F := fr_ovl hc F
  dsimp only [ovl] at F
  have hlL := hL.hi
  have hlR := hR.hi
  have hu1 := hI1.length
  have hu2 := hI2.length
  unfold PR at hend
  k_steps
  repeat (
    any_goals first
      | with_reducible (k_here; (with_reducible show wpAny _ _ (compareOp _ (Value.ref _) (Value.ref _)) _ _ _); k_dflt (refine' cmpM_ne ?k1 ?k2 ?k3 ?k4 ?k5 ?k6 ?k7 ?k8 ?_; (case k1 | k2 | k3 => k_asm); (case k4 | k5 => k_mem); (case k6 => rfl); (case k7 => ktr_units); (case k8 => first | exact same_whole (by with_reducible assumption) (by with_reducible assumption) (by with_reducible assumption) (by with_reducible assumption) | exact same_zero (by with_reducible assumption) (by (first | lia | omega)) | exact same_win (by with_reducible assumption) (by with_reducible assumption) (by with_reducible assumption) (by with_reducible assumption) (by (first | lia | omega)) (by (first | lia | omega)) (by (first | lia | omega)) (by (first | lia | omega))); k_whole))
      | (k_here; (with_reducible show wpAny _ _ (compareOp _ (Value.ref _) (Value.ref _)) _ _ _); k_dflt (refine' cmpM_ne ?k1 ?k2 ?k3 ?k4 ?k5 ?k6 ?k7 ?k8 ?_; (case k1 | k2 | k3 => k_asm); (case k4 | k5 => k_mem); (case k6 => rfl); (case k7 => ktr_units); (case k8 => first | exact same_whole (by with_reducible assumption) (by with_reducible assumption) (by with_reducible assumption) (by with_reducible assumption) | exact same_zero (by with_reducible assumption) (by (first | lia | omega)) | exact same_win (by with_reducible assumption) (by with_reducible assumption) (by with_reducible assumption) (by with_reducible assumption) (by (first | lia | omega)) (by (first | lia | omega)) (by (first | lia | omega)) (by (first | lia | omega))); k_whole))
      | with_reducible (k_here; (with_reducible show wpAny _ _ (call (Value.ref 315) [Value.ref _, Value.ref _, Value.ref _]) _ _ _); (k_dflt (refine' pc_use (lrun_ _ _ _ _ _ _ _ 0 _ 0 _ _ _ _ _ ?p0 ?p1 ?p2 ?p3 ?p4 ?p5 ?p6 ?p7 ?p8 ?p9) ?k1 ?k2 ?k3 ?kN ?k5 ?kK ?kd ?ku ?kp ?_; (case k1 | k2 | k3 | kN | k5 => k_asm); (case kK => first | exact rfl | assumption); (case kd => ktr_room); (case ku => ktr_units); (case kp => exact ⟨lst_of (by assumption) (by k_mem), lst_of (by assumption) (by k_mem), tup_at (by assumption) (by k_mem)⟩); (case p0 | p1 => assumption); (case p2 | p3 => (first | lia | omega)); (case p4 | p5 => exact RowOK.oct (by assumption)); (case p6 | p7 | p8 | p9 => (first | lia | omega)); intro r9 h9 tk9 st9 F9 N9 o9; obtain ⟨T9, q9, x9, y9, z9, e9, f9, g9, B9⟩ := o9; subst e9; (have l9 := news_ne (by assumption) f9); (replace N9 := news_in' (by assumption) N9 f9 g9); (try simp only [AllNe, and_true] at l9); (try k_sweep))))
      | (k_here; (with_reducible show wpAny _ _ (call (Value.ref 315) [Value.ref _, Value.ref _, Value.ref _]) _ _ _); (k_dflt (refine' pc_use (lrun_ _ _ _ _ _ _ _ 0 _ 0 _ _ _ _ _ ?p0 ?p1 ?p2 ?p3 ?p4 ?p5 ?p6 ?p7 ?p8 ?p9) ?k1 ?k2 ?k3 ?kN ?k5 ?kK ?kd ?ku ?kp ?_; (case k1 | k2 | k3 | kN | k5 => k_asm); (case kK => first | exact rfl | assumption); (case kd => ktr_room); (case ku => ktr_units); (case kp => exact ⟨lst_of (by assumption) (by k_mem), lst_of (by assumption) (by k_mem), tup_at (by assumption) (by k_mem)⟩); (case p0 | p1 => assumption); (case p2 | p3 => (first | lia | omega)); (case p4 | p5 => exact RowOK.oct (by assumption)); (case p6 | p7 | p8 | p9 => (first | lia | omega)); intro r9 h9 tk9 st9 F9 N9 o9; obtain ⟨T9, q9, x9, y9, z9, e9, f9, g9, B9⟩ := o9; subst e9; (have l9 := news_ne (by assumption) f9); (replace N9 := news_in' (by assumption) N9 f9 g9); (try simp only [AllNe, and_true] at l9); (try k_sweep))))
      | with_reducible (k_here; (show wpAny _ _ (call (Value.ref 196) [Value.ref _]) _ _ _); (k_dflt (refine' pc_use (flm0_ _ (txtS _) (txtS _) ?p0 ?p1) ?k1 ?k2 ?k3 ?kN ?k5 ?kK ?kd ?ku ?kp ?_; (case k1 | k2 | k3 | kN | k5 => k_asm); (case kK => first | exact rfl | assumption); (case kd => ktr_room); (case ku => ktr_units); (case kp => exact own_use (P := fun g => SM _ g _ _ _) (by assumption) (by iterate 15 (first | done | with_reducible assumption | apply news_tail))); (case p0 | p1 => exact txt_small (by (first | lia | omega))); intro r9 h9 tk9 st9 F9 N9 o9; obtain ⟨T9, d9, bi9, bj9, bs9, x9, y9, z9, e9, f9, g9, b9⟩ := o9; subst e9; (have l9 := news_ne (by assumption) f9); (replace N9 := news_in' (by assumption) N9 f9 g9); (try simp only [AllNe, and_true] at l9); (try k_sweep))))
      | (k_here; (show wpAny _ _ (call (Value.ref 196) [Value.ref _]) _ _ _); (k_dflt (refine' pc_use (flm0_ _ (txtS _) (txtS _) ?p0 ?p1) ?k1 ?k2 ?k3 ?kN ?k5 ?kK ?kd ?ku ?kp ?_; (case k1 | k2 | k3 | kN | k5 => k_asm); (case kK => first | exact rfl | assumption); (case kd => ktr_room); (case ku => ktr_units); (case kp => exact own_use (P := fun g => SM _ g _ _ _) (by assumption) (by iterate 15 (first | done | with_reducible assumption | apply news_tail))); (case p0 | p1 => exact txt_small (by (first | lia | omega))); intro r9 h9 tk9 st9 F9 N9 o9; obtain ⟨T9, d9, bi9, bj9, bs9, x9, y9, z9, e9, f9, g9, b9⟩ := o9; subst e9; (have l9 := news_ne (by assumption) f9); (replace N9 := news_in' (by assumption) N9 f9 g9); (try simp only [AllNe, and_true] at l9); (try k_sweep))))
      | fail
    all_goals k_steps)
  unfold Stop
  with_reducible rename Fr _ _ _ _ => F1
  with_reducible rename News _ _ _ _ => N1
  exact hend _ _ _ F1 (fun p hp => (by
    first
      | exact N1 p hp
      | exact N1 p (.tail _ hp)
      | exact N1 p (.tail _ (.tail _ hp))
      | exact N1 p (.tail _ (.tail _ (.tail _ hp)))
      | exact N1 p (.tail _ (.tail _ (.tail _ (.tail _ hp)))))) (List.forall_mem_cons.mpr ⟨rfl, List.forall_mem_cons.mpr ⟨rfl, List.forall_mem_cons.mpr ⟨rfl, List.forall_mem_cons.mpr ⟨rfl, (fun _ h => nomatch h)⟩⟩⟩⟩)
end
end
end Mine
end

-- E12e
section
open PySem PySem.W PyProof.Rows PySem.Calls
set_option maxRecDepth 100000
set_option maxHeartbeats 0
namespace Mine
section
variable {w : World} {p : Program} {loose : List Str} {mean : MeanT} {mg mb : Str → Option Value}

section
local macro_rules | `(tactic| walk_at "execs cons If") => `(tactic| refine stop_ ?_)

theorem lawG {dp un : Nat} {gd : Option (List Code)} {fa : Addr} {cd : Value} {outer : List Env} {A₀ : Around} {base h₀ : Heap} {L : Addr} {m : PySem.Str → Option Value} {s : Shared} {Post : Flow → Shared → Prop} {E : Value → Shared → Prop} {h : Heap} {tk : Nat}{nl la lb x dx d js jp : Addr} {own : Led} {us us1 us2 : List Value} {ns Lf Rg : List Int} {k0 n1 n2 : Nat} {ta tb a1 a2 a3 a4 a5 a6 a7 t1 t2 t3 : Tok}
    (B : Below A₀ base outer h₀) (X : (KK w.params).In h₀) (T : Top p loose mean mg mb h₀) (hd : dp + 40 < recursionLimit) (hu : un + 400 < cLine)
    (hI : IntsAre us ns) (hI1 : IntsAre us1 Lf) (hI2 : IntsAre us2 Rg) (hL : RowOK Lf 2 7) (hR : RowOK Rg 3 8)
    (F : Fr h₀ L h m) (N : News h₀ L h ((la, W.listOf us1.toArray n1) :: (lb, W.listOf us2.toArray n2) :: (nl, W.listOf us.toArray k0) :: own))
    (hIn : ∀ g, News h₀ L g own → PySem.W.InstAt g x (instObj 242 dx) 242 (some (smD w (txtS Lf) (txtS Rg) d js jp ta tb a1 a2 a3 a4 a5 a6 a7 t1 t2 t3))) (hSM : ∀ g, News h₀ L g own → SM w g x (txtS Lf) (txtS Rg)) (hns : ns.length ≤ 5)
    (hc : ∀ p ∈ [(S "matcher", Value.ref x), (S "left", Value.ref la), (S "right", .ref lb), (S "numbers", .ref nl)], m p.1 = some p.2)
    (hend : ∀ h' tk' m' hb tb9 hv tv n3 n4 P1 P2 Q1 Q2 s1 s2 s3 s4, Fr h₀ L h' m' → News h₀ L h' ((hb, W.listOf hv.toArray n3) :: (tb9, W.listOf tv.toArray n4) :: (la, W.listOf us1.toArray n1) :: (lb, W.listOf us2.toArray n2) :: (nl, W.listOf us.toArray k0) :: own) → IntsAre hv (placesL Lf) → IntsAre tv (placesL Rg) → P1 ≤ P2 → P2 ≤ Lf.length → Q1 ≤ Q2 → Q2 ≤ Rg.length →
      (∀ p ∈ [(S "here", Value.ref hb), (S "there", .ref tb9), (S "p1", .int (P1 : Int) s1), (S "p2", .int (P2 : Int) s2), (S "q1", .int (Q1 : Int) s3), (S "q2", .int (Q2 : Int) s4), (S "matcher", Value.ref x), (S "left", Value.ref la), (S "right", .ref lb), (S "numbers", .ref nl)], m' p.1 = some p.2) → wpAny (model PR w) (ktrTop dp un gd (S "law") (scOf (stAt NTOP 28)) L fa cd [] outer) (execs (lawBody.drop 11) (envX (S "law") (scOf (stAt NTOP 28)) L fa cd [])) Post E { s with heap := h', toks := tk' }) :
    wpAny (model PR w) (ktrTop dp un gd (S "law") (scOf (stAt NTOP 28)) L fa cd [] outer) (execs (lawBody.drop 7) (envX (S "law") (scOf (stAt NTOP 28)) L fa cd [])) Post E { s with heap := h, toks := tk } := by
  unfold PR
  revert X
  k_fill
  intro X
  replace F := fr_ovl hc F
  dsimp only [ovl] at F
  have hlL := hL.hi
  have hlR := hR.hi
  have hu1 := hI1.length
  have hu2 := hI2.length
  have hlo := hL.lo
  have hro := hR.lo
  unfold PR at hend
  k_steps
  repeat (
    any_goals first
      | with_reducible (k_here; (with_reducible show wpAny _ _ (call (Value.ref 310) [Value.ref _]) _ _ _); (k_dflt (refine' pc_use (places_ _ _ _ ?p0 ?p1 ?p2) ?k1 ?k2 ?k3 ?kN ?k5 ?kK ?kd ?ku ?kp ?_; (case k1 | k2 | k3 | kN | k5 => k_asm); (case kK => first | exact rfl | assumption); (case kd => ktr_room); (case ku => ktr_units); (case kp => exact lst_of (by assumption) (by k_mem)); (case p0 => assumption); (case p1 => (first | lia | omega)); (case p2 => exact RowOK.oct (by assumption)); intro r9 h9 tk9 st9 F9 N9 o9; obtain ⟨b9, w9, n9, e9, f9, g9, i9⟩ := o9; subst e9; (have l9 := news_ne (by assumption) f9); (replace N9 := news_in' (by assumption) N9 f9 g9); (try simp only [AllNe, and_true] at l9); (try k_sweep))))
      | (k_here; (with_reducible show wpAny _ _ (call (Value.ref 310) [Value.ref _]) _ _ _); (k_dflt (refine' pc_use (places_ _ _ _ ?p0 ?p1 ?p2) ?k1 ?k2 ?k3 ?kN ?k5 ?kK ?kd ?ku ?kp ?_; (case k1 | k2 | k3 | kN | k5 => k_asm); (case kK => first | exact rfl | assumption); (case kd => ktr_room); (case ku => ktr_units); (case kp => exact lst_of (by assumption) (by k_mem)); (case p0 => assumption); (case p1 => (first | lia | omega)); (case p2 => exact RowOK.oct (by assumption)); intro r9 h9 tk9 st9 F9 N9 o9; obtain ⟨b9, w9, n9, e9, f9, g9, i9⟩ := o9; subst e9; (have l9 := news_ne (by assumption) f9); (replace N9 := news_in' (by assumption) N9 f9 g9); (try simp only [AllNe, and_true] at l9); (try k_sweep))))
      | fail
    all_goals k_steps)
  unfold Stop
  with_reducible rename Fr _ _ _ _ => F1
  with_reducible rename News _ _ _ _ => N1
  have f1 := Int.fmod_eq_emod_of_nonneg ns.sum (by decide : (0 : Int) ≤ 2)
  have f2 := Int.fmod_eq_emod_of_nonneg (ns.sum.fdiv 2) (by decide : (0 : Int) ≤ 2)
  have f3 := Int.fmod_eq_emod_of_nonneg (ns.sum.fdiv 4) (by decide : (0 : Int) ≤ 3)
  have f4 := Int.fmod_eq_emod_of_nonneg (ns.sum.fdiv 12) (by decide : (0 : Int) ≤ 2)
  obtain ⟨P1, e1, p1⟩ : ∃ P : Nat, ns.sum.fmod 2 = (P : Int) ∧ P ≤ 1 := ⟨(ns.sum.fmod 2).toNat, by first | lia | omega, by first | lia | omega⟩
  obtain ⟨P2, e2, p2⟩ : ∃ P : Nat, (Lf.length : Int) - (ns.sum.fdiv 2).fmod 2 = (P : Int) ∧ (1 ≤ P ∧ P ≤ Lf.length) := ⟨((Lf.length : Int) - (ns.sum.fdiv 2).fmod 2).toNat, by first | lia | omega, by first | lia | omega⟩
  obtain ⟨Q1, e3, p3⟩ : ∃ P : Nat, (ns.sum.fdiv 4).fmod 3 = (P : Int) ∧ P ≤ 2 := ⟨((ns.sum.fdiv 4).fmod 3).toNat, by first | lia | omega, by first | lia | omega⟩
  obtain ⟨Q2, e4, p4⟩ : ∃ P : Nat, (Rg.length : Int) - (ns.sum.fdiv 12).fmod 2 = (P : Int) ∧ (2 ≤ P ∧ P ≤ Rg.length) := ⟨((Rg.length : Int) - (ns.sum.fdiv 12).fmod 2).toNat, by first | lia | omega, by first | lia | omega⟩
  rw [e1, e2, e3, e4] at F1
  refine hend _ _ _ _ _ _ _ _ _ P1 P2 Q1 Q2 _ _ _ _ F1 (fun p hp => N1 p (by
    rcases List.mem_cons.mp hp with rfl | hp
    · exact .tail _ (.tail _ (.head _))
    rcases List.mem_cons.mp hp with rfl | hp
    · exact .tail _ (.head _)
    · exact .tail _ (.tail _ (.tail _ (.tail _ (.tail _ hp)))))) (by assumption) (by assumption) (by first | lia | omega) (by first | lia | omega) (by first | lia | omega) (by first | lia | omega) (List.forall_mem_cons.mpr ⟨rfl, List.forall_mem_cons.mpr ⟨rfl, List.forall_mem_cons.mpr ⟨rfl, List.forall_mem_cons.mpr ⟨rfl, List.forall_mem_cons.mpr ⟨rfl, List.forall_mem_cons.mpr ⟨rfl, List.forall_mem_cons.mpr ⟨rfl, List.forall_mem_cons.mpr ⟨rfl, List.forall_mem_cons.mpr ⟨rfl, List.forall_mem_cons.mpr ⟨rfl, (fun _ h => nomatch h)⟩⟩⟩⟩⟩⟩⟩⟩⟩⟩)
end
end
end Mine
end

-- E12f
section
open PySem PySem.W PyProof.Rows PySem.Calls
set_option maxRecDepth 100000
set_option maxHeartbeats 0
namespace Mine
section
variable {w : World} {p : Program} {loose : List Str} {mean : MeanT} {mg mb : Str → Option Value}

theorem last_at {r : List Int} {vs : List Value} (h : IntsAre vs (placesL r)) : ∃ t, vs[vs.length - 1]? = some (.int ((txtS r).cps.size : Int) t) := by
  have e : vs.length - 1 = r.length := by rw [h.length, placesL_len]; rfl
  rw [e]
  have := placesL_last r
  rw [show ((flatL r).length : Int) = ((txtS r).cps.size : Int) by rw [← txt_cps]; simp] at this
  exact IntsAre.get h _ _ this
section
local macro_rules | `(tactic| walk_at "execs cons If") => `(tactic| refine stop_ ?_)
local macro_rules | `(tactic| walk_at "execs cons Assign") => `(tactic| refine stop_ ?_)
local macro_rules | `(tactic| k_inst) => `(tactic| (exact own_use (P := fun g => PySem.W.InstAt g _ _ _ _) (by assumption) (by iterate 15 (first | done | with_reducible assumption | apply news_tail))))
local macro_rules | `(tactic| walk_at "subscriptTail Name UnaryOp ref int") => `(tactic| (k_here; (with_reducible show wpAny _ _ (subscriptTail _ _ (Value.ref _) (Value.int (-1) _)) _ _ _); (with_unfolding_all refine' item_last ?k1 ?k2 ?_ ?k6; (case k1 => exact News.get (by assumption) (by k_mem)); (case k2 => with_reducible assumption); (case k6 => with_unfolding_all rfl); k_whole)))

section
theorem lawH {dp un : Nat} {gd : Option (List Code)} {fa : Addr} {cd : Value} {outer : List Env} {A₀ : Around} {base h₀ : Heap} {L : Addr} {m : PySem.Str → Option Value} {s : Shared} {Post : Flow → Shared → Prop} {E : Value → Shared → Prop} {h : Heap} {tk : Nat}{nl la lb x dx d js jp : Addr} {own : Led} {us us1 us2 : List Value} {ns Lf Rg : List Int} {k0 n1 n2 : Nat} {ta tb a1 a2 a3 a4 a5 a6 a7 t1 t2 t3 : Tok} {hb tb9 : Addr} {hv tv : List Value} {n3 n4 P1 P2 Q1 Q2 : Nat} {s1 s2 s3 s4 : Tok}
    (B : Below A₀ base outer h₀) (X : (KK w.params).In h₀) (T : Top p loose mean mg mb h₀) (hd : dp + 40 < recursionLimit) (hu : un + 400 < cLine)
    (hI : IntsAre us ns) (hI1 : IntsAre us1 Lf) (hI2 : IntsAre us2 Rg) (hL : RowOK Lf 2 7) (hR : RowOK Rg 3 8)
    (F : Fr h₀ L h m) (N : News h₀ L h ((hb, W.listOf hv.toArray n3) :: (tb9, W.listOf tv.toArray n4) :: (la, W.listOf us1.toArray n1) :: (lb, W.listOf us2.toArray n2) :: (nl, W.listOf us.toArray k0) :: own))
    (hIn : ∀ g, News h₀ L g own → PySem.W.InstAt g x (instObj 242 dx) 242 (some (smD w (txtS Lf) (txtS Rg) d js jp ta tb a1 a2 a3 a4 a5 a6 a7 t1 t2 t3))) (hSM : ∀ g, News h₀ L g own → SM w g x (txtS Lf) (txtS Rg))
    (hH : IntsAre hv (placesL Lf)) (hT : IntsAre tv (placesL Rg)) (hP : P1 ≤ P2) (hP2 : P2 ≤ Lf.length) (hQ : Q1 ≤ Q2) (hQ2 : Q2 ≤ Rg.length)
    (hc : ∀ p ∈ [(S "here", Value.ref hb), (S "there", .ref tb9), (S "p1", .int (P1 : Int) s1), (S "p2", .int (P2 : Int) s2), (S "q1", .int (Q1 : Int) s3), (S "q2", .int (Q2 : Int) s4), (S "matcher", Value.ref x), (S "left", Value.ref la), (S "right", .ref lb), (S "numbers", .ref nl)], m p.1 = some p.2)
    (hend : ∀ h' tk' m', Fr h₀ L h' m' → News h₀ L h' ((hb, W.listOf hv.toArray n3) :: (tb9, W.listOf tv.toArray n4) :: (la, W.listOf us1.toArray n1) :: (lb, W.listOf us2.toArray n2) :: (nl, W.listOf us.toArray k0) :: own) → (∀ p ∈ [(S "here", Value.ref hb), (S "there", .ref tb9), (S "p1", .int (P1 : Int) s1), (S "p2", .int (P2 : Int) s2), (S "q1", .int (Q1 : Int) s3), (S "q2", .int (Q2 : Int) s4), (S "matcher", Value.ref x), (S "left", Value.ref la), (S "right", .ref lb), (S "numbers", .ref nl)], m' p.1 = some p.2) → wpAny (model PR w) (ktrTop dp un gd (S "law") (scOf (stAt NTOP 28)) L fa cd [] outer) (execs (lawBody.drop 12) (envX (S "law") (scOf (stAt NTOP 28)) L fa cd [])) Post E { s with heap := h', toks := tk' }) :
    wpAny (model PR w) (ktrTop dp un gd (S "law") (scOf (stAt NTOP 28)) L fa cd [] outer) (execs (lawBody.drop 11) (envX (S "law") (scOf (stAt NTOP 28)) L fa cd [])) Post E { s with heap := h, toks := tk } := by
  unfold PR
  revert X
  k_fill
  intro X
  replace F := fr_ovl hc F
  dsimp only [ovl] at F
  have hlL := hL.hi
  have hlR := hR.hi
  have hlo := hL.lo
  have hro := hR.lo
  have hu1 := hI1.length
  have hu2 := hI2.length
  obtain ⟨tl, htl⟩ := last_at hH
  obtain ⟨tr, htr⟩ := last_at hT
  unfold PR at hend
  k_steps
  repeat (
    any_goals first
      | with_reducible (k_here; (show wpAny _ _ (call (Value.ref 196) [Value.ref _, Value.int _ _, Value.int _ _, Value.int _ _, Value.int _ _]) _ _ _); (k_dflt (refine' pc_use (flm_ _ (txtS _) (txtS _) 0 0 0 _ _ _ _ _ ?p0 ?p1 ?p2 ?p3 ?p4 ?p5) ?k1 ?k2 ?k3 ?kN ?k5 ?kK ?kd ?ku ?kp ?_; (case k1 | k2 | k3 | kN | k5 => k_asm); (case kK => first | exact rfl | assumption); (case kd => ktr_room); (case ku => ktr_units); (case kp => exact own_use (P := fun g => SM _ g _ _ _) (by assumption) (by iterate 15 (first | done | with_reducible assumption | apply news_tail)));  (case p0 | p1 => exact txt_small (by (first | lia | omega))); (case p2 | p3 | p4 | p5 => (first | lia | omega)); intro r9 h9 tk9 st9 F9 N9 o9; obtain ⟨T9, d9, bi9, bj9, bs9, x9, y9, z9, e9, f9, g9, b9⟩ := o9; subst e9; (have l9 := news_ne (by assumption) f9); (replace N9 := news_in' (by assumption) N9 f9 g9); (try simp only [AllNe, and_true] at l9); (try k_sweep))))
      | (k_here; (show wpAny _ _ (call (Value.ref 196) [Value.ref _, Value.int _ _, Value.int _ _, Value.int _ _, Value.int _ _]) _ _ _); (k_dflt (refine' pc_use (flm_ _ (txtS _) (txtS _) 0 0 0 _ _ _ _ _ ?p0 ?p1 ?p2 ?p3 ?p4 ?p5) ?k1 ?k2 ?k3 ?kN ?k5 ?kK ?kd ?ku ?kp ?_; (case k1 | k2 | k3 | kN | k5 => k_asm); (case kK => first | exact rfl | assumption); (case kd => ktr_room); (case ku => ktr_units); (case kp => exact own_use (P := fun g => SM _ g _ _ _) (by assumption) (by iterate 15 (first | done | with_reducible assumption | apply news_tail)));  (case p0 | p1 => exact txt_small (by (first | lia | omega))); (case p2 | p3 | p4 | p5 => (first | lia | omega)); intro r9 h9 tk9 st9 F9 N9 o9; obtain ⟨T9, d9, bi9, bj9, bs9, x9, y9, z9, e9, f9, g9, b9⟩ := o9; subst e9; (have l9 := news_ne (by assumption) f9); (replace N9 := news_in' (by assumption) N9 f9 g9); (try simp only [AllNe, and_true] at l9); (try k_sweep))))
      | with_reducible (k_here; (with_reducible show wpAny _ _ (compareOp _ (Value.ref _) (Value.ref _)) _ _ _); k_dflt (refine' cmpM_ne ?k1 ?k2 ?k3 ?k4 ?k5 ?k6 ?k7 ?k8 ?_; (case k1 | k2 | k3 => k_asm); (case k4 | k5 => k_mem); (case k6 => rfl); (case k7 => ktr_units); (case k8 => first | exact same_whole (by with_reducible assumption) (by with_reducible assumption) (by with_reducible assumption) (by with_reducible assumption) | exact same_zero (by with_reducible assumption) (by (first | lia | omega)) | exact same_win (by with_reducible assumption) (by with_reducible assumption) (by with_reducible assumption) (by with_reducible assumption) (by (first | lia | omega)) (by (first | lia | omega)) (by (first | lia | omega)) (by (first | lia | omega))); k_whole))
      | (k_here; (with_reducible show wpAny _ _ (compareOp _ (Value.ref _) (Value.ref _)) _ _ _); k_dflt (refine' cmpM_ne ?k1 ?k2 ?k3 ?k4 ?k5 ?k6 ?k7 ?k8 ?_; (case k1 | k2 | k3 => k_asm); (case k4 | k5 => k_mem); (case k6 => rfl); (case k7 => ktr_units); (case k8 => first | exact same_whole (by with_reducible assumption) (by with_reducible assumption) (by with_reducible assumption) (by with_reducible assumption) | exact same_zero (by with_reducible assumption) (by (first | lia | omega)) | exact same_win (by with_reducible assumption) (by with_reducible assumption) (by with_reducible assumption) (by with_reducible assumption) (by (first | lia | omega)) (by (first | lia | omega)) (by (first | lia | omega)) (by (first | lia | omega))); k_whole))
      | fail
    all_goals k_steps)
  unfold Stop
  with_reducible rename Fr _ _ _ _ => F1
  with_reducible rename News _ _ _ _ => N1
  exact hend _ _ _ F1 (fun p hp => (by
    first
      | exact N1 p hp
      | exact N1 p (.tail _ hp)
      | exact N1 p (.tail _ (.tail _ hp))
      | exact N1 p (.tail _ (.tail _ (.tail _ hp)))
      | exact N1 p (.tail _ (.tail _ (.tail _ (.tail _ hp)))))) (List.forall_mem_cons.mpr ⟨rfl, List.forall_mem_cons.mpr ⟨rfl, List.forall_mem_cons.mpr ⟨rfl, List.forall_mem_cons.mpr ⟨rfl, List.forall_mem_cons.mpr ⟨rfl, List.forall_mem_cons.mpr ⟨rfl, List.forall_mem_cons.mpr ⟨rfl, List.forall_mem_cons.mpr ⟨rfl, List.forall_mem_cons.mpr ⟨rfl, List.forall_mem_cons.mpr ⟨rfl, (fun _ h => nomatch h)⟩⟩⟩⟩⟩⟩⟩⟩⟩⟩)

end
section
theorem lawI {dp un : Nat} {gd : Option (List Code)} {fa : Addr} {cd : Value} {outer : List Env} {A₀ : Around} {base h₀ : Heap} {L : Addr} {m : PySem.Str → Option Value} {s : Shared} {Post : Flow → Shared → Prop} {E : Value → Shared → Prop} {h : Heap} {tk : Nat}{nl la lb x dx d js jp : Addr} {own : Led} {us us1 us2 : List Value} {ns Lf Rg : List Int} {k0 n1 n2 : Nat} {ta tb a1 a2 a3 a4 a5 a6 a7 t1 t2 t3 : Tok} {hb tb9 : Addr} {hv tv : List Value} {n3 n4 P1 P2 Q1 Q2 : Nat} {s1 s2 s3 s4 : Tok}
    (B : Below A₀ base outer h₀) (X : (KK w.params).In h₀) (T : Top p loose mean mg mb h₀) (hd : dp + 40 < recursionLimit) (hu : un + 400 < cLine)
    (hI : IntsAre us ns) (hI1 : IntsAre us1 Lf) (hI2 : IntsAre us2 Rg) (hL : RowOK Lf 2 7) (hR : RowOK Rg 3 8)
    (F : Fr h₀ L h m) (N : News h₀ L h ((hb, W.listOf hv.toArray n3) :: (tb9, W.listOf tv.toArray n4) :: (la, W.listOf us1.toArray n1) :: (lb, W.listOf us2.toArray n2) :: (nl, W.listOf us.toArray k0) :: own))
    (hIn : ∀ g, News h₀ L g own → PySem.W.InstAt g x (instObj 242 dx) 242 (some (smD w (txtS Lf) (txtS Rg) d js jp ta tb a1 a2 a3 a4 a5 a6 a7 t1 t2 t3))) (hSM : ∀ g, News h₀ L g own → SM w g x (txtS Lf) (txtS Rg))
    (hH : IntsAre hv (placesL Lf)) (hT : IntsAre tv (placesL Rg)) (hP : P1 ≤ P2) (hP2 : P2 ≤ Lf.length) (hQ : Q1 ≤ Q2) (hQ2 : Q2 ≤ Rg.length)
    (hc : ∀ p ∈ [(S "here", Value.ref hb), (S "there", .ref tb9), (S "p1", .int (P1 : Int) s1), (S "p2", .int (P2 : Int) s2), (S "q1", .int (Q1 : Int) s3), (S "q2", .int (Q2 : Int) s4), (S "matcher", Value.ref x), (S "left", Value.ref la), (S "right", .ref lb), (S "numbers", .ref nl)], m p.1 = some p.2)
    (hend : ∀ h' tk' m', Fr h₀ L h' m' → News h₀ L h' ((hb, W.listOf hv.toArray n3) :: (tb9, W.listOf tv.toArray n4) :: (la, W.listOf us1.toArray n1) :: (lb, W.listOf us2.toArray n2) :: (nl, W.listOf us.toArray k0) :: own) → (∀ p ∈ [(S "here", Value.ref hb), (S "there", .ref tb9), (S "p1", .int (P1 : Int) s1), (S "p2", .int (P2 : Int) s2), (S "q1", .int (Q1 : Int) s3), (S "q2", .int (Q2 : Int) s4), (S "matcher", Value.ref x), (S "left", Value.ref la), (S "right", .ref lb), (S "numbers", .ref nl)], m' p.1 = some p.2) → wpAny (model PR w) (ktrTop dp un gd (S "law") (scOf (stAt NTOP 28)) L fa cd [] outer) (execs (lawBody.drop 13) (envX (S "law") (scOf (stAt NTOP 28)) L fa cd [])) Post E { s with heap := h', toks := tk' }) :
    wpAny (model PR w) (ktrTop dp un gd (S "law") (scOf (stAt NTOP 28)) L fa cd [] outer) (execs (lawBody.drop 12) (envX (S "law") (scOf (stAt NTOP 28)) L fa cd [])) Post E { s with heap := h, toks := tk } := by
  unfold PR
  revert X
  k_fill
  intro X
  replace F := fr_ovl hc F
  dsimp only [ovl] at F
  have hlL := hL.hi
  have hlR := hR.hi
  have hlo := hL.lo
  have hro := hR.lo
  have hu1 := hI1.length
  have hu2 := hI2.length
  obtain ⟨tl, htl⟩ := last_at hH
  obtain ⟨tr, htr⟩ := last_at hT
  unfold PR at hend
  k_steps
  repeat (
    any_goals first
      | with_reducible (k_here; (show wpAny _ _ (call (Value.ref 196) [Value.ref _, Value.int _ _, Value.int _ _, Value.int _ _, Value.int _ _]) _ _ _); (k_dflt (refine' pc_use (flm_ _ (txtS _) (txtS _) 0 _ 0 0 _ _ _ _ ?p0 ?p1 ?p2 ?p3 ?p4 ?p5) ?k1 ?k2 ?k3 ?kN ?k5 ?kK ?kd ?ku ?kp ?_; (case k1 | k2 | k3 | kN | k5 => k_asm); (case kK => first | exact rfl | assumption); (case kd => ktr_room); (case ku => ktr_units); (case kp => exact own_use (P := fun g => SM _ g _ _ _) (by assumption) (by iterate 15 (first | done | with_reducible assumption | apply news_tail)));  (case p0 | p1 => exact txt_small (by (first | lia | omega))); (case p2 | p3 | p4 | p5 => (first | lia | omega)); intro r9 h9 tk9 st9 F9 N9 o9; obtain ⟨T9, d9, bi9, bj9, bs9, x9, y9, z9, e9, f9, g9, b9⟩ := o9; subst e9; (have l9 := news_ne (by assumption) f9); (replace N9 := news_in' (by assumption) N9 f9 g9); (try simp only [AllNe, and_true] at l9); (try k_sweep))))
      | (k_here; (show wpAny _ _ (call (Value.ref 196) [Value.ref _, Value.int _ _, Value.int _ _, Value.int _ _, Value.int _ _]) _ _ _); (k_dflt (refine' pc_use (flm_ _ (txtS _) (txtS _) 0 _ 0 0 _ _ _ _ ?p0 ?p1 ?p2 ?p3 ?p4 ?p5) ?k1 ?k2 ?k3 ?kN ?k5 ?kK ?kd ?ku ?kp ?_; (case k1 | k2 | k3 | kN | k5 => k_asm); (case kK => first | exact rfl | assumption); (case kd => ktr_room); (case ku => ktr_units); (case kp => exact own_use (P := fun g => SM _ g _ _ _) (by assumption) (by iterate 15 (first | done | with_reducible assumption | apply news_tail)));  (case p0 | p1 => exact txt_small (by (first | lia | omega))); (case p2 | p3 | p4 | p5 => (first | lia | omega)); intro r9 h9 tk9 st9 F9 N9 o9; obtain ⟨T9, d9, bi9, bj9, bs9, x9, y9, z9, e9, f9, g9, b9⟩ := o9; subst e9; (have l9 := news_ne (by assumption) f9); (replace N9 := news_in' (by assumption) N9 f9 g9); (try simp only [AllNe, and_true] at l9); (try k_sweep))))
      | with_reducible (k_here; (with_reducible show wpAny _ _ (compareOp _ (Value.ref _) (Value.ref _)) _ _ _); k_dflt (refine' cmpM_ne ?k1 ?k2 ?k3 ?k4 ?k5 ?k6 ?k7 ?k8 ?_; (case k1 | k2 | k3 => k_asm); (case k4 | k5 => k_mem); (case k6 => rfl); (case k7 => ktr_units); (case k8 => first | exact same_whole (by with_reducible assumption) (by with_reducible assumption) (by with_reducible assumption) (by with_reducible assumption) | exact same_zero (by with_reducible assumption) (by (first | lia | omega)) | exact same_win (by with_reducible assumption) (by with_reducible assumption) (by with_reducible assumption) (by with_reducible assumption) (by (first | lia | omega)) (by (first | lia | omega)) (by (first | lia | omega)) (by (first | lia | omega))); k_whole))
      | (k_here; (with_reducible show wpAny _ _ (compareOp _ (Value.ref _) (Value.ref _)) _ _ _); k_dflt (refine' cmpM_ne ?k1 ?k2 ?k3 ?k4 ?k5 ?k6 ?k7 ?k8 ?_; (case k1 | k2 | k3 => k_asm); (case k4 | k5 => k_mem); (case k6 => rfl); (case k7 => ktr_units); (case k8 => first | exact same_whole (by with_reducible assumption) (by with_reducible assumption) (by with_reducible assumption) (by with_reducible assumption) | exact same_zero (by with_reducible assumption) (by (first | lia | omega)) | exact same_win (by with_reducible assumption) (by with_reducible assumption) (by with_reducible assumption) (by with_reducible assumption) (by (first | lia | omega)) (by (first | lia | omega)) (by (first | lia | omega)) (by (first | lia | omega))); k_whole))
      | fail
    all_goals k_steps)
  k_steps
  repeat (
    any_goals first
      | with_reducible (k_here; (show wpAny _ _ (call (Value.ref 196) [Value.ref _, Value.int _ _, Value.int _ _, Value.int _ _, Value.int _ _]) _ _ _); (k_dflt (refine' pc_use (flm_ _ (txtS _) (txtS _) 0 _ 0 0 _ _ _ _ ?p0 ?p1 ?p2 ?p3 ?p4 ?p5) ?k1 ?k2 ?k3 ?kN ?k5 ?kK ?kd ?ku ?kp ?_; (case k1 | k2 | k3 | kN | k5 => k_asm); (case kK => first | exact rfl | assumption); (case kd => ktr_room); (case ku => ktr_units); (case kp => exact own_use (P := fun g => SM _ g _ _ _) (by assumption) (by iterate 15 (first | done | with_reducible assumption | apply news_tail)));  (case p0 | p1 => exact txt_small (by (first | lia | omega))); (case p2 | p3 | p4 | p5 => (first | lia | omega)); intro r9 h9 tk9 st9 F9 N9 o9; obtain ⟨T9, d9, bi9, bj9, bs9, x9, y9, z9, e9, f9, g9, b9⟩ := o9; subst e9; (have l9 := news_ne (by assumption) f9); (replace N9 := news_in' (by assumption) N9 f9 g9); (try simp only [AllNe, and_true] at l9); (try k_sweep))))
      | (k_here; (show wpAny _ _ (call (Value.ref 196) [Value.ref _, Value.int _ _, Value.int _ _, Value.int _ _, Value.int _ _]) _ _ _); (k_dflt (refine' pc_use (flm_ _ (txtS _) (txtS _) 0 _ 0 0 _ _ _ _ ?p0 ?p1 ?p2 ?p3 ?p4 ?p5) ?k1 ?k2 ?k3 ?kN ?k5 ?kK ?kd ?ku ?kp ?_; (case k1 | k2 | k3 | kN | k5 => k_asm); (case kK => first | exact rfl | assumption); (case kd => ktr_room); (case ku => ktr_units); (case kp => exact own_use (P := fun g => SM _ g _ _ _) (by assumption) (by iterate 15 (first | done | with_reducible assumption | apply news_tail)));  (case p0 | p1 => exact txt_small (by (first | lia | omega))); (case p2 | p3 | p4 | p5 => (first | lia | omega)); intro r9 h9 tk9 st9 F9 N9 o9; obtain ⟨T9, d9, bi9, bj9, bs9, x9, y9, z9, e9, f9, g9, b9⟩ := o9; subst e9; (have l9 := news_ne (by assumption) f9); (replace N9 := news_in' (by assumption) N9 f9 g9); (try simp only [AllNe, and_true] at l9); (try k_sweep))))
      | with_reducible (k_here; (with_reducible show wpAny _ _ (compareOp _ (Value.ref _) (Value.ref _)) _ _ _); k_dflt (refine' cmpM_ne ?k1 ?k2 ?k3 ?k4 ?k5 ?k6 ?k7 ?k8 ?_; (case k1 | k2 | k3 => k_asm); (case k4 | k5 => k_mem); (case k6 => rfl); (case k7 => ktr_units); (case k8 => first | exact same_whole (by with_reducible assumption) (by with_reducible assumption) (by with_reducible assumption) (by with_reducible assumption) | exact same_zero (by with_reducible assumption) (by (first | lia | omega)) | exact same_win (by with_reducible assumption) (by with_reducible assumption) (by with_reducible assumption) (by with_reducible assumption) (by (first | lia | omega)) (by (first | lia | omega)) (by (first | lia | omega)) (by (first | lia | omega))); k_whole))
      | (k_here; (with_reducible show wpAny _ _ (compareOp _ (Value.ref _) (Value.ref _)) _ _ _); k_dflt (refine' cmpM_ne ?k1 ?k2 ?k3 ?k4 ?k5 ?k6 ?k7 ?k8 ?_; (case k1 | k2 | k3 => k_asm); (case k4 | k5 => k_mem); (case k6 => rfl); (case k7 => ktr_units); (case k8 => first | exact same_whole (by with_reducible assumption) (by with_reducible assumption) (by with_reducible assumption) (by with_reducible assumption) | exact same_zero (by with_reducible assumption) (by (first | lia | omega)) | exact same_win (by with_reducible assumption) (by with_reducible assumption) (by with_reducible assumption) (by with_reducible assumption) (by (first | lia | omega)) (by (first | lia | omega)) (by (first | lia | omega)) (by (first | lia | omega))); k_whole))
      | fail
    all_goals k_steps)
  unfold Stop
  with_reducible rename Fr _ _ _ _ => F1
  with_reducible rename News _ _ _ _ => N1
  exact hend _ _ _ F1 (fun p hp => (by
    first
      | exact N1 p hp
      | exact N1 p (.tail _ hp)
      | exact N1 p (.tail _ (.tail _ hp))
      | exact N1 p (.tail _ (.tail _ (.tail _ hp)))
      | exact N1 p (.tail _ (.tail _ (.tail _ (.tail _ hp)))))) (List.forall_mem_cons.mpr ⟨rfl, List.forall_mem_cons.mpr ⟨rfl, List.forall_mem_cons.mpr ⟨rfl, List.forall_mem_cons.mpr ⟨rfl, List.forall_mem_cons.mpr ⟨rfl, List.forall_mem_cons.mpr ⟨rfl, List.forall_mem_cons.mpr ⟨rfl, List.forall_mem_cons.mpr ⟨rfl, List.forall_mem_cons.mpr ⟨rfl, List.forall_mem_cons.mpr ⟨rfl, (fun _ h => nomatch h)⟩⟩⟩⟩⟩⟩⟩⟩⟩⟩)

end
end
theorem item_plc {prog : Program} {w : World} {A : Around} {E : Value → Shared → Prop} {s : Shared} {h₀ : Heap} {L l : Addr} {news : Led} {value slice : PySem.Expr} {r : List Int} {vs : List Value} {n P : Nat} {u : Tok} {Q : Value → Shared → Prop} (N : News h₀ L s.heap news) (hm : (l, W.listOf vs.toArray n) ∈ news) (hi : IntsAre vs (placesL r)) (hP : P ≤ r.length) (hr : r.length ≤ 8)
    (h : ∀ t, Q (.int ((plc r P : Nat) : Int) t) s)
    (hs : subscripted slice false (.ref l) (.int (P : Int) u) = operate [.ref l, .int (P : Int) u] (getItem (.ref l) (.int (P : Int) u)) := by with_unfolding_all rfl) :
    wpAny (model prog w) A (subscriptTail value slice (.ref l) (.int (P : Int) u)) Q E s := by
  have hL : s.heap.IsList l vs.toArray := lst_of N hm
  have hx : (placesL r)[P]? = some ((plc r P : Nat) : Int) := by
    unfold placesL
    rw [List.getElem?_map, List.getElem?_range (by (first | lia | omega))]
    rfl
  obtain ⟨t, ht⟩ := IntsAre.get hi _ _ hx
  have hlen := hi.length
  rw [placesL_len] at hlen
  exact tail_any hL.typeIs slot_list_getitem.lookup (wpAny_getItem_list hL (by (first | lia | omega)) (by (first | lia | omega)) (by simpa using ht) (h t)) hs
theorem plc_le {r : List Int} {a b : Nat} (h : a ≤ b) (hb : b ≤ r.length) : plc r a ≤ plc r b ∧ plc r b ≤ (txtS r).cps.size := by
  refine ⟨plc_mono h hb, ?_⟩
  rw [← plc_len]
  exact plc_mono hb (Nat.le_refl _)
section
local macro_rules | `(tactic| walk_at "execs cons Assign") => `(tactic| refine stop_ ?_)
local macro_rules | `(tactic| k_inst) => `(tactic| (exact own_use (P := fun g => PySem.W.InstAt g _ _ _ _) (by assumption) (by iterate 15 (first | done | with_reducible assumption | apply news_tail))))
local macro_rules | `(tactic| walk_at "subscriptTail") => `(tactic| (k_here; (with_reducible show wpAny _ _ (subscriptTail _ _ (Value.ref _) (Value.int (Nat.cast _) _)) _ _ _); (with_unfolding_all refine' item_plc ?k1 ?k2 ?k3 ?k4 ?k5 ?_ ?k6; (case k1 => k_asm); (case k2 => k_mem); (case k3 => with_reducible assumption); (case k4 | k5 => omega); (case k6 => with_unfolding_all rfl); k_whole; intro t9')))
local macro_rules | `(tactic| walk_at "subscriptTail Name Name ref int") => `(tactic| (k_here; (with_reducible show wpAny _ _ (subscriptTail _ _ (Value.ref _) (Value.int (Nat.cast _) _)) _ _ _); (with_unfolding_all refine' item_plc ?k1 ?k2 ?k3 ?k4 ?k5 ?_ ?k6; (case k1 => k_asm); (case k2 => k_mem); (case k3 => with_reducible assumption); (case k4 | k5 => omega); (case k6 => with_unfolding_all rfl); k_whole; intro t9')))

theorem lawJ {dp un : Nat} {gd : Option (List Code)} {fa : Addr} {cd : Value} {outer : List Env} {A₀ : Around} {base h₀ : Heap} {L : Addr} {m : PySem.Str → Option Value} {s : Shared} {Post : Flow → Shared → Prop} {E : Value → Shared → Prop} {h : Heap} {tk : Nat}{nl la lb x dx d js jp : Addr} {own : Led} {us us1 us2 : List Value} {ns Lf Rg : List Int} {k0 n1 n2 : Nat} {ta tb a1 a2 a3 a4 a5 a6 a7 t1 t2 t3 : Tok} {hb tb9 : Addr} {hv tv : List Value} {n3 n4 P1 P2 Q1 Q2 : Nat} {s1 s2 s3 s4 : Tok}
    (B : Below A₀ base outer h₀) (X : (KK w.params).In h₀) (T : Top p loose mean mg mb h₀) (hd : dp + 40 < recursionLimit) (hu : un + 400 < cLine)
    (hI : IntsAre us ns) (hI1 : IntsAre us1 Lf) (hI2 : IntsAre us2 Rg) (hL : RowOK Lf 2 7) (hR : RowOK Rg 3 8)
    (F : Fr h₀ L h m) (N : News h₀ L h ((hb, W.listOf hv.toArray n3) :: (tb9, W.listOf tv.toArray n4) :: (la, W.listOf us1.toArray n1) :: (lb, W.listOf us2.toArray n2) :: (nl, W.listOf us.toArray k0) :: own))
    (hIn : ∀ g, News h₀ L g own → PySem.W.InstAt g x (instObj 242 dx) 242 (some (smD w (txtS Lf) (txtS Rg) d js jp ta tb a1 a2 a3 a4 a5 a6 a7 t1 t2 t3))) (hSM : ∀ g, News h₀ L g own → SM w g x (txtS Lf) (txtS Rg))
    (hH : IntsAre hv (placesL Lf)) (hT : IntsAre tv (placesL Rg)) (hP : P1 ≤ P2) (hP2 : P2 ≤ Lf.length) (hQ : Q1 ≤ Q2) (hQ2 : Q2 ≤ Rg.length)
    (hc : ∀ p ∈ [(S "here", Value.ref hb), (S "there", .ref tb9), (S "p1", .int (P1 : Int) s1), (S "p2", .int (P2 : Int) s2), (S "q1", .int (Q1 : Int) s3), (S "q2", .int (Q2 : Int) s4), (S "matcher", Value.ref x), (S "left", Value.ref la), (S "right", .ref lb), (S "numbers", .ref nl)], m p.1 = some p.2)
    (hend : ∀ h' tk' m', Fr h₀ L h' m' → Post (.ret (.bool true)) { s with heap := h', toks := tk' }) :
    wpAny (model PR w) (ktrTop dp un gd (S "law") (scOf (stAt NTOP 28)) L fa cd [] outer) (execs (lawBody.drop 13) (envX (S "law") (scOf (stAt NTOP 28)) L fa cd [])) Post E { s with heap := h, toks := tk } := by
  unfold PR
  revert X
  k_fill
  intro X
  replace F := fr_ovl hc F
  dsimp only [ovl] at F
  have hlL := hL.hi
  have hlR := hR.hi
  have hlo := hL.lo
  have hro := hR.lo
  have hu1 := hI1.length
  have hu2 := hI2.length
  obtain ⟨tl, htl⟩ := last_at hH
  obtain ⟨tr, htr⟩ := last_at hT
  have q1 := plc_le hP hP2
  have q2 := plc_le hQ hQ2
  k_steps
  repeat (
    any_goals first
      | with_reducible (k_here; (show wpAny _ _ (call (Value.ref 196) [Value.ref _, Value.int _ _, Value.int _ _, Value.int _ _, Value.int _ _]) _ _ _); (k_dflt (refine' pc_use (flm_ _ (txtS _) (txtS _) _ _ _ _ _ _ _ _ ?p0 ?p1 ?p2 ?p3 ?p4 ?p5) ?k1 ?k2 ?k3 ?kN ?k5 ?kK ?kd ?ku ?kp ?_; (case k1 | k2 | k3 | kN | k5 => k_asm); (case kK => first | exact rfl | assumption); (case kd => ktr_room); (case ku => ktr_units); (case kp => exact own_use (P := fun g => SM _ g _ _ _) (by assumption) (by iterate 15 (first | done | with_reducible assumption | apply news_tail)));  (case p0 | p1 => exact txt_small (by (first | lia | omega))); (case p2 => exact And.left (by assumption)); (case p3 => exact And.right (by assumption)); (case p4 => exact And.left (by assumption)); (case p5 => exact And.right (by assumption)); intro r9 h9 tk9 st9 F9 N9 o9; obtain ⟨T9, d9, bi9, bj9, bs9, x9, y9, z9, e9, f9, g9, b9⟩ := o9; subst e9; (have l9 := news_ne (by assumption) f9); (replace N9 := news_in' (by assumption) N9 f9 g9); (try simp only [AllNe, and_true] at l9); (try k_sweep))))
      | (k_here; (show wpAny _ _ (call (Value.ref 196) [Value.ref _, Value.int _ _, Value.int _ _, Value.int _ _, Value.int _ _]) _ _ _); (k_dflt (refine' pc_use (flm_ _ (txtS _) (txtS _) _ _ _ _ _ _ _ _ ?p0 ?p1 ?p2 ?p3 ?p4 ?p5) ?k1 ?k2 ?k3 ?kN ?k5 ?kK ?kd ?ku ?kp ?_; (case k1 | k2 | k3 | kN | k5 => k_asm); (case kK => first | exact rfl | assumption); (case kd => ktr_room); (case ku => ktr_units); (case kp => exact own_use (P := fun g => SM _ g _ _ _) (by assumption) (by iterate 15 (first | done | with_reducible assumption | apply news_tail)));  (case p0 | p1 => exact txt_small (by (first | lia | omega))); (case p2 => exact And.left (by assumption)); (case p3 => exact And.right (by assumption)); (case p4 => exact And.left (by assumption)); (case p5 => exact And.right (by assumption)); intro r9 h9 tk9 st9 F9 N9 o9; obtain ⟨T9, d9, bi9, bj9, bs9, x9, y9, z9, e9, f9, g9, b9⟩ := o9; subst e9; (have l9 := news_ne (by assumption) f9); (replace N9 := news_in' (by assumption) N9 f9 g9); (try simp only [AllNe, and_true] at l9); (try k_sweep))))
      | with_reducible (k_here; (with_reducible show wpAny _ _ (call (Value.ref 315) [Value.ref _, Value.ref _, Value.ref _]) _ _ _); (k_dflt (refine' pc_use (lrun_ _ _ _ _ _ _ _ _ _ _ _ _ _ _ _ ?p0 ?p1 ?p2 ?p3 ?p4 ?p5 ?p6 ?p7 ?p8 ?p9) ?k1 ?k2 ?k3 ?kN ?k5 ?kK ?kd ?ku ?kp ?_; (case k1 | k2 | k3 | kN | k5 => k_asm); (case kK => first | exact rfl | assumption); (case kd => ktr_room); (case ku => ktr_units); (case kp => exact ⟨lst_of (by assumption) (by k_mem), lst_of (by assumption) (by k_mem), tup_at (by assumption) (by k_mem)⟩); (case p0 | p1 => assumption); (case p2 | p3 => (first | lia | omega)); (case p4 | p5 => exact RowOK.oct (by assumption)); (case p6 | p7 | p8 | p9 => (first | lia | omega)); intro r9 h9 tk9 st9 F9 N9 o9; obtain ⟨T9, q9, x9, y9, z9, e9, f9, g9, B9⟩ := o9; subst e9; (have l9 := news_ne (by assumption) f9); (replace N9 := news_in' (by assumption) N9 f9 g9); (try simp only [AllNe, and_true] at l9); (try k_sweep))))
      | (k_here; (with_reducible show wpAny _ _ (call (Value.ref 315) [Value.ref _, Value.ref _, Value.ref _]) _ _ _); (k_dflt (refine' pc_use (lrun_ _ _ _ _ _ _ _ _ _ _ _ _ _ _ _ ?p0 ?p1 ?p2 ?p3 ?p4 ?p5 ?p6 ?p7 ?p8 ?p9) ?k1 ?k2 ?k3 ?kN ?k5 ?kK ?kd ?ku ?kp ?_; (case k1 | k2 | k3 | kN | k5 => k_asm); (case kK => first | exact rfl | assumption); (case kd => ktr_room); (case ku => ktr_units); (case kp => exact ⟨lst_of (by assumption) (by k_mem), lst_of (by assumption) (by k_mem), tup_at (by assumption) (by k_mem)⟩); (case p0 | p1 => assumption); (case p2 | p3 => (first | lia | omega)); (case p4 | p5 => exact RowOK.oct (by assumption)); (case p6 | p7 | p8 | p9 => (first | lia | omega)); intro r9 h9 tk9 st9 F9 N9 o9; obtain ⟨T9, q9, x9, y9, z9, e9, f9, g9, B9⟩ := o9; subst e9; (have l9 := news_ne (by assumption) f9); (replace N9 := news_in' (by assumption) N9 f9 g9); (try simp only [AllNe, and_true] at l9); (try k_sweep))))
      | with_reducible (k_here; (with_reducible show wpAny _ _ (compareOp _ (Value.ref _) (Value.ref _)) _ _ _); k_dflt (refine' cmpM_eq ?k1 ?k2 ?k3 ?k4 ?k5 ?k6 ?k7 ?k8 ?_; (case k1 | k2 | k3 => k_asm); (case k4 | k5 => k_mem); (case k6 => rfl); (case k7 => ktr_units); (case k8 => first | exact same_whole (by with_reducible assumption) (by with_reducible assumption) (by with_reducible assumption) (by with_reducible assumption) | exact same_zero (by with_reducible assumption) (by (first | lia | omega)) | exact same_win (by with_reducible assumption) (by with_reducible assumption) (by with_reducible assumption) (by with_reducible assumption) (by (first | lia | omega)) (by (first | lia | omega)) (by (first | lia | omega)) (by (first | lia | omega))); k_whole))
      | (k_here; (with_reducible show wpAny _ _ (compareOp _ (Value.ref _) (Value.ref _)) _ _ _); k_dflt (refine' cmpM_eq ?k1 ?k2 ?k3 ?k4 ?k5 ?k6 ?k7 ?k8 ?_; (case k1 | k2 | k3 => k_asm); (case k4 | k5 => k_mem); (case k6 => rfl); (case k7 => ktr_units); (case k8 => first | exact same_whole (by with_reducible assumption) (by with_reducible assumption) (by with_reducible assumption) (by with_reducible assumption) | exact same_zero (by with_reducible assumption) (by (first | lia | omega)) | exact same_win (by with_reducible assumption) (by with_reducible assumption) (by with_reducible assumption) (by with_reducible assumption) (by (first | lia | omega)) (by (first | lia | omega)) (by (first | lia | omega)) (by (first | lia | omega))); k_whole))
      | fail
    all_goals k_steps)
  with_reducible rename Fr _ _ _ _ => F1
  exact hend _ _ _ F1
end
end
end Mine
end

-- E12g
section
open PySem PySem.W PyProof.Rows PySem.Calls
set_option maxRecDepth 100000
set_option maxHeartbeats 0
namespace Mine
section
variable {w : World} {p : Program} {loose : List Str} {mean : MeanT} {mg mb : Str → Option Value}

theorem lawAll {dp un : Nat} {gd : Option (List Code)} {fa : Addr} {cd : Value} {outer : List Env} {A₀ : Around} {base h₀ : Heap} {L : Addr} {m : PySem.Str → Option Value} {s : Shared} {Post : Flow → Shared → Prop} {E : Value → Shared → Prop} {h : Heap} {tk : Nat} {l : Addr} {vs : List Value} {ns : List Int}
    (B : Below A₀ base outer h₀) (X : (KK w.params).In h₀) (T : Top p loose mean mg mb h₀) (hd : dp + 40 < recursionLimit) (hu : un + 400 < cLine)
    (hl : h₀.IsList l vs.toArray) (hI : IntsAre vs ns) (hn : ns.length < 64)
    (F : Fr h₀ L h (fun y => List.lookup y [(S "script", Value.ref l)].reverse)) (N : News h₀ L h [])
    (hend : ∀ h' tk' m', Fr h₀ L h' m' → Post (.ret (.bool true)) { s with heap := h', toks := tk' }) :
    wpAny (model PR w) (ktrTop dp un gd (S "law") (scOf (stAt NTOP 28)) L fa cd [] outer) (execs (lawBody.drop 0) (envX (S "law") (scOf (stAt NTOP 28)) L fa cd [])) Post E { s with heap := h, toks := tk } := by
  refine lawA (m := fun _ => none) B X T hd hu hl hI hn F N ?_
  intro h1 tk1 m1 nl us ms F1 N1 I1 len1 _ c1
  refine lawB B X T hd hu I1 len1 F1 N1 (by intro p hp; rw [List.mem_singleton.mp hp]; exact c1) ?_
  intro h2 tk2 m2 la lb us1 us2 n1 n2 F2 N2 J1 J2 hne c2
  have hL := left_ok (ns := ms) len1
  have hR := right_ok (ns := ms) len1
  generalize leftL ms = Lf at *
  generalize rightL ms = Rg at *
  refine lawC B X T hd hu I1 J1 J2 hL hR F2 N2 c2 ?_
  intro h3 tk3 m3 t1 t2 F3 N3 c3
  refine lawD1 B X T hd hu I1 J1 J2 hL hR F3 N3 c3 ?_
  intro h4 tk4 m4 F4 N4 c4
  refine lawD2 B X T hd hu I1 J1 J2 hL hR F4 N4 c4 ?_
  intro h5 tk5 m5 F5 N5 c5
  refine lawE B X T hd hu I1 J1 J2 hL hR hne F5 N5 c5 ?_
  intro h6 tk6 m6 x own dx d js jp ta tb a1 a2 a3 a4 a5 a6 a7 u1 u2 u3 F6 N6 hIn hSM c6
  refine lawF B X T hd hu I1 J1 J2 hL hR F6 N6 hIn hSM c6 ?_
  intro h7 tk7 m7 F7 N7 c7
  refine lawG B X T hd hu I1 J1 J2 hL hR F7 N7 hIn hSM len1 c7 ?_
  intro h8 tk8 m8 hb tb9 hv tv n3 n4 P1 P2 Q1 Q2 s1 s2 s3 s4 F8 N8 iH iT p1 p2 q1 q2 c8
  refine lawH B X T hd hu I1 J1 J2 hL hR F8 N8 hIn hSM iH iT p1 p2 q1 q2 c8 ?_
  intro h9 tk9 m9 F9 N9 c9
  refine lawI B X T hd hu I1 J1 J2 hL hR F9 N9 hIn hSM iH iT p1 p2 q1 q2 c9 ?_
  intro h10 tk10 m10 F10 N10 c10
  exact lawJ B X T hd hu I1 J1 J2 hL hR F10 N10 hIn hSM iH iT p1 p2 q1 q2 c10 hend
end
end Mine
end

-- Pc
section
open PySem PySem.W PyProof.Rows
set_option maxRecDepth 100000
set_option maxHeartbeats 0
namespace Mine
noncomputable abbrev runTw := PySem.W.Fast.tw10110043849684766642
noncomputable abbrev goTw := PySem.W.Fast.tw10295753902157049106
noncomputable abbrev denTw := PySem.W.Fast.tw11892475500146522536
noncomputable abbrev ANN : Option Value := some (.ref 6)
noncomputable def ftOf : Stmt → Expr
  | .For t .. => t
  | _ => .Name Str.empty ⟨0, 0, 0, 0⟩
noncomputable def fbOf : Stmt → List Stmt
  | .For _ _ b .. => b
  | _ => []
noncomputable def avOf : Stmt → Expr
  | .Assign _ v _ => v
  | _ => .Name Str.empty ⟨0, 0, 0, 0⟩
noncomputable def lsOf : Expr → Scope
  | .ListComp _ _ s _ => s
  | _ => { kind := .function, names := [], isGenerator := false, isCoroutine := false }
noncomputable def kAt : Option (SharedT × Thread) → Result → Sem PySem.Fin
  | some (_, ⟨_, _, _, .ret k _ _ _ _ _ _ :: _⟩) => k
  | _ => fun _ => .raise .none
noncomputable abbrev ST (d t : Nat) (b : List Stmt) (q : Pos) : Thread := piecesOf ((TOP.drop d).take t) ENV (.body b ENV) q BB
noncomputable def CENV : Env := { scope := lsOf (avOf (stAt TOP 6)), locals := 250, globals := 3, cells := [], qual := Str.empty, func := none, code := .ref 13, frame := some 14 }
noncomputable def CL : Code := .compLoop (avOf (stAt TOP 6)) 0 (.ref 248) (.ref 249) CENV
noncomputable def FL (i : Nat) (a : Addr) : Code := .forLoop (ftOf (stAt TOP i)) (.ref a) (fbOf (stAt TOP i)) [] ENV
noncomputable def ThC (b : List Stmt) (K : Result → Sem PySem.Fin) : Thread := ⟨denTw tb2 CL, CL, ⟨418, 36, 418, 46⟩, .ret K none true [.ref 250, .ref 249] (.body b ENV) ⟨418, 36, 418, 46⟩ [] :: BB⟩
noncomputable def ThF (i : Nat) (a : Addr) (q : Pos) (b : List Stmt) (K : Result → Sem PySem.Fin) : Thread := ⟨denTw tb2 (FL i a), FL i a, q, .ret K none false [] (.body b ENV) q [] :: BB⟩
theorem p0 (p : Program) (b : List Stmt) (w : World) (os : OsState) : runTw tb2 p w 11 ANN 1 362 (SA w os) (ST 0 3 b ⟨0, 0, 0, 0⟩) = some (.next, SB w os, .body b ENV, ⟨5, 0, 22, 54⟩) := by kernel_rfl
theorem p1 (p : Program) (b : List Stmt) (w : World) (os : OsState) : runTw tb2 p w 11 ANN 1 1047 (SB w os) (ST 3 1 b ⟨5, 0, 22, 54⟩) = some (.next, SC w os, .body b ENV, ⟨23, 0, 65, 54⟩) := by kernel_rfl
theorem p2 (p : Program) (b : List Stmt) (w : World) (os : OsState) : runTw tb2 p w 11 ANN 1 679 (SC w os) (ST 4 2 b ⟨23, 0, 65, 54⟩) = some (.next, SD w os, .body b ENV, ⟨70, 0, 417, 16⟩) := by kernel_rfl
theorem p4 (p : Program) (b : List Stmt) (w : World) (os : OsState) : runTw tb2 p w 11 ANN 1 109 (SE w os) (ST 7 7 b ⟨418, 0, 418, 11⟩) = some (.next, SF w os, .body b ENV, ⟨425, 0, 425, 8⟩) := by kernel_rfl
theorem p6 (p : Program) (b : List Stmt) (w : World) (os : OsState) : runTw tb2 p w 11 ANN 1 25 (SG w os) (ST 15 1 b ⟨426, 9, 426, 74⟩) = some (.next, SI w os, .body b ENV, ⟨428, 0, 428, 28⟩) := by kernel_rfl
theorem p8 (p : Program) (b : List Stmt) (w : World) (os : OsState) : runTw tb2 p w 11 ANN 1 62 (SJ w os) (ST 17 2 b ⟨429, 9, 429, 110⟩) = some (.next, SJ2 w os, .body b ENV, ⟨446, 0, 446, 23⟩) := by kernel_rfl
theorem p9 (p : Program) (b : List Stmt) (w : World) (os : OsState) : runTw tb2 p w 11 ANN 1 221 (SK w os) (ST 20 9 b ⟨447, 9, 447, 16⟩) = some (.next, SL w os, .body b ENV, ⟨501, 0, 521, 59⟩) := by kernel_rfl
theorem l5r (p : Program) (b : List Stmt) (w : World) (os : OsState) (K : Result → Sem PySem.Fin) : goTw tb2 p w 11 ANN 1 3032 (SFx w os) (ThF 14 257 ⟨426, 9, 426, 74⟩ b K) = some (SG w os, ⟨K (.ok .next), .body b ENV, ⟨426, 9, 426, 74⟩, BB⟩) := by kernel_rfl
noncomputable def l5kt (p : Program) (b : List Stmt) (w : World) (os : OsState) : Result → Sem PySem.Fin := kAt (goTw tb2 p (World.withFollow w "special-get-raises" true) 11 ANN 1 44 (SF (World.withFollow w "special-get-raises" true) os) (ST 14 1 b ⟨425, 0, 425, 8⟩))
theorem l5st (p : Program) (b : List Stmt) (w : World) (os : OsState) : goTw tb2 p (World.withFollow w "special-get-raises" true) 11 ANN 1 44 (SF (World.withFollow w "special-get-raises" true) os) (ST 14 1 b ⟨425, 0, 425, 8⟩) = some (SFx (World.withFollow w "special-get-raises" true) os, ThF 14 257 ⟨426, 9, 426, 74⟩ b (l5kt p b w os)) := by kernel_rfl
theorem l5et (p : Program) (b : List Stmt) (w : World) (os : OsState) : runTw tb2 p (World.withFollow w "special-get-raises" true) 11 ANN 1 1 (SG (World.withFollow w "special-get-raises" true) os) ⟨l5kt p b w os (.ok .next), .body b ENV, ⟨426, 9, 426, 74⟩, BB⟩ = some (.next, SG (World.withFollow w "special-get-raises" true) os, .body b ENV, ⟨426, 9, 426, 74⟩) := by kernel_rfl
noncomputable def l5kf (p : Program) (b : List Stmt) (w : World) (os : OsState) : Result → Sem PySem.Fin := kAt (goTw tb2 p (World.withFollow w "special-get-raises" false) 11 ANN 1 44 (SF (World.withFollow w "special-get-raises" false) os) (ST 14 1 b ⟨425, 0, 425, 8⟩))
theorem l5sf (p : Program) (b : List Stmt) (w : World) (os : OsState) : goTw tb2 p (World.withFollow w "special-get-raises" false) 11 ANN 1 44 (SF (World.withFollow w "special-get-raises" false) os) (ST 14 1 b ⟨425, 0, 425, 8⟩) = some (SFx (World.withFollow w "special-get-raises" false) os, ThF 14 257 ⟨426, 9, 426, 74⟩ b (l5kf p b w os)) := by kernel_rfl
theorem l5ef (p : Program) (b : List Stmt) (w : World) (os : OsState) : runTw tb2 p (World.withFollow w "special-get-raises" false) 11 ANN 1 1 (SG (World.withFollow w "special-get-raises" false) os) ⟨l5kf p b w os (.ok .next), .body b ENV, ⟨426, 9, 426, 74⟩, BB⟩ = some (.next, SG (World.withFollow w "special-get-raises" false) os, .body b ENV, ⟨426, 9, 426, 74⟩) := by kernel_rfl
theorem l7r (p : Program) (b : List Stmt) (w : World) (os : OsState) (K : Result → Sem PySem.Fin) : goTw tb2 p w 11 ANN 1 4292 (SIx w os) (ThF 16 260 ⟨429, 9, 429, 110⟩ b K) = some (SJ w os, ⟨K (.ok .next), .body b ENV, ⟨429, 9, 429, 110⟩, BB⟩) := by kernel_rfl
noncomputable def l7kt (p : Program) (b : List Stmt) (w : World) (os : OsState) : Result → Sem PySem.Fin := kAt (goTw tb2 p (World.withFollow w "special-get-raises" true) 11 ANN 1 10 (SI (World.withFollow w "special-get-raises" true) os) (ST 16 1 b ⟨428, 0, 428, 28⟩))
theorem l7st (p : Program) (b : List Stmt) (w : World) (os : OsState) : goTw tb2 p (World.withFollow w "special-get-raises" true) 11 ANN 1 10 (SI (World.withFollow w "special-get-raises" true) os) (ST 16 1 b ⟨428, 0, 428, 28⟩) = some (SIx (World.withFollow w "special-get-raises" true) os, ThF 16 260 ⟨429, 9, 429, 110⟩ b (l7kt p b w os)) := by kernel_rfl
theorem l7et (p : Program) (b : List Stmt) (w : World) (os : OsState) : runTw tb2 p (World.withFollow w "special-get-raises" true) 11 ANN 1 1 (SJ (World.withFollow w "special-get-raises" true) os) ⟨l7kt p b w os (.ok .next), .body b ENV, ⟨429, 9, 429, 110⟩, BB⟩ = some (.next, SJ (World.withFollow w "special-get-raises" true) os, .body b ENV, ⟨429, 9, 429, 110⟩) := by kernel_rfl
noncomputable def l7kf (p : Program) (b : List Stmt) (w : World) (os : OsState) : Result → Sem PySem.Fin := kAt (goTw tb2 p (World.withFollow w "special-get-raises" false) 11 ANN 1 10 (SI (World.withFollow w "special-get-raises" false) os) (ST 16 1 b ⟨428, 0, 428, 28⟩))
theorem l7sf (p : Program) (b : List Stmt) (w : World) (os : OsState) : goTw tb2 p (World.withFollow w "special-get-raises" false) 11 ANN 1 10 (SI (World.withFollow w "special-get-raises" false) os) (ST 16 1 b ⟨428, 0, 428, 28⟩) = some (SIx (World.withFollow w "special-get-raises" false) os, ThF 16 260 ⟨429, 9, 429, 110⟩ b (l7kf p b w os)) := by kernel_rfl
theorem l7ef (p : Program) (b : List Stmt) (w : World) (os : OsState) : runTw tb2 p (World.withFollow w "special-get-raises" false) 11 ANN 1 1 (SJ (World.withFollow w "special-get-raises" false) os) ⟨l7kf p b w os (.ok .next), .body b ENV, ⟨429, 9, 429, 110⟩, BB⟩ = some (.next, SJ (World.withFollow w "special-get-raises" false) os, .body b ENV, ⟨429, 9, 429, 110⟩) := by kernel_rfl
theorem l19r (p : Program) (b : List Stmt) (w : World) (os : OsState) (K : Result → Sem PySem.Fin) : goTw tb2 p w 11 ANN 1 107 (SJ2x w os) (ThF 19 273 ⟨447, 9, 447, 16⟩ b K) = some (SK w os, ⟨K (.ok .next), .body b ENV, ⟨447, 9, 447, 16⟩, BB⟩) := by kernel_rfl
noncomputable def l19kt (p : Program) (b : List Stmt) (w : World) (os : OsState) : Result → Sem PySem.Fin := kAt (goTw tb2 p (World.withFollow w "special-get-raises" true) 11 ANN 1 10 (SJ2 (World.withFollow w "special-get-raises" true) os) (ST 19 1 b ⟨446, 0, 446, 23⟩))
theorem l19st (p : Program) (b : List Stmt) (w : World) (os : OsState) : goTw tb2 p (World.withFollow w "special-get-raises" true) 11 ANN 1 10 (SJ2 (World.withFollow w "special-get-raises" true) os) (ST 19 1 b ⟨446, 0, 446, 23⟩) = some (SJ2x (World.withFollow w "special-get-raises" true) os, ThF 19 273 ⟨447, 9, 447, 16⟩ b (l19kt p b w os)) := by kernel_rfl
theorem l19et (p : Program) (b : List Stmt) (w : World) (os : OsState) : runTw tb2 p (World.withFollow w "special-get-raises" true) 11 ANN 1 1 (SK (World.withFollow w "special-get-raises" true) os) ⟨l19kt p b w os (.ok .next), .body b ENV, ⟨447, 9, 447, 16⟩, BB⟩ = some (.next, SK (World.withFollow w "special-get-raises" true) os, .body b ENV, ⟨447, 9, 447, 16⟩) := by kernel_rfl
noncomputable def l19kf (p : Program) (b : List Stmt) (w : World) (os : OsState) : Result → Sem PySem.Fin := kAt (goTw tb2 p (World.withFollow w "special-get-raises" false) 11 ANN 1 10 (SJ2 (World.withFollow w "special-get-raises" false) os) (ST 19 1 b ⟨446, 0, 446, 23⟩))
theorem l19sf (p : Program) (b : List Stmt) (w : World) (os : OsState) : goTw tb2 p (World.withFollow w "special-get-raises" false) 11 ANN 1 10 (SJ2 (World.withFollow w "special-get-raises" false) os) (ST 19 1 b ⟨446, 0, 446, 23⟩) = some (SJ2x (World.withFollow w "special-get-raises" false) os, ThF 19 273 ⟨447, 9, 447, 16⟩ b (l19kf p b w os)) := by kernel_rfl
theorem l19ef (p : Program) (b : List Stmt) (w : World) (os : OsState) : runTw tb2 p (World.withFollow w "special-get-raises" false) 11 ANN 1 1 (SK (World.withFollow w "special-get-raises" false) os) ⟨l19kf p b w os (.ok .next), .body b ENV, ⟨447, 9, 447, 16⟩, BB⟩ = some (.next, SK (World.withFollow w "special-get-raises" false) os, .body b ENV, ⟨447, 9, 447, 16⟩) := by kernel_rfl
noncomputable def ThM (b : List Stmt) (K : Result → Sem PySem.Fin) : Thread := { ThC b K with pos := ⟨418, 15, 418, 26⟩ }
theorem c3m0 (p : Program) (b : List Stmt) (w : World) (os : OsState) (K : Result → Sem PySem.Fin) : goTw tb2 p w 11 ANN 1 2368 (SDx w os) (ThC b K) = some (SDm64 w os, ThM b K) := by kernel_rfl
theorem c3m1 (p : Program) (b : List Stmt) (w : World) (os : OsState) (K : Result → Sem PySem.Fin) : goTw tb2 p w 11 ANN 1 2368 (SDm64 w os) (ThM b K) = some (SDm128 w os, ThM b K) := by kernel_rfl
theorem c3m2 (p : Program) (b : List Stmt) (w : World) (os : OsState) (K : Result → Sem PySem.Fin) : goTw tb2 p w 11 ANN 1 2368 (SDm128 w os) (ThM b K) = some (SDm192 w os, ThM b K) := by kernel_rfl
theorem c3m3 (p : Program) (b : List Stmt) (w : World) (os : OsState) (K : Result → Sem PySem.Fin) : goTw tb2 p w 11 ANN 1 2383 (SDm192 w os) (ThM b K) = some (SDy w os, ⟨K (.ok .next), .body b ENV, ⟨418, 36, 418, 46⟩, BB⟩) := by kernel_rfl
noncomputable def c3ktt (p : Program) (b : List Stmt) (w : World) (os : OsState) : Result → Sem PySem.Fin := kAt (goTw tb2 p (World.withFollow (World.withFollow w "special-get-raises" true) "comprehension-iter-twice" true) 11 ANN 1 42 (SD (World.withFollow (World.withFollow w "special-get-raises" true) "comprehension-iter-twice" true) os) (ST 6 1 b ⟨70, 0, 417, 16⟩))
theorem c3stt (p : Program) (b : List Stmt) (w : World) (os : OsState) : goTw tb2 p (World.withFollow (World.withFollow w "special-get-raises" true) "comprehension-iter-twice" true) 11 ANN 1 42 (SD (World.withFollow (World.withFollow w "special-get-raises" true) "comprehension-iter-twice" true) os) (ST 6 1 b ⟨70, 0, 417, 16⟩) = some (SDx (World.withFollow (World.withFollow w "special-get-raises" true) "comprehension-iter-twice" true) os, ThC b (c3ktt p b w os)) := by kernel_rfl
theorem c3ett (p : Program) (b : List Stmt) (w : World) (os : OsState) : runTw tb2 p (World.withFollow (World.withFollow w "special-get-raises" true) "comprehension-iter-twice" true) 11 ANN 1 23 (SDy (World.withFollow (World.withFollow w "special-get-raises" true) "comprehension-iter-twice" true) os) ⟨c3ktt p b w os (.ok .next), .body b ENV, ⟨418, 36, 418, 46⟩, BB⟩ = some (.next, SE (World.withFollow (World.withFollow w "special-get-raises" true) "comprehension-iter-twice" true) os, .body b ENV, ⟨418, 0, 418, 11⟩) := by kernel_rfl
noncomputable def c3ktf (p : Program) (b : List Stmt) (w : World) (os : OsState) : Result → Sem PySem.Fin := kAt (goTw tb2 p (World.withFollow (World.withFollow w "special-get-raises" false) "comprehension-iter-twice" true) 11 ANN 1 42 (SD (World.withFollow (World.withFollow w "special-get-raises" false) "comprehension-iter-twice" true) os) (ST 6 1 b ⟨70, 0, 417, 16⟩))
theorem c3stf (p : Program) (b : List Stmt) (w : World) (os : OsState) : goTw tb2 p (World.withFollow (World.withFollow w "special-get-raises" false) "comprehension-iter-twice" true) 11 ANN 1 42 (SD (World.withFollow (World.withFollow w "special-get-raises" false) "comprehension-iter-twice" true) os) (ST 6 1 b ⟨70, 0, 417, 16⟩) = some (SDx (World.withFollow (World.withFollow w "special-get-raises" false) "comprehension-iter-twice" true) os, ThC b (c3ktf p b w os)) := by kernel_rfl
theorem c3etf (p : Program) (b : List Stmt) (w : World) (os : OsState) : runTw tb2 p (World.withFollow (World.withFollow w "special-get-raises" false) "comprehension-iter-twice" true) 11 ANN 1 23 (SDy (World.withFollow (World.withFollow w "special-get-raises" false) "comprehension-iter-twice" true) os) ⟨c3ktf p b w os (.ok .next), .body b ENV, ⟨418, 36, 418, 46⟩, BB⟩ = some (.next, SE (World.withFollow (World.withFollow w "special-get-raises" false) "comprehension-iter-twice" true) os, .body b ENV, ⟨418, 0, 418, 11⟩) := by kernel_rfl
noncomputable def c3kft (p : Program) (b : List Stmt) (w : World) (os : OsState) : Result → Sem PySem.Fin := kAt (goTw tb2 p (World.withFollow (World.withFollow w "special-get-raises" true) "comprehension-iter-twice" false) 11 ANN 1 52 (SD (World.withFollow (World.withFollow w "special-get-raises" true) "comprehension-iter-twice" false) os) (ST 6 1 b ⟨70, 0, 417, 16⟩))
theorem c3sft (p : Program) (b : List Stmt) (w : World) (os : OsState) : goTw tb2 p (World.withFollow (World.withFollow w "special-get-raises" true) "comprehension-iter-twice" false) 11 ANN 1 52 (SD (World.withFollow (World.withFollow w "special-get-raises" true) "comprehension-iter-twice" false) os) (ST 6 1 b ⟨70, 0, 417, 16⟩) = some (SDx (World.withFollow (World.withFollow w "special-get-raises" true) "comprehension-iter-twice" false) os, ThC b (c3kft p b w os)) := by kernel_rfl
theorem c3eft (p : Program) (b : List Stmt) (w : World) (os : OsState) : runTw tb2 p (World.withFollow (World.withFollow w "special-get-raises" true) "comprehension-iter-twice" false) 11 ANN 1 13 (SDy (World.withFollow (World.withFollow w "special-get-raises" true) "comprehension-iter-twice" false) os) ⟨c3kft p b w os (.ok .next), .body b ENV, ⟨418, 36, 418, 46⟩, BB⟩ = some (.next, SE (World.withFollow (World.withFollow w "special-get-raises" true) "comprehension-iter-twice" false) os, .body b ENV, ⟨418, 0, 418, 11⟩) := by kernel_rfl
noncomputable def c3kff (p : Program) (b : List Stmt) (w : World) (os : OsState) : Result → Sem PySem.Fin := kAt (goTw tb2 p (World.withFollow (World.withFollow w "special-get-raises" false) "comprehension-iter-twice" false) 11 ANN 1 52 (SD (World.withFollow (World.withFollow w "special-get-raises" false) "comprehension-iter-twice" false) os) (ST 6 1 b ⟨70, 0, 417, 16⟩))
theorem c3sff (p : Program) (b : List Stmt) (w : World) (os : OsState) : goTw tb2 p (World.withFollow (World.withFollow w "special-get-raises" false) "comprehension-iter-twice" false) 11 ANN 1 52 (SD (World.withFollow (World.withFollow w "special-get-raises" false) "comprehension-iter-twice" false) os) (ST 6 1 b ⟨70, 0, 417, 16⟩) = some (SDx (World.withFollow (World.withFollow w "special-get-raises" false) "comprehension-iter-twice" false) os, ThC b (c3kff p b w os)) := by kernel_rfl
theorem c3eff (p : Program) (b : List Stmt) (w : World) (os : OsState) : runTw tb2 p (World.withFollow (World.withFollow w "special-get-raises" false) "comprehension-iter-twice" false) 11 ANN 1 13 (SDy (World.withFollow (World.withFollow w "special-get-raises" false) "comprehension-iter-twice" false) os) ⟨c3kff p b w os (.ok .next), .body b ENV, ⟨418, 36, 418, 46⟩, BB⟩ = some (.next, SE (World.withFollow (World.withFollow w "special-get-raises" false) "comprehension-iter-twice" false) os, .body b ENV, ⟨418, 0, 418, 11⟩) := by kernel_rfl
end Mine
end

-- Asm
section
open PySem PySem.W PyProof.Rows
set_option maxRecDepth 100000
set_option maxHeartbeats 0
namespace Mine
section
variable {p : Program} {w : World} {s s' : SharedT} {t t' : Thread} {f : Flow} {c : Code} {q : Pos} {n : Nat}
theorem up (h : runTw tb2 p w 11 ANN 1 n s t = some (f, s', c, q)) : segRun treeTable p w 11 ANN 1 n s.abs t = some (f, s'.abs, c, q) := by
  apply segRun_of
  rw [PySem.W.Fast.te10110043849684766642, tb2_eq]
  exact h
theorem upG (h : goTw tb2 p w 11 ANN 1 n s t = some (s', t')) : segGo treeTable p w 11 ANN 1 n s.abs t = some (s'.abs, t') := by
  apply segGo_of
  rw [PySem.W.Fast.te10295753902157049106, tb2_eq]
  exact h
end
theorem byRow {P : World → Prop} (r : String) (h : ∀ w v, P (World.withFollow w r v)) (w : World) : P w := by
  have := h w (w.params.followText r)
  rwa [World.withFollow_self] at this
noncomputable abbrev SPR : String := "special-get-raises"
noncomputable abbrev CIT : String := "comprehension-iter-twice"
theorem L5 (p : Program) (b : List Stmt) (os : OsState) (w : World) : segRun treeTable p w 11 ANN 1 3077 (SF w os).abs (ST 14 1 b ⟨425, 0, 425, 8⟩) = some (.next, (SG w os).abs, .body b ENV, ⟨426, 9, 426, 74⟩) := by
  revert w
  refine byRow SPR fun w v => ?_
  cases v with
  | true => exact seg_go (n := 44) (N := 3033) (upG (l5st p b w os)) (seg_go (n := 3032) (N := 1) (upG (l5r p b _ os _)) (up (l5et p b w os)))
  | false => exact seg_go (n := 44) (N := 3033) (upG (l5sf p b w os)) (seg_go (n := 3032) (N := 1) (upG (l5r p b _ os _)) (up (l5ef p b w os)))
theorem L7 (p : Program) (b : List Stmt) (os : OsState) (w : World) : segRun treeTable p w 11 ANN 1 4303 (SI w os).abs (ST 16 1 b ⟨428, 0, 428, 28⟩) = some (.next, (SJ w os).abs, .body b ENV, ⟨429, 9, 429, 110⟩) := by
  revert w
  refine byRow SPR fun w v => ?_
  cases v with
  | true => exact seg_go (n := 10) (N := 4293) (upG (l7st p b w os)) (seg_go (n := 4292) (N := 1) (upG (l7r p b _ os _)) (up (l7et p b w os)))
  | false => exact seg_go (n := 10) (N := 4293) (upG (l7sf p b w os)) (seg_go (n := 4292) (N := 1) (upG (l7r p b _ os _)) (up (l7ef p b w os)))
theorem L19 (p : Program) (b : List Stmt) (os : OsState) (w : World) : segRun treeTable p w 11 ANN 1 118 (SJ2 w os).abs (ST 19 1 b ⟨446, 0, 446, 23⟩) = some (.next, (SK w os).abs, .body b ENV, ⟨447, 9, 447, 16⟩) := by
  revert w
  refine byRow SPR fun w v => ?_
  cases v with
  | true => exact seg_go (n := 10) (N := 108) (upG (l19st p b w os)) (seg_go (n := 107) (N := 1) (upG (l19r p b _ os _)) (up (l19et p b w os)))
  | false => exact seg_go (n := 10) (N := 108) (upG (l19sf p b w os)) (seg_go (n := 107) (N := 1) (upG (l19r p b _ os _)) (up (l19ef p b w os)))
theorem C3 (p : Program) (b : List Stmt) (os : OsState) (w : World) : segRun treeTable p w 11 ANN 1 9552 (SD w os).abs (ST 6 1 b ⟨70, 0, 417, 16⟩) = some (.next, (SE w os).abs, .body b ENV, ⟨418, 0, 418, 11⟩) := by
  revert w
  refine byRow CIT fun w v => ?_
  revert w
  refine byRow SPR fun w u => ?_
  cases v <;> cases u
  · exact seg_go (n := 52) (N := 9500) (upG (c3sff p b w os)) (seg_go (n := 2368) (N := 7132) (upG (c3m0 p b _ os _)) (seg_go (n := 2368) (N := 4764) (upG (c3m1 p b _ os _)) (seg_go (n := 2368) (N := 2396) (upG (c3m2 p b _ os _)) (seg_go (n := 2383) (N := 13) (upG (c3m3 p b _ os _)) (up (c3eff p b w os))))))
  · exact seg_go (n := 52) (N := 9500) (upG (c3sft p b w os)) (seg_go (n := 2368) (N := 7132) (upG (c3m0 p b _ os _)) (seg_go (n := 2368) (N := 4764) (upG (c3m1 p b _ os _)) (seg_go (n := 2368) (N := 2396) (upG (c3m2 p b _ os _)) (seg_go (n := 2383) (N := 13) (upG (c3m3 p b _ os _)) (up (c3eft p b w os))))))
  · exact seg_go (n := 42) (N := 9510) (upG (c3stf p b w os)) (seg_go (n := 2368) (N := 7142) (upG (c3m0 p b _ os _)) (seg_go (n := 2368) (N := 4774) (upG (c3m1 p b _ os _)) (seg_go (n := 2368) (N := 2406) (upG (c3m2 p b _ os _)) (seg_go (n := 2383) (N := 23) (upG (c3m3 p b _ os _)) (up (c3etf p b w os))))))
  · exact seg_go (n := 42) (N := 9510) (upG (c3stt p b w os)) (seg_go (n := 2368) (N := 7142) (upG (c3m0 p b _ os _)) (seg_go (n := 2368) (N := 4774) (upG (c3m1 p b _ os _)) (seg_go (n := 2368) (N := 2406) (upG (c3m2 p b _ os _)) (seg_go (n := 2383) (N := 23) (upG (c3m3 p b _ os _)) (up (c3ett p b w os))))))
theorem cut (l : List Stmt) (d t : Nat) : (l.drop d).take t ++ l.drop (d + t) = l.drop d := by
  rw [← List.drop_drop, List.take_append_drop]
theorem pc {p : Program} {w : World} {n N d t : Nat} {s s' : SharedT} {r : Shared} {b : List Stmt} {q q' : Pos} (h : segRun treeTable p w 11 ANN 1 n s.abs (ST d t b q) = some (.next, s'.abs, .body b ENV, q'))
    (k : topRun treeTable p w 11 ANN N s'.abs (restOf (TOP.drop (d + t)) ENV (.body b ENV) q' BB) = some r) : topRun treeTable p w 11 ANN (n + N) s.abs (restOf (TOP.drop d) ENV (.body b ENV) q BB) = some r := by
  rw [← cut TOP d t]
  exact piece_app h k
theorem fin (p : Program) (b : List Stmt) (w : World) (os : OsState) : topRun treeTable p w 11 ANN 2 (SL w os).abs (restOf (TOP.drop 29) ENV (.body b ENV) ⟨501, 0, 521, 59⟩ BB) = some (SL w os).abs := by
  kernel_rfl
theorem whole (p : Program) (b : List Stmt) (w : World) (os : OsState) : topRun treeTable p w 11 ANN (362 + (1047 + (679 + (9552 + (109 + (3077 + (25 + (4303 + (62 + (118 + (221 + 2))))))))))) (SA w os).abs (restOf (TOP.drop 0) ENV (.body b ENV) ⟨0, 0, 0, 0⟩ BB) = some (SL w os).abs :=
  pc (up (p0 p b w os)) (pc (up (p1 p b w os)) (pc (up (p2 p b w os)) (pc (C3 p b os w) (pc (up (p4 p b w os)) (pc (L5 p b os w) (pc (up (p6 p b w os)) (pc (L7 p b os w) (pc (up (p8 p b w os)) (pc (L19 p b os w) (pc (up (p9 p b w os)) (fin p b w os)))))))))))
end Mine
end

-- Lk2
section
open PySem PySem.W PyProof.Rows
set_option maxRecDepth 100000
set_option maxHeartbeats 0
namespace Mine
theorem look2 (w : World) (os : OsState) : PySem.W.Fast.tw4187177175401517315 (QF PT) LOOSE (importedModules PT.main.body) XT true ⟨H1 w.params, Array.mk [], DRAWN, 2188, os⟩ = openGood (QF PT) LOOSE := by kernel_rfl
end Mine
end

-- Bt
section
open PySem PySem.W PyProof.Rows
set_option maxRecDepth 100000
set_option maxHeartbeats 0
namespace Mine
theorem fence_eq (s : Shared) : fenceModules? PT s = some s := by kernel_rfl
theorem boot2 (w : World) : Option.map (fun s => (s.heap, s.gens, s.drawn, s.toks)) (PySem.W.Fast.tw10274390034422433532 tb2 (opening PT) w 600 (start (opening PT)).1 (start (opening PT)).2) = some (boot_heap w.params, Array.mk [], boot_drawn, boot_toks) := by kernel_rfl
theorem open2 (w : World) : Option.map (fun s => (s.heap, s.gens, s.drawn, s.toks)) (fencedOpening treeTable PT w 40000) = some (boot_heap w.params, Array.mk [], boot_drawn, boot_toks) := by
  have h := boot2 w
  rw [← PySem.W.Fast.te10274390034422433532, ← tb2_eq] at h
  obtain ⟨s, hs, hv⟩ := Option.map_eq_some_iff.mp h
  have m := importEnds_mono (40000 - 600) _ _ _ _ hs
  unfold fencedOpening
  rw [show (600 : Nat) + (40000 - 600) = 40000 from rfl] at m
  rw [m]
  show Option.map _ (fenceModules? PT s) = _
  rw [fence_eq s]
  exact congrArg some hv
end Mine
end

-- Hdx
section
open PySem PySem.W PyProof.Rows
set_option maxRecDepth 100000
set_option maxHeartbeats 0
namespace Mine
theorem pre' (w : World) (os : OsState) : topGo treeTable PT w 11 ANN 12 ⟨boot_heap w.params, Array.mk [], boot_drawn, boot_toks, os⟩ (topStub PT) = some ((SA w os).abs, ⟨denote treeTable (.body TOP ENV), .body TOP ENV, ⟨0, 0, 0, 0⟩, [topFrame ⟨0, 0, 0, 0⟩]⟩) := by
  have h := pre w os
  rw [bt, ← PySem.W.Fast.te11892475500146522536, ← PySem.W.Fast.te15667345088766844465, ← tb2_eq] at h
  exact h
theorem run_ (w : World) (os : OsState) : topRun treeTable PT w 11 ANN (12 + (1 + (362 + (1047 + (679 + (9552 + (109 + (3077 + (25 + (4303 + (62 + (118 + (221 + 2))))))))))))) ⟨boot_heap w.params, Array.mk [], boot_drawn, boot_toks, os⟩ (topStub PT) = some ⟨H1 w.params, Array.mk [], DRAWN, 2188, os⟩ :=
  go_top (pre' w os) (piece_block (block w os) (whole PT TOP w os))
theorem look2' (w : World) (os : OsState) : openSeen (QF PT) LOOSE (importedModules PT.main.body) XT true ⟨H1 w.params, Array.mk [], DRAWN, 2188, os⟩ = openGood (QF PT) LOOSE := by
  rw [PySem.W.Fast.te4187177175401517315]
  exact look2 w os
theorem leftT : LeftO PT (QF PT) LOOSE XT (fun s => s.heap) (fun w => H1 w.params) 40000 true :=
  LeftO.of_pieces (H₀ := boot_heap) (H₁ := H1) (gs₀ := Array.mk []) (gs₁ := Array.mk []) (d₀ := boot_drawn) (d₁ := DRAWN) (k₀ := boot_toks) (k₁ := 2188) (m₀ := 11) (ann := ANN)
    open2 size0 run_ rfl (fun w => funext fun os => Prod.ext (look1 w os) (Prod.ext (look2' w os) rfl))
theorem left : LeftO PySem.Challenge.pw_pd0124_01 (QF PySem.Challenge.pw_pd0124_01) LOOSE XT (fun s => s.heap) (fun w => H1 w.params) 40000 true := by
  rw [pt_eq]
  exact leftT
/-- the looks at the law, one by one -/
theorem ws : PySem.Challenge.rw_pd0124_01.wellSaid = true := by
  unfold OpenLaw.wellSaid OpenRow.wellSaid OpenRow.partSaid looksOpen
  repeat' (with_reducible apply look_both)
  all_goals decide +kernel
/-- the head: what is left is the walk -/
theorem hd_ {d : DefRec} {kwd : List (Str × Expr)} (hdef : defOf (QF PySem.Challenge.pw_pd0124_01) PySem.Challenge.rw_pd0124_01.row.name = some (d, kwd)) (hthe : PySem.Challenge.rw_pd0124_01.row.prog.theDef PySem.Challenge.rw_pd0124_01.row.name = some (d.params, d.body, d.scope)) (hkw : kwWritten? d.params.kwonlyargs d.params.kw_defaults = some kwd)
    (walk : WalkO (QF PySem.Challenge.pw_pd0124_01) LOOSE (fun _ _ => True) (fun w h => ∀ b o, (H1 w.params).get? b = some o → h.get? b = some o) PySem.Challenge.rw_pd0124_01.row.toRowW d kwd (fun f vs => call f vs)) : PySem.Challenge.rw_pd0124_01.Holds := by
  w_on
  refine holds_law ws fun said => ?_
  refine holds_open (q := QF PySem.Challenge.pw_pd0124_01) (loose := LOOSE) (Xt := XT) (XP := fun _ _ => True) (Yf := fun s => s.heap) (Ya := fun w => H1 w.params) (YP := fun w h => ∀ b o, (H1 w.params).get? b = some o → h.get? b = some o) (N := 40000) left (fun w s e b o g => by rw [← e] at g; exact g) (fun w h h' y k b o g => k b o (y b o g)) (fun _ _ => trivial) (fun _ _ _ _ _ => trivial) hdef hthe hkw (fun s e => recFacts_of e) (by rfl) (by assumption) (look_both (look_both (by decide +kernel) (by decide +kernel)) (look_both (by decide +kernel) (by decide +kernel))) ⟨rfl, rfl, rfl, rfl, rfl, by decide +kernel⟩ ?hw walk
  case hw => w_witness2
end Mine
end

-- W5
section
open PySem PySem.W PyProof.Rows
set_option maxRecDepth 100000
set_option maxHeartbeats 8000000
theorem PySem.Challenge.cw_pd0124_01_holds : PySem.Challenge.rw_pd0124_01.Holds := by
  w_on
  refine Mine.hd_ (by rfl) (by rfl) (by rfl) ?_
  intro w s₀ s₁ mg mb G Y fa o pm cd doc dV kV ho hd hcd hD hmg hg args vals as hpre hlay hrd hwl hlo
  have KX := Mine.kk_in Y
  clear Y
  revert KX
  k_fill
  intro KX
  refine Ground.open G ?_
  intro T B D TE TW
  try (refine guard_noD D (by decide +kernel) ?_; clear D)
  obtain ⟨_, _, M⟩ := bmod_of_top T
  have TA := at_of_top T
  try (obtain ⟨_, _, he, B0⟩ := based_of_top T rfl hmg ho hd; have he' : cd = _ := he; subst he'; clear he)
  clear hmg
  wrow_args hpre hlay hrd hwl hlo
  all_goals (
    first | refine callC_kw (enter_call ?_) | refine enter_call ?_ | refine callC_kw (enter_callW ?_) | refine enter_callW ?_ | w_how
    w_top on
    try refine codeAny_mono ?_ (fun _ _ g => GoodW.toG g)
    have K0 := below_caller (Top.heap T)
    w_call any ho hd hcd hD T F
    clear hd TA
    k_drop
    skip)
  rename_i hc1 hc2 h9 F9 N9
  refine Mine.lawAll (A₀ := callerA) (base := s₁.heap) (h₀ := s₁.heap) (m := fun _ => none) (below_caller s₁.heap) KX T ?hd ?hu (by assumption) (by assumption) ?hn (by assumption) (by assumption) ?hend
  case hd => decide +kernel
  case hu => decide +kernel
  case hn => omega
  case hend =>
    intro h' tk' m' F'
    refine ⟨.inl ⟨.bool true, .bool true, [], rfl, fun _ => rfl, .bool true, ?post, fun _ => ⟨List.nodup_nil, fun _ h => nomatch h⟩⟩, fun b o e => F'.keep b o e, rfl, hg⟩

    case post =>
      first
        | decide
        | (unfold PySem.W.RowW.claim; rfl)
        | (simp [PySem.W.RowW.claim]; done)
        | (with_unfolding_all rfl)
        | kernel_rfl
end
