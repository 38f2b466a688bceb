import PyProof.Rows.All
import Wide.All
import OpenK.AllK
import Wide.FinOn
import Lean
import PySem.Challenge.RW_bl0008_01
set_option Elab.async false
set_option linter.all false
-- part TN
section
open PySem PySem.W PyProof.Rows
set_option maxRecDepth 100000
set_option maxHeartbeats 4000000
set_option Elab.async false
namespace BL
def anyF (xs : Array Nat) (p : Nat → Bool) (i j : Nat) : Bool := match Nat.beq i 0, Nat.beq j xs.size with
  | true, true => xs.toList.any p
  | _, _ => xs.any p i j
theorem any_fn : @Array.any Nat = anyF := by
  funext xs p i j
  unfold anyF
  split
  · rename_i h1 h2
    have e1 := Nat.eq_of_beq_eq_true h1
    have e2 := Nat.eq_of_beq_eq_true h2
    subst e1 e2
    exact Array.any_toList.symm
  · rfl
def TnSame (_ _ : Builtin) : Type := Unit
def TnSame.here (b : Builtin) : TnSame b b := ()
def tnP : (F : ((xs : Array Nat) → (Nat → Bool) → Nat → Nat → Bool) → Builtin) × TnSame Builtin.«type.__new__» (F (@Array.any Nat)) := by
  apply Sigma.mk
  case snd =>
    delta Builtin.«type.__new__»
    generalize @Array.any Nat = a
    exact TnSame.here _
theorem tn_eq : Builtin.«type.__new__» = tnP.1 (@Array.any Nat) := by kernel_rfl
def typeNew2P : { b : Builtin // Builtin.«type.__new__» = b } := ⟨tnP.1 anyF, tn_eq.trans (congrArg tnP.1 any_fn)⟩
def tb2 (id : String) : Option Builtin := if id = "type.__new__" then some typeNew2P.1 else treeTable id
theorem tb2_eq : treeTable = tb2 := by
  funext id
  unfold tb2
  split
  · rename_i h
    subst h
    rw [← typeNew2P.2]
    kernel_rfl
  · rfl
end BL
end
-- part HS
section
set_option linter.unusedVariables false
open PySem PySem.W PyProof.Rows
set_option maxRecDepth 100000
set_option maxHeartbeats 0
set_option Elab.async false
namespace BL
abbrev P0 : Program := PySem.Challenge.pw_bl0008_01
abbrev S (s : String) : Str := Str.ofString s
def st (i : Nat) : Stmt := (P0.main.body.drop i).headD (.Pass default)
def su (i j : Nat) : Stmt := match st i with
  | .ClassDef _ _ _ b .. => (b.drop j).headD (.Pass default)
  | s => s
def dS (s : Stmt) : Str := match s with
  | .FunctionDef _ _ b .. => (docOf b).getD default
  | .ClassDef _ _ _ b .. => (docOf b).getD default
  | _ => default
def fn (s : Stmt) (qual : Str) (globals : Addr) (closure : List (Str × Addr)) (defaults kwdefaults doc pyModule : Value) (ann : Option Addr) (code closureTuple : Value) (builtins : Addr) : FuncData := match s with
  | .FunctionDef n args body _ _ _ sc _ _ _ => ⟨n, qual, args, .stmts body, sc, globals, closure, defaults, kwdefaults, doc, pyModule, ann, code, closureTuple, builtins⟩
  | _ => default
def kv (P : Params) (k : Str) (t : Tok) (v : Value) : DictEntry := ⟨PyData.keyHash P k, .str k t, v⟩
def o0_0 (P : Params) : Obj := ⟨.type "dict", .none, .dict ⟨[kv P (S "__name__") 1 (.str (S "builtins") 160), kv P (S "__doc__") 2 (.builtin "builtins.__doc__:str#opaque"), kv P (S "__package__") 3 (.builtin "builtins.__package__:str#opaque"), kv P (S "__loader__") 4 (.builtin "builtins.__loader__:shared#opaque"), kv P (S "__spec__") 5 (.builtin "builtins.__spec__#opaque"), kv P (S "__build_class__") 6 (.builtin "__build_class__"), kv P (S "__import__") 7 (.builtin "__import__"), kv P (S "abs") 8 (.builtin "abs"), kv P (S "all") 9 (.builtin "all"), kv P (S "any") 10 (.builtin "any"), kv P (S "ascii") 11 (.builtin "ascii"), kv P (S "bin") 12 (.builtin "bin"), kv P (S "breakpoint") 13 (.builtin "breakpoint"), kv P (S "callable") 14 (.builtin "callable"), kv P (S "chr") 15 (.builtin "chr"), kv P (S "compile") 16 (.builtin "compile"), kv P (S "delattr") 17 (.builtin "delattr"), kv P (S "dir") 18 (.builtin "dir"), kv P (S "divmod") 19 (.builtin "divmod"), kv P (S "eval") 20 (.builtin "eval"), kv P (S "exec") 21 (.builtin "exec"), kv P (S "format") 22 (.builtin "format"), kv P (S "getattr") 23 (.builtin "getattr"), kv P (S "globals") 24 (.builtin "globals"), kv P (S "hasattr") 25 (.builtin "hasattr"), kv P (S "hash") 26 (.builtin "hash"), kv P (S "hex") 27 (.builtin "hex"), kv P (S "id") 28 (.builtin "id"), kv P (S "input") 29 (.builtin "input"), kv P (S "isinstance") 30 (.builtin "isinstance"), kv P (S "issubclass") 31 (.builtin "issubclass"), kv P (S "iter") 32 (.builtin "iter"), kv P (S "aiter") 33 (.builtin "aiter"), kv P (S "len") 34 (.builtin "len"), kv P (S "locals") 35 (.builtin "locals"), kv P (S "max") 36 (.builtin "max"), kv P (S "min") 37 (.builtin "min"), kv P (S "next") 38 (.builtin "next"), kv P (S "anext") 39 (.builtin "anext"), kv P (S "oct") 40 (.builtin "oct"), kv P (S "ord") 41 (.builtin "ord"), kv P (S "pow") 42 (.builtin "pow"), kv P (S "print") 43 (.builtin "print"), kv P (S "repr") 44 (.builtin "repr"), kv P (S "round") 45 (.builtin "round"), kv P (S "setattr") 46 (.builtin "setattr"), kv P (S "sorted") 47 (.builtin "sorted"), kv P (S "sum") 48 (.builtin "sum"), kv P (S "vars") 49 (.builtin "vars"), kv P (S "None") 50 (.none), kv P (S "Ellipsis") 51 (.ellipsis), kv P (S "NotImplemented") 52 (.notImplemented), kv P (S "False") 53 (.bool false), kv P (S "True") 54 (.bool true), kv P (S "bool") 55 (.type "bool"), kv P (S "memoryview") 56 (.type "memoryview"), kv P (S "bytearray") 57 (.type "bytearray"), kv P (S "bytes") 58 (.type "bytes"), kv P (S "classmethod") 59 (.type "classmethod"), kv P (S "complex") 60 (.type "complex"), kv P (S "dict") 61 (.type "dict"), kv P (S "enumerate") 62 (.type "enumerate"), kv P (S "filter") 63 (.type "filter"), kv P (S "float") 64 (.type "float"), kv P (S "frozenset") 65 (.type "frozenset"), kv P (S "property") 66 (.type "property"), kv P (S "int") 67 (.type "int"), kv P (S "list") 68 (.type "list"), kv P (S "map") 69 (.type "map"), kv P (S "object") 70 (.type "object"), kv P (S "range") 71 (.type "range"), kv P (S "reversed") 72 (.type "reversed"), kv P (S "set") 73 (.type "set"), kv P (S "slice") 74 (.type "slice"), kv P (S "staticmethod") 75 (.type "staticmethod"), kv P (S "str") 76 (.type "str"), kv P (S "super") 77 (.type "super"), kv P (S "tuple") 78 (.type "tuple"), kv P (S "type") 79 (.type "type"), kv P (S "zip") 80 (.type "zip"), kv P (S "__debug__") 81 (.bool true), kv P (S "BaseException") 82 (.type "BaseException"), kv P (S "BaseExceptionGroup") 83 (.type "BaseExceptionGroup"), kv P (S "Exception") 84 (.type "Exception"), kv P (S "GeneratorExit") 85 (.type "GeneratorExit"), kv P (S "KeyboardInterrupt") 86 (.type "KeyboardInterrupt"), kv P (S "SystemExit") 87 (.type "SystemExit"), kv P (S "ArithmeticError") 88 (.type "ArithmeticError"), kv P (S "AssertionError") 89 (.type "AssertionError"), kv P (S "AttributeError") 90 (.type "AttributeError"), kv P (S "BufferError") 91 (.type "BufferError"), kv P (S "EOFError") 92 (.type "EOFError"), kv P (S "ImportError") 93 (.type "ImportError"), kv P (S "LookupError") 94 (.type "LookupError"), kv P (S "MemoryError") 95 (.type "MemoryError"), kv P (S "NameError") 96 (.type "NameError"), kv P (S "OSError") 97 (.type "OSError"), kv P (S "ReferenceError") 98 (.type "ReferenceError"), kv P (S "RuntimeError") 99 (.type "RuntimeError"), kv P (S "StopAsyncIteration") 100 (.type "StopAsyncIteration"), kv P (S "StopIteration") 101 (.type "StopIteration"), kv P (S "SyntaxError") 102 (.type "SyntaxError"), kv P (S "SystemError") 103 (.type "SystemError"), kv P (S "TypeError") 104 (.type "TypeError"), kv P (S "ValueError") 105 (.type "ValueError"), kv P (S "Warning") 106 (.type "Warning"), kv P (S "FloatingPointError") 107 (.type "FloatingPointError"), kv P (S "OverflowError") 108 (.type "OverflowError"), kv P (S "ZeroDivisionError") 109 (.type "ZeroDivisionError"), kv P (S "BytesWarning") 110 (.type "BytesWarning"), kv P (S "DeprecationWarning") 111 (.type "DeprecationWarning"), kv P (S "EncodingWarning") 112 (.type "EncodingWarning"), kv P (S "FutureWarning") 113 (.type "FutureWarning"), kv P (S "ImportWarning") 114 (.type "ImportWarning"), kv P (S "PendingDeprecationWarning") 115 (.type "PendingDeprecationWarning"), kv P (S "ResourceWarning") 116 (.type "ResourceWarning"), kv P (S "RuntimeWarning") 117 (.type "RuntimeWarning"), kv P (S "SyntaxWarning") 118 (.type "SyntaxWarning"), kv P (S "UnicodeWarning") 119 (.type "UnicodeWarning"), kv P (S "UserWarning") 120 (.type "UserWarning"), kv P (S "BlockingIOError") 121 (.type "BlockingIOError"), kv P (S "ChildProcessError") 122 (.type "ChildProcessError"), kv P (S "ConnectionError") 123 (.type "ConnectionError"), kv P (S "FileExistsError") 124 (.type "FileExistsError"), kv P (S "FileNotFoundError") 125 (.type "FileNotFoundError"), kv P (S "InterruptedError") 126 (.type "InterruptedError"), kv P (S "IsADirectoryError") 127 (.type "IsADirectoryError"), kv P (S "NotADirectoryError") 128 (.type "NotADirectoryError"), kv P (S "PermissionError") 129 (.type "PermissionError"), kv P (S "ProcessLookupError") 130 (.type "ProcessLookupError"), kv P (S "TimeoutError") 131 (.type "TimeoutError"), kv P (S "IndentationError") 132 (.type "IndentationError"), kv P (S "_IncompleteInputError") 133 (.type "_IncompleteInputError"), kv P (S "IndexError") 134 (.type "IndexError"), kv P (S "KeyError") 135 (.type "KeyError"), kv P (S "ModuleNotFoundError") 136 (.type "ModuleNotFoundError"), kv P (S "NotImplementedError") 137 (.type "NotImplementedError"), kv P (S "PythonFinalizationError") 138 (.type "PythonFinalizationError"), kv P (S "RecursionError") 139 (.type "RecursionError"), kv P (S "UnboundLocalError") 140 (.type "UnboundLocalError"), kv P (S "UnicodeError") 141 (.type "UnicodeError"), kv P (S "BrokenPipeError") 142 (.type "BrokenPipeError"), kv P (S "ConnectionAbortedError") 143 (.type "ConnectionAbortedError"), kv P (S "ConnectionRefusedError") 144 (.type "ConnectionRefusedError"), kv P (S "ConnectionResetError") 145 (.type "ConnectionResetError"), kv P (S "TabError") 146 (.type "TabError"), kv P (S "UnicodeDecodeError") 147 (.type "UnicodeDecodeError"), kv P (S "UnicodeEncodeError") 148 (.type "UnicodeEncodeError"), kv P (S "UnicodeTranslateError") 149 (.type "UnicodeTranslateError"), kv P (S "ExceptionGroup") 150 (.type "ExceptionGroup"), kv P (S "EnvironmentError") 151 (.type "OSError"), kv P (S "IOError") 152 (.type "OSError"), kv P (S "open") 153 (.builtin "open"), kv P (S "quit") 154 (.builtin "builtins.quit#opaque"), kv P (S "exit") 155 (.builtin "builtins.exit#opaque"), kv P (S "copyright") 156 (.builtin "builtins.copyright#opaque"), kv P (S "credits") 157 (.builtin "builtins.credits#opaque"), kv P (S "license") 158 (.builtin "builtins.license#opaque"), kv P (S "help") 159 (.builtin "builtins.help#opaque")]⟩ 159, ⟨[]⟩⟩
def o1_0 (P : Params) : Obj := ⟨.type "dict", .none, .dict ⟨[kv P (S "builtins") 162 (.ref 4), kv P (S "__main__") 163 (.ref 5), kv P (S "_sre") 244 (.ref 12)]⟩ 3, ⟨[]⟩⟩
def o2_0 (P : Params) : Obj := ⟨.none, .none, .dict ⟨[kv P (S "\x69mport.loaded._sre") 183 (.bool true), kv P (S "class._frozen_importlib.BuiltinImporter") 185 (.ref 14), kv P (S "watched.\x69mport") 206 (.ref 18), kv P (S "class._frozen_importlib.ModuleSpec") 216 (.ref 22), kv P (S "sys.modules.booked-epoch") 245 (.int (3) 0), kv P (S "\x69mport.later-laid._sre") 270 (.bool true), kv P (S "watched.library") 272 (.ref 27), kv P (S "watched.library-objects") 0 (.str (S "\x0c") 0), kv P (S "watched.library-deep._sre") 273 (.str (S "\x04\x00\x00\x0b\x04\x00\x00\x0b\x04\x00\x00\x03\x04\x00\x00\x0b\x08\x04dict\x02") 0)]⟩ 9, ⟨[]⟩⟩
def o3_0 (P : Params) : Obj := ⟨.type "dict", .none, .dict ⟨[kv P (S "__name__") 165 (.str (S "__main__") 164), kv P (S "__doc__") 166 (.none), kv P (S "__package__") 167 (.none), kv P (S "__loader__") 168 (.builtin "__main__.__loader__#opaque"), kv P (S "__spec__") 169 (.none), kv P (S "__annotations__") 170 (.ref 6), kv P (S "__builtins__") 171 (.ref 4), kv P (S "__file__") 173 (.str (S "/claim/cut.py") 172), kv P (S "__cached__") 174 (.none), kv P (S "_sre") 275 (.ref 12)]⟩ 10, ⟨[]⟩⟩
def o4_0 (P : Params) : Obj := ⟨.type "module", (.some (0)), .plain, ⟨[]⟩⟩
def o5_0 (P : Params) : Obj := ⟨.type "module", (.some (3)), .plain, ⟨[]⟩⟩
def o6_0 (P : Params) : Obj := ⟨.type "dict", .none, .dict ⟨[]⟩ 0, ⟨[]⟩⟩
def o7_0 (P : Params) : Obj := ⟨.type "tuple", .none, .seq ⟨[]⟩ 0, ⟨[]⟩⟩
def o8_0 (P : Params) : Obj := ⟨.none, .none, .fields ⟨[]⟩, ⟨[]⟩⟩
def o9_0 (P : Params) : Obj := ⟨.type "code", .none, .fields ⟨[.str (S "<module>") 176, .str (S "<module>") 177, .str (S "/claim/cut.py") 178, .int (1) 0, .int (0) 0, .int (0) 0, .int (0) 0, .int (0) 0, .ref 7, .bool false, .int (175) 0, .ref 8, .none, .none, .none, .none, .int (179) 0, .int (1) 0, .str (S "/claim/cut.py") 180]⟩, ⟨[]⟩⟩
def o10_0 (P : Params) : Obj := ⟨.type "frame", .none, .plain, ⟨[(.some (.ref 9)), (.some (.ref 3)), (.some (.ref 3)), .none, (.some (.str (S "__main__") 164)), .none, (.some (.ref 0))]⟩⟩
def o11_0 (P : Params) : Obj := ⟨.type "dict", .none, .dict ⟨[kv P (S "__name__") 247 (.str (S "_sre") 246), kv P (S "__doc__") 248 (.none), kv P (S "__package__") 250 (.str (S "") 249), kv P (S "__loader__") 251 (.builtin "off-the-table:_sre.__loader__:shared#opaque"), kv P (S "__spec__") 252 (.builtin "off-the-table:_sre.__spec__:shared#opaque"), kv P (S "compile") 253 (.builtin "_sre.compile"), kv P (S "template") 254 (.builtin "off-the-table:_sre.template:shared#opaque"), kv P (S "getcodesize") 255 (.builtin "off-the-table:_sre.getcodesize:shared#opaque"), kv P (S "ascii_iscased") 256 (.builtin "off-the-table:_sre.ascii_iscased:shared#opaque"), kv P (S "unicode_iscased") 257 (.builtin "off-the-table:_sre.unicode_iscased:shared#opaque"), kv P (S "ascii_tolower") 258 (.builtin "off-the-table:_sre.ascii_tolower:shared#opaque"), kv P (S "unicode_tolower") 259 (.builtin "off-the-table:_sre.unicode_tolower:shared#opaque"), kv P (S "MAGIC") 261 (.int (20230612) 260), kv P (S "CODESIZE") 263 (.int (4) 262), kv P (S "MAXREPEAT") 265 (.int (4294967295) 264), kv P (S "MAXGROUPS") 267 (.int (1073741823) 266), kv P (S "copyright") 269 (.str (S " SRE 2.2.2 Copyright (c) 1997-2002 by Secret Labs AB ") 268)]⟩ 17, ⟨[]⟩⟩
def o12_0 (P : Params) : Obj := ⟨.type "module", (.some (11)), .plain, ⟨[]⟩⟩
def o13_0 (P : Params) : Obj := ⟨.type "dict", .none, .dict ⟨[kv P (S "__module__") 189 (.str (S "_frozen_importlib") 186), kv P (S "__firstlineno__") 190 (.int (971) 187), kv P (S "__doc__") 191 (.builtin "_frozen_importlib.BuiltinImporter.__doc__:str#opaque"), kv P (S "_ORIGIN") 192 (.str (S "built-in") 188), kv P (S "find_spec") 193 (.builtin "_frozen_importlib.BuiltinImporter.find_spec#opaque"), kv P (S "create_module") 194 (.builtin "_frozen_importlib.BuiltinImporter.create_module#opaque"), kv P (S "exec_module") 195 (.builtin "_frozen_importlib.BuiltinImporter.exec_module#opaque"), kv P (S "get_code") 196 (.builtin "_frozen_importlib.BuiltinImporter.get_code#opaque"), kv P (S "get_source") 197 (.builtin "_frozen_importlib.BuiltinImporter.get_source#opaque"), kv P (S "is_package") 198 (.builtin "_frozen_importlib.BuiltinImporter.is_package#opaque"), kv P (S "load_module") 199 (.builtin "_frozen_importlib.BuiltinImporter.load_module#opaque"), kv P (S "__static_attributes__") 200 (.ref 15), kv P (S "__dict__") 202 (.ref 16), kv P (S "__weakref__") 204 (.ref 17)]⟩ 14, ⟨[]⟩⟩
def o14_0 (P : Params) : Obj := ⟨.type "type", .none, .cls ⟨(S "BuiltinImporter"), [.type "object"], [.ref 14, .type "object"], 13, (S "BuiltinImporter"), true, [], [], false, .none, false⟩, ⟨[]⟩⟩
def o15_0 (P : Params) : Obj := ⟨.type "tuple", .none, .seq ⟨[]⟩ 0, ⟨[]⟩⟩
def o16_0 (P : Params) : Obj := ⟨.type "getset_descriptor", .none, .fields ⟨[.str (S "__dict__") 201, .ref 14, .builtin "function.__dict__", .builtin "function.__dict__#set"]⟩, ⟨[]⟩⟩
def o17_0 (P : Params) : Obj := ⟨.type "getset_descriptor", .none, .fields ⟨[.str (S "__weakref__") 203, .ref 14, .builtin "ExceptionGroup.__weakref__", .none]⟩, ⟨[]⟩⟩
def o18_0 (P : Params) : Obj := ⟨.none, .none, .seq ⟨[.int (13) 0, .str (S "\x06½\n__module__\x06º\x11_frozen_importlib\x06¾\x0f__firstlineno__\x04»\x00ϋ\x06¿\x07__doc__\x094_frozen_importlib.BuiltinImporter.__doc__:str#opaque\x06À\x07_ORIGIN\x06¼\x08built-in\x06Á\x09find_spec\x092_frozen_importlib.BuiltinImporter.find_spec#opaque\x06Â\x0dcreate_module\x096_frozen_importlib.BuiltinImporter.create_module#opaque\x06Ã\x0bexec_module\x094_frozen_importlib.BuiltinImporter.exec_module#opaque\x06Ä\x08get_code\x091_frozen_importlib.BuiltinImporter.get_code#opaque\x06Å\nget_source\x093_frozen_importlib.BuiltinImporter.get_source#opaque\x06Æ\nis_package\x093_frozen_importlib.BuiltinImporter.is_package#opaque\x06Ç\x0bload_module\x094_frozen_importlib.BuiltinImporter.load_module#opaque\x06È\x15__static_attributes__\x04\x00\x00\x0f\x06Ê\x08__dict__\x04\x00\x00\x10\x06Ì\x0b__weakref__\x04\x00\x00\x11") 0, .bool true, .bool true, .str (S "") 205, .int (21) 0, .str (S "\x06ã\n__module__\x06Ù\x11_frozen_importlib\x06ä\x0f__firstlineno__\x04Ú\x00Ȳ\x06å\x07__doc__\x09/_frozen_importlib.ModuleSpec.__doc__:str#opaque\x06æ\x08__init__\x09,_frozen_importlib.ModuleSpec.__init__#opaque\x06ç\x08__repr__\x09,_frozen_importlib.ModuleSpec.__repr__#opaque\x06è\x06__eq__\x09*_frozen_importlib.ModuleSpec.__eq__#opaque\x06é\x06cached\x09*_frozen_importlib.ModuleSpec.cached#opaque\x06ê\x06parent\x09*_frozen_importlib.ModuleSpec.parent#opaque\x06ë\x0chas_location\x090_frozen_importlib.ModuleSpec.has_location#opaque\x06ì\x15__static_attributes__\x04\x00\x00\x17\x06î\x08__dict__\x04\x00\x00\x18\x06ð\x0b__weakref__\x04\x00\x00\x19\x06ñ\x08__hash__\x00") 0, .bool true, .bool true, .str (S "") 242]⟩ 1, ⟨[]⟩⟩
def o19_0 (P : Params) : Obj := ⟨.type "list", .none, .seq ⟨[]⟩ 0, ⟨[]⟩⟩
def o20_0 (P : Params) : Obj := ⟨.type "dict", .none, .dict ⟨[kv P (S "name") 208 (.str (S "_sre") 207), kv P (S "loader") 209 (.ref 14), kv P (S "origin") 210 (.str (S "built-in") 184), kv P (S "loader_state") 211 (.none), kv P (S "submodule_search_locations") 212 (.none), kv P (S "_uninitialized_submodules") 213 (.ref 19), kv P (S "_set_fileattr") 214 (.bool false), kv P (S "_cached") 215 (.none), kv P (S "_initializing") 243 (.bool false)]⟩ 9, ⟨[]⟩⟩
def o21_0 (P : Params) : Obj := ⟨.type "dict", .none, .dict ⟨[kv P (S "__module__") 227 (.str (S "_frozen_importlib") 217), kv P (S "__firstlineno__") 228 (.int (562) 218), kv P (S "__doc__") 229 (.builtin "_frozen_importlib.ModuleSpec.__doc__:str#opaque"), kv P (S "__init__") 230 (.builtin "_frozen_importlib.ModuleSpec.__init__#opaque"), kv P (S "__repr__") 231 (.builtin "_frozen_importlib.ModuleSpec.__repr__#opaque"), kv P (S "__eq__") 232 (.builtin "_frozen_importlib.ModuleSpec.__eq__#opaque"), kv P (S "cached") 233 (.builtin "_frozen_importlib.ModuleSpec.cached#opaque"), kv P (S "parent") 234 (.builtin "_frozen_importlib.ModuleSpec.parent#opaque"), kv P (S "has_location") 235 (.builtin "_frozen_importlib.ModuleSpec.has_location#opaque"), kv P (S "__static_attributes__") 236 (.ref 23), kv P (S "__dict__") 238 (.ref 24), kv P (S "__weakref__") 240 (.ref 25), kv P (S "__hash__") 241 (.none)]⟩ 13, ⟨[]⟩⟩
def o22_0 (P : Params) : Obj := ⟨.type "type", .none, .cls ⟨(S "ModuleSpec"), [.type "object"], [.ref 22, .type "object"], 21, (S "ModuleSpec"), true, [], [], false, .none, false⟩, ⟨[]⟩⟩
def o23_0 (P : Params) : Obj := ⟨.type "tuple", .none, .seq ⟨[.str (S "_cached") 219, .str (S "_set_fileattr") 220, .str (S "_uninitialized_submodules") 221, .str (S "loader") 222, .str (S "loader_state") 223, .str (S "name") 224, .str (S "origin") 225, .str (S "submodule_search_locations") 226]⟩ 0, ⟨[]⟩⟩
def o24_0 (P : Params) : Obj := ⟨.type "getset_descriptor", .none, .fields ⟨[.str (S "__dict__") 237, .ref 22, .builtin "function.__dict__", .builtin "function.__dict__#set"]⟩, ⟨[]⟩⟩
def o25_0 (P : Params) : Obj := ⟨.type "getset_descriptor", .none, .fields ⟨[.str (S "__weakref__") 239, .ref 22, .builtin "ExceptionGroup.__weakref__", .none]⟩, ⟨[]⟩⟩
def o26_0 (P : Params) : Obj := ⟨.ref 22, (.some (20)), .plain, ⟨[]⟩⟩
def o27_0 (P : Params) : Obj := ⟨.none, .none, .seq ⟨[.int (11) 0, .str ⟨⟨[6, 247, 8, 95, 95, 110, 97, 109, 101, 95, 95, 6, 246, 4, 95, 115, 114, 101, 6, 248, 7, 95, 95, 100, 111, 99, 95, 95, 0, 6, 250, 11, 95, 95, 112, 97, 99, 107, 97, 103, 101, 95, 95, 6, 249, 0, 6, 251, 10, 95, 95, 108, 111, 97, 100, 101, 114, 95, 95, 4, 0, 0, 14, 6, 252, 8, 95, 95, 115, 112, 101, 99, 95, 95, 4, 0, 0, 26, 6, 253, 7, 99, 111, 109, 112, 105, 108, 101, 9, 12, 95, 115, 114, 101, 46, 99, 111, 109, 112, 105, 108, 101, 6, 254, 8, 116, 101, 109, 112, 108, 97, 116, 101, 9, 13, 95, 115, 114, 101, 46, 116, 101, 109, 112, 108, 97, 116, 101, 6, 255, 11, 103, 101, 116, 99, 111, 100, 101, 115, 105, 122, 101, 9, 16, 95, 115, 114, 101, 46, 103, 101, 116, 99, 111, 100, 101, 115, 105, 122, 101, 6, 256, 13, 97, 115, 99, 105, 105, 95, 105, 115, 99, 97, 115, 101, 100, 9, 18, 95, 115, 114, 101, 46, 97, 115, 99, 105, 105, 95, 105, 115, 99, 97, 115, 101, 100, 6, 257, 15, 117, 110, 105, 99, 111, 100, 101, 95, 105, 115, 99, 97, 115, 101, 100, 9, 20, 95, 115, 114, 101, 46, 117, 110, 105, 99, 111, 100, 101, 95, 105, 115, 99, 97, 115, 101, 100, 6, 258, 13, 97, 115, 99, 105, 105, 95, 116, 111, 108, 111, 119, 101, 114, 9, 18, 95, 115, 114, 101, 46, 97, 115, 99, 105, 105, 95, 116, 111, 108, 111, 119, 101, 114, 6, 259, 15, 117, 110, 105, 99, 111, 100, 101, 95, 116, 111, 108, 111, 119, 101, 114, 9, 20, 95, 115, 114, 101, 46, 117, 110, 105, 99, 111, 100, 101, 95, 116, 111, 108, 111, 119, 101, 114, 6, 261, 5, 77, 65, 71, 73, 67, 4, 260, 0, 20230612, 6, 263, 8, 67, 79, 68, 69, 83, 73, 90, 69, 4, 262, 0, 4, 6, 265, 9, 77, 65, 88, 82, 69, 80, 69, 65, 84, 4, 264, 0, 4294967295, 6, 267, 9, 77, 65, 88, 71, 82, 79, 85, 80, 83, 4, 266, 0, 1073741823, 6, 269, 9, 99, 111, 112, 121, 114, 105, 103, 104, 116, 6, 268, 53, 32, 83, 82, 69, 32, 50, 46, 50, 46, 50, 32, 67, 111, 112, 121, 114, 105, 103, 104, 116, 32, 40, 99, 41, 32, 49, 57, 57, 55, 45, 50, 48, 48, 50, 32, 98, 121, 32, 83, 101, 99, 114, 101, 116, 32, 76, 97, 98, 115, 32, 65, 66, 32]⟩⟩ 0, .bool true, .bool false, .str (S "_sre") 271]⟩ 0, ⟨[]⟩⟩
def T0 (P : Params) : BT := ((((((((((((((((((((((((((((BT.nil).ins 0 (o0_0 P)).ins 1 (o1_0 P)).ins 2 (o2_0 P)).ins 3 (o3_0 P)).ins 4 (o4_0 P)).ins 5 (o5_0 P)).ins 6 (o6_0 P)).ins 7 (o7_0 P)).ins 8 (o8_0 P)).ins 9 (o9_0 P)).ins 10 (o10_0 P)).ins 11 (o11_0 P)).ins 12 (o12_0 P)).ins 13 (o13_0 P)).ins 14 (o14_0 P)).ins 15 (o15_0 P)).ins 16 (o16_0 P)).ins 17 (o17_0 P)).ins 18 (o18_0 P)).ins 19 (o19_0 P)).ins 20 (o20_0 P)).ins 21 (o21_0 P)).ins 22 (o22_0 P)).ins 23 (o23_0 P)).ins 24 (o24_0 P)).ins 25 (o25_0 P)).ins 26 (o26_0 P)).ins 27 (o27_0 P)
def o28_P (P : Params) : Obj := ⟨.type "tuple", .none, .seq ⟨[]⟩ 0, ⟨[]⟩⟩
def o29_P (P : Params) : Obj := ⟨.none, .none, .fields ⟨[]⟩, ⟨[]⟩⟩
def o30_P (P : Params) : Obj := ⟨.type "code", .none, .fields ⟨[.str (S "<module>") 277, .str (S "<module>") 278, .str (S "/claim/cut.py") 279, .int (1) 0, .int (0) 0, .int (0) 0, .int (0) 0, .int (0) 0, .ref 28, .bool false, .int (276) 0, .ref 29, .none, .none, .none, .none, .int (280) 0, .int (1) 0, .str (S "/claim/cut.py") 281]⟩, ⟨[]⟩⟩
def o31_P (P : Params) : Obj := ⟨.type "frame", .none, .plain, ⟨[(.some (.ref 30)), (.some (.ref 3)), (.some (.ref 3)), .none, (.some (.str (S "__main__") 164)), .none, (.some (.ref 0))]⟩⟩
def TP (P : Params) : BT := ((((T0 P).ins 28 (o28_P P)).ins 29 (o29_P P)).ins 30 (o30_P P)).ins 31 (o31_P P)
def o3_1 (P : Params) : Obj := ⟨.type "dict", .none, .dict ⟨[kv P (S "__name__") 165 (.str (S "__main__") 164), kv P (S "__doc__") 166 (.none), kv P (S "__package__") 167 (.none), kv P (S "__loader__") 168 (.builtin "__main__.__loader__#opaque"), kv P (S "__spec__") 169 (.none), kv P (S "__annotations__") 170 (.ref 6), kv P (S "__builtins__") 171 (.ref 4), kv P (S "__file__") 173 (.str (S "/claim/cut.py") 172), kv P (S "__cached__") 174 (.none), kv P (S "_sre") 275 (.ref 12), kv P (S "_wall") 288 (.ref 38)]⟩ 11, ⟨[]⟩⟩
def o29_1 (P : Params) : Obj := ⟨.none, .none, .fields ⟨[.int (2) 0, .int (0) 0, .ref 37]⟩, ⟨[]⟩⟩
def o32_1 (P : Params) : Obj := ⟨.type "tuple", .none, .seq ⟨[]⟩ 0, ⟨[]⟩⟩
def o33_1 (P : Params) : Obj := ⟨.none, .none, .fields ⟨[]⟩, ⟨[]⟩⟩
def o34_1 (P : Params) : Obj := ⟨.type "tuple", .none, .seq ⟨[.str (S "k") 285]⟩ 0, ⟨[]⟩⟩
def o35_1 (P : Params) : Obj := ⟨.type "tuple", .none, .seq ⟨[]⟩ 0, ⟨[]⟩⟩
def o36_1 (P : Params) : Obj := ⟨.none, .none, .func (fn (st 1) (S "_wall") 0 [] (.none) (.none) (.none) (.none) .none (.none) (.none) 0), ⟨[]⟩⟩
def o37_1 (P : Params) : Obj := ⟨.type "code", .none, .fields ⟨[.str (S "_wall") 282, .str (S "_wall") 283, .str (S "/claim/cut.py") 284, .int (2) 0, .int (1) 0, .int (0) 0, .int (0) 0, .int (3) 0, .ref 32, .bool true, .int (276) 0, .ref 33, .none, .ref 34, .ref 35, .ref 36, .int (286) 0, .int (2) 0, .str (S "/claim/cut.py") 287]⟩, ⟨[]⟩⟩
def o38_1 (P : Params) : Obj := ⟨.type "function", .none, .func (fn (st 1) (S "_wall") 3 [] (.none) (.none) (.none) (.str (S "__main__") 164) .none (.ref 37) (.none) 0), ⟨[]⟩⟩
def T1 (P : Params) : BT := (((((((((TP P).set 3 (fun _ => o3_1 P)).set 29 (fun _ => o29_1 P)).ins 32 (o32_1 P)).ins 33 (o33_1 P)).ins 34 (o34_1 P)).ins 35 (o35_1 P)).ins 36 (o36_1 P)).ins 37 (o37_1 P)).ins 38 (o38_1 P)
def o3_2 (P : Params) : Obj := ⟨.type "dict", .none, .dict ⟨[kv P (S "__name__") 165 (.str (S "icalendar.parser_tools") 289), kv P (S "__doc__") 166 (.none), kv P (S "__package__") 167 (.none), kv P (S "__loader__") 168 (.builtin "__main__.__loader__#opaque"), kv P (S "__spec__") 169 (.none), kv P (S "__annotations__") 170 (.ref 6), kv P (S "__builtins__") 171 (.ref 4), kv P (S "__file__") 173 (.str (S "/claim/cut.py") 172), kv P (S "__cached__") 174 (.none), kv P (S "_sre") 275 (.ref 12), kv P (S "_wall") 288 (.ref 38)]⟩ 11, ⟨[]⟩⟩
def T2 (P : Params) : BT := (T1 P).set 3 (fun _ => o3_2 P)
def o3_3 (P : Params) : Obj := ⟨.type "dict", .none, .dict ⟨[kv P (S "__name__") 165 (.str (S "icalendar.parser_tools") 289), kv P (S "__doc__") 166 (.none), kv P (S "__package__") 167 (.none), kv P (S "__loader__") 168 (.builtin "__main__.__loader__#opaque"), kv P (S "__spec__") 169 (.none), kv P (S "__annotations__") 170 (.ref 6), kv P (S "__builtins__") 171 (.ref 4), kv P (S "__file__") 173 (.str (S "/claim/cut.py") 172), kv P (S "__cached__") 174 (.none), kv P (S "_sre") 275 (.ref 12), kv P (S "_wall") 288 (.ref 38), kv P (S "SEQUENCE_TYPES") 291 (.ref 39)]⟩ 12, ⟨[]⟩⟩
def o39_3 (P : Params) : Obj := ⟨.type "tuple", .none, .seq ⟨[.type "list", .type "tuple"]⟩ 0, ⟨[]⟩⟩
def T3 (P : Params) : BT := ((T2 P).set 3 (fun _ => o3_3 P)).ins 39 (o39_3 P)
def o3_4 (P : Params) : Obj := ⟨.type "dict", .none, .dict ⟨[kv P (S "__name__") 165 (.str (S "icalendar.parser_tools") 289), kv P (S "__doc__") 166 (.none), kv P (S "__package__") 167 (.none), kv P (S "__loader__") 168 (.builtin "__main__.__loader__#opaque"), kv P (S "__spec__") 169 (.none), kv P (S "__annotations__") 170 (.ref 6), kv P (S "__builtins__") 171 (.ref 4), kv P (S "__file__") 173 (.str (S "/claim/cut.py") 172), kv P (S "__cached__") 174 (.none), kv P (S "_sre") 275 (.ref 12), kv P (S "_wall") 288 (.ref 38), kv P (S "SEQUENCE_TYPES") 291 (.ref 39), kv P (S "DEFAULT_ENCODING") 293 (.str (S "utf-8") 292)]⟩ 13, ⟨[]⟩⟩
def T4 (P : Params) : BT := (T3 P).set 3 (fun _ => o3_4 P)
def o3_5 (P : Params) : Obj := ⟨.type "dict", .none, .dict ⟨[kv P (S "__name__") 165 (.str (S "icalendar.parser_tools") 289), kv P (S "__doc__") 166 (.none), kv P (S "__package__") 167 (.none), kv P (S "__loader__") 168 (.builtin "__main__.__loader__#opaque"), kv P (S "__spec__") 169 (.none), kv P (S "__annotations__") 170 (.ref 6), kv P (S "__builtins__") 171 (.ref 4), kv P (S "__file__") 173 (.str (S "/claim/cut.py") 172), kv P (S "__cached__") 174 (.none), kv P (S "_sre") 275 (.ref 12), kv P (S "_wall") 288 (.ref 38), kv P (S "SEQUENCE_TYPES") 291 (.ref 39), kv P (S "DEFAULT_ENCODING") 293 (.str (S "utf-8") 292), kv P (S "to_unicode") 303 (.ref 47)]⟩ 14, ⟨[]⟩⟩
def o29_5 (P : Params) : Obj := ⟨.none, .none, .fields ⟨[.int (2) 0, .int (0) 0, .ref 37, .int (8) 0, .int (0) 0, .ref 46]⟩, ⟨[]⟩⟩
def o40_5 (P : Params) : Obj := ⟨.type "tuple", .none, .seq ⟨[.str (S "utf-8-sig") 294]⟩ 0, ⟨[]⟩⟩
def o41_5 (P : Params) : Obj := ⟨.type "tuple", .none, .seq ⟨[]⟩ 0, ⟨[]⟩⟩
def o42_5 (P : Params) : Obj := ⟨.none, .none, .fields ⟨[]⟩, ⟨[]⟩⟩
def o43_5 (P : Params) : Obj := ⟨.type "tuple", .none, .seq ⟨[.str (S "value") 298, .str (S "encoding") 299]⟩ 0, ⟨[]⟩⟩
def o44_5 (P : Params) : Obj := ⟨.type "tuple", .none, .seq ⟨[]⟩ 0, ⟨[]⟩⟩
def o45_5 (P : Params) : Obj := ⟨.none, .none, .func (fn (st 5) (S "to_unicode") 0 [] (.none) (.none) (.none) (.none) .none (.none) (.none) 0), ⟨[]⟩⟩
def o46_5 (P : Params) : Obj := ⟨.type "code", .none, .fields ⟨[.str (S "to_unicode") 295, .str (S "to_unicode") 296, .str (S "/claim/cut.py") 297, .int (8) 0, .int (2) 0, .int (0) 0, .int (0) 0, .int (3) 0, .ref 41, .bool true, .int (276) 0, .ref 42, .none, .ref 43, .ref 44, .ref 45, .int (300) 0, .int (8) 0, .str (S "/claim/cut.py") 301]⟩, ⟨[]⟩⟩
def o47_5 (P : Params) : Obj := ⟨.type "function", .none, .func (fn (st 5) (S "to_unicode") 3 [] (.ref 40) (.none) (.str (dS (st 5)) 302) (.str (S "icalendar.parser_tools") 289) .none (.ref 46) (.none) 0), ⟨[]⟩⟩
def T5 (P : Params) : BT := ((((((((((T4 P).set 3 (fun _ => o3_5 P)).set 29 (fun _ => o29_5 P)).ins 40 (o40_5 P)).ins 41 (o41_5 P)).ins 42 (o42_5 P)).ins 43 (o43_5 P)).ins 44 (o44_5 P)).ins 45 (o45_5 P)).ins 46 (o46_5 P)).ins 47 (o47_5 P)
def o3_6 (P : Params) : Obj := ⟨.type "dict", .none, .dict ⟨[kv P (S "__name__") 165 (.str (S "icalendar.caselessdict") 304), kv P (S "__doc__") 166 (.none), kv P (S "__package__") 167 (.none), kv P (S "__loader__") 168 (.builtin "__main__.__loader__#opaque"), kv P (S "__spec__") 169 (.none), kv P (S "__annotations__") 170 (.ref 6), kv P (S "__builtins__") 171 (.ref 4), kv P (S "__file__") 173 (.str (S "/claim/cut.py") 172), kv P (S "__cached__") 174 (.none), kv P (S "_sre") 275 (.ref 12), kv P (S "_wall") 288 (.ref 38), kv P (S "SEQUENCE_TYPES") 291 (.ref 39), kv P (S "DEFAULT_ENCODING") 293 (.str (S "utf-8") 292), kv P (S "to_unicode") 303 (.ref 47)]⟩ 14, ⟨[]⟩⟩
def T6 (P : Params) : BT := (T5 P).set 3 (fun _ => o3_6 P)
def o3_7 (P : Params) : Obj := ⟨.type "dict", .none, .dict ⟨[kv P (S "__name__") 165 (.str (S "icalendar.caselessdict") 304), kv P (S "__doc__") 166 (.none), kv P (S "__package__") 167 (.none), kv P (S "__loader__") 168 (.builtin "__main__.__loader__#opaque"), kv P (S "__spec__") 169 (.none), kv P (S "__annotations__") 170 (.ref 6), kv P (S "__builtins__") 171 (.ref 4), kv P (S "__file__") 173 (.str (S "/claim/cut.py") 172), kv P (S "__cached__") 174 (.none), kv P (S "_sre") 275 (.ref 12), kv P (S "_wall") 288 (.ref 38), kv P (S "SEQUENCE_TYPES") 291 (.ref 39), kv P (S "DEFAULT_ENCODING") 293 (.str (S "utf-8") 292), kv P (S "to_unicode") 303 (.ref 47), kv P (S "CaselessDict") 476 (.ref 174)]⟩ 15, ⟨[]⟩⟩
def o29_7 (P : Params) : Obj := ⟨.none, .none, .fields ⟨[.int (2) 0, .int (0) 0, .ref 37, .int (8) 0, .int (0) 0, .ref 46, .int (22) 0, .int (0) 0, .ref 54]⟩, ⟨[]⟩⟩
def o48_7 (P : Params) : Obj := ⟨.type "tuple", .none, .seq ⟨[.type "dict"]⟩ 0, ⟨[]⟩⟩
def o49_7 (P : Params) : Obj := ⟨.type "builtin_function_or_method", .none, .fields ⟨[.builtin "type.__prepare__", .type "type"]⟩, ⟨[]⟩⟩
def o50_7 (P : Params) : Obj := ⟨.type "dict", .none, .dict ⟨[kv P (S "__module__") 313 (.str (S "icalendar.caselessdict") 304), kv P (S "__qualname__") 315 (.str (S "CaselessDict") 314), kv P (S "__firstlineno__") 317 (.int (22) 316), kv P (S "__doc__") 319 (.str (dS (st 7)) 318), kv P (S "__init__") 331 (.ref 63), kv P (S "__getitem__") 341 (.ref 71), kv P (S "__setitem__") 352 (.ref 79), kv P (S "__delitem__") 362 (.ref 87), kv P (S "__contains__") 372 (.ref 95), kv P (S "get") 383 (.ref 104), kv P (S "setdefault") 394 (.ref 113), kv P (S "pop") 405 (.ref 122), kv P (S "popitem") 412 (.ref 129), kv P (S "has_key") 420 (.ref 136), kv P (S "update") 434 (.ref 143), kv P (S "__eq__") 443 (.ref 150), kv P (S "__ne__") 452 (.ref 157), kv P (S "canonical_order") 453 (.none), kv P (S "sorted_keys") 460 (.ref 164), kv P (S "sorted_items") 467 (.ref 171), kv P (S "__static_attributes__") 468 (.ref 172), kv P (S "__classcell__") 469 (.ref 51)]⟩ 22, ⟨[]⟩⟩
def o51_7 (P : Params) : Obj := ⟨.type "cell", .none, .cell (.some (.ref 174)), ⟨[]⟩⟩
def o52_7 (P : Params) : Obj := ⟨.type "tuple", .none, .seq ⟨[]⟩ 0, ⟨[]⟩⟩
def o53_7 (P : Params) : Obj := ⟨.none, .none, .fields ⟨[.int (31) 0, .int (4) 0, .ref 62, .int (52) 0, .int (4) 0, .ref 70, .int (68) 0, .int (4) 0, .ref 78, .int (78) 0, .int (4) 0, .ref 86, .int (90) 0, .int (4) 0, .ref 94, .int (102) 0, .int (4) 0, .ref 103, .int (115) 0, .int (4) 0, .ref 112, .int (130) 0, .int (4) 0, .ref 121, .int (143) 0, .int (4) 0, .ref 128, .int (146) 0, .int (4) 0, .ref 135, .int (149) 0, .int (4) 0, .ref 142, .int (166) 0, .int (4) 0, .ref 149, .int (183) 0, .int (4) 0, .ref 156, .int (195) 0, .int (4) 0, .ref 163, .int (198) 0, .int (4) 0, .ref 170]⟩, ⟨[]⟩⟩
def o54_7 (P : Params) : Obj := ⟨.type "code", .none, .fields ⟨[.str (S "CaselessDict") 308, .str (S "CaselessDict") 309, .str (S "/claim/cut.py") 310, .int (22) 0, .int (0) 0, .int (0) 0, .int (0) 0, .int (0) 0, .ref 52, .bool false, .int (276) 0, .ref 53, .none, .none, .none, .none, .int (311) 0, .int (22) 0, .str (S "/claim/cut.py") 312]⟩, ⟨[]⟩⟩
def o55_7 (P : Params) : Obj := ⟨.type "frame", .none, .plain, ⟨[(.some (.ref 54)), (.some (.ref 3)), (.some (.ref 50)), .none, (.some (.str (S "icalendar.caselessdict") 304)), .none, (.some (.ref 0))]⟩⟩
def o56_7 (P : Params) : Obj := ⟨.type "tuple", .none, .seq ⟨[.ref 51]⟩ 0, ⟨[]⟩⟩
def o57_7 (P : Params) : Obj := ⟨.type "tuple", .none, .seq ⟨[.str (S "__class__") 324]⟩ 0, ⟨[]⟩⟩
def o58_7 (P : Params) : Obj := ⟨.none, .none, .fields ⟨[]⟩, ⟨[]⟩⟩
def o59_7 (P : Params) : Obj := ⟨.type "tuple", .none, .seq ⟨[.str (S "self") 325, .str (S "args") 326, .str (S "kwargs") 327]⟩ 0, ⟨[]⟩⟩
def o60_7 (P : Params) : Obj := ⟨.type "tuple", .none, .seq ⟨[]⟩ 0, ⟨[]⟩⟩
def o61_7 (P : Params) : Obj := ⟨.none, .none, .func (fn (su 7 1) (S "CaselessDict.__init__") 0 [] (.none) (.none) (.none) (.none) .none (.none) (.none) 0), ⟨[]⟩⟩
def o62_7 (P : Params) : Obj := ⟨.type "code", .none, .fields ⟨[.str (S "__init__") 321, .str (S "CaselessDict.__init__") 322, .str (S "/claim/cut.py") 323, .int (31) 0, .int (1) 0, .int (0) 0, .int (0) 0, .int (15) 0, .ref 57, .bool true, .int (276) 0, .ref 58, .none, .ref 59, .ref 60, .ref 61, .int (328) 0, .int (31) 0, .str (S "/claim/cut.py") 329]⟩, ⟨[]⟩⟩
def o63_7 (P : Params) : Obj := ⟨.type "function", .none, .func (fn (su 7 1) (S "CaselessDict.__init__") 3 [((S "__class__"), 51)] (.none) (.none) (.str (dS (su 7 1)) 330) (.str (S "icalendar.caselessdict") 304) .none (.ref 62) (.ref 56) 0), ⟨[]⟩⟩
def o64_7 (P : Params) : Obj := ⟨.type "tuple", .none, .seq ⟨[.ref 51]⟩ 0, ⟨[]⟩⟩
def o65_7 (P : Params) : Obj := ⟨.type "tuple", .none, .seq ⟨[.str (S "__class__") 335]⟩ 0, ⟨[]⟩⟩
def o66_7 (P : Params) : Obj := ⟨.none, .none, .fields ⟨[]⟩, ⟨[]⟩⟩
def o67_7 (P : Params) : Obj := ⟨.type "tuple", .none, .seq ⟨[.str (S "self") 336, .str (S "key") 337]⟩ 0, ⟨[]⟩⟩
def o68_7 (P : Params) : Obj := ⟨.type "tuple", .none, .seq ⟨[]⟩ 0, ⟨[]⟩⟩
def o69_7 (P : Params) : Obj := ⟨.none, .none, .func (fn (su 7 2) (S "CaselessDict.__getitem__") 0 [] (.none) (.none) (.none) (.none) .none (.none) (.none) 0), ⟨[]⟩⟩
def o70_7 (P : Params) : Obj := ⟨.type "code", .none, .fields ⟨[.str (S "__getitem__") 332, .str (S "CaselessDict.__getitem__") 333, .str (S "/claim/cut.py") 334, .int (52) 0, .int (2) 0, .int (0) 0, .int (0) 0, .int (3) 0, .ref 65, .bool true, .int (276) 0, .ref 66, .none, .ref 67, .ref 68, .ref 69, .int (338) 0, .int (52) 0, .str (S "/claim/cut.py") 339]⟩, ⟨[]⟩⟩
def o71_7 (P : Params) : Obj := ⟨.type "function", .none, .func (fn (su 7 2) (S "CaselessDict.__getitem__") 3 [((S "__class__"), 51)] (.none) (.none) (.str (dS (su 7 2)) 340) (.str (S "icalendar.caselessdict") 304) .none (.ref 70) (.ref 64) 0), ⟨[]⟩⟩
def o72_7 (P : Params) : Obj := ⟨.type "tuple", .none, .seq ⟨[.ref 51]⟩ 0, ⟨[]⟩⟩
def o73_7 (P : Params) : Obj := ⟨.type "tuple", .none, .seq ⟨[.str (S "__class__") 345]⟩ 0, ⟨[]⟩⟩
def o74_7 (P : Params) : Obj := ⟨.none, .none, .fields ⟨[]⟩, ⟨[]⟩⟩
def o75_7 (P : Params) : Obj := ⟨.type "tuple", .none, .seq ⟨[.str (S "self") 346, .str (S "key") 347, .str (S "value") 348]⟩ 0, ⟨[]⟩⟩
def o76_7 (P : Params) : Obj := ⟨.type "tuple", .none, .seq ⟨[]⟩ 0, ⟨[]⟩⟩
def o77_7 (P : Params) : Obj := ⟨.none, .none, .func (fn (su 7 3) (S "CaselessDict.__setitem__") 0 [] (.none) (.none) (.none) (.none) .none (.none) (.none) 0), ⟨[]⟩⟩
def o78_7 (P : Params) : Obj := ⟨.type "code", .none, .fields ⟨[.str (S "__setitem__") 342, .str (S "CaselessDict.__setitem__") 343, .str (S "/claim/cut.py") 344, .int (68) 0, .int (3) 0, .int (0) 0, .int (0) 0, .int (3) 0, .ref 73, .bool true, .int (276) 0, .ref 74, .none, .ref 75, .ref 76, .ref 77, .int (349) 0, .int (68) 0, .str (S "/claim/cut.py") 350]⟩, ⟨[]⟩⟩
def o79_7 (P : Params) : Obj := ⟨.type "function", .none, .func (fn (su 7 3) (S "CaselessDict.__setitem__") 3 [((S "__class__"), 51)] (.none) (.none) (.str (dS (su 7 3)) 351) (.str (S "icalendar.caselessdict") 304) .none (.ref 78) (.ref 72) 0), ⟨[]⟩⟩
def o80_7 (P : Params) : Obj := ⟨.type "tuple", .none, .seq ⟨[.ref 51]⟩ 0, ⟨[]⟩⟩
def o81_7 (P : Params) : Obj := ⟨.type "tuple", .none, .seq ⟨[.str (S "__class__") 356]⟩ 0, ⟨[]⟩⟩
def o82_7 (P : Params) : Obj := ⟨.none, .none, .fields ⟨[]⟩, ⟨[]⟩⟩
def o83_7 (P : Params) : Obj := ⟨.type "tuple", .none, .seq ⟨[.str (S "self") 357, .str (S "key") 358]⟩ 0, ⟨[]⟩⟩
def o84_7 (P : Params) : Obj := ⟨.type "tuple", .none, .seq ⟨[]⟩ 0, ⟨[]⟩⟩
def o85_7 (P : Params) : Obj := ⟨.none, .none, .func (fn (su 7 4) (S "CaselessDict.__delitem__") 0 [] (.none) (.none) (.none) (.none) .none (.none) (.none) 0), ⟨[]⟩⟩
def o86_7 (P : Params) : Obj := ⟨.type "code", .none, .fields ⟨[.str (S "__delitem__") 353, .str (S "CaselessDict.__delitem__") 354, .str (S "/claim/cut.py") 355, .int (78) 0, .int (2) 0, .int (0) 0, .int (0) 0, .int (3) 0, .ref 81, .bool true, .int (276) 0, .ref 82, .none, .ref 83, .ref 84, .ref 85, .int (359) 0, .int (78) 0, .str (S "/claim/cut.py") 360]⟩, ⟨[]⟩⟩
def o87_7 (P : Params) : Obj := ⟨.type "function", .none, .func (fn (su 7 4) (S "CaselessDict.__delitem__") 3 [((S "__class__"), 51)] (.none) (.none) (.str (dS (su 7 4)) 361) (.str (S "icalendar.caselessdict") 304) .none (.ref 86) (.ref 80) 0), ⟨[]⟩⟩
def o88_7 (P : Params) : Obj := ⟨.type "tuple", .none, .seq ⟨[.ref 51]⟩ 0, ⟨[]⟩⟩
def o89_7 (P : Params) : Obj := ⟨.type "tuple", .none, .seq ⟨[.str (S "__class__") 366]⟩ 0, ⟨[]⟩⟩
def o90_7 (P : Params) : Obj := ⟨.none, .none, .fields ⟨[]⟩, ⟨[]⟩⟩
def o91_7 (P : Params) : Obj := ⟨.type "tuple", .none, .seq ⟨[.str (S "self") 367, .str (S "key") 368]⟩ 0, ⟨[]⟩⟩
def o92_7 (P : Params) : Obj := ⟨.type "tuple", .none, .seq ⟨[]⟩ 0, ⟨[]⟩⟩
def o93_7 (P : Params) : Obj := ⟨.none, .none, .func (fn (su 7 5) (S "CaselessDict.__contains__") 0 [] (.none) (.none) (.none) (.none) .none (.none) (.none) 0), ⟨[]⟩⟩
def o94_7 (P : Params) : Obj := ⟨.type "code", .none, .fields ⟨[.str (S "__contains__") 363, .str (S "CaselessDict.__contains__") 364, .str (S "/claim/cut.py") 365, .int (90) 0, .int (2) 0, .int (0) 0, .int (0) 0, .int (3) 0, .ref 89, .bool true, .int (276) 0, .ref 90, .none, .ref 91, .ref 92, .ref 93, .int (369) 0, .int (90) 0, .str (S "/claim/cut.py") 370]⟩, ⟨[]⟩⟩
def o95_7 (P : Params) : Obj := ⟨.type "function", .none, .func (fn (su 7 5) (S "CaselessDict.__contains__") 3 [((S "__class__"), 51)] (.none) (.none) (.str (dS (su 7 5)) 371) (.str (S "icalendar.caselessdict") 304) .none (.ref 94) (.ref 88) 0), ⟨[]⟩⟩
def o96_7 (P : Params) : Obj := ⟨.type "tuple", .none, .seq ⟨[.none]⟩ 0, ⟨[]⟩⟩
def o97_7 (P : Params) : Obj := ⟨.type "tuple", .none, .seq ⟨[.ref 51]⟩ 0, ⟨[]⟩⟩
def o98_7 (P : Params) : Obj := ⟨.type "tuple", .none, .seq ⟨[.str (S "__class__") 376]⟩ 0, ⟨[]⟩⟩
def o99_7 (P : Params) : Obj := ⟨.none, .none, .fields ⟨[]⟩, ⟨[]⟩⟩
def o100_7 (P : Params) : Obj := ⟨.type "tuple", .none, .seq ⟨[.str (S "self") 377, .str (S "key") 378, .str (S "default") 379]⟩ 0, ⟨[]⟩⟩
def o101_7 (P : Params) : Obj := ⟨.type "tuple", .none, .seq ⟨[]⟩ 0, ⟨[]⟩⟩
def o102_7 (P : Params) : Obj := ⟨.none, .none, .func (fn (su 7 6) (S "CaselessDict.get") 0 [] (.none) (.none) (.none) (.none) .none (.none) (.none) 0), ⟨[]⟩⟩
def o103_7 (P : Params) : Obj := ⟨.type "code", .none, .fields ⟨[.str (S "get") 373, .str (S "CaselessDict.get") 374, .str (S "/claim/cut.py") 375, .int (102) 0, .int (3) 0, .int (0) 0, .int (0) 0, .int (3) 0, .ref 98, .bool true, .int (276) 0, .ref 99, .none, .ref 100, .ref 101, .ref 102, .int (380) 0, .int (102) 0, .str (S "/claim/cut.py") 381]⟩, ⟨[]⟩⟩
def o104_7 (P : Params) : Obj := ⟨.type "function", .none, .func (fn (su 7 6) (S "CaselessDict.get") 3 [((S "__class__"), 51)] (.ref 96) (.none) (.str (dS (su 7 6)) 382) (.str (S "icalendar.caselessdict") 304) .none (.ref 103) (.ref 97) 0), ⟨[]⟩⟩
def o105_7 (P : Params) : Obj := ⟨.type "tuple", .none, .seq ⟨[.none]⟩ 0, ⟨[]⟩⟩
def o106_7 (P : Params) : Obj := ⟨.type "tuple", .none, .seq ⟨[.ref 51]⟩ 0, ⟨[]⟩⟩
def o107_7 (P : Params) : Obj := ⟨.type "tuple", .none, .seq ⟨[.str (S "__class__") 387]⟩ 0, ⟨[]⟩⟩
def o108_7 (P : Params) : Obj := ⟨.none, .none, .fields ⟨[]⟩, ⟨[]⟩⟩
def o109_7 (P : Params) : Obj := ⟨.type "tuple", .none, .seq ⟨[.str (S "self") 388, .str (S "key") 389, .str (S "value") 390]⟩ 0, ⟨[]⟩⟩
def o110_7 (P : Params) : Obj := ⟨.type "tuple", .none, .seq ⟨[]⟩ 0, ⟨[]⟩⟩
def o111_7 (P : Params) : Obj := ⟨.none, .none, .func (fn (su 7 7) (S "CaselessDict.setdefault") 0 [] (.none) (.none) (.none) (.none) .none (.none) (.none) 0), ⟨[]⟩⟩
def o112_7 (P : Params) : Obj := ⟨.type "code", .none, .fields ⟨[.str (S "setdefault") 384, .str (S "CaselessDict.setdefault") 385, .str (S "/claim/cut.py") 386, .int (115) 0, .int (3) 0, .int (0) 0, .int (0) 0, .int (3) 0, .ref 107, .bool true, .int (276) 0, .ref 108, .none, .ref 109, .ref 110, .ref 111, .int (391) 0, .int (115) 0, .str (S "/claim/cut.py") 392]⟩, ⟨[]⟩⟩
def o113_7 (P : Params) : Obj := ⟨.type "function", .none, .func (fn (su 7 7) (S "CaselessDict.setdefault") 3 [((S "__class__"), 51)] (.ref 105) (.none) (.str (dS (su 7 7)) 393) (.str (S "icalendar.caselessdict") 304) .none (.ref 112) (.ref 106) 0), ⟨[]⟩⟩
def o114_7 (P : Params) : Obj := ⟨.type "tuple", .none, .seq ⟨[.none]⟩ 0, ⟨[]⟩⟩
def o115_7 (P : Params) : Obj := ⟨.type "tuple", .none, .seq ⟨[.ref 51]⟩ 0, ⟨[]⟩⟩
def o116_7 (P : Params) : Obj := ⟨.type "tuple", .none, .seq ⟨[.str (S "__class__") 398]⟩ 0, ⟨[]⟩⟩
def o117_7 (P : Params) : Obj := ⟨.none, .none, .fields ⟨[]⟩, ⟨[]⟩⟩
def o118_7 (P : Params) : Obj := ⟨.type "tuple", .none, .seq ⟨[.str (S "self") 399, .str (S "key") 400, .str (S "default") 401]⟩ 0, ⟨[]⟩⟩
def o119_7 (P : Params) : Obj := ⟨.type "tuple", .none, .seq ⟨[]⟩ 0, ⟨[]⟩⟩
def o120_7 (P : Params) : Obj := ⟨.none, .none, .func (fn (su 7 8) (S "CaselessDict.pop") 0 [] (.none) (.none) (.none) (.none) .none (.none) (.none) 0), ⟨[]⟩⟩
def o121_7 (P : Params) : Obj := ⟨.type "code", .none, .fields ⟨[.str (S "pop") 395, .str (S "CaselessDict.pop") 396, .str (S "/claim/cut.py") 397, .int (130) 0, .int (3) 0, .int (0) 0, .int (0) 0, .int (3) 0, .ref 116, .bool true, .int (276) 0, .ref 117, .none, .ref 118, .ref 119, .ref 120, .int (402) 0, .int (130) 0, .str (S "/claim/cut.py") 403]⟩, ⟨[]⟩⟩
def o122_7 (P : Params) : Obj := ⟨.type "function", .none, .func (fn (su 7 8) (S "CaselessDict.pop") 3 [((S "__class__"), 51)] (.ref 114) (.none) (.str (dS (su 7 8)) 404) (.str (S "icalendar.caselessdict") 304) .none (.ref 121) (.ref 115) 0), ⟨[]⟩⟩
def o123_7 (P : Params) : Obj := ⟨.type "tuple", .none, .seq ⟨[]⟩ 0, ⟨[]⟩⟩
def o124_7 (P : Params) : Obj := ⟨.none, .none, .fields ⟨[]⟩, ⟨[]⟩⟩
def o125_7 (P : Params) : Obj := ⟨.type "tuple", .none, .seq ⟨[.str (S "self") 409]⟩ 0, ⟨[]⟩⟩
def o126_7 (P : Params) : Obj := ⟨.type "tuple", .none, .seq ⟨[]⟩ 0, ⟨[]⟩⟩
def o127_7 (P : Params) : Obj := ⟨.none, .none, .func (fn (su 7 9) (S "CaselessDict.popitem") 0 [] (.none) (.none) (.none) (.none) .none (.none) (.none) 0), ⟨[]⟩⟩
def o128_7 (P : Params) : Obj := ⟨.type "code", .none, .fields ⟨[.str (S "popitem") 406, .str (S "CaselessDict.popitem") 407, .str (S "/claim/cut.py") 408, .int (143) 0, .int (1) 0, .int (0) 0, .int (0) 0, .int (3) 0, .ref 123, .bool true, .int (276) 0, .ref 124, .none, .ref 125, .ref 126, .ref 127, .int (410) 0, .int (143) 0, .str (S "/claim/cut.py") 411]⟩, ⟨[]⟩⟩
def o129_7 (P : Params) : Obj := ⟨.type "function", .none, .func (fn (su 7 9) (S "CaselessDict.popitem") 3 [] (.none) (.none) (.none) (.str (S "icalendar.caselessdict") 304) .none (.ref 128) (.none) 0), ⟨[]⟩⟩
def o130_7 (P : Params) : Obj := ⟨.type "tuple", .none, .seq ⟨[]⟩ 0, ⟨[]⟩⟩
def o131_7 (P : Params) : Obj := ⟨.none, .none, .fields ⟨[]⟩, ⟨[]⟩⟩
def o132_7 (P : Params) : Obj := ⟨.type "tuple", .none, .seq ⟨[.str (S "self") 416, .str (S "key") 417]⟩ 0, ⟨[]⟩⟩
def o133_7 (P : Params) : Obj := ⟨.type "tuple", .none, .seq ⟨[]⟩ 0, ⟨[]⟩⟩
def o134_7 (P : Params) : Obj := ⟨.none, .none, .func (fn (su 7 10) (S "CaselessDict.has_key") 0 [] (.none) (.none) (.none) (.none) .none (.none) (.none) 0), ⟨[]⟩⟩
def o135_7 (P : Params) : Obj := ⟨.type "code", .none, .fields ⟨[.str (S "has_key") 413, .str (S "CaselessDict.has_key") 414, .str (S "/claim/cut.py") 415, .int (146) 0, .int (2) 0, .int (0) 0, .int (0) 0, .int (3) 0, .ref 130, .bool true, .int (276) 0, .ref 131, .none, .ref 132, .ref 133, .ref 134, .int (418) 0, .int (146) 0, .str (S "/claim/cut.py") 419]⟩, ⟨[]⟩⟩
def o136_7 (P : Params) : Obj := ⟨.type "function", .none, .func (fn (su 7 10) (S "CaselessDict.has_key") 3 [] (.none) (.none) (.none) (.str (S "icalendar.caselessdict") 304) .none (.ref 135) (.none) 0), ⟨[]⟩⟩
def o137_7 (P : Params) : Obj := ⟨.type "tuple", .none, .seq ⟨[]⟩ 0, ⟨[]⟩⟩
def o138_7 (P : Params) : Obj := ⟨.none, .none, .fields ⟨[]⟩, ⟨[]⟩⟩
def o139_7 (P : Params) : Obj := ⟨.type "tuple", .none, .seq ⟨[.str (S "self") 424, .str (S "args") 425, .str (S "kwargs") 426, .str (S "mappings") 427, .str (S "mapping") 428, .str (S "key") 429, .str (S "value") 430]⟩ 0, ⟨[]⟩⟩
def o140_7 (P : Params) : Obj := ⟨.type "tuple", .none, .seq ⟨[]⟩ 0, ⟨[]⟩⟩
def o141_7 (P : Params) : Obj := ⟨.none, .none, .func (fn (su 7 11) (S "CaselessDict.update") 0 [] (.none) (.none) (.none) (.none) .none (.none) (.none) 0), ⟨[]⟩⟩
def o142_7 (P : Params) : Obj := ⟨.type "code", .none, .fields ⟨[.str (S "update") 421, .str (S "CaselessDict.update") 422, .str (S "/claim/cut.py") 423, .int (149) 0, .int (1) 0, .int (0) 0, .int (0) 0, .int (15) 0, .ref 137, .bool true, .int (276) 0, .ref 138, .none, .ref 139, .ref 140, .ref 141, .int (431) 0, .int (149) 0, .str (S "/claim/cut.py") 432]⟩, ⟨[]⟩⟩
def o143_7 (P : Params) : Obj := ⟨.type "function", .none, .func (fn (su 7 11) (S "CaselessDict.update") 3 [] (.none) (.none) (.str (dS (su 7 11)) 433) (.str (S "icalendar.caselessdict") 304) .none (.ref 142) (.none) 0), ⟨[]⟩⟩
def o144_7 (P : Params) : Obj := ⟨.type "tuple", .none, .seq ⟨[]⟩ 0, ⟨[]⟩⟩
def o145_7 (P : Params) : Obj := ⟨.none, .none, .fields ⟨[]⟩, ⟨[]⟩⟩
def o146_7 (P : Params) : Obj := ⟨.type "tuple", .none, .seq ⟨[.str (S "self") 438, .str (S "other") 439]⟩ 0, ⟨[]⟩⟩
def o147_7 (P : Params) : Obj := ⟨.type "tuple", .none, .seq ⟨[]⟩ 0, ⟨[]⟩⟩
def o148_7 (P : Params) : Obj := ⟨.none, .none, .func (fn (su 7 12) (S "CaselessDict.__eq__") 0 [] (.none) (.none) (.none) (.none) .none (.none) (.none) 0), ⟨[]⟩⟩
def o149_7 (P : Params) : Obj := ⟨.type "code", .none, .fields ⟨[.str (S "__eq__") 435, .str (S "CaselessDict.__eq__") 436, .str (S "/claim/cut.py") 437, .int (166) 0, .int (2) 0, .int (0) 0, .int (0) 0, .int (3) 0, .ref 144, .bool true, .int (276) 0, .ref 145, .none, .ref 146, .ref 147, .ref 148, .int (440) 0, .int (166) 0, .str (S "/claim/cut.py") 441]⟩, ⟨[]⟩⟩
def o150_7 (P : Params) : Obj := ⟨.type "function", .none, .func (fn (su 7 12) (S "CaselessDict.__eq__") 3 [] (.none) (.none) (.str (dS (su 7 12)) 442) (.str (S "icalendar.caselessdict") 304) .none (.ref 149) (.none) 0), ⟨[]⟩⟩
def o151_7 (P : Params) : Obj := ⟨.type "tuple", .none, .seq ⟨[]⟩ 0, ⟨[]⟩⟩
def o152_7 (P : Params) : Obj := ⟨.none, .none, .fields ⟨[]⟩, ⟨[]⟩⟩
def o153_7 (P : Params) : Obj := ⟨.type "tuple", .none, .seq ⟨[.str (S "self") 447, .str (S "other") 448]⟩ 0, ⟨[]⟩⟩
def o154_7 (P : Params) : Obj := ⟨.type "tuple", .none, .seq ⟨[]⟩ 0, ⟨[]⟩⟩
def o155_7 (P : Params) : Obj := ⟨.none, .none, .func (fn (su 7 13) (S "CaselessDict.__ne__") 0 [] (.none) (.none) (.none) (.none) .none (.none) (.none) 0), ⟨[]⟩⟩
def o156_7 (P : Params) : Obj := ⟨.type "code", .none, .fields ⟨[.str (S "__ne__") 444, .str (S "CaselessDict.__ne__") 445, .str (S "/claim/cut.py") 446, .int (183) 0, .int (2) 0, .int (0) 0, .int (0) 0, .int (3) 0, .ref 151, .bool true, .int (276) 0, .ref 152, .none, .ref 153, .ref 154, .ref 155, .int (449) 0, .int (183) 0, .str (S "/claim/cut.py") 450]⟩, ⟨[]⟩⟩
def o157_7 (P : Params) : Obj := ⟨.type "function", .none, .func (fn (su 7 13) (S "CaselessDict.__ne__") 3 [] (.none) (.none) (.str (dS (su 7 13)) 451) (.str (S "icalendar.caselessdict") 304) .none (.ref 156) (.none) 0), ⟨[]⟩⟩
def o158_7 (P : Params) : Obj := ⟨.type "tuple", .none, .seq ⟨[]⟩ 0, ⟨[]⟩⟩
def o159_7 (P : Params) : Obj := ⟨.none, .none, .fields ⟨[]⟩, ⟨[]⟩⟩
def o160_7 (P : Params) : Obj := ⟨.type "tuple", .none, .seq ⟨[.str (S "self") 457]⟩ 0, ⟨[]⟩⟩
def o161_7 (P : Params) : Obj := ⟨.type "tuple", .none, .seq ⟨[]⟩ 0, ⟨[]⟩⟩
def o162_7 (P : Params) : Obj := ⟨.none, .none, .func (fn (su 7 15) (S "CaselessDict.sorted_keys") 0 [] (.none) (.none) (.none) (.none) .none (.none) (.none) 0), ⟨[]⟩⟩
def o163_7 (P : Params) : Obj := ⟨.type "code", .none, .fields ⟨[.str (S "sorted_keys") 454, .str (S "CaselessDict.sorted_keys") 455, .str (S "/claim/cut.py") 456, .int (195) 0, .int (1) 0, .int (0) 0, .int (0) 0, .int (3) 0, .ref 158, .bool true, .int (276) 0, .ref 159, .none, .ref 160, .ref 161, .ref 162, .int (458) 0, .int (195) 0, .str (S "/claim/cut.py") 459]⟩, ⟨[]⟩⟩
def o164_7 (P : Params) : Obj := ⟨.type "function", .none, .func (fn (su 7 15) (S "CaselessDict.sorted_keys") 3 [] (.none) (.none) (.none) (.str (S "icalendar.caselessdict") 304) .none (.ref 163) (.none) 0), ⟨[]⟩⟩
def o165_7 (P : Params) : Obj := ⟨.type "tuple", .none, .seq ⟨[]⟩ 0, ⟨[]⟩⟩
def o166_7 (P : Params) : Obj := ⟨.none, .none, .fields ⟨[]⟩, ⟨[]⟩⟩
def o167_7 (P : Params) : Obj := ⟨.type "tuple", .none, .seq ⟨[.str (S "self") 464]⟩ 0, ⟨[]⟩⟩
def o168_7 (P : Params) : Obj := ⟨.type "tuple", .none, .seq ⟨[]⟩ 0, ⟨[]⟩⟩
def o169_7 (P : Params) : Obj := ⟨.none, .none, .func (fn (su 7 16) (S "CaselessDict.sorted_items") 0 [] (.none) (.none) (.none) (.none) .none (.none) (.none) 0), ⟨[]⟩⟩
def o170_7 (P : Params) : Obj := ⟨.type "code", .none, .fields ⟨[.str (S "sorted_items") 461, .str (S "CaselessDict.sorted_items") 462, .str (S "/claim/cut.py") 463, .int (198) 0, .int (1) 0, .int (0) 0, .int (0) 0, .int (3) 0, .ref 165, .bool true, .int (276) 0, .ref 166, .none, .ref 167, .ref 168, .ref 169, .int (465) 0, .int (198) 0, .str (S "/claim/cut.py") 466]⟩, ⟨[]⟩⟩
def o171_7 (P : Params) : Obj := ⟨.type "function", .none, .func (fn (su 7 16) (S "CaselessDict.sorted_items") 3 [] (.none) (.none) (.none) (.str (S "icalendar.caselessdict") 304) .none (.ref 170) (.none) 0), ⟨[]⟩⟩
def o172_7 (P : Params) : Obj := ⟨.type "tuple", .none, .seq ⟨[]⟩ 0, ⟨[]⟩⟩
def o173_7 (P : Params) : Obj := ⟨.type "dict", .none, .dict ⟨[kv P (S "__module__") 313 (.str (S "icalendar.caselessdict") 304), kv P (S "__firstlineno__") 317 (.int (22) 316), kv P (S "__doc__") 319 (.str (dS (st 7)) 318), kv P (S "__init__") 331 (.ref 63), kv P (S "__getitem__") 341 (.ref 71), kv P (S "__setitem__") 352 (.ref 79), kv P (S "__delitem__") 362 (.ref 87), kv P (S "__contains__") 372 (.ref 95), kv P (S "get") 383 (.ref 104), kv P (S "setdefault") 394 (.ref 113), kv P (S "pop") 405 (.ref 122), kv P (S "popitem") 412 (.ref 129), kv P (S "has_key") 420 (.ref 136), kv P (S "update") 434 (.ref 143), kv P (S "__eq__") 443 (.ref 150), kv P (S "__ne__") 452 (.ref 157), kv P (S "canonical_order") 453 (.none), kv P (S "sorted_keys") 460 (.ref 164), kv P (S "sorted_items") 467 (.ref 171), kv P (S "__static_attributes__") 468 (.ref 172), kv P (S "__dict__") 471 (.ref 175), kv P (S "__weakref__") 473 (.ref 176), kv P (S "__hash__") 474 (.none)]⟩ 5, ⟨[]⟩⟩
def o174_7 (P : Params) : Obj := ⟨.type "type", .none, .cls ⟨(S "CaselessDict"), [.type "dict"], [.ref 174, .type "dict", .type "object"], 173, (S "CaselessDict"), true, [], [], false, .none, false⟩, ⟨[(.some (.ref 48)), .none, (.some (.str (S "CaselessDict") 306)), (.some (.str (S "CaselessDict") 314)), (.some (.builtin "dict.__new__")), (.some (.bool true))]⟩⟩
def o175_7 (P : Params) : Obj := ⟨.type "getset_descriptor", .none, .fields ⟨[.str (S "__dict__") 470, .ref 174, .builtin "function.__dict__", .builtin "function.__dict__#set"]⟩, ⟨[]⟩⟩
def o176_7 (P : Params) : Obj := ⟨.type "getset_descriptor", .none, .fields ⟨[.str (S "__weakref__") 472, .ref 174, .builtin "ExceptionGroup.__weakref__", .none]⟩, ⟨[]⟩⟩
def o177_7 (P : Params) : Obj := ⟨.type "super", .none, .fields ⟨[.ref 174, .ref 174, .ref 174]⟩, ⟨[]⟩⟩
def o178_7 (P : Params) : Obj := ⟨.type "builtin_function_or_method", .none, .fields ⟨[.builtin "object.__init_subclass__", .ref 174]⟩, ⟨[]⟩⟩
def T7 (P : Params) : BT := (((((((((((((((((((((((((((((((((((((((((((((((((((((((((((((((((((((((((((((((((((((((((((((((((((((((((((((((((((((((((((((((((((((T6 P).set 3 (fun _ => o3_7 P)).set 29 (fun _ => o29_7 P)).ins 48 (o48_7 P)).ins 49 (o49_7 P)).ins 50 (o50_7 P)).ins 51 (o51_7 P)).ins 52 (o52_7 P)).ins 53 (o53_7 P)).ins 54 (o54_7 P)).ins 55 (o55_7 P)).ins 56 (o56_7 P)).ins 57 (o57_7 P)).ins 58 (o58_7 P)).ins 59 (o59_7 P)).ins 60 (o60_7 P)).ins 61 (o61_7 P)).ins 62 (o62_7 P)).ins 63 (o63_7 P)).ins 64 (o64_7 P)).ins 65 (o65_7 P)).ins 66 (o66_7 P)).ins 67 (o67_7 P)).ins 68 (o68_7 P)).ins 69 (o69_7 P)).ins 70 (o70_7 P)).ins 71 (o71_7 P)).ins 72 (o72_7 P)).ins 73 (o73_7 P)).ins 74 (o74_7 P)).ins 75 (o75_7 P)).ins 76 (o76_7 P)).ins 77 (o77_7 P)).ins 78 (o78_7 P)).ins 79 (o79_7 P)).ins 80 (o80_7 P)).ins 81 (o81_7 P)).ins 82 (o82_7 P)).ins 83 (o83_7 P)).ins 84 (o84_7 P)).ins 85 (o85_7 P)).ins 86 (o86_7 P)).ins 87 (o87_7 P)).ins 88 (o88_7 P)).ins 89 (o89_7 P)).ins 90 (o90_7 P)).ins 91 (o91_7 P)).ins 92 (o92_7 P)).ins 93 (o93_7 P)).ins 94 (o94_7 P)).ins 95 (o95_7 P)).ins 96 (o96_7 P)).ins 97 (o97_7 P)).ins 98 (o98_7 P)).ins 99 (o99_7 P)).ins 100 (o100_7 P)).ins 101 (o101_7 P)).ins 102 (o102_7 P)).ins 103 (o103_7 P)).ins 104 (o104_7 P)).ins 105 (o105_7 P)).ins 106 (o106_7 P)).ins 107 (o107_7 P)).ins 108 (o108_7 P)).ins 109 (o109_7 P)).ins 110 (o110_7 P)).ins 111 (o111_7 P)).ins 112 (o112_7 P)).ins 113 (o113_7 P)).ins 114 (o114_7 P)).ins 115 (o115_7 P)).ins 116 (o116_7 P)).ins 117 (o117_7 P)).ins 118 (o118_7 P)).ins 119 (o119_7 P)).ins 120 (o120_7 P)).ins 121 (o121_7 P)).ins 122 (o122_7 P)).ins 123 (o123_7 P)).ins 124 (o124_7 P)).ins 125 (o125_7 P)).ins 126 (o126_7 P)).ins 127 (o127_7 P)).ins 128 (o128_7 P)).ins 129 (o129_7 P)).ins 130 (o130_7 P)).ins 131 (o131_7 P)).ins 132 (o132_7 P)).ins 133 (o133_7 P)).ins 134 (o134_7 P)).ins 135 (o135_7 P)).ins 136 (o136_7 P)).ins 137 (o137_7 P)).ins 138 (o138_7 P)).ins 139 (o139_7 P)).ins 140 (o140_7 P)).ins 141 (o141_7 P)).ins 142 (o142_7 P)).ins 143 (o143_7 P)).ins 144 (o144_7 P)).ins 145 (o145_7 P)).ins 146 (o146_7 P)).ins 147 (o147_7 P)).ins 148 (o148_7 P)).ins 149 (o149_7 P)).ins 150 (o150_7 P)).ins 151 (o151_7 P)).ins 152 (o152_7 P)).ins 153 (o153_7 P)).ins 154 (o154_7 P)).ins 155 (o155_7 P)).ins 156 (o156_7 P)).ins 157 (o157_7 P)).ins 158 (o158_7 P)).ins 159 (o159_7 P)).ins 160 (o160_7 P)).ins 161 (o161_7 P)).ins 162 (o162_7 P)).ins 163 (o163_7 P)).ins 164 (o164_7 P)).ins 165 (o165_7 P)).ins 166 (o166_7 P)).ins 167 (o167_7 P)).ins 168 (o168_7 P)).ins 169 (o169_7 P)).ins 170 (o170_7 P)).ins 171 (o171_7 P)).ins 172 (o172_7 P)).ins 173 (o173_7 P)).ins 174 (o174_7 P)).ins 175 (o175_7 P)).ins 176 (o176_7 P)).ins 177 (o177_7 P)).ins 178 (o178_7 P)
def o3_8 (P : Params) : Obj := ⟨.type "dict", .none, .dict ⟨[kv P (S "__name__") 165 (.str (S "icalendar.parser.string") 477), kv P (S "__doc__") 166 (.none), kv P (S "__package__") 167 (.none), kv P (S "__loader__") 168 (.builtin "__main__.__loader__#opaque"), kv P (S "__spec__") 169 (.none), kv P (S "__annotations__") 170 (.ref 6), kv P (S "__builtins__") 171 (.ref 4), kv P (S "__file__") 173 (.str (S "/claim/cut.py") 172), kv P (S "__cached__") 174 (.none), kv P (S "_sre") 275 (.ref 12), kv P (S "_wall") 288 (.ref 38), kv P (S "SEQUENCE_TYPES") 291 (.ref 39), kv P (S "DEFAULT_ENCODING") 293 (.str (S "utf-8") 292), kv P (S "to_unicode") 303 (.ref 47), kv P (S "CaselessDict") 476 (.ref 174)]⟩ 15, ⟨[]⟩⟩
def T8 (P : Params) : BT := (T7 P).set 3 (fun _ => o3_8 P)
def o3_9 (P : Params) : Obj := ⟨.type "dict", .none, .dict ⟨[kv P (S "__name__") 165 (.str (S "icalendar.parser.string") 477), kv P (S "__doc__") 166 (.none), kv P (S "__package__") 167 (.none), kv P (S "__loader__") 168 (.builtin "__main__.__loader__#opaque"), kv P (S "__spec__") 169 (.none), kv P (S "__annotations__") 170 (.ref 6), kv P (S "__builtins__") 171 (.ref 4), kv P (S "__file__") 173 (.str (S "/claim/cut.py") 172), kv P (S "__cached__") 174 (.none), kv P (S "_sre") 275 (.ref 12), kv P (S "_wall") 288 (.ref 38), kv P (S "SEQUENCE_TYPES") 291 (.ref 39), kv P (S "DEFAULT_ENCODING") 293 (.str (S "utf-8") 292), kv P (S "to_unicode") 303 (.ref 47), kv P (S "CaselessDict") 476 (.ref 174), kv P (S "_escape_char") 486 (.ref 185)]⟩ 16, ⟨[]⟩⟩
def o29_9 (P : Params) : Obj := ⟨.none, .none, .fields ⟨[.int (2) 0, .int (0) 0, .ref 37, .int (8) 0, .int (0) 0, .ref 46, .int (22) 0, .int (0) 0, .ref 54, .int (201) 0, .int (0) 0, .ref 184]⟩, ⟨[]⟩⟩
def o179_9 (P : Params) : Obj := ⟨.type "tuple", .none, .seq ⟨[]⟩ 0, ⟨[]⟩⟩
def o180_9 (P : Params) : Obj := ⟨.none, .none, .fields ⟨[]⟩, ⟨[]⟩⟩
def o181_9 (P : Params) : Obj := ⟨.type "tuple", .none, .seq ⟨[.str (S "text") 482]⟩ 0, ⟨[]⟩⟩
def o182_9 (P : Params) : Obj := ⟨.type "tuple", .none, .seq ⟨[]⟩ 0, ⟨[]⟩⟩
def o183_9 (P : Params) : Obj := ⟨.none, .none, .func (fn (st 9) (S "_escape_char") 0 [] (.none) (.none) (.none) (.none) .none (.none) (.none) 0), ⟨[]⟩⟩
def o184_9 (P : Params) : Obj := ⟨.type "code", .none, .fields ⟨[.str (S "_escape_char") 479, .str (S "_escape_char") 480, .str (S "/claim/cut.py") 481, .int (201) 0, .int (1) 0, .int (0) 0, .int (0) 0, .int (3) 0, .ref 179, .bool true, .int (276) 0, .ref 180, .none, .ref 181, .ref 182, .ref 183, .int (483) 0, .int (201) 0, .str (S "/claim/cut.py") 484]⟩, ⟨[]⟩⟩
def o185_9 (P : Params) : Obj := ⟨.type "function", .none, .func (fn (st 9) (S "_escape_char") 3 [] (.none) (.none) (.str (dS (st 9)) 485) (.str (S "icalendar.parser.string") 477) .none (.ref 184) (.none) 0), ⟨[]⟩⟩
def T9 (P : Params) : BT := (((((((((T8 P).set 3 (fun _ => o3_9 P)).set 29 (fun _ => o29_9 P)).ins 179 (o179_9 P)).ins 180 (o180_9 P)).ins 181 (o181_9 P)).ins 182 (o182_9 P)).ins 183 (o183_9 P)).ins 184 (o184_9 P)).ins 185 (o185_9 P)
def o3_10 (P : Params) : Obj := ⟨.type "dict", .none, .dict ⟨[kv P (S "__name__") 165 (.str (S "icalendar.parser.string") 477), kv P (S "__doc__") 166 (.none), kv P (S "__package__") 167 (.none), kv P (S "__loader__") 168 (.builtin "__main__.__loader__#opaque"), kv P (S "__spec__") 169 (.none), kv P (S "__annotations__") 170 (.ref 6), kv P (S "__builtins__") 171 (.ref 4), kv P (S "__file__") 173 (.str (S "/claim/cut.py") 172), kv P (S "__cached__") 174 (.none), kv P (S "_sre") 275 (.ref 12), kv P (S "_wall") 288 (.ref 38), kv P (S "SEQUENCE_TYPES") 291 (.ref 39), kv P (S "DEFAULT_ENCODING") 293 (.str (S "utf-8") 292), kv P (S "to_unicode") 303 (.ref 47), kv P (S "CaselessDict") 476 (.ref 174), kv P (S "_escape_char") 486 (.ref 185), kv P (S "NAME") 511 (.ref 190)]⟩ 17, ⟨[]⟩⟩
def o186_10 (P : Params) : Obj := ⟨.type "list", .none, .seq ⟨[.int (14) 490, .int (4) 491, .int (0) 492, .int (1) 493, .int (4294967295) 494, .int (24) 495, .int (12) 496, .int (1) 497, .int (4294967295) 498, .int (13) 499, .int (7) 500, .int (22) 501, .int (45) 502, .int (46) 503, .int (8) 504, .int (14) 505, .int (0) 506, .int (1) 507, .int (1) 508]⟩ 0, ⟨[]⟩⟩
def o187_10 (P : Params) : Obj := ⟨.type "dict", .none, .dict ⟨[]⟩ 0, ⟨[]⟩⟩
def o188_10 (P : Params) : Obj := ⟨.type "tuple", .none, .seq ⟨[.none]⟩ 0, ⟨[]⟩⟩
def o189_10 (P : Params) : Obj := ⟨.type "tuple", .none, .seq ⟨[.int (14) 0, .int (4) 0, .int (0) 0, .int (1) 0, .int (4294967295) 0, .int (24) 0, .int (12) 0, .int (1) 0, .int (4294967295) 0, .int (13) 0, .int (7) 0, .int (22) 0, .int (45) 0, .int (46) 0, .int (8) 0, .int (14) 0, .int (0) 0, .int (1) 0, .int (1) 0]⟩ 0, ⟨[]⟩⟩
def o190_10 (P : Params) : Obj := ⟨.type "re.Pattern", .none, .fields ⟨[.str (S "[\\w.-]+") 488, .int (32) 510, .int (0) 0, .none, .none, .ref 189, .int (0) 0]⟩, ⟨[]⟩⟩
def T10 (P : Params) : BT := ((((((T9 P).set 3 (fun _ => o3_10 P)).ins 186 (o186_10 P)).ins 187 (o187_10 P)).ins 188 (o188_10 P)).ins 189 (o189_10 P)).ins 190 (o190_10 P)
def o3_11 (P : Params) : Obj := ⟨.type "dict", .none, .dict ⟨[kv P (S "__name__") 165 (.str (S "icalendar.parser.string") 477), kv P (S "__doc__") 166 (.none), kv P (S "__package__") 167 (.none), kv P (S "__loader__") 168 (.builtin "__main__.__loader__#opaque"), kv P (S "__spec__") 169 (.none), kv P (S "__annotations__") 170 (.ref 6), kv P (S "__builtins__") 171 (.ref 4), kv P (S "__file__") 173 (.str (S "/claim/cut.py") 172), kv P (S "__cached__") 174 (.none), kv P (S "_sre") 275 (.ref 12), kv P (S "_wall") 288 (.ref 38), kv P (S "SEQUENCE_TYPES") 291 (.ref 39), kv P (S "DEFAULT_ENCODING") 293 (.str (S "utf-8") 292), kv P (S "to_unicode") 303 (.ref 47), kv P (S "CaselessDict") 476 (.ref 174), kv P (S "_escape_char") 486 (.ref 185), kv P (S "NAME") 511 (.ref 190), kv P (S "validate_token") 520 (.ref 197)]⟩ 18, ⟨[]⟩⟩
def o29_11 (P : Params) : Obj := ⟨.none, .none, .fields ⟨[.int (2) 0, .int (0) 0, .ref 37, .int (8) 0, .int (0) 0, .ref 46, .int (22) 0, .int (0) 0, .ref 54, .int (201) 0, .int (0) 0, .ref 184, .int (236) 0, .int (0) 0, .ref 196]⟩, ⟨[]⟩⟩
def o191_11 (P : Params) : Obj := ⟨.type "tuple", .none, .seq ⟨[]⟩ 0, ⟨[]⟩⟩
def o192_11 (P : Params) : Obj := ⟨.none, .none, .fields ⟨[]⟩, ⟨[]⟩⟩
def o193_11 (P : Params) : Obj := ⟨.type "tuple", .none, .seq ⟨[.str (S "name") 515, .str (S "match") 516]⟩ 0, ⟨[]⟩⟩
def o194_11 (P : Params) : Obj := ⟨.type "tuple", .none, .seq ⟨[]⟩ 0, ⟨[]⟩⟩
def o195_11 (P : Params) : Obj := ⟨.none, .none, .func (fn (st 11) (S "validate_token") 0 [] (.none) (.none) (.none) (.none) .none (.none) (.none) 0), ⟨[]⟩⟩
def o196_11 (P : Params) : Obj := ⟨.type "code", .none, .fields ⟨[.str (S "validate_token") 512, .str (S "validate_token") 513, .str (S "/claim/cut.py") 514, .int (236) 0, .int (1) 0, .int (0) 0, .int (0) 0, .int (3) 0, .ref 191, .bool true, .int (276) 0, .ref 192, .none, .ref 193, .ref 194, .ref 195, .int (517) 0, .int (236) 0, .str (S "/claim/cut.py") 518]⟩, ⟨[]⟩⟩
def o197_11 (P : Params) : Obj := ⟨.type "function", .none, .func (fn (st 11) (S "validate_token") 3 [] (.none) (.none) (.str (dS (st 11)) 519) (.str (S "icalendar.parser.string") 477) .none (.ref 196) (.none) 0), ⟨[]⟩⟩
def T11 (P : Params) : BT := (((((((((T10 P).set 3 (fun _ => o3_11 P)).set 29 (fun _ => o29_11 P)).ins 191 (o191_11 P)).ins 192 (o192_11 P)).ins 193 (o193_11 P)).ins 194 (o194_11 P)).ins 195 (o195_11 P)).ins 196 (o196_11 P)).ins 197 (o197_11 P)
def o3_12 (P : Params) : Obj := ⟨.type "dict", .none, .dict ⟨[kv P (S "__name__") 165 (.str (S "icalendar.parser.parameter") 521), kv P (S "__doc__") 166 (.none), kv P (S "__package__") 167 (.none), kv P (S "__loader__") 168 (.builtin "__main__.__loader__#opaque"), kv P (S "__spec__") 169 (.none), kv P (S "__annotations__") 170 (.ref 6), kv P (S "__builtins__") 171 (.ref 4), kv P (S "__file__") 173 (.str (S "/claim/cut.py") 172), kv P (S "__cached__") 174 (.none), kv P (S "_sre") 275 (.ref 12), kv P (S "_wall") 288 (.ref 38), kv P (S "SEQUENCE_TYPES") 291 (.ref 39), kv P (S "DEFAULT_ENCODING") 293 (.str (S "utf-8") 292), kv P (S "to_unicode") 303 (.ref 47), kv P (S "CaselessDict") 476 (.ref 174), kv P (S "_escape_char") 486 (.ref 185), kv P (S "NAME") 511 (.ref 190), kv P (S "validate_token") 520 (.ref 197)]⟩ 18, ⟨[]⟩⟩
def T12 (P : Params) : BT := (T11 P).set 3 (fun _ => o3_12 P)
def o3_13 (P : Params) : Obj := ⟨.type "dict", .none, .dict ⟨[kv P (S "__name__") 165 (.str (S "icalendar.parser.parameter") 521), kv P (S "__doc__") 166 (.none), kv P (S "__package__") 167 (.none), kv P (S "__loader__") 168 (.builtin "__main__.__loader__#opaque"), kv P (S "__spec__") 169 (.none), kv P (S "__annotations__") 170 (.ref 6), kv P (S "__builtins__") 171 (.ref 4), kv P (S "__file__") 173 (.str (S "/claim/cut.py") 172), kv P (S "__cached__") 174 (.none), kv P (S "_sre") 275 (.ref 12), kv P (S "_wall") 288 (.ref 38), kv P (S "SEQUENCE_TYPES") 291 (.ref 39), kv P (S "DEFAULT_ENCODING") 293 (.str (S "utf-8") 292), kv P (S "to_unicode") 303 (.ref 47), kv P (S "CaselessDict") 476 (.ref 174), kv P (S "_escape_char") 486 (.ref 185), kv P (S "NAME") 511 (.ref 190), kv P (S "validate_token") 520 (.ref 197), kv P (S "param_value") 529 (.ref 203)]⟩ 19, ⟨[]⟩⟩
def o29_13 (P : Params) : Obj := ⟨.none, .none, .fields ⟨[.int (2) 0, .int (0) 0, .ref 37, .int (8) 0, .int (0) 0, .ref 46, .int (22) 0, .int (0) 0, .ref 54, .int (201) 0, .int (0) 0, .ref 184, .int (236) 0, .int (0) 0, .ref 196, .int (253) 0, .int (0) 0, .ref 202]⟩, ⟨[]⟩⟩
def o198_13 (P : Params) : Obj := ⟨.type "tuple", .none, .seq ⟨[.bool false]⟩ 0, ⟨[]⟩⟩
def o199_13 (P : Params) : Obj := ⟨.type "tuple", .none, .seq ⟨[]⟩ 0, ⟨[]⟩⟩
def o200_13 (P : Params) : Obj := ⟨.none, .none, .fields ⟨[]⟩, ⟨[]⟩⟩
def o201_13 (P : Params) : Obj := ⟨.none, .none, .func (fn (st 13) (S "param_value") 0 [] (.none) (.none) (.none) (.none) .none (.none) (.none) 0), ⟨[]⟩⟩
def o202_13 (P : Params) : Obj := ⟨.type "code", .none, .fields ⟨[.str (S "param_value") 523, .str (S "param_value") 524, .str (S "/claim/cut.py") 525, .int (253) 0, .int (2) 0, .int (0) 0, .int (0) 0, .int (3) 0, .ref 199, .bool true, .int (276) 0, .ref 200, .none, .none, .none, .ref 201, .int (526) 0, .int (253) 0, .str (S "/claim/cut.py") 527]⟩, ⟨[]⟩⟩
def o203_13 (P : Params) : Obj := ⟨.type "function", .none, .func (fn (st 13) (S "param_value") 3 [] (.ref 198) (.none) (.str (dS (st 13)) 528) (.str (S "icalendar.parser.parameter") 521) .none (.ref 202) (.none) 0), ⟨[]⟩⟩
def T13 (P : Params) : BT := ((((((((T12 P).set 3 (fun _ => o3_13 P)).set 29 (fun _ => o29_13 P)).ins 198 (o198_13 P)).ins 199 (o199_13 P)).ins 200 (o200_13 P)).ins 201 (o201_13 P)).ins 202 (o202_13 P)).ins 203 (o203_13 P)
def o3_14 (P : Params) : Obj := ⟨.type "dict", .none, .dict ⟨[kv P (S "__name__") 165 (.str (S "icalendar.parser.parameter") 521), kv P (S "__doc__") 166 (.none), kv P (S "__package__") 167 (.none), kv P (S "__loader__") 168 (.builtin "__main__.__loader__#opaque"), kv P (S "__spec__") 169 (.none), kv P (S "__annotations__") 170 (.ref 6), kv P (S "__builtins__") 171 (.ref 4), kv P (S "__file__") 173 (.str (S "/claim/cut.py") 172), kv P (S "__cached__") 174 (.none), kv P (S "_sre") 275 (.ref 12), kv P (S "_wall") 288 (.ref 38), kv P (S "SEQUENCE_TYPES") 291 (.ref 39), kv P (S "DEFAULT_ENCODING") 293 (.str (S "utf-8") 292), kv P (S "to_unicode") 303 (.ref 47), kv P (S "CaselessDict") 476 (.ref 174), kv P (S "_escape_char") 486 (.ref 185), kv P (S "NAME") 511 (.ref 190), kv P (S "validate_token") 520 (.ref 197), kv P (S "param_value") 529 (.ref 203), kv P (S "UNSAFE_CHAR") 563 (.ref 208)]⟩ 20, ⟨[]⟩⟩
def o204_14 (P : Params) : Obj := ⟨.type "list", .none, .seq ⟨[.int (14) 533, .int (14) 534, .int (4) 535, .int (1) 536, .int (1) 537, .int (9) 538, .int (4294966783) 539, .int (201330692) 540, .int (0) 541, .int (2147483648) 542, .int (0) 543, .int (0) 544, .int (0) 545, .int (0) 546, .int (0) 547, .int (13) 548, .int (11) 549, .int (9) 550, .int (4294966783) 551, .int (201330692) 552, .int (0) 553, .int (2147483648) 554, .int (0) 555, .int (0) 556, .int (0) 557, .int (0) 558, .int (0) 559, .int (1) 560]⟩ 0, ⟨[]⟩⟩
def o205_14 (P : Params) : Obj := ⟨.type "dict", .none, .dict ⟨[]⟩ 0, ⟨[]⟩⟩
def o206_14 (P : Params) : Obj := ⟨.type "tuple", .none, .seq ⟨[.none]⟩ 0, ⟨[]⟩⟩
def o207_14 (P : Params) : Obj := ⟨.type "tuple", .none, .seq ⟨[.int (14) 0, .int (14) 0, .int (4) 0, .int (1) 0, .int (1) 0, .int (9) 0, .int (4294966783) 0, .int (201330692) 0, .int (0) 0, .int (2147483648) 0, .int (0) 0, .int (0) 0, .int (0) 0, .int (0) 0, .int (0) 0, .int (13) 0, .int (11) 0, .int (9) 0, .int (4294966783) 0, .int (201330692) 0, .int (0) 0, .int (2147483648) 0, .int (0) 0, .int (0) 0, .int (0) 0, .int (0) 0, .int (0) 0, .int (1) 0]⟩ 0, ⟨[]⟩⟩
def o208_14 (P : Params) : Obj := ⟨.type "re.Pattern", .none, .fields ⟨[.str (S "[\x00-\x08\n-\x1f\x7f\",:;]") 531, .int (32) 562, .int (0) 0, .none, .none, .ref 207, .int (0) 0]⟩, ⟨[]⟩⟩
def T14 (P : Params) : BT := ((((((T13 P).set 3 (fun _ => o3_14 P)).ins 204 (o204_14 P)).ins 205 (o205_14 P)).ins 206 (o206_14 P)).ins 207 (o207_14 P)).ins 208 (o208_14 P)
def o3_15 (P : Params) : Obj := ⟨.type "dict", .none, .dict ⟨[kv P (S "__name__") 165 (.str (S "icalendar.parser.parameter") 521), kv P (S "__doc__") 166 (.none), kv P (S "__package__") 167 (.none), kv P (S "__loader__") 168 (.builtin "__main__.__loader__#opaque"), kv P (S "__spec__") 169 (.none), kv P (S "__annotations__") 170 (.ref 6), kv P (S "__builtins__") 171 (.ref 4), kv P (S "__file__") 173 (.str (S "/claim/cut.py") 172), kv P (S "__cached__") 174 (.none), kv P (S "_sre") 275 (.ref 12), kv P (S "_wall") 288 (.ref 38), kv P (S "SEQUENCE_TYPES") 291 (.ref 39), kv P (S "DEFAULT_ENCODING") 293 (.str (S "utf-8") 292), kv P (S "to_unicode") 303 (.ref 47), kv P (S "CaselessDict") 476 (.ref 174), kv P (S "_escape_char") 486 (.ref 185), kv P (S "NAME") 511 (.ref 190), kv P (S "validate_token") 520 (.ref 197), kv P (S "param_value") 529 (.ref 203), kv P (S "UNSAFE_CHAR") 563 (.ref 208), kv P (S "QUNSAFE_CHAR") 597 (.ref 213)]⟩ 21, ⟨[]⟩⟩
def o209_15 (P : Params) : Obj := ⟨.type "list", .none, .seq ⟨[.int (14) 567, .int (14) 568, .int (4) 569, .int (1) 570, .int (1) 571, .int (9) 572, .int (4294966783) 573, .int (4) 574, .int (0) 575, .int (2147483648) 576, .int (0) 577, .int (0) 578, .int (0) 579, .int (0) 580, .int (0) 581, .int (13) 582, .int (11) 583, .int (9) 584, .int (4294966783) 585, .int (4) 586, .int (0) 587, .int (2147483648) 588, .int (0) 589, .int (0) 590, .int (0) 591, .int (0) 592, .int (0) 593, .int (1) 594]⟩ 0, ⟨[]⟩⟩
def o210_15 (P : Params) : Obj := ⟨.type "dict", .none, .dict ⟨[]⟩ 0, ⟨[]⟩⟩
def o211_15 (P : Params) : Obj := ⟨.type "tuple", .none, .seq ⟨[.none]⟩ 0, ⟨[]⟩⟩
def o212_15 (P : Params) : Obj := ⟨.type "tuple", .none, .seq ⟨[.int (14) 0, .int (14) 0, .int (4) 0, .int (1) 0, .int (1) 0, .int (9) 0, .int (4294966783) 0, .int (4) 0, .int (0) 0, .int (2147483648) 0, .int (0) 0, .int (0) 0, .int (0) 0, .int (0) 0, .int (0) 0, .int (13) 0, .int (11) 0, .int (9) 0, .int (4294966783) 0, .int (4) 0, .int (0) 0, .int (2147483648) 0, .int (0) 0, .int (0) 0, .int (0) 0, .int (0) 0, .int (0) 0, .int (1) 0]⟩ 0, ⟨[]⟩⟩
def o213_15 (P : Params) : Obj := ⟨.type "re.Pattern", .none, .fields ⟨[.str (S "[\x00-\x08\n-\x1f\x7f\"]") 565, .int (32) 596, .int (0) 0, .none, .none, .ref 212, .int (0) 0]⟩, ⟨[]⟩⟩
def T15 (P : Params) : BT := ((((((T14 P).set 3 (fun _ => o3_15 P)).ins 209 (o209_15 P)).ins 210 (o210_15 P)).ins 211 (o211_15 P)).ins 212 (o212_15 P)).ins 213 (o213_15 P)
def o3_16 (P : Params) : Obj := ⟨.type "dict", .none, .dict ⟨[kv P (S "__name__") 165 (.str (S "icalendar.parser.parameter") 521), kv P (S "__doc__") 166 (.none), kv P (S "__package__") 167 (.none), kv P (S "__loader__") 168 (.builtin "__main__.__loader__#opaque"), kv P (S "__spec__") 169 (.none), kv P (S "__annotations__") 170 (.ref 6), kv P (S "__builtins__") 171 (.ref 4), kv P (S "__file__") 173 (.str (S "/claim/cut.py") 172), kv P (S "__cached__") 174 (.none), kv P (S "_sre") 275 (.ref 12), kv P (S "_wall") 288 (.ref 38), kv P (S "SEQUENCE_TYPES") 291 (.ref 39), kv P (S "DEFAULT_ENCODING") 293 (.str (S "utf-8") 292), kv P (S "to_unicode") 303 (.ref 47), kv P (S "CaselessDict") 476 (.ref 174), kv P (S "_escape_char") 486 (.ref 185), kv P (S "NAME") 511 (.ref 190), kv P (S "validate_token") 520 (.ref 197), kv P (S "param_value") 529 (.ref 203), kv P (S "UNSAFE_CHAR") 563 (.ref 208), kv P (S "QUNSAFE_CHAR") 597 (.ref 213), kv P (S "validate_param_value") 607 (.ref 221)]⟩ 22, ⟨[]⟩⟩
def o29_16 (P : Params) : Obj := ⟨.none, .none, .fields ⟨[.int (2) 0, .int (0) 0, .ref 37, .int (8) 0, .int (0) 0, .ref 46, .int (22) 0, .int (0) 0, .ref 54, .int (201) 0, .int (0) 0, .ref 184, .int (236) 0, .int (0) 0, .ref 196, .int (253) 0, .int (0) 0, .ref 202, .int (275) 0, .int (0) 0, .ref 220]⟩, ⟨[]⟩⟩
def o214_16 (P : Params) : Obj := ⟨.type "tuple", .none, .seq ⟨[.bool true]⟩ 0, ⟨[]⟩⟩
def o215_16 (P : Params) : Obj := ⟨.type "tuple", .none, .seq ⟨[]⟩ 0, ⟨[]⟩⟩
def o216_16 (P : Params) : Obj := ⟨.none, .none, .fields ⟨[]⟩, ⟨[]⟩⟩
def o217_16 (P : Params) : Obj := ⟨.type "tuple", .none, .seq ⟨[.str (S "value") 601, .str (S "quoted") 602]⟩ 0, ⟨[]⟩⟩
def o218_16 (P : Params) : Obj := ⟨.type "tuple", .none, .seq ⟨[.str (S "validator") 603]⟩ 0, ⟨[]⟩⟩
def o219_16 (P : Params) : Obj := ⟨.none, .none, .func (fn (st 16) (S "validate_param_value") 0 [] (.none) (.none) (.none) (.none) .none (.none) (.none) 0), ⟨[]⟩⟩
def o220_16 (P : Params) : Obj := ⟨.type "code", .none, .fields ⟨[.str (S "validate_param_value") 598, .str (S "validate_param_value") 599, .str (S "/claim/cut.py") 600, .int (275) 0, .int (2) 0, .int (0) 0, .int (0) 0, .int (3) 0, .ref 215, .bool true, .int (276) 0, .ref 216, .none, .ref 217, .ref 218, .ref 219, .int (604) 0, .int (275) 0, .str (S "/claim/cut.py") 605]⟩, ⟨[]⟩⟩
def o221_16 (P : Params) : Obj := ⟨.type "function", .none, .func (fn (st 16) (S "validate_param_value") 3 [] (.ref 214) (.none) (.str (dS (st 16)) 606) (.str (S "icalendar.parser.parameter") 521) .none (.ref 220) (.none) 0), ⟨[]⟩⟩
def T16 (P : Params) : BT := ((((((((((T15 P).set 3 (fun _ => o3_16 P)).set 29 (fun _ => o29_16 P)).ins 214 (o214_16 P)).ins 215 (o215_16 P)).ins 216 (o216_16 P)).ins 217 (o217_16 P)).ins 218 (o218_16 P)).ins 219 (o219_16 P)).ins 220 (o220_16 P)).ins 221 (o221_16 P)
def o3_17 (P : Params) : Obj := ⟨.type "dict", .none, .dict ⟨[kv P (S "__name__") 165 (.str (S "icalendar.parser.parameter") 521), kv P (S "__doc__") 166 (.none), kv P (S "__package__") 167 (.none), kv P (S "__loader__") 168 (.builtin "__main__.__loader__#opaque"), kv P (S "__spec__") 169 (.none), kv P (S "__annotations__") 170 (.ref 6), kv P (S "__builtins__") 171 (.ref 4), kv P (S "__file__") 173 (.str (S "/claim/cut.py") 172), kv P (S "__cached__") 174 (.none), kv P (S "_sre") 275 (.ref 12), kv P (S "_wall") 288 (.ref 38), kv P (S "SEQUENCE_TYPES") 291 (.ref 39), kv P (S "DEFAULT_ENCODING") 293 (.str (S "utf-8") 292), kv P (S "to_unicode") 303 (.ref 47), kv P (S "CaselessDict") 476 (.ref 174), kv P (S "_escape_char") 486 (.ref 185), kv P (S "NAME") 511 (.ref 190), kv P (S "validate_token") 520 (.ref 197), kv P (S "param_value") 529 (.ref 203), kv P (S "UNSAFE_CHAR") 563 (.ref 208), kv P (S "QUNSAFE_CHAR") 597 (.ref 213), kv P (S "validate_param_value") 607 (.ref 221), kv P (S "QUOTABLE") 803 (.ref 226)]⟩ 23, ⟨[]⟩⟩
def o222_17 (P : Params) : Obj := ⟨.type "list", .none, .seq ⟨[.int (14) 611, .int (95) 612, .int (4) 613, .int (1) 614, .int (1) 615, .int (10) 616, .int (3) 617, .int (16843008) 618, .int (16843009) 619, .int (16843009) 620, .int (16843009) 621, .int (16843009) 622, .int (16843009) 623, .int (16843009) 624, .int (16843009) 625, .int (16843010) 626, .int (16843009) 627, .int (16843009) 628, .int (16843009) 629, .int (16843009) 630, .int (16843009) 631, .int (16843009) 632, .int (16843009) 633, .int (16843009) 634, .int (16843009) 635, .int (16843009) 636, .int (16843009) 637, .int (16843009) 638, .int (16843009) 639, .int (16843009) 640, .int (16843009) 641, .int (16843009) 642, .int (16843009) 643, .int (16843009) 644, .int (16843009) 645, .int (16843009) 646, .int (16843009) 647, .int (16843009) 648, .int (16843009) 649, .int (16843009) 650, .int (16843009) 651, .int (16843009) 652, .int (16843009) 653, .int (16843009) 654, .int (16843009) 655, .int (16843009) 656, .int (16843009) 657, .int (16843009) 658, .int (16843009) 659, .int (16843009) 660, .int (16843009) 661, .int (16843009) 662, .int (16843009) 663, .int (16843009) 664, .int (16843009) 665, .int (16843009) 666, .int (16843009) 667, .int (16843009) 668, .int (16843009) 669, .int (16843009) 670, .int (16843009) 671, .int (16843009) 672, .int (16843009) 673, .int (16843009) 674, .int (16843009) 675, .int (16843009) 676, .int (16843009) 677, .int (16843009) 678, .int (16843009) 679, .int (16843009) 680, .int (16843009) 681, .int (0) 682, .int (201330688) 683, .int (0) 684, .int (0) 685, .int (0) 686, .int (0) 687, .int (0) 688, .int (0) 689, .int (0) 690, .int (0) 691, .int (0) 692, .int (0) 693, .int (0) 694, .int (0) 695, .int (0) 696, .int (0) 697, .int (33554432) 698, .int (0) 699, .int (0) 700, .int (0) 701, .int (0) 702, .int (0) 703, .int (0) 704, .int (0) 705, .int (0) 706, .int (13) 707, .int (92) 708, .int (10) 709, .int (3) 710, .int (16843008) 711, .int (16843009) 712, .int (16843009) 713, .int (16843009) 714, .int (16843009) 715, .int (16843009) 716, .int (16843009) 717, .int (16843009) 718, .int (16843010) 719, .int (16843009) 720, .int (16843009) 721, .int (16843009) 722, .int (16843009) 723, .int (16843009) 724, .int (16843009) 725, .int (16843009) 726, .int (16843009) 727, .int (16843009) 728, .int (16843009) 729, .int (16843009) 730, .int (16843009) 731, .int (16843009) 732, .int (16843009) 733, .int (16843009) 734, .int (16843009) 735, .int (16843009) 736, .int (16843009) 737, .int (16843009) 738, .int (16843009) 739, .int (16843009) 740, .int (16843009) 741, .int (16843009) 742, .int (16843009) 743, .int (16843009) 744, .int (16843009) 745, .int (16843009) 746, .int (16843009) 747, .int (16843009) 748, .int (16843009) 749, .int (16843009) 750, .int (16843009) 751, .int (16843009) 752, .int (16843009) 753, .int (16843009) 754, .int (16843009) 755, .int (16843009) 756, .int (16843009) 757, .int (16843009) 758, .int (16843009) 759, .int (16843009) 760, .int (16843009) 761, .int (16843009) 762, .int (16843009) 763, .int (16843009) 764, .int (16843009) 765, .int (16843009) 766, .int (16843009) 767, .int (16843009) 768, .int (16843009) 769, .int (16843009) 770, .int (16843009) 771, .int (16843009) 772, .int (16843009) 773, .int (16843009) 774, .int (0) 775, .int (201330688) 776, .int (0) 777, .int (0) 778, .int (0) 779, .int (0) 780, .int (0) 781, .int (0) 782, .int (0) 783, .int (0) 784, .int (0) 785, .int (0) 786, .int (0) 787, .int (0) 788, .int (0) 789, .int (0) 790, .int (33554432) 791, .int (0) 792, .int (0) 793, .int (0) 794, .int (0) 795, .int (0) 796, .int (0) 797, .int (0) 798, .int (0) 799, .int (1) 800]⟩ 0, ⟨[]⟩⟩
def o223_17 (P : Params) : Obj := ⟨.type "dict", .none, .dict ⟨[]⟩ 0, ⟨[]⟩⟩
def o224_17 (P : Params) : Obj := ⟨.type "tuple", .none, .seq ⟨[.none]⟩ 0, ⟨[]⟩⟩
def o225_17 (P : Params) : Obj := ⟨.type "tuple", .none, .seq ⟨[.int (14) 0, .int (95) 0, .int (4) 0, .int (1) 0, .int (1) 0, .int (10) 0, .int (3) 0, .int (16843008) 0, .int (16843009) 0, .int (16843009) 0, .int (16843009) 0, .int (16843009) 0, .int (16843009) 0, .int (16843009) 0, .int (16843009) 0, .int (16843010) 0, .int (16843009) 0, .int (16843009) 0, .int (16843009) 0, .int (16843009) 0, .int (16843009) 0, .int (16843009) 0, .int (16843009) 0, .int (16843009) 0, .int (16843009) 0, .int (16843009) 0, .int (16843009) 0, .int (16843009) 0, .int (16843009) 0, .int (16843009) 0, .int (16843009) 0, .int (16843009) 0, .int (16843009) 0, .int (16843009) 0, .int (16843009) 0, .int (16843009) 0, .int (16843009) 0, .int (16843009) 0, .int (16843009) 0, .int (16843009) 0, .int (16843009) 0, .int (16843009) 0, .int (16843009) 0, .int (16843009) 0, .int (16843009) 0, .int (16843009) 0, .int (16843009) 0, .int (16843009) 0, .int (16843009) 0, .int (16843009) 0, .int (16843009) 0, .int (16843009) 0, .int (16843009) 0, .int (16843009) 0, .int (16843009) 0, .int (16843009) 0, .int (16843009) 0, .int (16843009) 0, .int (16843009) 0, .int (16843009) 0, .int (16843009) 0, .int (16843009) 0, .int (16843009) 0, .int (16843009) 0, .int (16843009) 0, .int (16843009) 0, .int (16843009) 0, .int (16843009) 0, .int (16843009) 0, .int (16843009) 0, .int (16843009) 0, .int (0) 0, .int (201330688) 0, .int (0) 0, .int (0) 0, .int (0) 0, .int (0) 0, .int (0) 0, .int (0) 0, .int (0) 0, .int (0) 0, .int (0) 0, .int (0) 0, .int (0) 0, .int (0) 0, .int (0) 0, .int (0) 0, .int (33554432) 0, .int (0) 0, .int (0) 0, .int (0) 0, .int (0) 0, .int (0) 0, .int (0) 0, .int (0) 0, .int (0) 0, .int (13) 0, .int (92) 0, .int (10) 0, .int (3) 0, .int (16843008) 0, .int (16843009) 0, .int (16843009) 0, .int (16843009) 0, .int (16843009) 0, .int (16843009) 0, .int (16843009) 0, .int (16843009) 0, .int (16843010) 0, .int (16843009) 0, .int (16843009) 0, .int (16843009) 0, .int (16843009) 0, .int (16843009) 0, .int (16843009) 0, .int (16843009) 0, .int (16843009) 0, .int (16843009) 0, .int (16843009) 0, .int (16843009) 0, .int (16843009) 0, .int (16843009) 0, .int (16843009) 0, .int (16843009) 0, .int (16843009) 0, .int (16843009) 0, .int (16843009) 0, .int (16843009) 0, .int (16843009) 0, .int (16843009) 0, .int (16843009) 0, .int (16843009) 0, .int (16843009) 0, .int (16843009) 0, .int (16843009) 0, .int (16843009) 0, .int (16843009) 0, .int (16843009) 0, .int (16843009) 0, .int (16843009) 0, .int (16843009) 0, .int (16843009) 0, .int (16843009) 0, .int (16843009) 0, .int (16843009) 0, .int (16843009) 0, .int (16843009) 0, .int (16843009) 0, .int (16843009) 0, .int (16843009) 0, .int (16843009) 0, .int (16843009) 0, .int (16843009) 0, .int (16843009) 0, .int (16843009) 0, .int (16843009) 0, .int (16843009) 0, .int (16843009) 0, .int (16843009) 0, .int (16843009) 0, .int (16843009) 0, .int (16843009) 0, .int (16843009) 0, .int (16843009) 0, .int (0) 0, .int (201330688) 0, .int (0) 0, .int (0) 0, .int (0) 0, .int (0) 0, .int (0) 0, .int (0) 0, .int (0) 0, .int (0) 0, .int (0) 0, .int (0) 0, .int (0) 0, .int (0) 0, .int (0) 0, .int (0) 0, .int (33554432) 0, .int (0) 0, .int (0) 0, .int (0) 0, .int (0) 0, .int (0) 0, .int (0) 0, .int (0) 0, .int (0) 0, .int (1) 0]⟩ 0, ⟨[]⟩⟩
def o226_17 (P : Params) : Obj := ⟨.type "re.Pattern", .none, .fields ⟨[.str (S "[,;:’]") 609, .int (32) 802, .int (0) 0, .none, .none, .ref 225, .int (0) 0]⟩, ⟨[]⟩⟩
def T17 (P : Params) : BT := ((((((T16 P).set 3 (fun _ => o3_17 P)).ins 222 (o222_17 P)).ins 223 (o223_17 P)).ins 224 (o224_17 P)).ins 225 (o225_17 P)).ins 226 (o226_17 P)
def o3_18 (P : Params) : Obj := ⟨.type "dict", .none, .dict ⟨[kv P (S "__name__") 165 (.str (S "icalendar.parser.parameter") 521), kv P (S "__doc__") 166 (.none), kv P (S "__package__") 167 (.none), kv P (S "__loader__") 168 (.builtin "__main__.__loader__#opaque"), kv P (S "__spec__") 169 (.none), kv P (S "__annotations__") 170 (.ref 6), kv P (S "__builtins__") 171 (.ref 4), kv P (S "__file__") 173 (.str (S "/claim/cut.py") 172), kv P (S "__cached__") 174 (.none), kv P (S "_sre") 275 (.ref 12), kv P (S "_wall") 288 (.ref 38), kv P (S "SEQUENCE_TYPES") 291 (.ref 39), kv P (S "DEFAULT_ENCODING") 293 (.str (S "utf-8") 292), kv P (S "to_unicode") 303 (.ref 47), kv P (S "CaselessDict") 476 (.ref 174), kv P (S "_escape_char") 486 (.ref 185), kv P (S "NAME") 511 (.ref 190), kv P (S "validate_token") 520 (.ref 197), kv P (S "param_value") 529 (.ref 203), kv P (S "UNSAFE_CHAR") 563 (.ref 208), kv P (S "QUNSAFE_CHAR") 597 (.ref 213), kv P (S "validate_param_value") 607 (.ref 221), kv P (S "QUOTABLE") 803 (.ref 226), kv P (S "dquote") 812 (.ref 234)]⟩ 24, ⟨[]⟩⟩
def o29_18 (P : Params) : Obj := ⟨.none, .none, .fields ⟨[.int (2) 0, .int (0) 0, .ref 37, .int (8) 0, .int (0) 0, .ref 46, .int (22) 0, .int (0) 0, .ref 54, .int (201) 0, .int (0) 0, .ref 184, .int (236) 0, .int (0) 0, .ref 196, .int (253) 0, .int (0) 0, .ref 202, .int (275) 0, .int (0) 0, .ref 220, .int (294) 0, .int (0) 0, .ref 233]⟩, ⟨[]⟩⟩
def o227_18 (P : Params) : Obj := ⟨.type "tuple", .none, .seq ⟨[.bool false]⟩ 0, ⟨[]⟩⟩
def o228_18 (P : Params) : Obj := ⟨.type "tuple", .none, .seq ⟨[]⟩ 0, ⟨[]⟩⟩
def o229_18 (P : Params) : Obj := ⟨.none, .none, .fields ⟨[]⟩, ⟨[]⟩⟩
def o230_18 (P : Params) : Obj := ⟨.type "tuple", .none, .seq ⟨[.str (S "val") 807, .str (S "always_quote") 808]⟩ 0, ⟨[]⟩⟩
def o231_18 (P : Params) : Obj := ⟨.type "tuple", .none, .seq ⟨[]⟩ 0, ⟨[]⟩⟩
def o232_18 (P : Params) : Obj := ⟨.none, .none, .func (fn (st 18) (S "dquote") 0 [] (.none) (.none) (.none) (.none) .none (.none) (.none) 0), ⟨[]⟩⟩
def o233_18 (P : Params) : Obj := ⟨.type "code", .none, .fields ⟨[.str (S "dquote") 804, .str (S "dquote") 805, .str (S "/claim/cut.py") 806, .int (294) 0, .int (2) 0, .int (0) 0, .int (0) 0, .int (3) 0, .ref 228, .bool true, .int (276) 0, .ref 229, .none, .ref 230, .ref 231, .ref 232, .int (809) 0, .int (294) 0, .str (S "/claim/cut.py") 810]⟩, ⟨[]⟩⟩
def o234_18 (P : Params) : Obj := ⟨.type "function", .none, .func (fn (st 18) (S "dquote") 3 [] (.ref 227) (.none) (.str (dS (st 18)) 811) (.str (S "icalendar.parser.parameter") 521) .none (.ref 233) (.none) 0), ⟨[]⟩⟩
def T18 (P : Params) : BT := ((((((((((T17 P).set 3 (fun _ => o3_18 P)).set 29 (fun _ => o29_18 P)).ins 227 (o227_18 P)).ins 228 (o228_18 P)).ins 229 (o229_18 P)).ins 230 (o230_18 P)).ins 231 (o231_18 P)).ins 232 (o232_18 P)).ins 233 (o233_18 P)).ins 234 (o234_18 P)
def o3_19 (P : Params) : Obj := ⟨.type "dict", .none, .dict ⟨[kv P (S "__name__") 165 (.str (S "icalendar.parser.parameter") 521), kv P (S "__doc__") 166 (.none), kv P (S "__package__") 167 (.none), kv P (S "__loader__") 168 (.builtin "__main__.__loader__#opaque"), kv P (S "__spec__") 169 (.none), kv P (S "__annotations__") 170 (.ref 6), kv P (S "__builtins__") 171 (.ref 4), kv P (S "__file__") 173 (.str (S "/claim/cut.py") 172), kv P (S "__cached__") 174 (.none), kv P (S "_sre") 275 (.ref 12), kv P (S "_wall") 288 (.ref 38), kv P (S "SEQUENCE_TYPES") 291 (.ref 39), kv P (S "DEFAULT_ENCODING") 293 (.str (S "utf-8") 292), kv P (S "to_unicode") 303 (.ref 47), kv P (S "CaselessDict") 476 (.ref 174), kv P (S "_escape_char") 486 (.ref 185), kv P (S "NAME") 511 (.ref 190), kv P (S "validate_token") 520 (.ref 197), kv P (S "param_value") 529 (.ref 203), kv P (S "UNSAFE_CHAR") 563 (.ref 208), kv P (S "QUNSAFE_CHAR") 597 (.ref 213), kv P (S "validate_param_value") 607 (.ref 221), kv P (S "QUOTABLE") 803 (.ref 226), kv P (S "dquote") 812 (.ref 234), kv P (S "q_split") 832 (.ref 242)]⟩ 25, ⟨[]⟩⟩
def o29_19 (P : Params) : Obj := ⟨.none, .none, .fields ⟨[.int (2) 0, .int (0) 0, .ref 37, .int (8) 0, .int (0) 0, .ref 46, .int (22) 0, .int (0) 0, .ref 54, .int (201) 0, .int (0) 0, .ref 184, .int (236) 0, .int (0) 0, .ref 196, .int (253) 0, .int (0) 0, .ref 202, .int (275) 0, .int (0) 0, .ref 220, .int (294) 0, .int (0) 0, .ref 233, .int (315) 0, .int (0) 0, .ref 241]⟩, ⟨[]⟩⟩
def o235_19 (P : Params) : Obj := ⟨.type "tuple", .none, .seq ⟨[.str (S ",") 813, .int (-1) 815]⟩ 0, ⟨[]⟩⟩
def o236_19 (P : Params) : Obj := ⟨.type "tuple", .none, .seq ⟨[]⟩ 0, ⟨[]⟩⟩
def o237_19 (P : Params) : Obj := ⟨.none, .none, .fields ⟨[]⟩, ⟨[]⟩⟩
def o238_19 (P : Params) : Obj := ⟨.type "tuple", .none, .seq ⟨[.str (S "st") 819, .str (S "sep") 820, .str (S "maxsplit") 821, .str (S "result") 822, .str (S "cursor") 823, .str (S "length") 824, .str (S "inquote") 825, .str (S "splits") 826, .str (S "i") 827, .str (S "ch") 828]⟩ 0, ⟨[]⟩⟩
def o239_19 (P : Params) : Obj := ⟨.type "tuple", .none, .seq ⟨[]⟩ 0, ⟨[]⟩⟩
def o240_19 (P : Params) : Obj := ⟨.none, .none, .func (fn (st 19) (S "q_split") 0 [] (.none) (.none) (.none) (.none) .none (.none) (.none) 0), ⟨[]⟩⟩
def o241_19 (P : Params) : Obj := ⟨.type "code", .none, .fields ⟨[.str (S "q_split") 816, .str (S "q_split") 817, .str (S "/claim/cut.py") 818, .int (315) 0, .int (3) 0, .int (0) 0, .int (0) 0, .int (3) 0, .ref 236, .bool true, .int (276) 0, .ref 237, .none, .ref 238, .ref 239, .ref 240, .int (829) 0, .int (315) 0, .str (S "/claim/cut.py") 830]⟩, ⟨[]⟩⟩
def o242_19 (P : Params) : Obj := ⟨.type "function", .none, .func (fn (st 19) (S "q_split") 3 [] (.ref 235) (.none) (.str (dS (st 19)) 831) (.str (S "icalendar.parser.parameter") 521) .none (.ref 241) (.none) 0), ⟨[]⟩⟩
def T19 (P : Params) : BT := ((((((((((T18 P).set 3 (fun _ => o3_19 P)).set 29 (fun _ => o29_19 P)).ins 235 (o235_19 P)).ins 236 (o236_19 P)).ins 237 (o237_19 P)).ins 238 (o238_19 P)).ins 239 (o239_19 P)).ins 240 (o240_19 P)).ins 241 (o241_19 P)).ins 242 (o242_19 P)
def o3_20 (P : Params) : Obj := ⟨.type "dict", .none, .dict ⟨[kv P (S "__name__") 165 (.str (S "icalendar.parser.parameter") 521), kv P (S "__doc__") 166 (.none), kv P (S "__package__") 167 (.none), kv P (S "__loader__") 168 (.builtin "__main__.__loader__#opaque"), kv P (S "__spec__") 169 (.none), kv P (S "__annotations__") 170 (.ref 6), kv P (S "__builtins__") 171 (.ref 4), kv P (S "__file__") 173 (.str (S "/claim/cut.py") 172), kv P (S "__cached__") 174 (.none), kv P (S "_sre") 275 (.ref 12), kv P (S "_wall") 288 (.ref 38), kv P (S "SEQUENCE_TYPES") 291 (.ref 39), kv P (S "DEFAULT_ENCODING") 293 (.str (S "utf-8") 292), kv P (S "to_unicode") 303 (.ref 47), kv P (S "CaselessDict") 476 (.ref 174), kv P (S "_escape_char") 486 (.ref 185), kv P (S "NAME") 511 (.ref 190), kv P (S "validate_token") 520 (.ref 197), kv P (S "param_value") 529 (.ref 203), kv P (S "UNSAFE_CHAR") 563 (.ref 208), kv P (S "QUNSAFE_CHAR") 597 (.ref 213), kv P (S "validate_param_value") 607 (.ref 221), kv P (S "QUOTABLE") 803 (.ref 226), kv P (S "dquote") 812 (.ref 234), kv P (S "q_split") 832 (.ref 242), kv P (S "q_join") 844 (.ref 250)]⟩ 26, ⟨[]⟩⟩
def o29_20 (P : Params) : Obj := ⟨.none, .none, .fields ⟨[.int (2) 0, .int (0) 0, .ref 37, .int (8) 0, .int (0) 0, .ref 46, .int (22) 0, .int (0) 0, .ref 54, .int (201) 0, .int (0) 0, .ref 184, .int (236) 0, .int (0) 0, .ref 196, .int (253) 0, .int (0) 0, .ref 202, .int (275) 0, .int (0) 0, .ref 220, .int (294) 0, .int (0) 0, .ref 233, .int (315) 0, .int (0) 0, .ref 241, .int (360) 0, .int (0) 0, .ref 249]⟩, ⟨[]⟩⟩
def o243_20 (P : Params) : Obj := ⟨.type "tuple", .none, .seq ⟨[.str (S ",") 833, .bool false]⟩ 0, ⟨[]⟩⟩
def o244_20 (P : Params) : Obj := ⟨.type "tuple", .none, .seq ⟨[]⟩ 0, ⟨[]⟩⟩
def o245_20 (P : Params) : Obj := ⟨.none, .none, .fields ⟨[]⟩, ⟨[]⟩⟩
def o246_20 (P : Params) : Obj := ⟨.type "tuple", .none, .seq ⟨[.str (S "lst") 837, .str (S "sep") 838, .str (S "always_quote") 839]⟩ 0, ⟨[]⟩⟩
def o247_20 (P : Params) : Obj := ⟨.type "tuple", .none, .seq ⟨[.str (S "always_quote") 840]⟩ 0, ⟨[]⟩⟩
def o248_20 (P : Params) : Obj := ⟨.none, .none, .func (fn (st 20) (S "q_join") 0 [] (.none) (.none) (.none) (.none) .none (.none) (.none) 0), ⟨[]⟩⟩
def o249_20 (P : Params) : Obj := ⟨.type "code", .none, .fields ⟨[.str (S "q_join") 834, .str (S "q_join") 835, .str (S "/claim/cut.py") 836, .int (360) 0, .int (3) 0, .int (0) 0, .int (0) 0, .int (3) 0, .ref 244, .bool true, .int (276) 0, .ref 245, .none, .ref 246, .ref 247, .ref 248, .int (841) 0, .int (360) 0, .str (S "/claim/cut.py") 842]⟩, ⟨[]⟩⟩
def o250_20 (P : Params) : Obj := ⟨.type "function", .none, .func (fn (st 20) (S "q_join") 3 [] (.ref 243) (.none) (.str (dS (st 20)) 843) (.str (S "icalendar.parser.parameter") 521) .none (.ref 249) (.none) 0), ⟨[]⟩⟩
def T20 (P : Params) : BT := ((((((((((T19 P).set 3 (fun _ => o3_20 P)).set 29 (fun _ => o29_20 P)).ins 243 (o243_20 P)).ins 244 (o244_20 P)).ins 245 (o245_20 P)).ins 246 (o246_20 P)).ins 247 (o247_20 P)).ins 248 (o248_20 P)).ins 249 (o249_20 P)).ins 250 (o250_20 P)
def o3_21 (P : Params) : Obj := ⟨.type "dict", .none, .dict ⟨[kv P (S "__name__") 165 (.str (S "icalendar.parser.parameter") 521), kv P (S "__doc__") 166 (.none), kv P (S "__package__") 167 (.none), kv P (S "__loader__") 168 (.builtin "__main__.__loader__#opaque"), kv P (S "__spec__") 169 (.none), kv P (S "__annotations__") 170 (.ref 6), kv P (S "__builtins__") 171 (.ref 4), kv P (S "__file__") 173 (.str (S "/claim/cut.py") 172), kv P (S "__cached__") 174 (.none), kv P (S "_sre") 275 (.ref 12), kv P (S "_wall") 288 (.ref 38), kv P (S "SEQUENCE_TYPES") 291 (.ref 39), kv P (S "DEFAULT_ENCODING") 293 (.str (S "utf-8") 292), kv P (S "to_unicode") 303 (.ref 47), kv P (S "CaselessDict") 476 (.ref 174), kv P (S "_escape_char") 486 (.ref 185), kv P (S "NAME") 511 (.ref 190), kv P (S "validate_token") 520 (.ref 197), kv P (S "param_value") 529 (.ref 203), kv P (S "UNSAFE_CHAR") 563 (.ref 208), kv P (S "QUNSAFE_CHAR") 597 (.ref 213), kv P (S "validate_param_value") 607 (.ref 221), kv P (S "QUOTABLE") 803 (.ref 226), kv P (S "dquote") 812 (.ref 234), kv P (S "q_split") 832 (.ref 242), kv P (S "q_join") 844 (.ref 250), kv P (S "Parameters") 950 (.ref 303)]⟩ 27, ⟨[]⟩⟩
def o29_21 (P : Params) : Obj := ⟨.none, .none, .fields ⟨[.int (2) 0, .int (0) 0, .ref 37, .int (8) 0, .int (0) 0, .ref 46, .int (22) 0, .int (0) 0, .ref 54, .int (201) 0, .int (0) 0, .ref 184, .int (236) 0, .int (0) 0, .ref 196, .int (253) 0, .int (0) 0, .ref 202, .int (275) 0, .int (0) 0, .ref 220, .int (294) 0, .int (0) 0, .ref 233, .int (315) 0, .int (0) 0, .ref 241, .int (360) 0, .int (0) 0, .ref 249, .int (385) 0, .int (0) 0, .ref 257]⟩, ⟨[]⟩⟩
def o174_21 (P : Params) : Obj := ⟨.type "type", .none, .cls ⟨(S "CaselessDict"), [.type "dict"], [.ref 174, .type "dict", .type "object"], 173, (S "CaselessDict"), true, [], [.ref 303], false, .none, false⟩, ⟨[(.some (.ref 48)), .none, (.some (.str (S "CaselessDict") 306)), (.some (.str (S "CaselessDict") 314)), (.some (.builtin "dict.__new__")), (.some (.bool true))]⟩⟩
def o251_21 (P : Params) : Obj := ⟨.type "tuple", .none, .seq ⟨[.ref 174]⟩ 0, ⟨[]⟩⟩
def o252_21 (P : Params) : Obj := ⟨.type "builtin_function_or_method", .none, .fields ⟨[.builtin "type.__prepare__", .type "type"]⟩, ⟨[]⟩⟩
def o253_21 (P : Params) : Obj := ⟨.type "dict", .none, .dict ⟨[kv P (S "__module__") 852 (.str (S "icalendar.parser.parameter") 521), kv P (S "__qualname__") 854 (.str (S "Parameters") 853), kv P (S "__firstlineno__") 856 (.int (385) 855), kv P (S "__doc__") 858 (.str (dS (st 21)) 857), kv P (S "__init__") 867 (.ref 264), kv P (S "always_quoted") 877 (.ref 265), kv P (S "quote_also") 881 (.ref 266), kv P (S "params") 889 (.ref 273), kv P (S "to_ical") 906 (.ref 281), kv P (S "from_ical") 936 (.ref 291), kv P (S "value") 946 (.ref 300), kv P (S "__static_attributes__") 947 (.ref 301), kv P (S "__classcell__") 948 (.ref 254)]⟩ 13, ⟨[]⟩⟩
def o254_21 (P : Params) : Obj := ⟨.type "cell", .none, .cell (.some (.ref 303)), ⟨[]⟩⟩
def o255_21 (P : Params) : Obj := ⟨.type "tuple", .none, .seq ⟨[]⟩ 0, ⟨[]⟩⟩
def o256_21 (P : Params) : Obj := ⟨.none, .none, .fields ⟨[.int (423) 0, .int (4) 0, .ref 263, .int (434) 0, .int (4) 0, .ref 272, .int (440) 0, .int (4) 0, .ref 280, .int (464) 0, .int (4) 0, .ref 288, .int (494) 0, .int (4) 0, .ref 298]⟩, ⟨[]⟩⟩
def o257_21 (P : Params) : Obj := ⟨.type "code", .none, .fields ⟨[.str (S "Parameters") 847, .str (S "Parameters") 848, .str (S "/claim/cut.py") 849, .int (385) 0, .int (0) 0, .int (0) 0, .int (0) 0, .int (0) 0, .ref 255, .bool false, .int (276) 0, .ref 256, .none, .none, .none, .none, .int (850) 0, .int (385) 0, .str (S "/claim/cut.py") 851]⟩, ⟨[]⟩⟩
def o258_21 (P : Params) : Obj := ⟨.type "frame", .none, .plain, ⟨[(.some (.ref 257)), (.some (.ref 3)), (.some (.ref 253)), .none, (.some (.str (S "icalendar.parser.parameter") 521)), .none, (.some (.ref 0))]⟩⟩
def o259_21 (P : Params) : Obj := ⟨.type "tuple", .none, .seq ⟨[.ref 254]⟩ 0, ⟨[]⟩⟩
def o260_21 (P : Params) : Obj := ⟨.type "tuple", .none, .seq ⟨[.str (S "__class__") 863]⟩ 0, ⟨[]⟩⟩
def o261_21 (P : Params) : Obj := ⟨.none, .none, .fields ⟨[]⟩, ⟨[]⟩⟩
def o262_21 (P : Params) : Obj := ⟨.none, .none, .func (fn (su 21 1) (S "Parameters.__init__") 0 [] (.none) (.none) (.none) (.none) .none (.none) (.none) 0), ⟨[]⟩⟩
def o263_21 (P : Params) : Obj := ⟨.type "code", .none, .fields ⟨[.str (S "__init__") 860, .str (S "Parameters.__init__") 861, .str (S "/claim/cut.py") 862, .int (423) 0, .int (1) 0, .int (0) 0, .int (0) 0, .int (15) 0, .ref 260, .bool true, .int (276) 0, .ref 261, .none, .none, .none, .ref 262, .int (864) 0, .int (423) 0, .str (S "/claim/cut.py") 865]⟩, ⟨[]⟩⟩
def o264_21 (P : Params) : Obj := ⟨.type "function", .none, .func (fn (su 21 1) (S "Parameters.__init__") 3 [((S "__class__"), 254)] (.none) (.none) (.str (dS (su 21 1)) 866) (.str (S "icalendar.parser.parameter") 521) .none (.ref 263) (.ref 259) 0), ⟨[]⟩⟩
def o265_21 (P : Params) : Obj := ⟨.type "tuple", .none, .seq ⟨[.str (S "ALTREP") 868, .str (S "DELEGATED-FROM") 869, .str (S "DELEGATED-TO") 870, .str (S "DIR") 871, .str (S "MEMBER") 872, .str (S "SENT-BY") 873, .str (S "X-ADDRESS") 874, .str (S "X-TITLE") 875, .str (S "LINKREL") 876]⟩ 0, ⟨[]⟩⟩
def o266_21 (P : Params) : Obj := ⟨.type "dict", .none, .dict ⟨[kv P (S "CN") 878 (.str (S " '") 879)]⟩ 1, ⟨[]⟩⟩
def o267_21 (P : Params) : Obj := ⟨.type "tuple", .none, .seq ⟨[]⟩ 0, ⟨[]⟩⟩
def o268_21 (P : Params) : Obj := ⟨.none, .none, .fields ⟨[]⟩, ⟨[]⟩⟩
def o269_21 (P : Params) : Obj := ⟨.type "tuple", .none, .seq ⟨[.str (S "self") 885]⟩ 0, ⟨[]⟩⟩
def o270_21 (P : Params) : Obj := ⟨.type "tuple", .none, .seq ⟨[]⟩ 0, ⟨[]⟩⟩
def o271_21 (P : Params) : Obj := ⟨.none, .none, .func (fn (su 21 4) (S "Parameters.params") 0 [] (.none) (.none) (.none) (.none) .none (.none) (.none) 0), ⟨[]⟩⟩
def o272_21 (P : Params) : Obj := ⟨.type "code", .none, .fields ⟨[.str (S "params") 882, .str (S "Parameters.params") 883, .str (S "/claim/cut.py") 884, .int (434) 0, .int (1) 0, .int (0) 0, .int (0) 0, .int (3) 0, .ref 267, .bool true, .int (276) 0, .ref 268, .none, .ref 269, .ref 270, .ref 271, .int (886) 0, .int (434) 0, .str (S "/claim/cut.py") 887]⟩, ⟨[]⟩⟩
def o273_21 (P : Params) : Obj := ⟨.type "function", .none, .func (fn (su 21 4) (S "Parameters.params") 3 [] (.none) (.none) (.str (dS (su 21 4)) 888) (.str (S "icalendar.parser.parameter") 521) .none (.ref 272) (.none) 0), ⟨[]⟩⟩
def o274_21 (P : Params) : Obj := ⟨.type "tuple", .none, .seq ⟨[.bool true]⟩ 0, ⟨[]⟩⟩
def o275_21 (P : Params) : Obj := ⟨.type "tuple", .none, .seq ⟨[]⟩ 0, ⟨[]⟩⟩
def o276_21 (P : Params) : Obj := ⟨.none, .none, .fields ⟨[]⟩, ⟨[]⟩⟩
def o277_21 (P : Params) : Obj := ⟨.type "tuple", .none, .seq ⟨[.str (S "self") 893, .str (S "sorted") 894, .str (S "result") 895, .str (S "items") 896, .str (S "key") 897, .str (S "upper_key") 898, .str (S "check_quoteable_characters") 899, .str (S "always_quote") 900, .str (S "quoted_value") 901]⟩ 0, ⟨[]⟩⟩
def o278_21 (P : Params) : Obj := ⟨.type "tuple", .none, .seq ⟨[.str (S "value") 902]⟩ 0, ⟨[]⟩⟩
def o279_21 (P : Params) : Obj := ⟨.none, .none, .func (fn (su 21 5) (S "Parameters.to_ical") 0 [] (.none) (.none) (.none) (.none) .none (.none) (.none) 0), ⟨[]⟩⟩
def o280_21 (P : Params) : Obj := ⟨.type "code", .none, .fields ⟨[.str (S "to_ical") 890, .str (S "Parameters.to_ical") 891, .str (S "/claim/cut.py") 892, .int (440) 0, .int (2) 0, .int (0) 0, .int (0) 0, .int (3) 0, .ref 275, .bool true, .int (276) 0, .ref 276, .none, .ref 277, .ref 278, .ref 279, .int (903) 0, .int (440) 0, .str (S "/claim/cut.py") 904]⟩, ⟨[]⟩⟩
def o281_21 (P : Params) : Obj := ⟨.type "function", .none, .func (fn (su 21 5) (S "Parameters.to_ical") 3 [] (.ref 274) (.none) (.str (dS (su 21 5)) 905) (.str (S "icalendar.parser.parameter") 521) .none (.ref 280) (.none) 0), ⟨[]⟩⟩
def o282_21 (P : Params) : Obj := ⟨.type "tuple", .none, .seq ⟨[.bool false]⟩ 0, ⟨[]⟩⟩
def o283_21 (P : Params) : Obj := ⟨.type "tuple", .none, .seq ⟨[]⟩ 0, ⟨[]⟩⟩
def o284_21 (P : Params) : Obj := ⟨.none, .none, .fields ⟨[]⟩, ⟨[]⟩⟩
def o285_21 (P : Params) : Obj := ⟨.type "tuple", .none, .seq ⟨[.str (S "cls") 910, .str (S "st") 911, .str (S "strict") 912, .str (S "result") 913, .str (S "param") 914, .str (S "key") 915, .str (S "val") 916, .str (S "vals") 917, .str (S "v") 918, .str (S "v2") 919, .str (S "exc") 920]⟩ 0, ⟨[]⟩⟩
def o286_21 (P : Params) : Obj := ⟨.type "tuple", .none, .seq ⟨[]⟩ 0, ⟨[]⟩⟩
def o287_21 (P : Params) : Obj := ⟨.none, .none, .func (fn (su 21 6) (S "Parameters.from_ical") 0 [] (.none) (.none) (.none) (.none) .none (.none) (.none) 0), ⟨[]⟩⟩
def o288_21 (P : Params) : Obj := ⟨.type "code", .none, .fields ⟨[.str (S "from_ical") 907, .str (S "Parameters.from_ical") 908, .str (S "/claim/cut.py") 909, .int (463) 0, .int (3) 0, .int (0) 0, .int (0) 0, .int (3) 0, .ref 283, .bool true, .int (276) 0, .ref 284, .none, .ref 285, .ref 286, .ref 287, .int (921) 0, .int (463) 0, .str (S "/claim/cut.py") 922]⟩, ⟨[]⟩⟩
def o289_21 (P : Params) : Obj := ⟨.type "function", .none, .func (fn (su 21 6) (S "Parameters.from_ical") 3 [] (.ref 282) (.none) (.str (dS (su 21 6)) 923) (.str (S "icalendar.parser.parameter") 521) (.some (292)) (.ref 288) (.none) 0), ⟨[]⟩⟩
def o290_21 (P : Params) : Obj := ⟨.type "dict", .none, .dict ⟨[kv P (S "__module__") 925 (.str (S "icalendar.parser.parameter") 521), kv P (S "__name__") 928 (.str (S "from_ical") 927), kv P (S "__qualname__") 931 (.str (S "Parameters.from_ical") 930), kv P (S "__doc__") 933 (.str (dS (su 21 6)) 923), kv P (S "__annotations__") 935 (.ref 292)]⟩ 5, ⟨[]⟩⟩
def o291_21 (P : Params) : Obj := ⟨.type "classmethod", (.some (290)), .fields ⟨[.ref 289, .bool false]⟩, ⟨[]⟩⟩
def o292_21 (P : Params) : Obj := ⟨.type "dict", .none, .dict ⟨[]⟩ 0, ⟨[]⟩⟩
def o293_21 (P : Params) : Obj := ⟨.type "tuple", .none, .seq ⟨[]⟩ 0, ⟨[]⟩⟩
def o294_21 (P : Params) : Obj := ⟨.none, .none, .fields ⟨[]⟩, ⟨[]⟩⟩
def o295_21 (P : Params) : Obj := ⟨.type "tuple", .none, .seq ⟨[.str (S "self") 940, .str (S "value") 941]⟩ 0, ⟨[]⟩⟩
def o296_21 (P : Params) : Obj := ⟨.type "tuple", .none, .seq ⟨[]⟩ 0, ⟨[]⟩⟩
def o297_21 (P : Params) : Obj := ⟨.none, .none, .func (fn (su 21 7) (S "Parameters.value") 0 [] (.none) (.none) (.none) (.none) .none (.none) (.none) 0), ⟨[]⟩⟩
def o298_21 (P : Params) : Obj := ⟨.type "code", .none, .fields ⟨[.str (S "value") 937, .str (S "Parameters.value") 938, .str (S "/claim/cut.py") 939, .int (493) 0, .int (1) 0, .int (0) 0, .int (0) 0, .int (3) 0, .ref 293, .bool true, .int (276) 0, .ref 294, .none, .ref 295, .ref 296, .ref 297, .int (942) 0, .int (493) 0, .str (S "/claim/cut.py") 943]⟩, ⟨[]⟩⟩
def o299_21 (P : Params) : Obj := ⟨.type "function", .none, .func (fn (su 21 7) (S "Parameters.value") 3 [] (.none) (.none) (.str (dS (su 21 7)) 944) (.str (S "icalendar.parser.parameter") 521) .none (.ref 298) (.none) 0), ⟨[]⟩⟩
def o300_21 (P : Params) : Obj := ⟨.type "property", .none, .fields ⟨[.ref 299, .none, .none, .str (dS (su 21 7)) 944, .str (S "value") 946, .bool true]⟩, ⟨[]⟩⟩
def o301_21 (P : Params) : Obj := ⟨.type "tuple", .none, .seq ⟨[]⟩ 0, ⟨[]⟩⟩
def o302_21 (P : Params) : Obj := ⟨.type "dict", .none, .dict ⟨[kv P (S "__module__") 852 (.str (S "icalendar.parser.parameter") 521), kv P (S "__firstlineno__") 856 (.int (385) 855), kv P (S "__doc__") 858 (.str (dS (st 21)) 857), kv P (S "__init__") 867 (.ref 264), kv P (S "always_quoted") 877 (.ref 265), kv P (S "quote_also") 881 (.ref 266), kv P (S "params") 889 (.ref 273), kv P (S "to_ical") 906 (.ref 281), kv P (S "from_ical") 936 (.ref 291), kv P (S "value") 946 (.ref 300), kv P (S "__static_attributes__") 947 (.ref 301)]⟩ 2, ⟨[]⟩⟩
def o303_21 (P : Params) : Obj := ⟨.type "type", .none, .cls ⟨(S "Parameters"), [.ref 174], [.ref 303, .ref 174, .type "dict", .type "object"], 302, (S "Parameters"), true, [], [], false, .none, false⟩, ⟨[(.some (.ref 251)), .none, (.some (.str (S "Parameters") 845)), (.some (.str (S "Parameters") 853)), (.some (.builtin "dict.__new__")), (.some (.bool true))]⟩⟩
def o304_21 (P : Params) : Obj := ⟨.type "super", .none, .fields ⟨[.ref 303, .ref 303, .ref 303]⟩, ⟨[]⟩⟩
def o305_21 (P : Params) : Obj := ⟨.type "builtin_function_or_method", .none, .fields ⟨[.builtin "object.__init_subclass__", .ref 303]⟩, ⟨[]⟩⟩
def T21 (P : Params) : BT := ((((((((((((((((((((((((((((((((((((((((((((((((((((((((((T20 P).set 3 (fun _ => o3_21 P)).set 29 (fun _ => o29_21 P)).set 174 (fun _ => o174_21 P)).ins 251 (o251_21 P)).ins 252 (o252_21 P)).ins 253 (o253_21 P)).ins 254 (o254_21 P)).ins 255 (o255_21 P)).ins 256 (o256_21 P)).ins 257 (o257_21 P)).ins 258 (o258_21 P)).ins 259 (o259_21 P)).ins 260 (o260_21 P)).ins 261 (o261_21 P)).ins 262 (o262_21 P)).ins 263 (o263_21 P)).ins 264 (o264_21 P)).ins 265 (o265_21 P)).ins 266 (o266_21 P)).ins 267 (o267_21 P)).ins 268 (o268_21 P)).ins 269 (o269_21 P)).ins 270 (o270_21 P)).ins 271 (o271_21 P)).ins 272 (o272_21 P)).ins 273 (o273_21 P)).ins 274 (o274_21 P)).ins 275 (o275_21 P)).ins 276 (o276_21 P)).ins 277 (o277_21 P)).ins 278 (o278_21 P)).ins 279 (o279_21 P)).ins 280 (o280_21 P)).ins 281 (o281_21 P)).ins 282 (o282_21 P)).ins 283 (o283_21 P)).ins 284 (o284_21 P)).ins 285 (o285_21 P)).ins 286 (o286_21 P)).ins 287 (o287_21 P)).ins 288 (o288_21 P)).ins 289 (o289_21 P)).ins 290 (o290_21 P)).ins 291 (o291_21 P)).ins 292 (o292_21 P)).ins 293 (o293_21 P)).ins 294 (o294_21 P)).ins 295 (o295_21 P)).ins 296 (o296_21 P)).ins 297 (o297_21 P)).ins 298 (o298_21 P)).ins 299 (o299_21 P)).ins 300 (o300_21 P)).ins 301 (o301_21 P)).ins 302 (o302_21 P)).ins 303 (o303_21 P)).ins 304 (o304_21 P)).ins 305 (o305_21 P)
def o3_22 (P : Params) : Obj := ⟨.type "dict", .none, .dict ⟨[kv P (S "__name__") 165 (.str (S "icalendar.parser.parameter") 521), kv P (S "__doc__") 166 (.none), kv P (S "__package__") 167 (.none), kv P (S "__loader__") 168 (.builtin "__main__.__loader__#opaque"), kv P (S "__spec__") 169 (.none), kv P (S "__annotations__") 170 (.ref 6), kv P (S "__builtins__") 171 (.ref 4), kv P (S "__file__") 173 (.str (S "/claim/cut.py") 172), kv P (S "__cached__") 174 (.none), kv P (S "_sre") 275 (.ref 12), kv P (S "_wall") 288 (.ref 38), kv P (S "SEQUENCE_TYPES") 291 (.ref 39), kv P (S "DEFAULT_ENCODING") 293 (.str (S "utf-8") 292), kv P (S "to_unicode") 303 (.ref 47), kv P (S "CaselessDict") 476 (.ref 174), kv P (S "_escape_char") 486 (.ref 185), kv P (S "NAME") 511 (.ref 190), kv P (S "validate_token") 520 (.ref 197), kv P (S "param_value") 529 (.ref 203), kv P (S "UNSAFE_CHAR") 563 (.ref 208), kv P (S "QUNSAFE_CHAR") 597 (.ref 213), kv P (S "validate_param_value") 607 (.ref 221), kv P (S "QUOTABLE") 803 (.ref 226), kv P (S "dquote") 812 (.ref 234), kv P (S "q_split") 832 (.ref 242), kv P (S "q_join") 844 (.ref 250), kv P (S "Parameters") 950 (.ref 303), kv P (S "rfc_6868_unescape") 962 (.ref 312)]⟩ 28, ⟨[]⟩⟩
def o29_22 (P : Params) : Obj := ⟨.none, .none, .fields ⟨[.int (2) 0, .int (0) 0, .ref 37, .int (8) 0, .int (0) 0, .ref 46, .int (22) 0, .int (0) 0, .ref 54, .int (201) 0, .int (0) 0, .ref 184, .int (236) 0, .int (0) 0, .ref 196, .int (253) 0, .int (0) 0, .ref 202, .int (275) 0, .int (0) 0, .ref 220, .int (294) 0, .int (0) 0, .ref 233, .int (315) 0, .int (0) 0, .ref 241, .int (360) 0, .int (0) 0, .ref 249, .int (385) 0, .int (0) 0, .ref 257, .int (528) 0, .int (0) 0, .ref 311]⟩, ⟨[]⟩⟩
def o306_22 (P : Params) : Obj := ⟨.type "tuple", .none, .seq ⟨[]⟩ 0, ⟨[]⟩⟩
def o307_22 (P : Params) : Obj := ⟨.none, .none, .fields ⟨[]⟩, ⟨[]⟩⟩
def o308_22 (P : Params) : Obj := ⟨.type "tuple", .none, .seq ⟨[.str (S "param_value") 954, .str (S "replacements") 955, .str (S "result") 956, .str (S "i") 957, .str (S "pair") 958]⟩ 0, ⟨[]⟩⟩
def o309_22 (P : Params) : Obj := ⟨.type "tuple", .none, .seq ⟨[]⟩ 0, ⟨[]⟩⟩
def o310_22 (P : Params) : Obj := ⟨.none, .none, .func (fn (st 22) (S "rfc_6868_unescape") 0 [] (.none) (.none) (.none) (.none) .none (.none) (.none) 0), ⟨[]⟩⟩
def o311_22 (P : Params) : Obj := ⟨.type "code", .none, .fields ⟨[.str (S "rfc_6868_unescape") 951, .str (S "rfc_6868_unescape") 952, .str (S "/claim/cut.py") 953, .int (528) 0, .int (1) 0, .int (0) 0, .int (0) 0, .int (3) 0, .ref 306, .bool true, .int (276) 0, .ref 307, .none, .ref 308, .ref 309, .ref 310, .int (959) 0, .int (528) 0, .str (S "/claim/cut.py") 960]⟩, ⟨[]⟩⟩
def o312_22 (P : Params) : Obj := ⟨.type "function", .none, .func (fn (st 22) (S "rfc_6868_unescape") 3 [] (.none) (.none) (.str (dS (st 22)) 961) (.str (S "icalendar.parser.parameter") 521) .none (.ref 311) (.none) 0), ⟨[]⟩⟩
def T22 (P : Params) : BT := (((((((((T21 P).set 3 (fun _ => o3_22 P)).set 29 (fun _ => o29_22 P)).ins 306 (o306_22 P)).ins 307 (o307_22 P)).ins 308 (o308_22 P)).ins 309 (o309_22 P)).ins 310 (o310_22 P)).ins 311 (o311_22 P)).ins 312 (o312_22 P)
def o3_23 (P : Params) : Obj := ⟨.type "dict", .none, .dict ⟨[kv P (S "__name__") 165 (.str (S "icalendar.parser.parameter") 521), kv P (S "__doc__") 166 (.none), kv P (S "__package__") 167 (.none), kv P (S "__loader__") 168 (.builtin "__main__.__loader__#opaque"), kv P (S "__spec__") 169 (.none), kv P (S "__annotations__") 170 (.ref 6), kv P (S "__builtins__") 171 (.ref 4), kv P (S "__file__") 173 (.str (S "/claim/cut.py") 172), kv P (S "__cached__") 174 (.none), kv P (S "_sre") 275 (.ref 12), kv P (S "_wall") 288 (.ref 38), kv P (S "SEQUENCE_TYPES") 291 (.ref 39), kv P (S "DEFAULT_ENCODING") 293 (.str (S "utf-8") 292), kv P (S "to_unicode") 303 (.ref 47), kv P (S "CaselessDict") 476 (.ref 174), kv P (S "_escape_char") 486 (.ref 185), kv P (S "NAME") 511 (.ref 190), kv P (S "validate_token") 520 (.ref 197), kv P (S "param_value") 529 (.ref 203), kv P (S "UNSAFE_CHAR") 563 (.ref 208), kv P (S "QUNSAFE_CHAR") 597 (.ref 213), kv P (S "validate_param_value") 607 (.ref 221), kv P (S "QUOTABLE") 803 (.ref 226), kv P (S "dquote") 812 (.ref 234), kv P (S "q_split") 832 (.ref 242), kv P (S "q_join") 844 (.ref 250), kv P (S "Parameters") 950 (.ref 303), kv P (S "rfc_6868_unescape") 962 (.ref 312), kv P (S "rfc_6868_escape") 973 (.ref 319)]⟩ 29, ⟨[]⟩⟩
def o29_23 (P : Params) : Obj := ⟨.none, .none, .fields ⟨[.int (2) 0, .int (0) 0, .ref 37, .int (8) 0, .int (0) 0, .ref 46, .int (22) 0, .int (0) 0, .ref 54, .int (201) 0, .int (0) 0, .ref 184, .int (236) 0, .int (0) 0, .ref 196, .int (253) 0, .int (0) 0, .ref 202, .int (275) 0, .int (0) 0, .ref 220, .int (294) 0, .int (0) 0, .ref 233, .int (315) 0, .int (0) 0, .ref 241, .int (360) 0, .int (0) 0, .ref 249, .int (385) 0, .int (0) 0, .ref 257, .int (528) 0, .int (0) 0, .ref 311, .int (544) 0, .int (0) 0, .ref 318]⟩, ⟨[]⟩⟩
def o313_23 (P : Params) : Obj := ⟨.type "tuple", .none, .seq ⟨[]⟩ 0, ⟨[]⟩⟩
def o314_23 (P : Params) : Obj := ⟨.none, .none, .fields ⟨[]⟩, ⟨[]⟩⟩
def o315_23 (P : Params) : Obj := ⟨.type "tuple", .none, .seq ⟨[.str (S "param_value") 966, .str (S "replacements") 967, .str (S "result") 968, .str (S "char") 969]⟩ 0, ⟨[]⟩⟩
def o316_23 (P : Params) : Obj := ⟨.type "tuple", .none, .seq ⟨[]⟩ 0, ⟨[]⟩⟩
def o317_23 (P : Params) : Obj := ⟨.none, .none, .func (fn (st 23) (S "rfc_6868_escape") 0 [] (.none) (.none) (.none) (.none) .none (.none) (.none) 0), ⟨[]⟩⟩
def o318_23 (P : Params) : Obj := ⟨.type "code", .none, .fields ⟨[.str (S "rfc_6868_escape") 963, .str (S "rfc_6868_escape") 964, .str (S "/claim/cut.py") 965, .int (544) 0, .int (1) 0, .int (0) 0, .int (0) 0, .int (3) 0, .ref 313, .bool true, .int (276) 0, .ref 314, .none, .ref 315, .ref 316, .ref 317, .int (970) 0, .int (544) 0, .str (S "/claim/cut.py") 971]⟩, ⟨[]⟩⟩
def o319_23 (P : Params) : Obj := ⟨.type "function", .none, .func (fn (st 23) (S "rfc_6868_escape") 3 [] (.none) (.none) (.str (dS (st 23)) 972) (.str (S "icalendar.parser.parameter") 521) .none (.ref 318) (.none) 0), ⟨[]⟩⟩
def T23 (P : Params) : BT := (((((((((T22 P).set 3 (fun _ => o3_23 P)).set 29 (fun _ => o29_23 P)).ins 313 (o313_23 P)).ins 314 (o314_23 P)).ins 315 (o315_23 P)).ins 316 (o316_23 P)).ins 317 (o317_23 P)).ins 318 (o318_23 P)).ins 319 (o319_23 P)
def o3_24 (P : Params) : Obj := ⟨.type "dict", .none, .dict ⟨[kv P (S "__name__") 165 (.str (S "icalendar.parser.property") 974), kv P (S "__doc__") 166 (.none), kv P (S "__package__") 167 (.none), kv P (S "__loader__") 168 (.builtin "__main__.__loader__#opaque"), kv P (S "__spec__") 169 (.none), kv P (S "__annotations__") 170 (.ref 6), kv P (S "__builtins__") 171 (.ref 4), kv P (S "__file__") 173 (.str (S "/claim/cut.py") 172), kv P (S "__cached__") 174 (.none), kv P (S "_sre") 275 (.ref 12), kv P (S "_wall") 288 (.ref 38), kv P (S "SEQUENCE_TYPES") 291 (.ref 39), kv P (S "DEFAULT_ENCODING") 293 (.str (S "utf-8") 292), kv P (S "to_unicode") 303 (.ref 47), kv P (S "CaselessDict") 476 (.ref 174), kv P (S "_escape_char") 486 (.ref 185), kv P (S "NAME") 511 (.ref 190), kv P (S "validate_token") 520 (.ref 197), kv P (S "param_value") 529 (.ref 203), kv P (S "UNSAFE_CHAR") 563 (.ref 208), kv P (S "QUNSAFE_CHAR") 597 (.ref 213), kv P (S "validate_param_value") 607 (.ref 221), kv P (S "QUOTABLE") 803 (.ref 226), kv P (S "dquote") 812 (.ref 234), kv P (S "q_split") 832 (.ref 242), kv P (S "q_join") 844 (.ref 250), kv P (S "Parameters") 950 (.ref 303), kv P (S "rfc_6868_unescape") 962 (.ref 312), kv P (S "rfc_6868_escape") 973 (.ref 319)]⟩ 29, ⟨[]⟩⟩
def T24 (P : Params) : BT := (T23 P).set 3 (fun _ => o3_24 P)
def o3_25 (P : Params) : Obj := ⟨.type "dict", .none, .dict ⟨[kv P (S "__name__") 165 (.str (S "icalendar.parser.property") 974), kv P (S "__doc__") 166 (.none), kv P (S "__package__") 167 (.none), kv P (S "__loader__") 168 (.builtin "__main__.__loader__#opaque"), kv P (S "__spec__") 169 (.none), kv P (S "__annotations__") 170 (.ref 6), kv P (S "__builtins__") 171 (.ref 4), kv P (S "__file__") 173 (.str (S "/claim/cut.py") 172), kv P (S "__cached__") 174 (.none), kv P (S "_sre") 275 (.ref 12), kv P (S "_wall") 288 (.ref 38), kv P (S "SEQUENCE_TYPES") 291 (.ref 39), kv P (S "DEFAULT_ENCODING") 293 (.str (S "utf-8") 292), kv P (S "to_unicode") 303 (.ref 47), kv P (S "CaselessDict") 476 (.ref 174), kv P (S "_escape_char") 486 (.ref 185), kv P (S "NAME") 511 (.ref 190), kv P (S "validate_token") 520 (.ref 197), kv P (S "param_value") 529 (.ref 203), kv P (S "UNSAFE_CHAR") 563 (.ref 208), kv P (S "QUNSAFE_CHAR") 597 (.ref 213), kv P (S "validate_param_value") 607 (.ref 221), kv P (S "QUOTABLE") 803 (.ref 226), kv P (S "dquote") 812 (.ref 234), kv P (S "q_split") 832 (.ref 242), kv P (S "q_join") 844 (.ref 250), kv P (S "Parameters") 950 (.ref 303), kv P (S "rfc_6868_unescape") 962 (.ref 312), kv P (S "rfc_6868_escape") 973 (.ref 319), kv P (S "unescape_backslash") 985 (.ref 326)]⟩ 30, ⟨[]⟩⟩
def o29_25 (P : Params) : Obj := ⟨.none, .none, .fields ⟨[.int (2) 0, .int (0) 0, .ref 37, .int (8) 0, .int (0) 0, .ref 46, .int (22) 0, .int (0) 0, .ref 54, .int (201) 0, .int (0) 0, .ref 184, .int (236) 0, .int (0) 0, .ref 196, .int (253) 0, .int (0) 0, .ref 202, .int (275) 0, .int (0) 0, .ref 220, .int (294) 0, .int (0) 0, .ref 233, .int (315) 0, .int (0) 0, .ref 241, .int (360) 0, .int (0) 0, .ref 249, .int (385) 0, .int (0) 0, .ref 257, .int (528) 0, .int (0) 0, .ref 311, .int (544) 0, .int (0) 0, .ref 318, .int (557) 0, .int (0) 0, .ref 325]⟩, ⟨[]⟩⟩
def o320_25 (P : Params) : Obj := ⟨.type "tuple", .none, .seq ⟨[]⟩ 0, ⟨[]⟩⟩
def o321_25 (P : Params) : Obj := ⟨.none, .none, .fields ⟨[]⟩, ⟨[]⟩⟩
def o322_25 (P : Params) : Obj := ⟨.type "tuple", .none, .seq ⟨[.str (S "val") 979, .str (S "result") 980, .str (S "i") 981]⟩ 0, ⟨[]⟩⟩
def o323_25 (P : Params) : Obj := ⟨.type "tuple", .none, .seq ⟨[]⟩ 0, ⟨[]⟩⟩
def o324_25 (P : Params) : Obj := ⟨.none, .none, .func (fn (st 25) (S "unescape_backslash") 0 [] (.none) (.none) (.none) (.none) .none (.none) (.none) 0), ⟨[]⟩⟩
def o325_25 (P : Params) : Obj := ⟨.type "code", .none, .fields ⟨[.str (S "unescape_backslash") 976, .str (S "unescape_backslash") 977, .str (S "/claim/cut.py") 978, .int (557) 0, .int (1) 0, .int (0) 0, .int (0) 0, .int (3) 0, .ref 320, .bool true, .int (276) 0, .ref 321, .none, .ref 322, .ref 323, .ref 324, .int (982) 0, .int (557) 0, .str (S "/claim/cut.py") 983]⟩, ⟨[]⟩⟩
def o326_25 (P : Params) : Obj := ⟨.type "function", .none, .func (fn (st 25) (S "unescape_backslash") 3 [] (.none) (.none) (.str (dS (st 25)) 984) (.str (S "icalendar.parser.property") 974) .none (.ref 325) (.none) 0), ⟨[]⟩⟩
def T25 (P : Params) : BT := (((((((((T24 P).set 3 (fun _ => o3_25 P)).set 29 (fun _ => o29_25 P)).ins 320 (o320_25 P)).ins 321 (o321_25 P)).ins 322 (o322_25 P)).ins 323 (o323_25 P)).ins 324 (o324_25 P)).ins 325 (o325_25 P)).ins 326 (o326_25 P)
def o3_26 (P : Params) : Obj := ⟨.type "dict", .none, .dict ⟨[kv P (S "__name__") 165 (.str (S "icalendar.parser.property") 974), kv P (S "__doc__") 166 (.none), kv P (S "__package__") 167 (.none), kv P (S "__loader__") 168 (.builtin "__main__.__loader__#opaque"), kv P (S "__spec__") 169 (.none), kv P (S "__annotations__") 170 (.ref 6), kv P (S "__builtins__") 171 (.ref 4), kv P (S "__file__") 173 (.str (S "/claim/cut.py") 172), kv P (S "__cached__") 174 (.none), kv P (S "_sre") 275 (.ref 12), kv P (S "_wall") 288 (.ref 38), kv P (S "SEQUENCE_TYPES") 291 (.ref 39), kv P (S "DEFAULT_ENCODING") 293 (.str (S "utf-8") 292), kv P (S "to_unicode") 303 (.ref 47), kv P (S "CaselessDict") 476 (.ref 174), kv P (S "_escape_char") 486 (.ref 185), kv P (S "NAME") 511 (.ref 190), kv P (S "validate_token") 520 (.ref 197), kv P (S "param_value") 529 (.ref 203), kv P (S "UNSAFE_CHAR") 563 (.ref 208), kv P (S "QUNSAFE_CHAR") 597 (.ref 213), kv P (S "validate_param_value") 607 (.ref 221), kv P (S "QUOTABLE") 803 (.ref 226), kv P (S "dquote") 812 (.ref 234), kv P (S "q_split") 832 (.ref 242), kv P (S "q_join") 844 (.ref 250), kv P (S "Parameters") 950 (.ref 303), kv P (S "rfc_6868_unescape") 962 (.ref 312), kv P (S "rfc_6868_escape") 973 (.ref 319), kv P (S "unescape_backslash") 985 (.ref 326), kv P (S "split_on_unescaped_comma") 996 (.ref 333)]⟩ 31, ⟨[]⟩⟩
def o29_26 (P : Params) : Obj := ⟨.none, .none, .fields ⟨[.int (2) 0, .int (0) 0, .ref 37, .int (8) 0, .int (0) 0, .ref 46, .int (22) 0, .int (0) 0, .ref 54, .int (201) 0, .int (0) 0, .ref 184, .int (236) 0, .int (0) 0, .ref 196, .int (253) 0, .int (0) 0, .ref 202, .int (275) 0, .int (0) 0, .ref 220, .int (294) 0, .int (0) 0, .ref 233, .int (315) 0, .int (0) 0, .ref 241, .int (360) 0, .int (0) 0, .ref 249, .int (385) 0, .int (0) 0, .ref 257, .int (528) 0, .int (0) 0, .ref 311, .int (544) 0, .int (0) 0, .ref 318, .int (557) 0, .int (0) 0, .ref 325, .int (576) 0, .int (0) 0, .ref 332]⟩, ⟨[]⟩⟩
def o327_26 (P : Params) : Obj := ⟨.type "tuple", .none, .seq ⟨[]⟩ 0, ⟨[]⟩⟩
def o328_26 (P : Params) : Obj := ⟨.none, .none, .fields ⟨[]⟩, ⟨[]⟩⟩
def o329_26 (P : Params) : Obj := ⟨.type "tuple", .none, .seq ⟨[.str (S "text") 989, .str (S "result") 990, .str (S "current") 991, .str (S "i") 992]⟩ 0, ⟨[]⟩⟩
def o330_26 (P : Params) : Obj := ⟨.type "tuple", .none, .seq ⟨[]⟩ 0, ⟨[]⟩⟩
def o331_26 (P : Params) : Obj := ⟨.none, .none, .func (fn (st 26) (S "split_on_unescaped_comma") 0 [] (.none) (.none) (.none) (.none) .none (.none) (.none) 0), ⟨[]⟩⟩
def o332_26 (P : Params) : Obj := ⟨.type "code", .none, .fields ⟨[.str (S "split_on_unescaped_comma") 986, .str (S "split_on_unescaped_comma") 987, .str (S "/claim/cut.py") 988, .int (576) 0, .int (1) 0, .int (0) 0, .int (0) 0, .int (3) 0, .ref 327, .bool true, .int (276) 0, .ref 328, .none, .ref 329, .ref 330, .ref 331, .int (993) 0, .int (576) 0, .str (S "/claim/cut.py") 994]⟩, ⟨[]⟩⟩
def o333_26 (P : Params) : Obj := ⟨.type "function", .none, .func (fn (st 26) (S "split_on_unescaped_comma") 3 [] (.none) (.none) (.str (dS (st 26)) 995) (.str (S "icalendar.parser.property") 974) .none (.ref 332) (.none) 0), ⟨[]⟩⟩
def T26 (P : Params) : BT := (((((((((T25 P).set 3 (fun _ => o3_26 P)).set 29 (fun _ => o29_26 P)).ins 327 (o327_26 P)).ins 328 (o328_26 P)).ins 329 (o329_26 P)).ins 330 (o330_26 P)).ins 331 (o331_26 P)).ins 332 (o332_26 P)).ins 333 (o333_26 P)
def o3_27 (P : Params) : Obj := ⟨.type "dict", .none, .dict ⟨[kv P (S "__name__") 165 (.str (S "icalendar.parser.property") 974), kv P (S "__doc__") 166 (.none), kv P (S "__package__") 167 (.none), kv P (S "__loader__") 168 (.builtin "__main__.__loader__#opaque"), kv P (S "__spec__") 169 (.none), kv P (S "__annotations__") 170 (.ref 6), kv P (S "__builtins__") 171 (.ref 4), kv P (S "__file__") 173 (.str (S "/claim/cut.py") 172), kv P (S "__cached__") 174 (.none), kv P (S "_sre") 275 (.ref 12), kv P (S "_wall") 288 (.ref 38), kv P (S "SEQUENCE_TYPES") 291 (.ref 39), kv P (S "DEFAULT_ENCODING") 293 (.str (S "utf-8") 292), kv P (S "to_unicode") 303 (.ref 47), kv P (S "CaselessDict") 476 (.ref 174), kv P (S "_escape_char") 486 (.ref 185), kv P (S "NAME") 511 (.ref 190), kv P (S "validate_token") 520 (.ref 197), kv P (S "param_value") 529 (.ref 203), kv P (S "UNSAFE_CHAR") 563 (.ref 208), kv P (S "QUNSAFE_CHAR") 597 (.ref 213), kv P (S "validate_param_value") 607 (.ref 221), kv P (S "QUOTABLE") 803 (.ref 226), kv P (S "dquote") 812 (.ref 234), kv P (S "q_split") 832 (.ref 242), kv P (S "q_join") 844 (.ref 250), kv P (S "Parameters") 950 (.ref 303), kv P (S "rfc_6868_unescape") 962 (.ref 312), kv P (S "rfc_6868_escape") 973 (.ref 319), kv P (S "unescape_backslash") 985 (.ref 326), kv P (S "split_on_unescaped_comma") 996 (.ref 333), kv P (S "split_on_unescaped_semicolon") 1007 (.ref 340)]⟩ 32, ⟨[]⟩⟩
def o29_27 (P : Params) : Obj := ⟨.none, .none, .fields ⟨[.int (2) 0, .int (0) 0, .ref 37, .int (8) 0, .int (0) 0, .ref 46, .int (22) 0, .int (0) 0, .ref 54, .int (201) 0, .int (0) 0, .ref 184, .int (236) 0, .int (0) 0, .ref 196, .int (253) 0, .int (0) 0, .ref 202, .int (275) 0, .int (0) 0, .ref 220, .int (294) 0, .int (0) 0, .ref 233, .int (315) 0, .int (0) 0, .ref 241, .int (360) 0, .int (0) 0, .ref 249, .int (385) 0, .int (0) 0, .ref 257, .int (528) 0, .int (0) 0, .ref 311, .int (544) 0, .int (0) 0, .ref 318, .int (557) 0, .int (0) 0, .ref 325, .int (576) 0, .int (0) 0, .ref 332, .int (620) 0, .int (0) 0, .ref 339]⟩, ⟨[]⟩⟩
def o334_27 (P : Params) : Obj := ⟨.type "tuple", .none, .seq ⟨[]⟩ 0, ⟨[]⟩⟩
def o335_27 (P : Params) : Obj := ⟨.none, .none, .fields ⟨[]⟩, ⟨[]⟩⟩
def o336_27 (P : Params) : Obj := ⟨.type "tuple", .none, .seq ⟨[.str (S "text") 1000, .str (S "result") 1001, .str (S "current") 1002, .str (S "i") 1003]⟩ 0, ⟨[]⟩⟩
def o337_27 (P : Params) : Obj := ⟨.type "tuple", .none, .seq ⟨[]⟩ 0, ⟨[]⟩⟩
def o338_27 (P : Params) : Obj := ⟨.none, .none, .func (fn (st 27) (S "split_on_unescaped_semicolon") 0 [] (.none) (.none) (.none) (.none) .none (.none) (.none) 0), ⟨[]⟩⟩
def o339_27 (P : Params) : Obj := ⟨.type "code", .none, .fields ⟨[.str (S "split_on_unescaped_semicolon") 997, .str (S "split_on_unescaped_semicolon") 998, .str (S "/claim/cut.py") 999, .int (620) 0, .int (1) 0, .int (0) 0, .int (0) 0, .int (3) 0, .ref 334, .bool true, .int (276) 0, .ref 335, .none, .ref 336, .ref 337, .ref 338, .int (1004) 0, .int (620) 0, .str (S "/claim/cut.py") 1005]⟩, ⟨[]⟩⟩
def o340_27 (P : Params) : Obj := ⟨.type "function", .none, .func (fn (st 27) (S "split_on_unescaped_semicolon") 3 [] (.none) (.none) (.str (dS (st 27)) 1006) (.str (S "icalendar.parser.property") 974) .none (.ref 339) (.none) 0), ⟨[]⟩⟩
def T27 (P : Params) : BT := (((((((((T26 P).set 3 (fun _ => o3_27 P)).set 29 (fun _ => o29_27 P)).ins 334 (o334_27 P)).ins 335 (o335_27 P)).ins 336 (o336_27 P)).ins 337 (o337_27 P)).ins 338 (o338_27 P)).ins 339 (o339_27 P)).ins 340 (o340_27 P)
def o3_28 (P : Params) : Obj := ⟨.type "dict", .none, .dict ⟨[kv P (S "__name__") 165 (.str (S "icalendar.prop.text") 1008), kv P (S "__doc__") 166 (.none), kv P (S "__package__") 167 (.none), kv P (S "__loader__") 168 (.builtin "__main__.__loader__#opaque"), kv P (S "__spec__") 169 (.none), kv P (S "__annotations__") 170 (.ref 6), kv P (S "__builtins__") 171 (.ref 4), kv P (S "__file__") 173 (.str (S "/claim/cut.py") 172), kv P (S "__cached__") 174 (.none), kv P (S "_sre") 275 (.ref 12), kv P (S "_wall") 288 (.ref 38), kv P (S "SEQUENCE_TYPES") 291 (.ref 39), kv P (S "DEFAULT_ENCODING") 293 (.str (S "utf-8") 292), kv P (S "to_unicode") 303 (.ref 47), kv P (S "CaselessDict") 476 (.ref 174), kv P (S "_escape_char") 486 (.ref 185), kv P (S "NAME") 511 (.ref 190), kv P (S "validate_token") 520 (.ref 197), kv P (S "param_value") 529 (.ref 203), kv P (S "UNSAFE_CHAR") 563 (.ref 208), kv P (S "QUNSAFE_CHAR") 597 (.ref 213), kv P (S "validate_param_value") 607 (.ref 221), kv P (S "QUOTABLE") 803 (.ref 226), kv P (S "dquote") 812 (.ref 234), kv P (S "q_split") 832 (.ref 242), kv P (S "q_join") 844 (.ref 250), kv P (S "Parameters") 950 (.ref 303), kv P (S "rfc_6868_unescape") 962 (.ref 312), kv P (S "rfc_6868_escape") 973 (.ref 319), kv P (S "unescape_backslash") 985 (.ref 326), kv P (S "split_on_unescaped_comma") 996 (.ref 333), kv P (S "split_on_unescaped_semicolon") 1007 (.ref 340)]⟩ 32, ⟨[]⟩⟩
def T28 (P : Params) : BT := (T27 P).set 3 (fun _ => o3_28 P)
def o2_29 (P : Params) : Obj := ⟨.none, .none, .dict ⟨[kv P (S "\x69mport.loaded._sre") 183 (.bool true), kv P (S "class._frozen_importlib.BuiltinImporter") 185 (.ref 14), kv P (S "watched.\x69mport") 206 (.ref 18), kv P (S "class._frozen_importlib.ModuleSpec") 216 (.ref 22), kv P (S "sys.modules.booked-epoch") 245 (.int (3) 0), kv P (S "\x69mport.later-laid._sre") 270 (.bool true), kv P (S "watched.library") 272 (.ref 27), kv P (S "watched.library-objects") 0 (.str (S "\x0c") 0), kv P (S "watched.library-deep._sre") 273 (.str (S "\x04\x00\x00\x0b\x04\x00\x00\x0b\x04\x00\x00\x03\x04\x00\x00\x0b\x08\x04dict\x02") 0), kv P (S "type.__subclasses__.str.0") 1086 (.int (387) 0), kv P (S "type.__subclasses__.str.n") 1087 (.int (1) 0)]⟩ 11, ⟨[]⟩⟩
def o3_29 (P : Params) : Obj := ⟨.type "dict", .none, .dict ⟨[kv P (S "__name__") 165 (.str (S "icalendar.prop.text") 1008), kv P (S "__doc__") 166 (.none), kv P (S "__package__") 167 (.none), kv P (S "__loader__") 168 (.builtin "__main__.__loader__#opaque"), kv P (S "__spec__") 169 (.none), kv P (S "__annotations__") 170 (.ref 6), kv P (S "__builtins__") 171 (.ref 4), kv P (S "__file__") 173 (.str (S "/claim/cut.py") 172), kv P (S "__cached__") 174 (.none), kv P (S "_sre") 275 (.ref 12), kv P (S "_wall") 288 (.ref 38), kv P (S "SEQUENCE_TYPES") 291 (.ref 39), kv P (S "DEFAULT_ENCODING") 293 (.str (S "utf-8") 292), kv P (S "to_unicode") 303 (.ref 47), kv P (S "CaselessDict") 476 (.ref 174), kv P (S "_escape_char") 486 (.ref 185), kv P (S "NAME") 511 (.ref 190), kv P (S "validate_token") 520 (.ref 197), kv P (S "param_value") 529 (.ref 203), kv P (S "UNSAFE_CHAR") 563 (.ref 208), kv P (S "QUNSAFE_CHAR") 597 (.ref 213), kv P (S "validate_param_value") 607 (.ref 221), kv P (S "QUOTABLE") 803 (.ref 226), kv P (S "dquote") 812 (.ref 234), kv P (S "q_split") 832 (.ref 242), kv P (S "q_join") 844 (.ref 250), kv P (S "Parameters") 950 (.ref 303), kv P (S "rfc_6868_unescape") 962 (.ref 312), kv P (S "rfc_6868_escape") 973 (.ref 319), kv P (S "unescape_backslash") 985 (.ref 326), kv P (S "split_on_unescaped_comma") 996 (.ref 333), kv P (S "split_on_unescaped_semicolon") 1007 (.ref 340), kv P (S "vText") 1089 (.ref 387)]⟩ 33, ⟨[]⟩⟩
def o29_29 (P : Params) : Obj := ⟨.none, .none, .fields ⟨[.int (2) 0, .int (0) 0, .ref 37, .int (8) 0, .int (0) 0, .ref 46, .int (22) 0, .int (0) 0, .ref 54, .int (201) 0, .int (0) 0, .ref 184, .int (236) 0, .int (0) 0, .ref 196, .int (253) 0, .int (0) 0, .ref 202, .int (275) 0, .int (0) 0, .ref 220, .int (294) 0, .int (0) 0, .ref 233, .int (315) 0, .int (0) 0, .ref 241, .int (360) 0, .int (0) 0, .ref 249, .int (385) 0, .int (0) 0, .ref 257, .int (528) 0, .int (0) 0, .ref 311, .int (544) 0, .int (0) 0, .ref 318, .int (557) 0, .int (0) 0, .ref 325, .int (576) 0, .int (0) 0, .ref 332, .int (620) 0, .int (0) 0, .ref 339, .int (666) 0, .int (0) 0, .ref 347]⟩, ⟨[]⟩⟩
def o341_29 (P : Params) : Obj := ⟨.type "tuple", .none, .seq ⟨[.type "str"]⟩ 0, ⟨[]⟩⟩
def o342_29 (P : Params) : Obj := ⟨.type "builtin_function_or_method", .none, .fields ⟨[.builtin "type.__prepare__", .type "type"]⟩, ⟨[]⟩⟩
def o343_29 (P : Params) : Obj := ⟨.type "dict", .none, .dict ⟨[kv P (S "__module__") 1017 (.str (S "icalendar.prop.text") 1008), kv P (S "__qualname__") 1019 (.str (S "vText") 1018), kv P (S "__firstlineno__") 1021 (.int (666) 1020), kv P (S "__doc__") 1023 (.str (dS (st 29)) 1022), kv P (S "default_value") 1026 (.str (S "TEXT") 1025), kv P (S "__slots__") 1029 (.ref 349), kv P (S "__new__") 1041 (.ref 358), kv P (S "to_ical") 1048 (.ref 365), kv P (S "from_ical") 1068 (.ref 374), kv P (S "ical_value") 1076 (.ref 383), kv P (S "__static_attributes__") 1079 (.ref 384), kv P (S "__classcell__") 1080 (.ref 344)]⟩ 12, ⟨[]⟩⟩
def o344_29 (P : Params) : Obj := ⟨.type "cell", .none, .cell (.some (.ref 387)), ⟨[]⟩⟩
def o345_29 (P : Params) : Obj := ⟨.type "tuple", .none, .seq ⟨[]⟩ 0, ⟨[]⟩⟩
def o346_29 (P : Params) : Obj := ⟨.none, .none, .fields ⟨[.int (732) 0, .int (4) 0, .ref 357, .int (739) 0, .int (4) 0, .ref 364, .int (743) 0, .int (4) 0, .ref 371, .int (747) 0, .int (4) 0, .ref 381]⟩, ⟨[]⟩⟩
def o347_29 (P : Params) : Obj := ⟨.type "code", .none, .fields ⟨[.str (S "vText") 1012, .str (S "vText") 1013, .str (S "/claim/cut.py") 1014, .int (666) 0, .int (0) 0, .int (0) 0, .int (0) 0, .int (0) 0, .ref 345, .bool false, .int (276) 0, .ref 346, .none, .none, .none, .none, .int (1015) 0, .int (666) 0, .str (S "/claim/cut.py") 1016]⟩, ⟨[]⟩⟩
def o348_29 (P : Params) : Obj := ⟨.type "frame", .none, .plain, ⟨[(.some (.ref 347)), (.some (.ref 3)), (.some (.ref 343)), .none, (.some (.str (S "icalendar.prop.text") 1008)), .none, (.some (.ref 0))]⟩⟩
def o349_29 (P : Params) : Obj := ⟨.type "tuple", .none, .seq ⟨[.str (S "encoding") 1027, .str (S "params") 1028]⟩ 0, ⟨[]⟩⟩
def o350_29 (P : Params) : Obj := ⟨.type "tuple", .none, .seq ⟨[.str (S "utf-8") 292, .none]⟩ 0, ⟨[]⟩⟩
def o351_29 (P : Params) : Obj := ⟨.type "tuple", .none, .seq ⟨[.ref 344]⟩ 0, ⟨[]⟩⟩
def o352_29 (P : Params) : Obj := ⟨.type "tuple", .none, .seq ⟨[.str (S "__class__") 1033]⟩ 0, ⟨[]⟩⟩
def o353_29 (P : Params) : Obj := ⟨.none, .none, .fields ⟨[]⟩, ⟨[]⟩⟩
def o354_29 (P : Params) : Obj := ⟨.type "tuple", .none, .seq ⟨[.str (S "cls") 1034, .str (S "value") 1035, .str (S "encoding") 1036, .str (S "params") 1037, .str (S "self") 1038]⟩ 0, ⟨[]⟩⟩
def o355_29 (P : Params) : Obj := ⟨.type "tuple", .none, .seq ⟨[]⟩ 0, ⟨[]⟩⟩
def o356_29 (P : Params) : Obj := ⟨.none, .none, .func (fn (su 29 3) (S "vText.__new__") 0 [] (.none) (.none) (.none) (.none) .none (.none) (.none) 0), ⟨[]⟩⟩
def o357_29 (P : Params) : Obj := ⟨.type "code", .none, .fields ⟨[.str (S "__new__") 1030, .str (S "vText.__new__") 1031, .str (S "/claim/cut.py") 1032, .int (732) 0, .int (4) 0, .int (0) 0, .int (0) 0, .int (3) 0, .ref 352, .bool true, .int (276) 0, .ref 353, .none, .ref 354, .ref 355, .ref 356, .int (1039) 0, .int (732) 0, .str (S "/claim/cut.py") 1040]⟩, ⟨[]⟩⟩
def o358_29 (P : Params) : Obj := ⟨.type "function", .none, .func (fn (su 29 3) (S "vText.__new__") 3 [((S "__class__"), 344)] (.ref 350) (.none) (.none) (.str (S "icalendar.prop.text") 1008) .none (.ref 357) (.ref 351) 0), ⟨[]⟩⟩
def o359_29 (P : Params) : Obj := ⟨.type "tuple", .none, .seq ⟨[]⟩ 0, ⟨[]⟩⟩
def o360_29 (P : Params) : Obj := ⟨.none, .none, .fields ⟨[]⟩, ⟨[]⟩⟩
def o361_29 (P : Params) : Obj := ⟨.type "tuple", .none, .seq ⟨[.str (S "self") 1045]⟩ 0, ⟨[]⟩⟩
def o362_29 (P : Params) : Obj := ⟨.type "tuple", .none, .seq ⟨[]⟩ 0, ⟨[]⟩⟩
def o363_29 (P : Params) : Obj := ⟨.none, .none, .func (fn (su 29 4) (S "vText.to_ical") 0 [] (.none) (.none) (.none) (.none) .none (.none) (.none) 0), ⟨[]⟩⟩
def o364_29 (P : Params) : Obj := ⟨.type "code", .none, .fields ⟨[.str (S "to_ical") 1042, .str (S "vText.to_ical") 1043, .str (S "/claim/cut.py") 1044, .int (739) 0, .int (1) 0, .int (0) 0, .int (0) 0, .int (3) 0, .ref 359, .bool true, .int (276) 0, .ref 360, .none, .ref 361, .ref 362, .ref 363, .int (1046) 0, .int (739) 0, .str (S "/claim/cut.py") 1047]⟩, ⟨[]⟩⟩
def o365_29 (P : Params) : Obj := ⟨.type "function", .none, .func (fn (su 29 4) (S "vText.to_ical") 3 [] (.none) (.none) (.none) (.str (S "icalendar.prop.text") 1008) .none (.ref 364) (.none) 0), ⟨[]⟩⟩
def o366_29 (P : Params) : Obj := ⟨.type "tuple", .none, .seq ⟨[]⟩ 0, ⟨[]⟩⟩
def o367_29 (P : Params) : Obj := ⟨.none, .none, .fields ⟨[]⟩, ⟨[]⟩⟩
def o368_29 (P : Params) : Obj := ⟨.type "tuple", .none, .seq ⟨[.str (S "cls") 1052, .str (S "ical") 1053]⟩ 0, ⟨[]⟩⟩
def o369_29 (P : Params) : Obj := ⟨.type "tuple", .none, .seq ⟨[]⟩ 0, ⟨[]⟩⟩
def o370_29 (P : Params) : Obj := ⟨.none, .none, .func (fn (su 29 5) (S "vText.from_ical") 0 [] (.none) (.none) (.none) (.none) .none (.none) (.none) 0), ⟨[]⟩⟩
def o371_29 (P : Params) : Obj := ⟨.type "code", .none, .fields ⟨[.str (S "from_ical") 1049, .str (S "vText.from_ical") 1050, .str (S "/claim/cut.py") 1051, .int (742) 0, .int (2) 0, .int (0) 0, .int (0) 0, .int (3) 0, .ref 366, .bool true, .int (276) 0, .ref 367, .none, .ref 368, .ref 369, .ref 370, .int (1054) 0, .int (742) 0, .str (S "/claim/cut.py") 1055]⟩, ⟨[]⟩⟩
def o372_29 (P : Params) : Obj := ⟨.type "function", .none, .func (fn (su 29 5) (S "vText.from_ical") 3 [] (.none) (.none) (.none) (.str (S "icalendar.prop.text") 1008) (.some (375)) (.ref 371) (.none) 0), ⟨[]⟩⟩
def o373_29 (P : Params) : Obj := ⟨.type "dict", .none, .dict ⟨[kv P (S "__module__") 1057 (.str (S "icalendar.prop.text") 1008), kv P (S "__name__") 1060 (.str (S "from_ical") 1059), kv P (S "__qualname__") 1063 (.str (S "vText.from_ical") 1062), kv P (S "__doc__") 1065 (.none), kv P (S "__annotations__") 1067 (.ref 375)]⟩ 5, ⟨[]⟩⟩
def o374_29 (P : Params) : Obj := ⟨.type "classmethod", (.some (373)), .fields ⟨[.ref 372, .bool false]⟩, ⟨[]⟩⟩
def o375_29 (P : Params) : Obj := ⟨.type "dict", .none, .dict ⟨[]⟩ 0, ⟨[]⟩⟩
def o376_29 (P : Params) : Obj := ⟨.type "tuple", .none, .seq ⟨[]⟩ 0, ⟨[]⟩⟩
def o377_29 (P : Params) : Obj := ⟨.none, .none, .fields ⟨[]⟩, ⟨[]⟩⟩
def o378_29 (P : Params) : Obj := ⟨.type "tuple", .none, .seq ⟨[.str (S "self") 1072]⟩ 0, ⟨[]⟩⟩
def o379_29 (P : Params) : Obj := ⟨.type "tuple", .none, .seq ⟨[]⟩ 0, ⟨[]⟩⟩
def o380_29 (P : Params) : Obj := ⟨.none, .none, .func (fn (su 29 6) (S "vText.ical_value") 0 [] (.none) (.none) (.none) (.none) .none (.none) (.none) 0), ⟨[]⟩⟩
def o381_29 (P : Params) : Obj := ⟨.type "code", .none, .fields ⟨[.str (S "ical_value") 1069, .str (S "vText.ical_value") 1070, .str (S "/claim/cut.py") 1071, .int (746) 0, .int (1) 0, .int (0) 0, .int (0) 0, .int (3) 0, .ref 376, .bool true, .int (276) 0, .ref 377, .none, .ref 378, .ref 379, .ref 380, .int (1073) 0, .int (746) 0, .str (S "/claim/cut.py") 1074]⟩, ⟨[]⟩⟩
def o382_29 (P : Params) : Obj := ⟨.type "function", .none, .func (fn (su 29 6) (S "vText.ical_value") 3 [] (.none) (.none) (.none) (.str (S "icalendar.prop.text") 1008) .none (.ref 381) (.none) 0), ⟨[]⟩⟩
def o383_29 (P : Params) : Obj := ⟨.type "property", .none, .fields ⟨[.ref 382, .none, .none, .none, .str (S "ical_value") 1076, .bool false]⟩, ⟨[]⟩⟩
def o384_29 (P : Params) : Obj := ⟨.type "tuple", .none, .seq ⟨[.str (S "encoding") 1077, .str (S "params") 1078]⟩ 0, ⟨[]⟩⟩
def o385_29 (P : Params) : Obj := ⟨.type "list", .none, .seq ⟨[.str (S "encoding") 1027, .str (S "params") 1028]⟩ 1, ⟨[]⟩⟩
def o386_29 (P : Params) : Obj := ⟨.type "dict", .none, .dict ⟨[kv P (S "__module__") 1017 (.str (S "icalendar.prop.text") 1008), kv P (S "__firstlineno__") 1021 (.int (666) 1020), kv P (S "__doc__") 1023 (.str (dS (st 29)) 1022), kv P (S "default_value") 1026 (.str (S "TEXT") 1025), kv P (S "__slots__") 1029 (.ref 349), kv P (S "__new__") 1041 (.ref 388), kv P (S "to_ical") 1048 (.ref 365), kv P (S "from_ical") 1068 (.ref 374), kv P (S "ical_value") 1076 (.ref 383), kv P (S "__static_attributes__") 1079 (.ref 384), kv P (S "encoding") 1083 (.ref 389), kv P (S "params") 1085 (.ref 390)]⟩ 4, ⟨[]⟩⟩
def o387_29 (P : Params) : Obj := ⟨.type "type", .none, .cls ⟨(S "vText"), [.type "str"], [.ref 387, .type "str", .type "object"], 386, (S "vText"), false, [(S "encoding"), (S "params")], [], false, .none, false⟩, ⟨[(.some (.ref 341)), .none, (.some (.str (S "vText") 1010)), (.some (.str (S "vText") 1018)), (.some (.none)), (.some (.bool false))]⟩⟩
def o388_29 (P : Params) : Obj := ⟨.type "staticmethod", .none, .fields ⟨[.ref 358]⟩, ⟨[]⟩⟩
def o389_29 (P : Params) : Obj := ⟨.type "member_descriptor", .none, .fields ⟨[.str (S "encoding") 1082, .ref 387, .builtin "proto.slot", .builtin "proto.slot#set", .int (1) 0]⟩, ⟨[]⟩⟩
def o390_29 (P : Params) : Obj := ⟨.type "member_descriptor", .none, .fields ⟨[.str (S "params") 1084, .ref 387, .builtin "proto.slot", .builtin "proto.slot#set", .int (0) 0]⟩, ⟨[]⟩⟩
def o391_29 (P : Params) : Obj := ⟨.type "super", .none, .fields ⟨[.ref 387, .ref 387, .ref 387]⟩, ⟨[]⟩⟩
def o392_29 (P : Params) : Obj := ⟨.type "builtin_function_or_method", .none, .fields ⟨[.builtin "object.__init_subclass__", .ref 387]⟩, ⟨[]⟩⟩
def T29 (P : Params) : BT := (((((((((((((((((((((((((((((((((((((((((((((((((((((((T28 P).set 2 (fun _ => o2_29 P)).set 3 (fun _ => o3_29 P)).set 29 (fun _ => o29_29 P)).ins 341 (o341_29 P)).ins 342 (o342_29 P)).ins 343 (o343_29 P)).ins 344 (o344_29 P)).ins 345 (o345_29 P)).ins 346 (o346_29 P)).ins 347 (o347_29 P)).ins 348 (o348_29 P)).ins 349 (o349_29 P)).ins 350 (o350_29 P)).ins 351 (o351_29 P)).ins 352 (o352_29 P)).ins 353 (o353_29 P)).ins 354 (o354_29 P)).ins 355 (o355_29 P)).ins 356 (o356_29 P)).ins 357 (o357_29 P)).ins 358 (o358_29 P)).ins 359 (o359_29 P)).ins 360 (o360_29 P)).ins 361 (o361_29 P)).ins 362 (o362_29 P)).ins 363 (o363_29 P)).ins 364 (o364_29 P)).ins 365 (o365_29 P)).ins 366 (o366_29 P)).ins 367 (o367_29 P)).ins 368 (o368_29 P)).ins 369 (o369_29 P)).ins 370 (o370_29 P)).ins 371 (o371_29 P)).ins 372 (o372_29 P)).ins 373 (o373_29 P)).ins 374 (o374_29 P)).ins 375 (o375_29 P)).ins 376 (o376_29 P)).ins 377 (o377_29 P)).ins 378 (o378_29 P)).ins 379 (o379_29 P)).ins 380 (o380_29 P)).ins 381 (o381_29 P)).ins 382 (o382_29 P)).ins 383 (o383_29 P)).ins 384 (o384_29 P)).ins 385 (o385_29 P)).ins 386 (o386_29 P)).ins 387 (o387_29 P)).ins 388 (o388_29 P)).ins 389 (o389_29 P)).ins 390 (o390_29 P)).ins 391 (o391_29 P)).ins 392 (o392_29 P)
def o3_30 (P : Params) : Obj := ⟨.type "dict", .none, .dict ⟨[kv P (S "__name__") 165 (.str (S "icalendar.prop.n") 1090), kv P (S "__doc__") 166 (.none), kv P (S "__package__") 167 (.none), kv P (S "__loader__") 168 (.builtin "__main__.__loader__#opaque"), kv P (S "__spec__") 169 (.none), kv P (S "__annotations__") 170 (.ref 6), kv P (S "__builtins__") 171 (.ref 4), kv P (S "__file__") 173 (.str (S "/claim/cut.py") 172), kv P (S "__cached__") 174 (.none), kv P (S "_sre") 275 (.ref 12), kv P (S "_wall") 288 (.ref 38), kv P (S "SEQUENCE_TYPES") 291 (.ref 39), kv P (S "DEFAULT_ENCODING") 293 (.str (S "utf-8") 292), kv P (S "to_unicode") 303 (.ref 47), kv P (S "CaselessDict") 476 (.ref 174), kv P (S "_escape_char") 486 (.ref 185), kv P (S "NAME") 511 (.ref 190), kv P (S "validate_token") 520 (.ref 197), kv P (S "param_value") 529 (.ref 203), kv P (S "UNSAFE_CHAR") 563 (.ref 208), kv P (S "QUNSAFE_CHAR") 597 (.ref 213), kv P (S "validate_param_value") 607 (.ref 221), kv P (S "QUOTABLE") 803 (.ref 226), kv P (S "dquote") 812 (.ref 234), kv P (S "q_split") 832 (.ref 242), kv P (S "q_join") 844 (.ref 250), kv P (S "Parameters") 950 (.ref 303), kv P (S "rfc_6868_unescape") 962 (.ref 312), kv P (S "rfc_6868_escape") 973 (.ref 319), kv P (S "unescape_backslash") 985 (.ref 326), kv P (S "split_on_unescaped_comma") 996 (.ref 333), kv P (S "split_on_unescaped_semicolon") 1007 (.ref 340), kv P (S "vText") 1089 (.ref 387)]⟩ 33, ⟨[]⟩⟩
def T30 (P : Params) : BT := (T29 P).set 3 (fun _ => o3_30 P)
def o3_31 (P : Params) : Obj := ⟨.type "dict", .none, .dict ⟨[kv P (S "__name__") 165 (.str (S "icalendar.prop.n") 1090), kv P (S "__doc__") 166 (.none), kv P (S "__package__") 167 (.none), kv P (S "__loader__") 168 (.builtin "__main__.__loader__#opaque"), kv P (S "__spec__") 169 (.none), kv P (S "__annotations__") 170 (.ref 6), kv P (S "__builtins__") 171 (.ref 4), kv P (S "__file__") 173 (.str (S "/claim/cut.py") 172), kv P (S "__cached__") 174 (.none), kv P (S "_sre") 275 (.ref 12), kv P (S "_wall") 288 (.ref 38), kv P (S "SEQUENCE_TYPES") 291 (.ref 39), kv P (S "DEFAULT_ENCODING") 293 (.str (S "utf-8") 292), kv P (S "to_unicode") 303 (.ref 47), kv P (S "CaselessDict") 476 (.ref 174), kv P (S "_escape_char") 486 (.ref 185), kv P (S "NAME") 511 (.ref 190), kv P (S "validate_token") 520 (.ref 197), kv P (S "param_value") 529 (.ref 203), kv P (S "UNSAFE_CHAR") 563 (.ref 208), kv P (S "QUNSAFE_CHAR") 597 (.ref 213), kv P (S "validate_param_value") 607 (.ref 221), kv P (S "QUOTABLE") 803 (.ref 226), kv P (S "dquote") 812 (.ref 234), kv P (S "q_split") 832 (.ref 242), kv P (S "q_join") 844 (.ref 250), kv P (S "Parameters") 950 (.ref 303), kv P (S "rfc_6868_unescape") 962 (.ref 312), kv P (S "rfc_6868_escape") 973 (.ref 319), kv P (S "unescape_backslash") 985 (.ref 326), kv P (S "split_on_unescaped_comma") 996 (.ref 333), kv P (S "split_on_unescaped_semicolon") 1007 (.ref 340), kv P (S "vText") 1089 (.ref 387), kv P (S "_tuplegetter") 1148 (.ref 431)]⟩ 34, ⟨[]⟩⟩
def o29_31 (P : Params) : Obj := ⟨.none, .none, .fields ⟨[.int (2) 0, .int (0) 0, .ref 37, .int (8) 0, .int (0) 0, .ref 46, .int (22) 0, .int (0) 0, .ref 54, .int (201) 0, .int (0) 0, .ref 184, .int (236) 0, .int (0) 0, .ref 196, .int (253) 0, .int (0) 0, .ref 202, .int (275) 0, .int (0) 0, .ref 220, .int (294) 0, .int (0) 0, .ref 233, .int (315) 0, .int (0) 0, .ref 241, .int (360) 0, .int (0) 0, .ref 249, .int (385) 0, .int (0) 0, .ref 257, .int (528) 0, .int (0) 0, .ref 311, .int (544) 0, .int (0) 0, .ref 318, .int (557) 0, .int (0) 0, .ref 325, .int (576) 0, .int (0) 0, .ref 332, .int (620) 0, .int (0) 0, .ref 339, .int (666) 0, .int (0) 0, .ref 347, .int (750) 0, .int (0) 0, .ref 398]⟩, ⟨[]⟩⟩
def o393_31 (P : Params) : Obj := ⟨.type "tuple", .none, .seq ⟨[]⟩ 0, ⟨[]⟩⟩
def o394_31 (P : Params) : Obj := ⟨.type "builtin_function_or_method", .none, .fields ⟨[.builtin "type.__prepare__", .type "type"]⟩, ⟨[]⟩⟩
def o395_31 (P : Params) : Obj := ⟨.type "dict", .none, .dict ⟨[kv P (S "__module__") 1099 (.str (S "icalendar.prop.n") 1090), kv P (S "__qualname__") 1101 (.str (S "_tuplegetter") 1100), kv P (S "__firstlineno__") 1103 (.int (750) 1102), kv P (S "__init__") 1112 (.ref 406), kv P (S "__get__") 1121 (.ref 414), kv P (S "__set__") 1130 (.ref 421), kv P (S "__delete__") 1138 (.ref 428), kv P (S "__static_attributes__") 1141 (.ref 429)]⟩ 8, ⟨[]⟩⟩
def o396_31 (P : Params) : Obj := ⟨.type "tuple", .none, .seq ⟨[]⟩ 0, ⟨[]⟩⟩
def o397_31 (P : Params) : Obj := ⟨.none, .none, .fields ⟨[.int (752) 0, .int (4) 0, .ref 405, .int (756) 0, .int (4) 0, .ref 413, .int (763) 0, .int (4) 0, .ref 420, .int (766) 0, .int (4) 0, .ref 427]⟩, ⟨[]⟩⟩
def o398_31 (P : Params) : Obj := ⟨.type "code", .none, .fields ⟨[.str (S "_tuplegetter") 1094, .str (S "_tuplegetter") 1095, .str (S "/claim/cut.py") 1096, .int (750) 0, .int (0) 0, .int (0) 0, .int (0) 0, .int (0) 0, .ref 396, .bool false, .int (276) 0, .ref 397, .none, .none, .none, .none, .int (1097) 0, .int (750) 0, .str (S "/claim/cut.py") 1098]⟩, ⟨[]⟩⟩
def o399_31 (P : Params) : Obj := ⟨.type "frame", .none, .plain, ⟨[(.some (.ref 398)), (.some (.ref 3)), (.some (.ref 395)), .none, (.some (.str (S "icalendar.prop.n") 1090)), .none, (.some (.ref 0))]⟩⟩
def o400_31 (P : Params) : Obj := ⟨.type "tuple", .none, .seq ⟨[]⟩ 0, ⟨[]⟩⟩
def o401_31 (P : Params) : Obj := ⟨.none, .none, .fields ⟨[]⟩, ⟨[]⟩⟩
def o402_31 (P : Params) : Obj := ⟨.type "tuple", .none, .seq ⟨[.str (S "self") 1107, .str (S "index") 1108, .str (S "doc") 1109]⟩ 0, ⟨[]⟩⟩
def o403_31 (P : Params) : Obj := ⟨.type "tuple", .none, .seq ⟨[]⟩ 0, ⟨[]⟩⟩
def o404_31 (P : Params) : Obj := ⟨.none, .none, .func (fn (su 31 0) (S "_tuplegetter.__init__") 0 [] (.none) (.none) (.none) (.none) .none (.none) (.none) 0), ⟨[]⟩⟩
def o405_31 (P : Params) : Obj := ⟨.type "code", .none, .fields ⟨[.str (S "__init__") 1104, .str (S "_tuplegetter.__init__") 1105, .str (S "/claim/cut.py") 1106, .int (752) 0, .int (3) 0, .int (0) 0, .int (0) 0, .int (3) 0, .ref 400, .bool true, .int (276) 0, .ref 401, .none, .ref 402, .ref 403, .ref 404, .int (1110) 0, .int (752) 0, .str (S "/claim/cut.py") 1111]⟩, ⟨[]⟩⟩
def o406_31 (P : Params) : Obj := ⟨.type "function", .none, .func (fn (su 31 0) (S "_tuplegetter.__init__") 3 [] (.none) (.none) (.none) (.str (S "icalendar.prop.n") 1090) .none (.ref 405) (.none) 0), ⟨[]⟩⟩
def o407_31 (P : Params) : Obj := ⟨.type "tuple", .none, .seq ⟨[.none]⟩ 0, ⟨[]⟩⟩
def o408_31 (P : Params) : Obj := ⟨.type "tuple", .none, .seq ⟨[]⟩ 0, ⟨[]⟩⟩
def o409_31 (P : Params) : Obj := ⟨.none, .none, .fields ⟨[]⟩, ⟨[]⟩⟩
def o410_31 (P : Params) : Obj := ⟨.type "tuple", .none, .seq ⟨[.str (S "self") 1116, .str (S "obj") 1117, .str (S "objtype") 1118]⟩ 0, ⟨[]⟩⟩
def o411_31 (P : Params) : Obj := ⟨.type "tuple", .none, .seq ⟨[]⟩ 0, ⟨[]⟩⟩
def o412_31 (P : Params) : Obj := ⟨.none, .none, .func (fn (su 31 1) (S "_tuplegetter.__get__") 0 [] (.none) (.none) (.none) (.none) .none (.none) (.none) 0), ⟨[]⟩⟩
def o413_31 (P : Params) : Obj := ⟨.type "code", .none, .fields ⟨[.str (S "__get__") 1113, .str (S "_tuplegetter.__get__") 1114, .str (S "/claim/cut.py") 1115, .int (756) 0, .int (3) 0, .int (0) 0, .int (0) 0, .int (3) 0, .ref 408, .bool true, .int (276) 0, .ref 409, .none, .ref 410, .ref 411, .ref 412, .int (1119) 0, .int (756) 0, .str (S "/claim/cut.py") 1120]⟩, ⟨[]⟩⟩
def o414_31 (P : Params) : Obj := ⟨.type "function", .none, .func (fn (su 31 1) (S "_tuplegetter.__get__") 3 [] (.ref 407) (.none) (.none) (.str (S "icalendar.prop.n") 1090) .none (.ref 413) (.none) 0), ⟨[]⟩⟩
def o415_31 (P : Params) : Obj := ⟨.type "tuple", .none, .seq ⟨[]⟩ 0, ⟨[]⟩⟩
def o416_31 (P : Params) : Obj := ⟨.none, .none, .fields ⟨[]⟩, ⟨[]⟩⟩
def o417_31 (P : Params) : Obj := ⟨.type "tuple", .none, .seq ⟨[.str (S "self") 1125, .str (S "obj") 1126, .str (S "value") 1127]⟩ 0, ⟨[]⟩⟩
def o418_31 (P : Params) : Obj := ⟨.type "tuple", .none, .seq ⟨[]⟩ 0, ⟨[]⟩⟩
def o419_31 (P : Params) : Obj := ⟨.none, .none, .func (fn (su 31 2) (S "_tuplegetter.__set__") 0 [] (.none) (.none) (.none) (.none) .none (.none) (.none) 0), ⟨[]⟩⟩
def o420_31 (P : Params) : Obj := ⟨.type "code", .none, .fields ⟨[.str (S "__set__") 1122, .str (S "_tuplegetter.__set__") 1123, .str (S "/claim/cut.py") 1124, .int (763) 0, .int (3) 0, .int (0) 0, .int (0) 0, .int (3) 0, .ref 415, .bool true, .int (276) 0, .ref 416, .none, .ref 417, .ref 418, .ref 419, .int (1128) 0, .int (763) 0, .str (S "/claim/cut.py") 1129]⟩, ⟨[]⟩⟩
def o421_31 (P : Params) : Obj := ⟨.type "function", .none, .func (fn (su 31 2) (S "_tuplegetter.__set__") 3 [] (.none) (.none) (.none) (.str (S "icalendar.prop.n") 1090) .none (.ref 420) (.none) 0), ⟨[]⟩⟩
def o422_31 (P : Params) : Obj := ⟨.type "tuple", .none, .seq ⟨[]⟩ 0, ⟨[]⟩⟩
def o423_31 (P : Params) : Obj := ⟨.none, .none, .fields ⟨[]⟩, ⟨[]⟩⟩
def o424_31 (P : Params) : Obj := ⟨.type "tuple", .none, .seq ⟨[.str (S "self") 1134, .str (S "obj") 1135]⟩ 0, ⟨[]⟩⟩
def o425_31 (P : Params) : Obj := ⟨.type "tuple", .none, .seq ⟨[]⟩ 0, ⟨[]⟩⟩
def o426_31 (P : Params) : Obj := ⟨.none, .none, .func (fn (su 31 3) (S "_tuplegetter.__delete__") 0 [] (.none) (.none) (.none) (.none) .none (.none) (.none) 0), ⟨[]⟩⟩
def o427_31 (P : Params) : Obj := ⟨.type "code", .none, .fields ⟨[.str (S "__delete__") 1131, .str (S "_tuplegetter.__delete__") 1132, .str (S "/claim/cut.py") 1133, .int (766) 0, .int (2) 0, .int (0) 0, .int (0) 0, .int (3) 0, .ref 422, .bool true, .int (276) 0, .ref 423, .none, .ref 424, .ref 425, .ref 426, .int (1136) 0, .int (766) 0, .str (S "/claim/cut.py") 1137]⟩, ⟨[]⟩⟩
def o428_31 (P : Params) : Obj := ⟨.type "function", .none, .func (fn (su 31 3) (S "_tuplegetter.__delete__") 3 [] (.none) (.none) (.none) (.str (S "icalendar.prop.n") 1090) .none (.ref 427) (.none) 0), ⟨[]⟩⟩
def o429_31 (P : Params) : Obj := ⟨.type "tuple", .none, .seq ⟨[.str (S "__doc__") 1139, .str (S "index") 1140]⟩ 0, ⟨[]⟩⟩
def o430_31 (P : Params) : Obj := ⟨.type "dict", .none, .dict ⟨[kv P (S "__module__") 1099 (.str (S "icalendar.prop.n") 1090), kv P (S "__firstlineno__") 1103 (.int (750) 1102), kv P (S "__init__") 1112 (.ref 406), kv P (S "__get__") 1121 (.ref 414), kv P (S "__set__") 1130 (.ref 421), kv P (S "__delete__") 1138 (.ref 428), kv P (S "__static_attributes__") 1141 (.ref 429), kv P (S "__dict__") 1143 (.ref 432), kv P (S "__weakref__") 1145 (.ref 433), kv P (S "__doc__") 1146 (.none)]⟩ 4, ⟨[]⟩⟩
def o431_31 (P : Params) : Obj := ⟨.type "type", .none, .cls ⟨(S "_tuplegetter"), [.type "object"], [.ref 431, .type "object"], 430, (S "_tuplegetter"), true, [], [], false, .none, false⟩, ⟨[.none, .none, (.some (.str (S "_tuplegetter") 1092)), (.some (.str (S "_tuplegetter") 1100)), (.some (.builtin "object.__new__")), (.some (.bool true))]⟩⟩
def o432_31 (P : Params) : Obj := ⟨.type "getset_descriptor", .none, .fields ⟨[.str (S "__dict__") 1142, .ref 431, .builtin "function.__dict__", .builtin "function.__dict__#set"]⟩, ⟨[]⟩⟩
def o433_31 (P : Params) : Obj := ⟨.type "getset_descriptor", .none, .fields ⟨[.str (S "__weakref__") 1144, .ref 431, .builtin "ExceptionGroup.__weakref__", .none]⟩, ⟨[]⟩⟩
def o434_31 (P : Params) : Obj := ⟨.type "super", .none, .fields ⟨[.ref 431, .ref 431, .ref 431]⟩, ⟨[]⟩⟩
def o435_31 (P : Params) : Obj := ⟨.type "builtin_function_or_method", .none, .fields ⟨[.builtin "object.__init_subclass__", .ref 431]⟩, ⟨[]⟩⟩
def T31 (P : Params) : BT := (((((((((((((((((((((((((((((((((((((((((((((T30 P).set 3 (fun _ => o3_31 P)).set 29 (fun _ => o29_31 P)).ins 393 (o393_31 P)).ins 394 (o394_31 P)).ins 395 (o395_31 P)).ins 396 (o396_31 P)).ins 397 (o397_31 P)).ins 398 (o398_31 P)).ins 399 (o399_31 P)).ins 400 (o400_31 P)).ins 401 (o401_31 P)).ins 402 (o402_31 P)).ins 403 (o403_31 P)).ins 404 (o404_31 P)).ins 405 (o405_31 P)).ins 406 (o406_31 P)).ins 407 (o407_31 P)).ins 408 (o408_31 P)).ins 409 (o409_31 P)).ins 410 (o410_31 P)).ins 411 (o411_31 P)).ins 412 (o412_31 P)).ins 413 (o413_31 P)).ins 414 (o414_31 P)).ins 415 (o415_31 P)).ins 416 (o416_31 P)).ins 417 (o417_31 P)).ins 418 (o418_31 P)).ins 419 (o419_31 P)).ins 420 (o420_31 P)).ins 421 (o421_31 P)).ins 422 (o422_31 P)).ins 423 (o423_31 P)).ins 424 (o424_31 P)).ins 425 (o425_31 P)).ins 426 (o426_31 P)).ins 427 (o427_31 P)).ins 428 (o428_31 P)).ins 429 (o429_31 P)).ins 430 (o430_31 P)).ins 431 (o431_31 P)).ins 432 (o432_31 P)).ins 433 (o433_31 P)).ins 434 (o434_31 P)).ins 435 (o435_31 P)
def o3_32 (P : Params) : Obj := ⟨.type "dict", .none, .dict ⟨[kv P (S "__name__") 165 (.str (S "icalendar.prop.n") 1090), kv P (S "__doc__") 166 (.none), kv P (S "__package__") 167 (.none), kv P (S "__loader__") 168 (.builtin "__main__.__loader__#opaque"), kv P (S "__spec__") 169 (.none), kv P (S "__annotations__") 170 (.ref 6), kv P (S "__builtins__") 171 (.ref 4), kv P (S "__file__") 173 (.str (S "/claim/cut.py") 172), kv P (S "__cached__") 174 (.none), kv P (S "_sre") 275 (.ref 12), kv P (S "_wall") 288 (.ref 38), kv P (S "SEQUENCE_TYPES") 291 (.ref 39), kv P (S "DEFAULT_ENCODING") 293 (.str (S "utf-8") 292), kv P (S "to_unicode") 303 (.ref 47), kv P (S "CaselessDict") 476 (.ref 174), kv P (S "_escape_char") 486 (.ref 185), kv P (S "NAME") 511 (.ref 190), kv P (S "validate_token") 520 (.ref 197), kv P (S "param_value") 529 (.ref 203), kv P (S "UNSAFE_CHAR") 563 (.ref 208), kv P (S "QUNSAFE_CHAR") 597 (.ref 213), kv P (S "validate_param_value") 607 (.ref 221), kv P (S "QUOTABLE") 803 (.ref 226), kv P (S "dquote") 812 (.ref 234), kv P (S "q_split") 832 (.ref 242), kv P (S "q_join") 844 (.ref 250), kv P (S "Parameters") 950 (.ref 303), kv P (S "rfc_6868_unescape") 962 (.ref 312), kv P (S "rfc_6868_escape") 973 (.ref 319), kv P (S "unescape_backslash") 985 (.ref 326), kv P (S "split_on_unescaped_comma") 996 (.ref 333), kv P (S "split_on_unescaped_semicolon") 1007 (.ref 340), kv P (S "vText") 1089 (.ref 387), kv P (S "_tuplegetter") 1148 (.ref 431), kv P (S "tuplegetter_n") 1149 (.ref 431)]⟩ 35, ⟨[]⟩⟩
def T32 (P : Params) : BT := (T31 P).set 3 (fun _ => o3_32 P)
def o3_33 (P : Params) : Obj := ⟨.type "dict", .none, .dict ⟨[kv P (S "__name__") 165 (.str (S "icalendar.prop.n") 1090), kv P (S "__doc__") 166 (.none), kv P (S "__package__") 167 (.none), kv P (S "__loader__") 168 (.builtin "__main__.__loader__#opaque"), kv P (S "__spec__") 169 (.none), kv P (S "__annotations__") 170 (.ref 6), kv P (S "__builtins__") 171 (.ref 4), kv P (S "__file__") 173 (.str (S "/claim/cut.py") 172), kv P (S "__cached__") 174 (.none), kv P (S "_sre") 275 (.ref 12), kv P (S "_wall") 288 (.ref 38), kv P (S "SEQUENCE_TYPES") 291 (.ref 39), kv P (S "DEFAULT_ENCODING") 293 (.str (S "utf-8") 292), kv P (S "to_unicode") 303 (.ref 47), kv P (S "CaselessDict") 476 (.ref 174), kv P (S "_escape_char") 486 (.ref 185), kv P (S "NAME") 511 (.ref 190), kv P (S "validate_token") 520 (.ref 197), kv P (S "param_value") 529 (.ref 203), kv P (S "UNSAFE_CHAR") 563 (.ref 208), kv P (S "QUNSAFE_CHAR") 597 (.ref 213), kv P (S "validate_param_value") 607 (.ref 221), kv P (S "QUOTABLE") 803 (.ref 226), kv P (S "dquote") 812 (.ref 234), kv P (S "q_split") 832 (.ref 242), kv P (S "q_join") 844 (.ref 250), kv P (S "Parameters") 950 (.ref 303), kv P (S "rfc_6868_unescape") 962 (.ref 312), kv P (S "rfc_6868_escape") 973 (.ref 319), kv P (S "unescape_backslash") 985 (.ref 326), kv P (S "split_on_unescaped_comma") 996 (.ref 333), kv P (S "split_on_unescaped_semicolon") 1007 (.ref 340), kv P (S "vText") 1089 (.ref 387), kv P (S "_tuplegetter") 1148 (.ref 431), kv P (S "tuplegetter_n") 1149 (.ref 431), kv P (S "NFields") 1308 (.ref 512)]⟩ 36, ⟨[]⟩⟩
def o29_33 (P : Params) : Obj := ⟨.none, .none, .fields ⟨[.int (2) 0, .int (0) 0, .ref 37, .int (8) 0, .int (0) 0, .ref 46, .int (22) 0, .int (0) 0, .ref 54, .int (201) 0, .int (0) 0, .ref 184, .int (236) 0, .int (0) 0, .ref 196, .int (253) 0, .int (0) 0, .ref 202, .int (275) 0, .int (0) 0, .ref 220, .int (294) 0, .int (0) 0, .ref 233, .int (315) 0, .int (0) 0, .ref 241, .int (360) 0, .int (0) 0, .ref 249, .int (385) 0, .int (0) 0, .ref 257, .int (528) 0, .int (0) 0, .ref 311, .int (544) 0, .int (0) 0, .ref 318, .int (557) 0, .int (0) 0, .ref 325, .int (576) 0, .int (0) 0, .ref 332, .int (620) 0, .int (0) 0, .ref 339, .int (666) 0, .int (0) 0, .ref 347, .int (750) 0, .int (0) 0, .ref 398, .int (769) 0, .int (0) 0, .ref 442]⟩, ⟨[]⟩⟩
def o436_33 (P : Params) : Obj := ⟨.type "tuple", .none, .seq ⟨[.type "tuple"]⟩ 0, ⟨[]⟩⟩
def o437_33 (P : Params) : Obj := ⟨.type "builtin_function_or_method", .none, .fields ⟨[.builtin "type.__prepare__", .type "type"]⟩, ⟨[]⟩⟩
def o438_33 (P : Params) : Obj := ⟨.type "dict", .none, .dict ⟨[kv P (S "__module__") 1157 (.str (S "icalendar.prop.n") 1090), kv P (S "__qualname__") 1159 (.str (S "NFields") 1158), kv P (S "__firstlineno__") 1161 (.int (769) 1160), kv P (S "__doc__") 1163 (.str (dS (st 33)) 1162), kv P (S "__slots__") 1170 (.ref 444), kv P (S "_fields") 1176 (.ref 445), kv P (S "_field_defaults") 1177 (.ref 446), kv P (S "__new__") 1190 (.ref 453), kv P (S "_make") 1212 (.ref 462), kv P (S "_replace") 1223 (.ref 471), kv P (S "__replace__") 1224 (.ref 471), kv P (S "__repr__") 1232 (.ref 478), kv P (S "_asdict") 1239 (.ref 485), kv P (S "__getnewargs__") 1247 (.ref 492), kv P (S "__match_args__") 1253 (.ref 493), kv P (S "family") 1263 (.ref 495), kv P (S "given") 1273 (.ref 498), kv P (S "additional") 1283 (.ref 501), kv P (S "prefix") 1293 (.ref 504), kv P (S "suffix") 1303 (.ref 507), kv P (S "__static_attributes__") 1304 (.ref 509), kv P (S "__classcell__") 1305 (.ref 439)]⟩ 22, ⟨[]⟩⟩
def o439_33 (P : Params) : Obj := ⟨.type "cell", .none, .cell (.some (.ref 512)), ⟨[]⟩⟩
def o440_33 (P : Params) : Obj := ⟨.type "tuple", .none, .seq ⟨[]⟩ 0, ⟨[]⟩⟩
def o441_33 (P : Params) : Obj := ⟨.none, .none, .fields ⟨[.int (783) 0, .int (4) 0, .ref 452, .int (788) 0, .int (4) 0, .ref 459, .int (795) 0, .int (4) 0, .ref 470, .int (806) 0, .int (4) 0, .ref 477, .int (810) 0, .int (4) 0, .ref 484, .int (813) 0, .int (4) 0, .ref 491]⟩, ⟨[]⟩⟩
def o442_33 (P : Params) : Obj := ⟨.type "code", .none, .fields ⟨[.str (S "NFields") 1152, .str (S "NFields") 1153, .str (S "/claim/cut.py") 1154, .int (769) 0, .int (0) 0, .int (0) 0, .int (0) 0, .int (0) 0, .ref 440, .bool false, .int (276) 0, .ref 441, .none, .none, .none, .none, .int (1155) 0, .int (769) 0, .str (S "/claim/cut.py") 1156]⟩, ⟨[]⟩⟩
def o443_33 (P : Params) : Obj := ⟨.type "frame", .none, .plain, ⟨[(.some (.ref 442)), (.some (.ref 3)), (.some (.ref 438)), .none, (.some (.str (S "icalendar.prop.n") 1090)), .none, (.some (.ref 0))]⟩⟩
def o444_33 (P : Params) : Obj := ⟨.type "tuple", .none, .seq ⟨[]⟩ 0, ⟨[]⟩⟩
def o445_33 (P : Params) : Obj := ⟨.type "tuple", .none, .seq ⟨[.str (S "family") 1171, .str (S "given") 1172, .str (S "additional") 1173, .str (S "prefix") 1174, .str (S "suffix") 1175]⟩ 0, ⟨[]⟩⟩
def o446_33 (P : Params) : Obj := ⟨.type "dict", .none, .dict ⟨[]⟩ 0, ⟨[]⟩⟩
def o447_33 (P : Params) : Obj := ⟨.type "tuple", .none, .seq ⟨[]⟩ 0, ⟨[]⟩⟩
def o448_33 (P : Params) : Obj := ⟨.none, .none, .fields ⟨[]⟩, ⟨[]⟩⟩
def o449_33 (P : Params) : Obj := ⟨.type "tuple", .none, .seq ⟨[.str (S "_cls") 1181, .str (S "family") 1182, .str (S "given") 1183, .str (S "additional") 1184, .str (S "prefix") 1185, .str (S "suffix") 1186]⟩ 0, ⟨[]⟩⟩
def o450_33 (P : Params) : Obj := ⟨.type "tuple", .none, .seq ⟨[]⟩ 0, ⟨[]⟩⟩
def o451_33 (P : Params) : Obj := ⟨.none, .none, .func (fn (su 33 9) (S "NFields.__new__") 0 [] (.none) (.none) (.none) (.none) .none (.none) (.none) 0), ⟨[]⟩⟩
def o452_33 (P : Params) : Obj := ⟨.type "code", .none, .fields ⟨[.str (S "__new__") 1178, .str (S "NFields.__new__") 1179, .str (S "/claim/cut.py") 1180, .int (783) 0, .int (6) 0, .int (0) 0, .int (0) 0, .int (3) 0, .ref 447, .bool true, .int (276) 0, .ref 448, .none, .ref 449, .ref 450, .ref 451, .int (1187) 0, .int (783) 0, .str (S "/claim/cut.py") 1188]⟩, ⟨[]⟩⟩
def o453_33 (P : Params) : Obj := ⟨.type "function", .none, .func (fn (su 33 9) (S "NFields.__new__") 3 [] (.none) (.none) (.str (dS (su 33 9)) 1189) (.str (S "icalendar.prop.n") 1090) .none (.ref 452) (.none) 0), ⟨[]⟩⟩
def o454_33 (P : Params) : Obj := ⟨.type "tuple", .none, .seq ⟨[]⟩ 0, ⟨[]⟩⟩
def o455_33 (P : Params) : Obj := ⟨.none, .none, .fields ⟨[]⟩, ⟨[]⟩⟩
def o456_33 (P : Params) : Obj := ⟨.type "tuple", .none, .seq ⟨[.str (S "cls") 1194, .str (S "iterable") 1195, .str (S "result") 1196]⟩ 0, ⟨[]⟩⟩
def o457_33 (P : Params) : Obj := ⟨.type "tuple", .none, .seq ⟨[]⟩ 0, ⟨[]⟩⟩
def o458_33 (P : Params) : Obj := ⟨.none, .none, .func (fn (su 33 10) (S "NFields._make") 0 [] (.none) (.none) (.none) (.none) .none (.none) (.none) 0), ⟨[]⟩⟩
def o459_33 (P : Params) : Obj := ⟨.type "code", .none, .fields ⟨[.str (S "_make") 1191, .str (S "NFields._make") 1192, .str (S "/claim/cut.py") 1193, .int (787) 0, .int (2) 0, .int (0) 0, .int (0) 0, .int (3) 0, .ref 454, .bool true, .int (276) 0, .ref 455, .none, .ref 456, .ref 457, .ref 458, .int (1197) 0, .int (787) 0, .str (S "/claim/cut.py") 1198]⟩, ⟨[]⟩⟩
def o460_33 (P : Params) : Obj := ⟨.type "function", .none, .func (fn (su 33 10) (S "NFields._make") 3 [] (.none) (.none) (.str (dS (su 33 10)) 1199) (.str (S "icalendar.prop.n") 1090) (.some (463)) (.ref 459) (.none) 0), ⟨[]⟩⟩
def o461_33 (P : Params) : Obj := ⟨.type "dict", .none, .dict ⟨[kv P (S "__module__") 1201 (.str (S "icalendar.prop.n") 1090), kv P (S "__name__") 1204 (.str (S "_make") 1203), kv P (S "__qualname__") 1207 (.str (S "NFields._make") 1206), kv P (S "__doc__") 1209 (.str (dS (su 33 10)) 1199), kv P (S "__annotations__") 1211 (.ref 463)]⟩ 5, ⟨[]⟩⟩
def o462_33 (P : Params) : Obj := ⟨.type "classmethod", (.some (461)), .fields ⟨[.ref 460, .bool false]⟩, ⟨[]⟩⟩
def o463_33 (P : Params) : Obj := ⟨.type "dict", .none, .dict ⟨[]⟩ 0, ⟨[]⟩⟩
def o464_33 (P : Params) : Obj := ⟨.type "tuple", .none, .seq ⟨[.ref 439]⟩ 0, ⟨[]⟩⟩
def o465_33 (P : Params) : Obj := ⟨.type "tuple", .none, .seq ⟨[.str (S "__class__") 1216]⟩ 0, ⟨[]⟩⟩
def o466_33 (P : Params) : Obj := ⟨.none, .none, .fields ⟨[]⟩, ⟨[]⟩⟩
def o467_33 (P : Params) : Obj := ⟨.type "tuple", .none, .seq ⟨[.str (S "self") 1217, .str (S "kwds") 1218, .str (S "result") 1219]⟩ 0, ⟨[]⟩⟩
def o468_33 (P : Params) : Obj := ⟨.type "tuple", .none, .seq ⟨[]⟩ 0, ⟨[]⟩⟩
def o469_33 (P : Params) : Obj := ⟨.none, .none, .func (fn (su 33 11) (S "NFields._replace") 0 [] (.none) (.none) (.none) (.none) .none (.none) (.none) 0), ⟨[]⟩⟩
def o470_33 (P : Params) : Obj := ⟨.type "code", .none, .fields ⟨[.str (S "_replace") 1213, .str (S "NFields._replace") 1214, .str (S "/claim/cut.py") 1215, .int (795) 0, .int (1) 0, .int (1) 0, .int (0) 0, .int (11) 0, .ref 465, .bool true, .int (276) 0, .ref 466, .none, .ref 467, .ref 468, .ref 469, .int (1220) 0, .int (795) 0, .str (S "/claim/cut.py") 1221]⟩, ⟨[]⟩⟩
def o471_33 (P : Params) : Obj := ⟨.type "function", .none, .func (fn (su 33 11) (S "NFields._replace") 3 [((S "__class__"), 439)] (.none) (.none) (.str (dS (su 33 11)) 1222) (.str (S "icalendar.prop.n") 1090) .none (.ref 470) (.ref 464) 0), ⟨[]⟩⟩
def o472_33 (P : Params) : Obj := ⟨.type "tuple", .none, .seq ⟨[]⟩ 0, ⟨[]⟩⟩
def o473_33 (P : Params) : Obj := ⟨.none, .none, .fields ⟨[]⟩, ⟨[]⟩⟩
def o474_33 (P : Params) : Obj := ⟨.type "tuple", .none, .seq ⟨[.str (S "self") 1228]⟩ 0, ⟨[]⟩⟩
def o475_33 (P : Params) : Obj := ⟨.type "tuple", .none, .seq ⟨[]⟩ 0, ⟨[]⟩⟩
def o476_33 (P : Params) : Obj := ⟨.none, .none, .func (fn (su 33 13) (S "NFields.__repr__") 0 [] (.none) (.none) (.none) (.none) .none (.none) (.none) 0), ⟨[]⟩⟩
def o477_33 (P : Params) : Obj := ⟨.type "code", .none, .fields ⟨[.str (S "__repr__") 1225, .str (S "NFields.__repr__") 1226, .str (S "/claim/cut.py") 1227, .int (806) 0, .int (1) 0, .int (0) 0, .int (0) 0, .int (3) 0, .ref 472, .bool true, .int (276) 0, .ref 473, .none, .ref 474, .ref 475, .ref 476, .int (1229) 0, .int (806) 0, .str (S "/claim/cut.py") 1230]⟩, ⟨[]⟩⟩
def o478_33 (P : Params) : Obj := ⟨.type "function", .none, .func (fn (su 33 13) (S "NFields.__repr__") 3 [] (.none) (.none) (.str (dS (su 33 13)) 1231) (.str (S "icalendar.prop.n") 1090) .none (.ref 477) (.none) 0), ⟨[]⟩⟩
def o479_33 (P : Params) : Obj := ⟨.type "tuple", .none, .seq ⟨[]⟩ 0, ⟨[]⟩⟩
def o480_33 (P : Params) : Obj := ⟨.none, .none, .fields ⟨[]⟩, ⟨[]⟩⟩
def o481_33 (P : Params) : Obj := ⟨.type "tuple", .none, .seq ⟨[.str (S "self") 1236]⟩ 0, ⟨[]⟩⟩
def o482_33 (P : Params) : Obj := ⟨.type "tuple", .none, .seq ⟨[]⟩ 0, ⟨[]⟩⟩
def o483_33 (P : Params) : Obj := ⟨.none, .none, .func (fn (su 33 14) (S "NFields._asdict") 0 [] (.none) (.none) (.none) (.none) .none (.none) (.none) 0), ⟨[]⟩⟩
def o484_33 (P : Params) : Obj := ⟨.type "code", .none, .fields ⟨[.str (S "_asdict") 1233, .str (S "NFields._asdict") 1234, .str (S "/claim/cut.py") 1235, .int (810) 0, .int (1) 0, .int (0) 0, .int (0) 0, .int (3) 0, .ref 479, .bool true, .int (276) 0, .ref 480, .none, .ref 481, .ref 482, .ref 483, .int (1237) 0, .int (810) 0, .str (S "/claim/cut.py") 1238]⟩, ⟨[]⟩⟩
def o485_33 (P : Params) : Obj := ⟨.type "function", .none, .func (fn (su 33 14) (S "NFields._asdict") 3 [] (.none) (.none) (.none) (.str (S "icalendar.prop.n") 1090) .none (.ref 484) (.none) 0), ⟨[]⟩⟩
def o486_33 (P : Params) : Obj := ⟨.type "tuple", .none, .seq ⟨[]⟩ 0, ⟨[]⟩⟩
def o487_33 (P : Params) : Obj := ⟨.none, .none, .fields ⟨[]⟩, ⟨[]⟩⟩
def o488_33 (P : Params) : Obj := ⟨.type "tuple", .none, .seq ⟨[.str (S "self") 1243]⟩ 0, ⟨[]⟩⟩
def o489_33 (P : Params) : Obj := ⟨.type "tuple", .none, .seq ⟨[]⟩ 0, ⟨[]⟩⟩
def o490_33 (P : Params) : Obj := ⟨.none, .none, .func (fn (su 33 15) (S "NFields.__getnewargs__") 0 [] (.none) (.none) (.none) (.none) .none (.none) (.none) 0), ⟨[]⟩⟩
def o491_33 (P : Params) : Obj := ⟨.type "code", .none, .fields ⟨[.str (S "__getnewargs__") 1240, .str (S "NFields.__getnewargs__") 1241, .str (S "/claim/cut.py") 1242, .int (813) 0, .int (1) 0, .int (0) 0, .int (0) 0, .int (3) 0, .ref 486, .bool true, .int (276) 0, .ref 487, .none, .ref 488, .ref 489, .ref 490, .int (1244) 0, .int (813) 0, .str (S "/claim/cut.py") 1245]⟩, ⟨[]⟩⟩
def o492_33 (P : Params) : Obj := ⟨.type "function", .none, .func (fn (su 33 15) (S "NFields.__getnewargs__") 3 [] (.none) (.none) (.str (dS (su 33 15)) 1246) (.str (S "icalendar.prop.n") 1090) .none (.ref 491) (.none) 0), ⟨[]⟩⟩
def o493_33 (P : Params) : Obj := ⟨.type "tuple", .none, .seq ⟨[.str (S "family") 1248, .str (S "given") 1249, .str (S "additional") 1250, .str (S "prefix") 1251, .str (S "suffix") 1252]⟩ 0, ⟨[]⟩⟩
def o494_33 (P : Params) : Obj := ⟨.type "dict", .none, .dict ⟨[kv P (S "index") 1260 (.int (0) 1254), kv P (S "__doc__") 1262 (.str (S "Alias for field number 0") 1255)]⟩ 2, ⟨[]⟩⟩
def o495_33 (P : Params) : Obj := ⟨.ref 431, (.some (494)), .plain, ⟨[]⟩⟩
def o496_33 (P : Params) : Obj := ⟨.type "frame", .none, .dict ⟨[kv P (S "self") 1256 (.ref 495), kv P (S "index") 1257 (.int (0) 1254), kv P (S "doc") 1258 (.str (S "Alias for field number 0") 1255)]⟩ 3, ⟨[]⟩⟩
def o497_33 (P : Params) : Obj := ⟨.type "dict", .none, .dict ⟨[kv P (S "index") 1270 (.int (1) 1264), kv P (S "__doc__") 1272 (.str (S "Alias for field number 1") 1265)]⟩ 2, ⟨[]⟩⟩
def o498_33 (P : Params) : Obj := ⟨.ref 431, (.some (497)), .plain, ⟨[]⟩⟩
def o499_33 (P : Params) : Obj := ⟨.type "frame", .none, .dict ⟨[kv P (S "self") 1266 (.ref 498), kv P (S "index") 1267 (.int (1) 1264), kv P (S "doc") 1268 (.str (S "Alias for field number 1") 1265)]⟩ 3, ⟨[]⟩⟩
def o500_33 (P : Params) : Obj := ⟨.type "dict", .none, .dict ⟨[kv P (S "index") 1280 (.int (2) 1274), kv P (S "__doc__") 1282 (.str (S "Alias for field number 2") 1275)]⟩ 2, ⟨[]⟩⟩
def o501_33 (P : Params) : Obj := ⟨.ref 431, (.some (500)), .plain, ⟨[]⟩⟩
def o502_33 (P : Params) : Obj := ⟨.type "frame", .none, .dict ⟨[kv P (S "self") 1276 (.ref 501), kv P (S "index") 1277 (.int (2) 1274), kv P (S "doc") 1278 (.str (S "Alias for field number 2") 1275)]⟩ 3, ⟨[]⟩⟩
def o503_33 (P : Params) : Obj := ⟨.type "dict", .none, .dict ⟨[kv P (S "index") 1290 (.int (3) 1284), kv P (S "__doc__") 1292 (.str (S "Alias for field number 3") 1285)]⟩ 2, ⟨[]⟩⟩
def o504_33 (P : Params) : Obj := ⟨.ref 431, (.some (503)), .plain, ⟨[]⟩⟩
def o505_33 (P : Params) : Obj := ⟨.type "frame", .none, .dict ⟨[kv P (S "self") 1286 (.ref 504), kv P (S "index") 1287 (.int (3) 1284), kv P (S "doc") 1288 (.str (S "Alias for field number 3") 1285)]⟩ 3, ⟨[]⟩⟩
def o506_33 (P : Params) : Obj := ⟨.type "dict", .none, .dict ⟨[kv P (S "index") 1300 (.int (4) 1294), kv P (S "__doc__") 1302 (.str (S "Alias for field number 4") 1295)]⟩ 2, ⟨[]⟩⟩
def o507_33 (P : Params) : Obj := ⟨.ref 431, (.some (506)), .plain, ⟨[]⟩⟩
def o508_33 (P : Params) : Obj := ⟨.type "frame", .none, .dict ⟨[kv P (S "self") 1296 (.ref 507), kv P (S "index") 1297 (.int (4) 1294), kv P (S "doc") 1298 (.str (S "Alias for field number 4") 1295)]⟩ 3, ⟨[]⟩⟩
def o509_33 (P : Params) : Obj := ⟨.type "tuple", .none, .seq ⟨[]⟩ 0, ⟨[]⟩⟩
def o510_33 (P : Params) : Obj := ⟨.type "list", .none, .seq ⟨[]⟩ 0, ⟨[]⟩⟩
def o511_33 (P : Params) : Obj := ⟨.type "dict", .none, .dict ⟨[kv P (S "__module__") 1157 (.str (S "icalendar.prop.n") 1090), kv P (S "__firstlineno__") 1161 (.int (769) 1160), kv P (S "__doc__") 1163 (.str (dS (st 33)) 1162), kv P (S "__slots__") 1170 (.ref 444), kv P (S "_fields") 1176 (.ref 445), kv P (S "_field_defaults") 1177 (.ref 446), kv P (S "__new__") 1190 (.ref 513), kv P (S "_make") 1212 (.ref 462), kv P (S "_replace") 1223 (.ref 471), kv P (S "__replace__") 1224 (.ref 471), kv P (S "__repr__") 1232 (.ref 478), kv P (S "_asdict") 1239 (.ref 485), kv P (S "__getnewargs__") 1247 (.ref 492), kv P (S "__match_args__") 1253 (.ref 493), kv P (S "family") 1263 (.ref 495), kv P (S "given") 1273 (.ref 498), kv P (S "additional") 1283 (.ref 501), kv P (S "prefix") 1293 (.ref 504), kv P (S "suffix") 1303 (.ref 507), kv P (S "__static_attributes__") 1304 (.ref 509)]⟩ 2, ⟨[]⟩⟩
def o512_33 (P : Params) : Obj := ⟨.type "type", .none, .cls ⟨(S "NFields"), [.type "tuple"], [.ref 512, .type "tuple", .type "object"], 511, (S "NFields"), false, [], [], false, .none, false⟩, ⟨[(.some (.ref 436)), .none, (.some (.str (S "NFields") 1150)), (.some (.str (S "NFields") 1158)), (.some (.none)), (.some (.bool false))]⟩⟩
def o513_33 (P : Params) : Obj := ⟨.type "staticmethod", .none, .fields ⟨[.ref 453]⟩, ⟨[]⟩⟩
def o514_33 (P : Params) : Obj := ⟨.type "super", .none, .fields ⟨[.ref 512, .ref 512, .ref 512]⟩, ⟨[]⟩⟩
def o515_33 (P : Params) : Obj := ⟨.type "builtin_function_or_method", .none, .fields ⟨[.builtin "object.__init_subclass__", .ref 512]⟩, ⟨[]⟩⟩
def T33 (P : Params) : BT := ((((((((((((((((((((((((((((((((((((((((((((((((((((((((((((((((((((((((((((((((((T32 P).set 3 (fun _ => o3_33 P)).set 29 (fun _ => o29_33 P)).ins 436 (o436_33 P)).ins 437 (o437_33 P)).ins 438 (o438_33 P)).ins 439 (o439_33 P)).ins 440 (o440_33 P)).ins 441 (o441_33 P)).ins 442 (o442_33 P)).ins 443 (o443_33 P)).ins 444 (o444_33 P)).ins 445 (o445_33 P)).ins 446 (o446_33 P)).ins 447 (o447_33 P)).ins 448 (o448_33 P)).ins 449 (o449_33 P)).ins 450 (o450_33 P)).ins 451 (o451_33 P)).ins 452 (o452_33 P)).ins 453 (o453_33 P)).ins 454 (o454_33 P)).ins 455 (o455_33 P)).ins 456 (o456_33 P)).ins 457 (o457_33 P)).ins 458 (o458_33 P)).ins 459 (o459_33 P)).ins 460 (o460_33 P)).ins 461 (o461_33 P)).ins 462 (o462_33 P)).ins 463 (o463_33 P)).ins 464 (o464_33 P)).ins 465 (o465_33 P)).ins 466 (o466_33 P)).ins 467 (o467_33 P)).ins 468 (o468_33 P)).ins 469 (o469_33 P)).ins 470 (o470_33 P)).ins 471 (o471_33 P)).ins 472 (o472_33 P)).ins 473 (o473_33 P)).ins 474 (o474_33 P)).ins 475 (o475_33 P)).ins 476 (o476_33 P)).ins 477 (o477_33 P)).ins 478 (o478_33 P)).ins 479 (o479_33 P)).ins 480 (o480_33 P)).ins 481 (o481_33 P)).ins 482 (o482_33 P)).ins 483 (o483_33 P)).ins 484 (o484_33 P)).ins 485 (o485_33 P)).ins 486 (o486_33 P)).ins 487 (o487_33 P)).ins 488 (o488_33 P)).ins 489 (o489_33 P)).ins 490 (o490_33 P)).ins 491 (o491_33 P)).ins 492 (o492_33 P)).ins 493 (o493_33 P)).ins 494 (o494_33 P)).ins 495 (o495_33 P)).ins 496 (o496_33 P)).ins 497 (o497_33 P)).ins 498 (o498_33 P)).ins 499 (o499_33 P)).ins 500 (o500_33 P)).ins 501 (o501_33 P)).ins 502 (o502_33 P)).ins 503 (o503_33 P)).ins 504 (o504_33 P)).ins 505 (o505_33 P)).ins 506 (o506_33 P)).ins 507 (o507_33 P)).ins 508 (o508_33 P)).ins 509 (o509_33 P)).ins 510 (o510_33 P)).ins 511 (o511_33 P)).ins 512 (o512_33 P)).ins 513 (o513_33 P)).ins 514 (o514_33 P)).ins 515 (o515_33 P)
def o3_34 (P : Params) : Obj := ⟨.type "dict", .none, .dict ⟨[kv P (S "__name__") 165 (.str (S "icalendar.prop.n") 1090), kv P (S "__doc__") 166 (.none), kv P (S "__package__") 167 (.none), kv P (S "__loader__") 168 (.builtin "__main__.__loader__#opaque"), kv P (S "__spec__") 169 (.none), kv P (S "__annotations__") 170 (.ref 6), kv P (S "__builtins__") 171 (.ref 4), kv P (S "__file__") 173 (.str (S "/claim/cut.py") 172), kv P (S "__cached__") 174 (.none), kv P (S "_sre") 275 (.ref 12), kv P (S "_wall") 288 (.ref 38), kv P (S "SEQUENCE_TYPES") 291 (.ref 39), kv P (S "DEFAULT_ENCODING") 293 (.str (S "utf-8") 292), kv P (S "to_unicode") 303 (.ref 47), kv P (S "CaselessDict") 476 (.ref 174), kv P (S "_escape_char") 486 (.ref 185), kv P (S "NAME") 511 (.ref 190), kv P (S "validate_token") 520 (.ref 197), kv P (S "param_value") 529 (.ref 203), kv P (S "UNSAFE_CHAR") 563 (.ref 208), kv P (S "QUNSAFE_CHAR") 597 (.ref 213), kv P (S "validate_param_value") 607 (.ref 221), kv P (S "QUOTABLE") 803 (.ref 226), kv P (S "dquote") 812 (.ref 234), kv P (S "q_split") 832 (.ref 242), kv P (S "q_join") 844 (.ref 250), kv P (S "Parameters") 950 (.ref 303), kv P (S "rfc_6868_unescape") 962 (.ref 312), kv P (S "rfc_6868_escape") 973 (.ref 319), kv P (S "unescape_backslash") 985 (.ref 326), kv P (S "split_on_unescaped_comma") 996 (.ref 333), kv P (S "split_on_unescaped_semicolon") 1007 (.ref 340), kv P (S "vText") 1089 (.ref 387), kv P (S "_tuplegetter") 1148 (.ref 431), kv P (S "tuplegetter_n") 1149 (.ref 431), kv P (S "NFields") 1308 (.ref 512), kv P (S "vN") 1390 (.ref 563)]⟩ 37, ⟨[]⟩⟩
def o29_34 (P : Params) : Obj := ⟨.none, .none, .fields ⟨[.int (2) 0, .int (0) 0, .ref 37, .int (8) 0, .int (0) 0, .ref 46, .int (22) 0, .int (0) 0, .ref 54, .int (201) 0, .int (0) 0, .ref 184, .int (236) 0, .int (0) 0, .ref 196, .int (253) 0, .int (0) 0, .ref 202, .int (275) 0, .int (0) 0, .ref 220, .int (294) 0, .int (0) 0, .ref 233, .int (315) 0, .int (0) 0, .ref 241, .int (360) 0, .int (0) 0, .ref 249, .int (385) 0, .int (0) 0, .ref 257, .int (528) 0, .int (0) 0, .ref 311, .int (544) 0, .int (0) 0, .ref 318, .int (557) 0, .int (0) 0, .ref 325, .int (576) 0, .int (0) 0, .ref 332, .int (620) 0, .int (0) 0, .ref 339, .int (666) 0, .int (0) 0, .ref 347, .int (750) 0, .int (0) 0, .ref 398, .int (769) 0, .int (0) 0, .ref 442, .int (822) 0, .int (0) 0, .ref 521]⟩, ⟨[]⟩⟩
def o516_34 (P : Params) : Obj := ⟨.type "tuple", .none, .seq ⟨[]⟩ 0, ⟨[]⟩⟩
def o517_34 (P : Params) : Obj := ⟨.type "builtin_function_or_method", .none, .fields ⟨[.builtin "type.__prepare__", .type "type"]⟩, ⟨[]⟩⟩
def o518_34 (P : Params) : Obj := ⟨.type "dict", .none, .dict ⟨[kv P (S "__module__") 1316 (.str (S "icalendar.prop.n") 1090), kv P (S "__qualname__") 1318 (.str (S "vN") 1317), kv P (S "__firstlineno__") 1320 (.int (822) 1319), kv P (S "__doc__") 1322 (.str (dS (st 34)) 1321), kv P (S "default_value") 1325 (.str (S "TEXT") 1324), kv P (S "__init__") 1335 (.ref 530), kv P (S "to_ical") 1342 (.ref 535), kv P (S "from_ical") 1363 (.ref 544), kv P (S "__eq__") 1372 (.ref 552), kv P (S "ical_value") 1380 (.ref 560), kv P (S "__static_attributes__") 1383 (.ref 561)]⟩ 11, ⟨[]⟩⟩
def o519_34 (P : Params) : Obj := ⟨.type "tuple", .none, .seq ⟨[]⟩ 0, ⟨[]⟩⟩
def o520_34 (P : Params) : Obj := ⟨.none, .none, .fields ⟨[.int (853) 0, .int (4) 0, .ref 529, .int (871) 0, .int (4) 0, .ref 534, .int (877) 0, .int (4) 0, .ref 541, .int (892) 0, .int (4) 0, .ref 551, .int (897) 0, .int (4) 0, .ref 558]⟩, ⟨[]⟩⟩
def o521_34 (P : Params) : Obj := ⟨.type "code", .none, .fields ⟨[.str (S "vN") 1311, .str (S "vN") 1312, .str (S "/claim/cut.py") 1313, .int (822) 0, .int (0) 0, .int (0) 0, .int (0) 0, .int (0) 0, .ref 519, .bool false, .int (276) 0, .ref 520, .none, .none, .none, .none, .int (1314) 0, .int (822) 0, .str (S "/claim/cut.py") 1315]⟩, ⟨[]⟩⟩
def o522_34 (P : Params) : Obj := ⟨.type "frame", .none, .plain, ⟨[(.some (.ref 521)), (.some (.ref 3)), (.some (.ref 518)), .none, (.some (.str (S "icalendar.prop.n") 1090)), .none, (.some (.ref 0))]⟩⟩
def o523_34 (P : Params) : Obj := ⟨.type "tuple", .none, .seq ⟨[.none]⟩ 0, ⟨[]⟩⟩
def o524_34 (P : Params) : Obj := ⟨.type "tuple", .none, .seq ⟨[]⟩ 0, ⟨[]⟩⟩
def o525_34 (P : Params) : Obj := ⟨.none, .none, .fields ⟨[]⟩, ⟨[]⟩⟩
def o526_34 (P : Params) : Obj := ⟨.type "tuple", .none, .seq ⟨[.str (S "self") 1329, .str (S "fields") 1330, .str (S "params") 1331]⟩ 0, ⟨[]⟩⟩
def o527_34 (P : Params) : Obj := ⟨.type "tuple", .none, .seq ⟨[]⟩ 0, ⟨[]⟩⟩
def o528_34 (P : Params) : Obj := ⟨.none, .none, .func (fn (su 34 2) (S "vN.__init__") 0 [] (.none) (.none) (.none) (.none) .none (.none) (.none) 0), ⟨[]⟩⟩
def o529_34 (P : Params) : Obj := ⟨.type "code", .none, .fields ⟨[.str (S "__init__") 1326, .str (S "vN.__init__") 1327, .str (S "/claim/cut.py") 1328, .int (853) 0, .int (3) 0, .int (0) 0, .int (0) 0, .int (3) 0, .ref 524, .bool true, .int (276) 0, .ref 525, .none, .ref 526, .ref 527, .ref 528, .int (1332) 0, .int (853) 0, .str (S "/claim/cut.py") 1333]⟩, ⟨[]⟩⟩
def o530_34 (P : Params) : Obj := ⟨.type "function", .none, .func (fn (su 34 2) (S "vN.__init__") 3 [] (.ref 523) (.none) (.str (dS (su 34 2)) 1334) (.str (S "icalendar.prop.n") 1090) .none (.ref 529) (.none) 0), ⟨[]⟩⟩
def o531_34 (P : Params) : Obj := ⟨.type "tuple", .none, .seq ⟨[]⟩ 0, ⟨[]⟩⟩
def o532_34 (P : Params) : Obj := ⟨.none, .none, .fields ⟨[]⟩, ⟨[]⟩⟩
def o533_34 (P : Params) : Obj := ⟨.none, .none, .func (fn (su 34 3) (S "vN.to_ical") 0 [] (.none) (.none) (.none) (.none) .none (.none) (.none) 0), ⟨[]⟩⟩
def o534_34 (P : Params) : Obj := ⟨.type "code", .none, .fields ⟨[.str (S "to_ical") 1336, .str (S "vN.to_ical") 1337, .str (S "/claim/cut.py") 1338, .int (871) 0, .int (1) 0, .int (0) 0, .int (0) 0, .int (3) 0, .ref 531, .bool true, .int (276) 0, .ref 532, .none, .none, .none, .ref 533, .int (1339) 0, .int (871) 0, .str (S "/claim/cut.py") 1340]⟩, ⟨[]⟩⟩
def o535_34 (P : Params) : Obj := ⟨.type "function", .none, .func (fn (su 34 3) (S "vN.to_ical") 3 [] (.none) (.none) (.str (dS (su 34 3)) 1341) (.str (S "icalendar.prop.n") 1090) .none (.ref 534) (.none) 0), ⟨[]⟩⟩
def o536_34 (P : Params) : Obj := ⟨.type "tuple", .none, .seq ⟨[]⟩ 0, ⟨[]⟩⟩
def o537_34 (P : Params) : Obj := ⟨.none, .none, .fields ⟨[]⟩, ⟨[]⟩⟩
def o538_34 (P : Params) : Obj := ⟨.type "tuple", .none, .seq ⟨[.str (S "ical") 1346, .str (S "fields") 1347]⟩ 0, ⟨[]⟩⟩
def o539_34 (P : Params) : Obj := ⟨.type "tuple", .none, .seq ⟨[]⟩ 0, ⟨[]⟩⟩
def o540_34 (P : Params) : Obj := ⟨.none, .none, .func (fn (su 34 4) (S "vN.from_ical") 0 [] (.none) (.none) (.none) (.none) .none (.none) (.none) 0), ⟨[]⟩⟩
def o541_34 (P : Params) : Obj := ⟨.type "code", .none, .fields ⟨[.str (S "from_ical") 1343, .str (S "vN.from_ical") 1344, .str (S "/claim/cut.py") 1345, .int (876) 0, .int (1) 0, .int (0) 0, .int (0) 0, .int (3) 0, .ref 536, .bool true, .int (276) 0, .ref 537, .none, .ref 538, .ref 539, .ref 540, .int (1348) 0, .int (876) 0, .str (S "/claim/cut.py") 1349]⟩, ⟨[]⟩⟩
def o542_34 (P : Params) : Obj := ⟨.type "function", .none, .func (fn (su 34 4) (S "vN.from_ical") 3 [] (.none) (.none) (.str (dS (su 34 4)) 1350) (.str (S "icalendar.prop.n") 1090) (.some (545)) (.ref 541) (.none) 0), ⟨[]⟩⟩
def o543_34 (P : Params) : Obj := ⟨.type "dict", .none, .dict ⟨[kv P (S "__module__") 1352 (.str (S "icalendar.prop.n") 1090), kv P (S "__name__") 1355 (.str (S "from_ical") 1354), kv P (S "__qualname__") 1358 (.str (S "vN.from_ical") 1357), kv P (S "__doc__") 1360 (.str (dS (su 34 4)) 1350), kv P (S "__annotations__") 1362 (.ref 545)]⟩ 5, ⟨[]⟩⟩
def o544_34 (P : Params) : Obj := ⟨.type "staticmethod", (.some (543)), .fields ⟨[.ref 542, .bool false]⟩, ⟨[]⟩⟩
def o545_34 (P : Params) : Obj := ⟨.type "dict", .none, .dict ⟨[]⟩ 0, ⟨[]⟩⟩
def o546_34 (P : Params) : Obj := ⟨.type "tuple", .none, .seq ⟨[]⟩ 0, ⟨[]⟩⟩
def o547_34 (P : Params) : Obj := ⟨.none, .none, .fields ⟨[]⟩, ⟨[]⟩⟩
def o548_34 (P : Params) : Obj := ⟨.type "tuple", .none, .seq ⟨[.str (S "self") 1367, .str (S "other") 1368]⟩ 0, ⟨[]⟩⟩
def o549_34 (P : Params) : Obj := ⟨.type "tuple", .none, .seq ⟨[]⟩ 0, ⟨[]⟩⟩
def o550_34 (P : Params) : Obj := ⟨.none, .none, .func (fn (su 34 5) (S "vN.__eq__") 0 [] (.none) (.none) (.none) (.none) .none (.none) (.none) 0), ⟨[]⟩⟩
def o551_34 (P : Params) : Obj := ⟨.type "code", .none, .fields ⟨[.str (S "__eq__") 1364, .str (S "vN.__eq__") 1365, .str (S "/claim/cut.py") 1366, .int (892) 0, .int (2) 0, .int (0) 0, .int (0) 0, .int (3) 0, .ref 546, .bool true, .int (276) 0, .ref 547, .none, .ref 548, .ref 549, .ref 550, .int (1369) 0, .int (892) 0, .str (S "/claim/cut.py") 1370]⟩, ⟨[]⟩⟩
def o552_34 (P : Params) : Obj := ⟨.type "function", .none, .func (fn (su 34 5) (S "vN.__eq__") 3 [] (.none) (.none) (.str (dS (su 34 5)) 1371) (.str (S "icalendar.prop.n") 1090) .none (.ref 551) (.none) 0), ⟨[]⟩⟩
def o553_34 (P : Params) : Obj := ⟨.type "tuple", .none, .seq ⟨[]⟩ 0, ⟨[]⟩⟩
def o554_34 (P : Params) : Obj := ⟨.none, .none, .fields ⟨[]⟩, ⟨[]⟩⟩
def o555_34 (P : Params) : Obj := ⟨.type "tuple", .none, .seq ⟨[.str (S "self") 1376]⟩ 0, ⟨[]⟩⟩
def o556_34 (P : Params) : Obj := ⟨.type "tuple", .none, .seq ⟨[]⟩ 0, ⟨[]⟩⟩
def o557_34 (P : Params) : Obj := ⟨.none, .none, .func (fn (su 34 6) (S "vN.ical_value") 0 [] (.none) (.none) (.none) (.none) .none (.none) (.none) 0), ⟨[]⟩⟩
def o558_34 (P : Params) : Obj := ⟨.type "code", .none, .fields ⟨[.str (S "ical_value") 1373, .str (S "vN.ical_value") 1374, .str (S "/claim/cut.py") 1375, .int (896) 0, .int (1) 0, .int (0) 0, .int (0) 0, .int (3) 0, .ref 553, .bool true, .int (276) 0, .ref 554, .none, .ref 555, .ref 556, .ref 557, .int (1377) 0, .int (896) 0, .str (S "/claim/cut.py") 1378]⟩, ⟨[]⟩⟩
def o559_34 (P : Params) : Obj := ⟨.type "function", .none, .func (fn (su 34 6) (S "vN.ical_value") 3 [] (.none) (.none) (.none) (.str (S "icalendar.prop.n") 1090) .none (.ref 558) (.none) 0), ⟨[]⟩⟩
def o560_34 (P : Params) : Obj := ⟨.type "property", .none, .fields ⟨[.ref 559, .none, .none, .none, .str (S "ical_value") 1380, .bool false]⟩, ⟨[]⟩⟩
def o561_34 (P : Params) : Obj := ⟨.type "tuple", .none, .seq ⟨[.str (S "fields") 1381, .str (S "params") 1382]⟩ 0, ⟨[]⟩⟩
def o562_34 (P : Params) : Obj := ⟨.type "dict", .none, .dict ⟨[kv P (S "__module__") 1316 (.str (S "icalendar.prop.n") 1090), kv P (S "__firstlineno__") 1320 (.int (822) 1319), kv P (S "__doc__") 1322 (.str (dS (st 34)) 1321), kv P (S "default_value") 1325 (.str (S "TEXT") 1324), kv P (S "__init__") 1335 (.ref 530), kv P (S "to_ical") 1342 (.ref 535), kv P (S "from_ical") 1363 (.ref 544), kv P (S "__eq__") 1372 (.ref 552), kv P (S "ical_value") 1380 (.ref 560), kv P (S "__static_attributes__") 1383 (.ref 561), kv P (S "__dict__") 1385 (.ref 564), kv P (S "__weakref__") 1387 (.ref 565), kv P (S "__hash__") 1388 (.none)]⟩ 4, ⟨[]⟩⟩
def o563_34 (P : Params) : Obj := ⟨.type "type", .none, .cls ⟨(S "vN"), [.type "object"], [.ref 563, .type "object"], 562, (S "vN"), true, [], [], false, .none, false⟩, ⟨[.none, .none, (.some (.str (S "vN") 1309)), (.some (.str (S "vN") 1317)), (.some (.builtin "object.__new__")), (.some (.bool true))]⟩⟩
def o564_34 (P : Params) : Obj := ⟨.type "getset_descriptor", .none, .fields ⟨[.str (S "__dict__") 1384, .ref 563, .builtin "function.__dict__", .builtin "function.__dict__#set"]⟩, ⟨[]⟩⟩
def o565_34 (P : Params) : Obj := ⟨.type "getset_descriptor", .none, .fields ⟨[.str (S "__weakref__") 1386, .ref 563, .builtin "ExceptionGroup.__weakref__", .none]⟩, ⟨[]⟩⟩
def o566_34 (P : Params) : Obj := ⟨.type "super", .none, .fields ⟨[.ref 563, .ref 563, .ref 563]⟩, ⟨[]⟩⟩
def o567_34 (P : Params) : Obj := ⟨.type "builtin_function_or_method", .none, .fields ⟨[.builtin "object.__init_subclass__", .ref 563]⟩, ⟨[]⟩⟩
def T34 (P : Params) : BT := ((((((((((((((((((((((((((((((((((((((((((((((((((((((T33 P).set 3 (fun _ => o3_34 P)).set 29 (fun _ => o29_34 P)).ins 516 (o516_34 P)).ins 517 (o517_34 P)).ins 518 (o518_34 P)).ins 519 (o519_34 P)).ins 520 (o520_34 P)).ins 521 (o521_34 P)).ins 522 (o522_34 P)).ins 523 (o523_34 P)).ins 524 (o524_34 P)).ins 525 (o525_34 P)).ins 526 (o526_34 P)).ins 527 (o527_34 P)).ins 528 (o528_34 P)).ins 529 (o529_34 P)).ins 530 (o530_34 P)).ins 531 (o531_34 P)).ins 532 (o532_34 P)).ins 533 (o533_34 P)).ins 534 (o534_34 P)).ins 535 (o535_34 P)).ins 536 (o536_34 P)).ins 537 (o537_34 P)).ins 538 (o538_34 P)).ins 539 (o539_34 P)).ins 540 (o540_34 P)).ins 541 (o541_34 P)).ins 542 (o542_34 P)).ins 543 (o543_34 P)).ins 544 (o544_34 P)).ins 545 (o545_34 P)).ins 546 (o546_34 P)).ins 547 (o547_34 P)).ins 548 (o548_34 P)).ins 549 (o549_34 P)).ins 550 (o550_34 P)).ins 551 (o551_34 P)).ins 552 (o552_34 P)).ins 553 (o553_34 P)).ins 554 (o554_34 P)).ins 555 (o555_34 P)).ins 556 (o556_34 P)).ins 557 (o557_34 P)).ins 558 (o558_34 P)).ins 559 (o559_34 P)).ins 560 (o560_34 P)).ins 561 (o561_34 P)).ins 562 (o562_34 P)).ins 563 (o563_34 P)).ins 564 (o564_34 P)).ins 565 (o565_34 P)).ins 566 (o566_34 P)).ins 567 (o567_34 P)
def o3_35 (P : Params) : Obj := ⟨.type "dict", .none, .dict ⟨[kv P (S "__name__") 165 (.str (S "icalendar.prop.adr") 1391), kv P (S "__doc__") 166 (.none), kv P (S "__package__") 167 (.none), kv P (S "__loader__") 168 (.builtin "__main__.__loader__#opaque"), kv P (S "__spec__") 169 (.none), kv P (S "__annotations__") 170 (.ref 6), kv P (S "__builtins__") 171 (.ref 4), kv P (S "__file__") 173 (.str (S "/claim/cut.py") 172), kv P (S "__cached__") 174 (.none), kv P (S "_sre") 275 (.ref 12), kv P (S "_wall") 288 (.ref 38), kv P (S "SEQUENCE_TYPES") 291 (.ref 39), kv P (S "DEFAULT_ENCODING") 293 (.str (S "utf-8") 292), kv P (S "to_unicode") 303 (.ref 47), kv P (S "CaselessDict") 476 (.ref 174), kv P (S "_escape_char") 486 (.ref 185), kv P (S "NAME") 511 (.ref 190), kv P (S "validate_token") 520 (.ref 197), kv P (S "param_value") 529 (.ref 203), kv P (S "UNSAFE_CHAR") 563 (.ref 208), kv P (S "QUNSAFE_CHAR") 597 (.ref 213), kv P (S "validate_param_value") 607 (.ref 221), kv P (S "QUOTABLE") 803 (.ref 226), kv P (S "dquote") 812 (.ref 234), kv P (S "q_split") 832 (.ref 242), kv P (S "q_join") 844 (.ref 250), kv P (S "Parameters") 950 (.ref 303), kv P (S "rfc_6868_unescape") 962 (.ref 312), kv P (S "rfc_6868_escape") 973 (.ref 319), kv P (S "unescape_backslash") 985 (.ref 326), kv P (S "split_on_unescaped_comma") 996 (.ref 333), kv P (S "split_on_unescaped_semicolon") 1007 (.ref 340), kv P (S "vText") 1089 (.ref 387), kv P (S "_tuplegetter") 1148 (.ref 431), kv P (S "tuplegetter_n") 1149 (.ref 431), kv P (S "NFields") 1308 (.ref 512), kv P (S "vN") 1390 (.ref 563)]⟩ 37, ⟨[]⟩⟩
def T35 (P : Params) : BT := (T34 P).set 3 (fun _ => o3_35 P)
def o3_36 (P : Params) : Obj := ⟨.type "dict", .none, .dict ⟨[kv P (S "__name__") 165 (.str (S "icalendar.prop.adr") 1391), kv P (S "__doc__") 166 (.none), kv P (S "__package__") 167 (.none), kv P (S "__loader__") 168 (.builtin "__main__.__loader__#opaque"), kv P (S "__spec__") 169 (.none), kv P (S "__annotations__") 170 (.ref 6), kv P (S "__builtins__") 171 (.ref 4), kv P (S "__file__") 173 (.str (S "/claim/cut.py") 172), kv P (S "__cached__") 174 (.none), kv P (S "_sre") 275 (.ref 12), kv P (S "_wall") 288 (.ref 38), kv P (S "SEQUENCE_TYPES") 291 (.ref 39), kv P (S "DEFAULT_ENCODING") 293 (.str (S "utf-8") 292), kv P (S "to_unicode") 303 (.ref 47), kv P (S "CaselessDict") 476 (.ref 174), kv P (S "_escape_char") 486 (.ref 185), kv P (S "NAME") 511 (.ref 190), kv P (S "validate_token") 520 (.ref 197), kv P (S "param_value") 529 (.ref 203), kv P (S "UNSAFE_CHAR") 563 (.ref 208), kv P (S "QUNSAFE_CHAR") 597 (.ref 213), kv P (S "validate_param_value") 607 (.ref 221), kv P (S "QUOTABLE") 803 (.ref 226), kv P (S "dquote") 812 (.ref 234), kv P (S "q_split") 832 (.ref 242), kv P (S "q_join") 844 (.ref 250), kv P (S "Parameters") 950 (.ref 303), kv P (S "rfc_6868_unescape") 962 (.ref 312), kv P (S "rfc_6868_escape") 973 (.ref 319), kv P (S "unescape_backslash") 985 (.ref 326), kv P (S "split_on_unescaped_comma") 996 (.ref 333), kv P (S "split_on_unescaped_semicolon") 1007 (.ref 340), kv P (S "vText") 1089 (.ref 387), kv P (S "_tuplegetter") 1148 (.ref 606), kv P (S "tuplegetter_n") 1149 (.ref 431), kv P (S "NFields") 1308 (.ref 512), kv P (S "vN") 1390 (.ref 563)]⟩ 37, ⟨[]⟩⟩
def o29_36 (P : Params) : Obj := ⟨.none, .none, .fields ⟨[.int (2) 0, .int (0) 0, .ref 37, .int (8) 0, .int (0) 0, .ref 46, .int (22) 0, .int (0) 0, .ref 54, .int (201) 0, .int (0) 0, .ref 184, .int (236) 0, .int (0) 0, .ref 196, .int (253) 0, .int (0) 0, .ref 202, .int (275) 0, .int (0) 0, .ref 220, .int (294) 0, .int (0) 0, .ref 233, .int (315) 0, .int (0) 0, .ref 241, .int (360) 0, .int (0) 0, .ref 249, .int (385) 0, .int (0) 0, .ref 257, .int (528) 0, .int (0) 0, .ref 311, .int (544) 0, .int (0) 0, .ref 318, .int (557) 0, .int (0) 0, .ref 325, .int (576) 0, .int (0) 0, .ref 332, .int (620) 0, .int (0) 0, .ref 339, .int (666) 0, .int (0) 0, .ref 347, .int (750) 0, .int (0) 0, .ref 398, .int (769) 0, .int (0) 0, .ref 442, .int (822) 0, .int (0) 0, .ref 521, .int (900) 0, .int (0) 0, .ref 573]⟩, ⟨[]⟩⟩
def o568_36 (P : Params) : Obj := ⟨.type "tuple", .none, .seq ⟨[]⟩ 0, ⟨[]⟩⟩
def o569_36 (P : Params) : Obj := ⟨.type "builtin_function_or_method", .none, .fields ⟨[.builtin "type.__prepare__", .type "type"]⟩, ⟨[]⟩⟩
def o570_36 (P : Params) : Obj := ⟨.type "dict", .none, .dict ⟨[kv P (S "__module__") 1400 (.str (S "icalendar.prop.adr") 1391), kv P (S "__qualname__") 1402 (.str (S "_tuplegetter") 1401), kv P (S "__firstlineno__") 1404 (.int (900) 1403), kv P (S "__init__") 1413 (.ref 581), kv P (S "__get__") 1422 (.ref 589), kv P (S "__set__") 1431 (.ref 596), kv P (S "__delete__") 1439 (.ref 603), kv P (S "__static_attributes__") 1442 (.ref 604)]⟩ 8, ⟨[]⟩⟩
def o571_36 (P : Params) : Obj := ⟨.type "tuple", .none, .seq ⟨[]⟩ 0, ⟨[]⟩⟩
def o572_36 (P : Params) : Obj := ⟨.none, .none, .fields ⟨[.int (902) 0, .int (4) 0, .ref 580, .int (906) 0, .int (4) 0, .ref 588, .int (913) 0, .int (4) 0, .ref 595, .int (916) 0, .int (4) 0, .ref 602]⟩, ⟨[]⟩⟩
def o573_36 (P : Params) : Obj := ⟨.type "code", .none, .fields ⟨[.str (S "_tuplegetter") 1395, .str (S "_tuplegetter") 1396, .str (S "/claim/cut.py") 1397, .int (900) 0, .int (0) 0, .int (0) 0, .int (0) 0, .int (0) 0, .ref 571, .bool false, .int (276) 0, .ref 572, .none, .none, .none, .none, .int (1398) 0, .int (900) 0, .str (S "/claim/cut.py") 1399]⟩, ⟨[]⟩⟩
def o574_36 (P : Params) : Obj := ⟨.type "frame", .none, .plain, ⟨[(.some (.ref 573)), (.some (.ref 3)), (.some (.ref 570)), .none, (.some (.str (S "icalendar.prop.adr") 1391)), .none, (.some (.ref 0))]⟩⟩
def o575_36 (P : Params) : Obj := ⟨.type "tuple", .none, .seq ⟨[]⟩ 0, ⟨[]⟩⟩
def o576_36 (P : Params) : Obj := ⟨.none, .none, .fields ⟨[]⟩, ⟨[]⟩⟩
def o577_36 (P : Params) : Obj := ⟨.type "tuple", .none, .seq ⟨[.str (S "self") 1408, .str (S "index") 1409, .str (S "doc") 1410]⟩ 0, ⟨[]⟩⟩
def o578_36 (P : Params) : Obj := ⟨.type "tuple", .none, .seq ⟨[]⟩ 0, ⟨[]⟩⟩
def o579_36 (P : Params) : Obj := ⟨.none, .none, .func (fn (su 36 0) (S "_tuplegetter.__init__") 0 [] (.none) (.none) (.none) (.none) .none (.none) (.none) 0), ⟨[]⟩⟩
def o580_36 (P : Params) : Obj := ⟨.type "code", .none, .fields ⟨[.str (S "__init__") 1405, .str (S "_tuplegetter.__init__") 1406, .str (S "/claim/cut.py") 1407, .int (902) 0, .int (3) 0, .int (0) 0, .int (0) 0, .int (3) 0, .ref 575, .bool true, .int (276) 0, .ref 576, .none, .ref 577, .ref 578, .ref 579, .int (1411) 0, .int (902) 0, .str (S "/claim/cut.py") 1412]⟩, ⟨[]⟩⟩
def o581_36 (P : Params) : Obj := ⟨.type "function", .none, .func (fn (su 36 0) (S "_tuplegetter.__init__") 3 [] (.none) (.none) (.none) (.str (S "icalendar.prop.adr") 1391) .none (.ref 580) (.none) 0), ⟨[]⟩⟩
def o582_36 (P : Params) : Obj := ⟨.type "tuple", .none, .seq ⟨[.none]⟩ 0, ⟨[]⟩⟩
def o583_36 (P : Params) : Obj := ⟨.type "tuple", .none, .seq ⟨[]⟩ 0, ⟨[]⟩⟩
def o584_36 (P : Params) : Obj := ⟨.none, .none, .fields ⟨[]⟩, ⟨[]⟩⟩
def o585_36 (P : Params) : Obj := ⟨.type "tuple", .none, .seq ⟨[.str (S "self") 1417, .str (S "obj") 1418, .str (S "objtype") 1419]⟩ 0, ⟨[]⟩⟩
def o586_36 (P : Params) : Obj := ⟨.type "tuple", .none, .seq ⟨[]⟩ 0, ⟨[]⟩⟩
def o587_36 (P : Params) : Obj := ⟨.none, .none, .func (fn (su 36 1) (S "_tuplegetter.__get__") 0 [] (.none) (.none) (.none) (.none) .none (.none) (.none) 0), ⟨[]⟩⟩
def o588_36 (P : Params) : Obj := ⟨.type "code", .none, .fields ⟨[.str (S "__get__") 1414, .str (S "_tuplegetter.__get__") 1415, .str (S "/claim/cut.py") 1416, .int (906) 0, .int (3) 0, .int (0) 0, .int (0) 0, .int (3) 0, .ref 583, .bool true, .int (276) 0, .ref 584, .none, .ref 585, .ref 586, .ref 587, .int (1420) 0, .int (906) 0, .str (S "/claim/cut.py") 1421]⟩, ⟨[]⟩⟩
def o589_36 (P : Params) : Obj := ⟨.type "function", .none, .func (fn (su 36 1) (S "_tuplegetter.__get__") 3 [] (.ref 582) (.none) (.none) (.str (S "icalendar.prop.adr") 1391) .none (.ref 588) (.none) 0), ⟨[]⟩⟩
def o590_36 (P : Params) : Obj := ⟨.type "tuple", .none, .seq ⟨[]⟩ 0, ⟨[]⟩⟩
def o591_36 (P : Params) : Obj := ⟨.none, .none, .fields ⟨[]⟩, ⟨[]⟩⟩
def o592_36 (P : Params) : Obj := ⟨.type "tuple", .none, .seq ⟨[.str (S "self") 1426, .str (S "obj") 1427, .str (S "value") 1428]⟩ 0, ⟨[]⟩⟩
def o593_36 (P : Params) : Obj := ⟨.type "tuple", .none, .seq ⟨[]⟩ 0, ⟨[]⟩⟩
def o594_36 (P : Params) : Obj := ⟨.none, .none, .func (fn (su 36 2) (S "_tuplegetter.__set__") 0 [] (.none) (.none) (.none) (.none) .none (.none) (.none) 0), ⟨[]⟩⟩
def o595_36 (P : Params) : Obj := ⟨.type "code", .none, .fields ⟨[.str (S "__set__") 1423, .str (S "_tuplegetter.__set__") 1424, .str (S "/claim/cut.py") 1425, .int (913) 0, .int (3) 0, .int (0) 0, .int (0) 0, .int (3) 0, .ref 590, .bool true, .int (276) 0, .ref 591, .none, .ref 592, .ref 593, .ref 594, .int (1429) 0, .int (913) 0, .str (S "/claim/cut.py") 1430]⟩, ⟨[]⟩⟩
def o596_36 (P : Params) : Obj := ⟨.type "function", .none, .func (fn (su 36 2) (S "_tuplegetter.__set__") 3 [] (.none) (.none) (.none) (.str (S "icalendar.prop.adr") 1391) .none (.ref 595) (.none) 0), ⟨[]⟩⟩
def o597_36 (P : Params) : Obj := ⟨.type "tuple", .none, .seq ⟨[]⟩ 0, ⟨[]⟩⟩
def o598_36 (P : Params) : Obj := ⟨.none, .none, .fields ⟨[]⟩, ⟨[]⟩⟩
def o599_36 (P : Params) : Obj := ⟨.type "tuple", .none, .seq ⟨[.str (S "self") 1435, .str (S "obj") 1436]⟩ 0, ⟨[]⟩⟩
def o600_36 (P : Params) : Obj := ⟨.type "tuple", .none, .seq ⟨[]⟩ 0, ⟨[]⟩⟩
def o601_36 (P : Params) : Obj := ⟨.none, .none, .func (fn (su 36 3) (S "_tuplegetter.__delete__") 0 [] (.none) (.none) (.none) (.none) .none (.none) (.none) 0), ⟨[]⟩⟩
def o602_36 (P : Params) : Obj := ⟨.type "code", .none, .fields ⟨[.str (S "__delete__") 1432, .str (S "_tuplegetter.__delete__") 1433, .str (S "/claim/cut.py") 1434, .int (916) 0, .int (2) 0, .int (0) 0, .int (0) 0, .int (3) 0, .ref 597, .bool true, .int (276) 0, .ref 598, .none, .ref 599, .ref 600, .ref 601, .int (1437) 0, .int (916) 0, .str (S "/claim/cut.py") 1438]⟩, ⟨[]⟩⟩
def o603_36 (P : Params) : Obj := ⟨.type "function", .none, .func (fn (su 36 3) (S "_tuplegetter.__delete__") 3 [] (.none) (.none) (.none) (.str (S "icalendar.prop.adr") 1391) .none (.ref 602) (.none) 0), ⟨[]⟩⟩
def o604_36 (P : Params) : Obj := ⟨.type "tuple", .none, .seq ⟨[.str (S "__doc__") 1440, .str (S "index") 1441]⟩ 0, ⟨[]⟩⟩
def o605_36 (P : Params) : Obj := ⟨.type "dict", .none, .dict ⟨[kv P (S "__module__") 1400 (.str (S "icalendar.prop.adr") 1391), kv P (S "__firstlineno__") 1404 (.int (900) 1403), kv P (S "__init__") 1413 (.ref 581), kv P (S "__get__") 1422 (.ref 589), kv P (S "__set__") 1431 (.ref 596), kv P (S "__delete__") 1439 (.ref 603), kv P (S "__static_attributes__") 1442 (.ref 604), kv P (S "__dict__") 1444 (.ref 607), kv P (S "__weakref__") 1446 (.ref 608), kv P (S "__doc__") 1447 (.none)]⟩ 4, ⟨[]⟩⟩
def o606_36 (P : Params) : Obj := ⟨.type "type", .none, .cls ⟨(S "_tuplegetter"), [.type "object"], [.ref 606, .type "object"], 605, (S "_tuplegetter"), true, [], [], false, .none, false⟩, ⟨[.none, .none, (.some (.str (S "_tuplegetter") 1393)), (.some (.str (S "_tuplegetter") 1401)), (.some (.builtin "object.__new__")), (.some (.bool true))]⟩⟩
def o607_36 (P : Params) : Obj := ⟨.type "getset_descriptor", .none, .fields ⟨[.str (S "__dict__") 1443, .ref 606, .builtin "function.__dict__", .builtin "function.__dict__#set"]⟩, ⟨[]⟩⟩
def o608_36 (P : Params) : Obj := ⟨.type "getset_descriptor", .none, .fields ⟨[.str (S "__weakref__") 1445, .ref 606, .builtin "ExceptionGroup.__weakref__", .none]⟩, ⟨[]⟩⟩
def o609_36 (P : Params) : Obj := ⟨.type "super", .none, .fields ⟨[.ref 606, .ref 606, .ref 606]⟩, ⟨[]⟩⟩
def o610_36 (P : Params) : Obj := ⟨.type "builtin_function_or_method", .none, .fields ⟨[.builtin "object.__init_subclass__", .ref 606]⟩, ⟨[]⟩⟩
def T36 (P : Params) : BT := (((((((((((((((((((((((((((((((((((((((((((((T35 P).set 3 (fun _ => o3_36 P)).set 29 (fun _ => o29_36 P)).ins 568 (o568_36 P)).ins 569 (o569_36 P)).ins 570 (o570_36 P)).ins 571 (o571_36 P)).ins 572 (o572_36 P)).ins 573 (o573_36 P)).ins 574 (o574_36 P)).ins 575 (o575_36 P)).ins 576 (o576_36 P)).ins 577 (o577_36 P)).ins 578 (o578_36 P)).ins 579 (o579_36 P)).ins 580 (o580_36 P)).ins 581 (o581_36 P)).ins 582 (o582_36 P)).ins 583 (o583_36 P)).ins 584 (o584_36 P)).ins 585 (o585_36 P)).ins 586 (o586_36 P)).ins 587 (o587_36 P)).ins 588 (o588_36 P)).ins 589 (o589_36 P)).ins 590 (o590_36 P)).ins 591 (o591_36 P)).ins 592 (o592_36 P)).ins 593 (o593_36 P)).ins 594 (o594_36 P)).ins 595 (o595_36 P)).ins 596 (o596_36 P)).ins 597 (o597_36 P)).ins 598 (o598_36 P)).ins 599 (o599_36 P)).ins 600 (o600_36 P)).ins 601 (o601_36 P)).ins 602 (o602_36 P)).ins 603 (o603_36 P)).ins 604 (o604_36 P)).ins 605 (o605_36 P)).ins 606 (o606_36 P)).ins 607 (o607_36 P)).ins 608 (o608_36 P)).ins 609 (o609_36 P)).ins 610 (o610_36 P)
def o3_37 (P : Params) : Obj := ⟨.type "dict", .none, .dict ⟨[kv P (S "__name__") 165 (.str (S "icalendar.prop.adr") 1391), kv P (S "__doc__") 166 (.none), kv P (S "__package__") 167 (.none), kv P (S "__loader__") 168 (.builtin "__main__.__loader__#opaque"), kv P (S "__spec__") 169 (.none), kv P (S "__annotations__") 170 (.ref 6), kv P (S "__builtins__") 171 (.ref 4), kv P (S "__file__") 173 (.str (S "/claim/cut.py") 172), kv P (S "__cached__") 174 (.none), kv P (S "_sre") 275 (.ref 12), kv P (S "_wall") 288 (.ref 38), kv P (S "SEQUENCE_TYPES") 291 (.ref 39), kv P (S "DEFAULT_ENCODING") 293 (.str (S "utf-8") 292), kv P (S "to_unicode") 303 (.ref 47), kv P (S "CaselessDict") 476 (.ref 174), kv P (S "_escape_char") 486 (.ref 185), kv P (S "NAME") 511 (.ref 190), kv P (S "validate_token") 520 (.ref 197), kv P (S "param_value") 529 (.ref 203), kv P (S "UNSAFE_CHAR") 563 (.ref 208), kv P (S "QUNSAFE_CHAR") 597 (.ref 213), kv P (S "validate_param_value") 607 (.ref 221), kv P (S "QUOTABLE") 803 (.ref 226), kv P (S "dquote") 812 (.ref 234), kv P (S "q_split") 832 (.ref 242), kv P (S "q_join") 844 (.ref 250), kv P (S "Parameters") 950 (.ref 303), kv P (S "rfc_6868_unescape") 962 (.ref 312), kv P (S "rfc_6868_escape") 973 (.ref 319), kv P (S "unescape_backslash") 985 (.ref 326), kv P (S "split_on_unescaped_comma") 996 (.ref 333), kv P (S "split_on_unescaped_semicolon") 1007 (.ref 340), kv P (S "vText") 1089 (.ref 387), kv P (S "_tuplegetter") 1148 (.ref 606), kv P (S "tuplegetter_n") 1149 (.ref 431), kv P (S "NFields") 1308 (.ref 512), kv P (S "vN") 1390 (.ref 563), kv P (S "tuplegetter_adr") 1450 (.ref 606)]⟩ 38, ⟨[]⟩⟩
def T37 (P : Params) : BT := (T36 P).set 3 (fun _ => o3_37 P)
def o3_38 (P : Params) : Obj := ⟨.type "dict", .none, .dict ⟨[kv P (S "__name__") 165 (.str (S "icalendar.prop.adr") 1391), kv P (S "__doc__") 166 (.none), kv P (S "__package__") 167 (.none), kv P (S "__loader__") 168 (.builtin "__main__.__loader__#opaque"), kv P (S "__spec__") 169 (.none), kv P (S "__annotations__") 170 (.ref 6), kv P (S "__builtins__") 171 (.ref 4), kv P (S "__file__") 173 (.str (S "/claim/cut.py") 172), kv P (S "__cached__") 174 (.none), kv P (S "_sre") 275 (.ref 12), kv P (S "_wall") 288 (.ref 38), kv P (S "SEQUENCE_TYPES") 291 (.ref 39), kv P (S "DEFAULT_ENCODING") 293 (.str (S "utf-8") 292), kv P (S "to_unicode") 303 (.ref 47), kv P (S "CaselessDict") 476 (.ref 174), kv P (S "_escape_char") 486 (.ref 185), kv P (S "NAME") 511 (.ref 190), kv P (S "validate_token") 520 (.ref 197), kv P (S "param_value") 529 (.ref 203), kv P (S "UNSAFE_CHAR") 563 (.ref 208), kv P (S "QUNSAFE_CHAR") 597 (.ref 213), kv P (S "validate_param_value") 607 (.ref 221), kv P (S "QUOTABLE") 803 (.ref 226), kv P (S "dquote") 812 (.ref 234), kv P (S "q_split") 832 (.ref 242), kv P (S "q_join") 844 (.ref 250), kv P (S "Parameters") 950 (.ref 303), kv P (S "rfc_6868_unescape") 962 (.ref 312), kv P (S "rfc_6868_escape") 973 (.ref 319), kv P (S "unescape_backslash") 985 (.ref 326), kv P (S "split_on_unescaped_comma") 996 (.ref 333), kv P (S "split_on_unescaped_semicolon") 1007 (.ref 340), kv P (S "vText") 1089 (.ref 387), kv P (S "_tuplegetter") 1148 (.ref 606), kv P (S "tuplegetter_n") 1149 (.ref 431), kv P (S "NFields") 1308 (.ref 512), kv P (S "vN") 1390 (.ref 563), kv P (S "tuplegetter_adr") 1450 (.ref 606), kv P (S "AdrFields") 1637 (.ref 693)]⟩ 39, ⟨[]⟩⟩
def o29_38 (P : Params) : Obj := ⟨.none, .none, .fields ⟨[.int (2) 0, .int (0) 0, .ref 37, .int (8) 0, .int (0) 0, .ref 46, .int (22) 0, .int (0) 0, .ref 54, .int (201) 0, .int (0) 0, .ref 184, .int (236) 0, .int (0) 0, .ref 196, .int (253) 0, .int (0) 0, .ref 202, .int (275) 0, .int (0) 0, .ref 220, .int (294) 0, .int (0) 0, .ref 233, .int (315) 0, .int (0) 0, .ref 241, .int (360) 0, .int (0) 0, .ref 249, .int (385) 0, .int (0) 0, .ref 257, .int (528) 0, .int (0) 0, .ref 311, .int (544) 0, .int (0) 0, .ref 318, .int (557) 0, .int (0) 0, .ref 325, .int (576) 0, .int (0) 0, .ref 332, .int (620) 0, .int (0) 0, .ref 339, .int (666) 0, .int (0) 0, .ref 347, .int (750) 0, .int (0) 0, .ref 398, .int (769) 0, .int (0) 0, .ref 442, .int (822) 0, .int (0) 0, .ref 521, .int (900) 0, .int (0) 0, .ref 573, .int (919) 0, .int (0) 0, .ref 617]⟩, ⟨[]⟩⟩
def o611_38 (P : Params) : Obj := ⟨.type "tuple", .none, .seq ⟨[.type "tuple"]⟩ 0, ⟨[]⟩⟩
def o612_38 (P : Params) : Obj := ⟨.type "builtin_function_or_method", .none, .fields ⟨[.builtin "type.__prepare__", .type "type"]⟩, ⟨[]⟩⟩
def o613_38 (P : Params) : Obj := ⟨.type "dict", .none, .dict ⟨[kv P (S "__module__") 1458 (.str (S "icalendar.prop.adr") 1391), kv P (S "__qualname__") 1460 (.str (S "AdrFields") 1459), kv P (S "__firstlineno__") 1462 (.int (919) 1461), kv P (S "__doc__") 1464 (.str (dS (st 38)) 1463), kv P (S "__slots__") 1473 (.ref 619), kv P (S "_fields") 1481 (.ref 620), kv P (S "_field_defaults") 1482 (.ref 621), kv P (S "__new__") 1497 (.ref 628), kv P (S "_make") 1519 (.ref 637), kv P (S "_replace") 1530 (.ref 646), kv P (S "__replace__") 1531 (.ref 646), kv P (S "__repr__") 1539 (.ref 653), kv P (S "_asdict") 1546 (.ref 660), kv P (S "__getnewargs__") 1554 (.ref 667), kv P (S "__match_args__") 1562 (.ref 668), kv P (S "po_box") 1572 (.ref 670), kv P (S "extended") 1582 (.ref 673), kv P (S "street") 1592 (.ref 676), kv P (S "locality") 1602 (.ref 679), kv P (S "region") 1612 (.ref 682), kv P (S "postal_code") 1622 (.ref 685), kv P (S "country") 1632 (.ref 688), kv P (S "__static_attributes__") 1633 (.ref 690), kv P (S "__classcell__") 1634 (.ref 614)]⟩ 24, ⟨[]⟩⟩
def o614_38 (P : Params) : Obj := ⟨.type "cell", .none, .cell (.some (.ref 693)), ⟨[]⟩⟩
def o615_38 (P : Params) : Obj := ⟨.type "tuple", .none, .seq ⟨[]⟩ 0, ⟨[]⟩⟩
def o616_38 (P : Params) : Obj := ⟨.none, .none, .fields ⟨[.int (935) 0, .int (4) 0, .ref 627, .int (940) 0, .int (4) 0, .ref 634, .int (947) 0, .int (4) 0, .ref 645, .int (958) 0, .int (4) 0, .ref 652, .int (962) 0, .int (4) 0, .ref 659, .int (965) 0, .int (4) 0, .ref 666]⟩, ⟨[]⟩⟩
def o617_38 (P : Params) : Obj := ⟨.type "code", .none, .fields ⟨[.str (S "AdrFields") 1453, .str (S "AdrFields") 1454, .str (S "/claim/cut.py") 1455, .int (919) 0, .int (0) 0, .int (0) 0, .int (0) 0, .int (0) 0, .ref 615, .bool false, .int (276) 0, .ref 616, .none, .none, .none, .none, .int (1456) 0, .int (919) 0, .str (S "/claim/cut.py") 1457]⟩, ⟨[]⟩⟩
def o618_38 (P : Params) : Obj := ⟨.type "frame", .none, .plain, ⟨[(.some (.ref 617)), (.some (.ref 3)), (.some (.ref 613)), .none, (.some (.str (S "icalendar.prop.adr") 1391)), .none, (.some (.ref 0))]⟩⟩
def o619_38 (P : Params) : Obj := ⟨.type "tuple", .none, .seq ⟨[]⟩ 0, ⟨[]⟩⟩
def o620_38 (P : Params) : Obj := ⟨.type "tuple", .none, .seq ⟨[.str (S "po_box") 1474, .str (S "extended") 1475, .str (S "street") 1476, .str (S "locality") 1477, .str (S "region") 1478, .str (S "postal_code") 1479, .str (S "country") 1480]⟩ 0, ⟨[]⟩⟩
def o621_38 (P : Params) : Obj := ⟨.type "dict", .none, .dict ⟨[]⟩ 0, ⟨[]⟩⟩
def o622_38 (P : Params) : Obj := ⟨.type "tuple", .none, .seq ⟨[]⟩ 0, ⟨[]⟩⟩
def o623_38 (P : Params) : Obj := ⟨.none, .none, .fields ⟨[]⟩, ⟨[]⟩⟩
def o624_38 (P : Params) : Obj := ⟨.type "tuple", .none, .seq ⟨[.str (S "_cls") 1486, .str (S "po_box") 1487, .str (S "extended") 1488, .str (S "street") 1489, .str (S "locality") 1490, .str (S "region") 1491, .str (S "postal_code") 1492, .str (S "country") 1493]⟩ 0, ⟨[]⟩⟩
def o625_38 (P : Params) : Obj := ⟨.type "tuple", .none, .seq ⟨[]⟩ 0, ⟨[]⟩⟩
def o626_38 (P : Params) : Obj := ⟨.none, .none, .func (fn (su 38 11) (S "AdrFields.__new__") 0 [] (.none) (.none) (.none) (.none) .none (.none) (.none) 0), ⟨[]⟩⟩
def o627_38 (P : Params) : Obj := ⟨.type "code", .none, .fields ⟨[.str (S "__new__") 1483, .str (S "AdrFields.__new__") 1484, .str (S "/claim/cut.py") 1485, .int (935) 0, .int (8) 0, .int (0) 0, .int (0) 0, .int (3) 0, .ref 622, .bool true, .int (276) 0, .ref 623, .none, .ref 624, .ref 625, .ref 626, .int (1494) 0, .int (935) 0, .str (S "/claim/cut.py") 1495]⟩, ⟨[]⟩⟩
def o628_38 (P : Params) : Obj := ⟨.type "function", .none, .func (fn (su 38 11) (S "AdrFields.__new__") 3 [] (.none) (.none) (.str (dS (su 38 11)) 1496) (.str (S "icalendar.prop.adr") 1391) .none (.ref 627) (.none) 0), ⟨[]⟩⟩
def o629_38 (P : Params) : Obj := ⟨.type "tuple", .none, .seq ⟨[]⟩ 0, ⟨[]⟩⟩
def o630_38 (P : Params) : Obj := ⟨.none, .none, .fields ⟨[]⟩, ⟨[]⟩⟩
def o631_38 (P : Params) : Obj := ⟨.type "tuple", .none, .seq ⟨[.str (S "cls") 1501, .str (S "iterable") 1502, .str (S "result") 1503]⟩ 0, ⟨[]⟩⟩
def o632_38 (P : Params) : Obj := ⟨.type "tuple", .none, .seq ⟨[]⟩ 0, ⟨[]⟩⟩
def o633_38 (P : Params) : Obj := ⟨.none, .none, .func (fn (su 38 12) (S "AdrFields._make") 0 [] (.none) (.none) (.none) (.none) .none (.none) (.none) 0), ⟨[]⟩⟩
def o634_38 (P : Params) : Obj := ⟨.type "code", .none, .fields ⟨[.str (S "_make") 1498, .str (S "AdrFields._make") 1499, .str (S "/claim/cut.py") 1500, .int (939) 0, .int (2) 0, .int (0) 0, .int (0) 0, .int (3) 0, .ref 629, .bool true, .int (276) 0, .ref 630, .none, .ref 631, .ref 632, .ref 633, .int (1504) 0, .int (939) 0, .str (S "/claim/cut.py") 1505]⟩, ⟨[]⟩⟩
def o635_38 (P : Params) : Obj := ⟨.type "function", .none, .func (fn (su 38 12) (S "AdrFields._make") 3 [] (.none) (.none) (.str (dS (su 38 12)) 1506) (.str (S "icalendar.prop.adr") 1391) (.some (638)) (.ref 634) (.none) 0), ⟨[]⟩⟩
def o636_38 (P : Params) : Obj := ⟨.type "dict", .none, .dict ⟨[kv P (S "__module__") 1508 (.str (S "icalendar.prop.adr") 1391), kv P (S "__name__") 1511 (.str (S "_make") 1510), kv P (S "__qualname__") 1514 (.str (S "AdrFields._make") 1513), kv P (S "__doc__") 1516 (.str (dS (su 38 12)) 1506), kv P (S "__annotations__") 1518 (.ref 638)]⟩ 5, ⟨[]⟩⟩
def o637_38 (P : Params) : Obj := ⟨.type "classmethod", (.some (636)), .fields ⟨[.ref 635, .bool false]⟩, ⟨[]⟩⟩
def o638_38 (P : Params) : Obj := ⟨.type "dict", .none, .dict ⟨[]⟩ 0, ⟨[]⟩⟩
def o639_38 (P : Params) : Obj := ⟨.type "tuple", .none, .seq ⟨[.ref 614]⟩ 0, ⟨[]⟩⟩
def o640_38 (P : Params) : Obj := ⟨.type "tuple", .none, .seq ⟨[.str (S "__class__") 1523]⟩ 0, ⟨[]⟩⟩
def o641_38 (P : Params) : Obj := ⟨.none, .none, .fields ⟨[]⟩, ⟨[]⟩⟩
def o642_38 (P : Params) : Obj := ⟨.type "tuple", .none, .seq ⟨[.str (S "self") 1524, .str (S "kwds") 1525, .str (S "result") 1526]⟩ 0, ⟨[]⟩⟩
def o643_38 (P : Params) : Obj := ⟨.type "tuple", .none, .seq ⟨[]⟩ 0, ⟨[]⟩⟩
def o644_38 (P : Params) : Obj := ⟨.none, .none, .func (fn (su 38 13) (S "AdrFields._replace") 0 [] (.none) (.none) (.none) (.none) .none (.none) (.none) 0), ⟨[]⟩⟩
def o645_38 (P : Params) : Obj := ⟨.type "code", .none, .fields ⟨[.str (S "_replace") 1520, .str (S "AdrFields._replace") 1521, .str (S "/claim/cut.py") 1522, .int (947) 0, .int (1) 0, .int (1) 0, .int (0) 0, .int (11) 0, .ref 640, .bool true, .int (276) 0, .ref 641, .none, .ref 642, .ref 643, .ref 644, .int (1527) 0, .int (947) 0, .str (S "/claim/cut.py") 1528]⟩, ⟨[]⟩⟩
def o646_38 (P : Params) : Obj := ⟨.type "function", .none, .func (fn (su 38 13) (S "AdrFields._replace") 3 [((S "__class__"), 614)] (.none) (.none) (.str (dS (su 38 13)) 1529) (.str (S "icalendar.prop.adr") 1391) .none (.ref 645) (.ref 639) 0), ⟨[]⟩⟩
def o647_38 (P : Params) : Obj := ⟨.type "tuple", .none, .seq ⟨[]⟩ 0, ⟨[]⟩⟩
def o648_38 (P : Params) : Obj := ⟨.none, .none, .fields ⟨[]⟩, ⟨[]⟩⟩
def o649_38 (P : Params) : Obj := ⟨.type "tuple", .none, .seq ⟨[.str (S "self") 1535]⟩ 0, ⟨[]⟩⟩
def o650_38 (P : Params) : Obj := ⟨.type "tuple", .none, .seq ⟨[]⟩ 0, ⟨[]⟩⟩
def o651_38 (P : Params) : Obj := ⟨.none, .none, .func (fn (su 38 15) (S "AdrFields.__repr__") 0 [] (.none) (.none) (.none) (.none) .none (.none) (.none) 0), ⟨[]⟩⟩
def o652_38 (P : Params) : Obj := ⟨.type "code", .none, .fields ⟨[.str (S "__repr__") 1532, .str (S "AdrFields.__repr__") 1533, .str (S "/claim/cut.py") 1534, .int (958) 0, .int (1) 0, .int (0) 0, .int (0) 0, .int (3) 0, .ref 647, .bool true, .int (276) 0, .ref 648, .none, .ref 649, .ref 650, .ref 651, .int (1536) 0, .int (958) 0, .str (S "/claim/cut.py") 1537]⟩, ⟨[]⟩⟩
def o653_38 (P : Params) : Obj := ⟨.type "function", .none, .func (fn (su 38 15) (S "AdrFields.__repr__") 3 [] (.none) (.none) (.str (dS (su 33 13)) 1538) (.str (S "icalendar.prop.adr") 1391) .none (.ref 652) (.none) 0), ⟨[]⟩⟩
def o654_38 (P : Params) : Obj := ⟨.type "tuple", .none, .seq ⟨[]⟩ 0, ⟨[]⟩⟩
def o655_38 (P : Params) : Obj := ⟨.none, .none, .fields ⟨[]⟩, ⟨[]⟩⟩
def o656_38 (P : Params) : Obj := ⟨.type "tuple", .none, .seq ⟨[.str (S "self") 1543]⟩ 0, ⟨[]⟩⟩
def o657_38 (P : Params) : Obj := ⟨.type "tuple", .none, .seq ⟨[]⟩ 0, ⟨[]⟩⟩
def o658_38 (P : Params) : Obj := ⟨.none, .none, .func (fn (su 38 16) (S "AdrFields._asdict") 0 [] (.none) (.none) (.none) (.none) .none (.none) (.none) 0), ⟨[]⟩⟩
def o659_38 (P : Params) : Obj := ⟨.type "code", .none, .fields ⟨[.str (S "_asdict") 1540, .str (S "AdrFields._asdict") 1541, .str (S "/claim/cut.py") 1542, .int (962) 0, .int (1) 0, .int (0) 0, .int (0) 0, .int (3) 0, .ref 654, .bool true, .int (276) 0, .ref 655, .none, .ref 656, .ref 657, .ref 658, .int (1544) 0, .int (962) 0, .str (S "/claim/cut.py") 1545]⟩, ⟨[]⟩⟩
def o660_38 (P : Params) : Obj := ⟨.type "function", .none, .func (fn (su 38 16) (S "AdrFields._asdict") 3 [] (.none) (.none) (.none) (.str (S "icalendar.prop.adr") 1391) .none (.ref 659) (.none) 0), ⟨[]⟩⟩
def o661_38 (P : Params) : Obj := ⟨.type "tuple", .none, .seq ⟨[]⟩ 0, ⟨[]⟩⟩
def o662_38 (P : Params) : Obj := ⟨.none, .none, .fields ⟨[]⟩, ⟨[]⟩⟩
def o663_38 (P : Params) : Obj := ⟨.type "tuple", .none, .seq ⟨[.str (S "self") 1550]⟩ 0, ⟨[]⟩⟩
def o664_38 (P : Params) : Obj := ⟨.type "tuple", .none, .seq ⟨[]⟩ 0, ⟨[]⟩⟩
def o665_38 (P : Params) : Obj := ⟨.none, .none, .func (fn (su 38 17) (S "AdrFields.__getnewargs__") 0 [] (.none) (.none) (.none) (.none) .none (.none) (.none) 0), ⟨[]⟩⟩
def o666_38 (P : Params) : Obj := ⟨.type "code", .none, .fields ⟨[.str (S "__getnewargs__") 1547, .str (S "AdrFields.__getnewargs__") 1548, .str (S "/claim/cut.py") 1549, .int (965) 0, .int (1) 0, .int (0) 0, .int (0) 0, .int (3) 0, .ref 661, .bool true, .int (276) 0, .ref 662, .none, .ref 663, .ref 664, .ref 665, .int (1551) 0, .int (965) 0, .str (S "/claim/cut.py") 1552]⟩, ⟨[]⟩⟩
def o667_38 (P : Params) : Obj := ⟨.type "function", .none, .func (fn (su 38 17) (S "AdrFields.__getnewargs__") 3 [] (.none) (.none) (.str (dS (su 33 15)) 1553) (.str (S "icalendar.prop.adr") 1391) .none (.ref 666) (.none) 0), ⟨[]⟩⟩
def o668_38 (P : Params) : Obj := ⟨.type "tuple", .none, .seq ⟨[.str (S "po_box") 1555, .str (S "extended") 1556, .str (S "street") 1557, .str (S "locality") 1558, .str (S "region") 1559, .str (S "postal_code") 1560, .str (S "country") 1561]⟩ 0, ⟨[]⟩⟩
def o669_38 (P : Params) : Obj := ⟨.type "dict", .none, .dict ⟨[kv P (S "index") 1569 (.int (0) 1563), kv P (S "__doc__") 1571 (.str (S "Alias for field number 0") 1564)]⟩ 2, ⟨[]⟩⟩
def o670_38 (P : Params) : Obj := ⟨.ref 606, (.some (669)), .plain, ⟨[]⟩⟩
def o671_38 (P : Params) : Obj := ⟨.type "frame", .none, .dict ⟨[kv P (S "self") 1565 (.ref 670), kv P (S "index") 1566 (.int (0) 1563), kv P (S "doc") 1567 (.str (S "Alias for field number 0") 1564)]⟩ 3, ⟨[]⟩⟩
def o672_38 (P : Params) : Obj := ⟨.type "dict", .none, .dict ⟨[kv P (S "index") 1579 (.int (1) 1573), kv P (S "__doc__") 1581 (.str (S "Alias for field number 1") 1574)]⟩ 2, ⟨[]⟩⟩
def o673_38 (P : Params) : Obj := ⟨.ref 606, (.some (672)), .plain, ⟨[]⟩⟩
def o674_38 (P : Params) : Obj := ⟨.type "frame", .none, .dict ⟨[kv P (S "self") 1575 (.ref 673), kv P (S "index") 1576 (.int (1) 1573), kv P (S "doc") 1577 (.str (S "Alias for field number 1") 1574)]⟩ 3, ⟨[]⟩⟩
def o675_38 (P : Params) : Obj := ⟨.type "dict", .none, .dict ⟨[kv P (S "index") 1589 (.int (2) 1583), kv P (S "__doc__") 1591 (.str (S "Alias for field number 2") 1584)]⟩ 2, ⟨[]⟩⟩
def o676_38 (P : Params) : Obj := ⟨.ref 606, (.some (675)), .plain, ⟨[]⟩⟩
def o677_38 (P : Params) : Obj := ⟨.type "frame", .none, .dict ⟨[kv P (S "self") 1585 (.ref 676), kv P (S "index") 1586 (.int (2) 1583), kv P (S "doc") 1587 (.str (S "Alias for field number 2") 1584)]⟩ 3, ⟨[]⟩⟩
def o678_38 (P : Params) : Obj := ⟨.type "dict", .none, .dict ⟨[kv P (S "index") 1599 (.int (3) 1593), kv P (S "__doc__") 1601 (.str (S "Alias for field number 3") 1594)]⟩ 2, ⟨[]⟩⟩
def o679_38 (P : Params) : Obj := ⟨.ref 606, (.some (678)), .plain, ⟨[]⟩⟩
def o680_38 (P : Params) : Obj := ⟨.type "frame", .none, .dict ⟨[kv P (S "self") 1595 (.ref 679), kv P (S "index") 1596 (.int (3) 1593), kv P (S "doc") 1597 (.str (S "Alias for field number 3") 1594)]⟩ 3, ⟨[]⟩⟩
def o681_38 (P : Params) : Obj := ⟨.type "dict", .none, .dict ⟨[kv P (S "index") 1609 (.int (4) 1603), kv P (S "__doc__") 1611 (.str (S "Alias for field number 4") 1604)]⟩ 2, ⟨[]⟩⟩
def o682_38 (P : Params) : Obj := ⟨.ref 606, (.some (681)), .plain, ⟨[]⟩⟩
def o683_38 (P : Params) : Obj := ⟨.type "frame", .none, .dict ⟨[kv P (S "self") 1605 (.ref 682), kv P (S "index") 1606 (.int (4) 1603), kv P (S "doc") 1607 (.str (S "Alias for field number 4") 1604)]⟩ 3, ⟨[]⟩⟩
def o684_38 (P : Params) : Obj := ⟨.type "dict", .none, .dict ⟨[kv P (S "index") 1619 (.int (5) 1613), kv P (S "__doc__") 1621 (.str (S "Alias for field number 5") 1614)]⟩ 2, ⟨[]⟩⟩
def o685_38 (P : Params) : Obj := ⟨.ref 606, (.some (684)), .plain, ⟨[]⟩⟩
def o686_38 (P : Params) : Obj := ⟨.type "frame", .none, .dict ⟨[kv P (S "self") 1615 (.ref 685), kv P (S "index") 1616 (.int (5) 1613), kv P (S "doc") 1617 (.str (S "Alias for field number 5") 1614)]⟩ 3, ⟨[]⟩⟩
def o687_38 (P : Params) : Obj := ⟨.type "dict", .none, .dict ⟨[kv P (S "index") 1629 (.int (6) 1623), kv P (S "__doc__") 1631 (.str (S "Alias for field number 6") 1624)]⟩ 2, ⟨[]⟩⟩
def o688_38 (P : Params) : Obj := ⟨.ref 606, (.some (687)), .plain, ⟨[]⟩⟩
def o689_38 (P : Params) : Obj := ⟨.type "frame", .none, .dict ⟨[kv P (S "self") 1625 (.ref 688), kv P (S "index") 1626 (.int (6) 1623), kv P (S "doc") 1627 (.str (S "Alias for field number 6") 1624)]⟩ 3, ⟨[]⟩⟩
def o690_38 (P : Params) : Obj := ⟨.type "tuple", .none, .seq ⟨[]⟩ 0, ⟨[]⟩⟩
def o691_38 (P : Params) : Obj := ⟨.type "list", .none, .seq ⟨[]⟩ 0, ⟨[]⟩⟩
def o692_38 (P : Params) : Obj := ⟨.type "dict", .none, .dict ⟨[kv P (S "__module__") 1458 (.str (S "icalendar.prop.adr") 1391), kv P (S "__firstlineno__") 1462 (.int (919) 1461), kv P (S "__doc__") 1464 (.str (dS (st 38)) 1463), kv P (S "__slots__") 1473 (.ref 619), kv P (S "_fields") 1481 (.ref 620), kv P (S "_field_defaults") 1482 (.ref 621), kv P (S "__new__") 1497 (.ref 694), kv P (S "_make") 1519 (.ref 637), kv P (S "_replace") 1530 (.ref 646), kv P (S "__replace__") 1531 (.ref 646), kv P (S "__repr__") 1539 (.ref 653), kv P (S "_asdict") 1546 (.ref 660), kv P (S "__getnewargs__") 1554 (.ref 667), kv P (S "__match_args__") 1562 (.ref 668), kv P (S "po_box") 1572 (.ref 670), kv P (S "extended") 1582 (.ref 673), kv P (S "street") 1592 (.ref 676), kv P (S "locality") 1602 (.ref 679), kv P (S "region") 1612 (.ref 682), kv P (S "postal_code") 1622 (.ref 685), kv P (S "country") 1632 (.ref 688), kv P (S "__static_attributes__") 1633 (.ref 690)]⟩ 2, ⟨[]⟩⟩
def o693_38 (P : Params) : Obj := ⟨.type "type", .none, .cls ⟨(S "AdrFields"), [.type "tuple"], [.ref 693, .type "tuple", .type "object"], 692, (S "AdrFields"), false, [], [], false, .none, false⟩, ⟨[(.some (.ref 611)), .none, (.some (.str (S "AdrFields") 1451)), (.some (.str (S "AdrFields") 1459)), (.some (.none)), (.some (.bool false))]⟩⟩
def o694_38 (P : Params) : Obj := ⟨.type "staticmethod", .none, .fields ⟨[.ref 628]⟩, ⟨[]⟩⟩
def o695_38 (P : Params) : Obj := ⟨.type "super", .none, .fields ⟨[.ref 693, .ref 693, .ref 693]⟩, ⟨[]⟩⟩
def o696_38 (P : Params) : Obj := ⟨.type "builtin_function_or_method", .none, .fields ⟨[.builtin "object.__init_subclass__", .ref 693]⟩, ⟨[]⟩⟩
def T38 (P : Params) : BT := ((((((((((((((((((((((((((((((((((((((((((((((((((((((((((((((((((((((((((((((((((((((((T37 P).set 3 (fun _ => o3_38 P)).set 29 (fun _ => o29_38 P)).ins 611 (o611_38 P)).ins 612 (o612_38 P)).ins 613 (o613_38 P)).ins 614 (o614_38 P)).ins 615 (o615_38 P)).ins 616 (o616_38 P)).ins 617 (o617_38 P)).ins 618 (o618_38 P)).ins 619 (o619_38 P)).ins 620 (o620_38 P)).ins 621 (o621_38 P)).ins 622 (o622_38 P)).ins 623 (o623_38 P)).ins 624 (o624_38 P)).ins 625 (o625_38 P)).ins 626 (o626_38 P)).ins 627 (o627_38 P)).ins 628 (o628_38 P)).ins 629 (o629_38 P)).ins 630 (o630_38 P)).ins 631 (o631_38 P)).ins 632 (o632_38 P)).ins 633 (o633_38 P)).ins 634 (o634_38 P)).ins 635 (o635_38 P)).ins 636 (o636_38 P)).ins 637 (o637_38 P)).ins 638 (o638_38 P)).ins 639 (o639_38 P)).ins 640 (o640_38 P)).ins 641 (o641_38 P)).ins 642 (o642_38 P)).ins 643 (o643_38 P)).ins 644 (o644_38 P)).ins 645 (o645_38 P)).ins 646 (o646_38 P)).ins 647 (o647_38 P)).ins 648 (o648_38 P)).ins 649 (o649_38 P)).ins 650 (o650_38 P)).ins 651 (o651_38 P)).ins 652 (o652_38 P)).ins 653 (o653_38 P)).ins 654 (o654_38 P)).ins 655 (o655_38 P)).ins 656 (o656_38 P)).ins 657 (o657_38 P)).ins 658 (o658_38 P)).ins 659 (o659_38 P)).ins 660 (o660_38 P)).ins 661 (o661_38 P)).ins 662 (o662_38 P)).ins 663 (o663_38 P)).ins 664 (o664_38 P)).ins 665 (o665_38 P)).ins 666 (o666_38 P)).ins 667 (o667_38 P)).ins 668 (o668_38 P)).ins 669 (o669_38 P)).ins 670 (o670_38 P)).ins 671 (o671_38 P)).ins 672 (o672_38 P)).ins 673 (o673_38 P)).ins 674 (o674_38 P)).ins 675 (o675_38 P)).ins 676 (o676_38 P)).ins 677 (o677_38 P)).ins 678 (o678_38 P)).ins 679 (o679_38 P)).ins 680 (o680_38 P)).ins 681 (o681_38 P)).ins 682 (o682_38 P)).ins 683 (o683_38 P)).ins 684 (o684_38 P)).ins 685 (o685_38 P)).ins 686 (o686_38 P)).ins 687 (o687_38 P)).ins 688 (o688_38 P)).ins 689 (o689_38 P)).ins 690 (o690_38 P)).ins 691 (o691_38 P)).ins 692 (o692_38 P)).ins 693 (o693_38 P)).ins 694 (o694_38 P)).ins 695 (o695_38 P)).ins 696 (o696_38 P)
def o3_39 (P : Params) : Obj := ⟨.type "dict", .none, .dict ⟨[kv P (S "__name__") 165 (.str (S "icalendar.prop.adr") 1391), kv P (S "__doc__") 166 (.none), kv P (S "__package__") 167 (.none), kv P (S "__loader__") 168 (.builtin "__main__.__loader__#opaque"), kv P (S "__spec__") 169 (.none), kv P (S "__annotations__") 170 (.ref 6), kv P (S "__builtins__") 171 (.ref 4), kv P (S "__file__") 173 (.str (S "/claim/cut.py") 172), kv P (S "__cached__") 174 (.none), kv P (S "_sre") 275 (.ref 12), kv P (S "_wall") 288 (.ref 38), kv P (S "SEQUENCE_TYPES") 291 (.ref 39), kv P (S "DEFAULT_ENCODING") 293 (.str (S "utf-8") 292), kv P (S "to_unicode") 303 (.ref 47), kv P (S "CaselessDict") 476 (.ref 174), kv P (S "_escape_char") 486 (.ref 185), kv P (S "NAME") 511 (.ref 190), kv P (S "validate_token") 520 (.ref 197), kv P (S "param_value") 529 (.ref 203), kv P (S "UNSAFE_CHAR") 563 (.ref 208), kv P (S "QUNSAFE_CHAR") 597 (.ref 213), kv P (S "validate_param_value") 607 (.ref 221), kv P (S "QUOTABLE") 803 (.ref 226), kv P (S "dquote") 812 (.ref 234), kv P (S "q_split") 832 (.ref 242), kv P (S "q_join") 844 (.ref 250), kv P (S "Parameters") 950 (.ref 303), kv P (S "rfc_6868_unescape") 962 (.ref 312), kv P (S "rfc_6868_escape") 973 (.ref 319), kv P (S "unescape_backslash") 985 (.ref 326), kv P (S "split_on_unescaped_comma") 996 (.ref 333), kv P (S "split_on_unescaped_semicolon") 1007 (.ref 340), kv P (S "vText") 1089 (.ref 387), kv P (S "_tuplegetter") 1148 (.ref 606), kv P (S "tuplegetter_n") 1149 (.ref 431), kv P (S "NFields") 1308 (.ref 512), kv P (S "vN") 1390 (.ref 563), kv P (S "tuplegetter_adr") 1450 (.ref 606), kv P (S "AdrFields") 1637 (.ref 693), kv P (S "vAdr") 1719 (.ref 744)]⟩ 40, ⟨[]⟩⟩
def o29_39 (P : Params) : Obj := ⟨.none, .none, .fields ⟨[.int (2) 0, .int (0) 0, .ref 37, .int (8) 0, .int (0) 0, .ref 46, .int (22) 0, .int (0) 0, .ref 54, .int (201) 0, .int (0) 0, .ref 184, .int (236) 0, .int (0) 0, .ref 196, .int (253) 0, .int (0) 0, .ref 202, .int (275) 0, .int (0) 0, .ref 220, .int (294) 0, .int (0) 0, .ref 233, .int (315) 0, .int (0) 0, .ref 241, .int (360) 0, .int (0) 0, .ref 249, .int (385) 0, .int (0) 0, .ref 257, .int (528) 0, .int (0) 0, .ref 311, .int (544) 0, .int (0) 0, .ref 318, .int (557) 0, .int (0) 0, .ref 325, .int (576) 0, .int (0) 0, .ref 332, .int (620) 0, .int (0) 0, .ref 339, .int (666) 0, .int (0) 0, .ref 347, .int (750) 0, .int (0) 0, .ref 398, .int (769) 0, .int (0) 0, .ref 442, .int (822) 0, .int (0) 0, .ref 521, .int (900) 0, .int (0) 0, .ref 573, .int (919) 0, .int (0) 0, .ref 617, .int (976) 0, .int (0) 0, .ref 702]⟩, ⟨[]⟩⟩
def o697_39 (P : Params) : Obj := ⟨.type "tuple", .none, .seq ⟨[]⟩ 0, ⟨[]⟩⟩
def o698_39 (P : Params) : Obj := ⟨.type "builtin_function_or_method", .none, .fields ⟨[.builtin "type.__prepare__", .type "type"]⟩, ⟨[]⟩⟩
def o699_39 (P : Params) : Obj := ⟨.type "dict", .none, .dict ⟨[kv P (S "__module__") 1645 (.str (S "icalendar.prop.adr") 1391), kv P (S "__qualname__") 1647 (.str (S "vAdr") 1646), kv P (S "__firstlineno__") 1649 (.int (976) 1648), kv P (S "__doc__") 1651 (.str (dS (st 39)) 1650), kv P (S "default_value") 1654 (.str (S "TEXT") 1653), kv P (S "__init__") 1664 (.ref 711), kv P (S "to_ical") 1671 (.ref 716), kv P (S "from_ical") 1692 (.ref 725), kv P (S "__eq__") 1701 (.ref 733), kv P (S "ical_value") 1709 (.ref 741), kv P (S "__static_attributes__") 1712 (.ref 742)]⟩ 11, ⟨[]⟩⟩
def o700_39 (P : Params) : Obj := ⟨.type "tuple", .none, .seq ⟨[]⟩ 0, ⟨[]⟩⟩
def o701_39 (P : Params) : Obj := ⟨.none, .none, .fields ⟨[.int (1009) 0, .int (4) 0, .ref 710, .int (1027) 0, .int (4) 0, .ref 715, .int (1033) 0, .int (4) 0, .ref 722, .int (1048) 0, .int (4) 0, .ref 732, .int (1053) 0, .int (4) 0, .ref 739]⟩, ⟨[]⟩⟩
def o702_39 (P : Params) : Obj := ⟨.type "code", .none, .fields ⟨[.str (S "vAdr") 1640, .str (S "vAdr") 1641, .str (S "/claim/cut.py") 1642, .int (976) 0, .int (0) 0, .int (0) 0, .int (0) 0, .int (0) 0, .ref 700, .bool false, .int (276) 0, .ref 701, .none, .none, .none, .none, .int (1643) 0, .int (976) 0, .str (S "/claim/cut.py") 1644]⟩, ⟨[]⟩⟩
def o703_39 (P : Params) : Obj := ⟨.type "frame", .none, .plain, ⟨[(.some (.ref 702)), (.some (.ref 3)), (.some (.ref 699)), .none, (.some (.str (S "icalendar.prop.adr") 1391)), .none, (.some (.ref 0))]⟩⟩
def o704_39 (P : Params) : Obj := ⟨.type "tuple", .none, .seq ⟨[.none]⟩ 0, ⟨[]⟩⟩
def o705_39 (P : Params) : Obj := ⟨.type "tuple", .none, .seq ⟨[]⟩ 0, ⟨[]⟩⟩
def o706_39 (P : Params) : Obj := ⟨.none, .none, .fields ⟨[]⟩, ⟨[]⟩⟩
def o707_39 (P : Params) : Obj := ⟨.type "tuple", .none, .seq ⟨[.str (S "self") 1658, .str (S "fields") 1659, .str (S "params") 1660]⟩ 0, ⟨[]⟩⟩
def o708_39 (P : Params) : Obj := ⟨.type "tuple", .none, .seq ⟨[]⟩ 0, ⟨[]⟩⟩
def o709_39 (P : Params) : Obj := ⟨.none, .none, .func (fn (su 39 2) (S "vAdr.__init__") 0 [] (.none) (.none) (.none) (.none) .none (.none) (.none) 0), ⟨[]⟩⟩
def o710_39 (P : Params) : Obj := ⟨.type "code", .none, .fields ⟨[.str (S "__init__") 1655, .str (S "vAdr.__init__") 1656, .str (S "/claim/cut.py") 1657, .int (1009) 0, .int (3) 0, .int (0) 0, .int (0) 0, .int (3) 0, .ref 705, .bool true, .int (276) 0, .ref 706, .none, .ref 707, .ref 708, .ref 709, .int (1661) 0, .int (1009) 0, .str (S "/claim/cut.py") 1662]⟩, ⟨[]⟩⟩
def o711_39 (P : Params) : Obj := ⟨.type "function", .none, .func (fn (su 39 2) (S "vAdr.__init__") 3 [] (.ref 704) (.none) (.str (dS (su 39 2)) 1663) (.str (S "icalendar.prop.adr") 1391) .none (.ref 710) (.none) 0), ⟨[]⟩⟩
def o712_39 (P : Params) : Obj := ⟨.type "tuple", .none, .seq ⟨[]⟩ 0, ⟨[]⟩⟩
def o713_39 (P : Params) : Obj := ⟨.none, .none, .fields ⟨[]⟩, ⟨[]⟩⟩
def o714_39 (P : Params) : Obj := ⟨.none, .none, .func (fn (su 39 3) (S "vAdr.to_ical") 0 [] (.none) (.none) (.none) (.none) .none (.none) (.none) 0), ⟨[]⟩⟩
def o715_39 (P : Params) : Obj := ⟨.type "code", .none, .fields ⟨[.str (S "to_ical") 1665, .str (S "vAdr.to_ical") 1666, .str (S "/claim/cut.py") 1667, .int (1027) 0, .int (1) 0, .int (0) 0, .int (0) 0, .int (3) 0, .ref 712, .bool true, .int (276) 0, .ref 713, .none, .none, .none, .ref 714, .int (1668) 0, .int (1027) 0, .str (S "/claim/cut.py") 1669]⟩, ⟨[]⟩⟩
def o716_39 (P : Params) : Obj := ⟨.type "function", .none, .func (fn (su 39 3) (S "vAdr.to_ical") 3 [] (.none) (.none) (.str (dS (su 34 3)) 1670) (.str (S "icalendar.prop.adr") 1391) .none (.ref 715) (.none) 0), ⟨[]⟩⟩
def o717_39 (P : Params) : Obj := ⟨.type "tuple", .none, .seq ⟨[]⟩ 0, ⟨[]⟩⟩
def o718_39 (P : Params) : Obj := ⟨.none, .none, .fields ⟨[]⟩, ⟨[]⟩⟩
def o719_39 (P : Params) : Obj := ⟨.type "tuple", .none, .seq ⟨[.str (S "ical") 1675, .str (S "fields") 1676]⟩ 0, ⟨[]⟩⟩
def o720_39 (P : Params) : Obj := ⟨.type "tuple", .none, .seq ⟨[]⟩ 0, ⟨[]⟩⟩
def o721_39 (P : Params) : Obj := ⟨.none, .none, .func (fn (su 39 4) (S "vAdr.from_ical") 0 [] (.none) (.none) (.none) (.none) .none (.none) (.none) 0), ⟨[]⟩⟩
def o722_39 (P : Params) : Obj := ⟨.type "code", .none, .fields ⟨[.str (S "from_ical") 1672, .str (S "vAdr.from_ical") 1673, .str (S "/claim/cut.py") 1674, .int (1032) 0, .int (1) 0, .int (0) 0, .int (0) 0, .int (3) 0, .ref 717, .bool true, .int (276) 0, .ref 718, .none, .ref 719, .ref 720, .ref 721, .int (1677) 0, .int (1032) 0, .str (S "/claim/cut.py") 1678]⟩, ⟨[]⟩⟩
def o723_39 (P : Params) : Obj := ⟨.type "function", .none, .func (fn (su 39 4) (S "vAdr.from_ical") 3 [] (.none) (.none) (.str (dS (su 39 4)) 1679) (.str (S "icalendar.prop.adr") 1391) (.some (726)) (.ref 722) (.none) 0), ⟨[]⟩⟩
def o724_39 (P : Params) : Obj := ⟨.type "dict", .none, .dict ⟨[kv P (S "__module__") 1681 (.str (S "icalendar.prop.adr") 1391), kv P (S "__name__") 1684 (.str (S "from_ical") 1683), kv P (S "__qualname__") 1687 (.str (S "vAdr.from_ical") 1686), kv P (S "__doc__") 1689 (.str (dS (su 39 4)) 1679), kv P (S "__annotations__") 1691 (.ref 726)]⟩ 5, ⟨[]⟩⟩
def o725_39 (P : Params) : Obj := ⟨.type "staticmethod", (.some (724)), .fields ⟨[.ref 723, .bool false]⟩, ⟨[]⟩⟩
def o726_39 (P : Params) : Obj := ⟨.type "dict", .none, .dict ⟨[]⟩ 0, ⟨[]⟩⟩
def o727_39 (P : Params) : Obj := ⟨.type "tuple", .none, .seq ⟨[]⟩ 0, ⟨[]⟩⟩
def o728_39 (P : Params) : Obj := ⟨.none, .none, .fields ⟨[]⟩, ⟨[]⟩⟩
def o729_39 (P : Params) : Obj := ⟨.type "tuple", .none, .seq ⟨[.str (S "self") 1696, .str (S "other") 1697]⟩ 0, ⟨[]⟩⟩
def o730_39 (P : Params) : Obj := ⟨.type "tuple", .none, .seq ⟨[]⟩ 0, ⟨[]⟩⟩
def o731_39 (P : Params) : Obj := ⟨.none, .none, .func (fn (su 39 5) (S "vAdr.__eq__") 0 [] (.none) (.none) (.none) (.none) .none (.none) (.none) 0), ⟨[]⟩⟩
def o732_39 (P : Params) : Obj := ⟨.type "code", .none, .fields ⟨[.str (S "__eq__") 1693, .str (S "vAdr.__eq__") 1694, .str (S "/claim/cut.py") 1695, .int (1048) 0, .int (2) 0, .int (0) 0, .int (0) 0, .int (3) 0, .ref 727, .bool true, .int (276) 0, .ref 728, .none, .ref 729, .ref 730, .ref 731, .int (1698) 0, .int (1048) 0, .str (S "/claim/cut.py") 1699]⟩, ⟨[]⟩⟩
def o733_39 (P : Params) : Obj := ⟨.type "function", .none, .func (fn (su 39 5) (S "vAdr.__eq__") 3 [] (.none) (.none) (.str (dS (su 34 5)) 1700) (.str (S "icalendar.prop.adr") 1391) .none (.ref 732) (.none) 0), ⟨[]⟩⟩
def o734_39 (P : Params) : Obj := ⟨.type "tuple", .none, .seq ⟨[]⟩ 0, ⟨[]⟩⟩
def o735_39 (P : Params) : Obj := ⟨.none, .none, .fields ⟨[]⟩, ⟨[]⟩⟩
def o736_39 (P : Params) : Obj := ⟨.type "tuple", .none, .seq ⟨[.str (S "self") 1705]⟩ 0, ⟨[]⟩⟩
def o737_39 (P : Params) : Obj := ⟨.type "tuple", .none, .seq ⟨[]⟩ 0, ⟨[]⟩⟩
def o738_39 (P : Params) : Obj := ⟨.none, .none, .func (fn (su 39 6) (S "vAdr.ical_value") 0 [] (.none) (.none) (.none) (.none) .none (.none) (.none) 0), ⟨[]⟩⟩
def o739_39 (P : Params) : Obj := ⟨.type "code", .none, .fields ⟨[.str (S "ical_value") 1702, .str (S "vAdr.ical_value") 1703, .str (S "/claim/cut.py") 1704, .int (1052) 0, .int (1) 0, .int (0) 0, .int (0) 0, .int (3) 0, .ref 734, .bool true, .int (276) 0, .ref 735, .none, .ref 736, .ref 737, .ref 738, .int (1706) 0, .int (1052) 0, .str (S "/claim/cut.py") 1707]⟩, ⟨[]⟩⟩
def o740_39 (P : Params) : Obj := ⟨.type "function", .none, .func (fn (su 39 6) (S "vAdr.ical_value") 3 [] (.none) (.none) (.none) (.str (S "icalendar.prop.adr") 1391) .none (.ref 739) (.none) 0), ⟨[]⟩⟩
def o741_39 (P : Params) : Obj := ⟨.type "property", .none, .fields ⟨[.ref 740, .none, .none, .none, .str (S "ical_value") 1709, .bool false]⟩, ⟨[]⟩⟩
def o742_39 (P : Params) : Obj := ⟨.type "tuple", .none, .seq ⟨[.str (S "fields") 1710, .str (S "params") 1711]⟩ 0, ⟨[]⟩⟩
def o743_39 (P : Params) : Obj := ⟨.type "dict", .none, .dict ⟨[kv P (S "__module__") 1645 (.str (S "icalendar.prop.adr") 1391), kv P (S "__firstlineno__") 1649 (.int (976) 1648), kv P (S "__doc__") 1651 (.str (dS (st 39)) 1650), kv P (S "default_value") 1654 (.str (S "TEXT") 1653), kv P (S "__init__") 1664 (.ref 711), kv P (S "to_ical") 1671 (.ref 716), kv P (S "from_ical") 1692 (.ref 725), kv P (S "__eq__") 1701 (.ref 733), kv P (S "ical_value") 1709 (.ref 741), kv P (S "__static_attributes__") 1712 (.ref 742), kv P (S "__dict__") 1714 (.ref 745), kv P (S "__weakref__") 1716 (.ref 746), kv P (S "__hash__") 1717 (.none)]⟩ 4, ⟨[]⟩⟩
def o744_39 (P : Params) : Obj := ⟨.type "type", .none, .cls ⟨(S "vAdr"), [.type "object"], [.ref 744, .type "object"], 743, (S "vAdr"), true, [], [], false, .none, false⟩, ⟨[.none, .none, (.some (.str (S "vAdr") 1638)), (.some (.str (S "vAdr") 1646)), (.some (.builtin "object.__new__")), (.some (.bool true))]⟩⟩
def o745_39 (P : Params) : Obj := ⟨.type "getset_descriptor", .none, .fields ⟨[.str (S "__dict__") 1713, .ref 744, .builtin "function.__dict__", .builtin "function.__dict__#set"]⟩, ⟨[]⟩⟩
def o746_39 (P : Params) : Obj := ⟨.type "getset_descriptor", .none, .fields ⟨[.str (S "__weakref__") 1715, .ref 744, .builtin "ExceptionGroup.__weakref__", .none]⟩, ⟨[]⟩⟩
def o747_39 (P : Params) : Obj := ⟨.type "super", .none, .fields ⟨[.ref 744, .ref 744, .ref 744]⟩, ⟨[]⟩⟩
def o748_39 (P : Params) : Obj := ⟨.type "builtin_function_or_method", .none, .fields ⟨[.builtin "object.__init_subclass__", .ref 744]⟩, ⟨[]⟩⟩
def T39 (P : Params) : BT := ((((((((((((((((((((((((((((((((((((((((((((((((((((((T38 P).set 3 (fun _ => o3_39 P)).set 29 (fun _ => o29_39 P)).ins 697 (o697_39 P)).ins 698 (o698_39 P)).ins 699 (o699_39 P)).ins 700 (o700_39 P)).ins 701 (o701_39 P)).ins 702 (o702_39 P)).ins 703 (o703_39 P)).ins 704 (o704_39 P)).ins 705 (o705_39 P)).ins 706 (o706_39 P)).ins 707 (o707_39 P)).ins 708 (o708_39 P)).ins 709 (o709_39 P)).ins 710 (o710_39 P)).ins 711 (o711_39 P)).ins 712 (o712_39 P)).ins 713 (o713_39 P)).ins 714 (o714_39 P)).ins 715 (o715_39 P)).ins 716 (o716_39 P)).ins 717 (o717_39 P)).ins 718 (o718_39 P)).ins 719 (o719_39 P)).ins 720 (o720_39 P)).ins 721 (o721_39 P)).ins 722 (o722_39 P)).ins 723 (o723_39 P)).ins 724 (o724_39 P)).ins 725 (o725_39 P)).ins 726 (o726_39 P)).ins 727 (o727_39 P)).ins 728 (o728_39 P)).ins 729 (o729_39 P)).ins 730 (o730_39 P)).ins 731 (o731_39 P)).ins 732 (o732_39 P)).ins 733 (o733_39 P)).ins 734 (o734_39 P)).ins 735 (o735_39 P)).ins 736 (o736_39 P)).ins 737 (o737_39 P)).ins 738 (o738_39 P)).ins 739 (o739_39 P)).ins 740 (o740_39 P)).ins 741 (o741_39 P)).ins 742 (o742_39 P)).ins 743 (o743_39 P)).ins 744 (o744_39 P)).ins 745 (o745_39 P)).ins 746 (o746_39 P)).ins 747 (o747_39 P)).ins 748 (o748_39 P)
def o3_40 (P : Params) : Obj := ⟨.type "dict", .none, .dict ⟨[kv P (S "__name__") 165 (.str (S "icalendar.prop.categories") 1720), kv P (S "__doc__") 166 (.none), kv P (S "__package__") 167 (.none), kv P (S "__loader__") 168 (.builtin "__main__.__loader__#opaque"), kv P (S "__spec__") 169 (.none), kv P (S "__annotations__") 170 (.ref 6), kv P (S "__builtins__") 171 (.ref 4), kv P (S "__file__") 173 (.str (S "/claim/cut.py") 172), kv P (S "__cached__") 174 (.none), kv P (S "_sre") 275 (.ref 12), kv P (S "_wall") 288 (.ref 38), kv P (S "SEQUENCE_TYPES") 291 (.ref 39), kv P (S "DEFAULT_ENCODING") 293 (.str (S "utf-8") 292), kv P (S "to_unicode") 303 (.ref 47), kv P (S "CaselessDict") 476 (.ref 174), kv P (S "_escape_char") 486 (.ref 185), kv P (S "NAME") 511 (.ref 190), kv P (S "validate_token") 520 (.ref 197), kv P (S "param_value") 529 (.ref 203), kv P (S "UNSAFE_CHAR") 563 (.ref 208), kv P (S "QUNSAFE_CHAR") 597 (.ref 213), kv P (S "validate_param_value") 607 (.ref 221), kv P (S "QUOTABLE") 803 (.ref 226), kv P (S "dquote") 812 (.ref 234), kv P (S "q_split") 832 (.ref 242), kv P (S "q_join") 844 (.ref 250), kv P (S "Parameters") 950 (.ref 303), kv P (S "rfc_6868_unescape") 962 (.ref 312), kv P (S "rfc_6868_escape") 973 (.ref 319), kv P (S "unescape_backslash") 985 (.ref 326), kv P (S "split_on_unescaped_comma") 996 (.ref 333), kv P (S "split_on_unescaped_semicolon") 1007 (.ref 340), kv P (S "vText") 1089 (.ref 387), kv P (S "_tuplegetter") 1148 (.ref 606), kv P (S "tuplegetter_n") 1149 (.ref 431), kv P (S "NFields") 1308 (.ref 512), kv P (S "vN") 1390 (.ref 563), kv P (S "tuplegetter_adr") 1450 (.ref 606), kv P (S "AdrFields") 1637 (.ref 693), kv P (S "vAdr") 1719 (.ref 744)]⟩ 40, ⟨[]⟩⟩
def T40 (P : Params) : BT := (T39 P).set 3 (fun _ => o3_40 P)
def o3_41 (P : Params) : Obj := ⟨.type "dict", .none, .dict ⟨[kv P (S "__name__") 165 (.str (S "icalendar.prop.categories") 1720), kv P (S "__doc__") 166 (.none), kv P (S "__package__") 167 (.none), kv P (S "__loader__") 168 (.builtin "__main__.__loader__#opaque"), kv P (S "__spec__") 169 (.none), kv P (S "__annotations__") 170 (.ref 6), kv P (S "__builtins__") 171 (.ref 4), kv P (S "__file__") 173 (.str (S "/claim/cut.py") 172), kv P (S "__cached__") 174 (.none), kv P (S "_sre") 275 (.ref 12), kv P (S "_wall") 288 (.ref 38), kv P (S "SEQUENCE_TYPES") 291 (.ref 39), kv P (S "DEFAULT_ENCODING") 293 (.str (S "utf-8") 292), kv P (S "to_unicode") 303 (.ref 47), kv P (S "CaselessDict") 476 (.ref 174), kv P (S "_escape_char") 486 (.ref 185), kv P (S "NAME") 511 (.ref 190), kv P (S "validate_token") 520 (.ref 197), kv P (S "param_value") 529 (.ref 203), kv P (S "UNSAFE_CHAR") 563 (.ref 208), kv P (S "QUNSAFE_CHAR") 597 (.ref 213), kv P (S "validate_param_value") 607 (.ref 221), kv P (S "QUOTABLE") 803 (.ref 226), kv P (S "dquote") 812 (.ref 234), kv P (S "q_split") 832 (.ref 242), kv P (S "q_join") 844 (.ref 250), kv P (S "Parameters") 950 (.ref 303), kv P (S "rfc_6868_unescape") 962 (.ref 312), kv P (S "rfc_6868_escape") 973 (.ref 319), kv P (S "unescape_backslash") 985 (.ref 326), kv P (S "split_on_unescaped_comma") 996 (.ref 333), kv P (S "split_on_unescaped_semicolon") 1007 (.ref 340), kv P (S "vText") 1089 (.ref 387), kv P (S "_tuplegetter") 1148 (.ref 606), kv P (S "tuplegetter_n") 1149 (.ref 431), kv P (S "NFields") 1308 (.ref 512), kv P (S "vN") 1390 (.ref 563), kv P (S "tuplegetter_adr") 1450 (.ref 606), kv P (S "AdrFields") 1637 (.ref 693), kv P (S "vAdr") 1719 (.ref 744), kv P (S "vCategory") 1802 (.ref 801)]⟩ 41, ⟨[]⟩⟩
def o29_41 (P : Params) : Obj := ⟨.none, .none, .fields ⟨[.int (2) 0, .int (0) 0, .ref 37, .int (8) 0, .int (0) 0, .ref 46, .int (22) 0, .int (0) 0, .ref 54, .int (201) 0, .int (0) 0, .ref 184, .int (236) 0, .int (0) 0, .ref 196, .int (253) 0, .int (0) 0, .ref 202, .int (275) 0, .int (0) 0, .ref 220, .int (294) 0, .int (0) 0, .ref 233, .int (315) 0, .int (0) 0, .ref 241, .int (360) 0, .int (0) 0, .ref 249, .int (385) 0, .int (0) 0, .ref 257, .int (528) 0, .int (0) 0, .ref 311, .int (544) 0, .int (0) 0, .ref 318, .int (557) 0, .int (0) 0, .ref 325, .int (576) 0, .int (0) 0, .ref 332, .int (620) 0, .int (0) 0, .ref 339, .int (666) 0, .int (0) 0, .ref 347, .int (750) 0, .int (0) 0, .ref 398, .int (769) 0, .int (0) 0, .ref 442, .int (822) 0, .int (0) 0, .ref 521, .int (900) 0, .int (0) 0, .ref 573, .int (919) 0, .int (0) 0, .ref 617, .int (976) 0, .int (0) 0, .ref 702, .int (1056) 0, .int (0) 0, .ref 754]⟩, ⟨[]⟩⟩
def o749_41 (P : Params) : Obj := ⟨.type "tuple", .none, .seq ⟨[]⟩ 0, ⟨[]⟩⟩
def o750_41 (P : Params) : Obj := ⟨.type "builtin_function_or_method", .none, .fields ⟨[.builtin "type.__prepare__", .type "type"]⟩, ⟨[]⟩⟩
def o751_41 (P : Params) : Obj := ⟨.type "dict", .none, .dict ⟨[kv P (S "__module__") 1729 (.str (S "icalendar.prop.categories") 1720), kv P (S "__qualname__") 1731 (.str (S "vCategory") 1730), kv P (S "__firstlineno__") 1733 (.int (1056) 1732), kv P (S "default_value") 1735 (.str (S "TEXT") 1734), kv P (S "__init__") 1741 (.ref 761), kv P (S "__iter__") 1748 (.ref 768), kv P (S "to_ical") 1754 (.ref 773), kv P (S "from_ical") 1774 (.ref 782), kv P (S "__eq__") 1783 (.ref 790), kv P (S "ical_value") 1791 (.ref 798), kv P (S "__static_attributes__") 1794 (.ref 799)]⟩ 11, ⟨[]⟩⟩
def o752_41 (P : Params) : Obj := ⟨.type "tuple", .none, .seq ⟨[]⟩ 0, ⟨[]⟩⟩
def o753_41 (P : Params) : Obj := ⟨.none, .none, .fields ⟨[.int (1059) 0, .int (4) 0, .ref 760, .int (1065) 0, .int (4) 0, .ref 767, .int (1068) 0, .int (4) 0, .ref 772, .int (1072) 0, .int (4) 0, .ref 779, .int (1096) 0, .int (4) 0, .ref 789, .int (1101) 0, .int (4) 0, .ref 796]⟩, ⟨[]⟩⟩
def o754_41 (P : Params) : Obj := ⟨.type "code", .none, .fields ⟨[.str (S "vCategory") 1724, .str (S "vCategory") 1725, .str (S "/claim/cut.py") 1726, .int (1056) 0, .int (0) 0, .int (0) 0, .int (0) 0, .int (0) 0, .ref 752, .bool false, .int (276) 0, .ref 753, .none, .none, .none, .none, .int (1727) 0, .int (1056) 0, .str (S "/claim/cut.py") 1728]⟩, ⟨[]⟩⟩
def o755_41 (P : Params) : Obj := ⟨.type "frame", .none, .plain, ⟨[(.some (.ref 754)), (.some (.ref 3)), (.some (.ref 751)), .none, (.some (.str (S "icalendar.prop.categories") 1720)), .none, (.some (.ref 0))]⟩⟩
def o756_41 (P : Params) : Obj := ⟨.type "tuple", .none, .seq ⟨[.none]⟩ 0, ⟨[]⟩⟩
def o757_41 (P : Params) : Obj := ⟨.type "tuple", .none, .seq ⟨[]⟩ 0, ⟨[]⟩⟩
def o758_41 (P : Params) : Obj := ⟨.none, .none, .fields ⟨[]⟩, ⟨[]⟩⟩
def o759_41 (P : Params) : Obj := ⟨.none, .none, .func (fn (su 41 1) (S "vCategory.__init__") 0 [] (.none) (.none) (.none) (.none) .none (.none) (.none) 0), ⟨[]⟩⟩
def o760_41 (P : Params) : Obj := ⟨.type "code", .none, .fields ⟨[.str (S "__init__") 1736, .str (S "vCategory.__init__") 1737, .str (S "/claim/cut.py") 1738, .int (1059) 0, .int (3) 0, .int (0) 0, .int (0) 0, .int (3) 0, .ref 757, .bool true, .int (276) 0, .ref 758, .none, .none, .none, .ref 759, .int (1739) 0, .int (1059) 0, .str (S "/claim/cut.py") 1740]⟩, ⟨[]⟩⟩
def o761_41 (P : Params) : Obj := ⟨.type "function", .none, .func (fn (su 41 1) (S "vCategory.__init__") 3 [] (.ref 756) (.none) (.none) (.str (S "icalendar.prop.categories") 1720) .none (.ref 760) (.none) 0), ⟨[]⟩⟩
def o762_41 (P : Params) : Obj := ⟨.type "tuple", .none, .seq ⟨[]⟩ 0, ⟨[]⟩⟩
def o763_41 (P : Params) : Obj := ⟨.none, .none, .fields ⟨[]⟩, ⟨[]⟩⟩
def o764_41 (P : Params) : Obj := ⟨.type "tuple", .none, .seq ⟨[.str (S "self") 1745]⟩ 0, ⟨[]⟩⟩
def o765_41 (P : Params) : Obj := ⟨.type "tuple", .none, .seq ⟨[]⟩ 0, ⟨[]⟩⟩
def o766_41 (P : Params) : Obj := ⟨.none, .none, .func (fn (su 41 2) (S "vCategory.__iter__") 0 [] (.none) (.none) (.none) (.none) .none (.none) (.none) 0), ⟨[]⟩⟩
def o767_41 (P : Params) : Obj := ⟨.type "code", .none, .fields ⟨[.str (S "__iter__") 1742, .str (S "vCategory.__iter__") 1743, .str (S "/claim/cut.py") 1744, .int (1065) 0, .int (1) 0, .int (0) 0, .int (0) 0, .int (3) 0, .ref 762, .bool true, .int (276) 0, .ref 763, .none, .ref 764, .ref 765, .ref 766, .int (1746) 0, .int (1065) 0, .str (S "/claim/cut.py") 1747]⟩, ⟨[]⟩⟩
def o768_41 (P : Params) : Obj := ⟨.type "function", .none, .func (fn (su 41 2) (S "vCategory.__iter__") 3 [] (.none) (.none) (.none) (.str (S "icalendar.prop.categories") 1720) .none (.ref 767) (.none) 0), ⟨[]⟩⟩
def o769_41 (P : Params) : Obj := ⟨.type "tuple", .none, .seq ⟨[]⟩ 0, ⟨[]⟩⟩
def o770_41 (P : Params) : Obj := ⟨.none, .none, .fields ⟨[]⟩, ⟨[]⟩⟩
def o771_41 (P : Params) : Obj := ⟨.none, .none, .func (fn (su 41 3) (S "vCategory.to_ical") 0 [] (.none) (.none) (.none) (.none) .none (.none) (.none) 0), ⟨[]⟩⟩
def o772_41 (P : Params) : Obj := ⟨.type "code", .none, .fields ⟨[.str (S "to_ical") 1749, .str (S "vCategory.to_ical") 1750, .str (S "/claim/cut.py") 1751, .int (1068) 0, .int (1) 0, .int (0) 0, .int (0) 0, .int (3) 0, .ref 769, .bool true, .int (276) 0, .ref 770, .none, .none, .none, .ref 771, .int (1752) 0, .int (1068) 0, .str (S "/claim/cut.py") 1753]⟩, ⟨[]⟩⟩
def o773_41 (P : Params) : Obj := ⟨.type "function", .none, .func (fn (su 41 3) (S "vCategory.to_ical") 3 [] (.none) (.none) (.none) (.str (S "icalendar.prop.categories") 1720) .none (.ref 772) (.none) 0), ⟨[]⟩⟩
def o774_41 (P : Params) : Obj := ⟨.type "tuple", .none, .seq ⟨[]⟩ 0, ⟨[]⟩⟩
def o775_41 (P : Params) : Obj := ⟨.none, .none, .fields ⟨[]⟩, ⟨[]⟩⟩
def o776_41 (P : Params) : Obj := ⟨.type "tuple", .none, .seq ⟨[.str (S "ical") 1758]⟩ 0, ⟨[]⟩⟩
def o777_41 (P : Params) : Obj := ⟨.type "tuple", .none, .seq ⟨[]⟩ 0, ⟨[]⟩⟩
def o778_41 (P : Params) : Obj := ⟨.none, .none, .func (fn (su 41 4) (S "vCategory.from_ical") 0 [] (.none) (.none) (.none) (.none) .none (.none) (.none) 0), ⟨[]⟩⟩
def o779_41 (P : Params) : Obj := ⟨.type "code", .none, .fields ⟨[.str (S "from_ical") 1755, .str (S "vCategory.from_ical") 1756, .str (S "/claim/cut.py") 1757, .int (1071) 0, .int (1) 0, .int (0) 0, .int (0) 0, .int (3) 0, .ref 774, .bool true, .int (276) 0, .ref 775, .none, .ref 776, .ref 777, .ref 778, .int (1759) 0, .int (1071) 0, .str (S "/claim/cut.py") 1760]⟩, ⟨[]⟩⟩
def o780_41 (P : Params) : Obj := ⟨.type "function", .none, .func (fn (su 41 4) (S "vCategory.from_ical") 3 [] (.none) (.none) (.str (dS (su 41 4)) 1761) (.str (S "icalendar.prop.categories") 1720) (.some (783)) (.ref 779) (.none) 0), ⟨[]⟩⟩
def o781_41 (P : Params) : Obj := ⟨.type "dict", .none, .dict ⟨[kv P (S "__module__") 1763 (.str (S "icalendar.prop.categories") 1720), kv P (S "__name__") 1766 (.str (S "from_ical") 1765), kv P (S "__qualname__") 1769 (.str (S "vCategory.from_ical") 1768), kv P (S "__doc__") 1771 (.str (dS (su 41 4)) 1761), kv P (S "__annotations__") 1773 (.ref 783)]⟩ 5, ⟨[]⟩⟩
def o782_41 (P : Params) : Obj := ⟨.type "staticmethod", (.some (781)), .fields ⟨[.ref 780, .bool false]⟩, ⟨[]⟩⟩
def o783_41 (P : Params) : Obj := ⟨.type "dict", .none, .dict ⟨[]⟩ 0, ⟨[]⟩⟩
def o784_41 (P : Params) : Obj := ⟨.type "tuple", .none, .seq ⟨[]⟩ 0, ⟨[]⟩⟩
def o785_41 (P : Params) : Obj := ⟨.none, .none, .fields ⟨[]⟩, ⟨[]⟩⟩
def o786_41 (P : Params) : Obj := ⟨.type "tuple", .none, .seq ⟨[.str (S "self") 1778, .str (S "other") 1779]⟩ 0, ⟨[]⟩⟩
def o787_41 (P : Params) : Obj := ⟨.type "tuple", .none, .seq ⟨[]⟩ 0, ⟨[]⟩⟩
def o788_41 (P : Params) : Obj := ⟨.none, .none, .func (fn (su 41 5) (S "vCategory.__eq__") 0 [] (.none) (.none) (.none) (.none) .none (.none) (.none) 0), ⟨[]⟩⟩
def o789_41 (P : Params) : Obj := ⟨.type "code", .none, .fields ⟨[.str (S "__eq__") 1775, .str (S "vCategory.__eq__") 1776, .str (S "/claim/cut.py") 1777, .int (1096) 0, .int (2) 0, .int (0) 0, .int (0) 0, .int (3) 0, .ref 784, .bool true, .int (276) 0, .ref 785, .none, .ref 786, .ref 787, .ref 788, .int (1780) 0, .int (1096) 0, .str (S "/claim/cut.py") 1781]⟩, ⟨[]⟩⟩
def o790_41 (P : Params) : Obj := ⟨.type "function", .none, .func (fn (su 41 5) (S "vCategory.__eq__") 3 [] (.none) (.none) (.str (dS (su 34 5)) 1782) (.str (S "icalendar.prop.categories") 1720) .none (.ref 789) (.none) 0), ⟨[]⟩⟩
def o791_41 (P : Params) : Obj := ⟨.type "tuple", .none, .seq ⟨[]⟩ 0, ⟨[]⟩⟩
def o792_41 (P : Params) : Obj := ⟨.none, .none, .fields ⟨[]⟩, ⟨[]⟩⟩
def o793_41 (P : Params) : Obj := ⟨.type "tuple", .none, .seq ⟨[.str (S "self") 1787]⟩ 0, ⟨[]⟩⟩
def o794_41 (P : Params) : Obj := ⟨.type "tuple", .none, .seq ⟨[]⟩ 0, ⟨[]⟩⟩
def o795_41 (P : Params) : Obj := ⟨.none, .none, .func (fn (su 41 6) (S "vCategory.ical_value") 0 [] (.none) (.none) (.none) (.none) .none (.none) (.none) 0), ⟨[]⟩⟩
def o796_41 (P : Params) : Obj := ⟨.type "code", .none, .fields ⟨[.str (S "ical_value") 1784, .str (S "vCategory.ical_value") 1785, .str (S "/claim/cut.py") 1786, .int (1100) 0, .int (1) 0, .int (0) 0, .int (0) 0, .int (3) 0, .ref 791, .bool true, .int (276) 0, .ref 792, .none, .ref 793, .ref 794, .ref 795, .int (1788) 0, .int (1100) 0, .str (S "/claim/cut.py") 1789]⟩, ⟨[]⟩⟩
def o797_41 (P : Params) : Obj := ⟨.type "function", .none, .func (fn (su 41 6) (S "vCategory.ical_value") 3 [] (.none) (.none) (.none) (.str (S "icalendar.prop.categories") 1720) .none (.ref 796) (.none) 0), ⟨[]⟩⟩
def o798_41 (P : Params) : Obj := ⟨.type "property", .none, .fields ⟨[.ref 797, .none, .none, .none, .str (S "ical_value") 1791, .bool false]⟩, ⟨[]⟩⟩
def o799_41 (P : Params) : Obj := ⟨.type "tuple", .none, .seq ⟨[.str (S "cats") 1792, .str (S "params") 1793]⟩ 0, ⟨[]⟩⟩
def o800_41 (P : Params) : Obj := ⟨.type "dict", .none, .dict ⟨[kv P (S "__module__") 1729 (.str (S "icalendar.prop.categories") 1720), kv P (S "__firstlineno__") 1733 (.int (1056) 1732), kv P (S "default_value") 1735 (.str (S "TEXT") 1734), kv P (S "__init__") 1741 (.ref 761), kv P (S "__iter__") 1748 (.ref 768), kv P (S "to_ical") 1754 (.ref 773), kv P (S "from_ical") 1774 (.ref 782), kv P (S "__eq__") 1783 (.ref 790), kv P (S "ical_value") 1791 (.ref 798), kv P (S "__static_attributes__") 1794 (.ref 799), kv P (S "__dict__") 1796 (.ref 802), kv P (S "__weakref__") 1798 (.ref 803), kv P (S "__doc__") 1799 (.none), kv P (S "__hash__") 1800 (.none)]⟩ 5, ⟨[]⟩⟩
def o801_41 (P : Params) : Obj := ⟨.type "type", .none, .cls ⟨(S "vCategory"), [.type "object"], [.ref 801, .type "object"], 800, (S "vCategory"), true, [], [], false, .none, false⟩, ⟨[.none, .none, (.some (.str (S "vCategory") 1722)), (.some (.str (S "vCategory") 1730)), (.some (.builtin "object.__new__")), (.some (.bool true))]⟩⟩
def o802_41 (P : Params) : Obj := ⟨.type "getset_descriptor", .none, .fields ⟨[.str (S "__dict__") 1795, .ref 801, .builtin "function.__dict__", .builtin "function.__dict__#set"]⟩, ⟨[]⟩⟩
def o803_41 (P : Params) : Obj := ⟨.type "getset_descriptor", .none, .fields ⟨[.str (S "__weakref__") 1797, .ref 801, .builtin "ExceptionGroup.__weakref__", .none]⟩, ⟨[]⟩⟩
def o804_41 (P : Params) : Obj := ⟨.type "super", .none, .fields ⟨[.ref 801, .ref 801, .ref 801]⟩, ⟨[]⟩⟩
def o805_41 (P : Params) : Obj := ⟨.type "builtin_function_or_method", .none, .fields ⟨[.builtin "object.__init_subclass__", .ref 801]⟩, ⟨[]⟩⟩
def T41 (P : Params) : BT := (((((((((((((((((((((((((((((((((((((((((((((((((((((((((((T40 P).set 3 (fun _ => o3_41 P)).set 29 (fun _ => o29_41 P)).ins 749 (o749_41 P)).ins 750 (o750_41 P)).ins 751 (o751_41 P)).ins 752 (o752_41 P)).ins 753 (o753_41 P)).ins 754 (o754_41 P)).ins 755 (o755_41 P)).ins 756 (o756_41 P)).ins 757 (o757_41 P)).ins 758 (o758_41 P)).ins 759 (o759_41 P)).ins 760 (o760_41 P)).ins 761 (o761_41 P)).ins 762 (o762_41 P)).ins 763 (o763_41 P)).ins 764 (o764_41 P)).ins 765 (o765_41 P)).ins 766 (o766_41 P)).ins 767 (o767_41 P)).ins 768 (o768_41 P)).ins 769 (o769_41 P)).ins 770 (o770_41 P)).ins 771 (o771_41 P)).ins 772 (o772_41 P)).ins 773 (o773_41 P)).ins 774 (o774_41 P)).ins 775 (o775_41 P)).ins 776 (o776_41 P)).ins 777 (o777_41 P)).ins 778 (o778_41 P)).ins 779 (o779_41 P)).ins 780 (o780_41 P)).ins 781 (o781_41 P)).ins 782 (o782_41 P)).ins 783 (o783_41 P)).ins 784 (o784_41 P)).ins 785 (o785_41 P)).ins 786 (o786_41 P)).ins 787 (o787_41 P)).ins 788 (o788_41 P)).ins 789 (o789_41 P)).ins 790 (o790_41 P)).ins 791 (o791_41 P)).ins 792 (o792_41 P)).ins 793 (o793_41 P)).ins 794 (o794_41 P)).ins 795 (o795_41 P)).ins 796 (o796_41 P)).ins 797 (o797_41 P)).ins 798 (o798_41 P)).ins 799 (o799_41 P)).ins 800 (o800_41 P)).ins 801 (o801_41 P)).ins 802 (o802_41 P)).ins 803 (o803_41 P)).ins 804 (o804_41 P)).ins 805 (o805_41 P)
def o3_42 (P : Params) : Obj := ⟨.type "dict", .none, .dict ⟨[kv P (S "__name__") 165 (.str (S "icalendar.prop.org") 1803), kv P (S "__doc__") 166 (.none), kv P (S "__package__") 167 (.none), kv P (S "__loader__") 168 (.builtin "__main__.__loader__#opaque"), kv P (S "__spec__") 169 (.none), kv P (S "__annotations__") 170 (.ref 6), kv P (S "__builtins__") 171 (.ref 4), kv P (S "__file__") 173 (.str (S "/claim/cut.py") 172), kv P (S "__cached__") 174 (.none), kv P (S "_sre") 275 (.ref 12), kv P (S "_wall") 288 (.ref 38), kv P (S "SEQUENCE_TYPES") 291 (.ref 39), kv P (S "DEFAULT_ENCODING") 293 (.str (S "utf-8") 292), kv P (S "to_unicode") 303 (.ref 47), kv P (S "CaselessDict") 476 (.ref 174), kv P (S "_escape_char") 486 (.ref 185), kv P (S "NAME") 511 (.ref 190), kv P (S "validate_token") 520 (.ref 197), kv P (S "param_value") 529 (.ref 203), kv P (S "UNSAFE_CHAR") 563 (.ref 208), kv P (S "QUNSAFE_CHAR") 597 (.ref 213), kv P (S "validate_param_value") 607 (.ref 221), kv P (S "QUOTABLE") 803 (.ref 226), kv P (S "dquote") 812 (.ref 234), kv P (S "q_split") 832 (.ref 242), kv P (S "q_join") 844 (.ref 250), kv P (S "Parameters") 950 (.ref 303), kv P (S "rfc_6868_unescape") 962 (.ref 312), kv P (S "rfc_6868_escape") 973 (.ref 319), kv P (S "unescape_backslash") 985 (.ref 326), kv P (S "split_on_unescaped_comma") 996 (.ref 333), kv P (S "split_on_unescaped_semicolon") 1007 (.ref 340), kv P (S "vText") 1089 (.ref 387), kv P (S "_tuplegetter") 1148 (.ref 606), kv P (S "tuplegetter_n") 1149 (.ref 431), kv P (S "NFields") 1308 (.ref 512), kv P (S "vN") 1390 (.ref 563), kv P (S "tuplegetter_adr") 1450 (.ref 606), kv P (S "AdrFields") 1637 (.ref 693), kv P (S "vAdr") 1719 (.ref 744), kv P (S "vCategory") 1802 (.ref 801)]⟩ 41, ⟨[]⟩⟩
def T42 (P : Params) : BT := (T41 P).set 3 (fun _ => o3_42 P)
def o3_43 (P : Params) : Obj := ⟨.type "dict", .none, .dict ⟨[kv P (S "__name__") 165 (.str (S "icalendar.prop.org") 1803), kv P (S "__doc__") 166 (.none), kv P (S "__package__") 167 (.none), kv P (S "__loader__") 168 (.builtin "__main__.__loader__#opaque"), kv P (S "__spec__") 169 (.none), kv P (S "__annotations__") 170 (.ref 6), kv P (S "__builtins__") 171 (.ref 4), kv P (S "__file__") 173 (.str (S "/claim/cut.py") 172), kv P (S "__cached__") 174 (.none), kv P (S "_sre") 275 (.ref 12), kv P (S "_wall") 288 (.ref 38), kv P (S "SEQUENCE_TYPES") 291 (.ref 39), kv P (S "DEFAULT_ENCODING") 293 (.str (S "utf-8") 292), kv P (S "to_unicode") 303 (.ref 47), kv P (S "CaselessDict") 476 (.ref 174), kv P (S "_escape_char") 486 (.ref 185), kv P (S "NAME") 511 (.ref 190), kv P (S "validate_token") 520 (.ref 197), kv P (S "param_value") 529 (.ref 203), kv P (S "UNSAFE_CHAR") 563 (.ref 208), kv P (S "QUNSAFE_CHAR") 597 (.ref 213), kv P (S "validate_param_value") 607 (.ref 221), kv P (S "QUOTABLE") 803 (.ref 226), kv P (S "dquote") 812 (.ref 234), kv P (S "q_split") 832 (.ref 242), kv P (S "q_join") 844 (.ref 250), kv P (S "Parameters") 950 (.ref 303), kv P (S "rfc_6868_unescape") 962 (.ref 312), kv P (S "rfc_6868_escape") 973 (.ref 319), kv P (S "unescape_backslash") 985 (.ref 326), kv P (S "split_on_unescaped_comma") 996 (.ref 333), kv P (S "split_on_unescaped_semicolon") 1007 (.ref 340), kv P (S "vText") 1089 (.ref 387), kv P (S "_tuplegetter") 1148 (.ref 606), kv P (S "tuplegetter_n") 1149 (.ref 431), kv P (S "NFields") 1308 (.ref 512), kv P (S "vN") 1390 (.ref 563), kv P (S "tuplegetter_adr") 1450 (.ref 606), kv P (S "AdrFields") 1637 (.ref 693), kv P (S "vAdr") 1719 (.ref 744), kv P (S "vCategory") 1802 (.ref 801), kv P (S "vOrg") 1904 (.ref 869)]⟩ 42, ⟨[]⟩⟩
def o29_43 (P : Params) : Obj := ⟨.none, .none, .fields ⟨[.int (2) 0, .int (0) 0, .ref 37, .int (8) 0, .int (0) 0, .ref 46, .int (22) 0, .int (0) 0, .ref 54, .int (201) 0, .int (0) 0, .ref 184, .int (236) 0, .int (0) 0, .ref 196, .int (253) 0, .int (0) 0, .ref 202, .int (275) 0, .int (0) 0, .ref 220, .int (294) 0, .int (0) 0, .ref 233, .int (315) 0, .int (0) 0, .ref 241, .int (360) 0, .int (0) 0, .ref 249, .int (385) 0, .int (0) 0, .ref 257, .int (528) 0, .int (0) 0, .ref 311, .int (544) 0, .int (0) 0, .ref 318, .int (557) 0, .int (0) 0, .ref 325, .int (576) 0, .int (0) 0, .ref 332, .int (620) 0, .int (0) 0, .ref 339, .int (666) 0, .int (0) 0, .ref 347, .int (750) 0, .int (0) 0, .ref 398, .int (769) 0, .int (0) 0, .ref 442, .int (822) 0, .int (0) 0, .ref 521, .int (900) 0, .int (0) 0, .ref 573, .int (919) 0, .int (0) 0, .ref 617, .int (976) 0, .int (0) 0, .ref 702, .int (1056) 0, .int (0) 0, .ref 754, .int (1104) 0, .int (0) 0, .ref 811]⟩, ⟨[]⟩⟩
def o806_43 (P : Params) : Obj := ⟨.type "tuple", .none, .seq ⟨[]⟩ 0, ⟨[]⟩⟩
def o807_43 (P : Params) : Obj := ⟨.type "builtin_function_or_method", .none, .fields ⟨[.builtin "type.__prepare__", .type "type"]⟩, ⟨[]⟩⟩
def o808_43 (P : Params) : Obj := ⟨.type "dict", .none, .dict ⟨[kv P (S "__module__") 1812 (.str (S "icalendar.prop.org") 1803), kv P (S "__qualname__") 1814 (.str (S "vOrg") 1813), kv P (S "__firstlineno__") 1816 (.int (1104) 1815), kv P (S "__doc__") 1818 (.str (dS (st 43)) 1817), kv P (S "default_value") 1821 (.str (S "TEXT") 1820), kv P (S "__init__") 1831 (.ref 820), kv P (S "to_ical") 1838 (.ref 825), kv P (S "from_ical") 1859 (.ref 834), kv P (S "__eq__") 1868 (.ref 842), kv P (S "name") 1877 (.ref 850), kv P (S "units") 1886 (.ref 858), kv P (S "ical_value") 1894 (.ref 866), kv P (S "__static_attributes__") 1897 (.ref 867)]⟩ 13, ⟨[]⟩⟩
def o809_43 (P : Params) : Obj := ⟨.type "tuple", .none, .seq ⟨[]⟩ 0, ⟨[]⟩⟩
def o810_43 (P : Params) : Obj := ⟨.none, .none, .fields ⟨[.int (1142) 0, .int (4) 0, .ref 819, .int (1157) 0, .int (4) 0, .ref 824, .int (1163) 0, .int (4) 0, .ref 831, .int (1176) 0, .int (4) 0, .ref 841, .int (1181) 0, .int (4) 0, .ref 848, .int (1186) 0, .int (4) 0, .ref 856, .int (1191) 0, .int (4) 0, .ref 864]⟩, ⟨[]⟩⟩
def o811_43 (P : Params) : Obj := ⟨.type "code", .none, .fields ⟨[.str (S "vOrg") 1807, .str (S "vOrg") 1808, .str (S "/claim/cut.py") 1809, .int (1104) 0, .int (0) 0, .int (0) 0, .int (0) 0, .int (0) 0, .ref 809, .bool false, .int (276) 0, .ref 810, .none, .none, .none, .none, .int (1810) 0, .int (1104) 0, .str (S "/claim/cut.py") 1811]⟩, ⟨[]⟩⟩
def o812_43 (P : Params) : Obj := ⟨.type "frame", .none, .plain, ⟨[(.some (.ref 811)), (.some (.ref 3)), (.some (.ref 808)), .none, (.some (.str (S "icalendar.prop.org") 1803)), .none, (.some (.ref 0))]⟩⟩
def o813_43 (P : Params) : Obj := ⟨.type "tuple", .none, .seq ⟨[.none]⟩ 0, ⟨[]⟩⟩
def o814_43 (P : Params) : Obj := ⟨.type "tuple", .none, .seq ⟨[]⟩ 0, ⟨[]⟩⟩
def o815_43 (P : Params) : Obj := ⟨.none, .none, .fields ⟨[]⟩, ⟨[]⟩⟩
def o816_43 (P : Params) : Obj := ⟨.type "tuple", .none, .seq ⟨[.str (S "self") 1825, .str (S "fields") 1826, .str (S "params") 1827]⟩ 0, ⟨[]⟩⟩
def o817_43 (P : Params) : Obj := ⟨.type "tuple", .none, .seq ⟨[]⟩ 0, ⟨[]⟩⟩
def o818_43 (P : Params) : Obj := ⟨.none, .none, .func (fn (su 43 2) (S "vOrg.__init__") 0 [] (.none) (.none) (.none) (.none) .none (.none) (.none) 0), ⟨[]⟩⟩
def o819_43 (P : Params) : Obj := ⟨.type "code", .none, .fields ⟨[.str (S "__init__") 1822, .str (S "vOrg.__init__") 1823, .str (S "/claim/cut.py") 1824, .int (1142) 0, .int (3) 0, .int (0) 0, .int (0) 0, .int (3) 0, .ref 814, .bool true, .int (276) 0, .ref 815, .none, .ref 816, .ref 817, .ref 818, .int (1828) 0, .int (1142) 0, .str (S "/claim/cut.py") 1829]⟩, ⟨[]⟩⟩
def o820_43 (P : Params) : Obj := ⟨.type "function", .none, .func (fn (su 43 2) (S "vOrg.__init__") 3 [] (.ref 813) (.none) (.str (dS (su 43 2)) 1830) (.str (S "icalendar.prop.org") 1803) .none (.ref 819) (.none) 0), ⟨[]⟩⟩
def o821_43 (P : Params) : Obj := ⟨.type "tuple", .none, .seq ⟨[]⟩ 0, ⟨[]⟩⟩
def o822_43 (P : Params) : Obj := ⟨.none, .none, .fields ⟨[]⟩, ⟨[]⟩⟩
def o823_43 (P : Params) : Obj := ⟨.none, .none, .func (fn (su 43 3) (S "vOrg.to_ical") 0 [] (.none) (.none) (.none) (.none) .none (.none) (.none) 0), ⟨[]⟩⟩
def o824_43 (P : Params) : Obj := ⟨.type "code", .none, .fields ⟨[.str (S "to_ical") 1832, .str (S "vOrg.to_ical") 1833, .str (S "/claim/cut.py") 1834, .int (1157) 0, .int (1) 0, .int (0) 0, .int (0) 0, .int (3) 0, .ref 821, .bool true, .int (276) 0, .ref 822, .none, .none, .none, .ref 823, .int (1835) 0, .int (1157) 0, .str (S "/claim/cut.py") 1836]⟩, ⟨[]⟩⟩
def o825_43 (P : Params) : Obj := ⟨.type "function", .none, .func (fn (su 43 3) (S "vOrg.to_ical") 3 [] (.none) (.none) (.str (dS (su 34 3)) 1837) (.str (S "icalendar.prop.org") 1803) .none (.ref 824) (.none) 0), ⟨[]⟩⟩
def o826_43 (P : Params) : Obj := ⟨.type "tuple", .none, .seq ⟨[]⟩ 0, ⟨[]⟩⟩
def o827_43 (P : Params) : Obj := ⟨.none, .none, .fields ⟨[]⟩, ⟨[]⟩⟩
def o828_43 (P : Params) : Obj := ⟨.type "tuple", .none, .seq ⟨[.str (S "ical") 1842, .str (S "fields") 1843]⟩ 0, ⟨[]⟩⟩
def o829_43 (P : Params) : Obj := ⟨.type "tuple", .none, .seq ⟨[]⟩ 0, ⟨[]⟩⟩
def o830_43 (P : Params) : Obj := ⟨.none, .none, .func (fn (su 43 4) (S "vOrg.from_ical") 0 [] (.none) (.none) (.none) (.none) .none (.none) (.none) 0), ⟨[]⟩⟩
def o831_43 (P : Params) : Obj := ⟨.type "code", .none, .fields ⟨[.str (S "from_ical") 1839, .str (S "vOrg.from_ical") 1840, .str (S "/claim/cut.py") 1841, .int (1162) 0, .int (1) 0, .int (0) 0, .int (0) 0, .int (3) 0, .ref 826, .bool true, .int (276) 0, .ref 827, .none, .ref 828, .ref 829, .ref 830, .int (1844) 0, .int (1162) 0, .str (S "/claim/cut.py") 1845]⟩, ⟨[]⟩⟩
def o832_43 (P : Params) : Obj := ⟨.type "function", .none, .func (fn (su 43 4) (S "vOrg.from_ical") 3 [] (.none) (.none) (.str (dS (su 43 4)) 1846) (.str (S "icalendar.prop.org") 1803) (.some (835)) (.ref 831) (.none) 0), ⟨[]⟩⟩
def o833_43 (P : Params) : Obj := ⟨.type "dict", .none, .dict ⟨[kv P (S "__module__") 1848 (.str (S "icalendar.prop.org") 1803), kv P (S "__name__") 1851 (.str (S "from_ical") 1850), kv P (S "__qualname__") 1854 (.str (S "vOrg.from_ical") 1853), kv P (S "__doc__") 1856 (.str (dS (su 43 4)) 1846), kv P (S "__annotations__") 1858 (.ref 835)]⟩ 5, ⟨[]⟩⟩
def o834_43 (P : Params) : Obj := ⟨.type "staticmethod", (.some (833)), .fields ⟨[.ref 832, .bool false]⟩, ⟨[]⟩⟩
def o835_43 (P : Params) : Obj := ⟨.type "dict", .none, .dict ⟨[]⟩ 0, ⟨[]⟩⟩
def o836_43 (P : Params) : Obj := ⟨.type "tuple", .none, .seq ⟨[]⟩ 0, ⟨[]⟩⟩
def o837_43 (P : Params) : Obj := ⟨.none, .none, .fields ⟨[]⟩, ⟨[]⟩⟩
def o838_43 (P : Params) : Obj := ⟨.type "tuple", .none, .seq ⟨[.str (S "self") 1863, .str (S "other") 1864]⟩ 0, ⟨[]⟩⟩
def o839_43 (P : Params) : Obj := ⟨.type "tuple", .none, .seq ⟨[]⟩ 0, ⟨[]⟩⟩
def o840_43 (P : Params) : Obj := ⟨.none, .none, .func (fn (su 43 5) (S "vOrg.__eq__") 0 [] (.none) (.none) (.none) (.none) .none (.none) (.none) 0), ⟨[]⟩⟩
def o841_43 (P : Params) : Obj := ⟨.type "code", .none, .fields ⟨[.str (S "__eq__") 1860, .str (S "vOrg.__eq__") 1861, .str (S "/claim/cut.py") 1862, .int (1176) 0, .int (2) 0, .int (0) 0, .int (0) 0, .int (3) 0, .ref 836, .bool true, .int (276) 0, .ref 837, .none, .ref 838, .ref 839, .ref 840, .int (1865) 0, .int (1176) 0, .str (S "/claim/cut.py") 1866]⟩, ⟨[]⟩⟩
def o842_43 (P : Params) : Obj := ⟨.type "function", .none, .func (fn (su 43 5) (S "vOrg.__eq__") 3 [] (.none) (.none) (.str (dS (su 34 5)) 1867) (.str (S "icalendar.prop.org") 1803) .none (.ref 841) (.none) 0), ⟨[]⟩⟩
def o843_43 (P : Params) : Obj := ⟨.type "tuple", .none, .seq ⟨[]⟩ 0, ⟨[]⟩⟩
def o844_43 (P : Params) : Obj := ⟨.none, .none, .fields ⟨[]⟩, ⟨[]⟩⟩
def o845_43 (P : Params) : Obj := ⟨.type "tuple", .none, .seq ⟨[.str (S "self") 1872]⟩ 0, ⟨[]⟩⟩
def o846_43 (P : Params) : Obj := ⟨.type "tuple", .none, .seq ⟨[]⟩ 0, ⟨[]⟩⟩
def o847_43 (P : Params) : Obj := ⟨.none, .none, .func (fn (su 43 6) (S "vOrg.name") 0 [] (.none) (.none) (.none) (.none) .none (.none) (.none) 0), ⟨[]⟩⟩
def o848_43 (P : Params) : Obj := ⟨.type "code", .none, .fields ⟨[.str (S "name") 1869, .str (S "vOrg.name") 1870, .str (S "/claim/cut.py") 1871, .int (1180) 0, .int (1) 0, .int (0) 0, .int (0) 0, .int (3) 0, .ref 843, .bool true, .int (276) 0, .ref 844, .none, .ref 845, .ref 846, .ref 847, .int (1873) 0, .int (1180) 0, .str (S "/claim/cut.py") 1874]⟩, ⟨[]⟩⟩
def o849_43 (P : Params) : Obj := ⟨.type "function", .none, .func (fn (su 43 6) (S "vOrg.name") 3 [] (.none) (.none) (.str (dS (su 43 6)) 1875) (.str (S "icalendar.prop.org") 1803) .none (.ref 848) (.none) 0), ⟨[]⟩⟩
def o850_43 (P : Params) : Obj := ⟨.type "property", .none, .fields ⟨[.ref 849, .none, .none, .str (dS (su 43 6)) 1875, .str (S "name") 1877, .bool true]⟩, ⟨[]⟩⟩
def o851_43 (P : Params) : Obj := ⟨.type "tuple", .none, .seq ⟨[]⟩ 0, ⟨[]⟩⟩
def o852_43 (P : Params) : Obj := ⟨.none, .none, .fields ⟨[]⟩, ⟨[]⟩⟩
def o853_43 (P : Params) : Obj := ⟨.type "tuple", .none, .seq ⟨[.str (S "self") 1881]⟩ 0, ⟨[]⟩⟩
def o854_43 (P : Params) : Obj := ⟨.type "tuple", .none, .seq ⟨[]⟩ 0, ⟨[]⟩⟩
def o855_43 (P : Params) : Obj := ⟨.none, .none, .func (fn (su 43 7) (S "vOrg.units") 0 [] (.none) (.none) (.none) (.none) .none (.none) (.none) 0), ⟨[]⟩⟩
def o856_43 (P : Params) : Obj := ⟨.type "code", .none, .fields ⟨[.str (S "units") 1878, .str (S "vOrg.units") 1879, .str (S "/claim/cut.py") 1880, .int (1185) 0, .int (1) 0, .int (0) 0, .int (0) 0, .int (3) 0, .ref 851, .bool true, .int (276) 0, .ref 852, .none, .ref 853, .ref 854, .ref 855, .int (1882) 0, .int (1185) 0, .str (S "/claim/cut.py") 1883]⟩, ⟨[]⟩⟩
def o857_43 (P : Params) : Obj := ⟨.type "function", .none, .func (fn (su 43 7) (S "vOrg.units") 3 [] (.none) (.none) (.str (dS (su 43 7)) 1884) (.str (S "icalendar.prop.org") 1803) .none (.ref 856) (.none) 0), ⟨[]⟩⟩
def o858_43 (P : Params) : Obj := ⟨.type "property", .none, .fields ⟨[.ref 857, .none, .none, .str (dS (su 43 7)) 1884, .str (S "units") 1886, .bool true]⟩, ⟨[]⟩⟩
def o859_43 (P : Params) : Obj := ⟨.type "tuple", .none, .seq ⟨[]⟩ 0, ⟨[]⟩⟩
def o860_43 (P : Params) : Obj := ⟨.none, .none, .fields ⟨[]⟩, ⟨[]⟩⟩
def o861_43 (P : Params) : Obj := ⟨.type "tuple", .none, .seq ⟨[.str (S "self") 1890]⟩ 0, ⟨[]⟩⟩
def o862_43 (P : Params) : Obj := ⟨.type "tuple", .none, .seq ⟨[]⟩ 0, ⟨[]⟩⟩
def o863_43 (P : Params) : Obj := ⟨.none, .none, .func (fn (su 43 8) (S "vOrg.ical_value") 0 [] (.none) (.none) (.none) (.none) .none (.none) (.none) 0), ⟨[]⟩⟩
def o864_43 (P : Params) : Obj := ⟨.type "code", .none, .fields ⟨[.str (S "ical_value") 1887, .str (S "vOrg.ical_value") 1888, .str (S "/claim/cut.py") 1889, .int (1190) 0, .int (1) 0, .int (0) 0, .int (0) 0, .int (3) 0, .ref 859, .bool true, .int (276) 0, .ref 860, .none, .ref 861, .ref 862, .ref 863, .int (1891) 0, .int (1190) 0, .str (S "/claim/cut.py") 1892]⟩, ⟨[]⟩⟩
def o865_43 (P : Params) : Obj := ⟨.type "function", .none, .func (fn (su 43 8) (S "vOrg.ical_value") 3 [] (.none) (.none) (.none) (.str (S "icalendar.prop.org") 1803) .none (.ref 864) (.none) 0), ⟨[]⟩⟩
def o866_43 (P : Params) : Obj := ⟨.type "property", .none, .fields ⟨[.ref 865, .none, .none, .none, .str (S "ical_value") 1894, .bool false]⟩, ⟨[]⟩⟩
def o867_43 (P : Params) : Obj := ⟨.type "tuple", .none, .seq ⟨[.str (S "fields") 1895, .str (S "params") 1896]⟩ 0, ⟨[]⟩⟩
def o868_43 (P : Params) : Obj := ⟨.type "dict", .none, .dict ⟨[kv P (S "__module__") 1812 (.str (S "icalendar.prop.org") 1803), kv P (S "__firstlineno__") 1816 (.int (1104) 1815), kv P (S "__doc__") 1818 (.str (dS (st 43)) 1817), kv P (S "default_value") 1821 (.str (S "TEXT") 1820), kv P (S "__init__") 1831 (.ref 820), kv P (S "to_ical") 1838 (.ref 825), kv P (S "from_ical") 1859 (.ref 834), kv P (S "__eq__") 1868 (.ref 842), kv P (S "name") 1877 (.ref 850), kv P (S "units") 1886 (.ref 858), kv P (S "ical_value") 1894 (.ref 866), kv P (S "__static_attributes__") 1897 (.ref 867), kv P (S "__dict__") 1899 (.ref 870), kv P (S "__weakref__") 1901 (.ref 871), kv P (S "__hash__") 1902 (.none)]⟩ 4, ⟨[]⟩⟩
def o869_43 (P : Params) : Obj := ⟨.type "type", .none, .cls ⟨(S "vOrg"), [.type "object"], [.ref 869, .type "object"], 868, (S "vOrg"), true, [], [], false, .none, false⟩, ⟨[.none, .none, (.some (.str (S "vOrg") 1805)), (.some (.str (S "vOrg") 1813)), (.some (.builtin "object.__new__")), (.some (.bool true))]⟩⟩
def o870_43 (P : Params) : Obj := ⟨.type "getset_descriptor", .none, .fields ⟨[.str (S "__dict__") 1898, .ref 869, .builtin "function.__dict__", .builtin "function.__dict__#set"]⟩, ⟨[]⟩⟩
def o871_43 (P : Params) : Obj := ⟨.type "getset_descriptor", .none, .fields ⟨[.str (S "__weakref__") 1900, .ref 869, .builtin "ExceptionGroup.__weakref__", .none]⟩, ⟨[]⟩⟩
def o872_43 (P : Params) : Obj := ⟨.type "super", .none, .fields ⟨[.ref 869, .ref 869, .ref 869]⟩, ⟨[]⟩⟩
def o873_43 (P : Params) : Obj := ⟨.type "builtin_function_or_method", .none, .fields ⟨[.builtin "object.__init_subclass__", .ref 869]⟩, ⟨[]⟩⟩
def T43 (P : Params) : BT := ((((((((((((((((((((((((((((((((((((((((((((((((((((((((((((((((((((((T42 P).set 3 (fun _ => o3_43 P)).set 29 (fun _ => o29_43 P)).ins 806 (o806_43 P)).ins 807 (o807_43 P)).ins 808 (o808_43 P)).ins 809 (o809_43 P)).ins 810 (o810_43 P)).ins 811 (o811_43 P)).ins 812 (o812_43 P)).ins 813 (o813_43 P)).ins 814 (o814_43 P)).ins 815 (o815_43 P)).ins 816 (o816_43 P)).ins 817 (o817_43 P)).ins 818 (o818_43 P)).ins 819 (o819_43 P)).ins 820 (o820_43 P)).ins 821 (o821_43 P)).ins 822 (o822_43 P)).ins 823 (o823_43 P)).ins 824 (o824_43 P)).ins 825 (o825_43 P)).ins 826 (o826_43 P)).ins 827 (o827_43 P)).ins 828 (o828_43 P)).ins 829 (o829_43 P)).ins 830 (o830_43 P)).ins 831 (o831_43 P)).ins 832 (o832_43 P)).ins 833 (o833_43 P)).ins 834 (o834_43 P)).ins 835 (o835_43 P)).ins 836 (o836_43 P)).ins 837 (o837_43 P)).ins 838 (o838_43 P)).ins 839 (o839_43 P)).ins 840 (o840_43 P)).ins 841 (o841_43 P)).ins 842 (o842_43 P)).ins 843 (o843_43 P)).ins 844 (o844_43 P)).ins 845 (o845_43 P)).ins 846 (o846_43 P)).ins 847 (o847_43 P)).ins 848 (o848_43 P)).ins 849 (o849_43 P)).ins 850 (o850_43 P)).ins 851 (o851_43 P)).ins 852 (o852_43 P)).ins 853 (o853_43 P)).ins 854 (o854_43 P)).ins 855 (o855_43 P)).ins 856 (o856_43 P)).ins 857 (o857_43 P)).ins 858 (o858_43 P)).ins 859 (o859_43 P)).ins 860 (o860_43 P)).ins 861 (o861_43 P)).ins 862 (o862_43 P)).ins 863 (o863_43 P)).ins 864 (o864_43 P)).ins 865 (o865_43 P)).ins 866 (o866_43 P)).ins 867 (o867_43 P)).ins 868 (o868_43 P)).ins 869 (o869_43 P)).ins 870 (o870_43 P)).ins 871 (o871_43 P)).ins 872 (o872_43 P)).ins 873 (o873_43 P)
def o3_44 (P : Params) : Obj := ⟨.type "dict", .none, .dict ⟨[kv P (S "__name__") 165 (.str (S "law_bl0008_01") 1905), kv P (S "__doc__") 166 (.none), kv P (S "__package__") 167 (.none), kv P (S "__loader__") 168 (.builtin "__main__.__loader__#opaque"), kv P (S "__spec__") 169 (.none), kv P (S "__annotations__") 170 (.ref 6), kv P (S "__builtins__") 171 (.ref 4), kv P (S "__file__") 173 (.str (S "/claim/cut.py") 172), kv P (S "__cached__") 174 (.none), kv P (S "_sre") 275 (.ref 12), kv P (S "_wall") 288 (.ref 38), kv P (S "SEQUENCE_TYPES") 291 (.ref 39), kv P (S "DEFAULT_ENCODING") 293 (.str (S "utf-8") 292), kv P (S "to_unicode") 303 (.ref 47), kv P (S "CaselessDict") 476 (.ref 174), kv P (S "_escape_char") 486 (.ref 185), kv P (S "NAME") 511 (.ref 190), kv P (S "validate_token") 520 (.ref 197), kv P (S "param_value") 529 (.ref 203), kv P (S "UNSAFE_CHAR") 563 (.ref 208), kv P (S "QUNSAFE_CHAR") 597 (.ref 213), kv P (S "validate_param_value") 607 (.ref 221), kv P (S "QUOTABLE") 803 (.ref 226), kv P (S "dquote") 812 (.ref 234), kv P (S "q_split") 832 (.ref 242), kv P (S "q_join") 844 (.ref 250), kv P (S "Parameters") 950 (.ref 303), kv P (S "rfc_6868_unescape") 962 (.ref 312), kv P (S "rfc_6868_escape") 973 (.ref 319), kv P (S "unescape_backslash") 985 (.ref 326), kv P (S "split_on_unescaped_comma") 996 (.ref 333), kv P (S "split_on_unescaped_semicolon") 1007 (.ref 340), kv P (S "vText") 1089 (.ref 387), kv P (S "_tuplegetter") 1148 (.ref 606), kv P (S "tuplegetter_n") 1149 (.ref 431), kv P (S "NFields") 1308 (.ref 512), kv P (S "vN") 1390 (.ref 563), kv P (S "tuplegetter_adr") 1450 (.ref 606), kv P (S "AdrFields") 1637 (.ref 693), kv P (S "vAdr") 1719 (.ref 744), kv P (S "vCategory") 1802 (.ref 801), kv P (S "vOrg") 1904 (.ref 869)]⟩ 42, ⟨[]⟩⟩
def T44 (P : Params) : BT := (T43 P).set 3 (fun _ => o3_44 P)
def o3_45 (P : Params) : Obj := ⟨.type "dict", .none, .dict ⟨[kv P (S "__name__") 165 (.str (S "law_bl0008_01") 1905), kv P (S "__doc__") 166 (.none), kv P (S "__package__") 167 (.none), kv P (S "__loader__") 168 (.builtin "__main__.__loader__#opaque"), kv P (S "__spec__") 169 (.none), kv P (S "__annotations__") 170 (.ref 6), kv P (S "__builtins__") 171 (.ref 4), kv P (S "__file__") 173 (.str (S "/claim/cut.py") 172), kv P (S "__cached__") 174 (.none), kv P (S "_sre") 275 (.ref 12), kv P (S "_wall") 288 (.ref 38), kv P (S "SEQUENCE_TYPES") 291 (.ref 39), kv P (S "DEFAULT_ENCODING") 293 (.str (S "utf-8") 292), kv P (S "to_unicode") 303 (.ref 47), kv P (S "CaselessDict") 476 (.ref 174), kv P (S "_escape_char") 486 (.ref 185), kv P (S "NAME") 511 (.ref 190), kv P (S "validate_token") 520 (.ref 197), kv P (S "param_value") 529 (.ref 203), kv P (S "UNSAFE_CHAR") 563 (.ref 208), kv P (S "QUNSAFE_CHAR") 597 (.ref 213), kv P (S "validate_param_value") 607 (.ref 221), kv P (S "QUOTABLE") 803 (.ref 226), kv P (S "dquote") 812 (.ref 234), kv P (S "q_split") 832 (.ref 242), kv P (S "q_join") 844 (.ref 250), kv P (S "Parameters") 950 (.ref 303), kv P (S "rfc_6868_unescape") 962 (.ref 312), kv P (S "rfc_6868_escape") 973 (.ref 319), kv P (S "unescape_backslash") 985 (.ref 326), kv P (S "split_on_unescaped_comma") 996 (.ref 333), kv P (S "split_on_unescaped_semicolon") 1007 (.ref 340), kv P (S "vText") 1089 (.ref 387), kv P (S "_tuplegetter") 1148 (.ref 606), kv P (S "tuplegetter_n") 1149 (.ref 431), kv P (S "NFields") 1308 (.ref 512), kv P (S "vN") 1390 (.ref 563), kv P (S "tuplegetter_adr") 1450 (.ref 606), kv P (S "AdrFields") 1637 (.ref 693), kv P (S "vAdr") 1719 (.ref 744), kv P (S "vCategory") 1802 (.ref 801), kv P (S "vOrg") 1904 (.ref 869), kv P (S "_law_signs") 1917 (.ref 874)]⟩ 43, ⟨[]⟩⟩
def o874_45 (P : Params) : Obj := ⟨.type "list", .none, .seq ⟨[.str (S "a") 1907, .str (S "n") 1908, .str (S ";") 1909, .str (S ",") 1910, .str (S ":") 1911, .str (S "\\") 1912, .str (S "\n") 1913, .str (S "\"") 1914, .str (S "é") 1915, .str (S " ") 1916]⟩ 0, ⟨[]⟩⟩
def T45 (P : Params) : BT := ((T44 P).set 3 (fun _ => o3_45 P)).ins 874 (o874_45 P)
def o3_46 (P : Params) : Obj := ⟨.type "dict", .none, .dict ⟨[kv P (S "__name__") 165 (.str (S "law_bl0008_01") 1905), kv P (S "__doc__") 166 (.none), kv P (S "__package__") 167 (.none), kv P (S "__loader__") 168 (.builtin "__main__.__loader__#opaque"), kv P (S "__spec__") 169 (.none), kv P (S "__annotations__") 170 (.ref 6), kv P (S "__builtins__") 171 (.ref 4), kv P (S "__file__") 173 (.str (S "/claim/cut.py") 172), kv P (S "__cached__") 174 (.none), kv P (S "_sre") 275 (.ref 12), kv P (S "_wall") 288 (.ref 38), kv P (S "SEQUENCE_TYPES") 291 (.ref 39), kv P (S "DEFAULT_ENCODING") 293 (.str (S "utf-8") 292), kv P (S "to_unicode") 303 (.ref 47), kv P (S "CaselessDict") 476 (.ref 174), kv P (S "_escape_char") 486 (.ref 185), kv P (S "NAME") 511 (.ref 190), kv P (S "validate_token") 520 (.ref 197), kv P (S "param_value") 529 (.ref 203), kv P (S "UNSAFE_CHAR") 563 (.ref 208), kv P (S "QUNSAFE_CHAR") 597 (.ref 213), kv P (S "validate_param_value") 607 (.ref 221), kv P (S "QUOTABLE") 803 (.ref 226), kv P (S "dquote") 812 (.ref 234), kv P (S "q_split") 832 (.ref 242), kv P (S "q_join") 844 (.ref 250), kv P (S "Parameters") 950 (.ref 303), kv P (S "rfc_6868_unescape") 962 (.ref 312), kv P (S "rfc_6868_escape") 973 (.ref 319), kv P (S "unescape_backslash") 985 (.ref 326), kv P (S "split_on_unescaped_comma") 996 (.ref 333), kv P (S "split_on_unescaped_semicolon") 1007 (.ref 340), kv P (S "vText") 1089 (.ref 387), kv P (S "_tuplegetter") 1148 (.ref 606), kv P (S "tuplegetter_n") 1149 (.ref 431), kv P (S "NFields") 1308 (.ref 512), kv P (S "vN") 1390 (.ref 563), kv P (S "tuplegetter_adr") 1450 (.ref 606), kv P (S "AdrFields") 1637 (.ref 693), kv P (S "vAdr") 1719 (.ref 744), kv P (S "vCategory") 1802 (.ref 801), kv P (S "vOrg") 1904 (.ref 869), kv P (S "_law_signs") 1917 (.ref 874), kv P (S "_law_next") 1926 (.ref 881)]⟩ 44, ⟨[]⟩⟩
def o29_46 (P : Params) : Obj := ⟨.none, .none, .fields ⟨[.int (2) 0, .int (0) 0, .ref 37, .int (8) 0, .int (0) 0, .ref 46, .int (22) 0, .int (0) 0, .ref 54, .int (201) 0, .int (0) 0, .ref 184, .int (236) 0, .int (0) 0, .ref 196, .int (253) 0, .int (0) 0, .ref 202, .int (275) 0, .int (0) 0, .ref 220, .int (294) 0, .int (0) 0, .ref 233, .int (315) 0, .int (0) 0, .ref 241, .int (360) 0, .int (0) 0, .ref 249, .int (385) 0, .int (0) 0, .ref 257, .int (528) 0, .int (0) 0, .ref 311, .int (544) 0, .int (0) 0, .ref 318, .int (557) 0, .int (0) 0, .ref 325, .int (576) 0, .int (0) 0, .ref 332, .int (620) 0, .int (0) 0, .ref 339, .int (666) 0, .int (0) 0, .ref 347, .int (750) 0, .int (0) 0, .ref 398, .int (769) 0, .int (0) 0, .ref 442, .int (822) 0, .int (0) 0, .ref 521, .int (900) 0, .int (0) 0, .ref 573, .int (919) 0, .int (0) 0, .ref 617, .int (976) 0, .int (0) 0, .ref 702, .int (1056) 0, .int (0) 0, .ref 754, .int (1104) 0, .int (0) 0, .ref 811, .int (1195) 0, .int (0) 0, .ref 880]⟩, ⟨[]⟩⟩
def o875_46 (P : Params) : Obj := ⟨.type "tuple", .none, .seq ⟨[]⟩ 0, ⟨[]⟩⟩
def o876_46 (P : Params) : Obj := ⟨.none, .none, .fields ⟨[]⟩, ⟨[]⟩⟩
def o877_46 (P : Params) : Obj := ⟨.type "tuple", .none, .seq ⟨[.str (S "state") 1921, .str (S "many") 1922, .str (S "found") 1923]⟩ 0, ⟨[]⟩⟩
def o878_46 (P : Params) : Obj := ⟨.type "tuple", .none, .seq ⟨[]⟩ 0, ⟨[]⟩⟩
def o879_46 (P : Params) : Obj := ⟨.none, .none, .func (fn (st 46) (S "_law_next") 0 [] (.none) (.none) (.none) (.none) .none (.none) (.none) 0), ⟨[]⟩⟩
def o880_46 (P : Params) : Obj := ⟨.type "code", .none, .fields ⟨[.str (S "_law_next") 1918, .str (S "_law_next") 1919, .str (S "/claim/cut.py") 1920, .int (1195) 0, .int (2) 0, .int (0) 0, .int (0) 0, .int (3) 0, .ref 875, .bool true, .int (276) 0, .ref 876, .none, .ref 877, .ref 878, .ref 879, .int (1924) 0, .int (1195) 0, .str (S "/claim/cut.py") 1925]⟩, ⟨[]⟩⟩
def o881_46 (P : Params) : Obj := ⟨.type "function", .none, .func (fn (st 46) (S "_law_next") 3 [] (.none) (.none) (.none) (.str (S "law_bl0008_01") 1905) .none (.ref 880) (.none) 0), ⟨[]⟩⟩
def T46 (P : Params) : BT := (((((((((T45 P).set 3 (fun _ => o3_46 P)).set 29 (fun _ => o29_46 P)).ins 875 (o875_46 P)).ins 876 (o876_46 P)).ins 877 (o877_46 P)).ins 878 (o878_46 P)).ins 879 (o879_46 P)).ins 880 (o880_46 P)).ins 881 (o881_46 P)
def o3_47 (P : Params) : Obj := ⟨.type "dict", .none, .dict ⟨[kv P (S "__name__") 165 (.str (S "law_bl0008_01") 1905), kv P (S "__doc__") 166 (.none), kv P (S "__package__") 167 (.none), kv P (S "__loader__") 168 (.builtin "__main__.__loader__#opaque"), kv P (S "__spec__") 169 (.none), kv P (S "__annotations__") 170 (.ref 6), kv P (S "__builtins__") 171 (.ref 4), kv P (S "__file__") 173 (.str (S "/claim/cut.py") 172), kv P (S "__cached__") 174 (.none), kv P (S "_sre") 275 (.ref 12), kv P (S "_wall") 288 (.ref 38), kv P (S "SEQUENCE_TYPES") 291 (.ref 39), kv P (S "DEFAULT_ENCODING") 293 (.str (S "utf-8") 292), kv P (S "to_unicode") 303 (.ref 47), kv P (S "CaselessDict") 476 (.ref 174), kv P (S "_escape_char") 486 (.ref 185), kv P (S "NAME") 511 (.ref 190), kv P (S "validate_token") 520 (.ref 197), kv P (S "param_value") 529 (.ref 203), kv P (S "UNSAFE_CHAR") 563 (.ref 208), kv P (S "QUNSAFE_CHAR") 597 (.ref 213), kv P (S "validate_param_value") 607 (.ref 221), kv P (S "QUOTABLE") 803 (.ref 226), kv P (S "dquote") 812 (.ref 234), kv P (S "q_split") 832 (.ref 242), kv P (S "q_join") 844 (.ref 250), kv P (S "Parameters") 950 (.ref 303), kv P (S "rfc_6868_unescape") 962 (.ref 312), kv P (S "rfc_6868_escape") 973 (.ref 319), kv P (S "unescape_backslash") 985 (.ref 326), kv P (S "split_on_unescaped_comma") 996 (.ref 333), kv P (S "split_on_unescaped_semicolon") 1007 (.ref 340), kv P (S "vText") 1089 (.ref 387), kv P (S "_tuplegetter") 1148 (.ref 606), kv P (S "tuplegetter_n") 1149 (.ref 431), kv P (S "NFields") 1308 (.ref 512), kv P (S "vN") 1390 (.ref 563), kv P (S "tuplegetter_adr") 1450 (.ref 606), kv P (S "AdrFields") 1637 (.ref 693), kv P (S "vAdr") 1719 (.ref 744), kv P (S "vCategory") 1802 (.ref 801), kv P (S "vOrg") 1904 (.ref 869), kv P (S "_law_signs") 1917 (.ref 874), kv P (S "_law_next") 1926 (.ref 881), kv P (S "_law_written") 1939 (.ref 888)]⟩ 45, ⟨[]⟩⟩
def o29_47 (P : Params) : Obj := ⟨.none, .none, .fields ⟨[.int (2) 0, .int (0) 0, .ref 37, .int (8) 0, .int (0) 0, .ref 46, .int (22) 0, .int (0) 0, .ref 54, .int (201) 0, .int (0) 0, .ref 184, .int (236) 0, .int (0) 0, .ref 196, .int (253) 0, .int (0) 0, .ref 202, .int (275) 0, .int (0) 0, .ref 220, .int (294) 0, .int (0) 0, .ref 233, .int (315) 0, .int (0) 0, .ref 241, .int (360) 0, .int (0) 0, .ref 249, .int (385) 0, .int (0) 0, .ref 257, .int (528) 0, .int (0) 0, .ref 311, .int (544) 0, .int (0) 0, .ref 318, .int (557) 0, .int (0) 0, .ref 325, .int (576) 0, .int (0) 0, .ref 332, .int (620) 0, .int (0) 0, .ref 339, .int (666) 0, .int (0) 0, .ref 347, .int (750) 0, .int (0) 0, .ref 398, .int (769) 0, .int (0) 0, .ref 442, .int (822) 0, .int (0) 0, .ref 521, .int (900) 0, .int (0) 0, .ref 573, .int (919) 0, .int (0) 0, .ref 617, .int (976) 0, .int (0) 0, .ref 702, .int (1056) 0, .int (0) 0, .ref 754, .int (1104) 0, .int (0) 0, .ref 811, .int (1195) 0, .int (0) 0, .ref 880, .int (1203) 0, .int (0) 0, .ref 887]⟩, ⟨[]⟩⟩
def o882_47 (P : Params) : Obj := ⟨.type "tuple", .none, .seq ⟨[]⟩ 0, ⟨[]⟩⟩
def o883_47 (P : Params) : Obj := ⟨.none, .none, .fields ⟨[]⟩, ⟨[]⟩⟩
def o884_47 (P : Params) : Obj := ⟨.type "tuple", .none, .seq ⟨[.str (S "state") 1930, .str (S "text") 1931, .str (S "part") 1932, .str (S "out") 1933, .str (S "k") 1934, .str (S "sign") 1935, .str (S "bare") 1936]⟩ 0, ⟨[]⟩⟩
def o885_47 (P : Params) : Obj := ⟨.type "tuple", .none, .seq ⟨[]⟩ 0, ⟨[]⟩⟩
def o886_47 (P : Params) : Obj := ⟨.none, .none, .func (fn (st 47) (S "_law_written") 0 [] (.none) (.none) (.none) (.none) .none (.none) (.none) 0), ⟨[]⟩⟩
def o887_47 (P : Params) : Obj := ⟨.type "code", .none, .fields ⟨[.str (S "_law_written") 1927, .str (S "_law_written") 1928, .str (S "/claim/cut.py") 1929, .int (1203) 0, .int (3) 0, .int (0) 0, .int (0) 0, .int (3) 0, .ref 882, .bool true, .int (276) 0, .ref 883, .none, .ref 884, .ref 885, .ref 886, .int (1937) 0, .int (1203) 0, .str (S "/claim/cut.py") 1938]⟩, ⟨[]⟩⟩
def o888_47 (P : Params) : Obj := ⟨.type "function", .none, .func (fn (st 47) (S "_law_written") 3 [] (.none) (.none) (.none) (.str (S "law_bl0008_01") 1905) .none (.ref 887) (.none) 0), ⟨[]⟩⟩
def T47 (P : Params) : BT := (((((((((T46 P).set 3 (fun _ => o3_47 P)).set 29 (fun _ => o29_47 P)).ins 882 (o882_47 P)).ins 883 (o883_47 P)).ins 884 (o884_47 P)).ins 885 (o885_47 P)).ins 886 (o886_47 P)).ins 887 (o887_47 P)).ins 888 (o888_47 P)
def o3_48 (P : Params) : Obj := ⟨.type "dict", .none, .dict ⟨[kv P (S "__name__") 165 (.str (S "law_bl0008_01") 1905), kv P (S "__doc__") 166 (.none), kv P (S "__package__") 167 (.none), kv P (S "__loader__") 168 (.builtin "__main__.__loader__#opaque"), kv P (S "__spec__") 169 (.none), kv P (S "__annotations__") 170 (.ref 6), kv P (S "__builtins__") 171 (.ref 4), kv P (S "__file__") 173 (.str (S "/claim/cut.py") 172), kv P (S "__cached__") 174 (.none), kv P (S "_sre") 275 (.ref 12), kv P (S "_wall") 288 (.ref 38), kv P (S "SEQUENCE_TYPES") 291 (.ref 39), kv P (S "DEFAULT_ENCODING") 293 (.str (S "utf-8") 292), kv P (S "to_unicode") 303 (.ref 47), kv P (S "CaselessDict") 476 (.ref 174), kv P (S "_escape_char") 486 (.ref 185), kv P (S "NAME") 511 (.ref 190), kv P (S "validate_token") 520 (.ref 197), kv P (S "param_value") 529 (.ref 203), kv P (S "UNSAFE_CHAR") 563 (.ref 208), kv P (S "QUNSAFE_CHAR") 597 (.ref 213), kv P (S "validate_param_value") 607 (.ref 221), kv P (S "QUOTABLE") 803 (.ref 226), kv P (S "dquote") 812 (.ref 234), kv P (S "q_split") 832 (.ref 242), kv P (S "q_join") 844 (.ref 250), kv P (S "Parameters") 950 (.ref 303), kv P (S "rfc_6868_unescape") 962 (.ref 312), kv P (S "rfc_6868_escape") 973 (.ref 319), kv P (S "unescape_backslash") 985 (.ref 326), kv P (S "split_on_unescaped_comma") 996 (.ref 333), kv P (S "split_on_unescaped_semicolon") 1007 (.ref 340), kv P (S "vText") 1089 (.ref 387), kv P (S "_tuplegetter") 1148 (.ref 606), kv P (S "tuplegetter_n") 1149 (.ref 431), kv P (S "NFields") 1308 (.ref 512), kv P (S "vN") 1390 (.ref 563), kv P (S "tuplegetter_adr") 1450 (.ref 606), kv P (S "AdrFields") 1637 (.ref 693), kv P (S "vAdr") 1719 (.ref 744), kv P (S "vCategory") 1802 (.ref 801), kv P (S "vOrg") 1904 (.ref 869), kv P (S "_law_signs") 1917 (.ref 874), kv P (S "_law_next") 1926 (.ref 881), kv P (S "_law_written") 1939 (.ref 888), kv P (S "_law_told") 1947 (.ref 895)]⟩ 46, ⟨[]⟩⟩
def o29_48 (P : Params) : Obj := ⟨.none, .none, .fields ⟨[.int (2) 0, .int (0) 0, .ref 37, .int (8) 0, .int (0) 0, .ref 46, .int (22) 0, .int (0) 0, .ref 54, .int (201) 0, .int (0) 0, .ref 184, .int (236) 0, .int (0) 0, .ref 196, .int (253) 0, .int (0) 0, .ref 202, .int (275) 0, .int (0) 0, .ref 220, .int (294) 0, .int (0) 0, .ref 233, .int (315) 0, .int (0) 0, .ref 241, .int (360) 0, .int (0) 0, .ref 249, .int (385) 0, .int (0) 0, .ref 257, .int (528) 0, .int (0) 0, .ref 311, .int (544) 0, .int (0) 0, .ref 318, .int (557) 0, .int (0) 0, .ref 325, .int (576) 0, .int (0) 0, .ref 332, .int (620) 0, .int (0) 0, .ref 339, .int (666) 0, .int (0) 0, .ref 347, .int (750) 0, .int (0) 0, .ref 398, .int (769) 0, .int (0) 0, .ref 442, .int (822) 0, .int (0) 0, .ref 521, .int (900) 0, .int (0) 0, .ref 573, .int (919) 0, .int (0) 0, .ref 617, .int (976) 0, .int (0) 0, .ref 702, .int (1056) 0, .int (0) 0, .ref 754, .int (1104) 0, .int (0) 0, .ref 811, .int (1195) 0, .int (0) 0, .ref 880, .int (1203) 0, .int (0) 0, .ref 887, .int (1217) 0, .int (0) 0, .ref 894]⟩, ⟨[]⟩⟩
def o889_48 (P : Params) : Obj := ⟨.type "tuple", .none, .seq ⟨[]⟩ 0, ⟨[]⟩⟩
def o890_48 (P : Params) : Obj := ⟨.none, .none, .fields ⟨[]⟩, ⟨[]⟩⟩
def o891_48 (P : Params) : Obj := ⟨.type "tuple", .none, .seq ⟨[.str (S "kind") 1943, .str (S "text") 1944]⟩ 0, ⟨[]⟩⟩
def o892_48 (P : Params) : Obj := ⟨.type "tuple", .none, .seq ⟨[]⟩ 0, ⟨[]⟩⟩
def o893_48 (P : Params) : Obj := ⟨.none, .none, .func (fn (st 48) (S "_law_told") 0 [] (.none) (.none) (.none) (.none) .none (.none) (.none) 0), ⟨[]⟩⟩
def o894_48 (P : Params) : Obj := ⟨.type "code", .none, .fields ⟨[.str (S "_law_told") 1940, .str (S "_law_told") 1941, .str (S "/claim/cut.py") 1942, .int (1217) 0, .int (2) 0, .int (0) 0, .int (0) 0, .int (3) 0, .ref 889, .bool true, .int (276) 0, .ref 890, .none, .ref 891, .ref 892, .ref 893, .int (1945) 0, .int (1217) 0, .str (S "/claim/cut.py") 1946]⟩, ⟨[]⟩⟩
def o895_48 (P : Params) : Obj := ⟨.type "function", .none, .func (fn (st 48) (S "_law_told") 3 [] (.none) (.none) (.none) (.str (S "law_bl0008_01") 1905) .none (.ref 894) (.none) 0), ⟨[]⟩⟩
def T48 (P : Params) : BT := (((((((((T47 P).set 3 (fun _ => o3_48 P)).set 29 (fun _ => o29_48 P)).ins 889 (o889_48 P)).ins 890 (o890_48 P)).ins 891 (o891_48 P)).ins 892 (o892_48 P)).ins 893 (o893_48 P)).ins 894 (o894_48 P)).ins 895 (o895_48 P)
def o3_49 (P : Params) : Obj := ⟨.type "dict", .none, .dict ⟨[kv P (S "__name__") 165 (.str (S "law_bl0008_01") 1905), kv P (S "__doc__") 166 (.none), kv P (S "__package__") 167 (.none), kv P (S "__loader__") 168 (.builtin "__main__.__loader__#opaque"), kv P (S "__spec__") 169 (.none), kv P (S "__annotations__") 170 (.ref 6), kv P (S "__builtins__") 171 (.ref 4), kv P (S "__file__") 173 (.str (S "/claim/cut.py") 172), kv P (S "__cached__") 174 (.none), kv P (S "_sre") 275 (.ref 12), kv P (S "_wall") 288 (.ref 38), kv P (S "SEQUENCE_TYPES") 291 (.ref 39), kv P (S "DEFAULT_ENCODING") 293 (.str (S "utf-8") 292), kv P (S "to_unicode") 303 (.ref 47), kv P (S "CaselessDict") 476 (.ref 174), kv P (S "_escape_char") 486 (.ref 185), kv P (S "NAME") 511 (.ref 190), kv P (S "validate_token") 520 (.ref 197), kv P (S "param_value") 529 (.ref 203), kv P (S "UNSAFE_CHAR") 563 (.ref 208), kv P (S "QUNSAFE_CHAR") 597 (.ref 213), kv P (S "validate_param_value") 607 (.ref 221), kv P (S "QUOTABLE") 803 (.ref 226), kv P (S "dquote") 812 (.ref 234), kv P (S "q_split") 832 (.ref 242), kv P (S "q_join") 844 (.ref 250), kv P (S "Parameters") 950 (.ref 303), kv P (S "rfc_6868_unescape") 962 (.ref 312), kv P (S "rfc_6868_escape") 973 (.ref 319), kv P (S "unescape_backslash") 985 (.ref 326), kv P (S "split_on_unescaped_comma") 996 (.ref 333), kv P (S "split_on_unescaped_semicolon") 1007 (.ref 340), kv P (S "vText") 1089 (.ref 387), kv P (S "_tuplegetter") 1148 (.ref 606), kv P (S "tuplegetter_n") 1149 (.ref 431), kv P (S "NFields") 1308 (.ref 512), kv P (S "vN") 1390 (.ref 563), kv P (S "tuplegetter_adr") 1450 (.ref 606), kv P (S "AdrFields") 1637 (.ref 693), kv P (S "vAdr") 1719 (.ref 744), kv P (S "vCategory") 1802 (.ref 801), kv P (S "vOrg") 1904 (.ref 869), kv P (S "_law_signs") 1917 (.ref 874), kv P (S "_law_next") 1926 (.ref 881), kv P (S "_law_written") 1939 (.ref 888), kv P (S "_law_told") 1947 (.ref 895), kv P (S "_law_octets") 1955 (.ref 902)]⟩ 47, ⟨[]⟩⟩
def o29_49 (P : Params) : Obj := ⟨.none, .none, .fields ⟨[.int (2) 0, .int (0) 0, .ref 37, .int (8) 0, .int (0) 0, .ref 46, .int (22) 0, .int (0) 0, .ref 54, .int (201) 0, .int (0) 0, .ref 184, .int (236) 0, .int (0) 0, .ref 196, .int (253) 0, .int (0) 0, .ref 202, .int (275) 0, .int (0) 0, .ref 220, .int (294) 0, .int (0) 0, .ref 233, .int (315) 0, .int (0) 0, .ref 241, .int (360) 0, .int (0) 0, .ref 249, .int (385) 0, .int (0) 0, .ref 257, .int (528) 0, .int (0) 0, .ref 311, .int (544) 0, .int (0) 0, .ref 318, .int (557) 0, .int (0) 0, .ref 325, .int (576) 0, .int (0) 0, .ref 332, .int (620) 0, .int (0) 0, .ref 339, .int (666) 0, .int (0) 0, .ref 347, .int (750) 0, .int (0) 0, .ref 398, .int (769) 0, .int (0) 0, .ref 442, .int (822) 0, .int (0) 0, .ref 521, .int (900) 0, .int (0) 0, .ref 573, .int (919) 0, .int (0) 0, .ref 617, .int (976) 0, .int (0) 0, .ref 702, .int (1056) 0, .int (0) 0, .ref 754, .int (1104) 0, .int (0) 0, .ref 811, .int (1195) 0, .int (0) 0, .ref 880, .int (1203) 0, .int (0) 0, .ref 887, .int (1217) 0, .int (0) 0, .ref 894, .int (1225) 0, .int (0) 0, .ref 901]⟩, ⟨[]⟩⟩
def o896_49 (P : Params) : Obj := ⟨.type "tuple", .none, .seq ⟨[]⟩ 0, ⟨[]⟩⟩
def o897_49 (P : Params) : Obj := ⟨.none, .none, .fields ⟨[]⟩, ⟨[]⟩⟩
def o898_49 (P : Params) : Obj := ⟨.type "tuple", .none, .seq ⟨[.str (S "kind") 1951, .str (S "fields") 1952]⟩ 0, ⟨[]⟩⟩
def o899_49 (P : Params) : Obj := ⟨.type "tuple", .none, .seq ⟨[]⟩ 0, ⟨[]⟩⟩
def o900_49 (P : Params) : Obj := ⟨.none, .none, .func (fn (st 49) (S "_law_octets") 0 [] (.none) (.none) (.none) (.none) .none (.none) (.none) 0), ⟨[]⟩⟩
def o901_49 (P : Params) : Obj := ⟨.type "code", .none, .fields ⟨[.str (S "_law_octets") 1948, .str (S "_law_octets") 1949, .str (S "/claim/cut.py") 1950, .int (1225) 0, .int (2) 0, .int (0) 0, .int (0) 0, .int (3) 0, .ref 896, .bool true, .int (276) 0, .ref 897, .none, .ref 898, .ref 899, .ref 900, .int (1953) 0, .int (1225) 0, .str (S "/claim/cut.py") 1954]⟩, ⟨[]⟩⟩
def o902_49 (P : Params) : Obj := ⟨.type "function", .none, .func (fn (st 49) (S "_law_octets") 3 [] (.none) (.none) (.none) (.str (S "law_bl0008_01") 1905) .none (.ref 901) (.none) 0), ⟨[]⟩⟩
def T49 (P : Params) : BT := (((((((((T48 P).set 3 (fun _ => o3_49 P)).set 29 (fun _ => o29_49 P)).ins 896 (o896_49 P)).ins 897 (o897_49 P)).ins 898 (o898_49 P)).ins 899 (o899_49 P)).ins 900 (o900_49 P)).ins 901 (o901_49 P)).ins 902 (o902_49 P)
def o3_50 (P : Params) : Obj := ⟨.type "dict", .none, .dict ⟨[kv P (S "__name__") 165 (.str (S "law_bl0008_01") 1905), kv P (S "__doc__") 166 (.none), kv P (S "__package__") 167 (.none), kv P (S "__loader__") 168 (.builtin "__main__.__loader__#opaque"), kv P (S "__spec__") 169 (.none), kv P (S "__annotations__") 170 (.ref 6), kv P (S "__builtins__") 171 (.ref 4), kv P (S "__file__") 173 (.str (S "/claim/cut.py") 172), kv P (S "__cached__") 174 (.none), kv P (S "_sre") 275 (.ref 12), kv P (S "_wall") 288 (.ref 38), kv P (S "SEQUENCE_TYPES") 291 (.ref 39), kv P (S "DEFAULT_ENCODING") 293 (.str (S "utf-8") 292), kv P (S "to_unicode") 303 (.ref 47), kv P (S "CaselessDict") 476 (.ref 174), kv P (S "_escape_char") 486 (.ref 185), kv P (S "NAME") 511 (.ref 190), kv P (S "validate_token") 520 (.ref 197), kv P (S "param_value") 529 (.ref 203), kv P (S "UNSAFE_CHAR") 563 (.ref 208), kv P (S "QUNSAFE_CHAR") 597 (.ref 213), kv P (S "validate_param_value") 607 (.ref 221), kv P (S "QUOTABLE") 803 (.ref 226), kv P (S "dquote") 812 (.ref 234), kv P (S "q_split") 832 (.ref 242), kv P (S "q_join") 844 (.ref 250), kv P (S "Parameters") 950 (.ref 303), kv P (S "rfc_6868_unescape") 962 (.ref 312), kv P (S "rfc_6868_escape") 973 (.ref 319), kv P (S "unescape_backslash") 985 (.ref 326), kv P (S "split_on_unescaped_comma") 996 (.ref 333), kv P (S "split_on_unescaped_semicolon") 1007 (.ref 340), kv P (S "vText") 1089 (.ref 387), kv P (S "_tuplegetter") 1148 (.ref 606), kv P (S "tuplegetter_n") 1149 (.ref 431), kv P (S "NFields") 1308 (.ref 512), kv P (S "vN") 1390 (.ref 563), kv P (S "tuplegetter_adr") 1450 (.ref 606), kv P (S "AdrFields") 1637 (.ref 693), kv P (S "vAdr") 1719 (.ref 744), kv P (S "vCategory") 1802 (.ref 801), kv P (S "vOrg") 1904 (.ref 869), kv P (S "_law_signs") 1917 (.ref 874), kv P (S "_law_next") 1926 (.ref 881), kv P (S "_law_written") 1939 (.ref 888), kv P (S "_law_told") 1947 (.ref 895), kv P (S "_law_octets") 1955 (.ref 902), kv P (S "law") 1961 (.ref 907)]⟩ 48, ⟨[]⟩⟩
def o29_50 (P : Params) : Obj := ⟨.none, .none, .fields ⟨[.int (2) 0, .int (0) 0, .ref 37, .int (8) 0, .int (0) 0, .ref 46, .int (22) 0, .int (0) 0, .ref 54, .int (201) 0, .int (0) 0, .ref 184, .int (236) 0, .int (0) 0, .ref 196, .int (253) 0, .int (0) 0, .ref 202, .int (275) 0, .int (0) 0, .ref 220, .int (294) 0, .int (0) 0, .ref 233, .int (315) 0, .int (0) 0, .ref 241, .int (360) 0, .int (0) 0, .ref 249, .int (385) 0, .int (0) 0, .ref 257, .int (528) 0, .int (0) 0, .ref 311, .int (544) 0, .int (0) 0, .ref 318, .int (557) 0, .int (0) 0, .ref 325, .int (576) 0, .int (0) 0, .ref 332, .int (620) 0, .int (0) 0, .ref 339, .int (666) 0, .int (0) 0, .ref 347, .int (750) 0, .int (0) 0, .ref 398, .int (769) 0, .int (0) 0, .ref 442, .int (822) 0, .int (0) 0, .ref 521, .int (900) 0, .int (0) 0, .ref 573, .int (919) 0, .int (0) 0, .ref 617, .int (976) 0, .int (0) 0, .ref 702, .int (1056) 0, .int (0) 0, .ref 754, .int (1104) 0, .int (0) 0, .ref 811, .int (1195) 0, .int (0) 0, .ref 880, .int (1203) 0, .int (0) 0, .ref 887, .int (1217) 0, .int (0) 0, .ref 894, .int (1225) 0, .int (0) 0, .ref 901, .int (1233) 0, .int (0) 0, .ref 906]⟩, ⟨[]⟩⟩
def o903_50 (P : Params) : Obj := ⟨.type "tuple", .none, .seq ⟨[]⟩ 0, ⟨[]⟩⟩
def o904_50 (P : Params) : Obj := ⟨.none, .none, .fields ⟨[]⟩, ⟨[]⟩⟩
def o905_50 (P : Params) : Obj := ⟨.none, .none, .func (fn (st 50) (S "law") 0 [] (.none) (.none) (.none) (.none) .none (.none) (.none) 0), ⟨[]⟩⟩
def o906_50 (P : Params) : Obj := ⟨.type "code", .none, .fields ⟨[.str (S "law") 1956, .str (S "law") 1957, .str (S "/claim/cut.py") 1958, .int (1233) 0, .int (1) 0, .int (0) 0, .int (0) 0, .int (3) 0, .ref 903, .bool true, .int (276) 0, .ref 904, .none, .none, .none, .ref 905, .int (1959) 0, .int (1233) 0, .str (S "/claim/cut.py") 1960]⟩, ⟨[]⟩⟩
def o907_50 (P : Params) : Obj := ⟨.type "function", .none, .func (fn (st 50) (S "law") 3 [] (.none) (.none) (.none) (.str (S "law_bl0008_01") 1905) .none (.ref 906) (.none) 0), ⟨[]⟩⟩
def T50 (P : Params) : BT := (((((((T49 P).set 3 (fun _ => o3_50 P)).set 29 (fun _ => o29_50 P)).ins 903 (o903_50 P)).ins 904 (o904_50 P)).ins 905 (o905_50 P)).ins 906 (o906_50 P)).ins 907 (o907_50 P)

def E0 : Env := { scope := P0.main.scope, locals := mainNs, globals := mainNs, cells := [], code := .ref 30, frame := some 31 }
def C0 : Code := .body (behindTheImports P0) E0
abbrev q0 : Pos := ⟨0, 0, 0, 0⟩
abbrev Sx (T : BT) (n tk : Nat) (os : OsState) : SharedT := ⟨T, n, {}, #[], {}, tk, os⟩
end BL
end
-- part HL
section
set_option linter.unusedVariables false
open PySem PySem.W PyProof.Rows
set_option maxRecDepth 100000
set_option maxHeartbeats 0
set_option Elab.async false
namespace BL
def Q0 : Program := { P0 with main := { P0.main with body := [st 0, st 50] } }
def loose0 : List Str := [Str.ofString "_wall", Str.ofString "SEQUENCE_TYPES", Str.ofString "DEFAULT_ENCODING", Str.ofString "to_unicode", Str.ofString "CaselessDict", Str.ofString "_escape_char", Str.ofString "NAME", Str.ofString "validate_token", Str.ofString "param_value", Str.ofString "UNSAFE_CHAR", Str.ofString "QUNSAFE_CHAR", Str.ofString "validate_param_value", Str.ofString "QUOTABLE", Str.ofString "dquote", Str.ofString "q_split", Str.ofString "q_join", Str.ofString "Parameters", Str.ofString "rfc_6868_unescape", Str.ofString "rfc_6868_escape", Str.ofString "unescape_backslash", Str.ofString "split_on_unescaped_comma", Str.ofString "split_on_unescaped_semicolon", Str.ofString "vText", Str.ofString "_tuplegetter", Str.ofString "tuplegetter_n", Str.ofString "NFields", Str.ofString "vN", Str.ofString "tuplegetter_adr", Str.ofString "AdrFields", Str.ofString "vAdr", Str.ofString "vCategory", Str.ofString "vOrg", Str.ofString "_law_signs", Str.ofString "_law_next", Str.ofString "_law_written", Str.ofString "_law_told", Str.ofString "_law_octets"]
def HF (P : Params) : Heap := absHeap (T50 P) 908 {}
abbrev sF (w : World) (os : OsState) : Shared := (Sx (T50 w.params) 908 1962 os).abs
abbrev mods0 : List Str := importedModules P0.main.body

end BL
namespace BL
theorem l1 (w : World) (os : OsState) : seen ((recsOf Q0).map (·.name)) (ownsOf Q0) [] { sF w os with gens := #[] } = expectedOf Q0 := by kernel_rfl
theorem l2 (w : World) (os : OsState) : (sF w os).heap.bltView = bltViewBooted := by kernel_rfl
theorem l3a (w : World) (os : OsState) : (sF w os).heap.keysOk (looseW Q0 loose0) ((recsOf Q0).map (·.name)) ((litsOf Q0).map (·.1)) ((clssOf Q0 (looseW Q0 loose0)).map (·.name)) = true := by kernel_rfl
theorem l3b (w : World) (os : OsState) : (sF w os).heap.accountedOkI mods0 = true := by kernel_rfl
theorem l3c (w : World) (os : OsState) : (sF w os).heap.isNs mainGlobals = true := by kernel_rfl
theorem l3d (w : World) (os : OsState) : (sF w os).heap.isNs builtinsNs = true := by kernel_rfl
theorem l3e (w : World) (os : OsState) : tablesOk Q0 (sF w os).heap = true := by kernel_rfl
theorem l3f (w : World) (os : OsState) : (xlAt Q0 [] (sF w os) && recOk [] (sF w os)) = true := by kernel_rfl
theorem l3g (w : World) (os : OsState) : (sF w os).gens.size = 0 := by kernel_rfl
theorem l4 (w : World) (os : OsState) : tabsOk Q0 (sF w os) = true := by kernel_rfl
theorem l5 (w : World) (os : OsState) : pinSeenD Q0 (drecsOf Q0) (sF w os) = pinGoodD (drecsOf Q0) := by kernel_rfl
theorem l6 (w : World) (os : OsState) : plainSeenE Q0 (looseW Q0 loose0) (sF w os) = plainGoodE Q0 (looseW Q0 loose0) := by kernel_rfl
theorem l7 (w : World) (os : OsState) : plainSeenD Q0 loose0 (sF w os) = plainGoodD Q0 loose0 := by kernel_rfl
theorem l8 (w : World) (os : OsState) : wideSeen Q0 (sF w os) = wideGood Q0 := by kernel_rfl
theorem l9 (w : World) (os : OsState) : clsSeenW Q0 loose0 (sF w os) = clsGoodW Q0 loose0 := by kernel_rfl
end BL
end
-- part HQ
section
set_option linter.unusedVariables false
open PySem PySem.W PyProof.Rows
set_option maxRecDepth 100000
set_option maxHeartbeats 0
set_option Elab.async false
namespace BL
def q7 : Prop := ∀ (w : World) (os : OsState), segRunT tb2 P0 (w) 28 (some (.ref 6)) 1 744 (Sx (T6 (w).params) 48 306 os) (piecesOf [st 7] E0 C0 ⟨21, 0, 21, 8⟩ [topFrame q0]) = some (.next, Sx (T7 (w).params) 179 477 os, C0, ⟨22, 0, 199, 16⟩)
lay_quick BL.q7
def q21false : Prop := ∀ (w : World) (os : OsState), segRunT tb2 P0 (w.withFollow "special-get-raises" false) 28 (some (.ref 6)) 1 653 (Sx (T20 (w.withFollow "special-get-raises" false).params) 251 845 os) (piecesOf [st 21] E0 C0 ⟨360, 0, 384, 76⟩ [topFrame q0]) = some (.next, Sx (T21 (w.withFollow "special-get-raises" false).params) 306 951 os, C0, ⟨385, 0, 527, 20⟩)
lay_quick BL.q21false
def q21true : Prop := ∀ (w : World) (os : OsState), segRunT tb2 P0 (w.withFollow "special-get-raises" true) 28 (some (.ref 6)) 1 653 (Sx (T20 (w.withFollow "special-get-raises" true).params) 251 845 os) (piecesOf [st 21] E0 C0 ⟨360, 0, 384, 76⟩ [topFrame q0]) = some (.next, Sx (T21 (w.withFollow "special-get-raises" true).params) 306 951 os, C0, ⟨385, 0, 527, 20⟩)
lay_quick BL.q21true
def q29 : Prop := ∀ (w : World) (os : OsState), segRunT tb2 P0 (w) 28 (some (.ref 6)) 1 596 (Sx (T28 (w).params) 341 1010 os) (piecesOf [st 29] E0 C0 ⟨665, 0, 665, 8⟩ [topFrame q0]) = some (.next, Sx (T29 (w).params) 393 1090 os, C0, ⟨666, 0, 748, 16⟩)
lay_quick BL.q29
def q31 : Prop := ∀ (w : World) (os : OsState), segRunT tb2 P0 (w) 28 (some (.ref 6)) 1 324 (Sx (T30 (w).params) 393 1092 os) (piecesOf [st 31] E0 C0 ⟨749, 0, 749, 8⟩ [topFrame q0]) = some (.next, Sx (T31 (w).params) 436 1149 os, C0, ⟨750, 0, 767, 54⟩)
lay_quick BL.q31
def q33 : Prop := ∀ (w : World) (os : OsState), segRunT tb2 P0 (w) 28 (some (.ref 6)) 1 1351 (Sx (T32 (w).params) 436 1150 os) (piecesOf [st 33] E0 C0 ⟨768, 0, 768, 13⟩ [topFrame q0]) = some (.next, Sx (T33 (w).params) 516 1309 os, C0, ⟨769, 0, 821, 57⟩)
lay_quick BL.q33
def q34 : Prop := ∀ (w : World) (os : OsState), segRunT tb2 P0 (w) 28 (some (.ref 6)) 1 563 (Sx (T33 (w).params) 516 1309 os) (piecesOf [st 34] E0 C0 ⟨769, 0, 821, 57⟩ [topFrame q0]) = some (.next, Sx (T34 (w).params) 568 1391 os, C0, ⟨822, 0, 898, 16⟩)
lay_quick BL.q34
def q36 : Prop := ∀ (w : World) (os : OsState), segRunT tb2 P0 (w) 28 (some (.ref 6)) 1 324 (Sx (T35 (w).params) 568 1393 os) (piecesOf [st 36] E0 C0 ⟨899, 0, 899, 8⟩ [topFrame q0]) = some (.next, Sx (T36 (w).params) 611 1450 os, C0, ⟨900, 0, 917, 54⟩)
lay_quick BL.q36
def q38 : Prop := ∀ (w : World) (os : OsState), segRunT tb2 P0 (w) 28 (some (.ref 6)) 1 1649 (Sx (T37 (w).params) 611 1451 os) (piecesOf [st 38] E0 C0 ⟨918, 0, 918, 15⟩ [topFrame q0]) = some (.next, Sx (T38 (w).params) 697 1638 os, C0, ⟨919, 0, 975, 60⟩)
lay_quick BL.q38
def q39 : Prop := ∀ (w : World) (os : OsState), segRunT tb2 P0 (w) 28 (some (.ref 6)) 1 563 (Sx (T38 (w).params) 697 1638 os) (piecesOf [st 39] E0 C0 ⟨919, 0, 975, 60⟩ [topFrame q0]) = some (.next, Sx (T39 (w).params) 749 1720 os, C0, ⟨976, 0, 1054, 17⟩)
lay_quick BL.q39
def q41 : Prop := ∀ (w : World) (os : OsState), segRunT tb2 P0 (w) 28 (some (.ref 6)) 1 582 (Sx (T40 (w).params) 749 1722 os) (piecesOf [st 41] E0 C0 ⟨1055, 0, 1055, 8⟩ [topFrame q0]) = some (.next, Sx (T41 (w).params) 806 1803 os, C0, ⟨1056, 0, 1102, 17⟩)
lay_quick BL.q41
def q43 : Prop := ∀ (w : World) (os : OsState), segRunT tb2 P0 (w) 28 (some (.ref 6)) 1 749 (Sx (T42 (w).params) 806 1805 os) (piecesOf [st 43] E0 C0 ⟨1103, 0, 1103, 8⟩ [topFrame q0]) = some (.next, Sx (T43 (w).params) 874 1905 os, C0, ⟨1104, 0, 1192, 17⟩)
lay_quick BL.q43
end BL
end
-- part HA
section
set_option linter.unusedVariables false
open PySem PySem.W PyProof.Rows
set_option maxRecDepth 100000
set_option maxHeartbeats 0
set_option Elab.async false
namespace BL
theorem p1 (w : World) (os : OsState) : segRunT tb2 P0 w 28 (some (.ref 6)) 1 30 (Sx (TP w.params) 32 282 os) (piecesOf [st 1] E0 C0 ⟨0, 0, 0, 0⟩ [topFrame q0]) = some (.next, Sx (T1 w.params) 39 289 os, C0, ⟨2, 0, 4, 12⟩) := by kernel_rfl
theorem p2 (w : World) (os : OsState) : segRunT tb2 P0 w 28 (some (.ref 6)) 1 10 (Sx (T1 w.params) 39 289 os) (piecesOf [st 2] E0 C0 ⟨2, 0, 4, 12⟩ [topFrame q0]) = some (.next, Sx (T2 w.params) 39 291 os, C0, ⟨5, 0, 5, 8⟩) := by kernel_rfl
theorem p3 (w : World) (os : OsState) : segRunT tb2 P0 w 28 (some (.ref 6)) 1 17 (Sx (T2 w.params) 39 291 os) (piecesOf [st 3] E0 C0 ⟨5, 0, 5, 8⟩ [topFrame q0]) = some (.next, Sx (T3 w.params) 40 292 os, C0, ⟨6, 0, 6, 14⟩) := by kernel_rfl
theorem p4 (w : World) (os : OsState) : segRunT tb2 P0 w 28 (some (.ref 6)) 1 10 (Sx (T3 w.params) 40 292 os) (piecesOf [st 4] E0 C0 ⟨6, 0, 6, 14⟩ [topFrame q0]) = some (.next, Sx (T4 w.params) 40 294 os, C0, ⟨7, 0, 7, 16⟩) := by kernel_rfl
theorem p5 (w : World) (os : OsState) : segRunT tb2 P0 w 28 (some (.ref 6)) 1 34 (Sx (T4 w.params) 40 294 os) (piecesOf [st 5] E0 C0 ⟨7, 0, 7, 16⟩ [topFrame q0]) = some (.next, Sx (T5 w.params) 48 304 os, C0, ⟨8, 0, 20, 20⟩) := by kernel_rfl
theorem p6 (w : World) (os : OsState) : segRunT tb2 P0 w 28 (some (.ref 6)) 1 10 (Sx (T5 w.params) 48 304 os) (piecesOf [st 6] E0 C0 ⟨8, 0, 20, 20⟩ [topFrame q0]) = some (.next, Sx (T6 w.params) 48 306 os, C0, ⟨21, 0, 21, 8⟩) := by kernel_rfl
theorem rq7 : PySem.W.Fast.tw3777025063413216144 := fun w os => by kernel_rfl
theorem pq7 : q7 := by
  rw [PySem.W.Fast.te3777025063413216144]
  exact rq7
theorem p7 (w : World) (os : OsState) : segRunT tb2 P0 (w) 28 (some (.ref 6)) 1 744 (Sx (T6 (w).params) 48 306 os) (piecesOf [st 7] E0 C0 ⟨21, 0, 21, 8⟩ [topFrame q0]) = some (.next, Sx (T7 (w).params) 179 477 os, C0, ⟨22, 0, 199, 16⟩) := pq7 w os
theorem p8 (w : World) (os : OsState) : segRunT tb2 P0 w 28 (some (.ref 6)) 1 10 (Sx (T7 w.params) 179 477 os) (piecesOf [st 8] E0 C0 ⟨22, 0, 199, 16⟩ [topFrame q0]) = some (.next, Sx (T8 w.params) 179 479 os, C0, ⟨200, 0, 200, 8⟩) := by kernel_rfl
theorem p9 (w : World) (os : OsState) : segRunT tb2 P0 w 28 (some (.ref 6)) 1 31 (Sx (T8 w.params) 179 479 os) (piecesOf [st 9] E0 C0 ⟨200, 0, 200, 8⟩ [topFrame q0]) = some (.next, Sx (T9 w.params) 186 487 os, C0, ⟨201, 0, 234, 163⟩) := by kernel_rfl
theorem p10 (w : World) (os : OsState) : segRunT tb2 P0 w 28 (some (.ref 6)) 1 69 (Sx (T9 w.params) 186 487 os) (piecesOf [st 10] E0 C0 ⟨201, 0, 234, 163⟩ [topFrame q0]) = some (.next, Sx (T10 w.params) 191 512 os, C0, ⟨235, 0, 235, 4⟩) := by kernel_rfl
theorem p11 (w : World) (os : OsState) : segRunT tb2 P0 w 28 (some (.ref 6)) 1 32 (Sx (T10 w.params) 191 512 os) (piecesOf [st 11] E0 C0 ⟨235, 0, 235, 4⟩ [topFrame q0]) = some (.next, Sx (T11 w.params) 198 521 os, C0, ⟨236, 0, 251, 26⟩) := by kernel_rfl
theorem p12 (w : World) (os : OsState) : segRunT tb2 P0 w 28 (some (.ref 6)) 1 10 (Sx (T11 w.params) 198 521 os) (piecesOf [st 12] E0 C0 ⟨236, 0, 251, 26⟩ [topFrame q0]) = some (.next, Sx (T12 w.params) 198 523 os, C0, ⟨252, 0, 252, 8⟩) := by kernel_rfl
theorem p13 (w : World) (os : OsState) : segRunT tb2 P0 w 28 (some (.ref 6)) 1 29 (Sx (T12 w.params) 198 523 os) (piecesOf [st 13] E0 C0 ⟨252, 0, 252, 8⟩ [topFrame q0]) = some (.next, Sx (T13 w.params) 204 530 os, C0, ⟨253, 0, 272, 67⟩) := by kernel_rfl
theorem p14 (w : World) (os : OsState) : segRunT tb2 P0 w 28 (some (.ref 6)) 1 78 (Sx (T13 w.params) 204 530 os) (piecesOf [st 14] E0 C0 ⟨253, 0, 272, 67⟩ [topFrame q0]) = some (.next, Sx (T14 w.params) 209 564 os, C0, ⟨273, 0, 273, 11⟩) := by kernel_rfl
theorem p15 (w : World) (os : OsState) : segRunT tb2 P0 w 28 (some (.ref 6)) 1 78 (Sx (T14 w.params) 209 564 os) (piecesOf [st 15] E0 C0 ⟨273, 0, 273, 11⟩ [topFrame q0]) = some (.next, Sx (T15 w.params) 214 598 os, C0, ⟨274, 0, 274, 12⟩) := by kernel_rfl
theorem p16 (w : World) (os : OsState) : segRunT tb2 P0 w 28 (some (.ref 6)) 1 34 (Sx (T15 w.params) 214 598 os) (piecesOf [st 16] E0 C0 ⟨274, 0, 274, 12⟩ [topFrame q0]) = some (.next, Sx (T16 w.params) 222 608 os, C0, ⟨275, 0, 292, 31⟩) := by kernel_rfl
theorem p17 (w : World) (os : OsState) : segRunT tb2 P0 w 28 (some (.ref 6)) 1 240 (Sx (T16 w.params) 222 608 os) (piecesOf [st 17] E0 C0 ⟨275, 0, 292, 31⟩ [topFrame q0]) = some (.next, Sx (T17 w.params) 227 804 os, C0, ⟨293, 0, 293, 8⟩) := by kernel_rfl
theorem p18 (w : World) (os : OsState) : segRunT tb2 P0 w 28 (some (.ref 6)) 1 33 (Sx (T17 w.params) 227 804 os) (piecesOf [st 18] E0 C0 ⟨293, 0, 293, 8⟩ [topFrame q0]) = some (.next, Sx (T18 w.params) 235 813 os, C0, ⟨294, 0, 314, 14⟩) := by kernel_rfl
theorem p19 (w : World) (os : OsState) : segRunT tb2 P0 w 28 (some (.ref 6)) 1 48 (Sx (T18 w.params) 235 813 os) (piecesOf [st 19] E0 C0 ⟨294, 0, 314, 14⟩ [topFrame q0]) = some (.next, Sx (T19 w.params) 243 833 os, C0, ⟨315, 0, 359, 17⟩) := by kernel_rfl
theorem p20 (w : World) (os : OsState) : segRunT tb2 P0 w 28 (some (.ref 6)) 1 36 (Sx (T19 w.params) 243 833 os) (piecesOf [st 20] E0 C0 ⟨315, 0, 359, 17⟩ [topFrame q0]) = some (.next, Sx (T20 w.params) 251 845 os, C0, ⟨360, 0, 384, 76⟩) := by kernel_rfl
end BL
end
-- part HB
section
set_option linter.unusedVariables false
open PySem PySem.W PyProof.Rows
set_option maxRecDepth 100000
set_option maxHeartbeats 0
set_option Elab.async false
namespace BL
theorem rq21false : PySem.W.Fast.tw15996866215563448827 := fun w os => by kernel_rfl
theorem pq21false : q21false := by
  rw [PySem.W.Fast.te15996866215563448827]
  exact rq21false
theorem rq21true : PySem.W.Fast.tw6722645150220285645 := fun w os => by kernel_rfl
theorem pq21true : q21true := by
  rw [PySem.W.Fast.te6722645150220285645]
  exact rq21true
theorem p21 (w : World) : ∀ os : OsState, segRunT tb2 P0 (w) 28 (some (.ref 6)) 1 653 (Sx (T20 (w).params) 251 845 os) (piecesOf [st 21] E0 C0 ⟨360, 0, 384, 76⟩ [topFrame q0]) = some (.next, Sx (T21 (w).params) 306 951 os, C0, ⟨385, 0, 527, 20⟩) := byRow2 "special-get-raises" (P := fun w => ∀ os : OsState, segRunT tb2 P0 (w) 28 (some (.ref 6)) 1 653 (Sx (T20 (w).params) 251 845 os) (piecesOf [st 21] E0 C0 ⟨360, 0, 384, 76⟩ [topFrame q0]) = some (.next, Sx (T21 (w).params) 306 951 os, C0, ⟨385, 0, 527, 20⟩)) pq21false pq21true w
theorem p22 (w : World) (os : OsState) : segRunT tb2 P0 w 28 (some (.ref 6)) 1 35 (Sx (T21 w.params) 306 951 os) (piecesOf [st 22] E0 C0 ⟨385, 0, 527, 20⟩ [topFrame q0]) = some (.next, Sx (T22 w.params) 313 963 os, C0, ⟨528, 0, 543, 26⟩) := by kernel_rfl
theorem p23 (w : World) (os : OsState) : segRunT tb2 P0 w 28 (some (.ref 6)) 1 34 (Sx (T22 w.params) 313 963 os) (piecesOf [st 23] E0 C0 ⟨528, 0, 543, 26⟩ [topFrame q0]) = some (.next, Sx (T23 w.params) 320 974 os, C0, ⟨544, 0, 555, 26⟩) := by kernel_rfl
theorem p24 (w : World) (os : OsState) : segRunT tb2 P0 w 28 (some (.ref 6)) 1 10 (Sx (T23 w.params) 320 974 os) (piecesOf [st 24] E0 C0 ⟨544, 0, 555, 26⟩ [topFrame q0]) = some (.next, Sx (T24 w.params) 320 976 os, C0, ⟨556, 0, 556, 8⟩) := by kernel_rfl
theorem p25 (w : World) (os : OsState) : segRunT tb2 P0 w 28 (some (.ref 6)) 1 33 (Sx (T24 w.params) 320 976 os) (piecesOf [st 25] E0 C0 ⟨556, 0, 556, 8⟩ [topFrame q0]) = some (.next, Sx (T25 w.params) 327 986 os, C0, ⟨557, 0, 575, 26⟩) := by kernel_rfl
theorem p26 (w : World) (os : OsState) : segRunT tb2 P0 w 28 (some (.ref 6)) 1 34 (Sx (T25 w.params) 327 986 os) (piecesOf [st 26] E0 C0 ⟨557, 0, 575, 26⟩ [topFrame q0]) = some (.next, Sx (T26 w.params) 334 997 os, C0, ⟨576, 0, 619, 17⟩) := by kernel_rfl
theorem p27 (w : World) (os : OsState) : segRunT tb2 P0 w 28 (some (.ref 6)) 1 34 (Sx (T26 w.params) 334 997 os) (piecesOf [st 27] E0 C0 ⟨576, 0, 619, 17⟩ [topFrame q0]) = some (.next, Sx (T27 w.params) 341 1008 os, C0, ⟨620, 0, 664, 17⟩) := by kernel_rfl
theorem p28 (w : World) (os : OsState) : segRunT tb2 P0 w 28 (some (.ref 6)) 1 10 (Sx (T27 w.params) 341 1008 os) (piecesOf [st 28] E0 C0 ⟨620, 0, 664, 17⟩ [topFrame q0]) = some (.next, Sx (T28 w.params) 341 1010 os, C0, ⟨665, 0, 665, 8⟩) := by kernel_rfl
theorem rq29 : PySem.W.Fast.tw3545279648189370747 := fun w os => by kernel_rfl
theorem pq29 : q29 := by
  rw [PySem.W.Fast.te3545279648189370747]
  exact rq29
theorem p29 (w : World) (os : OsState) : segRunT tb2 P0 (w) 28 (some (.ref 6)) 1 596 (Sx (T28 (w).params) 341 1010 os) (piecesOf [st 29] E0 C0 ⟨665, 0, 665, 8⟩ [topFrame q0]) = some (.next, Sx (T29 (w).params) 393 1090 os, C0, ⟨666, 0, 748, 16⟩) := pq29 w os
theorem p30 (w : World) (os : OsState) : segRunT tb2 P0 w 28 (some (.ref 6)) 1 10 (Sx (T29 w.params) 393 1090 os) (piecesOf [st 30] E0 C0 ⟨666, 0, 748, 16⟩ [topFrame q0]) = some (.next, Sx (T30 w.params) 393 1092 os, C0, ⟨749, 0, 749, 8⟩) := by kernel_rfl
theorem rq31 : PySem.W.Fast.tw723339777545810550 := fun w os => by kernel_rfl
theorem pq31 : q31 := by
  rw [PySem.W.Fast.te723339777545810550]
  exact rq31
theorem p31 (w : World) (os : OsState) : segRunT tb2 P0 (w) 28 (some (.ref 6)) 1 324 (Sx (T30 (w).params) 393 1092 os) (piecesOf [st 31] E0 C0 ⟨749, 0, 749, 8⟩ [topFrame q0]) = some (.next, Sx (T31 (w).params) 436 1149 os, C0, ⟨750, 0, 767, 54⟩) := pq31 w os
theorem p32 (w : World) (os : OsState) : segRunT tb2 P0 w 28 (some (.ref 6)) 1 11 (Sx (T31 w.params) 436 1149 os) (piecesOf [st 32] E0 C0 ⟨750, 0, 767, 54⟩ [topFrame q0]) = some (.next, Sx (T32 w.params) 436 1150 os, C0, ⟨768, 0, 768, 13⟩) := by kernel_rfl
end BL
end
-- part HC
section
set_option linter.unusedVariables false
open PySem PySem.W PyProof.Rows
set_option maxRecDepth 100000
set_option maxHeartbeats 0
set_option Elab.async false
namespace BL
theorem rq33 : PySem.W.Fast.tw3666731411190978283 := fun w os => by kernel_rfl
theorem pq33 : q33 := by
  rw [PySem.W.Fast.te3666731411190978283]
  exact rq33
theorem p33 (w : World) (os : OsState) : segRunT tb2 P0 (w) 28 (some (.ref 6)) 1 1351 (Sx (T32 (w).params) 436 1150 os) (piecesOf [st 33] E0 C0 ⟨768, 0, 768, 13⟩ [topFrame q0]) = some (.next, Sx (T33 (w).params) 516 1309 os, C0, ⟨769, 0, 821, 57⟩) := pq33 w os
theorem rq34 : PySem.W.Fast.tw10541116731897506625 := fun w os => by kernel_rfl
theorem pq34 : q34 := by
  rw [PySem.W.Fast.te10541116731897506625]
  exact rq34
theorem p34 (w : World) (os : OsState) : segRunT tb2 P0 (w) 28 (some (.ref 6)) 1 563 (Sx (T33 (w).params) 516 1309 os) (piecesOf [st 34] E0 C0 ⟨769, 0, 821, 57⟩ [topFrame q0]) = some (.next, Sx (T34 (w).params) 568 1391 os, C0, ⟨822, 0, 898, 16⟩) := pq34 w os
theorem p35 (w : World) (os : OsState) : segRunT tb2 P0 w 28 (some (.ref 6)) 1 10 (Sx (T34 w.params) 568 1391 os) (piecesOf [st 35] E0 C0 ⟨822, 0, 898, 16⟩ [topFrame q0]) = some (.next, Sx (T35 w.params) 568 1393 os, C0, ⟨899, 0, 899, 8⟩) := by kernel_rfl
theorem rq36 : PySem.W.Fast.tw4350669648041271192 := fun w os => by kernel_rfl
theorem pq36 : q36 := by
  rw [PySem.W.Fast.te4350669648041271192]
  exact rq36
theorem p36 (w : World) (os : OsState) : segRunT tb2 P0 (w) 28 (some (.ref 6)) 1 324 (Sx (T35 (w).params) 568 1393 os) (piecesOf [st 36] E0 C0 ⟨899, 0, 899, 8⟩ [topFrame q0]) = some (.next, Sx (T36 (w).params) 611 1450 os, C0, ⟨900, 0, 917, 54⟩) := pq36 w os
theorem p37 (w : World) (os : OsState) : segRunT tb2 P0 w 28 (some (.ref 6)) 1 11 (Sx (T36 w.params) 611 1450 os) (piecesOf [st 37] E0 C0 ⟨900, 0, 917, 54⟩ [topFrame q0]) = some (.next, Sx (T37 w.params) 611 1451 os, C0, ⟨918, 0, 918, 15⟩) := by kernel_rfl
end BL
end
-- part HD
section
set_option linter.unusedVariables false
open PySem PySem.W PyProof.Rows
set_option maxRecDepth 100000
set_option maxHeartbeats 0
set_option Elab.async false
namespace BL
theorem rq38 : PySem.W.Fast.tw3363427861123959380 := fun w os => by kernel_rfl
theorem pq38 : q38 := by
  rw [PySem.W.Fast.te3363427861123959380]
  exact rq38
theorem p38 (w : World) (os : OsState) : segRunT tb2 P0 (w) 28 (some (.ref 6)) 1 1649 (Sx (T37 (w).params) 611 1451 os) (piecesOf [st 38] E0 C0 ⟨918, 0, 918, 15⟩ [topFrame q0]) = some (.next, Sx (T38 (w).params) 697 1638 os, C0, ⟨919, 0, 975, 60⟩) := pq38 w os
theorem rq39 : PySem.W.Fast.tw8971484987721280330 := fun w os => by kernel_rfl
theorem pq39 : q39 := by
  rw [PySem.W.Fast.te8971484987721280330]
  exact rq39
theorem p39 (w : World) (os : OsState) : segRunT tb2 P0 (w) 28 (some (.ref 6)) 1 563 (Sx (T38 (w).params) 697 1638 os) (piecesOf [st 39] E0 C0 ⟨919, 0, 975, 60⟩ [topFrame q0]) = some (.next, Sx (T39 (w).params) 749 1720 os, C0, ⟨976, 0, 1054, 17⟩) := pq39 w os
theorem p40 (w : World) (os : OsState) : segRunT tb2 P0 w 28 (some (.ref 6)) 1 10 (Sx (T39 w.params) 749 1720 os) (piecesOf [st 40] E0 C0 ⟨976, 0, 1054, 17⟩ [topFrame q0]) = some (.next, Sx (T40 w.params) 749 1722 os, C0, ⟨1055, 0, 1055, 8⟩) := by kernel_rfl
theorem rq41 : PySem.W.Fast.tw12456547326064992148 := fun w os => by kernel_rfl
theorem pq41 : q41 := by
  rw [PySem.W.Fast.te12456547326064992148]
  exact rq41
theorem p41 (w : World) (os : OsState) : segRunT tb2 P0 (w) 28 (some (.ref 6)) 1 582 (Sx (T40 (w).params) 749 1722 os) (piecesOf [st 41] E0 C0 ⟨1055, 0, 1055, 8⟩ [topFrame q0]) = some (.next, Sx (T41 (w).params) 806 1803 os, C0, ⟨1056, 0, 1102, 17⟩) := pq41 w os
theorem p42 (w : World) (os : OsState) : segRunT tb2 P0 w 28 (some (.ref 6)) 1 10 (Sx (T41 w.params) 806 1803 os) (piecesOf [st 42] E0 C0 ⟨1056, 0, 1102, 17⟩ [topFrame q0]) = some (.next, Sx (T42 w.params) 806 1805 os, C0, ⟨1103, 0, 1103, 8⟩) := by kernel_rfl
theorem rq43 : PySem.W.Fast.tw6137490302225806240 := fun w os => by kernel_rfl
theorem pq43 : q43 := by
  rw [PySem.W.Fast.te6137490302225806240]
  exact rq43
theorem p43 (w : World) (os : OsState) : segRunT tb2 P0 (w) 28 (some (.ref 6)) 1 749 (Sx (T42 (w).params) 806 1805 os) (piecesOf [st 43] E0 C0 ⟨1103, 0, 1103, 8⟩ [topFrame q0]) = some (.next, Sx (T43 (w).params) 874 1905 os, C0, ⟨1104, 0, 1192, 17⟩) := pq43 w os
theorem p44 (w : World) (os : OsState) : segRunT tb2 P0 w 28 (some (.ref 6)) 1 10 (Sx (T43 w.params) 874 1905 os) (piecesOf [st 44] E0 C0 ⟨1104, 0, 1192, 17⟩ [topFrame q0]) = some (.next, Sx (T44 w.params) 874 1907 os, C0, ⟨1193, 0, 1193, 8⟩) := by kernel_rfl
theorem p45 (w : World) (os : OsState) : segRunT tb2 P0 w 28 (some (.ref 6)) 1 21 (Sx (T44 w.params) 874 1907 os) (piecesOf [st 45] E0 C0 ⟨1193, 0, 1193, 8⟩ [topFrame q0]) = some (.next, Sx (T45 w.params) 875 1918 os, C0, ⟨1194, 0, 1194, 10⟩) := by kernel_rfl
theorem p46 (w : World) (os : OsState) : segRunT tb2 P0 w 28 (some (.ref 6)) 1 32 (Sx (T45 w.params) 875 1918 os) (piecesOf [st 46] E0 C0 ⟨1194, 0, 1194, 10⟩ [topFrame q0]) = some (.next, Sx (T46 w.params) 882 1927 os, C0, ⟨1195, 0, 1202, 31⟩) := by kernel_rfl
theorem p47 (w : World) (os : OsState) : segRunT tb2 P0 w 28 (some (.ref 6)) 1 36 (Sx (T46 w.params) 882 1927 os) (piecesOf [st 47] E0 C0 ⟨1195, 0, 1202, 31⟩ [topFrame q0]) = some (.next, Sx (T47 w.params) 889 1940 os, C0, ⟨1203, 0, 1216, 14⟩) := by kernel_rfl
theorem p48 (w : World) (os : OsState) : segRunT tb2 P0 w 28 (some (.ref 6)) 1 31 (Sx (T47 w.params) 889 1940 os) (piecesOf [st 48] E0 C0 ⟨1203, 0, 1216, 14⟩ [topFrame q0]) = some (.next, Sx (T48 w.params) 896 1948 os, C0, ⟨1217, 0, 1224, 41⟩) := by kernel_rfl
theorem p49 (w : World) (os : OsState) : segRunT tb2 P0 w 28 (some (.ref 6)) 1 31 (Sx (T48 w.params) 896 1948 os) (piecesOf [st 49] E0 C0 ⟨1217, 0, 1224, 41⟩ [topFrame q0]) = some (.next, Sx (T49 w.params) 903 1956 os, C0, ⟨1225, 0, 1232, 38⟩) := by kernel_rfl
theorem p50 (w : World) (os : OsState) : segRunT tb2 P0 w 28 (some (.ref 6)) 1 27 (Sx (T49 w.params) 903 1956 os) (piecesOf [st 50] E0 C0 ⟨1225, 0, 1232, 38⟩ [topFrame q0]) = some (.next, Sx (T50 w.params) 908 1962 os, C0, ⟨1233, 0, 1249, 70⟩) := by kernel_rfl
end BL
end
-- part HE
section
set_option linter.unusedVariables false
open PySem PySem.W PyProof.Rows
set_option maxRecDepth 100000
set_option maxHeartbeats 0
set_option Elab.async false
namespace BL
def oE0 (P : Params) : Obj := ⟨.type "dict", .none, .dict ⟨[kv P (S "__name__") 1 (.str (S "builtins") 160), kv P (S "__doc__") 2 (.builtin "builtins.__doc__:str#opaque"), kv P (S "__package__") 3 (.builtin "builtins.__package__:str#opaque"), kv P (S "__loader__") 4 (.builtin "builtins.__loader__:shared#opaque"), kv P (S "__spec__") 5 (.builtin "builtins.__spec__#opaque"), kv P (S "__build_class__") 6 (.builtin "__build_class__"), kv P (S "__import__") 7 (.builtin "__import__"), kv P (S "abs") 8 (.builtin "abs"), kv P (S "all") 9 (.builtin "all"), kv P (S "any") 10 (.builtin "any"), kv P (S "ascii") 11 (.builtin "ascii"), kv P (S "bin") 12 (.builtin "bin"), kv P (S "breakpoint") 13 (.builtin "breakpoint"), kv P (S "callable") 14 (.builtin "callable"), kv P (S "chr") 15 (.builtin "chr"), kv P (S "compile") 16 (.builtin "compile"), kv P (S "delattr") 17 (.builtin "delattr"), kv P (S "dir") 18 (.builtin "dir"), kv P (S "divmod") 19 (.builtin "divmod"), kv P (S "eval") 20 (.builtin "eval"), kv P (S "exec") 21 (.builtin "exec"), kv P (S "format") 22 (.builtin "format"), kv P (S "getattr") 23 (.builtin "getattr"), kv P (S "globals") 24 (.builtin "globals"), kv P (S "hasattr") 25 (.builtin "hasattr"), kv P (S "hash") 26 (.builtin "hash"), kv P (S "hex") 27 (.builtin "hex"), kv P (S "id") 28 (.builtin "id"), kv P (S "input") 29 (.builtin "input"), kv P (S "isinstance") 30 (.builtin "isinstance"), kv P (S "issubclass") 31 (.builtin "issubclass"), kv P (S "iter") 32 (.builtin "iter"), kv P (S "aiter") 33 (.builtin "aiter"), kv P (S "len") 34 (.builtin "len"), kv P (S "locals") 35 (.builtin "locals"), kv P (S "max") 36 (.builtin "max"), kv P (S "min") 37 (.builtin "min"), kv P (S "next") 38 (.builtin "next"), kv P (S "anext") 39 (.builtin "anext"), kv P (S "oct") 40 (.builtin "oct"), kv P (S "ord") 41 (.builtin "ord"), kv P (S "pow") 42 (.builtin "pow"), kv P (S "print") 43 (.builtin "print"), kv P (S "repr") 44 (.builtin "repr"), kv P (S "round") 45 (.builtin "round"), kv P (S "setattr") 46 (.builtin "setattr"), kv P (S "sorted") 47 (.builtin "sorted"), kv P (S "sum") 48 (.builtin "sum"), kv P (S "vars") 49 (.builtin "vars"), kv P (S "None") 50 (.none), kv P (S "Ellipsis") 51 (.ellipsis), kv P (S "NotImplemented") 52 (.notImplemented), kv P (S "False") 53 (.bool false), kv P (S "True") 54 (.bool true), kv P (S "bool") 55 (.type "bool"), kv P (S "memoryview") 56 (.type "memoryview"), kv P (S "bytearray") 57 (.type "bytearray"), kv P (S "bytes") 58 (.type "bytes"), kv P (S "classmethod") 59 (.type "classmethod"), kv P (S "complex") 60 (.type "complex"), kv P (S "dict") 61 (.type "dict"), kv P (S "enumerate") 62 (.type "enumerate"), kv P (S "filter") 63 (.type "filter"), kv P (S "float") 64 (.type "float"), kv P (S "frozenset") 65 (.type "frozenset"), kv P (S "property") 66 (.type "property"), kv P (S "int") 67 (.type "int"), kv P (S "list") 68 (.type "list"), kv P (S "map") 69 (.type "map"), kv P (S "object") 70 (.type "object"), kv P (S "range") 71 (.type "range"), kv P (S "reversed") 72 (.type "reversed"), kv P (S "set") 73 (.type "set"), kv P (S "slice") 74 (.type "slice"), kv P (S "staticmethod") 75 (.type "staticmethod"), kv P (S "str") 76 (.type "str"), kv P (S "super") 77 (.type "super"), kv P (S "tuple") 78 (.type "tuple"), kv P (S "type") 79 (.type "type"), kv P (S "zip") 80 (.type "zip"), kv P (S "__debug__") 81 (.bool true), kv P (S "BaseException") 82 (.type "BaseException"), kv P (S "BaseExceptionGroup") 83 (.type "BaseExceptionGroup"), kv P (S "Exception") 84 (.type "Exception"), kv P (S "GeneratorExit") 85 (.type "GeneratorExit"), kv P (S "KeyboardInterrupt") 86 (.type "KeyboardInterrupt"), kv P (S "SystemExit") 87 (.type "SystemExit"), kv P (S "ArithmeticError") 88 (.type "ArithmeticError"), kv P (S "AssertionError") 89 (.type "AssertionError"), kv P (S "AttributeError") 90 (.type "AttributeError"), kv P (S "BufferError") 91 (.type "BufferError"), kv P (S "EOFError") 92 (.type "EOFError"), kv P (S "ImportError") 93 (.type "ImportError"), kv P (S "LookupError") 94 (.type "LookupError"), kv P (S "MemoryError") 95 (.type "MemoryError"), kv P (S "NameError") 96 (.type "NameError"), kv P (S "OSError") 97 (.type "OSError"), kv P (S "ReferenceError") 98 (.type "ReferenceError"), kv P (S "RuntimeError") 99 (.type "RuntimeError"), kv P (S "StopAsyncIteration") 100 (.type "StopAsyncIteration"), kv P (S "StopIteration") 101 (.type "StopIteration"), kv P (S "SyntaxError") 102 (.type "SyntaxError"), kv P (S "SystemError") 103 (.type "SystemError"), kv P (S "TypeError") 104 (.type "TypeError"), kv P (S "ValueError") 105 (.type "ValueError"), kv P (S "Warning") 106 (.type "Warning"), kv P (S "FloatingPointError") 107 (.type "FloatingPointError"), kv P (S "OverflowError") 108 (.type "OverflowError"), kv P (S "ZeroDivisionError") 109 (.type "ZeroDivisionError"), kv P (S "BytesWarning") 110 (.type "BytesWarning"), kv P (S "DeprecationWarning") 111 (.type "DeprecationWarning"), kv P (S "EncodingWarning") 112 (.type "EncodingWarning"), kv P (S "FutureWarning") 113 (.type "FutureWarning"), kv P (S "ImportWarning") 114 (.type "ImportWarning"), kv P (S "PendingDeprecationWarning") 115 (.type "PendingDeprecationWarning"), kv P (S "ResourceWarning") 116 (.type "ResourceWarning"), kv P (S "RuntimeWarning") 117 (.type "RuntimeWarning"), kv P (S "SyntaxWarning") 118 (.type "SyntaxWarning"), kv P (S "UnicodeWarning") 119 (.type "UnicodeWarning"), kv P (S "UserWarning") 120 (.type "UserWarning"), kv P (S "BlockingIOError") 121 (.type "BlockingIOError"), kv P (S "ChildProcessError") 122 (.type "ChildProcessError"), kv P (S "ConnectionError") 123 (.type "ConnectionError"), kv P (S "FileExistsError") 124 (.type "FileExistsError"), kv P (S "FileNotFoundError") 125 (.type "FileNotFoundError"), kv P (S "InterruptedError") 126 (.type "InterruptedError"), kv P (S "IsADirectoryError") 127 (.type "IsADirectoryError"), kv P (S "NotADirectoryError") 128 (.type "NotADirectoryError"), kv P (S "PermissionError") 129 (.type "PermissionError"), kv P (S "ProcessLookupError") 130 (.type "ProcessLookupError"), kv P (S "TimeoutError") 131 (.type "TimeoutError"), kv P (S "IndentationError") 132 (.type "IndentationError"), kv P (S "_IncompleteInputError") 133 (.type "_IncompleteInputError"), kv P (S "IndexError") 134 (.type "IndexError"), kv P (S "KeyError") 135 (.type "KeyError"), kv P (S "ModuleNotFoundError") 136 (.type "ModuleNotFoundError"), kv P (S "NotImplementedError") 137 (.type "NotImplementedError"), kv P (S "PythonFinalizationError") 138 (.type "PythonFinalizationError"), kv P (S "RecursionError") 139 (.type "RecursionError"), kv P (S "UnboundLocalError") 140 (.type "UnboundLocalError"), kv P (S "UnicodeError") 141 (.type "UnicodeError"), kv P (S "BrokenPipeError") 142 (.type "BrokenPipeError"), kv P (S "ConnectionAbortedError") 143 (.type "ConnectionAbortedError"), kv P (S "ConnectionRefusedError") 144 (.type "ConnectionRefusedError"), kv P (S "ConnectionResetError") 145 (.type "ConnectionResetError"), kv P (S "TabError") 146 (.type "TabError"), kv P (S "UnicodeDecodeError") 147 (.type "UnicodeDecodeError"), kv P (S "UnicodeEncodeError") 148 (.type "UnicodeEncodeError"), kv P (S "UnicodeTranslateError") 149 (.type "UnicodeTranslateError"), kv P (S "ExceptionGroup") 150 (.type "ExceptionGroup"), kv P (S "EnvironmentError") 151 (.type "OSError"), kv P (S "IOError") 152 (.type "OSError"), kv P (S "open") 153 (.builtin "open"), kv P (S "quit") 154 (.builtin "builtins.quit#opaque"), kv P (S "exit") 155 (.builtin "builtins.exit#opaque"), kv P (S "copyright") 156 (.builtin "builtins.copyright#opaque"), kv P (S "credits") 157 (.builtin "builtins.credits#opaque"), kv P (S "license") 158 (.builtin "builtins.license#opaque"), kv P (S "help") 159 (.builtin "builtins.help#opaque")]⟩ 159, ⟨[]⟩⟩
def oE1 (P : Params) : Obj := ⟨.type "dict", .none, .dict ⟨[kv P (S "builtins") 162 (.ref 4), kv P (S "__main__") 163 (.ref 5), kv P (S "_sre") 244 (.ref 12)]⟩ 3, ⟨[]⟩⟩
def oE2 (P : Params) : Obj := ⟨.none, .none, .dict ⟨[kv P (S "\x69mport.loaded._sre") 183 (.bool true), kv P (S "class._frozen_importlib.BuiltinImporter") 185 (.ref 14), kv P (S "watched.\x69mport") 206 (.ref 18), kv P (S "class._frozen_importlib.ModuleSpec") 216 (.ref 22), kv P (S "sys.modules.booked-epoch") 245 (.int (3) 0), kv P (S "\x69mport.later-laid._sre") 270 (.bool true), kv P (S "watched.library") 272 (.ref 27), kv P (S "watched.library-objects") 0 (.str (S "\x0c") 0), kv P (S "watched.library-deep._sre") 273 (.str (S "\x04\x00\x00\x0b\x04\x00\x00\x0b\x04\x00\x00\x03\x04\x00\x00\x0b\x08\x04dict\x02") 0)]⟩ 9, ⟨[]⟩⟩
def oE3 (P : Params) : Obj := ⟨.type "dict", .none, .dict ⟨[kv P (S "__name__") 165 (.str (S "__main__") 164), kv P (S "__doc__") 166 (.none), kv P (S "__package__") 167 (.none), kv P (S "__loader__") 168 (.builtin "__main__.__loader__#opaque"), kv P (S "__spec__") 169 (.none), kv P (S "__annotations__") 170 (.ref 6), kv P (S "__builtins__") 171 (.ref 4), kv P (S "__file__") 173 (.str (S "/claim/cut.py") 172), kv P (S "__cached__") 174 (.none), kv P (S "_sre") 275 (.ref 12)]⟩ 10, ⟨[]⟩⟩
def oE4 (P : Params) : Obj := ⟨.type "module", (.some (0)), .plain, ⟨[]⟩⟩
def oE5 (P : Params) : Obj := ⟨.type "module", (.some (3)), .plain, ⟨[]⟩⟩
def oE6 (P : Params) : Obj := ⟨.type "dict", .none, .dict ⟨[]⟩ 0, ⟨[]⟩⟩
def oE7 (P : Params) : Obj := ⟨.type "tuple", .none, .seq ⟨[]⟩ 0, ⟨[]⟩⟩
def oE8 (P : Params) : Obj := ⟨.none, .none, .fields ⟨[]⟩, ⟨[]⟩⟩
def oE9 (P : Params) : Obj := ⟨.type "code", .none, .fields ⟨[.str (S "<module>") 176, .str (S "<module>") 177, .str (S "/claim/cut.py") 178, .int (1) 0, .int (0) 0, .int (0) 0, .int (0) 0, .int (0) 0, .ref 7, .bool false, .int (175) 0, .ref 8, .none, .none, .none, .none, .int (179) 0, .int (1) 0, .str (S "/claim/cut.py") 180]⟩, ⟨[]⟩⟩
def oE10 (P : Params) : Obj := ⟨.type "frame", .none, .plain, ⟨[(.some (.ref 9)), (.some (.ref 3)), (.some (.ref 3)), .none, (.some (.str (S "__main__") 164)), .none, (.some (.ref 0))]⟩⟩
def oE11 (P : Params) : Obj := ⟨.type "dict", .none, .dict ⟨[kv P (S "__name__") 247 (.str (S "_sre") 246), kv P (S "__doc__") 248 (.none), kv P (S "__package__") 250 (.str (S "") 249), kv P (S "__loader__") 251 (.ref 14), kv P (S "__spec__") 252 (.ref 26), kv P (S "compile") 253 (.builtin "_sre.compile"), kv P (S "template") 254 (.builtin "_sre.template"), kv P (S "getcodesize") 255 (.builtin "_sre.getcodesize"), kv P (S "ascii_iscased") 256 (.builtin "_sre.ascii_iscased"), kv P (S "unicode_iscased") 257 (.builtin "_sre.unicode_iscased"), kv P (S "ascii_tolower") 258 (.builtin "_sre.ascii_tolower"), kv P (S "unicode_tolower") 259 (.builtin "_sre.unicode_tolower"), kv P (S "MAGIC") 261 (.int (20230612) 260), kv P (S "CODESIZE") 263 (.int (4) 262), kv P (S "MAXREPEAT") 265 (.int (4294967295) 264), kv P (S "MAXGROUPS") 267 (.int (1073741823) 266), kv P (S "copyright") 269 (.str (S " SRE 2.2.2 Copyright (c) 1997-2002 by Secret Labs AB ") 268)]⟩ 17, ⟨[]⟩⟩
def oE12 (P : Params) : Obj := ⟨.type "module", (.some (11)), .plain, ⟨[]⟩⟩
def oE13 (P : Params) : Obj := ⟨.type "dict", .none, .dict ⟨[kv P (S "__module__") 189 (.str (S "_frozen_importlib") 186), kv P (S "__firstlineno__") 190 (.int (971) 187), kv P (S "__doc__") 191 (.builtin "_frozen_importlib.BuiltinImporter.__doc__:str#opaque"), kv P (S "_ORIGIN") 192 (.str (S "built-in") 188), kv P (S "find_spec") 193 (.builtin "_frozen_importlib.BuiltinImporter.find_spec#opaque"), kv P (S "create_module") 194 (.builtin "_frozen_importlib.BuiltinImporter.create_module#opaque"), kv P (S "exec_module") 195 (.builtin "_frozen_importlib.BuiltinImporter.exec_module#opaque"), kv P (S "get_code") 196 (.builtin "_frozen_importlib.BuiltinImporter.get_code#opaque"), kv P (S "get_source") 197 (.builtin "_frozen_importlib.BuiltinImporter.get_source#opaque"), kv P (S "is_package") 198 (.builtin "_frozen_importlib.BuiltinImporter.is_package#opaque"), kv P (S "load_module") 199 (.builtin "_frozen_importlib.BuiltinImporter.load_module#opaque"), kv P (S "__static_attributes__") 200 (.ref 15), kv P (S "__dict__") 202 (.ref 16), kv P (S "__weakref__") 204 (.ref 17)]⟩ 14, ⟨[]⟩⟩
def oE14 (P : Params) : Obj := ⟨.type "type", .none, .cls ⟨(S "BuiltinImporter"), [.type "object"], [.ref 14, .type "object"], 13, (S "BuiltinImporter"), true, [], [], false, .none, false⟩, ⟨[]⟩⟩
def oE15 (P : Params) : Obj := ⟨.type "tuple", .none, .seq ⟨[]⟩ 0, ⟨[]⟩⟩
def oE16 (P : Params) : Obj := ⟨.type "getset_descriptor", .none, .fields ⟨[.str (S "__dict__") 201, .ref 14, .builtin "function.__dict__", .builtin "function.__dict__#set"]⟩, ⟨[]⟩⟩
def oE17 (P : Params) : Obj := ⟨.type "getset_descriptor", .none, .fields ⟨[.str (S "__weakref__") 203, .ref 14, .builtin "ExceptionGroup.__weakref__", .none]⟩, ⟨[]⟩⟩
def oE18 (P : Params) : Obj := ⟨.none, .none, .seq ⟨[.int (13) 0, .str (S "\x06½\n__module__\x06º\x11_frozen_importlib\x06¾\x0f__firstlineno__\x04»\x00ϋ\x06¿\x07__doc__\x094_frozen_importlib.BuiltinImporter.__doc__:str#opaque\x06À\x07_ORIGIN\x06¼\x08built-in\x06Á\x09find_spec\x092_frozen_importlib.BuiltinImporter.find_spec#opaque\x06Â\x0dcreate_module\x096_frozen_importlib.BuiltinImporter.create_module#opaque\x06Ã\x0bexec_module\x094_frozen_importlib.BuiltinImporter.exec_module#opaque\x06Ä\x08get_code\x091_frozen_importlib.BuiltinImporter.get_code#opaque\x06Å\nget_source\x093_frozen_importlib.BuiltinImporter.get_source#opaque\x06Æ\nis_package\x093_frozen_importlib.BuiltinImporter.is_package#opaque\x06Ç\x0bload_module\x094_frozen_importlib.BuiltinImporter.load_module#opaque\x06È\x15__static_attributes__\x04\x00\x00\x0f\x06Ê\x08__dict__\x04\x00\x00\x10\x06Ì\x0b__weakref__\x04\x00\x00\x11") 0, .bool true, .bool true, .str (S "") 205, .int (21) 0, .str (S "\x06ã\n__module__\x06Ù\x11_frozen_importlib\x06ä\x0f__firstlineno__\x04Ú\x00Ȳ\x06å\x07__doc__\x09/_frozen_importlib.ModuleSpec.__doc__:str#opaque\x06æ\x08__init__\x09,_frozen_importlib.ModuleSpec.__init__#opaque\x06ç\x08__repr__\x09,_frozen_importlib.ModuleSpec.__repr__#opaque\x06è\x06__eq__\x09*_frozen_importlib.ModuleSpec.__eq__#opaque\x06é\x06cached\x09*_frozen_importlib.ModuleSpec.cached#opaque\x06ê\x06parent\x09*_frozen_importlib.ModuleSpec.parent#opaque\x06ë\x0chas_location\x090_frozen_importlib.ModuleSpec.has_location#opaque\x06ì\x15__static_attributes__\x04\x00\x00\x17\x06î\x08__dict__\x04\x00\x00\x18\x06ð\x0b__weakref__\x04\x00\x00\x19\x06ñ\x08__hash__\x00") 0, .bool true, .bool true, .str (S "") 242]⟩ 1, ⟨[]⟩⟩
def oE19 (P : Params) : Obj := ⟨.type "list", .none, .seq ⟨[]⟩ 0, ⟨[]⟩⟩
def oE20 (P : Params) : Obj := ⟨.type "dict", .none, .dict ⟨[kv P (S "name") 208 (.str (S "_sre") 207), kv P (S "loader") 209 (.ref 14), kv P (S "origin") 210 (.str (S "built-in") 184), kv P (S "loader_state") 211 (.none), kv P (S "submodule_search_locations") 212 (.none), kv P (S "_uninitialized_submodules") 213 (.ref 19), kv P (S "_set_fileattr") 214 (.bool false), kv P (S "_cached") 215 (.none), kv P (S "_initializing") 243 (.bool false)]⟩ 9, ⟨[]⟩⟩
def oE21 (P : Params) : Obj := ⟨.type "dict", .none, .dict ⟨[kv P (S "__module__") 227 (.str (S "_frozen_importlib") 217), kv P (S "__firstlineno__") 228 (.int (562) 218), kv P (S "__doc__") 229 (.builtin "_frozen_importlib.ModuleSpec.__doc__:str#opaque"), kv P (S "__init__") 230 (.builtin "_frozen_importlib.ModuleSpec.__init__#opaque"), kv P (S "__repr__") 231 (.builtin "_frozen_importlib.ModuleSpec.__repr__#opaque"), kv P (S "__eq__") 232 (.builtin "_frozen_importlib.ModuleSpec.__eq__#opaque"), kv P (S "cached") 233 (.builtin "_frozen_importlib.ModuleSpec.cached#opaque"), kv P (S "parent") 234 (.builtin "_frozen_importlib.ModuleSpec.parent#opaque"), kv P (S "has_location") 235 (.builtin "_frozen_importlib.ModuleSpec.has_location#opaque"), kv P (S "__static_attributes__") 236 (.ref 23), kv P (S "__dict__") 238 (.ref 24), kv P (S "__weakref__") 240 (.ref 25), kv P (S "__hash__") 241 (.none)]⟩ 13, ⟨[]⟩⟩
def oE22 (P : Params) : Obj := ⟨.type "type", .none, .cls ⟨(S "ModuleSpec"), [.type "object"], [.ref 22, .type "object"], 21, (S "ModuleSpec"), true, [], [], false, .none, false⟩, ⟨[]⟩⟩
def oE23 (P : Params) : Obj := ⟨.type "tuple", .none, .seq ⟨[.str (S "_cached") 219, .str (S "_set_fileattr") 220, .str (S "_uninitialized_submodules") 221, .str (S "loader") 222, .str (S "loader_state") 223, .str (S "name") 224, .str (S "origin") 225, .str (S "submodule_search_locations") 226]⟩ 0, ⟨[]⟩⟩
def oE24 (P : Params) : Obj := ⟨.type "getset_descriptor", .none, .fields ⟨[.str (S "__dict__") 237, .ref 22, .builtin "function.__dict__", .builtin "function.__dict__#set"]⟩, ⟨[]⟩⟩
def oE25 (P : Params) : Obj := ⟨.type "getset_descriptor", .none, .fields ⟨[.str (S "__weakref__") 239, .ref 22, .builtin "ExceptionGroup.__weakref__", .none]⟩, ⟨[]⟩⟩
def oE26 (P : Params) : Obj := ⟨.ref 22, (.some (20)), .plain, ⟨[]⟩⟩
def oE27 (P : Params) : Obj := ⟨.none, .none, .seq ⟨[.int (11) 0, .str ⟨⟨[6, 247, 8, 95, 95, 110, 97, 109, 101, 95, 95, 6, 246, 4, 95, 115, 114, 101, 6, 248, 7, 95, 95, 100, 111, 99, 95, 95, 0, 6, 250, 11, 95, 95, 112, 97, 99, 107, 97, 103, 101, 95, 95, 6, 249, 0, 6, 251, 10, 95, 95, 108, 111, 97, 100, 101, 114, 95, 95, 4, 0, 0, 14, 6, 252, 8, 95, 95, 115, 112, 101, 99, 95, 95, 4, 0, 0, 26, 6, 253, 7, 99, 111, 109, 112, 105, 108, 101, 9, 12, 95, 115, 114, 101, 46, 99, 111, 109, 112, 105, 108, 101, 6, 254, 8, 116, 101, 109, 112, 108, 97, 116, 101, 9, 13, 95, 115, 114, 101, 46, 116, 101, 109, 112, 108, 97, 116, 101, 6, 255, 11, 103, 101, 116, 99, 111, 100, 101, 115, 105, 122, 101, 9, 16, 95, 115, 114, 101, 46, 103, 101, 116, 99, 111, 100, 101, 115, 105, 122, 101, 6, 256, 13, 97, 115, 99, 105, 105, 95, 105, 115, 99, 97, 115, 101, 100, 9, 18, 95, 115, 114, 101, 46, 97, 115, 99, 105, 105, 95, 105, 115, 99, 97, 115, 101, 100, 6, 257, 15, 117, 110, 105, 99, 111, 100, 101, 95, 105, 115, 99, 97, 115, 101, 100, 9, 20, 95, 115, 114, 101, 46, 117, 110, 105, 99, 111, 100, 101, 95, 105, 115, 99, 97, 115, 101, 100, 6, 258, 13, 97, 115, 99, 105, 105, 95, 116, 111, 108, 111, 119, 101, 114, 9, 18, 95, 115, 114, 101, 46, 97, 115, 99, 105, 105, 95, 116, 111, 108, 111, 119, 101, 114, 6, 259, 15, 117, 110, 105, 99, 111, 100, 101, 95, 116, 111, 108, 111, 119, 101, 114, 9, 20, 95, 115, 114, 101, 46, 117, 110, 105, 99, 111, 100, 101, 95, 116, 111, 108, 111, 119, 101, 114, 6, 261, 5, 77, 65, 71, 73, 67, 4, 260, 0, 20230612, 6, 263, 8, 67, 79, 68, 69, 83, 73, 90, 69, 4, 262, 0, 4, 6, 265, 9, 77, 65, 88, 82, 69, 80, 69, 65, 84, 4, 264, 0, 4294967295, 6, 267, 9, 77, 65, 88, 71, 82, 79, 85, 80, 83, 4, 266, 0, 1073741823, 6, 269, 9, 99, 111, 112, 121, 114, 105, 103, 104, 116, 6, 268, 53, 32, 83, 82, 69, 32, 50, 46, 50, 46, 50, 32, 67, 111, 112, 121, 114, 105, 103, 104, 116, 32, 40, 99, 41, 32, 49, 57, 57, 55, 45, 50, 48, 48, 50, 32, 98, 121, 32, 83, 101, 99, 114, 101, 116, 32, 76, 97, 98, 115, 32, 65, 66, 32]⟩⟩ 0, .bool true, .bool false, .str (S "_sre") 271]⟩ 0, ⟨[]⟩⟩
def HE (P : Params) : Heap := ⟨⟨[oE0 P, oE1 P, oE2 P, oE3 P, oE4 P, oE5 P, oE6 P, oE7 P, oE8 P, oE9 P, oE10 P, oE11 P, oE12 P, oE13 P, oE14 P, oE15 P, oE16 P, oE17 P, oE18 P, oE19 P, oE20 P, oE21 P, oE22 P, oE23 P, oE24 P, oE25 P, oE26 P, oE27 P]⟩, {}⟩
def H0 (P : Params) : Heap := ⟨⟨[o0_0 P, o1_0 P, o2_0 P, o3_0 P, o4_0 P, o5_0 P, o6_0 P, o7_0 P, o8_0 P, o9_0 P, o10_0 P, o11_0 P, o12_0 P, o13_0 P, o14_0 P, o15_0 P, o16_0 P, o17_0 P, o18_0 P, o19_0 P, o20_0 P, o21_0 P, o22_0 P, o23_0 P, o24_0 P, o25_0 P, o26_0 P, o27_0 P]⟩, {}⟩
theorem pOpen (w : World) : importEnds tb2 (opening P0) w 799 (start (opening P0)).1 (start (opening P0)).2 = some ⟨HE w.params, #[], {}, 276, (start (opening P0)).1.os⟩ := by kernel_rfl
theorem pFence (w : World) : (fun os => (fenceModules? P0 ⟨HE w.params, #[], {}, 276, os⟩).map (fun s => (s.heap, s.gens, s.drawn, s.toks))) = fun _ => some (H0 w.params, #[], {}, 276) := by kernel_rfl
theorem pPre (w : World) (os : OsState) : topGo tb2 P0 w 28 (some (.ref 6)) 12 ⟨H0 w.params, #[], {}, 276, os⟩ (topStub P0) = some ((Sx (TP w.params) 32 282 os).abs, ⟨denote tb2 C0, C0, ⟨0, 0, 0, 0⟩, [topFrame q0]⟩) := by kernel_rfl
theorem pBlock (w : World) (os : OsState) : segRun tb2 P0 w 28 (some (.ref 6)) 1 1 (Sx (TP w.params) 32 282 os).abs (blockOf (behindTheImports P0) E0 C0 ⟨0, 0, 0, 0⟩ [topFrame q0]) = some (.next, (Sx (TP w.params) 32 282 os).abs, C0, ⟨0, 0, 0, 0⟩) := by kernel_rfl
theorem pFin (w : World) (os : OsState) : topRun tb2 P0 w 28 (some (.ref 6)) 2 (Sx (T50 w.params) 908 1962 os).abs ⟨doneF .next, C0, ⟨1233, 0, 1249, 70⟩, [topFrame q0]⟩ = some (Sx (T50 w.params) 908 1962 os).abs := by kernel_rfl
end BL
end
-- part HR
section
set_option linter.unusedVariables false
open PySem PySem.W PyProof.Rows
set_option maxRecDepth 100000
set_option maxHeartbeats 0
set_option Elab.async false
namespace BL
theorem body_is : behindTheImports P0 = [st 1, st 2, st 3, st 4, st 5, st 6, st 7, st 8, st 9, st 10, st 11, st 12, st 13, st 14, st 15, st 16, st 17, st 18, st 19, st 20, st 21, st 22, st 23, st 24, st 25, st 26, st 27, st 28, st 29, st 30, st 31, st 32, st 33, st 34, st 35, st 36, st 37, st 38, st 39, st 40, st 41, st 42, st 43, st 44, st 45, st 46, st 47, st 48, st 49, st 50] := by kernel_rfl
theorem pRun (w : World) (os : OsState) : topRun tb2 P0 w 28 (some (.ref 6)) (12 + (1 + (30 + (10 + (17 + (10 + (34 + (10 + (744 + (10 + (31 + (69 + (32 + (10 + (29 + (78 + (78 + (34 + (240 + (33 + (48 + (36 + (653 + (35 + (34 + (10 + (33 + (34 + (34 + (10 + (596 + (10 + (324 + (11 + (1351 + (563 + (10 + (324 + (11 + (1649 + (563 + (10 + (582 + (10 + (749 + (10 + (21 + (32 + (36 + (31 + (31 + (27 + 2)))))))))))))))))))))))))))))))))))))))))))))))))))) ⟨H0 w.params, #[], {}, 276, os⟩ (topStub P0) = some (Sx (T50 w.params) 908 1962 os).abs := by
  refine go_top (pPre w os) ?_
  refine piece_block (pBlock w os) ?_
  rw [body_is]
  refine piece_app (l := [st 1]) (segRun_of (p1 w os)) ?_
  refine piece_app (l := [st 2]) (segRun_of (p2 w os)) ?_
  refine piece_app (l := [st 3]) (segRun_of (p3 w os)) ?_
  refine piece_app (l := [st 4]) (segRun_of (p4 w os)) ?_
  refine piece_app (l := [st 5]) (segRun_of (p5 w os)) ?_
  refine piece_app (l := [st 6]) (segRun_of (p6 w os)) ?_
  refine piece_app (l := [st 7]) (segRun_of (p7 w os)) ?_
  refine piece_app (l := [st 8]) (segRun_of (p8 w os)) ?_
  refine piece_app (l := [st 9]) (segRun_of (p9 w os)) ?_
  refine piece_app (l := [st 10]) (segRun_of (p10 w os)) ?_
  refine piece_app (l := [st 11]) (segRun_of (p11 w os)) ?_
  refine piece_app (l := [st 12]) (segRun_of (p12 w os)) ?_
  refine piece_app (l := [st 13]) (segRun_of (p13 w os)) ?_
  refine piece_app (l := [st 14]) (segRun_of (p14 w os)) ?_
  refine piece_app (l := [st 15]) (segRun_of (p15 w os)) ?_
  refine piece_app (l := [st 16]) (segRun_of (p16 w os)) ?_
  refine piece_app (l := [st 17]) (segRun_of (p17 w os)) ?_
  refine piece_app (l := [st 18]) (segRun_of (p18 w os)) ?_
  refine piece_app (l := [st 19]) (segRun_of (p19 w os)) ?_
  refine piece_app (l := [st 20]) (segRun_of (p20 w os)) ?_
  refine piece_app (l := [st 21]) (segRun_of (p21 w os)) ?_
  refine piece_app (l := [st 22]) (segRun_of (p22 w os)) ?_
  refine piece_app (l := [st 23]) (segRun_of (p23 w os)) ?_
  refine piece_app (l := [st 24]) (segRun_of (p24 w os)) ?_
  refine piece_app (l := [st 25]) (segRun_of (p25 w os)) ?_
  refine piece_app (l := [st 26]) (segRun_of (p26 w os)) ?_
  refine piece_app (l := [st 27]) (segRun_of (p27 w os)) ?_
  refine piece_app (l := [st 28]) (segRun_of (p28 w os)) ?_
  refine piece_app (l := [st 29]) (segRun_of (p29 w os)) ?_
  refine piece_app (l := [st 30]) (segRun_of (p30 w os)) ?_
  refine piece_app (l := [st 31]) (segRun_of (p31 w os)) ?_
  refine piece_app (l := [st 32]) (segRun_of (p32 w os)) ?_
  refine piece_app (l := [st 33]) (segRun_of (p33 w os)) ?_
  refine piece_app (l := [st 34]) (segRun_of (p34 w os)) ?_
  refine piece_app (l := [st 35]) (segRun_of (p35 w os)) ?_
  refine piece_app (l := [st 36]) (segRun_of (p36 w os)) ?_
  refine piece_app (l := [st 37]) (segRun_of (p37 w os)) ?_
  refine piece_app (l := [st 38]) (segRun_of (p38 w os)) ?_
  refine piece_app (l := [st 39]) (segRun_of (p39 w os)) ?_
  refine piece_app (l := [st 40]) (segRun_of (p40 w os)) ?_
  refine piece_app (l := [st 41]) (segRun_of (p41 w os)) ?_
  refine piece_app (l := [st 42]) (segRun_of (p42 w os)) ?_
  refine piece_app (l := [st 43]) (segRun_of (p43 w os)) ?_
  refine piece_app (l := [st 44]) (segRun_of (p44 w os)) ?_
  refine piece_app (l := [st 45]) (segRun_of (p45 w os)) ?_
  refine piece_app (l := [st 46]) (segRun_of (p46 w os)) ?_
  refine piece_app (l := [st 47]) (segRun_of (p47 w os)) ?_
  refine piece_app (l := [st 48]) (segRun_of (p48 w os)) ?_
  refine piece_app (l := [st 49]) (segRun_of (p49 w os)) ?_
  refine piece_app (l := [st 50]) (segRun_of (p50 w os)) ?_
  exact piece_nil (pFin w os)
end BL
end
-- part HK
section
set_option linter.unusedVariables false
open PySem PySem.W PyProof.Rows
set_option maxRecDepth 100000
set_option maxHeartbeats 0
set_option Elab.async false
namespace BL
def K (P : Params) : Frag := (nat_lit 2, o2_29 P) :: (nat_lit 3, o3_50 P) :: (nat_lit 32, o32_1 P) :: (nat_lit 34, o34_1 P) :: (nat_lit 35, o35_1 P) :: (nat_lit 37, o37_1 P) :: (nat_lit 38, o38_1 P) :: (nat_lit 39, o39_3 P) :: (nat_lit 40, o40_5 P) :: (nat_lit 41, o41_5 P) :: (nat_lit 43, o43_5 P) :: (nat_lit 44, o44_5 P) :: (nat_lit 46, o46_5 P) :: (nat_lit 47, o47_5 P) :: (nat_lit 48, o48_7 P) :: (nat_lit 51, o51_7 P) :: (nat_lit 56, o56_7 P) :: (nat_lit 57, o57_7 P) :: (nat_lit 59, o59_7 P) :: (nat_lit 60, o60_7 P) :: (nat_lit 62, o62_7 P) :: (nat_lit 63, o63_7 P) :: (nat_lit 64, o64_7 P) :: (nat_lit 65, o65_7 P) :: (nat_lit 67, o67_7 P) :: (nat_lit 68, o68_7 P) :: (nat_lit 70, o70_7 P) :: (nat_lit 71, o71_7 P) :: (nat_lit 72, o72_7 P) :: (nat_lit 73, o73_7 P) :: (nat_lit 75, o75_7 P) :: (nat_lit 76, o76_7 P) :: (nat_lit 78, o78_7 P) :: (nat_lit 79, o79_7 P) :: (nat_lit 80, o80_7 P) :: (nat_lit 81, o81_7 P) :: (nat_lit 83, o83_7 P) :: (nat_lit 84, o84_7 P) :: (nat_lit 86, o86_7 P) :: (nat_lit 87, o87_7 P) :: (nat_lit 88, o88_7 P) :: (nat_lit 89, o89_7 P) :: (nat_lit 91, o91_7 P) :: (nat_lit 92, o92_7 P) :: (nat_lit 94, o94_7 P) :: (nat_lit 95, o95_7 P) :: (nat_lit 96, o96_7 P) :: (nat_lit 97, o97_7 P) :: (nat_lit 98, o98_7 P) :: (nat_lit 100, o100_7 P) :: (nat_lit 101, o101_7 P) :: (nat_lit 103, o103_7 P) :: (nat_lit 104, o104_7 P) :: (nat_lit 105, o105_7 P) :: (nat_lit 106, o106_7 P) :: (nat_lit 107, o107_7 P) :: (nat_lit 109, o109_7 P) :: (nat_lit 110, o110_7 P) :: (nat_lit 112, o112_7 P) :: (nat_lit 113, o113_7 P) :: (nat_lit 114, o114_7 P) :: (nat_lit 115, o115_7 P) :: (nat_lit 116, o116_7 P) :: (nat_lit 118, o118_7 P) :: (nat_lit 119, o119_7 P) :: (nat_lit 121, o121_7 P) :: (nat_lit 122, o122_7 P) :: (nat_lit 123, o123_7 P) :: (nat_lit 125, o125_7 P) :: (nat_lit 126, o126_7 P) :: (nat_lit 128, o128_7 P) :: (nat_lit 129, o129_7 P) :: (nat_lit 130, o130_7 P) :: (nat_lit 132, o132_7 P) :: (nat_lit 133, o133_7 P) :: (nat_lit 135, o135_7 P) :: (nat_lit 136, o136_7 P) :: (nat_lit 137, o137_7 P) :: (nat_lit 139, o139_7 P) :: (nat_lit 140, o140_7 P) :: (nat_lit 142, o142_7 P) :: (nat_lit 143, o143_7 P) :: (nat_lit 144, o144_7 P) :: (nat_lit 146, o146_7 P) :: (nat_lit 147, o147_7 P) :: (nat_lit 149, o149_7 P) :: (nat_lit 150, o150_7 P) :: (nat_lit 151, o151_7 P) :: (nat_lit 153, o153_7 P) :: (nat_lit 154, o154_7 P) :: (nat_lit 156, o156_7 P) :: (nat_lit 157, o157_7 P) :: (nat_lit 158, o158_7 P) :: (nat_lit 160, o160_7 P) :: (nat_lit 161, o161_7 P) :: (nat_lit 163, o163_7 P) :: (nat_lit 164, o164_7 P) :: (nat_lit 165, o165_7 P) :: (nat_lit 167, o167_7 P) :: (nat_lit 168, o168_7 P) :: (nat_lit 170, o170_7 P) :: (nat_lit 171, o171_7 P) :: (nat_lit 172, o172_7 P) :: (nat_lit 173, o173_7 P) :: (nat_lit 174, o174_21 P) :: (nat_lit 175, o175_7 P) :: (nat_lit 176, o176_7 P) :: (nat_lit 179, o179_9 P) :: (nat_lit 181, o181_9 P) :: (nat_lit 182, o182_9 P) :: (nat_lit 184, o184_9 P) :: (nat_lit 185, o185_9 P) :: (nat_lit 189, o189_10 P) :: (nat_lit 190, o190_10 P) :: (nat_lit 191, o191_11 P) :: (nat_lit 193, o193_11 P) :: (nat_lit 194, o194_11 P) :: (nat_lit 196, o196_11 P) :: (nat_lit 197, o197_11 P) :: (nat_lit 198, o198_13 P) :: (nat_lit 199, o199_13 P) :: (nat_lit 202, o202_13 P) :: (nat_lit 203, o203_13 P) :: (nat_lit 207, o207_14 P) :: (nat_lit 208, o208_14 P) :: (nat_lit 212, o212_15 P) :: (nat_lit 213, o213_15 P) :: (nat_lit 214, o214_16 P) :: (nat_lit 215, o215_16 P) :: (nat_lit 217, o217_16 P) :: (nat_lit 218, o218_16 P) :: (nat_lit 220, o220_16 P) :: (nat_lit 221, o221_16 P) :: (nat_lit 225, o225_17 P) :: (nat_lit 226, o226_17 P) :: (nat_lit 227, o227_18 P) :: (nat_lit 228, o228_18 P) :: (nat_lit 230, o230_18 P) :: (nat_lit 231, o231_18 P) :: (nat_lit 233, o233_18 P) :: (nat_lit 234, o234_18 P) :: (nat_lit 235, o235_19 P) :: (nat_lit 236, o236_19 P) :: (nat_lit 238, o238_19 P) :: (nat_lit 239, o239_19 P) :: (nat_lit 241, o241_19 P) :: (nat_lit 242, o242_19 P) :: (nat_lit 243, o243_20 P) :: (nat_lit 244, o244_20 P) :: (nat_lit 246, o246_20 P) :: (nat_lit 247, o247_20 P) :: (nat_lit 249, o249_20 P) :: (nat_lit 250, o250_20 P) :: (nat_lit 251, o251_21 P) :: (nat_lit 254, o254_21 P) :: (nat_lit 259, o259_21 P) :: (nat_lit 260, o260_21 P) :: (nat_lit 263, o263_21 P) :: (nat_lit 264, o264_21 P) :: (nat_lit 265, o265_21 P) :: (nat_lit 266, o266_21 P) :: (nat_lit 267, o267_21 P) :: (nat_lit 269, o269_21 P) :: (nat_lit 270, o270_21 P) :: (nat_lit 272, o272_21 P) :: (nat_lit 273, o273_21 P) :: (nat_lit 274, o274_21 P) :: (nat_lit 275, o275_21 P) :: (nat_lit 277, o277_21 P) :: (nat_lit 278, o278_21 P) :: (nat_lit 280, o280_21 P) :: (nat_lit 281, o281_21 P) :: (nat_lit 282, o282_21 P) :: (nat_lit 283, o283_21 P) :: (nat_lit 285, o285_21 P) :: (nat_lit 286, o286_21 P) :: (nat_lit 288, o288_21 P) :: (nat_lit 289, o289_21 P) :: (nat_lit 290, o290_21 P) :: (nat_lit 291, o291_21 P) :: (nat_lit 292, o292_21 P) :: (nat_lit 293, o293_21 P) :: (nat_lit 295, o295_21 P) :: (nat_lit 296, o296_21 P) :: (nat_lit 298, o298_21 P) :: (nat_lit 299, o299_21 P) :: (nat_lit 300, o300_21 P) :: (nat_lit 301, o301_21 P) :: (nat_lit 302, o302_21 P) :: (nat_lit 303, o303_21 P) :: (nat_lit 306, o306_22 P) :: (nat_lit 308, o308_22 P) :: (nat_lit 309, o309_22 P) :: (nat_lit 311, o311_22 P) :: (nat_lit 312, o312_22 P) :: (nat_lit 313, o313_23 P) :: (nat_lit 315, o315_23 P) :: (nat_lit 316, o316_23 P) :: (nat_lit 318, o318_23 P) :: (nat_lit 319, o319_23 P) :: (nat_lit 320, o320_25 P) :: (nat_lit 322, o322_25 P) :: (nat_lit 323, o323_25 P) :: (nat_lit 325, o325_25 P) :: (nat_lit 326, o326_25 P) :: (nat_lit 327, o327_26 P) :: (nat_lit 329, o329_26 P) :: (nat_lit 330, o330_26 P) :: (nat_lit 332, o332_26 P) :: (nat_lit 333, o333_26 P) :: (nat_lit 334, o334_27 P) :: (nat_lit 336, o336_27 P) :: (nat_lit 337, o337_27 P) :: (nat_lit 339, o339_27 P) :: (nat_lit 340, o340_27 P) :: (nat_lit 341, o341_29 P) :: (nat_lit 344, o344_29 P) :: (nat_lit 349, o349_29 P) :: (nat_lit 350, o350_29 P) :: (nat_lit 351, o351_29 P) :: (nat_lit 352, o352_29 P) :: (nat_lit 354, o354_29 P) :: (nat_lit 355, o355_29 P) :: (nat_lit 357, o357_29 P) :: (nat_lit 358, o358_29 P) :: (nat_lit 359, o359_29 P) :: (nat_lit 361, o361_29 P) :: (nat_lit 362, o362_29 P) :: (nat_lit 364, o364_29 P) :: (nat_lit 365, o365_29 P) :: (nat_lit 366, o366_29 P) :: (nat_lit 368, o368_29 P) :: (nat_lit 369, o369_29 P) :: (nat_lit 371, o371_29 P) :: (nat_lit 372, o372_29 P) :: (nat_lit 373, o373_29 P) :: (nat_lit 374, o374_29 P) :: (nat_lit 375, o375_29 P) :: (nat_lit 376, o376_29 P) :: (nat_lit 378, o378_29 P) :: (nat_lit 379, o379_29 P) :: (nat_lit 381, o381_29 P) :: (nat_lit 382, o382_29 P) :: (nat_lit 383, o383_29 P) :: (nat_lit 384, o384_29 P) :: (nat_lit 386, o386_29 P) :: (nat_lit 387, o387_29 P) :: (nat_lit 388, o388_29 P) :: (nat_lit 389, o389_29 P) :: (nat_lit 390, o390_29 P) :: (nat_lit 400, o400_31 P) :: (nat_lit 402, o402_31 P) :: (nat_lit 403, o403_31 P) :: (nat_lit 405, o405_31 P) :: (nat_lit 406, o406_31 P) :: (nat_lit 407, o407_31 P) :: (nat_lit 408, o408_31 P) :: (nat_lit 410, o410_31 P) :: (nat_lit 411, o411_31 P) :: (nat_lit 413, o413_31 P) :: (nat_lit 414, o414_31 P) :: (nat_lit 415, o415_31 P) :: (nat_lit 417, o417_31 P) :: (nat_lit 418, o418_31 P) :: (nat_lit 420, o420_31 P) :: (nat_lit 421, o421_31 P) :: (nat_lit 422, o422_31 P) :: (nat_lit 424, o424_31 P) :: (nat_lit 425, o425_31 P) :: (nat_lit 427, o427_31 P) :: (nat_lit 428, o428_31 P) :: (nat_lit 429, o429_31 P) :: (nat_lit 430, o430_31 P) :: (nat_lit 431, o431_31 P) :: (nat_lit 432, o432_31 P) :: (nat_lit 433, o433_31 P) :: (nat_lit 436, o436_33 P) :: (nat_lit 439, o439_33 P) :: (nat_lit 444, o444_33 P) :: (nat_lit 445, o445_33 P) :: (nat_lit 446, o446_33 P) :: (nat_lit 447, o447_33 P) :: (nat_lit 449, o449_33 P) :: (nat_lit 450, o450_33 P) :: (nat_lit 452, o452_33 P) :: (nat_lit 453, o453_33 P) :: (nat_lit 454, o454_33 P) :: (nat_lit 456, o456_33 P) :: (nat_lit 457, o457_33 P) :: (nat_lit 459, o459_33 P) :: (nat_lit 460, o460_33 P) :: (nat_lit 461, o461_33 P) :: (nat_lit 462, o462_33 P) :: (nat_lit 463, o463_33 P) :: (nat_lit 464, o464_33 P) :: (nat_lit 465, o465_33 P) :: (nat_lit 467, o467_33 P) :: (nat_lit 468, o468_33 P) :: (nat_lit 470, o470_33 P) :: (nat_lit 471, o471_33 P) :: (nat_lit 472, o472_33 P) :: (nat_lit 474, o474_33 P) :: (nat_lit 475, o475_33 P) :: (nat_lit 477, o477_33 P) :: (nat_lit 478, o478_33 P) :: (nat_lit 479, o479_33 P) :: (nat_lit 481, o481_33 P) :: (nat_lit 482, o482_33 P) :: (nat_lit 484, o484_33 P) :: (nat_lit 485, o485_33 P) :: (nat_lit 486, o486_33 P) :: (nat_lit 488, o488_33 P) :: (nat_lit 489, o489_33 P) :: (nat_lit 491, o491_33 P) :: (nat_lit 492, o492_33 P) :: (nat_lit 493, o493_33 P) :: (nat_lit 494, o494_33 P) :: (nat_lit 495, o495_33 P) :: (nat_lit 497, o497_33 P) :: (nat_lit 498, o498_33 P) :: (nat_lit 500, o500_33 P) :: (nat_lit 501, o501_33 P) :: (nat_lit 503, o503_33 P) :: (nat_lit 504, o504_33 P) :: (nat_lit 506, o506_33 P) :: (nat_lit 507, o507_33 P) :: (nat_lit 509, o509_33 P) :: (nat_lit 511, o511_33 P) :: (nat_lit 512, o512_33 P) :: (nat_lit 513, o513_33 P) :: (nat_lit 523, o523_34 P) :: (nat_lit 524, o524_34 P) :: (nat_lit 526, o526_34 P) :: (nat_lit 527, o527_34 P) :: (nat_lit 529, o529_34 P) :: (nat_lit 530, o530_34 P) :: (nat_lit 531, o531_34 P) :: (nat_lit 534, o534_34 P) :: (nat_lit 535, o535_34 P) :: (nat_lit 536, o536_34 P) :: (nat_lit 538, o538_34 P) :: (nat_lit 539, o539_34 P) :: (nat_lit 541, o541_34 P) :: (nat_lit 542, o542_34 P) :: (nat_lit 543, o543_34 P) :: (nat_lit 544, o544_34 P) :: (nat_lit 545, o545_34 P) :: (nat_lit 546, o546_34 P) :: (nat_lit 548, o548_34 P) :: (nat_lit 549, o549_34 P) :: (nat_lit 551, o551_34 P) :: (nat_lit 552, o552_34 P) :: (nat_lit 553, o553_34 P) :: (nat_lit 555, o555_34 P) :: (nat_lit 556, o556_34 P) :: (nat_lit 558, o558_34 P) :: (nat_lit 559, o559_34 P) :: (nat_lit 560, o560_34 P) :: (nat_lit 561, o561_34 P) :: (nat_lit 562, o562_34 P) :: (nat_lit 563, o563_34 P) :: (nat_lit 564, o564_34 P) :: (nat_lit 565, o565_34 P) :: (nat_lit 575, o575_36 P) :: (nat_lit 577, o577_36 P) :: (nat_lit 578, o578_36 P) :: (nat_lit 580, o580_36 P) :: (nat_lit 581, o581_36 P) :: (nat_lit 582, o582_36 P) :: (nat_lit 583, o583_36 P) :: (nat_lit 585, o585_36 P) :: (nat_lit 586, o586_36 P) :: (nat_lit 588, o588_36 P) :: (nat_lit 589, o589_36 P) :: (nat_lit 590, o590_36 P) :: (nat_lit 592, o592_36 P) :: (nat_lit 593, o593_36 P) :: (nat_lit 595, o595_36 P) :: (nat_lit 596, o596_36 P) :: (nat_lit 597, o597_36 P) :: (nat_lit 599, o599_36 P) :: (nat_lit 600, o600_36 P) :: (nat_lit 602, o602_36 P) :: (nat_lit 603, o603_36 P) :: (nat_lit 604, o604_36 P) :: (nat_lit 605, o605_36 P) :: (nat_lit 606, o606_36 P) :: (nat_lit 607, o607_36 P) :: (nat_lit 608, o608_36 P) :: (nat_lit 611, o611_38 P) :: (nat_lit 614, o614_38 P) :: (nat_lit 619, o619_38 P) :: (nat_lit 620, o620_38 P) :: (nat_lit 621, o621_38 P) :: (nat_lit 622, o622_38 P) :: (nat_lit 624, o624_38 P) :: (nat_lit 625, o625_38 P) :: (nat_lit 627, o627_38 P) :: (nat_lit 628, o628_38 P) :: (nat_lit 629, o629_38 P) :: (nat_lit 631, o631_38 P) :: (nat_lit 632, o632_38 P) :: (nat_lit 634, o634_38 P) :: (nat_lit 635, o635_38 P) :: (nat_lit 636, o636_38 P) :: (nat_lit 637, o637_38 P) :: (nat_lit 638, o638_38 P) :: (nat_lit 639, o639_38 P) :: (nat_lit 640, o640_38 P) :: (nat_lit 642, o642_38 P) :: (nat_lit 643, o643_38 P) :: (nat_lit 645, o645_38 P) :: (nat_lit 646, o646_38 P) :: (nat_lit 647, o647_38 P) :: (nat_lit 649, o649_38 P) :: (nat_lit 650, o650_38 P) :: (nat_lit 652, o652_38 P) :: (nat_lit 653, o653_38 P) :: (nat_lit 654, o654_38 P) :: (nat_lit 656, o656_38 P) :: (nat_lit 657, o657_38 P) :: (nat_lit 659, o659_38 P) :: (nat_lit 660, o660_38 P) :: (nat_lit 661, o661_38 P) :: (nat_lit 663, o663_38 P) :: (nat_lit 664, o664_38 P) :: (nat_lit 666, o666_38 P) :: (nat_lit 667, o667_38 P) :: (nat_lit 668, o668_38 P) :: (nat_lit 669, o669_38 P) :: (nat_lit 670, o670_38 P) :: (nat_lit 672, o672_38 P) :: (nat_lit 673, o673_38 P) :: (nat_lit 675, o675_38 P) :: (nat_lit 676, o676_38 P) :: (nat_lit 678, o678_38 P) :: (nat_lit 679, o679_38 P) :: (nat_lit 681, o681_38 P) :: (nat_lit 682, o682_38 P) :: (nat_lit 684, o684_38 P) :: (nat_lit 685, o685_38 P) :: (nat_lit 687, o687_38 P) :: (nat_lit 688, o688_38 P) :: (nat_lit 690, o690_38 P) :: (nat_lit 692, o692_38 P) :: (nat_lit 693, o693_38 P) :: (nat_lit 694, o694_38 P) :: (nat_lit 704, o704_39 P) :: (nat_lit 705, o705_39 P) :: (nat_lit 707, o707_39 P) :: (nat_lit 708, o708_39 P) :: (nat_lit 710, o710_39 P) :: (nat_lit 711, o711_39 P) :: (nat_lit 712, o712_39 P) :: (nat_lit 715, o715_39 P) :: (nat_lit 716, o716_39 P) :: (nat_lit 717, o717_39 P) :: (nat_lit 719, o719_39 P) :: (nat_lit 720, o720_39 P) :: (nat_lit 722, o722_39 P) :: (nat_lit 723, o723_39 P) :: (nat_lit 724, o724_39 P) :: (nat_lit 725, o725_39 P) :: (nat_lit 726, o726_39 P) :: (nat_lit 727, o727_39 P) :: (nat_lit 729, o729_39 P) :: (nat_lit 730, o730_39 P) :: (nat_lit 732, o732_39 P) :: (nat_lit 733, o733_39 P) :: (nat_lit 734, o734_39 P) :: (nat_lit 736, o736_39 P) :: (nat_lit 737, o737_39 P) :: (nat_lit 739, o739_39 P) :: (nat_lit 740, o740_39 P) :: (nat_lit 741, o741_39 P) :: (nat_lit 742, o742_39 P) :: (nat_lit 743, o743_39 P) :: (nat_lit 744, o744_39 P) :: (nat_lit 745, o745_39 P) :: (nat_lit 746, o746_39 P) :: (nat_lit 756, o756_41 P) :: (nat_lit 757, o757_41 P) :: (nat_lit 760, o760_41 P) :: (nat_lit 761, o761_41 P) :: (nat_lit 762, o762_41 P) :: (nat_lit 764, o764_41 P) :: (nat_lit 765, o765_41 P) :: (nat_lit 767, o767_41 P) :: (nat_lit 768, o768_41 P) :: (nat_lit 769, o769_41 P) :: (nat_lit 772, o772_41 P) :: (nat_lit 773, o773_41 P) :: (nat_lit 774, o774_41 P) :: (nat_lit 776, o776_41 P) :: (nat_lit 777, o777_41 P) :: (nat_lit 779, o779_41 P) :: (nat_lit 780, o780_41 P) :: (nat_lit 781, o781_41 P) :: (nat_lit 782, o782_41 P) :: (nat_lit 783, o783_41 P) :: (nat_lit 784, o784_41 P) :: (nat_lit 786, o786_41 P) :: (nat_lit 787, o787_41 P) :: (nat_lit 789, o789_41 P) :: (nat_lit 790, o790_41 P) :: (nat_lit 791, o791_41 P) :: (nat_lit 793, o793_41 P) :: (nat_lit 794, o794_41 P) :: (nat_lit 796, o796_41 P) :: (nat_lit 797, o797_41 P) :: (nat_lit 798, o798_41 P) :: (nat_lit 799, o799_41 P) :: (nat_lit 800, o800_41 P) :: (nat_lit 801, o801_41 P) :: (nat_lit 802, o802_41 P) :: (nat_lit 803, o803_41 P) :: (nat_lit 813, o813_43 P) :: (nat_lit 814, o814_43 P) :: (nat_lit 816, o816_43 P) :: (nat_lit 817, o817_43 P) :: (nat_lit 819, o819_43 P) :: (nat_lit 820, o820_43 P) :: (nat_lit 821, o821_43 P) :: (nat_lit 824, o824_43 P) :: (nat_lit 825, o825_43 P) :: (nat_lit 826, o826_43 P) :: (nat_lit 828, o828_43 P) :: (nat_lit 829, o829_43 P) :: (nat_lit 831, o831_43 P) :: (nat_lit 832, o832_43 P) :: (nat_lit 833, o833_43 P) :: (nat_lit 834, o834_43 P) :: (nat_lit 835, o835_43 P) :: (nat_lit 836, o836_43 P) :: (nat_lit 838, o838_43 P) :: (nat_lit 839, o839_43 P) :: (nat_lit 841, o841_43 P) :: (nat_lit 842, o842_43 P) :: (nat_lit 843, o843_43 P) :: (nat_lit 845, o845_43 P) :: (nat_lit 846, o846_43 P) :: (nat_lit 848, o848_43 P) :: (nat_lit 849, o849_43 P) :: (nat_lit 850, o850_43 P) :: (nat_lit 851, o851_43 P) :: (nat_lit 853, o853_43 P) :: (nat_lit 854, o854_43 P) :: (nat_lit 856, o856_43 P) :: (nat_lit 857, o857_43 P) :: (nat_lit 858, o858_43 P) :: (nat_lit 859, o859_43 P) :: (nat_lit 861, o861_43 P) :: (nat_lit 862, o862_43 P) :: (nat_lit 864, o864_43 P) :: (nat_lit 865, o865_43 P) :: (nat_lit 866, o866_43 P) :: (nat_lit 867, o867_43 P) :: (nat_lit 868, o868_43 P) :: (nat_lit 869, o869_43 P) :: (nat_lit 870, o870_43 P) :: (nat_lit 871, o871_43 P) :: (nat_lit 874, o874_45 P) :: (nat_lit 875, o875_46 P) :: (nat_lit 877, o877_46 P) :: (nat_lit 878, o878_46 P) :: (nat_lit 880, o880_46 P) :: (nat_lit 881, o881_46 P) :: (nat_lit 882, o882_47 P) :: (nat_lit 884, o884_47 P) :: (nat_lit 885, o885_47 P) :: (nat_lit 887, o887_47 P) :: (nat_lit 888, o888_47 P) :: (nat_lit 889, o889_48 P) :: (nat_lit 891, o891_48 P) :: (nat_lit 892, o892_48 P) :: (nat_lit 894, o894_48 P) :: (nat_lit 895, o895_48 P) :: (nat_lit 896, o896_49 P) :: (nat_lit 898, o898_49 P) :: (nat_lit 899, o899_49 P) :: (nat_lit 901, o901_49 P) :: (nat_lit 902, o902_49 P) :: (nat_lit 903, o903_50 P) :: (nat_lit 906, o906_50 P) :: (nat_lit 907, o907_50 P) :: []
theorem kAll (P : Params) : (K P).map (fun p => (Nat.blt p.1 908, ((T50 P).get p.1).bind alive)) = (K P).map (fun p => (true, some p.2)) := by kernel_rfl
theorem kIn_of_all {T : BT} {n : Nat} {life : Life} : ∀ {L : Frag}, L.map (fun p => (Nat.blt p.1 n, (T.get p.1).bind alive)) = L.map (fun p => (true, some p.2)) → ∀ a o, L.lookup a = some o → (absHeap T n life).get? a = some o
  | [], _, a, o, h => by cases h
  | (b, x) :: L, e, a, o, h => by
    rw [List.map_cons, List.map_cons] at e
    injection e with e1 e2
    rw [List.lookup_cons] at h
    by_cases hb : (a == b) = true
    · have hab : a = b := by simpa using hb
      subst hab
      simp only [beq_self_eq_true] at h
      cases h
      obtain ⟨f1, f2⟩ := Prod.mk.inj e1
      obtain ⟨o', g1, g2⟩ := Option.bind_eq_some_iff.mp f2
      rw [abs_get (Nat.le_of_ble_eq_true f1) g1, g2]
    · have hb' : (a == b) = false := by simpa using hb
      rw [hb'] at h
      exact kIn_of_all e2 a o h
theorem kIn (P : Params) : (K P).In (HF P) := fun a o h => kIn_of_all (kAll P) a o h
theorem lStat (w : World) (os : OsState) : (staticsOk (importedModules P0.main.body) (H0 w.params) (HF w.params) && namesBound P0 (HF w.params) && gensDone ⟨HF w.params, #[], {}, 1962, os⟩ && laidKept (H0 w.params) (HF w.params)) = true := by kernel_rfl
theorem lSize (w : World) : ((H0 w.params).isNs mainGlobals && (#[] : Array GenState).size == 0, (H0 w.params).objs.size, (H0 w.params).nsMap mainGlobals "__annotations__") = (true, 28, some (.ref 6)) := by kernel_rfl
abbrev Xt0 : Shared → Bool := fun s => xlAt Q0 [] s && recOk [] s
theorem kr_gens (w : World) (os : OsState) : (if (true : Bool) = true then (sF w os).gens.size == 0 else !leftWithCleanup (sF w os).gens) = true := by kernel_rfl
theorem lSeen (w : World) (os : OsState) : openSeen Q0 loose0 (importedModules P0.main.body) Xt0 true (sF w os) = openGood Q0 loose0 :=
  looks_pair (l1 w os) (looks_pair (l2 w os) (looks_pair (look_both (look_both (look_both (look_both (look_both (look_both (l3a w os) (l3b w os)) (l3c w os)) (l3d w os)) (l3e w os)) (l3f w os)) (kr_gens w os))
    (looks_pair (l4 w os) (looks_pair (l5 w os) (looks_pair (l6 w os) (looks_pair (l7 w os) (looks_pair (l8 w os) (l9 w os))))))))
theorem lOpen : ∀ w : World, (fencedOpening treeTable P0 w 20000).map (fun s => (s.heap, s.gens, s.drawn, s.toks)) = some (H0 w.params, #[], {}, 276) :=
  open_cut (He := HE) (ge := #[]) (de := {}) (ke := 276) (M := 799) (fun w => by rw [tb2_eq]; exact pOpen w) (by decide) pFence
abbrev sH (w : World) (os : OsState) : Shared := ⟨HF w.params, #[], {}, 1962, os⟩
theorem sF_is (w : World) (os : OsState) : sF w os = sH w os := by kernel_rfl
theorem pRunT (w : World) (os : OsState) : topRun treeTable P0 w 28 (some (.ref 6)) (12 + (1 + (30 + (10 + (17 + (10 + (34 + (10 + (744 + (10 + (31 + (69 + (32 + (10 + (29 + (78 + (78 + (34 + (240 + (33 + (48 + (36 + (653 + (35 + (34 + (10 + (33 + (34 + (34 + (10 + (596 + (10 + (324 + (11 + (1351 + (563 + (10 + (324 + (11 + (1649 + (563 + (10 + (582 + (10 + (749 + (10 + (21 + (32 + (36 + (31 + (31 + (27 + 2)))))))))))))))))))))))))))))))))))))))))))))))))))) ⟨H0 w.params, #[], {}, 276, os⟩ (topStub P0) = some (sH w os) := by
  rw [tb2_eq, ← sF_is]
  exact pRun w os
theorem lSeen2 (w : World) (os : OsState) : openSeen Q0 loose0 (importedModules P0.main.body) Xt0 true (sH w os) = openGood Q0 loose0 := by
  rw [← sF_is]
  exact lSeen w os
theorem heap_mk (h : Heap) (g : Array GenState) (d : Drawn) (k : Nat) (o : OsState) : Shared.heap ⟨h, g, d, k, o⟩ = h := rfl
theorem looks3 {α β γ : Type} {A : OsState → α} {B : OsState → β} {C : OsState → γ} {a : α} {b : β} {c : γ} (x : ∀ os, A os = a) (y : ∀ os, B os = b) (z : ∀ os, C os = c) : (fun os => (A os, B os, C os)) = fun _ => (a, b, c) := by
  funext os
  rw [x, y, z]
theorem lLooks (w : World) : (fun os => ((staticsOk (importedModules P0.main.body) (H0 w.params) (HF w.params) && namesBound P0 (HF w.params) && gensDone (sH w os) && laidKept (H0 w.params) (HF w.params)), openSeen Q0 loose0 (importedModules P0.main.body) Xt0 true (sH w os), (sH w os).heap)) = fun _ => (true, openGood Q0 loose0, HF w.params) :=
  looks3 (fun os => lStat w os) (fun os => lSeen2 w os) (fun os => heap_mk _ _ _ _ _)
theorem left0 : LeftO P0 Q0 loose0 Xt0 (fun s => s.heap) (fun w => HF w.params) 20000 :=
  LeftO.of_pieces (H₀ := H0) (H₁ := HF) (gs₀ := #[]) (gs₁ := #[]) (d₀ := {}) (d₁ := {}) (k₀ := 276) (k₁ := 1962) (m₀ := 28) (ann := some (.ref 6)) (M := (12 + (1 + (30 + (10 + (17 + (10 + (34 + (10 + (744 + (10 + (31 + (69 + (32 + (10 + (29 + (78 + (78 + (34 + (240 + (33 + (48 + (36 + (653 + (35 + (34 + (10 + (33 + (34 + (34 + (10 + (596 + (10 + (324 + (11 + (1351 + (563 + (10 + (324 + (11 + (1649 + (563 + (10 + (582 + (10 + (749 + (10 + (21 + (32 + (36 + (31 + (31 + (27 + 2))))))))))))))))))))))))))))))))))))))))))))))))))))) lOpen lSize pRunT (by decide) lLooks
end BL
end
-- part HTop
section
set_option linter.unusedVariables false
open PySem PySem.W PyProof.Rows
set_option maxRecDepth 100000
set_option maxHeartbeats 0
set_option Elab.async false
namespace BL
/-- the tables of the three `__init__`s' codes: a generator's code is noted there -/
def KP : Frag := (525, tabObj #[]) :: (706, tabObj #[]) :: (815, tabObj #[]) :: []
theorem kpAll (P : Params) : KP.map (fun p => (Nat.blt p.1 908, ((T50 P).get p.1).bind alive)) = KP.map (fun p => (true, some p.2)) := by kernel_rfl
theorem kpIn (P : Params) : KP.In (HF P) := fun a o h => kIn_of_all (kpAll P) a o h
theorem hd2 {d : DefRec} {kwd : List (Str × Expr)} (e : defOf Q0 (Str.ofString "law") = some (d, kwd)) (e2 : P0.theDef (Str.ofString "law") = some (d.params, d.body, d.scope)) (e3 : kwWritten? d.params.kwonlyargs d.params.kw_defaults = some kwd)
    (walk : WalkO Q0 loose0 (XL Q0 []) (fun w h => (K w.params).In h ∧ KP.In h) PySem.Challenge.rw_bl0008_01.row.toRowW d kwd fun f vs => PySem.call f vs) : PySem.Challenge.rw_bl0008_01.Holds := by
  w_on
  o_law
  refine holds_open (q := Q0) (loose := loose0) (Xt := Xt0) (XP := XL Q0 []) (Yf := fun s => s.heap) (Ya := fun w => HF w.params) (YP := fun w h => (K w.params).In h ∧ KP.In h) (N := 20000) left0 (fun w s e => by rw [e]; exact ⟨kIn w.params, kpIn w.params⟩) (fun w h h' x k => ⟨Frag.In.keeps x.1 k, Frag.In.keeps x.2 k⟩) (fun s e => xl_of s (Bool.and_eq_true_iff.mp e).1) XL.keeps e e2 e3 (fun s e => recFacts_of (Bool.and_eq_true_iff.mp e).2) (by rfl) (by assumption) (by decide +kernel) ⟨rfl, rfl, rfl, rfl, rfl, by decide +kernel⟩ ?hw walk
  case hw => w_witness2
end BL
end
-- part LawP
section
set_option linter.unusedVariables false
open PySem PySem.W PySem.Spec PySem.Calls PyProof.Rows
set_option maxRecDepth 100000
set_option maxHeartbeats 8000000
set_option Elab.async false
namespace BL
def tabs : List (Addr × Addr) := [(529, 525), (710, 706), (819, 815)]
theorem tabs_at {w : World} {h : Heap} (X : (K w.params).In h) (Y : KP.In h) : TabsAt tabs h := by
  refine List.forall_mem_cons.mpr ⟨⟨?_, Y _ _ rfl⟩, List.forall_mem_cons.mpr ⟨⟨?_, Y _ _ rfl⟩, List.forall_mem_cons.mpr ⟨⟨?_, Y _ _ rfl⟩, fun _ h => nomatch h⟩⟩⟩
  · exact ⟨_, _, _, _, _, _, _, _, _, X 529 (o529_34 w.params) (by kernel_rfl), rfl, rfl, rfl, rfl, rfl, rfl, rfl, rfl, by decide⟩
  · exact ⟨_, _, _, _, _, _, _, _, _, X 710 (o710_39 w.params) (by kernel_rfl), rfl, rfl, rfl, rfl, rfl, rfl, rfl, rfl, by decide⟩
  · exact ⟨_, _, _, _, _, _, _, _, _, X 819 (o819_43 w.params) (by kernel_rfl), rfl, rfl, rfl, rfl, rfl, rfl, rfl, rfl, by decide⟩
/-- the law's end: True; all that was stays, but what the three tables noted -/
def LawEnd (s₁ : Shared) (r : Result) (s' : Shared) : Prop :=
  r = .ok (.ret (.bool true)) ∧ (∀ b o, (ghostOf s₁.heap tabs).get? b = some o → s'.heap.get? b = some o) ∧ GrownAll tabs s'.heap ∧ s'.os = s₁.os ∧ AllBare s'.gens
theorem law_post {M : Model} {A : Around} {cd : Code} {s s₁ : Shared} {cw : ClaimW} {cl : Str → Option Addr} {mean : ExcName → Option Value} {args : List WData} (hT : TabsAt tabs s₁.heap) (hr : ∀ x, cw.raises args x = false) (hp : cw.post args (ofPy (.bool true)) args = true)
    (h : codeAny M A cd (LawEnd s₁) s) : codeAny M A cd (GoodWG cw cl mean args s₁) s :=
  codeAny_mono h fun r s' ⟨e, hk, hgr, hos, hg⟩ => by
    have keep : ∀ b o, b ∉ tabs.map (·.2) → s₁.heap.get? b = some o → s'.heap.get? b = some o := fun b o hb e => hk b o (ghost_ne e hb)
    have grown : ∀ b o, b ∈ tabs.map (·.2) → s₁.heap.get? b = some o → isCodeTable s₁.heap b ∧ o = tabObj #[] ∧ ∃ ps, s'.heap.get? b = some (tabObj ps) := fun b o hb e => by
      obtain ⟨q, hq, rfl⟩ := List.mem_map.mp hb
      have e2 := (hT q hq).2
      rw [e] at e2
      exact ⟨((hT q hq).1.tab (hT q hq).2).isCodeTable, Option.some.inj e2, hgr.get q hq⟩
    refine ⟨.inl ⟨.bool true, ofPy (.bool true), [], e, hr, readsW_of_reads (.bool true), hp, fun _ => ⟨.nil, fun _ h => nomatch h⟩⟩, ⟨fun b o e => ?_, fun b o e => ?_⟩, hos, hg⟩
    · by_cases hb : b ∈ tabs.map (·.2)
      · obtain ⟨ht, rfl, ps, hP⟩ := grown b o hb e
        exact .inr (.inl ⟨ht, rfl, #[], ps, rfl, by rw [Array.empty_append]; exact hP⟩)
      · exact .inl (keep b o hb e)
    · by_cases hb : b ∈ tabs.map (·.2)
      · obtain ⟨_, _, ps, hP⟩ := grown b o hb e
        exact ⟨_, hP⟩
      · exact ⟨o, keep b o hb e⟩
end BL
end
-- part Plain
section
set_option linter.unusedVariables false
namespace BL
/-- what unescape_backslash makes of a text, as code points -/
def unescL : List Nat → List Nat
  | [] => []
  | [c] => [c]
  | c :: d :: r => if c = 92 ∧ d ∈ [92, 44, 59, 58, 110, 78] then (if d ∈ [110, 78] then 10 else d) :: unescL r else c :: unescL (d :: r)
/-- what the splitters make of a text: the fields, unescaped -/
def splitGo (p : Nat) (cur : List Nat) : List Nat → List (List Nat)
  | [] => [unescL cur]
  | [c] => if c = p then [unescL cur, unescL []] else [unescL (cur ++ [c])]
  | c :: d :: r => if c = 92 then splitGo p (cur ++ [c, d]) r else if c = p then unescL cur :: splitGo p [] (d :: r) else splitGo p (cur ++ [c]) (d :: r)
/-- the ways in which the law writes a text -/
inductive W (p : Nat) : List Nat → List Nat → Prop
  | nil : W p [] []
  | newline {t o} (d : Nat) (hd : d = 110 ∨ d = 78) : W p t o → W p (10 :: t) (92 :: d :: o)
  | slash {t o} : W p t o → W p (92 :: t) (92 :: 92 :: o)
  | bare {t o} (d : Nat) (hd : d = 97 ∨ d = 233) : W p t o → W p (92 :: d :: t) (92 :: d :: o)
  | esc {t o} (c : Nat) (hc : c = 44 ∨ c = 59 ∨ c = 58) : W p t o → W p (c :: t) (92 :: c :: o)
  | plain {t o} (c : Nat) (h1 : c ≠ 92) (h2 : c ≠ p) : W p t o → W p (c :: t) (c :: o)

theorem unescL_plain {c : Nat} (h : c ≠ 92) (r : List Nat) : unescL (c :: r) = c :: unescL r := by
  cases r with
  | nil => rfl
  | cons d r => rw [unescL, if_neg (fun z => h z.1)]
theorem unesc_W {p : Nat} {t o : List Nat} (h : W p t o) : unescL o = t := by
  induction h with
  | nil => rfl
  | newline d hd _ ih =>
    rw [unescL, if_pos ⟨rfl, by rcases hd with rfl | rfl <;> simp⟩, if_pos (by rcases hd with rfl | rfl <;> simp), ih]
  | slash _ ih => rw [unescL, if_pos ⟨rfl, by simp⟩, if_neg (by simp), ih]
  | bare d hd _ ih =>
    rw [unescL, if_neg (fun z => by rcases hd with rfl | rfl <;> simp at z), unescL_plain (by rcases hd with rfl | rfl <;> decide), ih]
  | esc c hc _ ih =>
    rw [unescL, if_pos ⟨rfl, by rcases hc with rfl | rfl | rfl <;> simp⟩, if_neg (by rcases hc with rfl | rfl | rfl <;> simp), ih]
  | plain c h1 h2 _ ih => rw [unescL_plain h1, ih]
theorem split_slash (p : Nat) (cur : List Nat) (d : Nat) (r : List Nat) : splitGo p cur (92 :: d :: r) = splitGo p (cur ++ [92, d]) r := by rw [splitGo, if_pos rfl]
theorem split_plain {p c : Nat} (h1 : c ≠ 92) (h2 : c ≠ p) (cur r : List Nat) : splitGo p cur (c :: r) = splitGo p (cur ++ [c]) r := by
  cases r with
  | nil => simp [splitGo, h2]
  | cons d r => rw [splitGo, if_neg h1, if_neg h2]
theorem split_part {p : Nat} (h : p ≠ 92) (cur r : List Nat) : splitGo p cur (p :: r) = unescL cur :: splitGo p [] r := by
  cases r with
  | nil => simp [splitGo]
  | cons d r => rw [splitGo, if_neg h, if_pos rfl]
theorem split_W {p : Nat} {t o : List Nat} (h : W p t o) : ∀ (cur r : List Nat), splitGo p cur (o ++ r) = splitGo p (cur ++ o) r := by
  induction h with
  | nil => intro cur r; simp
  | newline d hd _ ih => intro cur r; rw [List.cons_append, List.cons_append, split_slash, ih, List.append_assoc]; rfl
  | slash _ ih => intro cur r; rw [List.cons_append, List.cons_append, split_slash, ih, List.append_assoc]; rfl
  | bare d hd _ ih => intro cur r; rw [List.cons_append, List.cons_append, split_slash, ih, List.append_assoc]; rfl
  | esc c hc _ ih => intro cur r; rw [List.cons_append, List.cons_append, split_slash, ih, List.append_assoc]; rfl
  | plain c h1 h2 _ ih => intro cur r; rw [List.cons_append, split_plain h1 h2, ih, List.append_assoc]; rfl
def joinL (p : Nat) : List (List Nat) → List Nat
  | [] => []
  | [x] => x
  | x :: r => x ++ p :: joinL p r
inductive Ws (p : Nat) : List (List Nat) → List (List Nat) → Prop
  | nil : Ws p [] []
  | cons {t o ts os} : W p t o → Ws p ts os → Ws p (t :: ts) (o :: os)
/-- what was written is told -/
theorem split_join {p : Nat} (hp : p ≠ 92) {ts os : List (List Nat)} (h : Ws p ts os) (hn : os ≠ []) : splitGo p [] (joinL p os) = ts := by
  induction h with
  | nil => exact absurd rfl hn
  | @cons t o ts os h1 h2 ih =>
    cases os with
    | nil =>
      cases h2
      show splitGo p [] o = [t]
      have := split_W h1 [] []
      rw [List.append_nil] at this
      rw [this, List.nil_append]
      show [unescL o] = [t]
      rw [unesc_W h1]
    | cons o2 os =>
      show splitGo p [] (o ++ p :: joinL p (o2 :: os)) = t :: ts
      rw [split_W h1, List.nil_append, split_part hp, unesc_W h1, ih (by simp)]
end BL
end
-- part Tools
section
set_option linter.unusedVariables false
open PySem PySem.W PySem.Spec PySem.Calls PyProof.Rows
set_option maxRecDepth 100000
namespace BL
theorem fr3 {g h : Heap} {L : Addr} {m : Str → Option Value} {a b c : Str} {va vb vc : Value} (F : Fr g L h m) (h1 : m a = some va) (h2 : m b = some vb) (h3 : m c = some vc) :
    Fr g L h (fun y => if y = a then some va else if y = b then some vb else if y = c then some vc else m y) := by
  have e : (fun y => if y = a then some va else if y = b then some vb else if y = c then some vc else m y) = m := by
    funext y
    by_cases ha : y = a
    · subst ha; simp [h1]
    · by_cases hb : y = b
      · subst hb; simp [ha, h2]
      · by_cases hc : y = c
        · subst hc; simp [ha, hb, h3]
        · simp [ha, hb, hc]
  rw [e]; exact F
abbrev lst (vs : List Value) (n : Nat) : Obj := { cls := .type "list", data := .seq vs.toArray n }
theorem strsAre_snoc {vs : List Value} {ys : List Str} (h : StrsAre vs ys) (y : Str) (t : Tok) : StrsAre (vs ++ [.str y t]) (ys ++ [y]) := by
  induction h with
  | nil => exact .cons y t .nil
  | cons z t' _ ih => exact .cons z t' ih
theorem strsAre_len {vs : List Value} {ys : List Str} (h : StrsAre vs ys) : vs.length = ys.length := by
  induction h with
  | nil => rfl
  | cons z t' _ ih => simp [ih]
/-- the code points of a list of texts, glued -/
def flat (ys : List Str) : List Nat := ys.flatMap fun y => y.cps.toList
theorem flat_snoc (ys : List Str) (y : Str) : flat (ys ++ [y]) = flat ys ++ y.cps.toList := by simp [flat]
def ofL (l : List Nat) : Str := ⟨l.toArray⟩
theorem item_at {x : Str} {j : Nat} {c : Nat} {r : List Nat} (h : x.cps.toList.drop j = c :: r) : Txt.item x (j : Int) = ⟨#[c]⟩ := by
  have hj : j < x.cps.size := by
    have := congrArg List.length h
    simp only [List.length_drop, List.length_cons, Array.length_toList] at this
    omega
  have hc : x.cps[j]? = some c := by
    have : (x.cps.toList.drop j)[0]? = some c := by rw [h]; rfl
    rw [List.getElem?_drop] at this
    simpa using this
  unfold Txt.item Txt.charAt
  have e : seqIndex? (j : Int) x.length = some j := by
    unfold seqIndex?
    have hl : x.length = x.cps.size := rfl
    simp only [hl]
    split <;> first | omega | (simp; done) | (split <;> first | omega | simp_all)
  rw [e]
  simp [hc]
end BL
end
-- part Tools2
section
set_option linter.unusedVariables false
open PySem PySem.W PySem.Spec PySem.Calls PyProof.Rows
set_option maxRecDepth 100000
namespace BL
theorem drop_at {x : Str} {j : Nat} (h : j < x.length) : ∃ c r, x.cps.toList.drop j = c :: r ∧ x.cps.toList.drop (j + 1) = r := by
  have hl : j < x.cps.toList.length := by rw [Array.length_toList]; exact h
  exact ⟨x.cps.toList[j], x.cps.toList.drop (j + 1), List.drop_eq_getElem_cons hl, rfl⟩
theorem one_beq (c d : Nat) : ((⟨#[c]⟩ : Str) == ⟨#[d]⟩) = decide (c = d) := by
  by_cases h : c = d
  · subst h; simp
  · simp [h]
theorem slash_is : Str.ofString "\\" = ⟨#[92]⟩ := by decide +kernel
theorem occ_in (l : Str) (c : Nat) : (Builtin.Str.occurrences l ⟨#[c]⟩ 0 l.length 1).isEmpty = !decide (c ∈ l.cps.toList) := by
  rw [← StrLaws.found_one, Bool.not_not]
theorem set6 : (Str.ofString "\\,;:nN").cps.toList = [92, 44, 59, 58, 110, 78] := by decide +kernel
theorem set2 : (Str.ofString "nN").cps.toList = [110, 78] := by decide +kernel
section
variable {x : Str} {j : Nat}
theorem un_two {b : Bool} (h : j < x.length) (b1 : (Txt.item x (j : Int) == Str.ofString "\\") = true) (b2 : (j : Int) + 1 < (x.length : Int))
    (b3 : (Builtin.Str.occurrences (Str.ofString "\\,;:nN") (Txt.item x ((j : Int) + 1)) 0 (Str.ofString "\\,;:nN").length 1).isEmpty = false)
    (b4 : (Builtin.Str.occurrences (Str.ofString "nN") (Txt.item x ((j : Int) + 1)) 0 (Str.ofString "nN").length 1).isEmpty = b) :
    unescL (x.cps.toList.drop j) = (if b = true then (Txt.item x ((j : Int) + 1)).cps.toList else [10]) ++ unescL (x.cps.toList.drop (j + 2)) := by
  obtain ⟨c, r, e1, e2⟩ := drop_at h
  have h2 : j + 1 < x.length := by omega
  obtain ⟨d, r', e3, e4⟩ := drop_at h2
  have i1 := item_at e1
  have i2 := item_at e3
  rw [show ((j + 1 : Nat) : Int) = (j : Int) + 1 by omega] at i2
  rw [i1, slash_is, one_beq] at b1
  rw [i2] at b3 b4 ⊢
  rw [occ_in, set6] at b3
  rw [occ_in, set2] at b4
  have hc : c = 92 := by simpa using b1
  have hd : d ∈ [92, 44, 59, 58, 110, 78] := of_decide_eq_true (by rw [Bool.not_eq_false'] at b3; exact b3)
  rw [e1, show r = d :: r' from e2.symm.trans e3, e4, unescL, if_pos ⟨hc, hd⟩]
  subst b4
  by_cases q : d ∈ [110, 78]
  · rw [if_pos q]; simp [q]
  · rw [if_neg q]; simp [q]
theorem un_one (h : j < x.length) (b : (Txt.item x (j : Int) == Str.ofString "\\") = true → (j : Int) + 1 < (x.length : Int) →
      (Builtin.Str.occurrences (Str.ofString "\\,;:nN") (Txt.item x ((j : Int) + 1)) 0 (Str.ofString "\\,;:nN").length 1).isEmpty = true) :
    unescL (x.cps.toList.drop j) = (Txt.item x (j : Int)).cps.toList ++ unescL (x.cps.toList.drop (j + 1)) := by
  obtain ⟨c, r, e1, e2⟩ := drop_at h
  have i1 := item_at e1
  rw [i1, slash_is, one_beq] at b
  rw [i1, e1, e2]
  show unescL (c :: r) = c :: unescL r
  by_cases hc : c = 92
  · by_cases h2 : j + 1 < x.length
    · obtain ⟨d, r', e3, e4⟩ := drop_at h2
      have i2 := item_at e3
      rw [show ((j + 1 : Nat) : Int) = (j : Int) + 1 by omega] at i2
      have b3 := b (by simpa using hc) (by omega)
      rw [i2, occ_in, set6] at b3
      have hd : ¬ d ∈ [92, 44, 59, 58, 110, 78] := of_decide_eq_false (by rw [Bool.not_eq_true'] at b3; exact b3)
      rw [show r = d :: r' from e2.symm.trans e3, unescL, if_neg (fun z => hd z.2)]
    · have : r = [] := by
        have := congrArg List.length e2
        simp only [List.length_drop, Array.length_toList] at this
        have hl : x.length = x.cps.size := rfl
        exact List.length_eq_zero_iff.mp (by omega)
      subst this; rfl
  · exact unescL_plain hc r
end
theorem join_empty (ys : List Str) : (Txt.join (Str.ofString "") ys).cps.toList = flat ys := by
  have e0 : Str.ofString "" = ⟨#[]⟩ := by decide +kernel
  unfold Txt.join
  rw [StrLaws.glued_eq_join, e0]
  induction ys with
  | nil => rfl
  | cons y r ih =>
    cases r with
    | nil => simp [Str.join, flat]
    | cons z r =>
      show ((y ++ (⟨#[]⟩ : Str)) ++ Str.join ⟨#[]⟩ (z :: r)).cps.toList = _
      rw [Str.cps_append, Str.cps_append, Array.toList_append, Array.toList_append, ih]
      simp [flat]
theorem flat_len (ys : List Str) : (flat ys).length = (ys.map (·.length)).sum := by
  induction ys with
  | nil => rfl
  | cons y r ih => simp [flat] at ih ⊢; rw [ih]; rfl
theorem unescL_len : ∀ l : List Nat, (unescL l).length ≤ l.length
  | [] => Nat.le_refl _
  | [c] => Nat.le_refl _
  | c :: d :: r => by
    rw [unescL]
    split
    · have := unescL_len r; simp only [List.length_cons]; omega
    · have := unescL_len (d :: r); simp only [List.length_cons] at this ⊢; omega
theorem lst_push (vs : List Value) (v : Value) (n : Nat) : listOf (vs.toArray.push v) n = lst (vs ++ [v]) n := by
  rw [List.push_toArray]
theorem nl_is : (Str.ofString "\n").cps.toList = [10] := by decide +kernel
end BL
end
-- part Tools3
section
set_option linter.unusedVariables false
open PySem PySem.W PySem.Spec PySem.Calls PyProof.Rows
set_option maxRecDepth 100000
namespace BL
theorem fr1 {g h : Heap} {L : Addr} {m : Str → Option Value} {a : Str} {va : Value} (F : Fr g L h m) (h1 : m a = some va) :
    Fr g L h (fun y => if y = a then some va else m y) := by
  have e : (fun y => if y = a then some va else m y) = m := by
    funext y
    by_cases ha : y = a
    · subst ha; simp [h1]
    · simp [ha]
  rw [e]; exact F
theorem fr4 {g h : Heap} {L : Addr} {m : Str → Option Value} {a b c d : Str} {va vb vc vd : Value} (F : Fr g L h m) (h1 : m a = some va) (h2 : m b = some vb) (h3 : m c = some vc) (h4 : m d = some vd) :
    Fr g L h (fun y => if y = a then some va else if y = b then some vb else if y = c then some vc else if y = d then some vd else m y) := by
  have e : (fun y => if y = a then some va else if y = b then some vb else if y = c then some vc else if y = d then some vd else m y) = m := by
    funext y
    by_cases ha : y = a
    · subst ha; simp [h1]
    · by_cases hb : y = b
      · subst hb; simp [ha, h2]
      · by_cases hc : y = c
        · subst hc; simp [ha, hb, h3]
        · by_cases hd : y = d
          · subst hd; simp [ha, hb, hc, h4]
          · simp [ha, hb, hc, hd]
  rw [e]; exact F
def cpsL (ys : List Str) : List (List Nat) := ys.map fun y => y.cps.toList
section
variable {x : Str} {j p : Nat} {cur : List Nat}
theorem sp_two (h : j < x.length) (b1 : (Txt.item x (j : Int) == Str.ofString "\\") = true) (b2 : (j : Int) + 1 < (x.length : Int)) :
    splitGo p cur (x.cps.toList.drop j) = splitGo p (cur ++ ((Txt.item x (j : Int)).cps.toList ++ (Txt.item x ((j : Int) + 1)).cps.toList)) (x.cps.toList.drop (j + 2)) := by
  obtain ⟨c, r, e1, e2⟩ := drop_at h
  have h2 : j + 1 < x.length := by omega
  obtain ⟨d, r', e3, e4⟩ := drop_at h2
  have i1 := item_at e1
  have i2 := item_at e3
  rw [show ((j + 1 : Nat) : Int) = (j : Int) + 1 by omega] at i2
  rw [i1, slash_is, one_beq] at b1
  have hc : c = 92 := by simpa using b1
  subst hc
  rw [i1, i2, e1, show r = d :: r' from e2.symm.trans e3, e4, split_slash]
  rfl
theorem sp_part (hp : p ≠ 92) (h : j < x.length) (b1 : (Txt.item x (j : Int) == (⟨#[p]⟩ : Str)) = true) :
    splitGo p cur (x.cps.toList.drop j) = unescL cur :: splitGo p [] (x.cps.toList.drop (j + 1)) := by
  obtain ⟨c, r, e1, e2⟩ := drop_at h
  have i1 := item_at e1
  rw [i1, one_beq] at b1
  have hc : c = p := by simpa using b1
  subst hc
  rw [e1, e2, split_part hp]
theorem sp_one (h : j < x.length) (b : (Txt.item x (j : Int) == Str.ofString "\\") = true → (j : Int) + 1 < (x.length : Int) → False) (b1 : (Txt.item x (j : Int) == (⟨#[p]⟩ : Str)) = false) :
    splitGo p cur (x.cps.toList.drop j) = splitGo p (cur ++ (Txt.item x (j : Int)).cps.toList) (x.cps.toList.drop (j + 1)) := by
  obtain ⟨c, r, e1, e2⟩ := drop_at h
  have i1 := item_at e1
  rw [i1, one_beq] at b1
  rw [i1, slash_is, one_beq] at b
  have hc : c ≠ p := by simpa using b1
  rw [i1, e1, e2]
  show splitGo p cur (c :: r) = splitGo p (cur ++ [c]) r
  by_cases h9 : c = 92
  · by_cases h2 : j + 1 < x.length
    · exact (b (by simpa using h9) (by omega)).elim
    · have : r = [] := by
        have := congrArg List.length e2
        simp only [List.length_drop, Array.length_toList] at this
        have hl : x.length = x.cps.size := rfl
        exact List.length_eq_zero_iff.mp (by omega)
      subst this
      simp [splitGo, hc]
  · exact split_plain h9 hc cur r
end
theorem semi_is : Str.ofString ";" = ⟨#[59]⟩ := by decide +kernel
theorem comma_is : Str.ofString "," = ⟨#[44]⟩ := by decide +kernel
theorem join_len (ys : List Str) : (Txt.join (Str.ofString "") ys).length = (flat ys).length := by
  rw [← join_empty, Array.length_toList]; rfl
theorem drop_end {x : Str} {j : Nat} (h : ¬ ((j : Int) < (x.length : Int))) : x.cps.toList.drop j = [] :=
  List.drop_eq_nil_of_le (by rw [Array.length_toList]; have hl : x.length = x.cps.size := rfl; omega)
theorem item_len (x : Str) (i : Int) : (Txt.item x i).cps.toList.length = 1 := rfl
theorem lst_push2 (vs : List Value) (v v' : Value) (n : Nat) : listOf ((vs.toArray.push v).push v') n = lst (vs ++ [v, v']) n := by
  rw [List.push_toArray, List.push_toArray, List.append_assoc]; rfl
theorem strsAre_snoc2 {vs : List Value} {ys : List Str} (h : StrsAre vs ys) (y : Str) (t : Tok) (y' : Str) (t' : Tok) : StrsAre (vs ++ [.str y t, .str y' t']) (ys ++ [y, y']) := by
  have := strsAre_snoc (strsAre_snoc h y t) y' t'
  rw [List.append_assoc, List.append_assoc] at this
  exact this
theorem flat_snoc2 (ys : List Str) (y y' : Str) : flat (ys ++ [y, y']) = flat ys ++ (y.cps.toList ++ y'.cps.toList) := by simp [flat]
theorem flat_one (y : Str) : flat [y] = y.cps.toList := by simp [flat]
theorem cpsL_snoc (ys : List Str) (y : Str) : cpsL (ys ++ [y]) = cpsL ys ++ [y.cps.toList] := by simp [cpsL]
theorem weigh {vs : List Value} {ys : List Str} {j n : Nat} (h : StrsAre vs ys) (h1 : vs.length ≤ j) (h2 : (flat ys).length ≤ j) (h3 : j ≤ n) (h4 : n ≤ 1000) : (ys.map (·.length)).sum + ys.length ≤ 1048576 := by
  rw [← flat_len, ← strsAre_len h]; omega
theorem drop_mid {h₀ h : Heap} {L a b c : Addr} {o1 o2 : Obj} {vs : List Value} {v : Value} {n : Nat} (N : News h₀ L h [(a, o1), (b, o2), (c, listOf (vs.toArray.push v) n)]) : News h₀ L h [(a, o1), (c, lst (vs ++ [v]) n)] := by
  rw [lst_push] at N
  exact cb_drop N (fun p hp => by
    rcases List.mem_cons.mp hp with rfl | hp
    · exact List.Mem.head _
    · exact List.Mem.tail _ (List.Mem.tail _ hp))
theorem fresh_of {s g : Heap} {a : Addr} {l : List Addr} (G : GSub s g l) (h : g.get? a = none) (hn : a ∉ l) : s.get? a = none := by
  cases e : s.get? a with
  | none => rfl
  | some o => rw [G a o e hn] at h; cases h
theorem inElt_of {s g h : Heap} {L : Addr} {m : Str → Option Value} (G : GSub s g []) (F : Fr g L h m) : InElt s h := fun b o e => F.keep b o (G b o e (by simp))
end BL
end
-- part N1
section
set_option linter.unusedVariables false
open PySem PySem.W PySem.Spec PySem.Calls PyProof.Rows
set_option maxRecDepth 100000
set_option maxHeartbeats 8000000
set_option Elab.async false
namespace BL
local macro_rules | `(tactic| walk_at "call builtin:len") => `(tactic| (k_here; (with_reducible show wpAny _ _ (call (Value.builtin "len") [Value.ref _]) _ _ _); k_dflt (refine len_list (Fr.lst (by assumption) (by assumption)) (by rw [List.size_toArray]; omega) ?_)))
theorem next_call {w : World} {dp un : Nat} {gd : Option (List Code)} {cn : Str} {cs : Scope} {L a : Addr} {ccd : Value} {cl : List (Str × Addr)} {outer : List Env} {A₀ : Around} {base h₀ : Heap} {m : Str → Option Value} {s : Shared} {Q E : Value → Shared → Prop}
    {p : Program} {loose : List Str} {mean : ExcName → Option Value} {mg mb : Str → Option Value} (st l : Addr) (c hh k : Int) (t1 t2 t3 : Tok) (ep el : Nat) (vs : List Value) (ns : List Int)
    (B : Below A₀ base outer h₀) (F : Fr h₀ L s.heap m) (X : (K w.params).In h₀) (T : Top p loose mean mg mb h₀) (hk : cs.kind = .function) (hd : dp + 5 < recursionLimit) (hu : un + 40 < cLine)
    (N : News h₀ L s.heap [(st, lst [.ref l, .int c t1, .int hh t2] ep)]) (hl : s.heap.get? l = some (lst vs el)) (hI : IntsAre vs ns) (hvl : vs.length ≤ 63) (hc : 0 ≤ c) (hh1 : 0 ≤ hh) (hh2 : hh < 2147483647) (hk1 : 0 < k) (hk2 : k ≤ 10) (hne : l ≠ st)
    (ret : ∀ r t' c' h'' t1' t2' hp tk', 0 ≤ r → r < k → 0 ≤ c' → 0 ≤ h'' → h'' < 2147483647 → hp.get? st = some (lst [.ref l, .int c' t1', .int h'' t2'] ep) → (∀ b o, b ≠ st → s.heap.get? b = some o → hp.get? b = some o) → Q (.int r t') { s with heap := hp, toks := tk' }) :
    wpAny (model PySem.Challenge.rw_bl0008_01.row.prog w) (ktrTop dp un gd cn cs L a ccd cl outer) (call (.ref 881) [.ref st, .int k t3]) Q E s := by
  revert X
  w_top off
  k_fill
  intro X
  refine wpAny_call ?_
  k_dflt (refine' code_defG ?k1 ?k2 ?k3 ?k4 ?k5 ?kA ?kF ?kK ?k6 ?k7 ?k8 ?k9 ?kB ?_ ?c2 ?c3 ?c4 ?c5; (case kA => exact rfl); (case kF => exact rfl); (case kK => assumption); (case k1 => k_asm); (case k2 => k_asm); (case k3 => k_asm); (case k4 => k_asm); (case k5 => k_asm); (case k6 => k_is); (case k7 => k_is); (case k8 => ktr_room); (case k9 => exact BindsTo.of_eq rfl); (case c5 => decide); (case kB => exact locs rfl); (case c2 => exact rfl); (case c3 => exact rfl); (case c4 => exact rfl))
  intro g' L' h' FG' F' N' B' X' T' kG'
  have hL : g'.IsList l vs.toArray := ⟨_, kG' l _ hl (by simpa using hne), rfl, el, rfl⟩
  (try dsimp only)
  k_steps
  all_goals (
    rename_i F9 N9 kF kN Tc kX
    have keep : ∀ b o, b ≠ st → s.heap.get? b = some o → _ := fun b o hb e => F9.keep b o (kG' b o e (by simpa using hb))
    refine ret _ _ _ _ _ _ _ _ (Int.fmod_nonneg_of_pos _ hk1) (Int.fmod_lt_of_pos _ hk1) ?_ (Int.fmod_nonneg_of_pos _ (by decide)) (Int.fmod_lt_of_pos _ (by decide)) (N9 _ (List.Mem.head _)).1 keep
    omega)
end BL
end
-- part Tools4
section
set_option linter.unusedVariables false
open PySem PySem.W PySem.Spec PySem.Calls PyProof.Rows
set_option maxRecDepth 100000
namespace BL
theorem ns_some {h : Heap} {L : Addr} {m : Str → Option Value} (n : h.Ns L m) : ∃ o, h.get? L = some o := by
  obtain ⟨o, _, _, ho, _⟩ := n
  exact ⟨o, ho⟩
theorem news_in {h₀ h h' : Heap} {L a : Addr} {m : Str → Option Value} {o : Obj} {news : List (Addr × Obj)} (F : Fr h₀ L h m) (N : News h₀ L h news) (hf : h.get? a = none) (hg : h'.get? a = some o) (hk : ∀ b o, h.get? b = some o → h'.get? b = some o) : News h₀ L h' ((a, o) :: news) := by
  intro p hp
  rcases List.mem_cons.mp hp with rfl | hp
  · refine ⟨hg, ?_, ?_⟩
    · rintro rfl
      obtain ⟨o', ho'⟩ := ns_some F.ns
      rw [hf] at ho'; cases ho'
    · cases e : h₀.get? a with
      | none => rfl
      | some o' => rw [F.keep a o' e] at hf; cases hf
  · exact ⟨hk _ _ (N p hp).1, (N p hp).2⟩
theorem splitGo_len (p : Nat) (cur l : List Nat) : (splitGo p cur l).length ≤ l.length + 1 := by
  fun_induction splitGo p cur l with
  | case1 => simp
  | case2 => simp
  | case3 => simp
  | case4 => simp only [List.length_cons]; omega
  | case5 => simp only [List.length_cons] at *; omega
  | case6 => simp only [List.length_cons] at *; omega
theorem strs_len {vs : List Value} {ys : List Str} {x : Str} {p : Nat} (h : StrsAre vs ys) (e : cpsL ys = splitGo p [] x.cps.toList) : vs.length ≤ x.length + 1 := by
  have a := splitGo_len p [] x.cps.toList
  rw [← e, cpsL, List.length_map, ← strsAre_len h, Array.length_toList] at a
  exact a
end BL
namespace BL
theorem News.here {h₀ h : Heap} {L a : Addr} {o : Obj} {news : List (Addr × Obj)} (N : News h₀ L h ((a, o) :: news)) : h.get? a = some o := (N _ (List.Mem.head _)).1
end BL
end
-- part Tools5
section
set_option linter.unusedVariables false
open PySem PySem.W PySem.Spec PySem.Calls PyProof.Rows
set_option maxRecDepth 100000
set_option maxHeartbeats 8000000
set_option Elab.async false
namespace BL
theorem news_first {h₀ h : Heap} {L : Addr} {q : Addr × Obj} {rest : List (Addr × Obj)} (N : News h₀ L h (q :: rest)) : News h₀ L h [q] := fun p hp => N p (by rw [List.mem_singleton.mp hp]; exact List.Mem.head _)
theorem news_swap {h₀ h : Heap} {L : Addr} {q r : Addr × Obj} {rest : List (Addr × Obj)} (N : News h₀ L h (q :: r :: rest)) : News h₀ L h (r :: q :: rest) := fun p hp => N p (by
  rcases List.mem_cons.mp hp with rfl | hp
  · exact List.Mem.tail _ (List.Mem.head _)
  · rcases List.mem_cons.mp hp with rfl | hp
    · exact List.Mem.head _
    · exact List.Mem.tail _ (List.Mem.tail _ hp))
theorem fr_but1 {h₀ h h' : Heap} {L st : Addr} {m : Str → Option Value} {o : Obj} {rest : List (Addr × Obj)} (F : Fr h₀ L h m) (N : News h₀ L h ((st, o) :: rest)) (hk : ∀ b o, b ≠ st → h.get? b = some o → h'.get? b = some o) : Fr h₀ L h' m :=
  ⟨F.ns.at' fun o e => hk _ o (Ne.symm (N _ (List.Mem.head _)).2.1) e, fun b o e => hk b o (fun z => by rw [z, (N _ (List.Mem.head _)).2.2] at e; cases e) (F.keep b o e), F.above⟩
theorem news_but1 {h₀ h h' : Heap} {L st : Addr} {o o' : Obj} {rest : List (Addr × Obj)} (N : News h₀ L h ((st, o) :: rest)) (off : ∀ p ∈ rest, p.1 ≠ st) (hk : ∀ b o, b ≠ st → h.get? b = some o → h'.get? b = some o) (hs : h'.get? st = some o') : News h₀ L h' ((st, o') :: rest) := by
  intro p hp
  rcases List.mem_cons.mp hp with rfl | hp
  · exact ⟨hs, (N _ (List.Mem.head _)).2⟩
  · exact ⟨hk _ _ (off p hp) (N p (List.Mem.tail _ hp)).1, (N p (List.Mem.tail _ hp)).2⟩
/-- the state of a script: the list, how far, the mixed number -/
abbrev stObj (l : Addr) (c hh : Int) (t1 t2 : Tok) (ep : Nat) : Obj := lst [.ref l, .int c t1, .int hh t2] ep
theorem next_rule {w : World} {dp un : Nat} {gd : Option (List Code)} {cn : Str} {cs : Scope} {L a : Addr} {ccd : Value} {cl : List (Str × Addr)} {outer : List Env} {A₀ : Around} {base h₀ : Heap} {m : Str → Option Value} {s : Shared} {Q E : Value → Shared → Prop}
    {p : Program} {loose : List Str} {mean : ExcName → Option Value} {mg mb : Str → Option Value} {rest : List (Addr × Obj)} (st l : Addr) (c hh k : Int) (t1 t2 t3 : Tok) (ep el : Nat) (vs : List Value) (ns : List Int)
    (B : Below A₀ base outer h₀) (F : Fr h₀ L s.heap m) (X : (K w.params).In h₀) (T : Top p loose mean mg mb h₀) (hk : cs.kind = .function) (hd : dp + 5 < recursionLimit) (hu : un + 40 < cLine)
    (N : News h₀ L s.heap ((st, stObj l c hh t1 t2 ep) :: rest)) (off : ∀ p ∈ rest, p.1 ≠ st) (hl : s.heap.get? l = some (lst vs el)) (hI : IntsAre vs ns) (hvl : vs.length ≤ 63) (hc : 0 ≤ c) (hh1 : 0 ≤ hh) (hh2 : hh < 2147483647) (hk1 : 0 < k) (hk2 : k ≤ 10) (hne : l ≠ st)
    (ret : ∀ r t' c' h'' t1' t2' hp tk', 0 ≤ r → r < k → 0 ≤ c' → 0 ≤ h'' → h'' < 2147483647 → Fr h₀ L hp m → News h₀ L hp ((st, stObj l c' h'' t1' t2' ep) :: rest) → (∀ b o, b ≠ st → s.heap.get? b = some o → hp.get? b = some o) → Q (.int r t') { s with heap := hp, toks := tk' }) :
    wpAny (model PySem.Challenge.rw_bl0008_01.row.prog w) (ktrTop dp un gd cn cs L a ccd cl outer) (call (.ref 881) [.ref st, .int k t3]) Q E s :=
  next_call st l c hh k t1 t2 t3 ep el vs ns B F X T hk hd hu (news_first N) hl hI hvl hc hh1 hh2 hk1 hk2 hne fun r t' c' h'' t1' t2' hp tk' r0 r1 c0 h0 h1 hs hk => ret r t' c' h'' t1' t2' hp tk' r0 r1 c0 h0 h1 (fr_but1 F N hk) (news_but1 N off hk hs) hk
theorem next_rule2 {w : World} {dp un : Nat} {gd : Option (List Code)} {cn : Str} {cs : Scope} {L a : Addr} {ccd : Value} {cl : List (Str × Addr)} {outer : List Env} {A₀ : Around} {base h₀ : Heap} {m : Str → Option Value} {s : Shared} {Q E : Value → Shared → Prop}
    {p : Program} {loose : List Str} {mean : ExcName → Option Value} {mg mb : Str → Option Value} {rest : List (Addr × Obj)} {D : Addr} {oD : Obj} (st l : Addr) (c hh k : Int) (t1 t2 t3 : Tok) (ep el : Nat) (vs : List Value) (ns : List Int)
    (B : Below A₀ base outer h₀) (F : Fr h₀ L s.heap m) (X : (K w.params).In h₀) (T : Top p loose mean mg mb h₀) (hk : cs.kind = .function) (hd : dp + 5 < recursionLimit) (hu : un + 40 < cLine)
    (N : News h₀ L s.heap ((D, oD) :: (st, stObj l c hh t1 t2 ep) :: rest)) (hD : D ≠ st) (off : ∀ p ∈ rest, p.1 ≠ st) (hl : s.heap.get? l = some (lst vs el)) (hI : IntsAre vs ns) (hvl : vs.length ≤ 63) (hc : 0 ≤ c) (hh1 : 0 ≤ hh) (hh2 : hh < 2147483647) (hk1 : 0 < k) (hk2 : k ≤ 10) (hne : l ≠ st)
    (ret : ∀ r t' c' h'' t1' t2' hp tk', 0 ≤ r → r < k → 0 ≤ c' → 0 ≤ h'' → h'' < 2147483647 → Fr h₀ L hp m → News h₀ L hp ((D, oD) :: (st, stObj l c' h'' t1' t2' ep) :: rest) → (∀ b o, b ≠ st → s.heap.get? b = some o → hp.get? b = some o) → Q (.int r t') { s with heap := hp, toks := tk' }) :
    wpAny (model PySem.Challenge.rw_bl0008_01.row.prog w) (ktrTop dp un gd cn cs L a ccd cl outer) (call (.ref 881) [.ref st, .int k t3]) Q E s :=
  next_rule (rest := (D, oD) :: rest) st l c hh k t1 t2 t3 ep el vs ns B F X T hk hd hu (news_swap N) (fun p hp => by
    rcases List.mem_cons.mp hp with rfl | hp
    · exact hD
    · exact off p hp) hl hI hvl hc hh1 hh2 hk1 hk2 hne fun r t' c' h'' t1' t2' hp tk' r0 r1 c0 h0 h1 F' N' hk => ret r t' c' h'' t1' t2' hp tk' r0 r1 c0 h0 h1 F' (news_swap N') hk
theorem item_two {prog : Program} {w : World} {A : Around} {E : Value → Shared → Prop} {s : Shared} {h₀ : Heap} {L D : Addr} {rest : List (Addr × Obj)} {value slice : PySem.Expr} {a b : Value} {n : Nat} {r : Int} {u : Tok} {Q : Value → Shared → Prop}
    (N : News h₀ L s.heap ((D, listOf [a, b].toArray n) :: rest)) (h0 : 0 ≤ r) (h1 : r < 2) (q0 : r = 0 → Q a s) (q1 : r = 1 → Q b s)
    (hs : subscripted slice false (.ref D) (.int r u) = operate [.ref D, .int r u] (getItem (.ref D) (.int r u)) := by with_unfolding_all rfl) (hg : ∀ z, letTemporaryGo value (.ref D) z = pure () := by intro _; with_unfolding_all rfl) :
    wpAny (model prog w) A (subscriptTail value slice (.ref D) (.int r u)) Q E s := by
  have hl := News.isList N (List.Mem.head _)
  rcases (show r = 0 ∨ r = 1 by omega) with e | e
  · subst e
    exact item_list hl (by decide) (by decide) rfl (q0 rfl) hs hg
  · subst e
    exact item_list hl (by decide) (by decide) rfl (q1 rfl) hs hg
theorem app_len (o x : Str) : (o ++ x).length = o.length + x.length := by unfold Str.length; rw [Str.cps_append, Array.size_append]
theorem app_cps (o x : Str) : (o ++ x).cps.toList = o.cps.toList ++ x.cps.toList := by rw [Str.cps_append, Array.toList_append]
theorem iter_rangeJ {prog : Program} {w : World} {A : Around} {E : Value → Shared → Prop} {s : Shared} {env : Env} {h₀ : Heap} {x : Str} {body : List Stmt} {Q : Flow → Shared → Prop} {r : Addr} {t₀ u₀ v₀ : Tok} {n : Nat} {m₀ : Str → Option Value} {news : List (Addr × Obj)}
    (J : Nat → (Str → Option Value) → List (Addr × Obj) → Prop)
    (hh : A.handled = none) (hr : IsRange s.heap r 0 n 1 t₀ u₀ v₀) (hz : n ≤ 1000) (F : Fr h₀ env.locals s.heap m₀) (N : News h₀ env.locals s.heap news) (hJ : J 0 m₀ news)
    (turn : ∀ (i : Nat) t m₁ nx h tk own, i < n → nx.map (·.1) = news.map (·.1) → OwnOff own (news.map (·.1)) → J i m₁ nx → Fr h₀ env.locals h (fun y => if y = x then some (.int i t) else m₁ y) → News h₀ env.locals h (nx ++ own) →
      wpAny (model prog w) A (execs body env) (InvPostN h₀ env.locals (J (i + 1)) own (news.map (·.1)) { s with heap := h, toks := tk } Q) E { s with heap := h, toks := tk })
    (done : ∀ m₁ nx h tk, J n m₁ nx → Fr h₀ env.locals h m₁ → News h₀ env.locals h nx → Q .next { s with heap := h, toks := tk }) :
    wpAny (model prog w) A (pyIter (.ref r)) (fun it s₂ => LoopAtV prog w A h₀ env x body Q E it s₂) E s := by
  have hn : Builtin.Range.rangeSize 0 (n : Int) 1 = (n : Int) := by unfold Builtin.Range.rangeSize; simp; omega
  refine wpAny_pyIter_range hr (small_one (by decide) (by decide) (by omega) (by omega)) ?_
  have W : Walks prog w A s.heap.objs.size [s.heap.objs.size] [s.heap.objs.size] n (fun i v => i < n ∧ ∃ t, v = .int ((0 : Int) + i * 1) t)
      (fun i h => IsRangeIter h s.heap.objs.size ((0 : Int) + (i : Nat) * 1) ((n : Int) - (i : Nat)) 1) := (Walks.range hh _ 0 1 n).bound
  refine loop_invN J W ?_ ?_ ?_ ?_ (by show IsRangeIter _ _ _ _ _; rw [hn]; simpa using Heap.get?_push_size _ rfl) (F.push _) (fun p hp => ⟨Heap.get?_push_of_some _ (N p hp).1, (N p hp).2⟩) hJ ?_ ?_
  · intro hm
    exact absurd F.ns.lt ((List.mem_singleton.mp hm) ▸ Nat.lt_irrefl _)
  · intro b hb
    rw [List.mem_singleton.mp hb]
    exact next_is_new F
  · intro p hp hI
    exact absurd (Heap.lt_size (N p hp).1) ((List.mem_singleton.mp hI) ▸ Nat.lt_irrefl _)
  · intro p hp hI
    exact absurd (Heap.lt_size (N p hp).1) ((List.mem_singleton.mp hI) ▸ Nat.lt_irrefl _)
  · rintro i v m₁ nx h tk own hi ⟨_, t, rfl⟩ ha ho hj F' N'
    have e : ((0 : Int) + (i : Int) * 1) = (i : Int) := by omega
    rw [e] at F'
    exact turn i t m₁ nx h tk own hi ha ho hj F' N'
  · exact done
end BL
end
-- part NextU
section
set_option linter.unusedVariables false
open PySem PySem.W PySem.Spec PySem.Calls PyProof.Rows
set_option maxRecDepth 100000
set_option maxHeartbeats 8000000
set_option Elab.async false
namespace BL
local macro_rules | `(tactic| ktr_room) => `(tactic| ((try simp only [tc_depth, tc_units, depth_under_make, depth_under_kw, depth_in1, depth_deeper, units_in1, units_deeper, Around.mark_units, depth_mark]); (try dsimp only [ktrTop]); omega))
theorem next_ruleU {w : World} {dp un : Nat} {gd : Option (List Code)} {cn : Str} {cs : Scope} {L a : Addr} {ccd : Value} {cl : List (Str × Addr)} {outer : List Env} {A₀ : Around} {base h₀ : Heap} {m : Str → Option Value} {s : Shared} {Q E : Value → Shared → Prop}
    {p : Program} {loose : List Str} {mean : ExcName → Option Value} {mg mb : Str → Option Value} {news : List (Addr × Obj)} {g : Obj → List (Addr × Obj)} (st l : Addr) (c hh k : Int) (t1 t2 t3 : Tok) (ep el : Nat) (vs : List Value) (ns : List Int)
    (B : Below A₀ base outer h₀) (F : Fr h₀ L s.heap m) (X : (K w.params).In h₀) (T : Top p loose mean mg mb h₀) (hk : cs.kind = .function) (hd : dp + 5 < recursionLimit) (hu : un + 40 < cLine)
    (N : News h₀ L s.heap news) (U : UpdF st (stObj l c hh t1 t2 ep) news g) (hl : (l, lst vs el) ∈ news) (hI : IntsAre vs ns) (hvl : vs.length ≤ 63) (hc : 0 ≤ c) (hh1 : 0 ≤ hh) (hh2 : hh < 2147483647) (hk1 : 0 < k) (hk2 : k ≤ 10) (hne : l ≠ st)
    (ret : ∀ r t' c' h'' t1' t2' hp tk', 0 ≤ r → r < k → 0 ≤ c' → 0 ≤ h'' → h'' < 2147483647 → Fr h₀ L hp m → News h₀ L hp (g (stObj l c' h'' t1' t2' ep)) → Q (.int r t') { s with heap := hp, toks := tk' }) :
    wpAny (model PySem.Challenge.rw_bl0008_01.row.prog w) (ktrTop dp un gd cn cs L a ccd cl outer) (call (.ref 881) [.ref st, .int k t3]) Q E s := by
  obtain ⟨own, rest, rfl, hgr, h1, h2⟩ := U.split
  have hm : (st, stObj l c hh t1 t2 ep) ∈ own ++ (st, stObj l c hh t1 t2 ep) :: rest := List.mem_append_right _ (.head _)
  have N1 : News h₀ L s.heap ((st, stObj l c hh t1 t2 ep) :: (own ++ rest)) := fun p hp => by
    rcases List.mem_cons.mp hp with rfl | hp
    · exact N _ hm
    · rcases List.mem_append.mp hp with hp | hp
      · exact N _ (List.mem_append_left _ hp)
      · exact N _ (List.mem_append_right _ (.tail _ hp))
  have off : ∀ p ∈ own ++ rest, p.1 ≠ st := fun p hp => by
    rcases List.mem_append.mp hp with hp | hp
    · exact h1 p hp
    · exact h2 p hp
  refine next_rule (rest := own ++ rest) st l c hh k t1 t2 t3 ep el vs ns B F X T hk hd hu N1 off (N _ hl).1 hI hvl hc hh1 hh2 hk1 hk2 hne fun r t' c' h'' t1' t2' hp tk' r0 r1 c0 h0 h1' F' N' hk => ret r t' c' h'' t1' t2' hp tk' r0 r1 c0 h0 h1' F' ?_
  rw [hgr]
  intro p hp
  rcases List.mem_append.mp hp with hp | hp
  · exact N' p (.tail _ (List.mem_append_left _ hp))
  · rcases List.mem_cons.mp hp with rfl | hp
    · exact N' _ (.head _)
    · exact N' p (.tail _ (List.mem_append_right _ hp))
def lawBody : List Stmt := match st 50 with
  | .FunctionDef _ _ b .. => b
  | _ => []
def lawScope : Scope := match st 50 with
  | .FunctionDef _ _ _ _ _ _ sc .. => sc
  | _ => default
end BL
end
-- part Own
section
set_option linter.unusedVariables false
open PySem PySem.W PySem.Spec PySem.Calls PyProof.Rows Builtin
set_option maxRecDepth 100000
set_option maxHeartbeats 4000000
namespace BL
/-- a class with a `__new__` of its own, over one built-in class -/
structure OwnNew (M : Model) (h : Heap) (C : Addr) (T : String) : Prop where
  obj : ∃ oc od cd sl, h.get? C = some ⟨oc, od, .cls cd, sl⟩ ∧ cd.hasDel = false
  mro : Looks M h (mroOf (.ref C)) [.ref C, .type T, .type "object"]
  made : Looks M h (Bind.madeBy (.ref C)) none
  base : Looks M h (Bind.staticBase (.ref C)) (.type T)
  sub : Looks M h (isSubtype (.ref C) (.type T)) true
  self : Looks M h (isSubtype (.ref C) (.ref C)) true
  top : Looks M h (isSubtype (.ref C) (.type "object")) true
  call : Looks M h (specialOf (.ref C) "__call__") (some (.builtin "type.__call__"))
  typ : Looks M h (isInstance (.ref C) (.type "type")) true
  init : Looks M h (typeLookup (.ref C) "__init__") (some (.builtin "object.__init__"))
/-- what the own `__new__` gave back is an obj of the class -/
def OwnBack (K : Frag) (C : Addr) (Q : Value → Shared → Prop) (obj : Value) (s₂ : Shared) : Prop := ∃ x ox, obj = .ref x ∧ s₂.heap.get? x = some ox ∧ ox.cls = .ref C ∧ K.In s₂.heap ∧ Q (.ref x) s₂
section
variable {prog : Program} {w : World} {A : Around} {K : Frag} {E : Value → Shared → Prop} {s : Shared} {C : Addr} {T : String}
theorem oi_args2 (a : Value) (rest : List Value) : argsOk "object.__init__" ⟨a :: rest, []⟩ := by unfold argsOk; kernel_rfl
theorem own_call {rest : List Value} {Q : Value → Shared → Prop} (X : K.In s.heap) (Y : ∀ h, K.In h → OwnNew (model prog w) h C T)
    (h : wpAny (model prog w) (A.under (.builtin "type.__call__" ⟨.ref C :: rest, []⟩)) (getAttr (.ref C) "__new__") (fun new s₁ =>
      wpAny (model prog w) (A.under (.builtin "type.__call__" ⟨.ref C :: rest, []⟩)) (PySem.call new (.ref C :: rest)) (OwnBack K C Q) E s₁) E s) :
    wpAny (model prog w) A (PySem.call (.ref C) rest) Q E s := by
  obtain ⟨hh, g, d, t, os⟩ := s
  obtain ⟨⟨oc, od, cd, sl, hC, e1⟩, mro, made, base, sub, self, top, call, typ, init⟩ := Y _ X
  refine wpAny_call (codeAny_of_tree ?_)
  show wpAny _ _ (callAny (.ref C) _) _ _ _
  refine nd_load hC ?_
  show wpAny _ _ (callAny.viaDunder (.ref C) _) _ _ _
  unfold callAny.viaDunder
  refine wpAny_bind (call.at ?_)
  dsimp only
  rw [tc_bind]
  refine wpAny_bind (wpAny_pure (wpAny_bind (wpAny_pure ?_)))
  refine wpAny_pure (a := Fin.again (.call (.builtin "type.__call__") ⟨.ref C :: rest, []⟩)) (And.intro rfl ?_)
  refine codeAny_call_builtin_at (Code.quiet_builtin _ (by decide +kernel)) entry_typeCall (check_slot tc_kind tc_split typ (tc_args _ _ _) ?_)
  unfold Builtin.«type.__call__»
  repeat (first | simp only [List.isEmpty_cons, Bool.false_eq_true, if_false] | (with_reducible refine wpAny_mono h ?_ ?_) | lk)
  · intro new s₁ h1
    refine wpAny_bind (wpAny_holding (wpAny_mono h1 ?_ fun _ _ z => z))
    rintro obj ⟨hh2, g2, d2, t2, os2⟩ ⟨x, ox, rfl, hx, hc, X2, q⟩
    obtain ⟨_, mro2, made2, base2, sub2, self2, top2, _, _, init2⟩ := Y _ X2
    have ty2 : Looks (model prog w) hh2 (typeOf (.ref x)) (.ref C) := by rw [← hc]; exact (Looks.ld hx).andThen .now
    have in2 : Looks (model prog w) hh2 (isInstance (.ref x) (.ref C)) true := ty2.andThen self2
    have in3 : Looks (model prog w) hh2 (isInstance (.ref x) (.type "object")) true := ty2.andThen top2
    have bi := oi_bind (.ref x)
    refine wpAny_bind (in2.at ?_)
    rw [if_neg (by decide)]
    unfold callSpecial? specialOf
    refine wpAny_bind (wpAny_holding (wpAny_bind (wpAny_bind (ty2.at (init2.at (wpAny_holding ?_))))))
    rw [bi]
    refine wpAny_bind (wpAny_pure (wpAny_bind (wpAny_call ?_)))
    refine codeAny_call_builtin oi_plain entry_oi (@check_slot (model prog w) _ _ _ "object.__init__" "object" "__init__" (.ref x) rest [] _ oi_kind oi_split in3 (oi_args2 (.ref x) rest) ?_)
    unfold Builtin.«object.__init__»
    cases rest with
    | nil =>
      show wpAny _ _ (ret Value.none) _ _ _
      exact wpAny_pure (wpAny_pure (wpAny_pure q))
    | cons r0 rr =>
      dsimp only
      repeat (first | simp only [bne_self_eq_false, Bool.false_eq_true, if_false, Bool.false_or] | lk)
      exact q
  · exact fun _ _ z => z
theorem tup_new_sub {h₀ : Heap} {L t : Addr} {m : Str → Option Value} {news : List (Addr × Obj)} {items : Array Value} {Q : Value → Shared → Prop} (F : Fr h₀ L s.heap m) (N : News h₀ L s.heap news)
    (Y : OwnNew (model prog w) s.heap C "tuple") (ty : Looks (model prog w) s.heap (isType (.ref C)) true) (hchk : Looks (model prog w) s.heap (checkBuiltinCall "tuple.__new__" ⟨[.ref C, .ref t], []⟩) ()) (hh : Looks (model prog w) s.heap (Bind.madeHere "tuple.__new__" (.ref C)) ())
    (ht : IsTup s.heap t items) (hz : items.size ≤ 1000)
    (h : ∀ x dx h', Fr h₀ L h' m → News h₀ L h' ((x, { cls := .ref C, dict := some dx, data := .seq items }) :: (dx, emptyDict) :: news) → (∀ p ∈ news, p.1 < dx) → dx < x → Q (.ref x) { s with heap := h' }) :
    wpAny (model prog w) A (PySem.call (.builtin "tuple.__new__") [.ref C, .ref t]) Q E s := by
  obtain ⟨hp, g, d, tk, os⟩ := s
  obtain ⟨⟨oc, od, cd, sl, hC, e1⟩, mro, made, base, sub, self, top, call, typ, init⟩ := Y
  refine wpAny_call (codeAny_call_builtin PySem.F.plain_tuple_new PySem.F.entry_tuple_new (hchk.at ?_))
  unfold Builtin.«tuple.__new__»
  obtain ⟨o, ho, hc, n, hd⟩ := ht
  have hz' : items.size ≤ sizeLine := by rw [sizeLine_eq]; omega
  repeat (first | simp only [beq_self_eq_true, Bool.not_true, Bool.false_eq_true, if_false, if_true] | (with_reducible refine wpAny_collect_seq t (.inr rfl) ho hc hd ?_ (by assumption)) | lk)
  intro h' hk
  have F' : Fr h₀ L h' m := F.keeps hk
  have N' : News h₀ L h' news := N.grown hk
  have hC' : h'.get? C = _ := hk _ _ hC
  have N2 := (N'.push F' emptyDict).push (F'.push _) { cls := .ref C, dict := some h'.objs.size, data := .seq items }
  rw [Heap.size_push] at N2
  have e0 : items.toList.toArray = items := by simp
  refine wpAny_bind (wpAny_pure (wpAny_bind (wpAny_alloc (wpAny_bind ?_))))
  rw [e0]
  unfold newObj
  dsimp only
  rw [if_neg (by omega)]
  show wpAny _ _ (newObjAsIs _ _ _) _ _ _
  unfold newObjAsIs classHasDel
  refine wpAny_bind (wpAny_alloc (wpAny_bind (wpAny_bind (wpAny_load (Heap.get?_push_of_some _ (Heap.get?_push_of_some _ hC')) (wpAny_pure ?_)))))
  rw [e1]
  refine wpAny_pure (wpAny_pure ?_)
  have z := h (h'.objs.size + 1) h'.objs.size _ ((F'.push emptyDict).push _) N2 (fun p hp => Heap.lt_size (N' p hp).1) (Nat.lt_succ_self _)
  rw [← Heap.size_push h' emptyDict] at z
  exact z
end
end BL
namespace BL
theorem tc_depth (A : Around) (C : Addr) (vals : List Value) : (A.under (.builtin "type.__call__" ⟨.ref C :: vals, []⟩)).depth = A.depth + 1 := rfl
theorem tc_units (A : Around) (C : Addr) (vals : List Value) : (A.under (.builtin "type.__call__" ⟨.ref C :: vals, []⟩)).units = A.units + 1 := rfl
end BL
end
-- part Plain2
section
set_option linter.unusedVariables false
namespace BL
/-- what is written of a text up to j: any ending may follow, or a bare backslash waits for its letter -/
def WInv (p : Nat) (cs : List Nat) (j : Nat) (o : List Nat) : Prop :=
  (∀ ro, W p (cs.drop j) ro → W p cs (o ++ ro)) ∨ (∃ d, cs[j]? = some d ∧ (d = 97 ∨ d = 233) ∧ ∀ ro, W p (cs.drop (j + 1)) ro → W p cs (o ++ d :: ro))
theorem drop_some {cs : List Nat} {j c : Nat} (h : cs[j]? = some c) : cs.drop j = c :: cs.drop (j + 1) := by
  obtain ⟨hj, rfl⟩ := List.getElem?_eq_some_iff.mp h
  exact List.drop_eq_getElem_cons hj
theorem winv_zero (p : Nat) (cs : List Nat) : WInv p cs 0 [] := .inl fun _ h => h
theorem winv_end {p : Nat} {cs o : List Nat} (h : WInv p cs cs.length o) : W p cs o := by
  rcases h with h | ⟨d, hd, _⟩
  · have := h [] (by rw [List.drop_length]; exact .nil)
    rwa [List.append_nil] at this
  · simp at hd
section
variable {p : Nat} {cs : List Nat} {j : Nat} {o : List Nat}
theorem winv_two {c a b : Nat} (hc : cs[j]? = some c) (h9 : c ≠ 97) (h8 : c ≠ 233) (hw : ∀ t ro, W p t ro → W p (c :: t) (a :: b :: ro)) (h : WInv p cs j o) : WInv p cs (j + 1) (o ++ [a, b]) := by
  rcases h with h | ⟨d, hd, hd2, _⟩
  · refine .inl fun ro hr => ?_
    have := h (a :: b :: ro) (by rw [drop_some hc]; exact hw _ _ hr)
    rwa [List.append_assoc]
  · rw [hc] at hd
    cases hd
    rcases hd2 with rfl | rfl
    · exact (h9 rfl).elim
    · exact (h8 rfl).elim
theorem winv_newline {d : Nat} (hc : cs[j]? = some 10) (hd : d = 110 ∨ d = 78) (h : WInv p cs j o) : WInv p cs (j + 1) (o ++ [92, d]) := winv_two hc (by decide) (by decide) (fun _ _ => .newline d hd) h
theorem winv_slash (hc : cs[j]? = some 92) (h : WInv p cs j o) : WInv p cs (j + 1) (o ++ [92, 92]) := winv_two hc (by decide) (by decide) (fun _ _ => .slash) h
theorem winv_esc {c : Nat} (hc : cs[j]? = some c) (h3 : c = 44 ∨ c = 59 ∨ c = 58) (h : WInv p cs j o) : WInv p cs (j + 1) (o ++ [92, c]) :=
  winv_two hc (by rcases h3 with rfl | rfl | rfl <;> decide) (by rcases h3 with rfl | rfl | rfl <;> decide) (fun _ _ => .esc c h3) h
theorem winv_bare {d : Nat} (hc : cs[j]? = some 92) (hd : cs[j + 1]? = some d) (hd2 : d = 97 ∨ d = 233) (h : WInv p cs j o) : WInv p cs (j + 1) (o ++ [92]) := by
  rcases h with h | ⟨d', hd', hd3, _⟩
  · refine .inr ⟨d, hd, hd2, fun ro hr => ?_⟩
    have := h (92 :: d :: ro) (by rw [drop_some hc, drop_some hd]; exact .bare d hd2 hr)
    rwa [List.append_assoc]
  · rw [hc] at hd'
    cases hd'
    rcases hd3 with hd3 | hd3 <;> cases hd3
theorem winv_plain {c : Nat} (hc : cs[j]? = some c) (h1 : c ≠ 92) (h2 : c ≠ p) (h : WInv p cs j o) : WInv p cs (j + 1) (o ++ [c]) := by
  rcases h with h | ⟨d, hd, _, h⟩
  · refine .inl fun ro hr => ?_
    have := h (c :: ro) (by rw [drop_some hc]; exact .plain c h1 h2 hr)
    rwa [List.append_assoc]
  · rw [hc] at hd
    cases hd
    refine .inl fun ro hr => ?_
    have := h ro hr
    rwa [List.append_assoc]
end
end BL
end
-- part M1
section
set_option linter.unusedVariables false
open PySem PySem.W PySem.Spec PySem.Calls PyProof.Rows
set_option maxRecDepth 100000
set_option maxHeartbeats 8000000
set_option Elab.async false
namespace BL
local macro_rules | `(tactic| ktr_room) => `(tactic| ((try simp only [tc_depth, tc_units, depth_under_make, depth_under_kw, depth_in1, depth_deeper, units_in1, units_deeper, Around.mark_units, depth_mark]); (try dsimp only [ktrTop]); omega))
local macro_rules | `(tactic| k_enter) => `(tactic| (refine' code_defG ?ke1 ?ke2 ?ke3 ?ke4 ?ke5 ?keA ?keF ?keK ?ke6 ?ke7 ?ke8 ?ke9 ?keB ?_ ?ked2 ?ked3 ?ked4 ?ked5; (case keA => exact rfl); (case keF => exact rfl); (case keK => first | exact rfl | assumption); (case ke1 => k_asm); (case ke2 => k_asm); (case ke3 => k_asm); (case ke4 => k_asm); (case ke5 => k_asm); (case ke6 => k_is); (case ke7 => k_is); (case ke8 => ktr_room); (case ke9 => first | exact BindsTo.of_eq rfl | exact binds_K (by k_in) rfl (by k_is) rfl rfl rfl); (case ked5 => decide); (case keB => exact locs rfl); (case ked2 => exact rfl); (case ked3 => exact rfl); (case ked4 => exact rfl); intro g' L' h' FG' F' N' B' X' T' kG'; (try dsimp only); (try k_lift B'); (try k_fold)))
local macro_rules | `(tactic| ktr_unf) => `(tactic| repeat' (first | (k_unfold; (try dsimp only)) | (k_end; wrow_close) | ((fail_if_success (with_reducible show wpAny _ _ (pyIter _) _ _ _)); (first | walk1 | (dsimp only; walk1))) | fail "no step"))
local macro_rules | `(tactic| walk_at "pad 0") => `(tactic| fail)
local macro_rules | `(tactic| walk_at "call builtin:len") => `(tactic| (k_here; (with_reducible show wpAny _ _ (call (Value.builtin "len") [Value.ref _]) _ _ _); k_dflt (refine len_list (Fr.lst (by assumption) (by assumption)) (by rw [List.size_toArray]; omega) ?_)))
local macro_rules | `(tactic| walk_at "call type:range") => `(tactic| (k_here; (with_reducible show wpAny _ _ (call (Value.type "range") [Value.int _ _]) _ _ _); k_dflt (refine range1_rows (by k_asm) (by k_asm) ?_); intro h' tk' t1' u1' v1' R' F' N' k'; (try k_sweep)))
local macro_rules | `(tactic| walk_at "call ref") => `(tactic| (k_here; (with_reducible show wpAny _ _ (call (Value.ref 881) _) _ _ _); k_dflt ((refine' next_rule _ _ _ _ _ _ _ _ _ _ _ _ ?se1 ?se2 ?se3 ?se4 ?se5 ?se6 ?se7 ?se8 ?se9 (Fr.keep ?sea _ _ (by assumption)) (by assumption) (by assumption) ?seb ?sec ?sed ?see ?sef (by assumption) ?_; (case se1 => k_asm); (case se2 => k_asm); (case se3 => k_asm); (case se4 => k_asm); (case se5 => exact rfl); (case se6 => ktr_room); (case se7 => ktr_room); (case se8 => k_asm); (case se9 => assumption); (case sea => k_asm); (case seb => omega); (case sec => omega); (case sed => omega); (case see => omega); (case sef => omega)); intro rq tq cq hq t1q t2q hpq tkq hr0 hr1 hc0 hh0 hh1 Fq Nq kq); (try k_sweep)))
local macro_rules | `(tactic| walk_at "call ref") => `(tactic| (k_here; (with_reducible show wpAny _ _ (call (Value.ref 881) _) _ _ _); k_dflt ((refine' next_rule2 _ _ _ _ _ _ _ _ _ _ _ _ ?se1 ?se2 ?se3 ?se4 ?se5 ?se6 ?se7 ?se8 ?seg ?se9 (Fr.keep ?sea _ _ (by assumption)) (by assumption) (by assumption) ?seb ?sec ?sed ?see ?sef (by assumption) ?_; (case se1 => k_asm); (case se2 => k_asm); (case se3 => k_asm); (case se4 => k_asm); (case se5 => exact rfl); (case se6 => ktr_room); (case se7 => ktr_room); (case se8 => k_asm); (case seg => exact Nat.ne_of_gt (And.left (by assumption))); (case se9 => assumption); (case sea => k_asm); (case seb => omega); (case sec => omega); (case sed => omega); (case see => omega); (case sef => omega)); intro rq tq cq hq t1q t2q hpq tkq hr0 hr1 hc0 hh0 hh1 Fq Nq kq); (try k_sweep)))
local macro_rules | `(tactic| walk_at "subscriptTail") => `(tactic| (k_here; (with_reducible show wpAny _ _ (subscriptTail _ _ (Value.ref _) (Value.int _ _)) _ _ _); k_dflt (refine item_two (by k_asm) (by assumption) (by assumption) ?_ ?_) <;> intro _))
local macro_rules | `(tactic| walk_at "subscriptTail") => `(tactic| (k_here; (with_reducible show wpAny _ _ (subscriptTail _ _ (Value.ref _) (Value.int _ _)) _ _ _); k_dflt (refine item_list (Fr.lst (by k_asm) (by assumption)) (by omega) (by omega) (by assumption) ?_)))
set_option linter.unusedSimpArgs false
def one (c : Nat) : Str := ⟨#[c]⟩
theorem strs_at {vs : List Value} {ys : List Str} (h : StrsAre vs ys) : ∀ {i : Nat}, i < vs.length → ∃ y t, ys[i]? = some y ∧ vs[i]? = some (.str y t) := by
  induction h with
  | nil => intro i hi; simp at hi
  | cons y t _ ih =>
    intro i hi
    cases i with
    | zero => exact ⟨y, t, rfl, rfl⟩
    | succ i =>
      obtain ⟨y', t', h1, h2⟩ := ih (i := i) (by simpa using hi)
      exact ⟨y', t', by simpa using h1, by simpa using h2⟩
theorem signs_at {vs : List Value} {cs : List Nat} (h : StrsAre vs (cs.map one)) {i : Nat} (hi : i < vs.length) : ∃ c t, cs[i]? = some c ∧ vs.toArray[((i : Nat) : Int).toNat]? = some (.str ⟨#[c]⟩ t) := by
  obtain ⟨y, t, h1, h2⟩ := strs_at h hi
  rw [List.getElem?_map] at h1
  obtain ⟨c, hc, rfl⟩ := Option.map_eq_some_iff.mp h1
  exact ⟨c, t, hc, by simpa [one] using h2⟩
theorem c_eq {c d : Nat} (h : ((⟨#[c]⟩ : Str) == ⟨#[d]⟩) = true) : c = d := by rw [one_beq] at h; exact of_decide_eq_true h
theorem c_ne {c d : Nat} (h : ((⟨#[c]⟩ : Str) == ⟨#[d]⟩) = false) : c ≠ d := by rw [one_beq] at h; exact of_decide_eq_false h
theorem nl_one : Str.ofString "\n" = ⟨#[10]⟩ := by decide +kernel
theorem c_nl {c : Nat} (h : ((⟨#[c]⟩ : Str) == Str.ofString "\n") = true) : c = 10 := by rw [nl_one] at h; exact c_eq h
theorem c_sl {c : Nat} (h : ((⟨#[c]⟩ : Str) == Str.ofString "\\") = true) : c = 92 := by rw [slash_is] at h; exact c_eq h
theorem c_nsl {c : Nat} (h : ((⟨#[c]⟩ : Str) == Str.ofString "\\") = false) : c ≠ 92 := by rw [slash_is] at h; exact c_ne h
theorem c_ae {c : Nat} (h : (Builtin.Str.occurrences (Str.ofString "aé") ⟨#[c]⟩ 0 (Str.ofString "aé").length 1).isEmpty = false) : c = 97 ∨ c = 233 := by
  rw [occ_in, show (Str.ofString "aé").cps.toList = [97, 233] by decide +kernel, Bool.not_eq_false'] at h
  have := of_decide_eq_true h
  simpa using this
theorem c_three {c : Nat} (h : (Builtin.Str.occurrences (Str.ofString ",;:") ⟨#[c]⟩ 0 (Str.ofString ",;:").length 1).isEmpty = false) : c = 44 ∨ c = 59 ∨ c = 58 := by
  rw [occ_in, show (Str.ofString ",;:").cps.toList = [44, 59, 58] by decide +kernel, Bool.not_eq_false'] at h
  have := of_decide_eq_true h
  simpa using this
theorem k_n : (Str.ofString "\\n").cps.toList = [92, 110] := by decide +kernel
theorem k_N : (Str.ofString "\\N").cps.toList = [92, 78] := by decide +kernel
theorem k_ss : (Str.ofString "\\\\").cps.toList = [92, 92] := by decide +kernel
theorem k_s : (Str.ofString "\\").cps.toList = [92] := by decide +kernel
theorem l_n : (Str.ofString "\\n").length = 2 := by decide +kernel
theorem l_N : (Str.ofString "\\N").length = 2 := by decide +kernel
theorem l_ss : (Str.ofString "\\\\").length = 2 := by decide +kernel
theorem l_s : (Str.ofString "\\").length = 1 := by decide +kernel
theorem l_one (c : Nat) : (⟨#[c]⟩ : Str).length = 1 := rfl
theorem news_rest {h₀ h : Heap} {L : Addr} {q : Addr × Obj} {rest : List (Addr × Obj)} (N : News h₀ L h (q :: rest)) : News h₀ L h rest := fun p hp => N p (List.Mem.tail _ hp)
def WJ (pt : Nat) (st l tx : Addr) (ep : Nat) (cs0 : List Nat) (tp : Tok) (i : Nat) (m₁ : Str → Option Value) (nx : List (Addr × Obj)) : Prop :=
  ∃ (o : Str) (to : Tok) (c' h'' : Int) (t1' t2' : Tok), m₁ (S "out") = some (.str o to) ∧ m₁ (S "state") = some (.ref st) ∧ m₁ (S "text") = some (.ref tx) ∧ m₁ (S "part") = some (.str (one pt) tp) ∧
      nx = [(st, stObj l c' h'' t1' t2' ep)] ∧ 0 ≤ c' ∧ 0 ≤ h'' ∧ h'' < 2147483647 ∧ o.length ≤ 2 * i ∧ WInv pt cs0 i o.cps.toList
theorem inv_end {pt : Nat} {st l tx : Addr} {ep : Nat} {cs0 : List Nat} {tp : Tok} {i : Nat} {g' h' : Heap} {L' : Addr} {m' : Str → Option Value} {c' h'' : Int} {t1' t2' : Tok} {own : List (Addr × Obj)} {o : Str} {to : Tok} {s₁ : Shared} {tk : Nat}
    (F : Fr g' L' h' m') (N : News g' L' h' ((st, stObj l c' h'' t1' t2' ep) :: own)) (e1 : m' (S "out") = some (.str o to)) (e2 : m' (S "state") = some (.ref st)) (e3 : m' (S "text") = some (.ref tx)) (e4 : m' (S "part") = some (.str (one pt) tp))
    (b1 : 0 ≤ c') (b2 : 0 ≤ h'') (b3 : h'' < 2147483647) (hl : o.length ≤ 2 * (i + 1)) (hW : WInv pt cs0 (i + 1) o.cps.toList) :
    InvEndN g' L' (WJ pt st l tx ep cs0 tp (i + 1)) own [st] s₁ { s₁ with heap := h', toks := tk } :=
  InvEndN.intro (nx := [(st, stObj l c' h'' t1' t2' ep)]) F N ⟨o, to, c', h'', t1', t2', e1, e2, e3, e4, rfl, b1, b2, b3, hl, hW⟩ rfl (fun p hp => by rw [List.mem_singleton.mp hp]; exact .head _) (fun p hp => .tail _ hp)
theorem written_call {w : World} {dp un : Nat} {gd : Option (List Code)} {cn : Str} {cs : Scope} {L a : Addr} {ccd : Value} {cl : List (Str × Addr)} {outer : List Env} {A₀ : Around} {base h₀ : Heap} {m : Str → Option Value} {s : Shared} {Q E : Value → Shared → Prop}
    {p : Program} {loose : List Str} {mean : ExcName → Option Value} {mg mb : Str → Option Value} {rest : List (Addr × Obj)} (st l tx : Addr) (c hh : Int) (t1 t2 : Tok) (ep el et : Nat) (vs vt : List Value) (ns : List Int) (cs0 : List Nat) (pt : Nat) (tp : Tok)
    (B : Below A₀ base outer h₀) (F : Fr h₀ L s.heap m) (X : (K w.params).In h₀) (T : Top p loose mean mg mb h₀) (hk : cs.kind = .function) (hd : dp + 12 < recursionLimit) (hu : un + 100 < cLine)
    (N : News h₀ L s.heap ((st, stObj l c hh t1 t2 ep) :: rest)) (off : ∀ p ∈ rest, p.1 ≠ st) (hl : s.heap.get? l = some (lst vs el)) (hI : IntsAre vs ns) (hvl : vs.length ≤ 63) (hc : 0 ≤ c) (hh1 : 0 ≤ hh) (hh2 : hh < 2147483647) (hne : l ≠ st)
    (hx : s.heap.get? tx = some (lst vt et)) (hxs : tx ≠ st) (hS : StrsAre vt (cs0.map one)) (hvt : vt.length ≤ 3) (hpt : pt = 59 ∨ pt = 44)
    (ret : ∀ (o : Str) t' c' h'' t1' t2' hp tk', W pt cs0 o.cps.toList → o.length ≤ 6 → 0 ≤ c' → 0 ≤ h'' → h'' < 2147483647 → Fr h₀ L hp m → News h₀ L hp ((st, stObj l c' h'' t1' t2' ep) :: rest) → (∀ b o, b ≠ st → s.heap.get? b = some o → hp.get? b = some o) → Q (.str o t') { s with heap := hp, toks := tk' }) :
    wpAny (model PySem.Challenge.rw_bl0008_01.row.prog w) (ktrTop dp un gd cn cs L a ccd cl outer) (call (.ref 888) [.ref st, .ref tx, .str (one pt) tp]) Q E s := by
  revert X
  w_top off
  k_fill
  intro X
  have N1 := news_first N
  refine wpAny_call ?_
  k_dflt (refine' code_defG ?ke1 ?ke2 ?ke3 ?ke4 ?ke5 ?keA ?keF ?keK ?ke6 ?ke7 ?ke8 ?ke9 ?keB ?_ ?ked2 ?ked3 ?ked4 ?ked5; (case keA => exact rfl); (case keF => exact rfl); (case keK => first | exact rfl | assumption); (case ke1 => k_asm); (case ke2 => k_asm); (case ke3 => k_asm); (case ke4 => exact N1); (case ke5 => k_asm); (case ke6 => k_is); (case ke7 => k_is); (case ke8 => ktr_room); (case ke9 => first | exact BindsTo.of_eq rfl | exact binds_K (by k_in) rfl (by k_is) rfl rfl rfl); (case ked5 => decide); (case keB => exact locs rfl); (case ked2 => exact rfl); (case ked3 => exact rfl); (case ked4 => exact rfl))
  intro g' L' h' FG' F' N' B' X' T' kG'
  have hlg : g'.get? l = some (lst vs el) := kG' l _ hl (by simpa using hne)
  have hT : g'.IsList tx vt.toArray := ⟨_, kG' tx _ hx (by simpa using hxs), rfl, et, rfl⟩
  (try dsimp only)
  ktr_unf
  all_goals try dsimp only at *
  rename_i hR hF hN hk9
  refine iter_rangeJ (n := vt.length) (WJ pt st l tx ep cs0 tp) rfl (by rw [← List.size_toArray]; exact hR) (by omega) hF hN ?_ ?_ ?_
  · exact ⟨_, _, _, _, _, _, rfl, rfl, rfl, rfl, rfl, hc, hh1, hh2, by decide, winv_zero _ _⟩
  · rintro i t m₁ nx h tk own hi ha ho ⟨o, to, c', h'', t1', t2', e1, e2, e3, e4, rfl, hc', hh1', hh2', hol, hW⟩ F₁ N₁
    have off1 : ∀ p ∈ own, p.1 ≠ st := fun p hp => ho p hp st (by simp)
    replace N₁ : News g' L' h ((st, stObj l c' h'' t1' t2' ep) :: own) := N₁
    have F₂ := fr1 (a := S "k") (fr4 (a := S "out") (b := S "state") (c := S "text") (d := S "part") F₁ (by show (if S "out" = S "k" then _ else _) = _; rw [if_neg (by decide)]; exact e1) (by show (if S "state" = S "k" then _ else _) = _; rw [if_neg (by decide)]; exact e2) (by show (if S "text" = S "k" then _ else _) = _; rw [if_neg (by decide)]; exact e3) (by show (if S "part" = S "k" then _ else _) = _; rw [if_neg (by decide)]; exact e4)) rfl
    obtain ⟨c9, tc9, hcs, hv⟩ := signs_at hS hi
    clear hR hF hN hk9 F₁ e1 e2 e3 e4 N1
    (try dsimp only)
    (try k_fold)
    by_cases hnx : i + 1 < vt.length
    · obtain ⟨d9, td9, hds, hvd⟩ := signs_at hS hnx
      replace hvd : vt.toArray[((i : Int) + 1).toNat]? = some (.str ⟨#[d9]⟩ td9) := by simpa using hvd
      k_steps
      all_goals (
        rename Fr _ _ _ _ => F9
        rename News _ _ _ _ => N9
        first
          | (refine inv_end F9 (by first | exact N9 | exact news_rest N9) rfl rfl rfl rfl (by omega) (by omega) (by omega) (by simp only [app_len, l_n, l_N, l_ss, l_s, l_one]; omega) ?_; rw [app_cps, k_n]; exact winv_newline (c_nl (c := c9) (by assumption) ▸ hcs) (.inl rfl) hW)
          | (refine inv_end F9 (by first | exact N9 | exact news_rest N9) rfl rfl rfl rfl (by omega) (by omega) (by omega) (by simp only [app_len, l_n, l_N, l_ss, l_s, l_one]; omega) ?_; rw [app_cps, k_N]; exact winv_newline (c_nl (c := c9) (by assumption) ▸ hcs) (.inr rfl) hW)
          | (refine inv_end F9 (by first | exact N9 | exact news_rest N9) rfl rfl rfl rfl (by omega) (by omega) (by omega) (by simp only [app_len, l_n, l_N, l_ss, l_s, l_one]; omega) ?_; rw [app_cps, k_ss]; exact winv_slash (c_sl (c := c9) (by assumption) ▸ hcs) hW)
          | (refine inv_end F9 (by first | exact N9 | exact news_rest N9) rfl rfl rfl rfl (by omega) (by omega) (by omega) (by simp only [app_len, l_n, l_N, l_ss, l_s, l_one]; omega) ?_; rw [app_cps, k_s]; exact winv_bare (c_sl (c := c9) (by assumption) ▸ hcs) hds (c_ae (c := d9) (by assumption)) hW)
          | (refine inv_end F9 (by first | exact N9 | exact news_rest N9) rfl rfl rfl rfl (by omega) (by omega) (by omega) (by simp only [app_len, l_n, l_N, l_ss, l_s, l_one]; omega) ?_; rw [app_cps, app_cps, k_s, List.append_assoc]; exact winv_esc hcs (by first | exact c_three (by assumption) | (have q := c_eq (c := c9) (d := pt) (by assumption); omega)) hW)
          | (refine inv_end F9 (by first | exact N9 | exact news_rest N9) rfl rfl rfl rfl (by omega) (by omega) (by omega) (by simp only [app_len, l_n, l_N, l_ss, l_s, l_one]; omega) ?_; rw [app_cps]; exact winv_plain hcs (c_nsl (by assumption)) (c_ne (d := pt) (by assumption)) hW)
          | skip)
    · k_steps
      all_goals (
        rename Fr _ _ _ _ => F9
        rename News _ _ _ _ => N9
        first
          | (refine inv_end F9 (by first | exact N9 | exact news_rest N9) rfl rfl rfl rfl (by omega) (by omega) (by omega) (by simp only [app_len, l_n, l_N, l_ss, l_s, l_one]; omega) ?_; rw [app_cps, k_n]; exact winv_newline (c_nl (c := c9) (by assumption) ▸ hcs) (.inl rfl) hW)
          | (refine inv_end F9 (by first | exact N9 | exact news_rest N9) rfl rfl rfl rfl (by omega) (by omega) (by omega) (by simp only [app_len, l_n, l_N, l_ss, l_s, l_one]; omega) ?_; rw [app_cps, k_N]; exact winv_newline (c_nl (c := c9) (by assumption) ▸ hcs) (.inr rfl) hW)
          | (refine inv_end F9 (by first | exact N9 | exact news_rest N9) rfl rfl rfl rfl (by omega) (by omega) (by omega) (by simp only [app_len, l_n, l_N, l_ss, l_s, l_one]; omega) ?_; rw [app_cps, k_ss]; exact winv_slash (c_sl (c := c9) (by assumption) ▸ hcs) hW)
          | (refine inv_end F9 (by first | exact N9 | exact news_rest N9) rfl rfl rfl rfl (by omega) (by omega) (by omega) (by simp only [app_len, l_n, l_N, l_ss, l_s, l_one]; omega) ?_; rw [app_cps, k_s]; exact winv_bare (c_sl (c := c9) (by assumption) ▸ hcs) hds (c_ae (c := d9) (by assumption)) hW)
          | (refine inv_end F9 (by first | exact N9 | exact news_rest N9) rfl rfl rfl rfl (by omega) (by omega) (by omega) (by simp only [app_len, l_n, l_N, l_ss, l_s, l_one]; omega) ?_; rw [app_cps, app_cps, k_s, List.append_assoc]; exact winv_esc hcs (by first | exact c_three (by assumption) | (have q := c_eq (c := c9) (d := pt) (by assumption); omega)) hW)
          | (refine inv_end F9 (by first | exact N9 | exact news_rest N9) rfl rfl rfl rfl (by omega) (by omega) (by omega) (by simp only [app_len, l_n, l_N, l_ss, l_s, l_one]; omega) ?_; rw [app_cps]; exact winv_plain hcs (c_nsl (by assumption)) (c_ne (d := pt) (by assumption)) hW)
          | skip)
  · rintro m₁ nx h tk ⟨o, to, c', h'', t1', t2', e1, e2, e3, e4, rfl, hc', hh1', hh2', hol, hW⟩ F₁ N₁
    have F₂ := fr1 (a := S "out") F₁ e1
    clear hR hF hN hk9 F₁ e1 e2 e3 e4 N1
    (try dsimp only)
    (try k_fold)
    k_steps
    have keep : ∀ b o, b ≠ st → s.heap.get? b = some o → _ := fun b o hb e => F₂.keep b o (kG' b o e (by simpa using hb))
    have hlen : vt.length = cs0.length := by rw [strsAre_len hS, List.length_map]
    rw [hlen] at hW hol hvt
    exact ret _ _ _ _ _ _ _ _ (winv_end hW) (by omega) hc' hh1' hh2' (fr_but1 F N keep) (news_but1 N off keep (N₁ _ (List.Mem.head _)).1) keep
end BL
namespace BL
end BL
end
-- part Comp
section
set_option linter.unusedVariables false
open PySem PySem.W PySem.Spec PySem.Calls PyProof.Rows
set_option maxRecDepth 100000
set_option autoImplicit false
namespace BL
section
variable {prog : Program} {w : World} {A : Around} {s : Shared} {h₀ : Heap} {L : Addr} {m : Str → Option Value} {env : Env}
/-- the turns of a comprehension by an invariant of what is made and of the ledger -/
theorem comp_ind {elt : Expr} {x : Str} {scope : Scope} {cl : List (Str × Addr)} {S : List (Addr × Obj) → Prop} {P : Nat → Value → Prop} {Fin : List Value → List (Addr × Obj) → Prop} (J : Nat → List Value → List (Addr × Obj) → Prop) (n : Nat)
    (turn : ∀ i ys news v I oI C oC D m₂ h tk (E' : Value → Shared → Prop), i < n → J i ys news → P i v → LCg.NsObj oC m₂ → m₂ x = some v → Fr h₀ L h m → News h₀ L h ((I, oI) :: (C, oC) :: (D, LCg.lst ys) :: news) → (∀ p ∈ news, p.1 ≠ I ∧ p.1 ≠ C ∧ p.1 ≠ D) → I ≠ C → I ≠ D → C ≠ D →
      wpAny (model prog w) A (eval elt (compEnvC scope cl C env)) (LCg.CompEnd h₀ L m { s with heap := h, toks := tk } I oI C oC D (LCg.lst ys) S (fun y news' => J (i + 1) (ys ++ [y]) news')) E' { s with heap := h, toks := tk })
    (fin : ∀ ys news, J n ys news → Fin ys news) : ∀ k i ys news, k + i = n → J i ys news → LCg.CompRest prog w A h₀ L m env elt x scope cl s S P Fin k i ys news := by
  intro k
  induction k with
  | zero =>
    intro i ys news e hJ
    have e' : i = n := by omega
    subst e'
    exact LCg.CompRest.zero (fin _ _ hJ)
  | succ k ih =>
    intro i ys news e hJ
    refine LCg.CompRest.succ fun v I oI C oC D m₂ h tk E' hv hC hx F N off ne => ?_
    refine wpAny_mono (turn i ys news v I oI C oC D m₂ h tk E' (by omega) hJ hv hC hx F N off.mem ne.1 ne.2.1 ne.2.2) (fun y s₂ hy => ?_) fun _ _ z => z
    obtain ⟨h', tk', news', e1, F', N', o', S', J'⟩ := hy
    exact ⟨h', tk', news', e1, F', N', o', S', ih (i + 1) (ys ++ [y]) news' (by omega) J'⟩
end
/-- the signs of the law -/
abbrev Sign (c : Nat) : Prop := c ∈ [97, 110, 59, 44, 58, 92, 10, 34, 233, 32]
/-- lists of signs, laid down one by one -/
inductive TX (bad : List Nat) : List Value → List (Addr × Obj) → List (List Nat) → Prop
  | nil : TX bad [] [] []
  | snoc {rs ts css} (a : Addr) (vt : List Value) (et : Nat) (cs : List Nat) : TX bad rs ts css → StrsAre vt (cs.map one) → vt.length ≤ 3 → (∀ c ∈ cs, Sign c) → (∀ x ∈ bad, @Ne Nat a x) → TX bad (rs ++ [.ref a]) ((a, lst vt et) :: ts) (css ++ [cs])
theorem TX.off {bad : List Nat} {rs ts css} (h : TX bad rs ts css) : ∀ p ∈ ts, ∀ x ∈ bad, @Ne Nat p.1 x := by
  induction h with
  | nil => intro p hp; cases hp
  | snoc a vt et cs _ _ _ _ hl ih =>
    intro p hp
    rcases List.mem_cons.mp hp with rfl | hp
    · exact hl
    · exact ih p hp
theorem TX.len {bad : List Nat} {rs ts css} (h : TX bad rs ts css) : rs.length = css.length := by
  induction h with
  | nil => rfl
  | snoc => simp; assumption
theorem off_of {bad : List Nat} {x : Nat} {ts : List (Addr × Obj)} (h : ∀ p ∈ ts, ∀ x ∈ bad, @Ne Nat p.1 x) (hx : x ∈ bad) : ∀ p ∈ ts, @Ne Nat p.1 x := fun p hp => h p hp x hx
theorem off_set {pre rest : List (Addr × Obj)} {st : Addr} {o o' : Obj} {P : Addr → Prop} (h : ∀ p ∈ pre ++ (st, o) :: rest, P p.1) : ∀ p ∈ pre ++ (st, o') :: rest, P p.1 := by
  intro p hp
  rcases List.mem_append.mp hp with hp | hp
  · exact h p (List.mem_append_left _ hp)
  · rcases List.mem_cons.mp hp with rfl | hp
    · exact h (st, o) (List.mem_append_right _ (.head _))
    · exact h p (List.mem_append_right _ (.tail _ hp))
theorem bad_ne {bad : List Nat} {a x : Nat} (h : ∀ x ∈ bad, @Ne Nat a x) (hx : x ∈ bad) : @Ne Nat a x := h x hx
theorem TX.at {bad : List Nat} {rs ts css} (h : TX bad rs ts css) : ∀ {i : Nat} {v : Value}, rs[i]? = some v → ∃ a vt et cs, v = .ref a ∧ (a, lst vt et) ∈ ts ∧ css[i]? = some cs ∧ StrsAre vt (cs.map one) ∧ vt.length ≤ 3 ∧ ∀ c ∈ cs, Sign c := by
  induction h with
  | nil => intro i v hv; simp at hv
  | @snoc rs ts css a vt et cs hT hS hl hs hb ih =>
    intro i v hv
    have hlen := hT.len
    by_cases hi : i < rs.length
    · rw [List.getElem?_append_left hi] at hv
      obtain ⟨a', vt', et', cs', e1, e2, e3, r⟩ := ih hv
      exact ⟨a', vt', et', cs', e1, .tail _ e2, by rw [List.getElem?_append_left (by omega)]; exact e3, r⟩
    · rw [List.getElem?_append_right (by omega)] at hv
      have hi2 : i - rs.length = 0 := by
        by_cases h0 : i - rs.length = 0
        · exact h0
        · rw [List.getElem?_eq_none (by simp; omega)] at hv; cases hv
      rw [hi2] at hv
      simp at hv
      subst hv
      exact ⟨a, vt, et, cs, rfl, .head _, by rw [List.getElem?_append_right (by omega), show i - css.length = 0 by omega]; rfl, hS, hl, hs⟩
theorem mem_mid {q : Addr × Obj} {ts : List (Addr × Obj)} : ∀ (pre : List (Addr × Obj)), ∀ p ∈ pre ++ q :: ts, p ∈ q :: (pre ++ ts) := by
  intro pre p hp
  rcases List.mem_append.mp hp with hp | hp
  · exact .tail _ (List.mem_append_left _ hp)
  · rcases List.mem_cons.mp hp with rfl | hp
    · exact .head _
    · exact .tail _ (List.mem_append_right _ hp)
theorem off1_mem {D : Addr} : ∀ {l : List (Addr × Obj)}, LCg.Off1 D l → ∀ p ∈ l, p.1 ≠ D
  | [], _, p, hp => by cases hp
  | _ :: _, x, p, hp => by
    rcases List.mem_cons.mp hp with rfl | hp
    · exact x.1
    · exact off1_mem x.2 p hp
theorem off_mid {q : Addr × Obj} {ts : List (Addr × Obj)} {P : Addr → Prop} (pre : List (Addr × Obj)) (h : ∀ p ∈ pre ++ ts, P p.1) (hq : P q.1) : ∀ p ∈ pre ++ q :: ts, P p.1 := by
  intro p hp
  rcases List.mem_cons.mp (mem_mid pre p hp) with rfl | hp
  · exact hq
  · exact h p hp
theorem strs_snoc {vs : List Value} {cs : List Nat} (h : StrsAre vs (cs.map one)) (c : Nat) (t : Tok) : StrsAre (vs ++ [.str (one c) t]) ((cs ++ [c]).map one) := by
  rw [List.map_append]
  exact strsAre_snoc h (one c) t
theorem sg0 : S "a" = one 97 := by decide +kernel
theorem sg1 : S "n" = one 110 := by decide +kernel
theorem sg2 : S ";" = one 59 := by decide +kernel
theorem sg3 : S "," = one 44 := by decide +kernel
theorem sg4 : S ":" = one 58 := by decide +kernel
theorem sg5 : S "\\" = one 92 := by decide +kernel
theorem sg6 : S "\n" = one 10 := by decide +kernel
theorem sg7 : S "\"" = one 34 := by decide +kernel
theorem sg8 : S "é" = one 233 := by decide +kernel
theorem sg9 : S " " = one 32 := by decide +kernel
/-- a sign of the law's table -/
theorem sign_item {prog : Program} {w : World} {A : Around} {E : Value → Shared → Prop} {s : Shared} {h₀ : Heap} {L : Addr} {m : Str → Option Value} {value slice : Expr} {r : Int} {u : Tok} {Q : Value → Shared → Prop} (F : Fr h₀ L s.heap m) (X : (K w.params).In h₀) (h0 : 0 ≤ r) (h1 : r < 10) (q : ∀ c t, Sign c → Q (.str (one c) t) s)
    (hs : subscripted slice false (.ref 874) (.int r u) = operate [.ref 874, .int r u] (getItem (.ref 874) (.int r u)) := by with_unfolding_all rfl) (hg : ∀ z, letTemporaryGo value (.ref 874) z = pure () := by intro _; with_unfolding_all rfl) :
    wpAny (model prog w) A (subscriptTail value slice (.ref 874) (.int r u)) Q E s := by
  have hl : s.heap.IsList 874 ⟨[.str (S "a") 1907, .str (S "n") 1908, .str (S ";") 1909, .str (S ",") 1910, .str (S ":") 1911, .str (S "\\") 1912, .str (S "\n") 1913, .str (S "\"") 1914, .str (S "é") 1915, .str (S " ") 1916]⟩ := ⟨_, F.keep _ _ (X 874 (o874_45 w.params) (by kernel_rfl)), rfl, 0, rfl⟩
  rw [sg0, sg1, sg2, sg3, sg4, sg5, sg6, sg7, sg8, sg9] at hl
  rcases (show r = 0 ∨ r = 1 ∨ r = 2 ∨ r = 3 ∨ r = 4 ∨ r = 5 ∨ r = 6 ∨ r = 7 ∨ r = 8 ∨ r = 9 by omega) with e | e | e | e | e | e | e | e | e | e <;> subst e <;> exact item_list hl (by decide) (by decide) rfl (q _ _ (by decide)) hs hg
end BL
end
-- part LT0
section
set_option linter.unusedVariables false
open PySem PySem.W PySem.Spec PySem.Calls PyProof.Rows
set_option maxRecDepth 100000
set_option maxHeartbeats 8000000
set_option Elab.async false
namespace BL
local macro_rules | `(tactic| ktr_room) => `(tactic| ((try simp only [tc_depth, tc_units, depth_under_make, depth_under_kw, depth_in1, depth_deeper, units_in1, units_deeper, Around.mark_units, depth_mark]); (try dsimp only [ktrTop]); omega))
local macro_rules | `(tactic| k_room) => `(tactic| ktr_room)
local macro_rules | `(tactic| k_enter) => `(tactic| (refine' code_defG ?ke1 ?ke2 ?ke3 ?ke4 ?ke5 ?keA ?keF ?keK ?ke6 ?ke7 ?ke8 ?ke9 ?keB ?_ ?ked2 ?ked3 ?ked4 ?ked5; (case keA => exact rfl); (case keF => exact rfl); (case keK => first | exact rfl | assumption); (case ke1 => k_asm); (case ke2 => k_asm); (case ke3 => k_asm); (case ke4 => k_asm); (case ke5 => k_asm); (case ke6 => k_is); (case ke7 => k_is); (case ke8 => ktr_room); (case ke9 => first | exact BindsTo.of_eq rfl | exact binds_K (by k_in) rfl (by k_is) rfl rfl rfl); (case ked5 => decide); (case keB => exact locs rfl); (case ked2 => exact rfl); (case ked3 => exact rfl); (case ked4 => exact rfl); intro g' L' h' FG' F' N' B' X' T' kG'; (try dsimp only); (try k_lift B'); (try k_fold)))
local macro_rules | `(tactic| ktr_unf) => `(tactic| repeat' (first | (k_unfold; (try dsimp only)) | (k_end; wrow_close) | ((fail_if_success (with_reducible show wpAny _ _ (execs (Stmt.Assign _ (PySem.Expr.Call _ _ _ _) _ :: _) _) _ _ _)); (first | walk1 | (dsimp only; walk1))) | fail "no step"))
local macro_rules | `(tactic| walk_at "pad 0") => `(tactic| fail)
local macro_rules | `(tactic| walk_at "call ref") => `(tactic| (k_here; (with_reducible show wpAny _ _ (call (Value.ref 881) _) _ _ _); k_dflt ((refine' next_ruleU _ _ _ _ _ _ _ _ _ _ _ _ ?se1 ?se2 ?se3 ?se4 ?se5 ?se6 ?se7 ?se8 ?se9 ?sel (by assumption) ?sez ?seb ?sec ?sed ?see ?sef ?seg ?_; (case se1 => k_asm); (case se2 => k_asm); (case se3 => k_asm); (case se4 => k_asm); (case se5 => exact rfl); (case se6 => ktr_room); (case se7 => ktr_room); (case se8 => k_asm); (case se9 => k_updF); (case sel => first | k_mem | assumption); (case sez => first | assumption | omega); (case seb => omega); (case sec => omega); (case sed => omega); (case see => omega); (case sef => omega); (case seg => first | assumption | k_ne)); intro rq tq cq hq t1q t2q hpq tkq hr0 hr1 hc0 hh0 hh1 Fq Nq); (try dsimp only at Nq); (try k_sweep)))
theorem law_t0 {w : World} {dp un : Nat} {gd : Option (List Code)} {L a : Addr} {ccd : Value} {A₀ : Around} {h₀ : Heap} {s : Shared} {Q : Flow → Shared → Prop} {E : Value → Shared → Prop}
    {p : Program} {loose : List Str} {mean : ExcName → Option Value} {mg mb : Str → Option Value} {outer : List Env} (c1 c2 l0 : Addr) (o1 o2 : Obj) (vs0 : List Value) (ns0 : List Int)
    (B : Below A₀ h₀ outer h₀) (X : (K w.params).In h₀) (T : Top p loose mean mg mb h₀) (hd : dp + 100 < recursionLimit) (hu : un + 1000 < cLine)
    (F : Fr h₀ L s.heap (fun y => if y = S "script" then some (.ref l0) else none))
    (N : News h₀ L s.heap [(c2, o2), (c1, o1)]) (ho2 : o2.data = .cell none) (ho1 : o1.data = .cell none) (hc2 : @LT.lt Nat _ c1 c2)
    (hl : h₀.IsList l0 vs0.toArray) (hI : IntsAre vs0 ns0) (hvl : vs0.length ≤ 63)
    (next : ∀ (l st : Addr) (o1 : Obj) (vs : List Value) (ns : List Int) (t1 t2 : Tok) (ep el : Nat) h' tk', o1.data = .cell (some (.ref st)) → @LT.lt Nat _ c2 l → @LT.lt Nat _ l st → IntsAre vs ns → vs.length ≤ 63 →
      Fr h₀ L h' (fun y => if y = S "script" then some (.ref l0) else none) → News h₀ L h' [(st, stObj l 0 17 t1 t2 ep), (l, lst vs el), (c2, o2), (c1, o1)] →
      wpAny (model PySem.Challenge.rw_bl0008_01.row.prog w) (ktrTop dp un gd "law" lawScope L a ccd [(S "part", c2), (S "state", c1)] outer) (execs (lawBody.drop 1) (envX "law" lawScope L a ccd [(S "part", c2), (S "state", c1)])) Q E { s with heap := h', toks := tk' }) :
    wpAny (model PySem.Challenge.rw_bl0008_01.row.prog w) (ktrTop dp un gd "law" lawScope L a ccd [(S "part", c2), (S "state", c1)] outer) (execs lawBody (envX "law" lawScope L a ccd [(S "part", c2), (S "state", c1)])) Q E s := by
  revert X
  w_top off
  k_fill
  intro X
  conv in (occs := *) lawScope => all_goals whnf
  conv in lawBody => whnf
  ktr_unf
  rename Fr h₀ L _ _ => F9
  rename News h₀ L _ _ => N9
  rename IntsAre _ (List.take _ _) => hI9
  refine next _ _ _ _ _ _ _ _ _ _ _ (by assumption) (by omega) (by omega) hI9 ?_ F9 N9
  have e1 := hI9.length
  have e2 := hI.length
  rw [List.length_take] at e1
  omega
end BL
end
-- part LT1
section
set_option linter.unusedVariables false
open PySem PySem.W PySem.Spec PySem.Calls PyProof.Rows
set_option maxRecDepth 100000
set_option maxHeartbeats 8000000
set_option Elab.async false
namespace BL
local macro_rules | `(tactic| ktr_room) => `(tactic| ((try simp only [tc_depth, tc_units, depth_under_make, depth_under_kw, depth_in1, depth_deeper, units_in1, units_deeper, Around.mark_units, depth_mark]); (try dsimp only [ktrTop]); omega))
local macro_rules | `(tactic| k_room) => `(tactic| ktr_room)
local macro_rules | `(tactic| k_enter) => `(tactic| (refine' code_defG ?ke1 ?ke2 ?ke3 ?ke4 ?ke5 ?keA ?keF ?keK ?ke6 ?ke7 ?ke8 ?ke9 ?keB ?_ ?ked2 ?ked3 ?ked4 ?ked5; (case keA => exact rfl); (case keF => exact rfl); (case keK => first | exact rfl | assumption); (case ke1 => k_asm); (case ke2 => k_asm); (case ke3 => k_asm); (case ke4 => k_asm); (case ke5 => k_asm); (case ke6 => k_is); (case ke7 => k_is); (case ke8 => ktr_room); (case ke9 => first | exact BindsTo.of_eq rfl | exact binds_K (by k_in) rfl (by k_is) rfl rfl rfl); (case ked5 => decide); (case keB => exact locs rfl); (case ked2 => exact rfl); (case ked3 => exact rfl); (case ked4 => exact rfl); intro g' L' h' FG' F' N' B' X' T' kG'; (try dsimp only); (try k_lift B'); (try k_fold)))
local macro_rules | `(tactic| ktr_unf) => `(tactic| repeat' (first | (k_unfold; (try dsimp only)) | (k_end; wrow_close) | ((fail_if_success (with_reducible show wpAny _ _ (execs (Stmt.Assign _ (PySem.Expr.ListComp _ _ _ _) _ :: _) _) _ _ _)); (first | walk1 | (dsimp only; walk1))) | fail "no step"))
local macro_rules | `(tactic| walk_at "pad 0") => `(tactic| fail)
local macro_rules | `(tactic| walk_at "pad 1") => `(tactic| fail)
local macro_rules | `(tactic| walk_at "call ref") => `(tactic| (k_here; (with_reducible show wpAny _ _ (call (Value.ref 881) _) _ _ _); k_dflt ((refine' next_ruleU _ _ _ _ _ _ _ _ _ _ _ _ ?se1 ?se2 ?se3 ?se4 ?se5 ?se6 ?se7 ?se8 ?se9 ?sel (by assumption) ?sez ?seb ?sec ?sed ?see ?sef ?seg ?_; (case se1 => k_asm); (case se2 => k_asm); (case se3 => k_asm); (case se4 => k_asm); (case se5 => exact rfl); (case se6 => ktr_room); (case se7 => ktr_room); (case se8 => k_asm); (case se9 => k_updF); (case sel => first | k_mem | assumption); (case sez => first | assumption | omega); (case seb => omega); (case sec => omega); (case sed => omega); (case see => omega); (case sef => omega); (case seg => first | assumption | k_ne)); intro rq tq cq hq t1q t2q hpq tkq hr0 hr1 hc0 hh0 hh1 Fq Nq); (try dsimp only at Nq); (try k_sweep)))
/-- how many fields a kind has -/
def KM (kind many : Int) : Prop := kind = 0 ∧ (many = 5 ∨ many = 6) ∨ kind = 1 ∧ 1 ≤ many ∧ many ≤ 3 ∨ kind = 2 ∧ (many = 7 ∨ many = 8) ∨ kind = 3 ∧ 1 ≤ many ∧ many ≤ 3
theorem km_of {k r e : Int} (k0 : 0 ≤ k) (k1 : k < 4) (r0 : 0 ≤ r) (r1 : r < 3) (he : e = 0 ∨ e = 1 ∧ (k = 0 ∨ k = 2)) : KM k ([5, 1 + r, 7, 1 + r].getD k.toNat 0 + e) := by
  rcases (show k = 0 ∨ k = 1 ∨ k = 2 ∨ k = 3 by omega) with h | h | h | h <;> subst h <;> simp [KM] <;> omega
theorem any02 {k : Int} (h : ([0, 2].any fun x => x == k) = true) : k = 0 ∨ k = 2 := by
  simp at h
  omega
theorem law_t1 {w : World} {dp un : Nat} {gd : Option (List Code)} {L a : Addr} {ccd : Value} {A₀ : Around} {h₀ : Heap} {s : Shared} {Q : Flow → Shared → Prop} {E : Value → Shared → Prop}
    {p : Program} {loose : List Str} {mean : ExcName → Option Value} {mg mb : Str → Option Value} {outer : List Env} (c1 c2 l0 l st : Addr) (o1 o2 : Obj) (vs : List Value) (ns : List Int) (t1 t2 : Tok) (ep el : Nat)
    (B : Below A₀ h₀ outer h₀) (X : (K w.params).In h₀) (T : Top p loose mean mg mb h₀) (hd : dp + 100 < recursionLimit) (hu : un + 1000 < cLine)
    (F : Fr h₀ L s.heap (fun y => if y = S "script" then some (.ref l0) else none))
    (N : News h₀ L s.heap [(st, stObj l 0 17 t1 t2 ep), (l, lst vs el), (c2, o2), (c1, o1)]) (ho2 : o2.data = .cell none) (ho1 : o1.data = .cell (some (.ref st))) (hc2 : @LT.lt Nat _ c1 c2) (hc3 : @LT.lt Nat _ c2 l) (hc4 : @LT.lt Nat _ l st)
    (hI : IntsAre vs ns) (hvl : vs.length ≤ 63)
    (next : ∀ (c hh kind more many : Int) (t1 t2 tk1 tk2 tk3 : Tok) h' tk', 0 ≤ c → 0 ≤ hh → hh < 2147483647 → KM kind many →
      Fr h₀ L h' (fun y => if y = S "many" then some (.int many tk3) else if y = S "more" then some (.int more tk2) else if y = S "kind" then some (.int kind tk1) else if y = S "script" then some (.ref l0) else none) → News h₀ L h' ((st, stObj l c hh t1 t2 ep) :: (l, lst vs el) :: (c2, o2) :: (c1, o1) :: []) →
      wpAny (model PySem.Challenge.rw_bl0008_01.row.prog w) (ktrTop dp un gd "law" lawScope L a ccd [(S "part", c2), (S "state", c1)] outer) (execs (lawBody.drop 4) (envX "law" lawScope L a ccd [(S "part", c2), (S "state", c1)])) Q E { s with heap := h', toks := tk' }) :
    wpAny (model PySem.Challenge.rw_bl0008_01.row.prog w) (ktrTop dp un gd "law" lawScope L a ccd [(S "part", c2), (S "state", c1)] outer) (execs (lawBody.drop 1) (envX "law" lawScope L a ccd [(S "part", c2), (S "state", c1)])) Q E s := by
  revert X
  w_top off
  k_fill
  intro X
  conv in (occs := *) lawScope => all_goals whnf
  conv in (List.drop 1 lawBody) => whnf
  ktr_unf
  · rename Fr h₀ L _ _ => F9
    rename News h₀ L _ _ => N9
    exact next _ _ _ _ _ _ _ _ _ _ _ _ (by assumption) (by assumption) (by assumption) (km_of (by assumption) (by assumption) (by assumption) (by assumption) (.inr ⟨rfl, any02 (by assumption)⟩)) F9 (fun p hp => N9 p (.tail _ (.tail _ hp)))
  · rename Fr h₀ L _ _ => F9
    rename News h₀ L _ _ => N9
    exact next _ _ _ _ _ _ _ _ _ _ _ _ (by assumption) (by assumption) (by assumption) (km_of (by assumption) (by assumption) (by assumption) (by assumption) (.inl rfl)) F9 (fun p hp => N9 p (.tail _ (.tail _ hp)))
  · rename Fr h₀ L _ _ => F9
    rename News h₀ L _ _ => N9
    exact next _ _ _ _ _ _ _ _ _ _ _ _ (by assumption) (by assumption) (by assumption) (km_of (by assumption) (by assumption) (by assumption) (by assumption) (.inl rfl)) F9 (fun p hp => N9 p (.tail _ hp))
end BL
end
-- part LT2
section
set_option linter.unusedVariables false
open PySem PySem.W PySem.Spec PySem.Calls PyProof.Rows
set_option maxRecDepth 100000
set_option maxHeartbeats 8000000
set_option Elab.async false
namespace BL
local macro_rules | `(tactic| ktr_room) => `(tactic| ((try simp only [tc_depth, tc_units, depth_under_make, depth_under_kw, depth_in1, depth_deeper, units_in1, units_deeper, Around.mark_units, depth_mark]); (try dsimp only [ktrTop]); omega))
local macro_rules | `(tactic| k_room) => `(tactic| ktr_room)
local macro_rules | `(tactic| k_enter) => `(tactic| (refine' code_defG ?ke1 ?ke2 ?ke3 ?ke4 ?ke5 ?keA ?keF ?keK ?ke6 ?ke7 ?ke8 ?ke9 ?keB ?_ ?ked2 ?ked3 ?ked4 ?ked5; (case keA => exact rfl); (case keF => exact rfl); (case keK => first | exact rfl | assumption); (case ke1 => k_asm); (case ke2 => k_asm); (case ke3 => k_asm); (case ke4 => k_asm); (case ke5 => k_asm); (case ke6 => k_is); (case ke7 => k_is); (case ke8 => ktr_room); (case ke9 => first | exact BindsTo.of_eq rfl | exact binds_K (by k_in) rfl (by k_is) rfl rfl rfl); (case ked5 => decide); (case keB => exact locs rfl); (case ked2 => exact rfl); (case ked3 => exact rfl); (case ked4 => exact rfl); intro g' L' h' FG' F' N' B' X' T' kG'; (try dsimp only); (try k_lift B'); (try k_fold)))
local macro_rules | `(tactic| ktr_unf) => `(tactic| repeat' (first | (k_unfold; (try dsimp only)) | (k_end; wrow_close) | ((fail_if_success (first  | (with_reducible show LCg.CompSrc _ _ _ _ _ _ _ _ _ _ _ _ _ _) | (with_reducible show LCg.CompEnd _ _ _ _ _ _ _ _ _ _ _ _ _ _) | (with_reducible show wpAny _ _ (eval (PySem.Expr.ListComp _ _ _ _) _) _ _ _) | (with_reducible show wpAny _ _ (exec (Stmt.Assign _ (PySem.Expr.ListComp _ _ _ _) _) _) _ _ _))); (first | walk1 | (dsimp only; walk1))) | fail "no step"))
local macro_rules | `(tactic| k_all) => `(tactic| (k_dflt assumption))
local macro_rules | `(tactic| walk_at "pad 0") => `(tactic| fail)
local macro_rules | `(tactic| walk_at "pad 1") => `(tactic| fail)
local macro_rules | `(tactic| walk_at "pad 2") => `(tactic| fail)
local macro_rules | `(tactic| walk_at "call ref") => `(tactic| (k_here; (with_reducible show wpAny _ _ (call (Value.ref 881) _) _ _ _); k_dflt ((refine' next_ruleU _ _ _ _ _ _ _ _ _ _ _ _ ?se1 ?se2 ?se3 ?se4 ?se5 ?se6 ?se7 ?se8 ?se9 ?sel (by assumption) ?sez ?seb ?sec ?sed ?see ?sef ?seg ?_; (case se1 => k_asm); (case se2 => k_asm); (case se3 => k_asm); (case se4 => k_asm); (case se5 => exact rfl); (case se6 => ktr_room); (case se7 => ktr_room); (case se8 => k_asm); (case se9 => k_updF); (case sel => first | k_mem | assumption); (case sez => first | assumption | omega); (case seb => omega); (case sec => omega); (case sed => omega); (case see => omega); (case sef => omega); (case seg => first | assumption | k_ne)); intro rq tq cq hq t1q t2q hpq tkq hr0 hr1 hc0 hh0 hh1 Fq Nq); (try dsimp only at Nq); (try k_sweep)))
local macro_rules | `(tactic| walk_at "call type:range") => `(tactic| (k_here; (with_reducible show wpAny _ _ (call (Value.type "range") [Value.int _ _]) _ _ _); k_dflt (refine range1_rows (by k_asm) (by k_asm) ?_); intro h' tk' t1' u1' v1' R' F' N' k'; (try k_sweep)))
local macro_rules | `(tactic| k_all) => `(tactic| (exact off_of (by assumption) (by simp)))
local macro_rules | `(tactic| k_ne) => `(tactic| first | (k_dflt assumption) | (refine Ne.symm ?_; k_dflt assumption) | (refine neN ?_; (try dsimp only); omega))
local macro_rules | `(tactic| walk_at "subscriptTail") => `(tactic| (k_here; (with_reducible show wpAny _ _ (subscriptTail _ _ (Value.ref 874) (Value.int _ _)) _ _ _); k_dflt (refine sign_item (by k_asm) (by k_asm) (by omega) (by omega) ?_ (by with_unfolding_all rfl) (by intro _; with_unfolding_all rfl)); intro c9 t9 hc9))
theorem law_t2 {w : World} {dp un : Nat} {gd : Option (List Code)} {L a : Addr} {ccd : Value} {A₀ : Around} {h₀ : Heap} {s : Shared} {Q : Flow → Shared → Prop} {E : Value → Shared → Prop}
    {p : Program} {loose : List Str} {mean : ExcName → Option Value} {mg mb : Str → Option Value} {outer : List Env} (c1 c2 l0 l st : Addr) (o1 o2 : Obj) (vs : List Value) (ns : List Int) (t1 t2 : Tok) (ep el : Nat) (c hh kind more many : Int) (tk1 tk2 tk3 : Tok)
    (B : Below A₀ h₀ outer h₀) (X : (K w.params).In h₀) (T : Top p loose mean mg mb h₀) (hd : dp + 100 < recursionLimit) (hu : un + 1000 < cLine)
    (F : Fr h₀ L s.heap (fun y => if y = S "many" then some (.int many tk3) else if y = S "more" then some (.int more tk2) else if y = S "kind" then some (.int kind tk1) else if y = S "script" then some (.ref l0) else none))
    (N : News h₀ L s.heap ((st, stObj l c hh t1 t2 ep) :: (l, lst vs el) :: (c2, o2) :: (c1, o1) :: [])) (ho2 : o2.data = .cell none) (ho1 : o1.data = .cell (some (.ref st))) (hc2 : @LT.lt Nat _ c1 c2) (hc3 : @LT.lt Nat _ c2 l) (hc4 : @LT.lt Nat _ l st)
    (hI : IntsAre vs ns) (hvl : vs.length ≤ 63) (hc : 0 ≤ c) (hh1 : 0 ≤ hh) (hh2 : hh < 2147483647) (hm1 : 1 ≤ many) (hm2 : many ≤ 8)
    (next : ∀ D ys ts css c' h' t1' t2' hp tk', TX [st, c2] ys ts css → (css.length : Int) = many → 0 ≤ c' → 0 ≤ h' → h' < 2147483647 → (∀ x ∈ [st, c2], @Ne Nat D x) → (∀ p ∈ ts, @Ne Nat p.1 D) →
      Fr h₀ L hp (fun y => if y = S "texts" then some (.ref D) else if y = S "many" then some (.int many tk3) else if y = S "more" then some (.int more tk2) else if y = S "kind" then some (.int kind tk1) else if y = S "script" then some (.ref l0) else none) → News h₀ L hp ((D, LCg.lst ys) :: (st, stObj l c' h' t1' t2' ep) :: (l, lst vs el) :: (c2, o2) :: (c1, o1) :: ts) →
      wpAny (model PySem.Challenge.rw_bl0008_01.row.prog w) (ktrTop dp un gd "law" lawScope L a ccd [(S "part", c2), (S "state", c1)] outer) (execs (lawBody.drop 5) (envX "law" lawScope L a ccd [(S "part", c2), (S "state", c1)])) Q E { s with heap := hp, toks := tk' }) :
    wpAny (model PySem.Challenge.rw_bl0008_01.row.prog w) (ktrTop dp un gd "law" lawScope L a ccd [(S "part", c2), (S "state", c1)] outer) (execs (lawBody.drop 4) (envX "law" lawScope L a ccd [(S "part", c2), (S "state", c1)])) Q E s := by
  obtain ⟨n, rfl⟩ := Int.eq_ofNat_of_zero_le (show 0 ≤ many by omega)
  revert X
  w_top off
  k_fill
  intro X
  conv in (occs := *) lawScope => all_goals whnf
  conv in (List.drop 4 lawBody) => whnf
  ktr_unf
  k_dflt (refine LCg.Assign_ListComp_U (F₀ := by k_asm) (by rfl) (by with_unfolding_all rfl) (by with_unfolding_all rfl) (by decide) (by rfl) (by decide) (by rfl) (by rfl) (by rfl) ?_)
  ktr_unf
  k_dflt (refine LCg.CompSrc.range (n := n) (by rfl) (by k_asm) (by k_asm) (by assumption) (small_one (by decide) (by decide) (by omega) (by omega)) (by unfold Builtin.Range.rangeSize; simp; omega) (by rw [sizeLine_eq]; omega) ?_)
  intro g'
  refine comp_ind (fun i ys news => ∃ ts css c' h' t1' t2', TX [st, c2] ys ts css ∧ ys.length = i ∧ news = (st, stObj l c' h' t1' t2' ep) :: (l, lst vs el) :: (c2, o2) :: (c1, o1) :: ts ∧ 0 ≤ c' ∧ 0 ≤ h' ∧ h' < 2147483647) n ?turn ?fin n 0 [] _ rfl ?start
  case start => exact ⟨[], [], c, hh, t1, t2, .nil, rfl, rfl, hc, hh1, hh2⟩
  case turn =>
    rintro i ys _ v I oI C oC D m₂ h tk E' hi ⟨ts, css, c', h', t1', t2', hT, hlen, rfl, a1, a2, a3⟩ ⟨tv, rfl⟩ hoC hx F9 N9 off n1 n2 n3
    have hA := hT.off
    obtain ⟨p0a, p0b, p0c⟩ := off (st, _) (.head _)
    obtain ⟨p1a, p1b, p1c⟩ := off (l, _) (.tail _ (.head _))
    obtain ⟨p2a, p2b, p2c⟩ := off (c2, _) (.tail _ (.tail _ (.head _)))
    obtain ⟨p3a, p3b, p3c⟩ := off (c1, _) (.tail _ (.tail _ (.tail _ (.head _))))
    k_dflt (refine LCg.ListComp_U (F₀ := by k_asm) (by with_unfolding_all rfl) (by decide) (by rfl) (by decide) (by rfl) ?_)
    ktr_unf
    rename_i rq tq cq hq t1q t2q hpq tkq hr0 hr1 hc0 hh0 hh9 hx9 tkx t1x u1x v1x R8 F8 N8 k8
    obtain ⟨k, rfl⟩ := Int.eq_ofNat_of_zero_le hr0
    k_dflt (refine LCg.CompSrc.range (n := k) (by rfl) (by k_asm) (by k_asm) R8 (small_one (by decide) (by decide) (by omega) (by omega)) (by unfold Builtin.Range.rangeSize; simp; omega) (by rw [sizeLine_eq]; omega) ?_)
    intro g2
    refine comp_ind (fun j zs news => ∃ (cs : List Nat) (c3 h3 : Int) (t3 t4 : Tok), StrsAre zs (cs.map one) ∧ zs.length = j ∧ (∀ c ∈ cs, Sign c) ∧ news = (I, oI) :: (C, oC) :: (D, LCg.lst ys) :: (st, stObj l c3 h3 t3 t4 ep) :: (l, lst vs el) :: (c2, o2) :: (c1, o1) :: ts ∧ 0 ≤ c3 ∧ 0 ≤ h3 ∧ h3 < 2147483647) k ?turn2 ?fin2 k 0 [] _ rfl ?start2
    case start2 => exact ⟨[], cq, hq, t1q, t2q, .nil, rfl, (fun c h => by cases h), rfl, hc0, hh0, hh9⟩
    case turn2 =>
      clear N8 F8 R8 k8
      rintro j zs _ v2 I2 oI2 C2 oC2 D2 m3 h3 tk3 E3 hj ⟨cs, c3, h3', t3, t4, hS, hzl, hsg, rfl, b1, b2, b3⟩ ⟨tv2, rfl⟩ hoC2 hx2 F7 N7 off2 n4 n5 n6
      have off3 : ∀ p ∈ (st, stObj l c3 h3' t3 t4 ep) :: (l, lst vs el) :: (c2, o2) :: (c1, o1) :: ts, p.1 ≠ I2 ∧ p.1 ≠ C2 ∧ p.1 ≠ D2 := fun p hp => off2 p (.tail _ (.tail _ (.tail _ hp)))
      obtain ⟨q0a, q0b, q0c⟩ := off3 (st, _) (.head _)
      obtain ⟨q1a, q1b, q1c⟩ := off3 (l, _) (.tail _ (.head _))
      obtain ⟨q2a, q2b, q2c⟩ := off3 (c2, _) (.tail _ (.tail _ (.head _)))
      obtain ⟨q3a, q3b, q3c⟩ := off3 (c1, _) (.tail _ (.tail _ (.tail _ (.head _))))
      obtain ⟨r0a, r0b, r0c⟩ := off2 (I, _) (.head _)
      obtain ⟨r1a, r1b, r1c⟩ := off2 (C, _) (.tail _ (.head _))
      obtain ⟨r2a, r2b, r2c⟩ := off2 (D, _) (.tail _ (.tail _ (.head _)))
      ktr_unf
      rename_i cq9 hq9 t1q9 t2q9 hp9 tk9 hr0 hr1 hc90 hh90 hh91 F5 N5 c9 t9 hc9
      refine LCg.CompEnd.intro F5 N5 ((I, oI) :: (C, oC) :: (D, LCg.lst ys) :: (st, stObj l cq9 hq9 t1q9 t2q9 ep) :: (l, lst vs el) :: (c2, o2) :: (c1, o1) :: ts) (fun p hp => hp) (LCg.Off3.of (off_set (pre := [(I, oI), (C, oC), (D, LCg.lst ys)]) (P := fun a => a ≠ I2 ∧ a ≠ C2 ∧ a ≠ D2) off2)) trivial ⟨cs ++ [c9], cq9, hq9, t1q9, t2q9, strs_snoc hS c9 t9, by simp [hzl], fun c hc => ?_, rfl, hc90, hh90, hh91⟩
      rcases List.mem_append.mp hc with hc | hc
      · exact hsg c hc
      · rw [List.mem_singleton.mp hc]; exact hc9
    case fin2 =>
      rintro zs _ ⟨cs, c3, h3, t3, t4, hS, hzl, hsg, rfl, b1, b2, b3⟩ D2 h4 tk4 F4 N4 o4
      have oD := off1_mem o4
      refine LCg.CompEnd.intro F4 N4 ((st, stObj l c3 h3 t3 t4 ep) :: (l, lst vs el) :: (c2, o2) :: (c1, o1) :: (D2, lst zs zs.length) :: ts) ?sub (LCg.Off3.of ?off) trivial ⟨(D2, lst zs zs.length) :: ts, css ++ [cs], c3, h3, t3, t4, .snoc D2 zs zs.length cs hT hS (by omega) hsg ?bad, by simp [hlen], rfl, b1, b2, b3⟩
      case sub => exact mem_mid ((I, oI) :: (C, oC) :: (D, LCg.lst ys) :: (st, stObj l c3 h3 t3 t4 ep) :: (l, lst vs el) :: (c2, o2) :: (c1, o1) :: [])
      case off => exact off_mid (P := fun a => a ≠ I ∧ a ≠ C ∧ a ≠ D) ((st, stObj l c3 h3 t3 t4 ep) :: (l, lst vs el) :: (c2, o2) :: (c1, o1) :: []) (off_set (pre := []) (P := fun a => a ≠ I ∧ a ≠ C ∧ a ≠ D) off) ⟨Ne.symm (oD (I, oI) (.head _)), Ne.symm (oD (C, oC) (.tail _ (.head _))), Ne.symm (oD (D, LCg.lst ys) (.tail _ (.tail _ (.head _))))⟩
      case bad =>
        intro x hx
        have z : ∀ p ∈ ((st, stObj l c3 h3 t3 t4 ep) :: (l, lst vs el) :: (c2, o2) :: (c1, o1) :: ts), p.1 ≠ D2 := fun p hp => oD p (.tail _ (.tail _ (.tail _ hp)))
        simp only [List.mem_cons, List.not_mem_nil, or_false] at hx
        rcases hx with rfl | rfl
        · exact Ne.symm (z (_, _) (.head _))
        · exact Ne.symm (z (_, _) (.tail _ (.tail _ (.head _))))
  case fin =>
    rintro ys _ ⟨ts, css, c', h', t1', t2', hT, hlen, rfl, a1, a2, a3⟩ D h4 tk4 F4 N4 o4
    have oD := off1_mem o4
    refine next D ys ts css c' h' t1' t2' h4 tk4 hT (by rw [← hT.len, hlen]) a1 a2 a3 ?bad (fun p hp => oD p (List.mem_append_right ((st, stObj l c' h' t1' t2' ep) :: (l, lst vs el) :: (c2, o2) :: (c1, o1) :: []) hp)) F4 N4
    intro x hx
    simp only [List.mem_cons, List.not_mem_nil, or_false] at hx
    rcases hx with rfl | rfl
    · exact Ne.symm (oD (_, _) (.head _))
    · exact Ne.symm (oD (_, _) (.tail _ (.tail _ (.head _))))
end BL
namespace BL
end BL
end
-- part LT3
section
set_option linter.unusedVariables false
open PySem PySem.W PySem.Spec PySem.Calls PyProof.Rows
set_option maxRecDepth 100000
set_option maxHeartbeats 8000000
set_option Elab.async false
namespace BL
local macro_rules | `(tactic| ktr_room) => `(tactic| ((try simp only [tc_depth, tc_units, depth_under_make, depth_under_kw, depth_in1, depth_deeper, units_in1, units_deeper, Around.mark_units, depth_mark]); (try dsimp only [ktrTop]); omega))
local macro_rules | `(tactic| k_room) => `(tactic| ktr_room)
local macro_rules | `(tactic| k_enter) => `(tactic| (refine' code_defG ?ke1 ?ke2 ?ke3 ?ke4 ?ke5 ?keA ?keF ?keK ?ke6 ?ke7 ?ke8 ?ke9 ?keB ?_ ?ked2 ?ked3 ?ked4 ?ked5; (case keA => exact rfl); (case keF => exact rfl); (case keK => first | exact rfl | assumption); (case ke1 => k_asm); (case ke2 => k_asm); (case ke3 => k_asm); (case ke4 => k_asm); (case ke5 => k_asm); (case ke6 => k_is); (case ke7 => k_is); (case ke8 => ktr_room); (case ke9 => first | exact BindsTo.of_eq rfl | exact binds_K (by k_in) rfl (by k_is) rfl rfl rfl); (case ked5 => decide); (case keB => exact locs rfl); (case ked2 => exact rfl); (case ked3 => exact rfl); (case ked4 => exact rfl); intro g' L' h' FG' F' N' B' X' T' kG'; (try dsimp only); (try k_lift B'); (try k_fold)))
local macro_rules | `(tactic| ktr_unf) => `(tactic| repeat' (first | (k_unfold; (try dsimp only)) | (k_end; wrow_close) | ((fail_if_success (with_reducible show wpAny _ _ (execs (Stmt.Assign _ (PySem.Expr.ListComp _ _ _ _) _ :: _) _) _ _ _)); (first | walk1 | (dsimp only; walk1))) | fail "no step"))
local macro_rules | `(tactic| walk_at "call ref") => `(tactic| (k_here; (with_reducible show wpAny _ _ (call (Value.ref 881) _) _ _ _); k_dflt ((refine' next_ruleU _ _ _ _ _ _ _ _ _ _ _ _ ?se1 ?se2 ?se3 ?se4 ?se5 ?se6 ?se7 ?se8 ?se9 ?sel (by assumption) ?sez ?seb ?sec ?sed ?see ?sef ?seg ?_; (case se1 => k_asm); (case se2 => k_asm); (case se3 => k_asm); (case se4 => k_asm); (case se5 => exact rfl); (case se6 => ktr_room); (case se7 => ktr_room); (case se8 => k_asm); (case se9 => k_updF); (case sel => first | k_mem | assumption); (case sez => first | assumption | omega); (case seb => omega); (case sec => omega); (case sed => omega); (case see => omega); (case sef => omega); (case seg => first | assumption | k_ne)); intro rq tq cq hq t1q t2q hpq tkq hr0 hr1 hc0 hh0 hh1 Fq Nq); (try dsimp only at Nq); (try k_sweep)))
local macro_rules | `(tactic| k_all) => `(tactic| (exact off_of (by assumption) (by simp)))
local macro_rules | `(tactic| k_ne) => `(tactic| first | (k_dflt assumption) | (refine Ne.symm ?_; k_dflt assumption) | (refine neN ?_; exact bad_ne (by k_dflt assumption) (by simp)) | (refine neN ?_; refine Ne.symm ?_; exact bad_ne (by k_dflt assumption) (by simp)) | (refine neN ?_; (try dsimp only); omega))
theorem law_t3 {w : World} {dp un : Nat} {gd : Option (List Code)} {L a : Addr} {ccd : Value} {A₀ : Around} {h₀ : Heap} {s : Shared} {Q : Flow → Shared → Prop} {E : Value → Shared → Prop}
    {p : Program} {loose : List Str} {mean : ExcName → Option Value} {mg mb : Str → Option Value} {outer : List Env} (c1 c2 l0 l st D : Addr) (o1 o2 : Obj) (vs : List Value) (ns : List Int) (t1 t2 : Tok) (ep el : Nat) (c hh kind more many : Int) (tk1 tk2 tk3 : Tok) (ys : List Value) (ts : List (Addr × Obj)) (css : List (List Nat))
    (B : Below A₀ h₀ outer h₀) (X : (K w.params).In h₀) (T : Top p loose mean mg mb h₀) (hd : dp + 100 < recursionLimit) (hu : un + 1000 < cLine)
    (F : Fr h₀ L s.heap (fun y => if y = S "texts" then some (.ref D) else if y = S "many" then some (.int many tk3) else if y = S "more" then some (.int more tk2) else if y = S "kind" then some (.int kind tk1) else if y = S "script" then some (.ref l0) else none))
    (N : News h₀ L s.heap ((D, LCg.lst ys) :: (st, stObj l c hh t1 t2 ep) :: (l, lst vs el) :: (c2, o2) :: (c1, o1) :: ts)) (ho2 : o2.data = .cell none) (ho1 : o1.data = .cell (some (.ref st))) (hc2 : @LT.lt Nat _ c1 c2) (hc3 : @LT.lt Nat _ c2 l) (hc4 : @LT.lt Nat _ l st)
    (hI : IntsAre vs ns) (hvl : vs.length ≤ 63) (hT : TX [st, c2] ys ts css) (hn : css.length ≤ 8) (hD : ∀ x ∈ [st, c2], @Ne Nat D x) (hDt : ∀ p ∈ ts, @Ne Nat p.1 D)
    (next : ∀ (pt : Nat) (tp : Tok) (o2 : Obj) h' tk', o2.data = .cell (some (.str (one pt) tp)) → (pt = if kind = 3 then 44 else 59) → Fr h₀ L h' (fun y => if y = S "texts" then some (.ref D) else if y = S "many" then some (.int many tk3) else if y = S "more" then some (.int more tk2) else if y = S "kind" then some (.int kind tk1) else if y = S "script" then some (.ref l0) else none) → News h₀ L h' ((D, LCg.lst ys) :: (st, stObj l c hh t1 t2 ep) :: (l, lst vs el) :: (c2, o2) :: (c1, o1) :: ts) → wpAny (model PySem.Challenge.rw_bl0008_01.row.prog w) (ktrTop dp un gd "law" lawScope L a ccd [(S "part", c2), (S "state", c1)] outer) (execs (lawBody.drop 6) (envX "law" lawScope L a ccd [(S "part", c2), (S "state", c1)])) Q E { s with heap := h', toks := tk' }) :
    wpAny (model PySem.Challenge.rw_bl0008_01.row.prog w) (ktrTop dp un gd "law" lawScope L a ccd [(S "part", c2), (S "state", c1)] outer) (execs (lawBody.drop 5) (envX "law" lawScope L a ccd [(S "part", c2), (S "state", c1)])) Q E s := by
  have hA := hT.off
  revert X
  w_top off
  k_fill
  intro X
  conv in (occs := *) lawScope => all_goals whnf
  conv in (List.drop 5 lawBody) => whnf
  ktr_unf
  · rename Fr h₀ L _ _ => F9
    rename News h₀ L _ _ => N9
    rename Obj.data _ = Data.cell (some (Value.str _ _)) => d9
    exact next 44 _ _ _ _ (comma_is ▸ d9) (by rw [if_pos (by assumption)]) F9 N9
  · rename Fr h₀ L _ _ => F9
    rename News h₀ L _ _ => N9
    rename Obj.data _ = Data.cell (some (Value.str _ _)) => d9
    exact next 59 _ _ _ _ (semi_is ▸ d9) (by rw [if_neg (by assumption)]) F9 N9
end BL
end
-- part LT4
section
set_option linter.unusedVariables false
open PySem PySem.W PySem.Spec PySem.Calls PyProof.Rows
set_option maxRecDepth 100000
set_option maxHeartbeats 8000000
set_option Elab.async false
namespace BL
local macro_rules | `(tactic| ktr_room) => `(tactic| ((try simp only [tc_depth, tc_units, depth_under_make, depth_under_kw, depth_in1, depth_deeper, units_in1, units_deeper, Around.mark_units, depth_mark]); (try dsimp only [ktrTop]); omega))
local macro_rules | `(tactic| k_room) => `(tactic| ktr_room)
local macro_rules | `(tactic| k_enter) => `(tactic| (refine' code_defG ?ke1 ?ke2 ?ke3 ?ke4 ?ke5 ?keA ?keF ?keK ?ke6 ?ke7 ?ke8 ?ke9 ?keB ?_ ?ked2 ?ked3 ?ked4 ?ked5; (case keA => exact rfl); (case keF => exact rfl); (case keK => first | exact rfl | assumption); (case ke1 => k_asm); (case ke2 => k_asm); (case ke3 => k_asm); (case ke4 => k_asm); (case ke5 => k_asm); (case ke6 => k_is); (case ke7 => k_is); (case ke8 => ktr_room); (case ke9 => first | exact BindsTo.of_eq rfl | exact binds_K (by k_in) rfl (by k_is) rfl rfl rfl); (case ked5 => decide); (case keB => exact locs rfl); (case ked2 => exact rfl); (case ked3 => exact rfl); (case ked4 => exact rfl); intro g' L' h' FG' F' N' B' X' T' kG'; (try dsimp only); (try k_lift B'); (try k_fold)))
local macro_rules | `(tactic| ktr_unf) => `(tactic| repeat' (first | (k_unfold; (try dsimp only)) | (k_end; wrow_close) | ((fail_if_success (first  | (with_reducible show LCg.CompSrc _ _ _ _ _ _ _ _ _ _ _ _ _ _) | (with_reducible show LCg.CompEnd _ _ _ _ _ _ _ _ _ _ _ _ _ _) | (with_reducible show wpAny _ _ (eval (PySem.Expr.ListComp _ _ _ _) _) _ _ _) | (with_reducible show wpAny _ _ (exec (Stmt.Assign _ (PySem.Expr.ListComp _ _ _ _) _) _) _ _ _))); (first | walk1 | (dsimp only; walk1))) | fail "no step"))
local macro_rules | `(tactic| k_all) => `(tactic| (k_dflt assumption))
local macro_rules | `(tactic| walk_at "pad 0") => `(tactic| fail)
local macro_rules | `(tactic| walk_at "pad 1") => `(tactic| fail)
local macro_rules | `(tactic| walk_at "pad 2") => `(tactic| fail)
local macro_rules | `(tactic| walk_at "call ref") => `(tactic| (k_here; (with_reducible show wpAny _ _ (call (Value.ref 881) _) _ _ _); k_dflt ((refine' next_ruleU _ _ _ _ _ _ _ _ _ _ _ _ ?se1 ?se2 ?se3 ?se4 ?se5 ?se6 ?se7 ?se8 ?se9 ?sel (by assumption) ?sez ?seb ?sec ?sed ?see ?sef ?seg ?_; (case se1 => k_asm); (case se2 => k_asm); (case se3 => k_asm); (case se4 => k_asm); (case se5 => exact rfl); (case se6 => ktr_room); (case se7 => ktr_room); (case se8 => k_asm); (case se9 => k_updF); (case sel => first | k_mem | assumption); (case sez => first | assumption | omega); (case seb => omega); (case sec => omega); (case sed => omega); (case see => omega); (case sef => omega); (case seg => first | assumption | k_ne)); intro rq tq cq hq t1q t2q hpq tkq hr0 hr1 hc0 hh0 hh1 Fq Nq); (try dsimp only at Nq); (try k_sweep)))
local macro_rules | `(tactic| k_all) => `(tactic| (exact off_of (by assumption) (by simp)))
local macro_rules | `(tactic| k_ne) => `(tactic| first | (k_dflt assumption) | (refine Ne.symm ?_; k_dflt assumption) | (refine neN ?_; exact bad_ne (by k_dflt assumption) (by simp)) | (refine neN ?_; refine Ne.symm ?_; exact bad_ne (by k_dflt assumption) (by simp)) | (refine neN ?_; (try dsimp only); omega))
local macro_rules | `(tactic| walk_at "call builtin:str.join") => `(tactic| (k_here; (with_reducible show wpAny _ _ (call (Value.builtin _) [Value.str _ _, Value.ref _]) _ _ _); k_dflt (refine join_listW (News.isList (by k_asm) (by assumption)) (by assumption) (by first | assumption | decide +kernel) (by assumption) ?_); intro tj kj))
theorem one_sum (cs : List Nat) : ((cs.map one).map (·.length)).sum = cs.length := by
  induction cs with
  | nil => rfl
  | cons c r ih => simp only [List.map_cons, List.sum_cons, List.length_cons, ih]; show 1 + r.length = r.length + 1; omega
theorem ofL_of {x : Str} {l : List Nat} (h : x.cps.toList = l) : x = ofL l := by
  subst h
  show x = ⟨x.cps.toList.toArray⟩
  simp
theorem flat_one_list (cs : List Nat) : flat (cs.map one) = cs := by
  induction cs with
  | nil => rfl
  | cons c r ih => show (one c).cps.toList ++ flat (r.map one) = _; rw [ih]; rfl
theorem join_ofL (cs : List Nat) : Txt.join (Str.ofString "") (cs.map one) = ofL cs := ofL_of ((join_empty _).trans (flat_one_list cs))
theorem take_at {α : Type} {l : List α} {i : Nat} {a : α} (h : l[i]? = some a) : l.take (i + 1) = l.take i ++ [a] := by
  rw [List.take_add_one, h]; rfl
theorem law_t4 {w : World} {dp un : Nat} {gd : Option (List Code)} {L a : Addr} {ccd : Value} {A₀ : Around} {h₀ : Heap} {s : Shared} {Q : Flow → Shared → Prop} {E : Value → Shared → Prop}
    {p : Program} {loose : List Str} {mean : ExcName → Option Value} {mg mb : Str → Option Value} {outer : List Env} (c1 c2 l0 l st D : Addr) (o1 o2 : Obj) (vs : List Value) (ns : List Int) (t1 t2 : Tok) (ep el : Nat) (c hh kind more many : Int) (tk1 tk2 tk3 : Tok) (ys : List Value) (ts : List (Addr × Obj)) (css : List (List Nat)) (pt : Nat) (tp : Tok)
    (B : Below A₀ h₀ outer h₀) (X : (K w.params).In h₀) (T : Top p loose mean mg mb h₀) (hd : dp + 100 < recursionLimit) (hu : un + 1000 < cLine)
    (F : Fr h₀ L s.heap (fun y => if y = S "texts" then some (.ref D) else if y = S "many" then some (.int many tk3) else if y = S "more" then some (.int more tk2) else if y = S "kind" then some (.int kind tk1) else if y = S "script" then some (.ref l0) else none))
    (N : News h₀ L s.heap ((D, LCg.lst ys) :: (st, stObj l c hh t1 t2 ep) :: (l, lst vs el) :: (c2, o2) :: (c1, o1) :: ts)) (ho2 : o2.data = .cell (some (.str (one pt) tp))) (ho1 : o1.data = .cell (some (.ref st))) (hc2 : @LT.lt Nat _ c1 c2) (hc3 : @LT.lt Nat _ c2 l) (hc4 : @LT.lt Nat _ l st)
    (hI : IntsAre vs ns) (hvl : vs.length ≤ 63) (hT : TX [st, c2] ys ts css) (hn : css.length ≤ 8) (hD : ∀ x ∈ [st, c2], @Ne Nat D x) (hDt : ∀ p ∈ ts, @Ne Nat p.1 D)
    (next : ∀ (Df : Addr) (fvs : List Value) h' tk', StrsAre fvs (css.map ofL) → (∀ x ∈ D :: [st, c2], @Ne Nat Df x) → (∀ p ∈ ts, @Ne Nat p.1 Df) → Fr h₀ L h' (fun y => if y = S "fields" then some (.ref Df) else if y = S "texts" then some (.ref D) else if y = S "many" then some (.int many tk3) else if y = S "more" then some (.int more tk2) else if y = S "kind" then some (.int kind tk1) else if y = S "script" then some (.ref l0) else none) → News h₀ L h' ((Df, LCg.lst fvs) :: (D, LCg.lst ys) :: (st, stObj l c hh t1 t2 ep) :: (l, lst vs el) :: (c2, o2) :: (c1, o1) :: ts) → wpAny (model PySem.Challenge.rw_bl0008_01.row.prog w) (ktrTop dp un gd "law" lawScope L a ccd [(S "part", c2), (S "state", c1)] outer) (execs (lawBody.drop 7) (envX "law" lawScope L a ccd [(S "part", c2), (S "state", c1)])) Q E { s with heap := h', toks := tk' }) :
    wpAny (model PySem.Challenge.rw_bl0008_01.row.prog w) (ktrTop dp un gd "law" lawScope L a ccd [(S "part", c2), (S "state", c1)] outer) (execs (lawBody.drop 6) (envX "law" lawScope L a ccd [(S "part", c2), (S "state", c1)])) Q E s := by
  have hA := hT.off
  revert X
  w_top off
  k_fill
  intro X
  conv in (occs := *) lawScope => all_goals whnf
  conv in (List.drop 6 lawBody) => whnf
  ktr_unf
  k_dflt (refine LCg.Assign_ListComp_U (F₀ := by k_asm) (by rfl) (by with_unfolding_all rfl) (by with_unfolding_all rfl) (by decide) (by rfl) (by decide) (by rfl) (by rfl) (by rfl) ?_)
  ktr_unf
  have hyl := hT.len
  k_dflt (refine LCg.CompSrc.ledger (its := ys.toArray) (k := ys.length) (news := (D, LCg.lst ys) :: (st, stObj l c hh t1 t2 ep) :: (l, lst vs el) :: (c2, o2) :: (c1, o1) :: ts) (by rfl) (by k_asm) (by k_asm) (.head _) (by rw [List.size_toArray, sizeLine_eq]; omega) ?_)
  intro g'
  refine comp_ind (fun i zs news => StrsAre zs ((css.take i).map ofL) ∧ zs.length = i ∧ news = (D, LCg.lst ys) :: (st, stObj l c hh t1 t2 ep) :: (l, lst vs el) :: (c2, o2) :: (c1, o1) :: ts) ys.toArray.size ?turn ?fin ys.toArray.size 0 [] _ rfl ?start
  case start => exact ⟨.nil, rfl, rfl⟩
  case turn =>
    rintro i zs _ v I oI C oC Dz m₂ h tk E' hi ⟨hZ, hlen, rfl⟩ hv hoC hx F9 N9 off n1 n2 n3
    obtain ⟨a2, vt, et, cs, rfl, hmem, hcs, hS, hl3, hsg⟩ := hT.at (i := i) (v := v) (by simpa using hv)
    have hM : (a2, lst vt et) ∈ (I, oI) :: (C, oC) :: (Dz, LCg.lst zs) :: (D, LCg.lst ys) :: (st, stObj l c hh t1 t2 ep) :: (l, lst vs el) :: (c2, o2) :: (c1, o1) :: ts := List.mem_append_right ((I, oI) :: (C, oC) :: (Dz, LCg.lst zs) :: (D, LCg.lst ys) :: (st, stObj l c hh t1 t2 ep) :: (l, lst vs el) :: (c2, o2) :: (c1, o1) :: []) hmem
    have hS2 : StrsAre vt.toArray.toList (cs.map one) := by simpa using hS
    have hcl : cs.length ≤ 3 := by have := strsAre_len hS; rw [List.length_map] at this; omega
    have hw : ((cs.map one).map (·.length)).sum + (cs.map one).length ≤ 1048576 := by
      have e : ((cs.map one).map (·.length)).sum = cs.length := one_sum cs
      rw [e, List.length_map]; omega
    ktr_unf
    refine LCg.CompEnd.intro F9 N9 ((D, LCg.lst ys) :: (st, stObj l c hh t1 t2 ep) :: (l, lst vs el) :: (c2, o2) :: (c1, o1) :: ts) (fun p hp => hp) (LCg.Off3.of off) (.inr ⟨_, .head _, rfl, _, rfl⟩) ⟨?_, by simp [hlen], rfl⟩
    rw [join_ofL, take_at hcs, List.map_append]
    exact strsAre_snoc hZ _ _
  case fin =>
    rintro zs _ ⟨hZ, hlen, rfl⟩ Df h4 tk4 F4 N4 o4
    have oD := off1_mem o4
    rw [List.take_of_length_le (by rw [List.size_toArray]; omega)] at hZ
    refine next Df zs h4 tk4 hZ ?bad (fun p hp => oD p (List.mem_append_right ((D, LCg.lst ys) :: (st, stObj l c hh t1 t2 ep) :: (l, lst vs el) :: (c2, o2) :: (c1, o1) :: []) hp)) F4 N4
    intro x hx
    simp only [List.mem_cons, List.not_mem_nil, or_false] at hx
    rcases hx with rfl | rfl | rfl
    · exact Ne.symm (oD (_, _) (.head _))
    · exact Ne.symm (oD (_, _) (.tail _ (.head _)))
    · exact Ne.symm (oD (_, _) (.tail _ (.tail _ (.tail _ (.head _)))))
end BL
namespace BL
end BL
end
-- part WrU
section
set_option linter.unusedVariables false
open PySem PySem.W PySem.Spec PySem.Calls PyProof.Rows
set_option maxRecDepth 100000
set_option maxHeartbeats 8000000
set_option Elab.async false
namespace BL
theorem written_ruleU {w : World} {dp un : Nat} {gd : Option (List Code)} {cn : Str} {cs : Scope} {L a : Addr} {ccd : Value} {cl : List (Str × Addr)} {outer : List Env} {A₀ : Around} {base h₀ : Heap} {m : Str → Option Value} {s : Shared} {Q E : Value → Shared → Prop}
    {p : Program} {loose : List Str} {mean : ExcName → Option Value} {mg mb : Str → Option Value} {news : List (Addr × Obj)} {g : Obj → List (Addr × Obj)} (st l tx : Addr) (c hh : Int) (t1 t2 : Tok) (ep el et : Nat) (vs vt : List Value) (ns : List Int) (cs0 : List Nat) (pt : Nat) (tp : Tok)
    (B : Below A₀ base outer h₀) (F : Fr h₀ L s.heap m) (X : (K w.params).In h₀) (T : Top p loose mean mg mb h₀) (hk : cs.kind = .function) (hd : dp + 12 < recursionLimit) (hu : un + 100 < cLine)
    (N : News h₀ L s.heap news) (U : UpdF st (stObj l c hh t1 t2 ep) news g) (hl : (l, lst vs el) ∈ news) (hI : IntsAre vs ns) (hvl : vs.length ≤ 63) (hc : 0 ≤ c) (hh1 : 0 ≤ hh) (hh2 : hh < 2147483647) (hne : l ≠ st)
    (hx : (tx, lst vt et) ∈ news) (hxs : tx ≠ st) (hS : StrsAre vt (cs0.map one)) (hvt : vt.length ≤ 3) (hpt : pt = 59 ∨ pt = 44)
    (ret : ∀ (o : Str) t' c' h'' t1' t2' hp tk', W pt cs0 o.cps.toList → o.length ≤ 6 → 0 ≤ c' → 0 ≤ h'' → h'' < 2147483647 → Fr h₀ L hp m → News h₀ L hp (g (stObj l c' h'' t1' t2' ep)) → Q (.str o t') { s with heap := hp, toks := tk' }) :
    wpAny (model PySem.Challenge.rw_bl0008_01.row.prog w) (ktrTop dp un gd cn cs L a ccd cl outer) (call (.ref 888) [.ref st, .ref tx, .str (one pt) tp]) Q E s := by
  obtain ⟨own, rest, rfl, hgr, h1, h2⟩ := U.split
  have hm : (st, stObj l c hh t1 t2 ep) ∈ own ++ (st, stObj l c hh t1 t2 ep) :: rest := List.mem_append_right _ (.head _)
  have N1 : News h₀ L s.heap ((st, stObj l c hh t1 t2 ep) :: (own ++ rest)) := fun p hp => by
    rcases List.mem_cons.mp hp with rfl | hp
    · exact N _ hm
    · rcases List.mem_append.mp hp with hp | hp
      · exact N _ (List.mem_append_left _ hp)
      · exact N _ (List.mem_append_right _ (.tail _ hp))
  have off : ∀ p ∈ own ++ rest, p.1 ≠ st := fun p hp => by
    rcases List.mem_append.mp hp with hp | hp
    · exact h1 p hp
    · exact h2 p hp
  refine written_call (rest := own ++ rest) st l tx c hh t1 t2 ep el et vs vt ns cs0 pt tp B F X T hk hd hu N1 off (N _ hl).1 hI hvl hc hh1 hh2 hne (N _ hx).1 hxs hS hvt hpt fun o t' c' h'' t1' t2' hp tk' w0 w1 c0 h0 h1' F' N' hk => ret o t' c' h'' t1' t2' hp tk' w0 w1 c0 h0 h1' F' ?_
  rw [hgr]
  intro p hp
  rcases List.mem_append.mp hp with hp | hp
  · exact N' p (.tail _ (List.mem_append_left _ hp))
  · rcases List.mem_cons.mp hp with rfl | hp
    · exact N' _ (.head _)
    · exact N' p (.tail _ (List.mem_append_right _ hp))
theorem Ws.snoc {p : Nat} {ts os : List (List Nat)} (h : Ws p ts os) {t o : List Nat} (hw : W p t o) : Ws p (ts ++ [t]) (os ++ [o]) := by
  induction h with
  | nil => exact .cons hw .nil
  | cons h1 _ ih => exact .cons h1 ih
theorem join_cps (p : Nat) (ys : List Str) : (Txt.join (one p) ys).cps.toList = joinL p (cpsL ys) := by
  unfold Txt.join
  rw [StrLaws.glued_eq_join]
  induction ys with
  | nil => rfl
  | cons y r ih =>
    cases r with
    | nil => simp [Str.join, cpsL, joinL]
    | cons z r =>
      show ((y ++ (one p)) ++ Str.join (one p) (z :: r)).cps.toList = _
      rw [Str.cps_append, Str.cps_append, Array.toList_append, Array.toList_append, ih]
      simp [cpsL, joinL, one]
theorem joinL_len (p : Nat) : ∀ (l : List (List Nat)) {n : Nat}, (∀ x ∈ l, x.length ≤ n) → (joinL p l).length ≤ l.length * (n + 1)
  | [], _, _ => Nat.zero_le _
  | [x], n, h => by have := h x (.head _); simp [joinL]; omega
  | x :: y :: r, n, h => by
    have h1 := h x (.head _)
    have h2 := joinL_len p (y :: r) (n := n) (fun z hz => h z (.tail _ hz))
    simp only [joinL, List.length_append, List.length_cons] at h2 ⊢
    rw [Nat.add_mul (r.length + 1) 1 (n + 1)]
    omega
theorem sum_le {l : List Str} {n : Nat} (h : ∀ x ∈ l, x.length ≤ n) : (l.map (·.length)).sum ≤ l.length * n := by
  induction l with
  | nil => simp
  | cons x r ih =>
    have h1 := h x (.head _)
    have h2 := ih (fun z hz => h z (.tail _ hz))
    simp only [List.map_cons, List.sum_cons, List.length_cons, Nat.add_mul]
    omega
end BL
end
-- part LT5
section
set_option linter.unusedVariables false
open PySem PySem.W PySem.Spec PySem.Calls PyProof.Rows
set_option maxRecDepth 100000
set_option maxHeartbeats 8000000
set_option Elab.async false
namespace BL
local macro_rules | `(tactic| ktr_room) => `(tactic| ((try simp only [tc_depth, tc_units, depth_under_make, depth_under_kw, depth_in1, depth_deeper, units_in1, units_deeper, Around.mark_units, depth_mark]); (try dsimp only [ktrTop]); omega))
local macro_rules | `(tactic| k_room) => `(tactic| ktr_room)
local macro_rules | `(tactic| k_enter) => `(tactic| (refine' code_defG ?ke1 ?ke2 ?ke3 ?ke4 ?ke5 ?keA ?keF ?keK ?ke6 ?ke7 ?ke8 ?ke9 ?keB ?_ ?ked2 ?ked3 ?ked4 ?ked5; (case keA => exact rfl); (case keF => exact rfl); (case keK => first | exact rfl | assumption); (case ke1 => k_asm); (case ke2 => k_asm); (case ke3 => k_asm); (case ke4 => k_asm); (case ke5 => k_asm); (case ke6 => k_is); (case ke7 => k_is); (case ke8 => ktr_room); (case ke9 => first | exact BindsTo.of_eq rfl | exact binds_K (by k_in) rfl (by k_is) rfl rfl rfl); (case ked5 => decide); (case keB => exact locs rfl); (case ked2 => exact rfl); (case ked3 => exact rfl); (case ked4 => exact rfl); intro g' L' h' FG' F' N' B' X' T' kG'; (try dsimp only); (try k_lift B'); (try k_fold)))
local macro_rules | `(tactic| ktr_unf) => `(tactic| repeat' (first | (k_unfold; (try dsimp only)) | (k_end; wrow_close) | ((fail_if_success (first | (with_reducible show wpAny _ _ (execs (Stmt.Try _ _ _ _ _ :: _) _) _ _ _) | (with_reducible show LCg.CompSrc _ _ _ _ _ _ _ _ _ _ _ _ _ _) | (with_reducible show LCg.CompEnd _ _ _ _ _ _ _ _ _ _ _ _ _ _) | (with_reducible show wpAny _ _ (eval (PySem.Expr.ListComp _ _ _ _) _) _ _ _) | (with_reducible show wpAny _ _ (exec (Stmt.Assign _ (PySem.Expr.ListComp _ _ _ _) _) _) _ _ _))); (first | walk1 | (dsimp only; walk1))) | fail "no step"))
local macro_rules | `(tactic| k_all) => `(tactic| (k_dflt assumption))
local macro_rules | `(tactic| walk_at "pad 0") => `(tactic| fail)
local macro_rules | `(tactic| walk_at "call ref") => `(tactic| (k_here; (with_reducible show wpAny _ _ (call (Value.ref 881) _) _ _ _); k_dflt ((refine' next_ruleU _ _ _ _ _ _ _ _ _ _ _ _ ?se1 ?se2 ?se3 ?se4 ?se5 ?se6 ?se7 ?se8 ?se9 ?sel (by assumption) ?sez ?seb ?sec ?sed ?see ?sef ?seg ?_; (case se1 => k_asm); (case se2 => k_asm); (case se3 => k_asm); (case se4 => k_asm); (case se5 => exact rfl); (case se6 => ktr_room); (case se7 => ktr_room); (case se8 => k_asm); (case se9 => k_updF); (case sel => first | k_mem | assumption); (case sez => first | assumption | omega); (case seb => omega); (case sec => omega); (case sed => omega); (case see => omega); (case sef => omega); (case seg => first | assumption | k_ne)); intro rq tq cq hq t1q t2q hpq tkq hr0 hr1 hc0 hh0 hh1 Fq Nq); (try dsimp only at Nq); (try k_sweep)))
local macro_rules | `(tactic| k_all) => `(tactic| (exact off_of (by assumption) (by simp)))
local macro_rules | `(tactic| k_ne) => `(tactic| first | (k_dflt assumption) | (refine Ne.symm ?_; k_dflt assumption) | (refine neN ?_; exact bad_ne (by k_dflt assumption) (by simp)) | (refine neN ?_; refine Ne.symm ?_; exact bad_ne (by k_dflt assumption) (by simp)) | (refine neN ?_; (try dsimp only); omega))
local macro_rules | `(tactic| walk_at "call builtin:str.join") => `(tactic| (k_here; (with_reducible show wpAny _ _ (call (Value.builtin _) [Value.str _ _, Value.ref _]) _ _ _); k_dflt (refine join_listW (News.isList (by k_asm) (by assumption)) (by assumption) (by first | assumption | decide +kernel) (by assumption) ?_); intro tj kj))
local macro_rules | `(tactic| walk_at "call ref") => `(tactic| (k_here; (with_reducible show wpAny _ _ (call (Value.ref 888) _) _ _ _); k_dflt ((refine' written_ruleU _ _ _ _ _ _ _ _ _ _ _ _ _ _ _ _ ?wr1 ?wr2 ?wr3 ?wr4 ?wr5 ?wr6 ?wr7 ?wr8 ?wr9 ?wrl (by assumption) ?wrz ?wrb ?wrc ?wrd ?wre ?wrf ?wrg ?wrh ?wri ?wrj ?_; (case wr1 => k_asm); (case wr2 => k_asm); (case wr3 => k_asm); (case wr4 => k_asm); (case wr5 => exact rfl); (case wr6 => ktr_room); (case wr7 => ktr_room); (case wr8 => k_asm); (case wr9 => k_updF); (case wrl => first | k_mem | assumption); (case wrz => first | assumption | omega); (case wrb => omega); (case wrc => omega); (case wrd => omega); (case wre => first | assumption | k_ne); (case wrf => assumption); (case wrg => first | assumption | k_ne); (case wrh => assumption); (case wri => assumption); (case wrj => assumption)); intro oq tq cq hq t1q t2q hpq tkq hW hol hc0 hh0 hh1 Fq Nq); (try dsimp only at Nq); (try k_sweep)))
theorem law_t5 {w : World} {dp un : Nat} {gd : Option (List Code)} {L a : Addr} {ccd : Value} {A₀ : Around} {h₀ : Heap} {s : Shared} {Q : Flow → Shared → Prop} {E : Value → Shared → Prop}
    {p : Program} {loose : List Str} {mean : ExcName → Option Value} {mg mb : Str → Option Value} {outer : List Env} (c1 c2 l0 l st D : Addr) (o1 o2 : Obj) (vs : List Value) (ns : List Int) (t1 t2 : Tok) (ep el : Nat) (c hh kind more many : Int) (tk1 tk2 tk3 : Tok) (ys : List Value) (ts : List (Addr × Obj)) (css : List (List Nat)) (pt : Nat) (tp : Tok) (Df : Addr) (fvs : List Value)
    (B : Below A₀ h₀ outer h₀) (X : (K w.params).In h₀) (T : Top p loose mean mg mb h₀) (hd : dp + 100 < recursionLimit) (hu : un + 1000 < cLine)
    (F : Fr h₀ L s.heap (fun y => if y = S "fields" then some (.ref Df) else if y = S "texts" then some (.ref D) else if y = S "many" then some (.int many tk3) else if y = S "more" then some (.int more tk2) else if y = S "kind" then some (.int kind tk1) else if y = S "script" then some (.ref l0) else none))
    (N : News h₀ L s.heap ((Df, LCg.lst fvs) :: (D, LCg.lst ys) :: (st, stObj l c hh t1 t2 ep) :: (l, lst vs el) :: (c2, o2) :: (c1, o1) :: ts)) (ho2 : o2.data = .cell (some (.str (one pt) tp))) (hpt : pt = 59 ∨ pt = 44) (hc0 : 0 ≤ c) (hh1 : 0 ≤ hh) (hh2 : hh < 2147483647) (ho1 : o1.data = .cell (some (.ref st))) (hc2 : @LT.lt Nat _ c1 c2) (hc3 : @LT.lt Nat _ c2 l) (hc4 : @LT.lt Nat _ l st)
    (hI : IntsAre vs ns) (hvl : vs.length ≤ 63) (hT : TX [st, c2] ys ts css) (hn : css.length ≤ 8) (hD : ∀ x ∈ [st, c2], @Ne Nat D x) (hDt : ∀ p ∈ ts, @Ne Nat p.1 D) (hDf : ∀ x ∈ D :: [st, c2], @Ne Nat Df x) (hDft : ∀ p ∈ ts, @Ne Nat p.1 Df)
    (next : ∀ (out : Str) (to : Tok) (os : List (List Nat)) h' tk', Ws pt css os → out.cps.toList = joinL pt os → out.length ≤ 100 → Fr h₀ L h' (fun y => if y = S "out" then some (.str out to) else if y = S "fields" then some (.ref Df) else if y = S "texts" then some (.ref D) else if y = S "many" then some (.int many tk3) else if y = S "more" then some (.int more tk2) else if y = S "kind" then some (.int kind tk1) else if y = S "script" then some (.ref l0) else none) → News h₀ L h' ((Df, LCg.lst fvs) :: [(c2, o2)]) → wpAny (model PySem.Challenge.rw_bl0008_01.row.prog w) (ktrTop dp un gd "law" lawScope L a ccd [(S "part", c2), (S "state", c1)] outer) (execs (lawBody.drop 8) (envX "law" lawScope L a ccd [(S "part", c2), (S "state", c1)])) Q E { s with heap := h', toks := tk' }) :
    wpAny (model PySem.Challenge.rw_bl0008_01.row.prog w) (ktrTop dp un gd "law" lawScope L a ccd [(S "part", c2), (S "state", c1)] outer) (execs (lawBody.drop 7) (envX "law" lawScope L a ccd [(S "part", c2), (S "state", c1)])) Q E s := by
  have hA := hT.off
  revert X
  w_top off
  k_fill
  intro X
  conv in (occs := *) lawScope => all_goals whnf
  conv in (List.drop 7 lawBody) => whnf
  ktr_unf
  k_dflt (refine LCg.ListComp_U (F₀ := by k_asm) (by with_unfolding_all rfl) (by decide) (by rfl) (by decide) (by rfl) ?_)
  ktr_unf
  have hyl := hT.len
  k_dflt (refine LCg.CompSrc.ledger (its := ys.toArray) (k := ys.length) (news := (Df, LCg.lst fvs) :: (D, LCg.lst ys) :: (st, stObj l c hh t1 t2 ep) :: (l, lst vs el) :: (c2, o2) :: (c1, o1) :: ts) (by rfl) (by k_asm) (by k_asm) (.tail _ (.head _)) (by rw [List.size_toArray, sizeLine_eq]; omega) ?_)
  intro g'
  refine comp_ind (fun i zs news => ∃ (os : List Str) (c' h' : Int) (t1' t2' : Tok), StrsAre zs os ∧ zs.length = i ∧ Ws pt (css.take i) (cpsL os) ∧ (∀ o ∈ os, o.length ≤ 6) ∧ news = (Df, LCg.lst fvs) :: (D, LCg.lst ys) :: (st, stObj l c' h' t1' t2' ep) :: (l, lst vs el) :: (c2, o2) :: (c1, o1) :: ts ∧ 0 ≤ c' ∧ 0 ≤ h' ∧ h' < 2147483647) ys.toArray.size ?turn ?fin ys.toArray.size 0 [] _ rfl ?start
  case start => exact ⟨[], c, hh, t1, t2, .nil, rfl, .nil, (fun o h => by cases h), rfl, hc0, hh1, hh2⟩
  case turn =>
    rintro i zs _ v I oI C oC Dz m₂ h tk E' hi ⟨os, c', h', t1', t2', hZ, hlen, hWs, ho6, rfl, b1, b2, b3⟩ hv hoC hx F9 N9 off n1 n2 n3
    obtain ⟨a2, vt, et, cs, rfl, hmem, hcs, hS, hl3, hsg⟩ := hT.at (i := i) (v := v) (by simpa using hv)
    have hM : (a2, lst vt et) ∈ (I, oI) :: (C, oC) :: (Dz, LCg.lst zs) :: (Df, LCg.lst fvs) :: (D, LCg.lst ys) :: (st, stObj l c' h' t1' t2' ep) :: (l, lst vs el) :: (c2, o2) :: (c1, o1) :: ts := List.mem_append_right ((I, oI) :: (C, oC) :: (Dz, LCg.lst zs) :: (Df, LCg.lst fvs) :: (D, LCg.lst ys) :: (st, stObj l c' h' t1' t2' ep) :: (l, lst vs el) :: (c2, o2) :: (c1, o1) :: []) hmem
    have hxs : a2 ≠ st := hA _ hmem st (.head _)
    obtain ⟨z1, z2, z3⟩ := off (Df, _) (.head _)
    obtain ⟨z4, z5, z6⟩ := off (D, _) (.tail _ (.head _))
    have off2 : ∀ p ∈ (st, stObj l c' h' t1' t2' ep) :: (l, lst vs el) :: (c2, o2) :: (c1, o1) :: ts, p.1 ≠ I ∧ p.1 ≠ C ∧ p.1 ≠ Dz := fun p hp => off p (.tail _ (.tail _ hp))
    obtain ⟨p0a, p0b, p0c⟩ := off2 (st, _) (.head _)
    obtain ⟨p1a, p1b, p1c⟩ := off2 (l, _) (.tail _ (.head _))
    obtain ⟨p2a, p2b, p2c⟩ := off2 (c2, _) (.tail _ (.tail _ (.head _)))
    obtain ⟨p3a, p3b, p3c⟩ := off2 (c1, _) (.tail _ (.tail _ (.tail _ (.head _))))
    ktr_unf
    rename Fr h₀ L _ _ => Fq
    rename News h₀ L _ _ => Nq
    rename W pt cs _ => hW
    rename _ ≤ 6 => hol
    refine LCg.CompEnd.intro Fq Nq _ (fun p hp => hp) (LCg.Off3.of (off_set (pre := [(Df, LCg.lst fvs), (D, LCg.lst ys)]) (P := fun a => a ≠ I ∧ a ≠ C ∧ a ≠ Dz) off)) (.inr ⟨_, .tail _ (.head _), rfl, _, rfl⟩) ⟨os ++ [_], _, _, _, _, strsAre_snoc hZ _ _, by simp [hlen], ?_, fun o ho => ?_, rfl, by assumption, by assumption, by assumption⟩
    · rw [take_at hcs, cpsL_snoc]
      exact hWs.snoc hW
    · rcases List.mem_append.mp ho with ho | ho
      · exact ho6 o ho
      · rw [List.mem_singleton.mp ho]; exact hol
  case fin =>
    rintro zs _ ⟨os, c', h', t1', t2', hZ, hlen, hWs, ho6, rfl, b1, b2, b3⟩ Dw h4 tk4 F4 N4 o4
    rw [List.take_of_length_le (by rw [List.size_toArray]; omega)] at hWs
    have hZl := strsAre_len hZ
    have hol : os.length ≤ 8 := by rw [← hZl, hlen, List.size_toArray]; omega
    have hs6 := sum_le ho6
    have hZ2 : StrsAre zs.toArray.toList os := by simpa using hZ
    have hw : (os.map (·.length)).sum + os.length ≤ 1048576 := by omega
    have hM : (Dw, LCg.lst zs) ∈ (Dw, LCg.lst zs) :: (Df, LCg.lst fvs) :: (D, LCg.lst ys) :: (st, stObj l c' h' t1' t2' ep) :: (l, lst vs el) :: (c2, o2) :: (c1, o1) :: ts := .head _
    have hone : (one pt).length ≤ 16 := by show 1 ≤ 16; omega
    ktr_unf
    rename Fr h₀ L _ _ => F9
    rename News h₀ L _ _ => N9
    refine next (Txt.join (one pt) os) _ (cpsL os) _ _ hWs (join_cps pt os) ?_ F9 (fun p hp => N9 p ?_)
    · have e1 := joinL_len pt (cpsL os) (n := 6) (fun x hx => by
        obtain ⟨y, hy, rfl⟩ := List.mem_map.mp hx
        exact ho6 y hy)
      rw [← join_cps, cpsL, List.length_map] at e1
      have e2 : (Txt.join (one pt) os).length ≤ os.length * (6 + 1) := e1
      omega
    · rcases List.mem_cons.mp hp with rfl | hp
      · exact .tail _ (.head _)
      · rcases List.mem_cons.mp hp with rfl | hp
        · exact .tail _ (.tail _ (.tail _ (.tail _ (.tail _ (.head _)))))
        · cases hp
end BL
namespace BL
end BL
end
-- part C4
section
set_option linter.unusedVariables false
open PySem PySem.W PySem.Spec PySem.Calls PyProof.Rows
set_option maxRecDepth 100000
set_option maxHeartbeats 8000000
set_option Elab.async false
namespace BL
local macro_rules | `(tactic| walk_at "pad 0") => `(tactic| fail)
local macro_rules | `(tactic| walk_at "call builtin:list.append") => `(tactic| (k_here; (with_reducible show wpAny _ _ (call (Value.builtin _) [Value.ref _, _]) _ _ _); k_dflt (refine' append_K ?k1 ?k2 ?k3 ?_ ?z; (case k1 => k_asm); (case k2 => k_asm); (case k3 => k_upd); (case z => first | size_fits | (rw [List.size_toArray, sizeLine_eq]; omega)); k_whole); intro h' F' N'; (try k_sweep)))
local macro_rules | `(tactic| walk_at "call builtin:str.join") => `(tactic| (k_here; (with_reducible show wpAny _ _ (call (Value.builtin _) [Value.str _ _, Value.ref _]) _ _ _); k_dflt (refine join_listW (News.isList (by k_asm) (List.Mem.head _)) (by assumption) (by decide +kernel) (by assumption) ?_); intro tj kj))
theorem unesc_call {w : World} {dp un : Nat} {gd : Option (List Code)} {cn : Str} {cs : Scope} {L a : Addr} {ccd : Value} {cl : List (Str × Addr)} {outer : List Env} {A₀ : Around} {base h₀ : Heap} {m : Str → Option Value} {s : Shared} {Q E : Value → Shared → Prop}
    {p : Program} {loose : List Str} {mean : ExcName → Option Value} {mg mb : Str → Option Value} (x : Str) (t : Tok)
    (B : Below A₀ base outer h₀) (F : Fr h₀ L s.heap m) (X : (K w.params).In h₀) (T : Top p loose mean mg mb h₀) (hk : cs.kind = .function) (hd : dp + 5 < recursionLimit) (hu : un + 40 < cLine) (hx : x.length ≤ 1000)
    (ret : ∀ y t' h' tk', y.cps.toList = unescL x.cps.toList → InElt s.heap h' → Q (.str y t') { s with heap := h', toks := tk' }) :
    wpAny (model PySem.Challenge.rw_bl0008_01.row.prog w) (ktrTop dp un gd cn cs L a ccd cl outer) (call (.ref 326) [.str x t]) Q E s := by
  revert X
  w_top off
  k_fill
  intro X
  have N : News h₀ L s.heap [] := News.nil
  refine wpAny_call ?_
  k_dflt (refine' code_defG ?k1 ?k2 ?k3 ?k4 ?k5 ?kA ?kF ?kK ?k6 ?k7 ?k8 ?k9 ?kB ?_ ?c2 ?c3 ?c4 ?c5; (case kA => exact rfl); (case kF => exact rfl); (case kK => assumption); (case k1 => k_asm); (case k2 => k_asm); (case k3 => k_asm); (case k4 => k_asm); (case k5 => k_asm); (case k6 => k_is); (case k7 => k_is); (case k8 => ktr_room); (case k9 => exact BindsTo.of_eq rfl); (case c5 => decide); (case kB => exact locs rfl); (case c2 => exact rfl); (case c3 => exact rfl); (case c4 => exact rfl))
  intro g' L' h' FG' F' N' B' X' T' kG'
  (try dsimp only)
  iterate 16 (first | (k_unfold; (try dsimp only)) | (k_end; wrow_close) | walk1 | (dsimp only; walk1))
  all_goals try dsimp only at *
  rename_i FF NN
  refine While_inv2 (fun n m₁ news₁ => ∃ (l : Addr) (tk : Tok) (j ep : Nat) (vs : List Value) (ys : List Str), m₁ (S "val") = some (.str x t) ∧ m₁ (S "i") = some (.int (j : Int) tk) ∧ m₁ (S "result") = some (.ref l) ∧ news₁ = [(l, lst vs ep)] ∧ j ≤ x.length ∧ vs.length ≤ j ∧ StrsAre vs ys ∧ flat ys ++ unescL (x.cps.toList.drop j) = unescL x.cps.toList ∧ n = x.length - j) (n₀ := x.length) FF NN ?_ ?_ ?_
  · refine ⟨_, _, 0, 0, [], [], rfl, rfl, rfl, rfl, Nat.zero_le _, Nat.le_refl _, .nil, rfl, rfl⟩
  · rintro n m₁ news₁ h₁ tk₁ F₁ N₁ ⟨l, tk, j, ep, vs, ys, hv, hi, hr, rfl, hj, hts, hS, hfl, rfl⟩
    have F₂ := fr3 F₁ hr hi hv
    clear F₁ hv hi hr FF NN
    have hw : (ys.map (·.length)).sum + ys.length ≤ 1048576 := by
      have q1 := unescL_len x.cps.toList
      rw [← hfl, List.length_append, flat_len] at q1
      have q2 := strsAre_len hS
      have q3 : x.cps.toList.length = x.length := Array.length_toList
      omega
    (try dsimp only)
    (try k_fold)
    k_steps
    all_goals first
      | (unfold WhileStep2
         dsimp only
         refine ⟨_, _, _, _, x.length - (j + 1), rfl, by assumption, by assumption, by omega, l, _, j + 1, ep + 1, _, ys ++ [Txt.item x (j : Int)], rfl, rfl, rfl, congrArg (fun o => [(l, o)]) (lst_push vs (.str (Txt.item x (j : Int)) _) (ep + 1)), by omega, by rw [List.length_append]; simp only [List.length_cons, List.length_nil]; omega, strsAre_snoc hS _ _, ?_, rfl⟩
         rw [flat_snoc, List.append_assoc, ← un_one (by omega) (fun b1 b2 => by first | assumption | (exfalso; omega) | (rw [‹(Txt.item x (j : Int) == Str.ofString "\\") = false›] at b1; cases b1)), hfl])
      | (unfold WhileStep2
         dsimp only
         refine ⟨_, _, _, _, x.length - (j + 2), rfl, by assumption, by assumption, by omega, l, _, j + 2, ep + 1, _, ys ++ [Txt.item x ((j : Int) + 1)], rfl, rfl, rfl, congrArg (fun o => [(l, o)]) (lst_push vs (.str (Txt.item x ((j : Int) + 1)) _) (ep + 1)), by omega, by rw [List.length_append]; simp only [List.length_cons, List.length_nil]; omega, strsAre_snoc hS _ _, ?_, rfl⟩
         have u := un_two (x := x) (j := j) (b := true) (by omega) (by assumption) (by assumption) (by assumption) (by assumption)
         rw [if_pos rfl] at u
         rw [flat_snoc, List.append_assoc, ← u, hfl])
      | (unfold WhileStep2
         dsimp only
         refine ⟨_, _, _, _, x.length - (j + 2), rfl, by assumption, by assumption, by omega, l, _, j + 2, ep + 1, _, ys ++ [Str.ofString "\n"], rfl, rfl, rfl, congrArg (fun o => [(l, o)]) (lst_push vs (.str (Str.ofString "\n") _) (ep + 1)), by omega, by rw [List.length_append]; simp only [List.length_cons, List.length_nil]; omega, strsAre_snoc hS _ _, ?_, rfl⟩
         have u := un_two (x := x) (j := j) (b := false) (by omega) (by assumption) (by assumption) (by assumption) (by assumption)
         rw [if_neg (by decide)] at u
         rw [flat_snoc, nl_is, List.append_assoc, ← u, hfl])
      | (refine ret _ _ _ _ ?_ (fun b o e => Fr.keep (by assumption) b o (kG' b o e (by simp)))
         have hj2 : x.cps.toList.drop j = [] := List.drop_eq_nil_of_le (by rw [Array.length_toList]; have hl : x.length = x.cps.size := rfl; omega)
         rw [hj2] at hfl
         rw [join_empty, ← hfl]
         exact (List.append_nil _).symm)
      | (trace_state; fail "an end")
  · passes_own
end BL
end
-- part C5
section
set_option linter.unusedVariables false
open PySem PySem.W PySem.Spec PySem.Calls PyProof.Rows
set_option maxRecDepth 100000
set_option maxHeartbeats 8000000
set_option Elab.async false
namespace BL
local macro_rules | `(tactic| walk_at "pad 0") => `(tactic| fail)
local macro_rules | `(tactic| walk_at "pad 1") => `(tactic| fail)
local macro_rules | `(tactic| walk_at "pad 2") => `(tactic| fail)
local macro_rules | `(tactic| walk_at "pad 3") => `(tactic| fail)
local macro_rules | `(tactic| walk_at "pad 4") => `(tactic| fail)
local macro_rules | `(tactic| walk_at "call builtin:list.append") => `(tactic| (k_here; (with_reducible show wpAny _ _ (call (Value.builtin _) [Value.ref _, _]) _ _ _); k_dflt (refine' append_K ?k1 ?k2 ?k3 ?_ ?z; (case k1 => k_asm); (case k2 => k_asm); (case k3 => k_upd); (case z => first | size_fits | (rw [List.size_toArray, sizeLine_eq]; omega)); k_whole); intro h' F' N'; (try k_sweep)))
local macro_rules | `(tactic| walk_at "call builtin:str.join") => `(tactic| (k_here; (with_reducible show wpAny _ _ (call (Value.builtin _) [Value.str _ _, Value.ref _]) _ _ _); k_dflt (refine join_listW (News.isList (by k_asm) (List.Mem.head _)) (by assumption) (by decide +kernel) (by assumption) ?_); intro tj kj))

local macro_rules | `(tactic| walk_at "call ref") => `(tactic| (k_here; k_dflt (refine' unesc_call _ _ ?un1 ?un2 ?un3 ?un4 ?un5 ?un6 ?un7 ?un8 ?_; (case un1 => k_asm); (case un2 => k_asm); (case un3 => k_asm); (case un4 => k_asm); (case un5 => exact rfl); (case un6 => (dsimp only [ktrTop, Around.deeper]; omega)); (case un7 => (dsimp only [ktrTop, Around.deeper]; omega)); (case un8 => (rw [join_len]; omega))); intro yu tu hu9 tku hyu hku; (have Fu := Fr.keeps (by k_asm) hku); (have Nu := News.grown (by k_asm) hku); (try k_sweep)))
local macro_rules | `(tactic| ktr_unf) => `(tactic| repeat' (first | (k_unfold; (try dsimp only)) | (k_end; wrow_close) | ((fail_if_success (with_reducible show wpAny _ _ (exec (Stmt.While _ _ _ _) _) _ _ _)); (first | walk1 | (dsimp only; walk1))) | fail "no step"))
theorem semi_call {w : World} {dp un : Nat} {gd : Option (List Code)} {cn : Str} {cs : Scope} {L a : Addr} {ccd : Value} {cl : List (Str × Addr)} {outer : List Env} {A₀ : Around} {base h₀ : Heap} {m : Str → Option Value} {s : Shared} {Q E : Value → Shared → Prop}
    {p : Program} {loose : List Str} {mean : ExcName → Option Value} {mg mb : Str → Option Value} (x : Str) (t : Tok)
    (B : Below A₀ base outer h₀) (F : Fr h₀ L s.heap m) (X : (K w.params).In h₀) (T : Top p loose mean mg mb h₀) (hk : cs.kind = .function) (hd : dp + 10 < recursionLimit) (hu : un + 80 < cLine) (hx : x.length ≤ 1000)
    (ret : ∀ l vs ep ys h' tk', StrsAre vs ys → cpsL ys = splitGo 59 [] x.cps.toList → h'.get? l = some (lst vs ep) → s.heap.get? l = none → InElt s.heap h' → Q (.ref l) { s with heap := h', toks := tk' }) :
    wpAny (model PySem.Challenge.rw_bl0008_01.row.prog w) (ktrTop dp un gd cn cs L a ccd cl outer) (call (.ref 340) [.str x t]) Q E s := by
  revert X
  w_top off
  k_fill
  intro X
  have N : News h₀ L s.heap [] := News.nil
  refine wpAny_call ?_
  k_dflt (refine' code_defG ?k1 ?k2 ?k3 ?k4 ?k5 ?kA ?kF ?kK ?k6 ?k7 ?k8 ?k9 ?kB ?_ ?c2 ?c3 ?c4 ?c5; (case kA => exact rfl); (case kF => exact rfl); (case kK => assumption); (case k1 => k_asm); (case k2 => k_asm); (case k3 => k_asm); (case k4 => k_asm); (case k5 => k_asm); (case k6 => k_is); (case k7 => k_is); (case k8 => ktr_room); (case k9 => exact BindsTo.of_eq rfl); (case c5 => decide); (case kB => exact locs rfl); (case c2 => exact rfl); (case c3 => exact rfl); (case c4 => exact rfl))
  intro g' L' h' FG' F' N' B' X' T' kG'
  (try dsimp only)
  ktr_unf
  all_goals try dsimp only at *
  · rename_i FF NN
    refine While_inv2 (fun n m₁ news₁ => ∃ (lr lc : Addr) (tk : Tok) (j er ec : Nat) (vr vc : List Value) (yr yc : List Str), m₁ (S "text") = some (.str x t) ∧ m₁ (S "i") = some (.int (j : Int) tk) ∧ m₁ (S "result") = some (.ref lr) ∧ m₁ (S "current") = some (.ref lc) ∧ news₁ = [(lc, lst vc ec), (lr, lst vr er)] ∧ @LT.lt Nat _ lr lc ∧ j ≤ x.length ∧ vr.length ≤ j ∧ vc.length ≤ j ∧ (flat yc).length ≤ j ∧ StrsAre vr yr ∧ StrsAre vc yc ∧ cpsL yr ++ splitGo 59 (flat yc) (x.cps.toList.drop j) = splitGo 59 [] x.cps.toList ∧ n = x.length - j) (n₀ := x.length) FF NN ?_ ?_ ?_
    · refine ⟨_, _, _, 0, 0, 0, [], [], [], [], rfl, rfl, rfl, rfl, rfl, by omega, Nat.zero_le _, Nat.le_refl _, Nat.le_refl _, Nat.le_refl _, .nil, .nil, rfl, rfl⟩
    · rintro n m₁ news₁ h₁ tk₁ F₁ N₁ ⟨lr, lc, tk, j, er, ec, vr, vc, yr, yc, hv, hi, hr, hc, rfl, hlt, hj, htr, htc, hfc, hR, hC, hsp, rfl⟩
      have F₂ := fr4 F₁ hr hc hi hv
      clear F₁ hv hi hr hc FF NN
      have hw := weigh hC htc hfc hj hx
      (try dsimp only)
      (try k_fold)
      k_steps
      all_goals first
        | (unfold WhileStep2
           dsimp only
           refine ⟨_, _, _, _, x.length - (j + 1), rfl, by assumption, by assumption, by omega, lr, lc, _, j + 1, er, ec + 1, vr, _, yr, yc ++ [Txt.item x (j : Int)], rfl, rfl, rfl, rfl, congrArg (fun o => [(lc, o), (lr, lst vr er)]) (lst_push vc (.str (Txt.item x (j : Int)) _) (ec + 1)), hlt, by omega, by omega, by rw [List.length_append]; simp only [List.length_cons, List.length_nil]; omega, by rw [flat_snoc, List.length_append, item_len]; omega, hR, strsAre_snoc hC _ _, ?_, rfl⟩
           rw [flat_snoc, ← sp_one (by omega) (fun b1 b2 => by first | (exfalso; omega) | (rw [‹(Txt.item x (j : Int) == Str.ofString "\\") = false›] at b1; cases b1)) (by rw [← semi_is]; assumption), hsp])
        | (unfold WhileStep2
           dsimp only
           refine ⟨_, _, _, _, x.length - (j + 2), rfl, by assumption, by assumption, by omega, lr, lc, _, j + 2, er, ec + 1 + 1, vr, _, yr, yc ++ [Txt.item x (j : Int), Txt.item x ((j : Int) + 1)], rfl, rfl, rfl, rfl, congrArg (fun o => [(lc, o), (lr, lst vr er)]) (lst_push2 vc (.str (Txt.item x (j : Int)) _) (.str (Txt.item x ((j : Int) + 1)) _) (ec + 1 + 1)), hlt, by omega, by omega, by rw [List.length_append]; simp only [List.length_cons, List.length_nil]; omega, by rw [flat_snoc2, List.length_append, List.length_append, item_len, item_len]; omega, hR, strsAre_snoc2 hC _ _ _ _, ?_, rfl⟩
           rw [flat_snoc2, ← sp_two (by omega) (by assumption) (by assumption), hsp])
        | (unfold WhileStep2
           dsimp only
           have hq := ‹_ = unescL (Txt.join (Str.ofString "") yc).cps.toList›
           refine ⟨_, _, _, _, x.length - (j + 1), rfl, by assumption, drop_mid (by assumption), by omega, lr, _, _, j + 1, er + 1, 0, _, [], yr ++ [_], [], rfl, rfl, rfl, rfl, rfl, by omega, by omega, by rw [List.length_append]; simp only [List.length_cons, List.length_nil]; omega, Nat.zero_le _, Nat.zero_le _, strsAre_snoc hR _ _, .nil, ?_, rfl⟩
           rw [cpsL_snoc, hq, join_empty, List.append_assoc]
           rw [sp_part (by decide) (by omega) (by rw [← semi_is]; assumption)] at hsp
           exact hsp)
        | skip
      rename_i yu tu hu9 tku hq hku h9 F9 hN tk9 kF kN Tc
      have hz := drop_end (x := x) (j := j) (by assumption)
      rw [hz, splitGo] at hsp
      refine ret lr _ _ (yr ++ [yu]) _ _ (strsAre_snoc hR yu tu) ?_ ((hN _ (List.Mem.tail _ (List.Mem.head _))).1.trans (congrArg some (lst_push vr _ _))) (fresh_of kG' (hN _ (List.Mem.tail _ (List.Mem.head _))).2.2 (by simp)) (inElt_of kG' (by assumption))
      rw [cpsL_snoc, hq, join_empty]
      exact hsp
    · passes_own
  · rename_i hN l1 kF kN Tc kX
    have hz : x.cps.toList = [] := by
      have q : (x.length : Int) = 0 := by assumption
      have hl : x.cps.toList.length = x.length := Array.length_toList
      exact List.length_eq_zero_iff.mp (by omega)
    refine ret _ [Value.str (Str.ofString "") _] 0 [Str.ofString ""] _ _ (.cons _ _ .nil) ?_ (hN _ (List.Mem.head _)).1 (fresh_of kG' (hN _ (List.Mem.head _)).2.2 (by simp)) (inElt_of kG' (by assumption))
    rw [hz]
    decide +kernel
end BL
end
-- part L2
section
set_option linter.unusedVariables false
open PySem PySem.W PySem.Spec PySem.Calls PyProof.Rows
set_option maxRecDepth 100000
set_option maxHeartbeats 8000000
set_option Elab.async false
namespace BL
local macro_rules | `(tactic| k_enter) => `(tactic| (refine' code_defG ?ke1 ?ke2 ?ke3 ?ke4 ?ke5 ?keA ?keF ?keK ?ke6 ?ke7 ?ke8 ?ke9 ?keB ?_ ?ked2 ?ked3 ?ked4 ?ked5; (case keA => exact rfl); (case keF => exact rfl); (case keK => first | exact rfl | assumption); (case ke1 => k_asm); (case ke2 => k_asm); (case ke3 => k_asm); (case ke4 => k_asm); (case ke5 => k_asm); (case ke6 => k_is); (case ke7 => k_is); (case ke8 => (dsimp only [ktrTop, Around.deeper]; omega)); (case ke9 => first | exact BindsTo.of_eq rfl | exact binds_K (by k_in) rfl (by k_is) rfl rfl rfl); (case ked5 => decide); (case keB => exact locs rfl); (case ked2 => exact rfl); (case ked3 => exact rfl); (case ked4 => exact rfl); intro g' L' h' FG' F' N' B' X' T' kG'; (try dsimp only); (try k_lift B'); (try k_fold)))
local macro_rules | `(tactic| walk_at "call ref") => `(tactic| (k_here; (with_reducible show wpAny _ _ (call (Value.ref 340) _) _ _ _); k_dflt ((refine' semi_call _ _ ?se1 ?se2 ?se3 ?se4 ?se5 ?se6 ?se7 ?se8 ?_; (case se1 => k_asm); (case se2 => k_asm); (case se3 => k_asm); (case se4 => k_asm); (case se5 => exact rfl); (case se6 => (dsimp only [ktrTop, Around.deeper]; omega)); (case se7 => (dsimp only [ktrTop, Around.deeper]; omega)); (case se8 => omega)); intro lq vq eq9 yq hq9 tkq hSq hcq hgq hfq hkq; (have Nq := news_in (by k_asm) (by k_asm) hfq hgq hkq); (have Fq := Fr.keeps (by k_asm) hkq); (have hlq := strs_len hSq hcq)); (try k_sweep)))
local macro_rules | `(tactic| walk_at "call type:tuple") => `(tactic| (k_here; (with_reducible show wpAny _ _ (call (Value.type "tuple") [Value.ref _]) _ _ _); k_dflt (refine' kde_tupleOf ?tu1 ?tu2 (News.isList ?tu3 (List.Mem.head _)) ?tu4 rfl ?_; (case tu1 => k_asm); (case tu2 => k_asm); (case tu3 => k_asm); (case tu4 => (rw [List.size_toArray]; omega))); intro D9 h9 F9 N9 l9; (try dsimp only); (try k_sweep)))
theorem org_call {w : World} {dp un : Nat} {gd : Option (List Code)} {cn : Str} {cs : Scope} {L a : Addr} {ccd : Value} {cl : List (Str × Addr)} {outer : List Env} {A₀ : Around} {base h₀ : Heap} {m : Str → Option Value} {s : Shared} {Q E : Value → Shared → Prop}
    {p : Program} {loose : List Str} {mean : ExcName → Option Value} {mg mb : Str → Option Value} (x : Str) (t : Tok)
    (B : Below A₀ base outer h₀) (F : Fr h₀ L s.heap m) (X : (K w.params).In h₀) (T : Top p loose mean mg mb h₀) (hk : cs.kind = .function) (hd : dp + 20 < recursionLimit) (hu : un + 160 < cLine) (hx : x.length ≤ 1000)
    (ret : ∀ l vs ys h' tk', StrsAre vs ys → cpsL ys = splitGo 59 [] x.cps.toList → h'.get? l = some { cls := .type "tuple", data := .seq vs.toArray } → s.heap.get? l = none → InElt s.heap h' → Q (.ref l) { s with heap := h', toks := tk' }) :
    wpAny (model PySem.Challenge.rw_bl0008_01.row.prog w) (ktrTop dp un gd cn cs L a ccd cl outer) (call (.ref 832) [.str x t]) Q E s := by
  revert X
  w_top off
  k_fill
  intro X
  have N : News h₀ L s.heap [] := News.nil
  refine wpAny_call ?_
  k_dflt k_enter
  k_steps
  rename_i D9 h9 F9 N9 l9 kF kN Tc kX
  rename GSub s.heap _ _ => kG
  rename StrsAre _ _ => hS
  rename cpsL _ = _ => hc
  exact ret _ _ _ _ _ hS hc (N9 _ (List.Mem.head _)).1 (fresh_of kG (N9 _ (List.Mem.head _)).2.2 (by simp)) (inElt_of kG F9)
end BL
end
-- part Sub
section
set_option linter.unusedVariables false
open PySem PySem.W PySem.Spec PySem.Calls PyProof.Rows Builtin
set_option maxRecDepth 100000
set_option maxHeartbeats 4000000
namespace BL
/-- an obj of a class over tuple -/
def IsSub (h : Heap) (t C : Addr) (items : Array Value) : Prop := ∃ o, h.get? t = some o ∧ o.cls = .ref C ∧ ∃ n, o.data = .seq items n
theorem IsSub.keeps {h h' : Heap} {t C : Addr} {items : Array Value} (x : IsSub h t C items) (k : ∀ o, h.get? t = some o → h'.get? t = some o) : IsSub h' t C items := let ⟨o, e, r⟩ := x; ⟨o, k o e, r⟩
theorem IsSub.here {h₀ h : Heap} {L t C : Addr} {items : Array Value} {d : Option Addr} {n : Nat} {sl : Array (Option Value)} {news : List (Addr × Obj)} (N : News h₀ L h ((t, { cls := .ref C, dict := d, data := .seq items n, slots := sl }) :: news)) : IsSub h t C items :=
  ⟨_, (N _ (List.Mem.head _)).1, rfl, n, rfl⟩
/-- what is looked up in a class over tuple -/
structure SubT (M : Model) (h : Heap) (C : Addr) : Prop where
  sub : Looks M h (isSubtype (.ref C) (.type "tuple")) true
  iter : Looks M h (typeLookup (.ref C) "__iter__") (some (.builtin "tuple.__iter__"))
  len : Looks M h (typeLookup (.ref C) "__len__") (some (.builtin "tuple.__len__"))
theorem SubT.keeps {M : Model} {h h' : Heap} {C : Addr} (x : SubT M h C) (k : ∀ b o, h.get? b = some o → h'.get? b = some o) : SubT M h' C := ⟨x.sub.keeps k, x.iter.keeps k, x.len.keeps k⟩
section
variable {prog : Program} {w : World} {A : Around} {E : Value → Shared → Prop} {s : Shared} {C t : Addr} {items : Array Value}
theorem IsSub.ty {M : Model} {h : Heap} (x : IsSub h t C items) : Looks M h (typeOf (.ref t)) (.ref C) := by
  obtain ⟨o, e, c, _⟩ := x
  rw [← c]
  exact (Looks.ld e).andThen .now
theorem kind_titer : builtinKind "tuple.__iter__" = some .slot := by decide +kernel
theorem split_titer : splitId "tuple.__iter__" = some ("tuple", "__iter__") := by decide +kernel
theorem kind_tlen : builtinKind "tuple.__len__" = some .slot := by decide +kernel
theorem split_tlen : splitId "tuple.__len__" = some ("tuple", "__len__") := by decide +kernel
theorem sub_iter {Q : Value → Shared → Prop} (Y : SubT (model prog w) s.heap C) (x : IsSub s.heap t C items)
    (h : Q (.ref s.heap.objs.size) { s with heap := s.heap.push { cls := .type "tuple_iterator", data := .fields #[.ref t, .int 0 0] } }) :
    wpAny (model prog w) A (pyIter (.ref t)) Q E s := by
  obtain ⟨hp, g, d, tk, os⟩ := s
  have ty := x.ty (M := model prog w)
  have sp : Looks (model prog w) hp (specialOf (.ref t) "__iter__") (some (.builtin "tuple.__iter__")) := ty.andThen Y.iter
  have ins : Looks (model prog w) hp (isInstance (.ref t) (.type "tuple")) true := ty.andThen Y.sub
  have fin : ∀ A', wpAny (model prog w) A' (call (.builtin "tuple.__iter__") [.ref t]) (fun it s' => ∃ T' r, s'.TypeIs it T' ∧ typeLookup (.type T') "__next__" = pure (some r) ∧ Q it s') E ⟨hp, g, d, tk, os⟩ := by
    intro A'
    refine wpAny_call (codeAny_call_builtin F.slot_tuple_iter.plain F.entry_tuple_iter (@check_slot (model prog w) _ _ _ "tuple.__iter__" "tuple" "__iter__" (.ref t) [] [] _ kind_titer split_titer ins (F.args_tuple_iter_1 _) ?_))
    show wpAny _ _ (do ret (← newFields "tuple_iterator" [.ref t, rawInt 0])) _ _ _
    exact wpAny_bind (wpAny_newObj_type (wpAny_pure ⟨"tuple_iterator", _, ⟨_, Heap.get?_push_size _ rfl, rfl⟩, F.slot_tuple_iterator_next.lookup, h⟩))
  unfold pyIter
  refine wpAny_bind (sp.at ?_)
  show wpAny _ _ (callSpecialIfBoundUnlessNone? (.ref t) "__iter__" _ >>= _) _ _ _
  refine wpAny_bind (wpAny_mono (Q := fun r s' => ∃ v, r = some v ∧ ∃ T' r', s'.TypeIs v T' ∧ typeLookup (.type T') "__next__" = pure (some r') ∧ Q v s') (E := E) ?_ ?_ fun _ _ z => z)
  · simp only [callSpecialIfBoundUnlessNone?, bindSpecialIfBound?]
    refine wpAny_holding (wpAny_bind (wpAny_bind (sp.at ?_)))
    simp only [F.slot_tuple_iter.bind]
    refine wpAny_bind (wpAny_askSetting (wpAny_ite ?_))
    have fin2 : wpAny (model prog w) A (call (.builtin "tuple.__iter__") [.ref t] >>= fun v => pure (some v)) (fun r s' => ∃ v, r = some v ∧ ∃ T' r', s'.TypeIs v T' ∧ typeLookup (.type T') "__next__" = pure (some r') ∧ Q v s') E ⟨hp, g, d, tk, os⟩ :=
      wpAny_bind (wpAny_mono (fin A) (fun v s' z => wpAny_pure ⟨v, rfl, z⟩) fun _ _ z => z)
    split
    · exact wpAny_bind (wpAny_pure (wpAny_pure fin2))
    · exact wpAny_tryCatch (wpAny_bind (wpAny_pure (wpAny_pure fin2)))
  · rintro r s' ⟨v, rfl, T', r', hT, hl, hq⟩
    exact wpAny_bind (wpAny_specialOf hT hl (wpAny_pure hq))
theorem sub_len {Q : Value → Shared → Prop} (Y : SubT (model prog w) s.heap C) (x : IsSub s.heap t C items) (hz : items.size ≤ 1000)
    (h : ∀ u tk', Q (.int items.size u) { s with toks := tk' }) :
    wpAny (model prog w) A (call (.builtin "len") [.ref t]) Q E s := by
  obtain ⟨hp, g, d, tk, os⟩ := s
  have ty := x.ty (M := model prog w)
  have sp : Looks (model prog w) hp (specialOf (.ref t) "__len__") (some (.builtin "tuple.__len__")) := ty.andThen Y.len
  have ins : Looks (model prog w) hp (isInstance (.ref t) (.type "tuple")) true := ty.andThen Y.sub
  refine Calls.call_function_entry kind_len plain_len entry_len (args_len1 _) ?_
  unfold Builtin.«len»
  refine wpAny_bind (m := oneArg "len" _) (wpAny_pure ?_)
  unfold callSpecial?
  refine wpAny_bind (wpAny_bind (sp.at (wpAny_holding ?_)))
  rw [F.slot_tuple_len.bind]
  refine wpAny_bind (wpAny_pure (wpAny_bind (wpAny_call (codeAny_call_builtin F.slot_tuple_len.plain F.entry_tuple_len (@check_slot (model prog w) _ _ _ "tuple.__len__" "tuple" "__len__" (.ref t) [] [] _ kind_tlen split_tlen ins (F.args_tuple_len_1 _) ?_)))))
  obtain ⟨o, ho, hc, n, hd⟩ := x
  show wpAny _ _ (Tuple.tupleItemsOf (.ref t) >>= fun r => retInt r.size) _ _ _
  unfold Tuple.tupleItemsOf
  refine wpAny_bind (wpAny_bind (wpAny_seqItems ho hd (wpAny_pure ?_)))
  refine wpAny_bind (wpAny_mkInt (wpAny_pure ?_))
  refine wpAny_pure ?_
  refine wpAny_bind (wpAny_holding (wpAny_pure ?_))
  refine wpAny_bind (wpAny_letGo ?_)
  show wpAny _ _ (if (items.size : Int) < 0 then _ else _) _ _ _
  rw [if_neg (by omega)]
  show wpAny _ _ (if (items.size : Int) ≥ 2 ^ 63 then _ else _) _ _ _
  rw [if_neg (by omega)]
  exact wpAny_bind (wpAny_mkInt (wpAny_pure ⟨_, rfl, h _ _⟩))
theorem sub_next {I : Addr} {i : Nat} {v : Value} {Q : Option Value → Shared → Prop} (hit : s.heap.IsTupleIter I t i) (x : IsSub s.heap t C items) (hv : items[i]? = some v)
    (h : ∀ h', h'.IsTupleIter I t (i + 1) → Heap.SameBut I s.heap h' → Q (some v) { s with heap := h' }) : wpAny (model prog w) A (pyNext (.ref I)) Q E s := by
  obtain ⟨oi, hoi, hci, hdi⟩ := id hit
  obtain ⟨o, ho, _, n, hd⟩ := x
  have z : ∀ A', wpAny (model prog w) A' (call (.builtin "tuple_iterator.__next__") [.ref I]) (fun r s' => r = v ∧ Q (some v) s') (fun _ _ => False) s := by
    intro A'
    refine wpAny_call_entry F.slot_tuple_iterator_next hit.typeIs F.entry_tuple_iterator_next ?_ (F.args_tuple_iterator_next_1 _)
    show wpAny _ _ (field (.ref I) 0 >>= _) _ _ s
    refine wpAny_bind (wpAny_field hoi hdi (x := .ref t) rfl ?_)
    show wpAny _ _ (if (Value.ref t == Value.none) = true then _ else _) _ _ s
    rw [if_neg (show ¬ ((Value.ref t == Value.none) = true) from Bool.false_ne_true)]
    show wpAny _ _ (field (.ref I) 1 >>= _) _ _ s
    refine wpAny_bind (wpAny_field hoi hdi (x := .int i 0) rfl ?_)
    show wpAny _ _ (seqItems? (.ref t) >>= _) _ _ s
    refine wpAny_bind (wpAny_seqItems ho hd ?_)
    simp only [Int.toNat_natCast, hv]
    refine wpAny_bind (wpAny_setField hoi hdi (by simp) (wpAny_pure ⟨v, rfl, rfl, h _ ?_ (Heap.SameBut.update ..)⟩))
    exact ⟨_, Heap.get?_update_self _ hoi (Obj.isFreed_of_fields (Obj.data_mapFields hdi _)), (Obj.cls_mapFields ..).trans hci, by rw [Obj.data_mapFields hdi]; simp [rawInt]⟩
  unfold pyNext
  refine wpAny_bind (wpAny_attempt (wpAny_callSpecial?_slot (name := Str.ofString "__next__") hit.typeIs F.slot_tuple_iterator_next (wpAny_mono (z _) (fun r s' y => ?_) fun _ _ y => y.elim)))
  obtain ⟨rfl, q⟩ := y
  exact wpAny_pure q
theorem sub_end {I : Addr} {i : Nat} {Q : Option Value → Shared → Prop} (hh : A.handled = none) (hit : s.heap.IsTupleIter I t i) (x : IsSub s.heap t C items) (hv : items[i]? = none)
    (h : ∀ h', Heap.ExtBut I s.heap h' → Q none { s with heap := h' }) : wpAny (model prog w) A (pyNext (.ref I)) Q E s := by
  obtain ⟨oi, hoi, hci, hdi⟩ := id hit
  obtain ⟨o, ho, _, n, hd⟩ := x
  unfold pyNext
  refine wpAny_bind (wpAny_attempt (wpAny_callSpecial?_slot (name := Str.ofString "__next__") hit.typeIs F.slot_tuple_iterator_next
    (wpAny_call_entry F.slot_tuple_iterator_next hit.typeIs F.entry_tuple_iterator_next ?_ (F.args_tuple_iterator_next_1 _))))
  show wpAny _ _ (field (.ref I) 0 >>= _) _ _ s
  refine wpAny_bind (wpAny_field hoi hdi (x := .ref t) rfl ?_)
  show wpAny _ _ (if (Value.ref t == Value.none) = true then _ else _) _ _ s
  rw [if_neg (show ¬ ((Value.ref t == Value.none) = true) from Bool.false_ne_true)]
  show wpAny _ _ (field (.ref I) 1 >>= _) _ _ s
  refine wpAny_bind (wpAny_field hoi hdi (x := .int i 0) rfl ?_)
  show wpAny _ _ (seqItems? (.ref t) >>= _) _ _ s
  refine wpAny_bind (wpAny_seqItems ho hd ?_)
  simp only [Int.toNat_natCast, hv]
  refine wpAny_bind (wpAny_rule (wpAny_bind (wpAny_setField hoi hdi (by simp) ?_)))
  show wpAny _ _ (newExc (.type "StopIteration") [] >>= _) _ _ _
  refine wpAny_bind ?_
  simp only [newExc, newTuple]
  refine wpAny_bind (wpAny_newObj_type ?_ (by size_fits))
  refine wpAny_bind (m := firstArgMember _ _) (wpAny_of_eq (a := Value.none) (by first | rfl | (simp only [firstArgMember]; rfl)) ?_)
  refine wpAny_newObj_type ?_ (by size_fits)
  simp only [raiseNew]
  refine wpAny_bind (wpAny_handled ?_)
  first | rw [show A.in1.handled = none from hh] | rw [hh]
  refine wpAny_bind (wpAny_pure (wpAny_throw ?_))
  refine wpAny_bind (wpAny_isInstance (T := "StopIteration") (b := true) ⟨_, Heap.get?_push_size _ rfl, rfl⟩ isSubtype_stop ?_)
  exact wpAny_pure (h _ (((Heap.SameBut.update ..).extBut.push _).push _))
theorem sub_walks (hh : A.handled = none) (I : Addr) (hne : t ≠ I) :
    Walks prog w A I [I, t] [I] items.size (fun i v => items[i]? = some v) (fun i h => h.IsTupleIter I t i ∧ IsSub h t C items) where
  sub := fun b hb => by simp at hb; simp [hb]
  frame := fun _ _ _ st hk => ⟨st.1.at fun o e => hk I (by simp) o e, st.2.keeps fun o e => hk t (by simp) o e⟩
  item := fun i s Q E hi st hQ => by
    refine sub_next st.1 st.2 (v := items[i]) (by simp [hi]) fun h' hit' hs' => ?_
    exact hQ _ h' s.toks (by simp [hi]) ⟨hit', st.2.keeps fun o e => hs'.extBut t o hne e⟩ fun b o hb e => hs'.extBut b o (fun z => hb (by simp [z])) e
  done := fun s Q E st hQ => sub_end hh st.1 st.2 (by simp) fun h' he' => hQ h' s.toks fun b o hb e => he' b o (fun z => hb (by simp [z])) e
  self := fun _ _ _ _ st hQ => wpAny_pyIter_tupleiter st.1 hQ
theorem sub_hint {Q : Bool → Shared → Prop} (Y : SubT (model prog w) s.heap C) (x : IsSub s.heap t C items) (hz : items.size ≤ 1000) (h : ∀ b tk', Q b { s with toks := tk' }) :
    wpAny (model prog w) A (Builtin.List.listLengthHint (.ref t)) Q E s := by
  have ty := x.ty (M := model prog w)
  have sp : Looks (model prog w) s.heap (specialOf (.ref t) "__len__") (some (.builtin "tuple.__len__")) := ty.andThen Y.len
  have ins : Looks (model prog w) s.heap (isInstance (.ref t) (.type "tuple")) true := ty.andThen Y.sub
  unfold Builtin.List.listLengthHint
  refine wpAny_bind (sp.here ?_)
  generalize hid : ("tuple.__len__" : String) = id0
  wp_delta
  rw [show splitId id0 = some ("tuple", "__len__") from by subst hid; decide +kernel]
  subst hid
  refine wpAny_bind (ins.here ?_)
  refine wpAny_ite_split (fun hab => absurd hab (by decide)) (fun _ => ?_)
  refine wpAny_ite_split (fun _ => ?_) (fun hab => absurd (by decide +kernel) hab)
  refine wpAny_bind (ty.here ?_)
  refine wpAny_bind (sub_len Y x hz fun u tk' => ?_)
  refine wpAny_bind (m := asInt? _) (wpAny_pure ?_)
  exact wpAny_pure (h _ _)
/-- list() of an obj of a class over tuple -/
theorem sub_list {h₀ : Heap} {L : Addr} {m : Str → Option Value} {news : List (Addr × Obj)} {Q : Value → Shared → Prop} (hh : A.handled = none) (F₀ : Fr h₀ L s.heap m) (N : News h₀ L s.heap news) (Y : SubT (model prog w) s.heap C) (x : IsSub s.heap t C items) (hz : items.size ≤ 1000)
    (h : ∀ D c h' tk', Fr h₀ L h' m → News h₀ L h' ((D, listOf items c) :: news) → (∀ q ∈ news, q.1 < D) → Q (.ref D) { s with heap := h', toks := tk' }) :
    wpAny (model prog w) A (call (.type "list") [.ref t]) Q E s := by
  refine callType_codes (Q₁ := fun obj s₁ => obj = .ref s.heap.objs.size ∧ s₁ = { s with heap := s.heap.push { cls := .type "list", data := .seq #[] } }) F.called_list (F.typeCall_list_1 _) F.entry_list_init
    (code_list_new _ ⟨rfl, rfl⟩) fun obj s₁ h₁ => ?_
  obtain ⟨rfl, rfl⟩ := h₁
  generalize hS0 : s.heap.objs.size = S at *
  have hlt : t < S := by obtain ⟨o, ho, _⟩ := x; rw [← hS0]; exact Heap.lt_size ho
  have hts : t ≠ S := Nat.ne_of_lt hlt
  have hS : (s.heap.push { cls := .type "list", data := .seq #[] }).get? S = some { cls := .type "list", data := .seq #[] } := by rw [← hS0]; exact Heap.get?_push_size _ rfl
  have old1 : ∀ b o, s.heap.get? b = some o → (s.heap.push { cls := .type "list", data := .seq #[] }).get? b = some o := fun b o e => Heap.get?_push_of_some _ e
  have ne1 : ∀ b o, s.heap.get? b = some o → b ≠ S := fun b o e => by rw [← hS0]; exact Nat.ne_of_lt (Heap.lt_size e)
  refine ⟨⟨_, hS, rfl⟩, F.args_list_init_2 _ _, ?_⟩
  show wpAny _ _ (do let old ← Builtin.List.listItems (.ref S); Builtin.List.listUpdate (.ref S) (fun _ => #[]); letGo old.toList.reverse; Builtin.List.listExtendWith (.ref S) (.ref t) .none) _ _ _
  refine wpAny_bind ?_
  unfold Builtin.List.listItems
  refine wpAny_bind (wpAny_seqItems hS rfl (wpAny_pure ?_))
  show wpAny _ _ (updateSeq S (fun _ => #[]) >>= fun _ => letGo (#[] : Array Value).toList.reverse >>= fun _ => Builtin.List.listExtendWith (.ref S) (.ref t) .none) _ _ _
  refine wpAny_bind (wpAny_updateSeq hS rfl ?_)
  have hS2 := Heap.get?_update_self (Obj.mapSeq (fun _ => (#[] : Array Value))) hS rfl
  have old2 : ∀ b o, s.heap.get? b = some o → ((s.heap.push { cls := .type "list", data := .seq #[] }).update S (Obj.mapSeq (fun _ => (#[] : Array Value)))).get? b = some o :=
    fun b o e => (Heap.get?_update_other _ _ (Ne.symm (ne1 b o e))).trans (old1 b o e)
  have sz2 : ((s.heap.push { cls := .type "list", data := .seq #[] }).update S (Obj.mapSeq (fun _ => (#[] : Array Value)))).objs.size = S + 1 := by rw [Heap.size_after_update, Heap.size_push, hS0]
  refine wpAny_bind (wpAny_letGo ?_)
  generalize (s.heap.push { cls := .type "list", data := .seq #[] }).update S (Obj.mapSeq (fun _ => (#[] : Array Value))) = H2 at hS2 old2 sz2 ⊢
  have x2 : IsSub H2 t C items := x.keeps (old2 t)
  have Y2 : SubT (model prog w) H2 C := Y.keeps old2
  unfold Builtin.List.listExtendWith
  refine wpAny_bind (x2.ty.here ?_)
  have h1 : Builtin.List.listSameRef (.ref S) (.ref t) = false := by simp [Builtin.List.listSameRef, Ne.symm hts]
  have h2 : (Value.ref C == Value.type "list") = false := by simp
  have h3 : (Value.ref C == Value.type "tuple") = false := by simp
  simp only [h1, h2, h3, Bool.or_false, Bool.false_eq_true, if_false]
  refine wpAny_bind (sub_iter Y2 x2 ?_)
  have up : ∀ b o, H2.get? b = some o → (H2.push { cls := .type "tuple_iterator", data := .fields #[.ref t, .int 0 0] }).get? b = some o := fun b o e => Heap.get?_push_of_some _ e
  refine wpAny_bind (wpAny_holding (sub_hint (Y2.keeps up) (x2.keeps (up t)) hz fun b tk' => ?_))
  dsimp only
  rw [sz2]
  have x3 := x2.keeps (up t)
  have hI3 : (H2.push { cls := .type "tuple_iterator", data := .fields #[.ref t, .int 0 0] }).IsTupleIter (S + 1) t 0 := ⟨_, Heap.get?_push_at sz2.symm rfl, rfl, rfl⟩
  have hS3 := up _ _ hS2
  have old3 : ∀ b o, s.heap.get? b = some o → (H2.push { cls := .type "tuple_iterator", data := .fields #[.ref t, .int 0 0] }).get? b = some o := fun b o e => up _ _ (old2 b o e)
  generalize H2.push { cls := .type "tuple_iterator", data := .fields #[.ref t, .int 0 0] } = H3 at x3 hI3 hS3 old3 ⊢
  have hSI : S ≠ S + 1 := Nat.ne_of_lt (Nat.lt_succ_self _)
  have hti : t ≠ S + 1 := Nat.ne_of_lt (Nat.lt_succ_of_lt hlt)
  have W := (sub_walks (prog := prog) (w := w) (C := C) (items := items) (A := A.in1.in1) hh (S + 1) hti).toS
  have hSf : S ∉ [S + 1, t] := fun hm => by
    rcases List.mem_cons.mp hm with e | hm
    · exact hSI e
    · exact hts (List.mem_singleton.mp hm).symm
  have key : ∀ (H : Heap) (c₁ tk : Nat), H.IsTupleIter (S + 1) t 0 → IsSub H t C items → (∀ b o, s.heap.get? b = some o → H.get? b = some o) → H.get? S = some { cls := .type "list", data := .seq #[] c₁ } →
      codeAny (model prog w) A.in1 (.builtin "list.extend.loop" ⟨[.ref S, .ref (S + 1), .none], []⟩) (wants (fun r s₂ => r = Value.none ∧ Q (Value.ref S) s₂) E) { s with heap := H, toks := tk } := by
    intro H c₁ tk hit xs hk hS₁
    refine codeAny_extend_loopS W (by rw [sizeLine_eq]; omega) S hSf .none items.size 0 _ #[] c₁ rfl (Nat.zero_le _) ⟨hit, xs⟩ hS₁ (ItemsOf.nil _) fun s' acc' c' hm hS' hacc => ?_
    rw [Moved.eq_with hm]
    have ea : acc' = items := by
      apply Array.ext hacc.1
      intro i h1 h2
      have := hacc.2 i acc'[i] (by simp [h1])
      simpa [h2] using this.symm
    subst ea
    have kp : ∀ b o, s.heap.get? b = some o → s'.heap.get? b = some o := fun b o e => hm.heap b o (fun hmem => by
      have l := Heap.lt_size e
      rw [hS0] at l
      rcases List.mem_cons.mp hmem with rfl | hmem
      · exact Nat.lt_irrefl _ l
      · rw [List.mem_singleton.mp hmem] at l
        exact absurd l (Nat.not_lt.mpr (Nat.le_succ _))) (hk b o e)
    refine ⟨rfl, h S c' _ _ (F₀.keeps kp) ?_ fun q hq => ?_⟩
    · intro q hq
      rcases List.mem_cons.mp hq with rfl | hq
      · refine ⟨hS', ?_, ?_⟩
        · obtain ⟨o, ho⟩ := ns_some F₀.ns
          exact Ne.symm (ne1 _ _ ho)
        · cases e : h₀.get? S with
          | none => rfl
          | some o => exact absurd rfl (ne1 _ _ (F₀.keep _ _ e))
      · exact ⟨kp _ _ (N q hq).1, (N q hq).2⟩
    · rw [← hS0]
      exact Heap.lt_size (N q hq).1
  refine wpAny_ite_split (fun _ => ?_) (fun _ => wpAny_pure ⟨plainId_quiet F.plain_extend_loop _, key _ _ _ hI3 x3 old3 hS3⟩)
  refine wpAny_bind (wpAny_rule ?_)
  refine wpAny_bind ?_
  show wpAny _ _ (updateSeq S (·.push .none) >>= fun _ => updateSeq S (·.pop)) _ _ _
  refine wpAny_bind (wpAny_updateSeq hS3 rfl ?_)
  have hS4 := Heap.get?_update_self (Obj.mapSeq (·.push Value.none)) hS3 rfl
  refine wpAny_updateSeq (hz := by seq_fits) hS4 rfl ?_
  have hS5 := Heap.get?_update_self (Obj.mapSeq (·.pop)) hS4 rfl
  have k5 : ∀ b o, b ≠ S → H3.get? b = some o → ((H3.update S (Obj.mapSeq (·.push Value.none))).update S (Obj.mapSeq (·.pop))).get? b = some o := fun b o hb e =>
    (Heap.get?_update_other _ _ (Ne.symm hb)).trans ((Heap.get?_update_other _ _ (Ne.symm hb)).trans e)
  refine wpAny_pure ⟨plainId_quiet F.plain_extend_loop _, key _ _ _ ?_ (x3.keeps fun o e => k5 _ _ hts e) (fun b o e => k5 _ _ (ne1 b o e) (old3 b o e)) hS5⟩
  exact hI3.at fun o e => k5 _ _ (Ne.symm hSI) e
end
end BL
end
-- part OwnF
section
set_option linter.unusedVariables false
open PySem PySem.W PySem.Spec PySem.Calls PyProof.Rows
set_option maxRecDepth 100000
set_option maxHeartbeats 8000000
set_option Elab.async false
namespace BL
theorem nf_own {w : World} {h : Heap} (X : (K w.params).In h) : OwnNew (model PySem.Challenge.rw_bl0008_01.row.prog w) h 512 "tuple" := by
  revert X
  w_top off
  k_fill
  intro X
  exact ⟨⟨_, _, _, _, X 512 _ (by k_is), rfl⟩, .of_peek X (by kernel_rfl), .of_peek X (by kernel_rfl), .of_peek X (by kernel_rfl), .of_peek X (by kernel_rfl), .of_peek X (by kernel_rfl), .of_peek X (by kernel_rfl), .of_peek X (by kernel_rfl), .of_peek X (by kernel_rfl), .of_peek X (by kernel_rfl)⟩
theorem nf_ty {w : World} {h : Heap} (X : (K w.params).In h) : Looks (model PySem.Challenge.rw_bl0008_01.row.prog w) h (isType (.ref 512)) true := by
  revert X
  w_top off
  k_fill
  intro X
  exact .of_peek X (by kernel_rfl)
theorem nf_chk {w : World} {h : Heap} {v : Value} (X : (K w.params).In h) : Looks (model PySem.Challenge.rw_bl0008_01.row.prog w) h (checkBuiltinCall "tuple.__new__" ⟨[.ref 512, v], []⟩) () := by
  revert X
  w_top off
  k_fill
  intro X
  exact .of_peek X (by kernel_rfl)
theorem nf_here {w : World} {h : Heap} (X : (K w.params).In h) : Looks (model PySem.Challenge.rw_bl0008_01.row.prog w) h (Bind.madeHere "tuple.__new__" (.ref 512)) () := by
  revert X
  w_top off
  k_fill
  intro X
  exact .of_peek X (by kernel_rfl)
theorem af_own {w : World} {h : Heap} (X : (K w.params).In h) : OwnNew (model PySem.Challenge.rw_bl0008_01.row.prog w) h 693 "tuple" := by
  revert X
  w_top off
  k_fill
  intro X
  exact ⟨⟨_, _, _, _, X 693 _ (by k_is), rfl⟩, .of_peek X (by kernel_rfl), .of_peek X (by kernel_rfl), .of_peek X (by kernel_rfl), .of_peek X (by kernel_rfl), .of_peek X (by kernel_rfl), .of_peek X (by kernel_rfl), .of_peek X (by kernel_rfl), .of_peek X (by kernel_rfl), .of_peek X (by kernel_rfl)⟩
theorem af_ty {w : World} {h : Heap} (X : (K w.params).In h) : Looks (model PySem.Challenge.rw_bl0008_01.row.prog w) h (isType (.ref 693)) true := by
  revert X
  w_top off
  k_fill
  intro X
  exact .of_peek X (by kernel_rfl)
theorem af_chk {w : World} {h : Heap} {v : Value} (X : (K w.params).In h) : Looks (model PySem.Challenge.rw_bl0008_01.row.prog w) h (checkBuiltinCall "tuple.__new__" ⟨[.ref 693, v], []⟩) () := by
  revert X
  w_top off
  k_fill
  intro X
  exact .of_peek X (by kernel_rfl)
theorem af_here {w : World} {h : Heap} (X : (K w.params).In h) : Looks (model PySem.Challenge.rw_bl0008_01.row.prog w) h (Bind.madeHere "tuple.__new__" (.ref 693)) () := by
  revert X
  w_top off
  k_fill
  intro X
  exact .of_peek X (by kernel_rfl)
theorem vt_own {w : World} {h : Heap} (X : (K w.params).In h) : OwnNew (model PySem.Challenge.rw_bl0008_01.row.prog w) h 387 "str" := by
  revert X
  w_top off
  k_fill
  intro X
  exact ⟨⟨_, _, _, _, X 387 _ (by k_is), rfl⟩, .of_peek X (by kernel_rfl), .of_peek X (by kernel_rfl), .of_peek X (by kernel_rfl), .of_peek X (by kernel_rfl), .of_peek X (by kernel_rfl), .of_peek X (by kernel_rfl), .of_peek X (by kernel_rfl), .of_peek X (by kernel_rfl), .of_peek X (by kernel_rfl)⟩
theorem vt_ty {w : World} {h : Heap} (X : (K w.params).In h) : Looks (model PySem.Challenge.rw_bl0008_01.row.prog w) h (isType (.ref 387)) true := by
  revert X
  w_top off
  k_fill
  intro X
  exact .of_peek X (by kernel_rfl)
theorem vt_chk {w : World} {h : Heap} {v : Value} (X : (K w.params).In h) : Looks (model PySem.Challenge.rw_bl0008_01.row.prog w) h (checkBuiltinCall "str.__new__" ⟨[.ref 387, v], []⟩) () := by
  revert X
  w_top off
  k_fill
  intro X
  exact .of_peek X (by kernel_rfl)
theorem vt_here {w : World} {h : Heap} (X : (K w.params).In h) : Looks (model PySem.Challenge.rw_bl0008_01.row.prog w) h (Bind.madeHere "str.__new__" (.ref 387)) () := by
  revert X
  w_top off
  k_fill
  intro X
  exact .of_peek X (by kernel_rfl)
theorem nf_sub {w : World} {h : Heap} (X : (K w.params).In h) : SubT (model PySem.Challenge.rw_bl0008_01.row.prog w) h 512 := by
  revert X
  w_top off
  k_fill
  intro X
  exact ⟨.of_peek X (by kernel_rfl), .of_peek X (by kernel_rfl), .of_peek X (by kernel_rfl)⟩
theorem af_sub {w : World} {h : Heap} (X : (K w.params).In h) : SubT (model PySem.Challenge.rw_bl0008_01.row.prog w) h 693 := by
  revert X
  w_top off
  k_fill
  intro X
  exact ⟨.of_peek X (by kernel_rfl), .of_peek X (by kernel_rfl), .of_peek X (by kernel_rfl)⟩
end BL
end
-- part N2
section
set_option linter.unusedVariables false
open PySem PySem.W PySem.Spec PySem.Calls PyProof.Rows
set_option maxRecDepth 100000
set_option maxHeartbeats 8000000
set_option Elab.async false
namespace BL
local macro_rules | `(tactic| ktr_room) => `(tactic| ((try simp only [tc_depth, tc_units, depth_under_make, depth_under_kw, depth_in1, depth_deeper, units_in1, units_deeper, Around.mark_units, depth_mark]); (try dsimp only [ktrTop]); omega))
local macro_rules | `(tactic| k_enter) => `(tactic| (refine' code_defG ?ke1 ?ke2 ?ke3 ?ke4 ?ke5 ?keA ?keF ?keK ?ke6 ?ke7 ?ke8 ?ke9 ?keB ?_ ?ked2 ?ked3 ?ked4 ?ked5; (case keA => exact rfl); (case keF => exact rfl); (case keK => first | exact rfl | assumption); (case ke1 => k_asm); (case ke2 => k_asm); (case ke3 => k_asm); (case ke4 => k_asm); (case ke5 => k_asm); (case ke6 => k_is); (case ke7 => k_is); (case ke8 => ktr_room); (case ke9 => first | exact BindsTo.of_eq rfl | exact binds_K (by k_in) rfl (by k_is) rfl rfl rfl); (case ked5 => decide); (case keB => exact locs rfl); (case ked2 => exact rfl); (case ked3 => exact rfl); (case ked4 => exact rfl); intro g' L' h' FG' F' N' B' X' T' kG'; (try dsimp only); (try k_lift B'); (try k_fold)))
local macro_rules | `(tactic| walk_at "pad 0") => `(tactic| fail)
local macro_rules | `(tactic| walk_at "pad 1") => `(tactic| fail)
local macro_rules | `(tactic| walk_at "pad 2") => `(tactic| fail)
local macro_rules | `(tactic| walk_at "getMethod type:tuple") => `(tactic| (k_here; refine' method_type ?mtF ?mtX ?mtm (by decide +kernel) ?mte ?mth ?_; (case mtF => k_asm); (case mtX => k_asm); (case mtm => kernel_rfl); (case mte => k_dflt k_is); (case mth => k_handed)))
local macro_rules | `(tactic| walk_at "call builtin:tuple.__new__") => `(tactic| (k_here; k_dflt (have XK := Frag.In.keeps (by k_asm) (Fr.keep (by k_asm)); first
  | (refine' tup_new_sub ?tn1 ?tn2 (nf_own (by assumption)) (nf_ty (by assumption)) (nf_chk (by assumption)) (nf_here (by assumption)) (News.isTup ?tn3 (List.Mem.head _)) ?tn4 ?_; (case tn1 => k_asm); (case tn2 => k_asm); (case tn3 => k_asm); (case tn4 => exact Nat.le_of_ble_eq_true rfl))
  | (refine' tup_new_sub ?tn1 ?tn2 (af_own (by assumption)) (af_ty (by assumption)) (af_chk (by assumption)) (af_here (by assumption)) (News.isTup ?tn3 (List.Mem.head _)) ?tn4 ?_; (case tn1 => k_asm); (case tn2 => k_asm); (case tn3 => k_asm); (case tn4 => exact Nat.le_of_ble_eq_true rfl))); intro x9 dx9 h9 F9 N9 l9 l8; (try k_sweep)))
theorem nf_call {w : World} {dp un : Nat} {gd : Option (List Code)} {cn : Str} {cs : Scope} {L a : Addr} {ccd : Value} {cl : List (Str × Addr)} {outer : List Env} {A₀ : Around} {base h₀ : Heap} {m : Str → Option Value} {s : Shared} {Q E : Value → Shared → Prop}
    {p : Program} {loose : List Str} {mean : ExcName → Option Value} {mg mb : Str → Option Value} (v1 v2 v3 v4 v5 : Value)
    (B : Below A₀ base outer h₀) (F : Fr h₀ L s.heap m) (X : (K w.params).In h₀) (T : Top p loose mean mg mb h₀) (hk : cs.kind = .function) (hd : dp + 5 < recursionLimit) (hu : un + 40 < cLine)
    (ret : ∀ l dx h' tk', h'.get? l = some { cls := .ref 512, dict := some dx, data := .seq #[v1, v2, v3, v4, v5] } → s.heap.get? l = none → InElt s.heap h' → Q (.ref l) { s with heap := h', toks := tk' }) :
    wpAny (model PySem.Challenge.rw_bl0008_01.row.prog w) (ktrTop dp un gd cn cs L a ccd cl outer) (call (.ref 512) [v1, v2, v3, v4, v5]) Q E s := by
  revert X
  w_top off
  k_fill
  intro X
  have N : News h₀ L s.heap [] := News.nil
  refine own_call (T := "tuple") (X.keeps F.keep) (fun h X => nf_own X) ?_
  k_steps
  rename_i x9 dx9 h9 F9 N9 l9 l8 kF kN Tc kX
  rename GSub s.heap _ _ => kG
  exact ⟨_, _, rfl, (N9 _ (List.Mem.head _)).1, rfl, kX.keeps kF.keep, ret _ _ _ _ (N9 _ (List.Mem.head _)).1 (fresh_of kG (N9 _ (List.Mem.head _)).2.2 (by simp)) (inElt_of kG F9)⟩
theorem af_call {w : World} {dp un : Nat} {gd : Option (List Code)} {cn : Str} {cs : Scope} {L a : Addr} {ccd : Value} {cl : List (Str × Addr)} {outer : List Env} {A₀ : Around} {base h₀ : Heap} {m : Str → Option Value} {s : Shared} {Q E : Value → Shared → Prop}
    {p : Program} {loose : List Str} {mean : ExcName → Option Value} {mg mb : Str → Option Value} (v1 v2 v3 v4 v5 v6 v7 : Value)
    (B : Below A₀ base outer h₀) (F : Fr h₀ L s.heap m) (X : (K w.params).In h₀) (T : Top p loose mean mg mb h₀) (hk : cs.kind = .function) (hd : dp + 5 < recursionLimit) (hu : un + 40 < cLine)
    (ret : ∀ l dx h' tk', h'.get? l = some { cls := .ref 693, dict := some dx, data := .seq #[v1, v2, v3, v4, v5, v6, v7] } → s.heap.get? l = none → InElt s.heap h' → Q (.ref l) { s with heap := h', toks := tk' }) :
    wpAny (model PySem.Challenge.rw_bl0008_01.row.prog w) (ktrTop dp un gd cn cs L a ccd cl outer) (call (.ref 693) [v1, v2, v3, v4, v5, v6, v7]) Q E s := by
  revert X
  w_top off
  k_fill
  intro X
  have N : News h₀ L s.heap [] := News.nil
  refine own_call (T := "tuple") (X.keeps F.keep) (fun h X => af_own X) ?_
  k_steps
  rename_i x9 dx9 h9 F9 N9 l9 l8 kF kN Tc kX
  rename GSub s.heap _ _ => kG
  exact ⟨_, _, rfl, (N9 _ (List.Mem.head _)).1, rfl, kX.keeps kF.keep, ret _ _ _ _ (N9 _ (List.Mem.head _)).1 (fresh_of kG (N9 _ (List.Mem.head _)).2.2 (by simp)) (inElt_of kG F9)⟩
end BL
namespace BL
end BL
end
-- part L3
section
set_option linter.unusedVariables false
open PySem PySem.W PySem.Spec PySem.Calls PyProof.Rows
set_option maxRecDepth 100000
set_option maxHeartbeats 8000000
set_option Elab.async false
namespace BL
local macro_rules | `(tactic| ktr_room) => `(tactic| ((try simp only [tc_depth, tc_units, depth_under_make, depth_under_kw, depth_in1, depth_deeper, units_in1, units_deeper, Around.mark_units, depth_mark]); (try dsimp only [ktrTop]); omega))
local macro_rules | `(tactic| k_enter) => `(tactic| (refine' code_defG ?ke1 ?ke2 ?ke3 ?ke4 ?ke5 ?keA ?keF ?keK ?ke6 ?ke7 ?ke8 ?ke9 ?keB ?_ ?ked2 ?ked3 ?ked4 ?ked5; (case keA => exact rfl); (case keF => exact rfl); (case keK => first | exact rfl | assumption); (case ke1 => k_asm); (case ke2 => k_asm); (case ke3 => k_asm); (case ke4 => k_asm); (case ke5 => k_asm); (case ke6 => k_is); (case ke7 => k_is); (case ke8 => ktr_room); (case ke9 => first | exact BindsTo.of_eq rfl | exact binds_K (by k_in) rfl (by k_is) rfl rfl rfl); (case ked5 => decide); (case keB => exact locs rfl); (case ked2 => exact rfl); (case ked3 => exact rfl); (case ked4 => exact rfl); intro g' L' h' FG' F' N' B' X' T' kG'; (try dsimp only); (try k_lift B'); (try k_fold)))
local macro_rules | `(tactic| walk_at "pad 0") => `(tactic| fail)
local macro_rules | `(tactic| walk_at "pad 1") => `(tactic| fail)
local macro_rules | `(tactic| walk_at "pad 2") => `(tactic| fail)
local macro_rules | `(tactic| walk_at "pad 3") => `(tactic| fail)
local macro_rules | `(tactic| walk_at "pad 4") => `(tactic| fail)
local macro_rules | `(tactic| walk_at "pad 5") => `(tactic| fail)
local macro_rules | `(tactic| walk_at "pad 6") => `(tactic| fail)
local macro_rules | `(tactic| walk_at "pad 7") => `(tactic| fail)
local macro_rules | `(tactic| walk_at "call ref") => `(tactic| (k_here; (with_reducible show wpAny _ _ (call (Value.ref 340) _) _ _ _); k_dflt ((refine' semi_call _ _ ?se1 ?se2 ?se3 ?se4 ?se5 ?se6 ?se7 ?se8 ?_; (case se1 => k_asm); (case se2 => k_asm); (case se3 => k_asm); (case se4 => k_asm); (case se5 => exact rfl); (case se6 => ktr_room); (case se7 => ktr_room); (case se8 => omega)); intro lq vq eq9 yq hq9 tkq hSq hcq hgq hfq hkq; (have Nq := news_in (by k_asm) (by k_asm) hfq hgq hkq); (have Fq := Fr.keeps (by k_asm) hkq); (have hlq := strs_len hSq hcq)); (try k_sweep)))
local macro_rules | `(tactic| walk_at "call builtin:len") => `(tactic| (k_here; (with_reducible show wpAny _ _ (call (Value.builtin "len") [Value.ref _]) _ _ _); k_dflt (refine len_list (News.isList (by k_asm) (List.Mem.head _)) (by rw [List.size_toArray]; omega) ?_)))
local macro_rules | `(tactic| walk_at "call ref") => `(tactic| (k_here; (with_reducible show wpAny _ _ (call (Value.ref 512) _) _ _ _); k_dflt ((refine' nf_call _ _ _ _ _  ?nf1 ?nf2 ?nf3 ?nf4 ?nf5 ?nf6 ?nf7 ?_; (case nf1 => k_asm); (case nf2 => k_asm); (case nf3 => k_asm); (case nf4 => k_asm); (case nf5 => exact rfl); (case nf6 => ktr_room); (case nf7 => ktr_room)); intro lf dxf hf9 tkf hgf hff hkf; (have Nq := news_in (by k_asm) (by k_asm) hff hgf hkf); (have Fq := Fr.keeps (by k_asm) hkf)); (try k_sweep)))
local macro_rules | `(tactic| walk_at "call ref") => `(tactic| (k_here; (with_reducible show wpAny _ _ (call (Value.ref 693) _) _ _ _); k_dflt ((refine' af_call _ _ _ _ _ _ _  ?nf1 ?nf2 ?nf3 ?nf4 ?nf5 ?nf6 ?nf7 ?_; (case nf1 => k_asm); (case nf2 => k_asm); (case nf3 => k_asm); (case nf4 => k_asm); (case nf5 => exact rfl); (case nf6 => ktr_room); (case nf7 => ktr_room)); intro lf dxf hf9 tkf hgf hff hkf; (have Nq := news_in (by k_asm) (by k_asm) hff hgf hkf); (have Fq := Fr.keeps (by k_asm) hkf)); (try k_sweep)))
theorem strs_5 {vs : List Value} {ys : List Str} (h : StrsAre vs ys) (e : vs.length = 5) : ∃ y1 t1 y2 t2 y3 t3 y4 t4 y5 t5, vs = [.str y1 t1, .str y2 t2, .str y3 t3, .str y4 t4, .str y5 t5] ∧ ys = [y1, y2, y3, y4, y5] := by
  cases h with
  | nil => simp at e
  | cons y1 t1 h =>
  cases h with
  | nil => simp at e
  | cons y2 t2 h =>
  cases h with
  | nil => simp at e
  | cons y3 t3 h =>
  cases h with
  | nil => simp at e
  | cons y4 t4 h =>
  cases h with
  | nil => simp at e
  | cons y5 t5 h =>
  cases h with
  | cons => simp at e
  | nil => exact ⟨y1, t1, y2, t2, y3, t3, y4, t4, y5, t5, rfl, rfl⟩
theorem strs_7 {vs : List Value} {ys : List Str} (h : StrsAre vs ys) (e : vs.length = 7) : ∃ y1 t1 y2 t2 y3 t3 y4 t4 y5 t5 y6 t6 y7 t7, vs = [.str y1 t1, .str y2 t2, .str y3 t3, .str y4 t4, .str y5 t5, .str y6 t6, .str y7 t7] ∧ ys = [y1, y2, y3, y4, y5, y6, y7] := by
  cases h with
  | nil => simp at e
  | cons y1 t1 h =>
  cases h with
  | nil => simp at e
  | cons y2 t2 h =>
  cases h with
  | nil => simp at e
  | cons y3 t3 h =>
  cases h with
  | nil => simp at e
  | cons y4 t4 h =>
  cases h with
  | nil => simp at e
  | cons y5 t5 h =>
  cases h with
  | nil => simp at e
  | cons y6 t6 h =>
  cases h with
  | nil => simp at e
  | cons y7 t7 h =>
  cases h with
  | cons => simp at e
  | nil => exact ⟨y1, t1, y2, t2, y3, t3, y4, t4, y5, t5, y6, t6, y7, t7, rfl, rfl⟩
theorem vn_call {w : World} {dp un : Nat} {gd : Option (List Code)} {cn : Str} {cs : Scope} {L a : Addr} {ccd : Value} {cl : List (Str × Addr)} {outer : List Env} {A₀ : Around} {base h₀ : Heap} {m : Str → Option Value} {s : Shared} {Q E : Value → Shared → Prop}
    {p : Program} {loose : List Str} {mean : ExcName → Option Value} {mg mb : Str → Option Value} (x : Str) (t : Tok)
    (B : Below A₀ base outer h₀) (F : Fr h₀ L s.heap m) (X : (K w.params).In h₀) (T : Top p loose mean mg mb h₀) (hk : cs.kind = .function) (hd : dp + 30 < recursionLimit) (hu : un + 300 < cLine) (hx : x.length ≤ 1000)
    (ret : ∀ l dx vs ys h' tk', StrsAre vs ys → cpsL ys = splitGo 59 [] x.cps.toList → vs.length = 5 → h'.get? l = some { cls := .ref 512, dict := some dx, data := .seq vs.toArray } → s.heap.get? l = none → InElt s.heap h' → Q (.ref l) { s with heap := h', toks := tk' })
    (bad : ∀ e ys news h' tk', cpsL ys = splitGo 59 [] x.cps.toList → ys.length ≠ 5 → RaisedN base (envX cn cs L a ccd cl :: outer) e (.type "ValueError") news h' → s.heap.UpToSlots h' → E (.ref e) { s with heap := h', toks := tk' }) :
    wpAny (model PySem.Challenge.rw_bl0008_01.row.prog w) (ktrTop dp un gd cn cs L a ccd cl outer) (call (.ref 542) [.str x t]) Q E s := by
  revert X
  w_top off
  k_fill
  intro X
  have N : News h₀ L s.heap [] := News.nil
  refine wpAny_call ?_
  k_dflt k_enter
  k_steps
  · rename_i e9 nx9 h8 R9 U9
    rename GSub s.heap _ _ => kG
    rename StrsAre _ _ => hS
    rename cpsL _ = _ => hc
    refine bad _ _ _ _ _ hc (fun z => ?_) R9 ((Heap.UpToSlots.of_keeps fun b o e => kG b o e (by simp)).trans U9)
    rename (_ : Int) ≠ _ => hne
    rw [← strsAre_len hS] at z
    rw [List.size_toArray] at hne
    omega
  · rename StrsAre _ _ => hS
    rename cpsL _ = _ => hc
    rename (_ : Int) = 5 => hne
    rw [List.size_toArray] at hne
    have h5 := Int.ofNat_inj.mp (show ((_ : Nat) : Int) = ((5 : Nat) : Int) from hne)
    have hS2 := hS
    obtain ⟨y1, t1, y2, t2, y3, t3, y4, t4, y5, t5, rfl, rfl⟩ := strs_5 hS h5
    k_steps
    rename_i N9 F9 kF kN Tc kX
    rename GSub s.heap _ _ => kG
    exact ret _ _ _ _ _ _ hS2 hc h5 (N9 _ (List.Mem.head _)).1 (fresh_of kG (N9 _ (List.Mem.head _)).2.2 (by simp)) (inElt_of kG F9)
theorem va_call {w : World} {dp un : Nat} {gd : Option (List Code)} {cn : Str} {cs : Scope} {L a : Addr} {ccd : Value} {cl : List (Str × Addr)} {outer : List Env} {A₀ : Around} {base h₀ : Heap} {m : Str → Option Value} {s : Shared} {Q E : Value → Shared → Prop}
    {p : Program} {loose : List Str} {mean : ExcName → Option Value} {mg mb : Str → Option Value} (x : Str) (t : Tok)
    (B : Below A₀ base outer h₀) (F : Fr h₀ L s.heap m) (X : (K w.params).In h₀) (T : Top p loose mean mg mb h₀) (hk : cs.kind = .function) (hd : dp + 30 < recursionLimit) (hu : un + 300 < cLine) (hx : x.length ≤ 1000)
    (ret : ∀ l dx vs ys h' tk', StrsAre vs ys → cpsL ys = splitGo 59 [] x.cps.toList → vs.length = 7 → h'.get? l = some { cls := .ref 693, dict := some dx, data := .seq vs.toArray } → s.heap.get? l = none → InElt s.heap h' → Q (.ref l) { s with heap := h', toks := tk' })
    (bad : ∀ e ys news h' tk', cpsL ys = splitGo 59 [] x.cps.toList → ys.length ≠ 7 → RaisedN base (envX cn cs L a ccd cl :: outer) e (.type "ValueError") news h' → s.heap.UpToSlots h' → E (.ref e) { s with heap := h', toks := tk' }) :
    wpAny (model PySem.Challenge.rw_bl0008_01.row.prog w) (ktrTop dp un gd cn cs L a ccd cl outer) (call (.ref 723) [.str x t]) Q E s := by
  revert X
  w_top off
  k_fill
  intro X
  have N : News h₀ L s.heap [] := News.nil
  refine wpAny_call ?_
  k_dflt k_enter
  k_steps
  · rename_i e9 nx9 h8 R9 U9
    rename GSub s.heap _ _ => kG
    rename StrsAre _ _ => hS
    rename cpsL _ = _ => hc
    refine bad _ _ _ _ _ hc (fun z => ?_) R9 ((Heap.UpToSlots.of_keeps fun b o e => kG b o e (by simp)).trans U9)
    rename (_ : Int) ≠ _ => hne
    rw [← strsAre_len hS] at z
    rw [List.size_toArray] at hne
    omega
  · rename StrsAre _ _ => hS
    rename cpsL _ = _ => hc
    rename (_ : Int) = 7 => hne
    rw [List.size_toArray] at hne
    have h5 := Int.ofNat_inj.mp (show ((_ : Nat) : Int) = ((7 : Nat) : Int) from hne)
    have hS2 := hS
    obtain ⟨y1, t1, y2, t2, y3, t3, y4, t4, y5, t5, y6, t6, y7, t7, rfl, rfl⟩ := strs_7 hS h5
    k_steps
    rename_i N9 F9 kF kN Tc kX
    rename GSub s.heap _ _ => kG
    exact ret _ _ _ _ _ _ hS2 hc h5 (N9 _ (List.Mem.head _)).1 (fresh_of kG (N9 _ (List.Mem.head _)).2.2 (by simp)) (inElt_of kG F9)
end BL
namespace BL
end BL
end
-- part C6
section
set_option linter.unusedVariables false
open PySem PySem.W PySem.Spec PySem.Calls PyProof.Rows
set_option maxRecDepth 100000
set_option maxHeartbeats 8000000
set_option Elab.async false
namespace BL
local macro_rules | `(tactic| walk_at "pad 0") => `(tactic| fail)
local macro_rules | `(tactic| walk_at "pad 1") => `(tactic| fail)
local macro_rules | `(tactic| walk_at "pad 2") => `(tactic| fail)
local macro_rules | `(tactic| walk_at "pad 3") => `(tactic| fail)
local macro_rules | `(tactic| walk_at "pad 4") => `(tactic| fail)
local macro_rules | `(tactic| walk_at "call builtin:list.append") => `(tactic| (k_here; (with_reducible show wpAny _ _ (call (Value.builtin _) [Value.ref _, _]) _ _ _); k_dflt (refine' append_K ?k1 ?k2 ?k3 ?_ ?z; (case k1 => k_asm); (case k2 => k_asm); (case k3 => k_upd); (case z => first | size_fits | (rw [List.size_toArray, sizeLine_eq]; omega)); k_whole); intro h' F' N'; (try k_sweep)))
local macro_rules | `(tactic| walk_at "call builtin:str.join") => `(tactic| (k_here; (with_reducible show wpAny _ _ (call (Value.builtin _) [Value.str _ _, Value.ref _]) _ _ _); k_dflt (refine join_listW (News.isList (by k_asm) (List.Mem.head _)) (by assumption) (by decide +kernel) (by assumption) ?_); intro tj kj))

local macro_rules | `(tactic| walk_at "call ref") => `(tactic| (k_here; k_dflt (refine' unesc_call _ _ ?un1 ?un2 ?un3 ?un4 ?un5 ?un6 ?un7 ?un8 ?_; (case un1 => k_asm); (case un2 => k_asm); (case un3 => k_asm); (case un4 => k_asm); (case un5 => exact rfl); (case un6 => (dsimp only [ktrTop, Around.deeper]; omega)); (case un7 => (dsimp only [ktrTop, Around.deeper]; omega)); (case un8 => (rw [join_len]; omega))); intro yu tu hu9 tku hyu hku; (have Fu := Fr.keeps (by k_asm) hku); (have Nu := News.grown (by k_asm) hku); (try k_sweep)))
local macro_rules | `(tactic| ktr_unf) => `(tactic| repeat' (first | (k_unfold; (try dsimp only)) | (k_end; wrow_close) | ((fail_if_success (with_reducible show wpAny _ _ (exec (Stmt.While _ _ _ _) _) _ _ _)); (first | walk1 | (dsimp only; walk1))) | fail "no step"))
theorem comma_call {w : World} {dp un : Nat} {gd : Option (List Code)} {cn : Str} {cs : Scope} {L a : Addr} {ccd : Value} {cl : List (Str × Addr)} {outer : List Env} {A₀ : Around} {base h₀ : Heap} {m : Str → Option Value} {s : Shared} {Q E : Value → Shared → Prop}
    {p : Program} {loose : List Str} {mean : ExcName → Option Value} {mg mb : Str → Option Value} (x : Str) (t : Tok)
    (B : Below A₀ base outer h₀) (F : Fr h₀ L s.heap m) (X : (K w.params).In h₀) (T : Top p loose mean mg mb h₀) (hk : cs.kind = .function) (hd : dp + 10 < recursionLimit) (hu : un + 80 < cLine) (hx : x.length ≤ 1000)
    (ret : ∀ l vs ep ys h' tk', StrsAre vs ys → cpsL ys = splitGo 44 [] x.cps.toList → h'.get? l = some (lst vs ep) → s.heap.get? l = none → InElt s.heap h' → Q (.ref l) { s with heap := h', toks := tk' }) :
    wpAny (model PySem.Challenge.rw_bl0008_01.row.prog w) (ktrTop dp un gd cn cs L a ccd cl outer) (call (.ref 333) [.str x t]) Q E s := by
  revert X
  w_top off
  k_fill
  intro X
  have N : News h₀ L s.heap [] := News.nil
  refine wpAny_call ?_
  k_dflt (refine' code_defG ?k1 ?k2 ?k3 ?k4 ?k5 ?kA ?kF ?kK ?k6 ?k7 ?k8 ?k9 ?kB ?_ ?c2 ?c3 ?c4 ?c5; (case kA => exact rfl); (case kF => exact rfl); (case kK => assumption); (case k1 => k_asm); (case k2 => k_asm); (case k3 => k_asm); (case k4 => k_asm); (case k5 => k_asm); (case k6 => k_is); (case k7 => k_is); (case k8 => ktr_room); (case k9 => exact BindsTo.of_eq rfl); (case c5 => decide); (case kB => exact locs rfl); (case c2 => exact rfl); (case c3 => exact rfl); (case c4 => exact rfl))
  intro g' L' h' FG' F' N' B' X' T' kG'
  (try dsimp only)
  ktr_unf
  all_goals try dsimp only at *
  · rename_i FF NN
    refine While_inv2 (fun n m₁ news₁ => ∃ (lr lc : Addr) (tk : Tok) (j er ec : Nat) (vr vc : List Value) (yr yc : List Str), m₁ (S "text") = some (.str x t) ∧ m₁ (S "i") = some (.int (j : Int) tk) ∧ m₁ (S "result") = some (.ref lr) ∧ m₁ (S "current") = some (.ref lc) ∧ news₁ = [(lc, lst vc ec), (lr, lst vr er)] ∧ @LT.lt Nat _ lr lc ∧ j ≤ x.length ∧ vr.length ≤ j ∧ vc.length ≤ j ∧ (flat yc).length ≤ j ∧ StrsAre vr yr ∧ StrsAre vc yc ∧ cpsL yr ++ splitGo 44 (flat yc) (x.cps.toList.drop j) = splitGo 44 [] x.cps.toList ∧ n = x.length - j) (n₀ := x.length) FF NN ?_ ?_ ?_
    · refine ⟨_, _, _, 0, 0, 0, [], [], [], [], rfl, rfl, rfl, rfl, rfl, by omega, Nat.zero_le _, Nat.le_refl _, Nat.le_refl _, Nat.le_refl _, .nil, .nil, rfl, rfl⟩
    · rintro n m₁ news₁ h₁ tk₁ F₁ N₁ ⟨lr, lc, tk, j, er, ec, vr, vc, yr, yc, hv, hi, hr, hc, rfl, hlt, hj, htr, htc, hfc, hR, hC, hsp, rfl⟩
      have F₂ := fr4 F₁ hr hc hi hv
      clear F₁ hv hi hr hc FF NN
      have hw := weigh hC htc hfc hj hx
      (try dsimp only)
      (try k_fold)
      k_steps
      all_goals first
        | (unfold WhileStep2
           dsimp only
           refine ⟨_, _, _, _, x.length - (j + 1), rfl, by assumption, by assumption, by omega, lr, lc, _, j + 1, er, ec + 1, vr, _, yr, yc ++ [Txt.item x (j : Int)], rfl, rfl, rfl, rfl, congrArg (fun o => [(lc, o), (lr, lst vr er)]) (lst_push vc (.str (Txt.item x (j : Int)) _) (ec + 1)), hlt, by omega, by omega, by rw [List.length_append]; simp only [List.length_cons, List.length_nil]; omega, by rw [flat_snoc, List.length_append, item_len]; omega, hR, strsAre_snoc hC _ _, ?_, rfl⟩
           rw [flat_snoc, ← sp_one (by omega) (fun b1 b2 => by first | (exfalso; omega) | (rw [‹(Txt.item x (j : Int) == Str.ofString "\\") = false›] at b1; cases b1)) (by rw [← comma_is]; assumption), hsp])
        | (unfold WhileStep2
           dsimp only
           refine ⟨_, _, _, _, x.length - (j + 2), rfl, by assumption, by assumption, by omega, lr, lc, _, j + 2, er, ec + 1 + 1, vr, _, yr, yc ++ [Txt.item x (j : Int), Txt.item x ((j : Int) + 1)], rfl, rfl, rfl, rfl, congrArg (fun o => [(lc, o), (lr, lst vr er)]) (lst_push2 vc (.str (Txt.item x (j : Int)) _) (.str (Txt.item x ((j : Int) + 1)) _) (ec + 1 + 1)), hlt, by omega, by omega, by rw [List.length_append]; simp only [List.length_cons, List.length_nil]; omega, by rw [flat_snoc2, List.length_append, List.length_append, item_len, item_len]; omega, hR, strsAre_snoc2 hC _ _ _ _, ?_, rfl⟩
           rw [flat_snoc2, ← sp_two (by omega) (by assumption) (by assumption), hsp])
        | (unfold WhileStep2
           dsimp only
           have hq := ‹_ = unescL (Txt.join (Str.ofString "") yc).cps.toList›
           refine ⟨_, _, _, _, x.length - (j + 1), rfl, by assumption, drop_mid (by assumption), by omega, lr, _, _, j + 1, er + 1, 0, _, [], yr ++ [_], [], rfl, rfl, rfl, rfl, rfl, by omega, by omega, by rw [List.length_append]; simp only [List.length_cons, List.length_nil]; omega, Nat.zero_le _, Nat.zero_le _, strsAre_snoc hR _ _, .nil, ?_, rfl⟩
           rw [cpsL_snoc, hq, join_empty, List.append_assoc]
           rw [sp_part (by decide) (by omega) (by rw [← comma_is]; assumption)] at hsp
           exact hsp)
        | skip
      rename_i yu tu hu9 tku hq hku h9 F9 hN tk9 kF kN Tc
      have hz := drop_end (x := x) (j := j) (by assumption)
      rw [hz, splitGo] at hsp
      refine ret lr _ _ (yr ++ [yu]) _ _ (strsAre_snoc hR yu tu) ?_ ((hN _ (List.Mem.tail _ (List.Mem.head _))).1.trans (congrArg some (lst_push vr _ _))) (fresh_of kG' (hN _ (List.Mem.tail _ (List.Mem.head _))).2.2 (by simp)) (inElt_of kG' (by assumption))
      rw [cpsL_snoc, hq, join_empty]
      exact hsp
    · passes_own
  · rename_i hN l1 kF kN Tc kX
    have hz : x.cps.toList = [] := by
      have q : (x.length : Int) = 0 := by assumption
      have hl : x.cps.toList.length = x.length := Array.length_toList
      exact List.length_eq_zero_iff.mp (by omega)
    refine ret _ [Value.str (Str.ofString "") _] 0 [Str.ofString ""] _ _ (.cons _ _ .nil) ?_ (hN _ (List.Mem.head _)).1 (fresh_of kG' (hN _ (List.Mem.head _)).2.2 (by simp)) (inElt_of kG' (by assumption))
    rw [hz]
    decide +kernel
end BL
end
-- part L1
section
set_option linter.unusedVariables false
open PySem PySem.W PySem.Spec PySem.Calls PyProof.Rows
set_option maxRecDepth 100000
set_option maxHeartbeats 8000000
set_option Elab.async false
namespace BL
local macro_rules | `(tactic| ktr_room) => `(tactic| ((try simp only [tc_depth, tc_units, depth_under_make, depth_under_kw, depth_in1, depth_deeper, units_in1, units_deeper, Around.mark_units, depth_mark]); (try dsimp only [ktrTop]); omega))
local macro_rules | `(tactic| k_enter) => `(tactic| (refine' code_defG ?ke1 ?ke2 ?ke3 ?ke4 ?ke5 ?keA ?keF ?keK ?ke6 ?ke7 ?ke8 ?ke9 ?keB ?_ ?ked2 ?ked3 ?ked4 ?ked5; (case keA => exact rfl); (case keF => exact rfl); (case keK => first | exact rfl | assumption); (case ke1 => k_asm); (case ke2 => k_asm); (case ke3 => k_asm); (case ke4 => k_asm); (case ke5 => k_asm); (case ke6 => k_is); (case ke7 => k_is); (case ke8 => ktr_room); (case ke9 => first | exact BindsTo.of_eq rfl | exact binds_K (by k_in) rfl (by k_is) rfl rfl rfl); (case ked5 => decide); (case keB => exact locs rfl); (case ked2 => exact rfl); (case ked3 => exact rfl); (case ked4 => exact rfl); intro g' L' h' FG' F' N' B' X' T' kG'; (try dsimp only); (try k_lift B'); (try k_fold)))
local macro_rules | `(tactic| walk_at "pad 0") => `(tactic| fail)
local macro_rules | `(tactic| walk_at "pad 1") => `(tactic| fail)
local macro_rules | `(tactic| walk_at "pad 2") => `(tactic| fail)
local macro_rules | `(tactic| walk_at "pad 3") => `(tactic| fail)
local macro_rules | `(tactic| walk_at "pad 4") => `(tactic| fail)
local macro_rules | `(tactic| walk_at "pad 5") => `(tactic| fail)
local macro_rules | `(tactic| walk_at "pad 6") => `(tactic| fail)
local macro_rules | `(tactic| walk_at "pad 7") => `(tactic| fail)
local macro_rules | `(tactic| walk_at "pad 8") => `(tactic| fail)
local macro_rules | `(tactic| walk_at "pad 9") => `(tactic| fail)
local macro_rules | `(tactic| walk_at "pad 10") => `(tactic| fail)
local macro_rules | `(tactic| walk_at "pad 11") => `(tactic| fail)
local macro_rules | `(tactic| walk_at "call ref") => `(tactic| (k_here; (with_reducible show wpAny _ _ (call (Value.ref 333) _) _ _ _); k_dflt ((refine' comma_call _ _ ?se1 ?se2 ?se3 ?se4 ?se5 ?se6 ?se7 ?se8 ?_; (case se1 => k_asm); (case se2 => k_asm); (case se3 => k_asm); (case se4 => k_asm); (case se5 => exact rfl); (case se6 => ktr_room); (case se7 => ktr_room); (case se8 => omega)); intro lq vq eq9 yq hq9 tkq hSq hcq hgq hfq hkq; (have Nq := news_in (by k_asm) (by k_asm) hfq hgq hkq); (have Fq := Fr.keeps (by k_asm) hkq); (have hlq := strs_len hSq hcq)); (try k_sweep)))
local macro_rules | `(tactic| walk_at "call ref") => `(tactic| (k_here; (with_reducible show wpAny _ _ (call (Value.ref 832) _) _ _ _); k_dflt ((refine' org_call _ _ ?se1 ?se2 ?se3 ?se4 ?se5 ?se6 ?se7 ?se8 ?_; (case se1 => k_asm); (case se2 => k_asm); (case se3 => k_asm); (case se4 => k_asm); (case se5 => exact rfl); (case se6 => ktr_room); (case se7 => ktr_room); (case se8 => omega)); intro lq vq yq hq9 tkq hSq hcq hgq hfq hkq; (have Nq := news_in (by k_asm) (by k_asm) hfq hgq hkq); (have Fq := Fr.keeps (by k_asm) hkq); (have hlq := strs_len hSq hcq)); (try k_sweep)))
local macro_rules | `(tactic| walk_at "call ref") => `(tactic| (k_here; (with_reducible show wpAny _ _ (call (Value.ref 542) _) _ _ _); k_dflt ((refine' vn_call _ _ ?se1 ?se2 ?se3 ?se4 ?se5 ?se6 ?se7 ?se8 ?_ ?_; (case se1 => k_asm); (case se2 => k_asm); (case se3 => k_asm); (case se4 => k_asm); (case se5 => exact rfl); (case se6 => ktr_room); (case se7 => ktr_room); (case se8 => omega)); first | (intro lq dq vq yq hq9 tkq hSq hcq hnq hgq hfq hkq; (have Nq := news_in (by k_asm) (by k_asm) hfq hgq hkq); (have Fq := Fr.keeps (by k_asm) hkq); (have hlq := strs_len hSq hcq)) | (intro eq9 yq nq hq9 tkq hcq hnq Rq Uq)); (try k_sweep)))
local macro_rules | `(tactic| walk_at "call ref") => `(tactic| (k_here; (with_reducible show wpAny _ _ (call (Value.ref 723) _) _ _ _); k_dflt ((refine' va_call _ _ ?se1 ?se2 ?se3 ?se4 ?se5 ?se6 ?se7 ?se8 ?_ ?_; (case se1 => k_asm); (case se2 => k_asm); (case se3 => k_asm); (case se4 => k_asm); (case se5 => exact rfl); (case se6 => ktr_room); (case se7 => ktr_room); (case se8 => omega)); first | (intro lq dq vq yq hq9 tkq hSq hcq hnq hgq hfq hkq; (have Nq := news_in (by k_asm) (by k_asm) hfq hgq hkq); (have Fq := Fr.keeps (by k_asm) hkq); (have hlq := strs_len hSq hcq)) | (intro eq9 yq nq hq9 tkq hcq hnq Rq Uq)); (try k_sweep)))
local macro_rules | `(tactic| walk_at "call type:list") => `(tactic| (k_here; (with_reducible show wpAny _ _ (call (Value.type "list") [Value.ref _]) _ _ _); k_dflt (have XK := Frag.In.keeps (by k_asm) (Fr.keep (by k_asm)); first
  | (refine' sub_list ?sl1 ?sl2 ?sl3 (nf_sub (by assumption)) (IsSub.here ?sl4) ?sl5 ?_; (case sl1 => rfl); (case sl2 => k_asm); (case sl3 => k_asm); (case sl4 => k_asm); (case sl5 => (rw [List.size_toArray]; omega)))
  | (refine' sub_list ?sl1 ?sl2 ?sl3 (af_sub (by assumption)) (IsSub.here ?sl4) ?sl5 ?_; (case sl1 => rfl); (case sl2 => k_asm); (case sl3 => k_asm); (case sl4 => k_asm); (case sl5 => (rw [List.size_toArray]; omega)))); intro D9 c9 h9 tk9 F9 N9 l9; (try k_sweep)))
theorem told_call {w : World} {dp un : Nat} {gd : Option (List Code)} {cn : Str} {cs : Scope} {L a : Addr} {ccd : Value} {cl : List (Str × Addr)} {outer : List Env} {A₀ : Around} {base h₀ : Heap} {m : Str → Option Value} {s : Shared} {Q E : Value → Shared → Prop}
    {p : Program} {loose : List Str} {mean : ExcName → Option Value} {mg mb : Str → Option Value} (x : Str) (t tk0 : Tok) (k : Int)
    (B : Below A₀ base outer h₀) (F : Fr h₀ L s.heap m) (X : (K w.params).In h₀) (T : Top p loose mean mg mb h₀) (hk : cs.kind = .function) (hd : dp + 50 < recursionLimit) (hu : un + 400 < cLine) (hx : x.length ≤ 1000) (hk0 : 0 ≤ k) (hk3 : k ≤ 3)
    (ret : ∀ l vs ep ys h' tk', StrsAre vs ys → cpsL ys = splitGo (if k = 3 then 44 else 59) [] x.cps.toList → (k = 0 → ys.length = 5) → (k = 2 → ys.length = 7) → h'.get? l = some (lst vs ep) → s.heap.get? l = none → InElt s.heap h' → Q (.ref l) { s with heap := h', toks := tk' })
    (bad : ∀ e ys news h' tk', cpsL ys = splitGo 59 [] x.cps.toList → (k = 0 ∧ ys.length ≠ 5 ∨ k = 2 ∧ ys.length ≠ 7) → RaisedN base (envX cn cs L a ccd cl :: outer) e (.type "ValueError") news h' → s.heap.UpToSlots h' → E (.ref e) { s with heap := h', toks := tk' }) :
    wpAny (model PySem.Challenge.rw_bl0008_01.row.prog w) (ktrTop dp un gd cn cs L a ccd cl outer) (call (.ref 895) [.int k tk0, .str x t]) Q E s := by
  revert X
  w_top off
  k_fill
  intro X
  have N : News h₀ L s.heap [] := News.nil
  refine wpAny_call ?_
  k_dflt k_enter
  k_steps
  all_goals (
    rename cpsL _ = _ => hc
    rename GSub s.heap _ _ => kG
    first
      | (rename_i F9 N9 l9 kF kN Tc kX
         rename StrsAre _ _ => hS
         exact ret _ _ _ _ _ _ hS (by first | (rw [if_neg (by omega)]; exact hc) | (rw [if_pos (by omega)]; exact hc)) (fun z => by have q := strsAre_len hS; omega) (fun z => by have q := strsAre_len hS; omega) (N9 _ (List.Mem.head _)).1 (fresh_of kG (N9 _ (List.Mem.head _)).2.2 (by simp)) (inElt_of kG F9))
      | (rename_i F9 N9 kF kN Tc kX
         rename StrsAre _ _ => hS
         exact ret _ _ _ _ _ _ hS (by first | (rw [if_neg (by omega)]; exact hc) | (rw [if_pos (by omega)]; exact hc)) (fun z => by have q := strsAre_len hS; omega) (fun z => by have q := strsAre_len hS; omega) (N9 _ (List.Mem.head _)).1 (fresh_of kG (N9 _ (List.Mem.head _)).2.2 (by simp)) (inElt_of kG F9))
      | (rename_i N9 F9 hl9 kF kN Tc kX
         rename StrsAre _ _ => hS
         exact ret _ _ _ _ _ _ hS (by first | (rw [if_neg (by omega)]; exact hc) | (rw [if_pos (by omega)]; exact hc)) (fun z => by have q := strsAre_len hS; omega) (fun z => by have q := strsAre_len hS; omega) (N9 _ (List.Mem.head _)).1 (fresh_of kG (N9 _ (List.Mem.head _)).2.2 (by simp)) (inElt_of kG F9))
      | (rename RaisedN _ (envX cn cs L a ccd cl :: outer) _ _ _ _ => R9
         rename Heap.UpToSlots _ _ => U9
         exact bad _ _ _ _ _ hc (by omega) R9 ((Heap.UpToSlots.of_keeps fun b o e => kG b o e (by simp)).trans U9)))
end BL
namespace BL
end BL
end
-- part Caught
section
set_option linter.unusedVariables false
open PySem PySem.W PySem.Spec PySem.Calls PyProof.Rows
set_option maxRecDepth 100000
set_option autoImplicit false
namespace BL
/-- an exception of a callee is caught in the frame, whatever cells the frame has -/
theorem caught_X {prog : Program} {w : World} {A : Around} {E : Value → Shared → Prop} {s' : Shared} {h₀ h : Heap} {outer : List Env} {L e : Addr} {m : Str → Option Value} {env : Env}
    {b₀ : Stmt} {suite : List Stmt} {pos np : Pos} {rest : List ExceptHandler} {Q : Flow → Shared → Prop} {news : List (Addr × Obj)} {x : Str} {X T' : String}
    (hA : A.frames = some (env :: outer)) (hf : env.frame = some L) (F : Fr h₀ L h m) (hsm : h.UpToSlots s'.heap) (R : RaisedN h₀ (env :: outer) e (.type X) news s'.heap)
    (hname : ∀ (h' : Heap) (Q E : Value → Shared → Prop), Fr h₀ L h' m → Q (.type T') { s' with heap := h' } → wpAny (model prog w) (A.mark (some (.ref e))) (eval (.Name x np) env) Q E { s' with heap := h' })
    (hexc : isSubtype (.type T') (.type "BaseException") = pure true) (hnt : isSubtype (.type ((Manifest.find? T').elim "type" fun y => y.metatype)) (.type "tuple") = pure false) (hsub : isSubtype (.type X) (.type T') = pure true)
    (k : ∀ h', Fr h₀ L h' m → wpAny (model prog w) (A.mark (some (.ref e))) (execs (b₀ :: suite) env) Q (fun _ _ => False) { s' with heap := h' }) :
    wpAny (model prog w) A (noteFrame (.ref e) env) (fun _ s₂ => wpAny (model prog w) A (setFlight (.ref e) none) (fun _ s₃ =>
        wpAny (model prog w) A (handleBy (.ref e) env (.ExceptHandler (some (.Name x np)) none (b₀ :: suite) pos :: rest)) Q E s₃) E s₂) E s' := by
  obtain ⟨B, a0, hB, hl, hfl⟩ := R
  refine wpAny_looks_onW hA hf hfl fun h₄ hheld₄ hsm₄ => ?_
  refine wpAny_landsW hheld₄ fun h₅ hheld hsm₅' => ?_
  have hsm₅ := hsm₄.trans hsm₅'
  have hheld' := flyingW_base hB hheld
  have F₅ := F.of_stays hheld'.1 (hsm.trans hsm₅)
  obtain ⟨ob, hob, hobc⟩ := hheld'.there
  refine wpAny_handleBy_builtin (X := X) (T := T') (b := true) hexc hnt hsub (hname _ _ _ F₅ ⟨rfl, ⟨ob, hob, hobc⟩, ?_⟩)
  refine lands_againW hheld fun h₆ hfl₆ hsm₆ => ?_
  have F₆ := F.of_stays (flyingW_base hB hfl₆).1 ((hsm.trans hsm₅).trans hsm₆)
  exact wpAny_noRaise (k h₆ F₆)
end BL
end
-- part LT6
section
set_option linter.unusedVariables false
open PySem PySem.W PySem.Spec PySem.Calls PyProof.Rows
set_option maxRecDepth 100000
set_option maxHeartbeats 8000000
set_option Elab.async false
namespace BL
local macro_rules | `(tactic| ktr_room) => `(tactic| ((try simp only [tc_depth, tc_units, depth_under_make, depth_under_kw, depth_in1, depth_deeper, units_in1, units_deeper, Around.mark_units, depth_mark]); (try dsimp only [ktrTop]); omega))
local macro_rules | `(tactic| k_room) => `(tactic| ktr_room)
local macro_rules | `(tactic| k_enter) => `(tactic| (refine' code_defG ?ke1 ?ke2 ?ke3 ?ke4 ?ke5 ?keA ?keF ?keK ?ke6 ?ke7 ?ke8 ?ke9 ?keB ?_ ?ked2 ?ked3 ?ked4 ?ked5; (case keA => exact rfl); (case keF => exact rfl); (case keK => first | exact rfl | assumption); (case ke1 => k_asm); (case ke2 => k_asm); (case ke3 => k_asm); (case ke4 => k_asm); (case ke5 => k_asm); (case ke6 => k_is); (case ke7 => k_is); (case ke8 => ktr_room); (case ke9 => first | exact BindsTo.of_eq rfl | exact binds_K (by k_in) rfl (by k_is) rfl rfl rfl); (case ked5 => decide); (case keB => exact locs rfl); (case ked2 => exact rfl); (case ked3 => exact rfl); (case ked4 => exact rfl); intro g' L' h' FG' F' N' B' X' T' kG'; (try dsimp only); (try k_lift B'); (try k_fold)))
local macro_rules | `(tactic| ktr_unf) => `(tactic| repeat' (first | (k_unfold; (try dsimp only)) | (k_end; wrow_close) | ((fail_if_success (first | (with_reducible show wpAny _ _ (execs (Stmt.If _ _ _ _ :: _) _) _ _ _))); (first | walk1 | (dsimp only; walk1))) | fail "no step"))
local macro_rules | `(tactic| walk_at "call ref") => `(tactic| (k_here; (with_reducible show wpAny _ _ (call (Value.ref 895) _) _ _ _); k_dflt ((refine' told_call _ _ _ _ ?to1 ?to2 ?to3 ?to4 ?to5 ?to6 ?to7 ?to8 ?to9 ?toa ?_ ?_; (case to1 => k_asm); (case to2 => k_asm); (case to3 => k_asm); (case to4 => k_asm); (case to5 => exact rfl); (case to6 => ktr_room); (case to7 => ktr_room); (case to8 => omega); (case to9 => omega); (case toa => omega)); first | (intro lq vq eq9 yq hq9 tkq hSq hcq h5q h7q hgq hfq hkq; (have Nq := news_in (by k_asm) (by k_asm) hfq hgq hkq); (have Fq := Fr.keeps (by k_asm) hkq)) | (intro eq9 yq nq hq9 tkq hcq hnq Rq Uq)); (try k_sweep)))
theorem ws_ne {p : Nat} {ts os : List (List Nat)} (h : Ws p ts os) (hn : 1 ≤ ts.length) : os ≠ [] := by
  cases h with
  | nil => simp at hn
  | cons => simp
theorem law_t6 {w : World} {dp un : Nat} {gd : Option (List Code)} {L a : Addr} {ccd : Value} {A₀ : Around} {h₀ : Heap} {s : Shared} {Q : Flow → Shared → Prop} {E : Value → Shared → Prop}
    {p : Program} {loose : List Str} {mean : ExcName → Option Value} {mg mb : Str → Option Value} {outer : List Env} (c1 c2 l0 st D Df : Addr) (o2 : Obj) (fvs : List Value) (css : List (List Nat)) (kind more many : Int) (tk1 tk2 tk3 : Tok) (pt : Nat) (out : Str) (to : Tok) (os : List (List Nat))
    (B : Below A₀ h₀ outer h₀) (X : (K w.params).In h₀) (T : Top p loose mean mg mb h₀) (hd : dp + 100 < recursionLimit) (hu : un + 1000 < cLine)
    (F : Fr h₀ L s.heap (fun y => if y = S "out" then some (.str out to) else if y = S "fields" then some (.ref Df) else if y = S "texts" then some (.ref D) else if y = S "many" then some (.int many tk3) else if y = S "more" then some (.int more tk2) else if y = S "kind" then some (.int kind tk1) else if y = S "script" then some (.ref l0) else none))
    (N : News h₀ L s.heap ((Df, LCg.lst fvs) :: [(c2, o2)])) (hkm : KM kind many) (hpt : pt = if kind = 3 then 44 else 59) (hW : Ws pt css os) (hout : out.cps.toList = joinL pt os) (hol : out.length ≤ 100) (hmany : (css.length : Int) = many)
    (next : ∀ (lt : Addr) (vt : List Value) (et : Nat) (ys : List Str) h' tk', StrsAre vt ys → cpsL ys = css → many ≠ 6 → many ≠ 8 → Fr h₀ L h' (fun y => if y = S "told" then some (.ref lt) else if y = S "out" then some (.str out to) else if y = S "fields" then some (.ref Df) else if y = S "texts" then some (.ref D) else if y = S "many" then some (.int many tk3) else if y = S "more" then some (.int more tk2) else if y = S "kind" then some (.int kind tk1) else if y = S "script" then some (.ref l0) else none) → News h₀ L h' ((lt, lst vt et) :: ((Df, LCg.lst fvs) :: [(c2, o2)])) → wpAny (model PySem.Challenge.rw_bl0008_01.row.prog w) (ktrTop dp un gd "law" lawScope L a ccd [(S "part", c2), (S "state", c1)] outer) (execs (lawBody.drop 9) (envX "law" lawScope L a ccd [(S "part", c2), (S "state", c1)])) Q E { s with heap := h', toks := tk' })
    (bad : ∀ h' tk', (∀ b o, h₀.get? b = some o → h'.get? b = some o) → Q (.ret (.bool true)) { s with heap := h', toks := tk' }) :
    wpAny (model PySem.Challenge.rw_bl0008_01.row.prog w) (ktrTop dp un gd "law" lawScope L a ccd [(S "part", c2), (S "state", c1)] outer) (execs (lawBody.drop 8) (envX "law" lawScope L a ccd [(S "part", c2), (S "state", c1)])) Q E s := by
  have hk01 : 0 ≤ kind ∧ kind ≤ 3 := by unfold KM at hkm; omega
  obtain ⟨hk0, hk3⟩ := hk01
  revert X
  w_top off
  k_fill
  intro X
  conv in (occs := *) lawScope => all_goals whnf
  conv in (List.drop 8 lawBody) => whnf
  ktr_unf
  refine wpAny_Try_except ?_
  ktr_unf
  · rename Fr h₀ L _ _ => F9
    rename News h₀ L _ _ => N9
    rename StrsAre _ _ => hS
    rename cpsL _ = _ => hc
    rw [← hpt, hout, split_join (by rw [hpt]; split <;> decide) hW (ws_ne hW (by unfold KM at hkm; omega))] at hc
    have e2 := congrArg List.length hc
    rw [cpsL, List.length_map] at e2
    rename kind = 0 → _ => h05
    rename kind = 2 → _ => h27
    refine next _ _ _ _ _ _ hS hc (by unfold KM at hkm; omega) (by unfold KM at hkm; omega) F9 N9
  · rename RaisedN _ _ _ _ _ _ => R9
    rename Heap.UpToSlots _ _ => U9
    rename cpsL _ = _ => hc
    have hm68 : many = 6 ∨ many = 8 := by
      rename (kind = 0 ∧ _ ∨ kind = 2 ∧ _) => hn
      have e3 : ¬ kind = 3 := by omega
      have e1 : pt = 59 := by rw [hpt, if_neg e3]
      subst e1
      rw [hout, split_join (by decide) hW (ws_ne hW (by unfold KM at hkm; omega))] at hc
      have e2 := congrArg List.length hc
      rw [cpsL, List.length_map] at e2
      unfold KM at hkm
      omega
    refine caught_X (outer := outer) rfl rfl F U9 R9 ?hn PySem.F.isExc_ValueError PySem.F.notTuple_ValueError (by rw [isSubtype_type]; kernel_rfl) ?hk
    case hn =>
      intro h' Q E F9 q
      ktr_unf
      exact q
    case hk =>
      intro h' F9
      have N9 : News h₀ L h' [] := News.nil
      ktr_unf
      rename Fr h₀ L _ _ => F8
      have e : ([6, 8].any fun x => x == many) = true := by
        rcases hm68 with h | h <;> rw [h] <;> decide
      rw [e]
      exact bad _ _ F8.keep
end BL
namespace BL
end BL
end
-- part EqS
section
set_option linter.unusedVariables false
open PySem PySem.W PySem.Spec PySem.Calls PyProof.Rows
set_option maxRecDepth 100000
set_option autoImplicit false
namespace BL
theorem es_canLay : ∀ ns : List Str, (∀ y ∈ ns, PyData.strOk y = true) → PyData.canLayAll0 (ns.map PyData.str) = true
  | [], _ => rfl
  | y :: r, h => by simp [PyData.canLayAll0, PyData.canLay0, es_canLay r (fun z hz => h z (.tail _ hz)), h y (.head _)]
theorem es_depth : ∀ ns : List Str, PyData.depthAll (ns.map PyData.str) = 0
  | [] => rfl
  | _ :: r => by simp [PyData.depthAll, PyData.depth, es_depth r]
theorem es_shaped (ns : List Str) (h : ∀ y ∈ ns, PyData.strOk y = true) : SeqAt.shaped (.list (ns.map PyData.str)) = true := by
  simp [SeqAt.shaped, PyData.canLay0, PyData.depth, es_canLay ns h, es_depth]
theorem es_sameAll : ∀ ns ms : List Str, PySem.Spec.sameAll (ns.map PyData.str) (ms.map PyData.str) = decide (ns = ms)
  | [], [] => by simp [PySem.Spec.sameAll]
  | [], _ :: _ => by simp [PySem.Spec.sameAll]
  | _ :: _, [] => by simp [PySem.Spec.sameAll]
  | a :: r, b :: t => by
    simp only [List.map_cons, PySem.Spec.sameAll, PySem.Spec.same, es_sameAll r t]
    by_cases h : a = b <;> by_cases h' : r = t <;> simp [h, h']
theorem es_same (ns ms : List Str) : PySem.Spec.same (.list (ns.map PyData.str)) (.list (ms.map PyData.str)) = decide (ns = ms) := by
  simp only [PySem.Spec.same]; exact es_sameAll ns ms
theorem es_carried {vs : List Value} {ns : List Str} (h : StrsAre vs ns) : CarriedAll vs (ns.map PyData.str) := by
  induction h with
  | nil => exact .nil
  | cons y t _ ih => exact .cons (.str _ t) ih
section
variable {prog : Program} {w : World} {A : Around} {E : Value → Shared → Prop} {s : Shared} {a b : Addr} {xs ys : List Value} {ns ms : List Str} {Q : Value → Shared → Prop}
/-- two lists of texts, compared -/
theorem es_ne (ha : s.heap.IsList a xs.toArray) (hb : s.heap.IsList b ys.toArray) (hi : StrsAre xs ns) (hj : StrsAre ys ms) (o1 : ∀ y ∈ ns, PyData.strOk y = true) (o2 : ∀ y ∈ ms, PyData.strOk y = true) (hu : A.units + 64 < cLine) (h : Q (.bool (!decide (ns = ms))) s) :
    wpAny (model prog w) A (compareOp .NotEq (.ref a) (.ref b)) Q E s :=
  ne_dataH_same (reads_newData ha (es_carried hi)) (reads_newData hb (es_carried hj)) (es_shaped _ o1) (es_shaped _ o2) hu (SeqAt.noMix_of_shape (.list .str) rfl _ _ (list_map_has fun _ => rfl) (list_map_has fun _ => rfl)) (by rw [es_same]; exact h)
end
end BL
end
-- part Sg7
section
set_option linter.unusedVariables false
open PySem PySem.W PySem.Spec PySem.Calls PyProof.Rows
set_option maxRecDepth 100000
set_option maxHeartbeats 8000000
set_option Elab.async false
namespace BL
/-- short lists of signs -/
def Sg (css : List (List Nat)) : Prop := ∀ cs ∈ css, cs.length ≤ 3 ∧ ∀ c ∈ cs, Sign c
theorem TX.sg {bad : List Nat} {rs ts css} (h : TX bad rs ts css) : Sg css := by
  induction h with
  | nil => intro cs h; cases h
  | snoc a vt et cs _ hS hl hs _ ih =>
    intro c hc
    rcases List.mem_append.mp hc with hc | hc
    · exact ih c hc
    · rw [List.mem_singleton.mp hc]
      have := strsAre_len hS
      rw [List.length_map] at this
      exact ⟨by omega, hs⟩
theorem sign_lt {c : Nat} (h : Sign c) : c < 234 := by
  have h' : c ∈ [97, 110, 59, 44, 58, 92, 10, 34, 233, 32] := h
  simp only [List.mem_cons, List.not_mem_nil, or_false] at h'
  omega
theorem strOk_sg {cs : List Nat} (h : ∀ c ∈ cs, Sign c) : PyData.strOk (ofL cs) = true := by
  unfold PyData.strOk
  show cs.toArray.all (· < 0x110000) = true
  rw [List.all_toArray, List.all_eq_true]
  intro c hc
  have := sign_lt (h c hc)
  simp; omega
theorem strOk_all {css : List (List Nat)} (h : Sg css) : ∀ y ∈ css.map ofL, PyData.strOk y = true := by
  intro y hy
  obtain ⟨cs, hc, rfl⟩ := List.mem_map.mp hy
  exact strOk_sg (h cs hc).2
theorem ys_of {ys : List Str} {css : List (List Nat)} (h : cpsL ys = css) : ys = css.map ofL := by
  subst h
  rw [cpsL, List.map_map]
  have : ∀ y : Str, (ofL ∘ fun y : Str => y.cps.toList) y = y := fun y => (ofL_of (x := y) rfl).symm
  rw [List.map_congr_left (fun y _ => this y), List.map_id']
theorem es_ne_same {prog : Program} {w : World} {A : Around} {E : Value → Shared → Prop} {s : Shared} {a b : Addr} {xs ys : List Value} {ns : List Str} {Q : Value → Shared → Prop} (ha : s.heap.IsList a xs.toArray) (hb : s.heap.IsList b ys.toArray) (hi : StrsAre xs ns) (hj : StrsAre ys ns) (o1 : ∀ y ∈ ns, PyData.strOk y = true) (hu : A.units + 64 < cLine) (h : Q (.bool false) s) :
    wpAny (model prog w) A (compareOp .NotEq (.ref a) (.ref b)) Q E s := es_ne ha hb hi hj o1 o1 hu (by simpa using h)
end BL
end
-- part LT7
section
set_option linter.unusedVariables false
open PySem PySem.W PySem.Spec PySem.Calls PyProof.Rows
set_option maxRecDepth 100000
set_option maxHeartbeats 8000000
set_option Elab.async false
namespace BL
local macro_rules | `(tactic| ktr_room) => `(tactic| ((try simp only [tc_depth, tc_units, depth_under_make, depth_under_kw, depth_in1, depth_deeper, units_in1, units_deeper, Around.mark_units, depth_mark]); (try dsimp only [ktrTop]); omega))
local macro_rules | `(tactic| k_room) => `(tactic| ktr_room)
local macro_rules | `(tactic| k_enter) => `(tactic| (refine' code_defG ?ke1 ?ke2 ?ke3 ?ke4 ?ke5 ?keA ?keF ?keK ?ke6 ?ke7 ?ke8 ?ke9 ?keB ?_ ?ked2 ?ked3 ?ked4 ?ked5; (case keA => exact rfl); (case keF => exact rfl); (case keK => first | exact rfl | assumption); (case ke1 => k_asm); (case ke2 => k_asm); (case ke3 => k_asm); (case ke4 => k_asm); (case ke5 => k_asm); (case ke6 => k_is); (case ke7 => k_is); (case ke8 => ktr_room); (case ke9 => first | exact BindsTo.of_eq rfl | exact binds_K (by k_in) rfl (by k_is) rfl rfl rfl); (case ked5 => decide); (case keB => exact locs rfl); (case ked2 => exact rfl); (case ked3 => exact rfl); (case ked4 => exact rfl); intro g' L' h' FG' F' N' B' X' T' kG'; (try dsimp only); (try k_lift B'); (try k_fold)))
local macro_rules | `(tactic| ktr_unf) => `(tactic| repeat' (first | (k_unfold; (try dsimp only)) | (k_end; wrow_close) | ((fail_if_success (with_reducible show wpAny _ _ (execs (Stmt.Assign _ (PySem.Expr.ListComp _ _ _ _) _ :: _) _) _ _ _)); (first | walk1 | (dsimp only; walk1))) | fail "no step"))
local macro_rules | `(tactic| walk_at "pad 0") => `(tactic| fail)
local macro_rules | `(tactic| walk_at "compareOp NotEq ref ref") => `(tactic| (k_here; k_dflt (refine es_ne_same (News.isList (by k_asm) (by k_mem)) (News.isList (by k_asm) (by k_mem)) (by assumption) (by assumption) (by assumption) (by ktr_room) ?_)))
theorem law_t7 {w : World} {dp un : Nat} {gd : Option (List Code)} {L a : Addr} {ccd : Value} {A₀ : Around} {h₀ : Heap} {s : Shared} {Q : Flow → Shared → Prop} {E : Value → Shared → Prop}
    {p : Program} {loose : List Str} {mean : ExcName → Option Value} {mg mb : Str → Option Value} {outer : List Env} (c1 c2 l0 D Df lt : Addr) (o2 : Obj) (fvs vt : List Value) (et : Nat) (ys : List Str) (css : List (List Nat)) (kind more many : Int) (tk1 tk2 tk3 : Tok) (out : Str) (to : Tok)
    (B : Below A₀ h₀ outer h₀) (X : (K w.params).In h₀) (T : Top p loose mean mg mb h₀) (hd : dp + 100 < recursionLimit) (hu : un + 1000 < cLine)
    (F : Fr h₀ L s.heap (fun y => if y = S "told" then some (.ref lt) else if y = S "out" then some (.str out to) else if y = S "fields" then some (.ref Df) else if y = S "texts" then some (.ref D) else if y = S "many" then some (.int many tk3) else if y = S "more" then some (.int more tk2) else if y = S "kind" then some (.int kind tk1) else if y = S "script" then some (.ref l0) else none))
    (N : News h₀ L s.heap ((lt, lst vt et) :: (Df, LCg.lst fvs) :: [(c2, o2)])) (hfv : StrsAre fvs (css.map ofL)) (hS : StrsAre vt ys) (hys : cpsL ys = css) (hsg : Sg css) (h6 : many ≠ 6) (h8 : many ≠ 8)
    (next : ∀ h' tk', Fr h₀ L h' (fun y => if y = S "told" then some (.ref lt) else if y = S "out" then some (.str out to) else if y = S "fields" then some (.ref Df) else if y = S "texts" then some (.ref D) else if y = S "many" then some (.int many tk3) else if y = S "more" then some (.int more tk2) else if y = S "kind" then some (.int kind tk1) else if y = S "script" then some (.ref l0) else none) → News h₀ L h' ((Df, LCg.lst fvs) :: [(c2, o2)]) → wpAny (model PySem.Challenge.rw_bl0008_01.row.prog w) (ktrTop dp un gd "law" lawScope L a ccd [(S "part", c2), (S "state", c1)] outer) (execs (lawBody.drop 10) (envX "law" lawScope L a ccd [(S "part", c2), (S "state", c1)])) Q E { s with heap := h', toks := tk' }) :
    wpAny (model PySem.Challenge.rw_bl0008_01.row.prog w) (ktrTop dp un gd "law" lawScope L a ccd [(S "part", c2), (S "state", c1)] outer) (execs (lawBody.drop 9) (envX "law" lawScope L a ccd [(S "part", c2), (S "state", c1)])) Q E s := by
  rw [ys_of hys] at hS
  have hok := strOk_all hsg
  revert X
  w_top off
  k_fill
  intro X
  conv in (occs := *) lawScope => all_goals whnf
  conv in (List.drop 9 lawBody) => whnf
  ktr_unf
  · rename List.any _ _ = true => h9
    simp at h9
    omega
  · rename Fr h₀ L _ _ => F9
    rename News h₀ L _ _ => N9
    exact next _ _ F9 (fun p hp => N9 p (.tail _ (.tail _ hp)))
end BL
namespace BL
end BL
end
-- part Utf1
section
set_option linter.unusedVariables false
set_option linter.unusedSimpArgs false
open PySem PySem.W PySem.Spec PySem.Calls PyProof.Rows Builtin Builtin._codecs
set_option maxRecDepth 100000
set_option maxHeartbeats 4000000
namespace BL
def encB (l : List Nat) : List UInt8 := l.flatMap Str.utf8Of
theorem foldl_enc : ∀ (l : List Nat) (a : Array UInt8), l.foldl (fun acc y => acc ++ (Str.utf8Of y).toArray) a = a ++ (encB l).toArray
  | [], a => by simp [encB]
  | c :: r, a => by
    rw [List.foldl_cons, foldl_enc r]
    simp [encB, Array.append_assoc]
theorem utf8Of_len (c : Nat) : (Str.utf8Of c).length ≤ 4 := by
  unfold Str.utf8Of
  split
  · simp
  · split
    · simp
    · split <;> simp
theorem encB_len : ∀ l : List Nat, (encB l).length ≤ 4 * l.length
  | [] => by simp [encB]
  | c :: r => by
    have := encB_len r
    have := utf8Of_len c
    simp only [encB, List.flatMap_cons, List.length_append, List.length_cons] at *
    omega
theorem forIn_two {β : Type} (n : Nat) (a b : β) (f : Nat → β → Sem (ForInStep β)) (h1 : ∀ k, f k a = pure (.yield b)) (h2 : ∀ k, f k b = pure (.done b)) : forIn [0 : n + 1] a f = pure b := by
  simp only [Std.Legacy.Range.forIn_eq_forIn_range', Std.Legacy.Range.size]
  simp only [Nat.sub_zero, Nat.add_sub_cancel, Nat.div_one, List.range'_succ, List.forIn_cons, h1, pure_bind]
  cases n with
  | zero => simp
  | succ m => simp only [List.range'_succ, List.forIn_cons, h2, pure_bind]
theorem enc_narrow (id : String) (self : Value) (l : List Nat) (h : ∀ c ∈ l, Str.isSurrogate c = false) (hz : l.length ≤ 1000) : encodeNarrow id utf8Codec none self ⟨l.toArray⟩ = pure (encB l).toArray := by
  have hf : l.findIdx? utf8Codec.bad = none := by
    rw [List.findIdx?_eq_none_iff]
    exact h
  have hle : (encB l).length ≤ sizeLine := by
    have := encB_len l
    rw [sizeLine_eq]
    omega
  cases l with
  | nil => simp [encodeNarrow, encB, Str.length, Std.Legacy.Range.forIn_eq_forIn_range', Std.Legacy.Range.size]
  | cons c r =>
    have hc : utf8Codec.bad c = false := h c (.head _)
    unfold encodeNarrow
    show (forIn [0 : r.length + 1] _ _ >>= _) = _
    rw [forIn_two _ _ ((c :: r).length, (encB (c :: r)).toArray, ({} : Faults))]
    · rfl
    · intro k
      dsimp only
      rw [if_neg (by simp)]
      simp only [List.getElem?_toArray, List.getElem?_cons_zero, hc, Bool.not_false, if_true]
      have e1 : ({ cps := (c :: r).toArray } : Str).cps.extract 0 = (c :: r).toArray := by simp
      have e2 : Array.findIdx? utf8Codec.bad (c :: r).toArray = none := by simpa using hf
      rw [e1, e2]
      have e3 : ((c :: r).toArray.extract 0 ((none : Option Nat).getD (c :: r).toArray.size)) = (c :: r).toArray := by simp
      rw [e3]
      have e4 : Array.foldl (fun acc y => acc ++ (utf8Codec.bytesOf y).toArray) #[] (c :: r).toArray = (encB (c :: r)).toArray := by
        rw [List.foldl_toArray]
        exact (foldl_enc (c :: r) #[]).trans (by simp)
      rw [e4]
      simp
    · intro k
      dsimp only
      rw [if_neg (by simpa using Nat.not_lt.mpr hle)]
      simp
end BL
end
-- part Utf2
section
set_option linter.unusedVariables false
set_option linter.unusedSimpArgs false
open PySem PySem.W PySem.Spec PySem.Calls PyProof.Rows Builtin Builtin._codecs
set_option maxRecDepth 100000
set_option maxHeartbeats 4000000
namespace BL
theorem forIn_walk {β : Type} (l : List Nat) (st : List Nat → β) (f : Nat → β → Sem (ForInStep β)) (h1 : ∀ k l₁ c l₂, l = l₁ ++ c :: l₂ → f k (st l₁) = pure (.yield (st (l₁ ++ [c])))) (h2 : ∀ k, f k (st l) = pure (.done (st l))) :
    ∀ (ks : List Nat) (l₁ l₂ : List Nat), l = l₁ ++ l₂ → l₂.length ≤ ks.length → forIn ks (st l₁) f = pure (st l)
  | [], l₁, l₂, e, hl => by
    have : l₂ = [] := List.eq_nil_of_length_eq_zero (Nat.le_zero.mp hl)
    subst this
    rw [List.append_nil] at e
    rw [e]
    rfl
  | k :: ks, l₁, [], e, hl => by
    rw [List.append_nil] at e
    rw [List.forIn_cons, ← e, h2, pure_bind]
  | k :: ks, l₁, c :: l₂, e, hl => by
    rw [List.forIn_cons, h1 k l₁ c l₂ e, pure_bind]
    exact forIn_walk l st f h1 h2 ks (l₁ ++ [c]) l₂ (by simpa using e) (by simpa using hl)
/-- the signs of the texts: ASCII, and é -/
def Plain7 (c : Nat) : Prop := c < 128 ∨ c = 233
theorem encB_append (a b : List Nat) : encB (a ++ b) = encB a ++ encB b := by simp [encB]
theorem encB_cons (c : Nat) (b : List Nat) : encB (c :: b) = Str.utf8Of c ++ encB b := by simp [encB]
theorem utf8At_enc {l₁ l₂ : List Nat} {c : Nat} (h : Plain7 c) : Bytes.utf8At (encB (l₁ ++ c :: l₂)).toArray (encB l₁).length = (.char c, (encB (l₁ ++ [c])).length) := by
  rw [encB_append, encB_cons, encB_append, encB_cons]
  rcases h with h | rfl
  · have e1 : Str.utf8Of c = [c.toUInt8] := by unfold Str.utf8Of; rw [if_pos h]
    have e2 : ((encB l₁ ++ (Str.utf8Of c ++ encB l₂)).toArray.getD (encB l₁).length 0) = c.toUInt8 := by
      rw [e1]
      simp [Array.getD]
    unfold Bytes.utf8At
    rw [e2]
    have e3 : c.toUInt8.toNat = c := by
      rw [Nat.toUInt8_eq, UInt8.toNat_ofNat']
      omega
    dsimp only
    rw [e3, if_pos h, e1]
    simp [encB]
  · have e1 : Str.utf8Of 233 = [195, 169] := by decide
    have e2 : ((encB l₁ ++ (Str.utf8Of 233 ++ encB l₂)).toArray.getD (encB l₁).length 0) = 195 := by
      rw [e1]
      simp [Array.getD]
    have e4 : (encB l₁ ++ (Str.utf8Of 233 ++ encB l₂)).toArray[(encB l₁).length + 1]? = some 169 := by
      rw [e1]
      simp
    have e5 : (encB l₁ ++ (Str.utf8Of 233 ++ encB [])).length = (encB l₁).length + 2 := by
      rw [e1]
      simp [encB]
    unfold Bytes.utf8At
    rw [e2, e5]
    generalize (encB l₁ ++ (Str.utf8Of 233 ++ encB l₂)).toArray = b at e4
    generalize (encB l₁).length = n at e4
    have e6 : ([1] : List Nat).foldl (fun (acc : Except (Nat × String) Nat) (k : Nat) => acc.bind fun v => match b[n + k]? with
        | none => Except.error (b.size, "unexpected end of data")
        | some x => if ((if k == 1 then 128 else 128) ≤ x.toNat && x.toNat ≤ (if k == 1 then 191 else 191)) = true then Except.ok (v * 64 + x.toNat % 64) else Except.error (n + k, "invalid continuation byte")) (Except.ok 3) = Except.ok 233 := by
      simp only [List.foldl_cons, List.foldl_nil, Except.bind]
      rw [e4]
      rfl
    have e7 : ∀ z : Except (Nat × String) Nat, z = Except.ok 233 → (match z with
      | .ok v => (Bytes.Piece.char v, n + 1 + 1)
      | .error (stop, reason) => (Bytes.Piece.bad n stop reason, stop)) = (Bytes.Piece.char 233, n + 2) := fun z e => by rw [e]
    exact e7 _ e6
theorem run_dec (id : String) (l : List Nat) (h : ∀ c ∈ l, Plain7 c) (hz : l.length ≤ 1000) : runDecoder id utf8Decoder none true (encB l).toArray 0 [] = pure (l.toArray, (encB l).length) := by
  have hle : l.length ≤ (encB l).length := by
    clear hz
    induction l with
    | nil => simp
    | cons c r ih =>
      have := ih (fun c hc => h c (.tail _ hc))
      rw [encB_cons, List.length_append]
      have : 1 ≤ (Str.utf8Of c).length := by unfold Str.utf8Of; split <;> (try split) <;> (try split) <;> simp
      simp only [List.length_cons]
      omega
  unfold runDecoder
  dsimp only
  simp only [Std.Legacy.Range.forIn_eq_forIn_range', Std.Legacy.Range.size]
  refine (congrArg (· >>= _) (forIn_walk l (fun a => ((encB a).length, a.toArray, ({ held := [] } : Faults))) _ ?_ ?_ _ [] l rfl ?_)).trans ?_
  · intro k l₁ c l₂ e
    dsimp only
    have hc : Plain7 c := h c (by rw [e]; simp)
    have hl1 : ¬ l₁.toArray.size > sizeLine := by
      have : l.length = l₁.length + (l₂.length + 1) := by rw [e]; simp
      rw [sizeLine_eq, List.size_toArray]
      omega
    rw [if_neg hl1]
    have hp : ¬ (encB l₁).length ≥ (encB l).toArray.size := by
      rw [e, encB_append, encB_cons, List.size_toArray, List.length_append, List.length_append]
      have : 1 ≤ (Str.utf8Of c).length := by unfold Str.utf8Of; split <;> (try split) <;> (try split) <;> simp
      omega
    rw [if_neg hp]
    have hfd : utf8Decoder.find true (encB l).toArray (encB l₁).length = .char c (encB (l₁ ++ [c])).length := by
      show (match Bytes.utf8At (encB l).toArray (encB l₁).length with
        | (.char c, nx) => Found.char c nx
        | (.bad _ stop reason, _) => _) = _
      rw [e, utf8At_enc hc]
    rw [hfd]
    show (pure (ForInStep.yield _) : Sem _) = _
    simp
  · intro k
    dsimp only
    have hl1 : ¬ l.toArray.size > sizeLine := by
      rw [sizeLine_eq, List.size_toArray]
      omega
    rw [if_neg hl1, if_pos (by simp)]
  · simpa using hle
  · rfl
end BL
end
-- part Rep
section
set_option linter.unusedVariables false
set_option linter.unusedSimpArgs false
open PySem PySem.StrLaws Builtin Builtin.Str
set_option maxRecDepth 100000
set_option maxHeartbeats 4000000
namespace BL
/-- one sign turned to a text, all along -/
def subL (c : Nat) (z l : List Nat) : List Nat := l.flatMap fun d => if d = c then z else [d]
theorem subL_append (c : Nat) (z a b : List Nat) : subL c z (a ++ b) = subL c z a ++ subL c z b := by simp [subL]
theorem subL_free (c : Nat) (z : List Nat) : ∀ l : List Nat, c ∉ l → subL c z l = l
  | [], _ => rfl
  | d :: r, h => by
    have h1 : ¬ d = c := fun e => h (by simp [e])
    have h2 : c ∉ r := fun m => h (by simp [m])
    have ih := subL_free c z r h2
    simp only [subL, List.flatMap_cons, if_neg h1] at ih ⊢
    rw [ih]
    rfl
theorem subL_join (c : Nat) (z : PySem.Str) : ∀ parts : List PySem.Str, (∀ p ∈ parts, c ∉ p.cps.toList) → subL c z.cps.toList (Str.join ⟨#[c]⟩ parts).cps.toList = (Str.join z parts).cps.toList
  | [], _ => rfl
  | [p], h => subL_free c _ _ (h p (.head _))
  | p :: q :: r, h => by
    have ih := subL_join c z (q :: r) fun a ha => h a (.tail _ ha)
    show subL c z.cps.toList (p ++ ⟨#[c]⟩ ++ Str.join ⟨#[c]⟩ (q :: r)).cps.toList = (p ++ z ++ Str.join z (q :: r)).cps.toList
    simp only [Str.cps_append, Array.toList_append]
    rw [subL_append, subL_append, ih, subL_free c _ _ (h p (.head _))]
    simp [subL]
theorem rep_flat (x z : PySem.Str) (c : Nat) : (Txt.replace x ⟨#[c]⟩ z).cps.toList = subL c z.cps.toList x.cps.toList := by
  rw [replace_one, ← subL_join c z _ (split_free x c), join_split]
theorem str_ext {x y : PySem.Str} (h : x.cps.toList = y.cps.toList) : x = y := by
  obtain ⟨⟨a⟩⟩ := x
  obtain ⟨⟨b⟩⟩ := y
  cases h
  rfl
theorem rep_same {x z : PySem.Str} {c : Nat} (h : c ∉ x.cps.toList) : Txt.replace x ⟨#[c]⟩ z = x := str_ext ((rep_flat x z c).trans (subL_free c _ _ h))
theorem mem_rep {x z : PySem.Str} {c d : Nat} (h : d ∈ (Txt.replace x ⟨#[c]⟩ z).cps.toList) : d ∈ x.cps.toList ∨ d ∈ z.cps.toList := by
  rw [rep_flat] at h
  simp only [subL, List.mem_flatMap] at h
  obtain ⟨e, he, hd⟩ := h
  split at hd
  · exact .inr hd
  · exact .inl (by simp at hd; rw [hd]; exact he)
theorem len_rep {x z : PySem.Str} {c k : Nat} (hk : 1 ≤ k) (hz : z.length ≤ k) : (Txt.replace x ⟨#[c]⟩ z).length ≤ x.length * k := by
  have e : (Txt.replace x ⟨#[c]⟩ z).length = (subL c z.cps.toList x.cps.toList).length := by
    rw [← rep_flat]; simp [Str.length]
  rw [e]
  have hx : x.length = x.cps.toList.length := by simp [Str.length]
  rw [hx]
  have hz' : z.cps.toList.length ≤ k := by simpa [Str.length] using hz
  generalize x.cps.toList = l
  induction l with
  | nil => simp [subL]
  | cons d r ih =>
    have h1 : (if d = c then z.cps.toList else [d]).length ≤ k := by split <;> simp_all
    simp only [subL, List.flatMap_cons, List.length_append, List.length_cons] at ih ⊢
    calc _ ≤ k + r.length * k := Nat.add_le_add h1 ih
      _ = (r.length + 1) * k := by rw [Nat.add_mul, Nat.one_mul, Nat.add_comm]
/-- a text that holds a sign that is not there, nowhere -/
theorem occ_none {x y : PySem.Str} {d : Nat} (hd : d ∈ y.cps.toList) (hx : d ∉ x.cps.toList) : (occurrences x y 0 x.length (x.length + 1)).isEmpty = true := by
  obtain ⟨f, h⟩ := occ_chain x y (x.length + 1)
  cases ho : occurrences x y 0 x.length (x.length + 1) with
  | nil => rfl
  | cons i r =>
    rw [ho] at h
    have hm : subAt x y i = true := h.2.1.2
    rw [subAt_eq] at hm
    have e := eq_of_beq hm
    rw [← e] at hd
    exact absurd (List.mem_of_mem_drop (List.mem_of_mem_take hd)) hx
theorem rep_none {x y z : PySem.Str} {d : Nat} (hd : d ∈ y.cps.toList) (hx : d ∉ x.cps.toList) : Txt.replace x y z = x := by
  unfold Txt.replace
  rw [occ_none hd hx, Bool.true_or, if_pos rfl]
/-- what the law's replaces make of a field -/
def escT (x : PySem.Str) : PySem.Str := Txt.replace (Txt.replace (Txt.replace (Txt.replace x ⟨#[92]⟩ ⟨#[92, 92]⟩) ⟨#[59]⟩ ⟨#[92, 59]⟩) ⟨#[44]⟩ ⟨#[92, 44]⟩) ⟨#[10]⟩ ⟨#[92, 110]⟩
/-- what _escape_char makes of it -/
theorem escT_eq {x : PySem.Str} (h13 : 13 ∉ x.cps.toList) : Txt.replace (Txt.replace (Txt.replace (Txt.replace (Txt.replace (Txt.replace x ⟨#[92]⟩ ⟨#[92, 92]⟩) ⟨#[59]⟩ ⟨#[92, 59]⟩) ⟨#[44]⟩ ⟨#[92, 44]⟩) ⟨#[13, 10]⟩ ⟨#[92, 110]⟩) ⟨#[10]⟩ ⟨#[92, 110]⟩) ⟨#[13]⟩ ⟨#[92, 110]⟩ = escT x := by
  have step : ∀ {y z : PySem.Str} {c : Nat}, 13 ∉ y.cps.toList → 13 ∉ z.cps.toList → 13 ∉ (Txt.replace y ⟨#[c]⟩ z).cps.toList := fun h1 h2 h => (mem_rep h).elim h1 h2
  have a := step (c := 44) (z := ⟨#[92, 44]⟩) (step (c := 59) (z := ⟨#[92, 59]⟩) (step (c := 92) (z := ⟨#[92, 92]⟩) h13 (by decide)) (by decide)) (by decide)
  rw [rep_none (d := 13) (by decide) a]
  have b := step (c := 10) (z := ⟨#[92, 110]⟩) a (by decide)
  rw [rep_same b]
  rfl
theorem escT_mem {x : PySem.Str} {d : Nat} (h : d ∈ (escT x).cps.toList) : d ∈ x.cps.toList ∨ d = 92 ∨ d = 59 ∨ d = 44 ∨ d = 110 := by
  rcases mem_rep h with h | h
  · rcases mem_rep h with h | h
    · rcases mem_rep h with h | h
      · rcases mem_rep h with h | h
        · exact .inl h
        · simp at h; simp [h]
      · simp at h; rcases h with h | h <;> simp [h]
    · simp at h; rcases h with h | h <;> simp [h]
  · simp at h; rcases h with h | h <;> simp [h]
theorem escT_len (x : PySem.Str) : (escT x).length ≤ x.length * 16 := by
  have a := len_rep (x := x) (c := 92) (z := ⟨#[92, 92]⟩) (k := 2) (by decide) (by decide)
  have b := len_rep (x := Txt.replace x ⟨#[92]⟩ ⟨#[92, 92]⟩) (c := 59) (z := ⟨#[92, 59]⟩) (k := 2) (by decide) (by decide)
  have c := len_rep (x := Txt.replace (Txt.replace x ⟨#[92]⟩ ⟨#[92, 92]⟩) ⟨#[59]⟩ ⟨#[92, 59]⟩) (c := 44) (z := ⟨#[92, 44]⟩) (k := 2) (by decide) (by decide)
  have d := len_rep (x := Txt.replace (Txt.replace (Txt.replace x ⟨#[92]⟩ ⟨#[92, 92]⟩) ⟨#[59]⟩ ⟨#[92, 59]⟩) ⟨#[44]⟩ ⟨#[92, 44]⟩) (c := 10) (z := ⟨#[92, 110]⟩) (k := 2) (by decide) (by decide)
  unfold escT
  omega
end BL
end
-- part RepC
section
set_option linter.unusedVariables false
set_option linter.unusedSimpArgs false
open PySem PySem.W PySem.Spec PySem.Calls PyProof.Rows
set_option maxRecDepth 100000
set_option maxHeartbeats 4000000
namespace BL
theorem o_92 : Str.ofString "\\" = ⟨#[92]⟩ := by kernel_rfl
theorem o_9292 : Str.ofString "\\\\" = ⟨#[92, 92]⟩ := by kernel_rfl
theorem o_59 : Str.ofString ";" = ⟨#[59]⟩ := by kernel_rfl
theorem o_9259 : Str.ofString "\\;" = ⟨#[92, 59]⟩ := by kernel_rfl
theorem o_44 : Str.ofString "," = ⟨#[44]⟩ := by kernel_rfl
theorem o_9244 : Str.ofString "\\," = ⟨#[92, 44]⟩ := by kernel_rfl
theorem o_10 : Str.ofString "\n" = ⟨#[10]⟩ := by kernel_rfl
theorem o_92110 : Str.ofString "\\n" = ⟨#[92, 110]⟩ := by kernel_rfl
theorem o_13 : Str.ofString "\r" = ⟨#[13]⟩ := by kernel_rfl
theorem o_1310 : Str.ofString "\r\n" = ⟨#[13, 10]⟩ := by kernel_rfl
theorem o_9278 : Str.ofString "\\N" = ⟨#[92, 78]⟩ := by kernel_rfl
section
variable {prog : Program} {w : World} {A : Around} {E : Value → Shared → Prop} {s : Shared} {x : PySem.Str} {t u v : Tok} {Q : Value → Shared → Prop}
theorem rep_own {y z : PySem.Str} (hu : u ≠ 0) (hv : v ≠ 0) (huv : u ≠ v) (hyz : (y == z) = false) (hx : x.length ≤ 10000) (hz : z.length ≤ 2)
    (q : ∀ t' k, s.toks ≤ k → Q (.str (Txt.replace x y z) t') { s with toks := k }) :
    wpAny (model prog w) A (call (.builtin "str.replace") [.str x t, .str y u, .str z v]) Q E s := by
  have hm : (x.length + 1) * z.length ≤ (x.length + 1) * 2 := Nat.mul_le_mul_left _ hz
  have hl : Builtin.Str.tooLong (x.length + (Builtin.Str.occurrences x y 0 x.length (x.length + 1)).length * z.length) = false := by
    have h1 := StrLaws.occ_length_le x y 0 x.length (x.length + 1)
    have h2 := Nat.mul_le_mul_right z.length h1
    unfold Builtin.Str.tooLong
    rw [sizeLine_eq]
    exact decide_eq_false (by omega)
  refine call_gives PySem.F.slot_str_replace (typeIs_str _ _ _) PySem.F.entry_str_replace (PySem.F.args_str_replace_3 _ _ _)
    (gives_str_replace x y z t u v fun _ => ⟨by simp [hu, hv], by simp [huv], hyz, hl⟩) ?_
  unfold Txt.replace at q
  by_cases hc : ((Builtin.Str.occurrences x y 0 x.length (x.length + 1)).isEmpty || (y.length == 0 && z.length == 0)) = true
  · rw [if_pos hc]
    rw [if_pos hc] at q
    exact q t s.toks (Nat.le_refl _)
  · rw [if_neg hc]
    rw [if_neg hc] at q
    exact ⟨fits_replaced y (by omega), q _ _ (Nat.le_succ _)⟩
theorem rep_rule {y z : PySem.Str} {c a b : Nat} (hy : y = ⟨#[c]⟩) (hz : z = ⟨#[a, b]⟩) (hu : 1 ≤ u) (hv : v = u + 1) (hx : x.length ≤ 10000)
    (q : ∀ t' k, s.toks ≤ k → (Txt.replace x ⟨#[c]⟩ ⟨#[a, b]⟩).length ≤ x.length * 2 → Q (.str (Txt.replace x ⟨#[c]⟩ ⟨#[a, b]⟩) t') { s with toks := k }) :
    wpAny (model prog w) A (call (.builtin "str.replace") [.str x t, .str y u, .str z v]) Q E s := by
  subst hy hz hv
  refine rep_own (Nat.ne_of_gt hu) (Nat.succ_ne_zero _) (Nat.ne_of_lt (Nat.lt_succ_self _)) (by simp) hx (by show (2 : Nat) ≤ 2; omega) fun t' k hk => q t' k hk (len_rep (by decide) (by show (2 : Nat) ≤ 2; omega))
theorem rep_rn (hu : 1 ≤ u) (hv : v = u + 1) (hx : x.length ≤ 10000) (h13 : 13 ∉ x.cps.toList)
    (q : ∀ t' k, s.toks ≤ k → Q (.str x t') { s with toks := k }) :
    wpAny (model prog w) A (call (.builtin "str.replace") [.str x t, .str (Str.ofString "\r\n") u, .str (Str.ofString "\\n") v]) Q E s := by
  subst hv
  refine rep_own (Nat.ne_of_gt hu) (Nat.succ_ne_zero _) (Nat.ne_of_lt (Nat.lt_succ_self _)) (by rw [o_1310, o_92110]; decide) hx (by rw [o_92110]; show (2 : Nat) ≤ 2; omega) fun t' k hk => ?_
  rw [o_1310, rep_none (d := 13) (by decide) h13]
  exact q t' k hk
theorem rep_r (hu : 1 ≤ u) (hv : v = u + 1) (hx : x.length ≤ 10000) (h13 : 13 ∉ x.cps.toList)
    (q : ∀ t' k, s.toks ≤ k → Q (.str x t') { s with toks := k }) :
    wpAny (model prog w) A (call (.builtin "str.replace") [.str x t, .str (Str.ofString "\r") u, .str (Str.ofString "\\n") v]) Q E s := by
  subst hv
  refine rep_own (Nat.ne_of_gt hu) (Nat.succ_ne_zero _) (Nat.ne_of_lt (Nat.lt_succ_self _)) (by rw [o_13, o_92110]; decide) hx (by rw [o_92110]; show (2 : Nat) ≤ 2; omega) fun t' k hk => ?_
  rw [o_13, rep_same h13]
  exact q t' k hk
end
theorem escT_plain {x : PySem.Str} (h : ∀ c ∈ x.cps.toList, Plain7 c) : ∀ c ∈ (escT x).cps.toList, Plain7 c := fun c hc => by
  rcases escT_mem hc with q | rfl | rfl | rfl | rfl
  · exact h c q
  all_goals exact .inl (by decide)
theorem sur_plain {l : List Nat} (h : ∀ c ∈ l, Plain7 c) : ∀ c ∈ l, Str.isSurrogate c = false := fun c hc => by
  unfold Str.isSurrogate
  rcases h c hc with q | rfl
  · have : ¬ 55296 ≤ c := by omega
    simp [this]
  · decide
theorem no13 {x z : PySem.Str} {c : Nat} (h1 : 13 ∉ x.cps.toList) (h2 : 13 ∉ z.cps.toList) : 13 ∉ (Txt.replace x ⟨#[c]⟩ z).cps.toList := fun h => (mem_rep h).elim h1 h2
end BL
end
-- part CompP
section
set_option linter.unusedVariables false
open PySem PySem.W PySem.Spec PySem.Calls PyProof.Rows
set_option maxRecDepth 100000
set_option autoImplicit false
namespace BL
section
variable {prog : Program} {w : World} {A : Around} {E : Value → Shared → Prop} {s : Shared} {h₀ : Heap} {L : Addr} {m : Str → Option Value} {env : Env}
/-- a comprehension over a list whose items are reckoned without a change of the heap: the turns know that a token was given out -/
theorem comp_pure {elt iter : PySem.Expr} {x y : Str} {px py : Pos} {scope : Scope} {cl : List (Str × Addr)} {pos spos : Pos} {Q : Flow → Shared → Prop} {ax : Addr} {its : Array Value} {news : List (Addr × Obj)} (G : Nat → Value → Prop)
    (F : Fr h₀ L s.heap m) (N : News h₀ L s.heap news) (hLe : env.locals = L)
    (hsw : swapsWith (.ListComp elt [⟨.Name x px, iter, [], 0⟩] scope pos) (some (.Name y py)) spos.line env = pure true)
    (hclos : closureFor scope env = pure cl) (hcell : ∀ z ∈ scope.names, z.2 ≠ .cell) (hkind : scope.kind = .function)
    (hnames : ∀ z ∈ scope.names, z.2 = .local → scope.names.lookup z.1 = some .local) (hx : scope.names.lookup x = some .local)
    (hy : env.kindOf y = some .local) (hp : (env.scope.kind == .class || (env.scope.kind == .module && env.locals != env.globals)) = false)
    (hs : ∀ x, foldedSetIterable iter env x = pure x) (hh : A.handled = none) (hl : s.heap.IsList ax its) (hsz : its.size ≤ sizeLine)
    (hi : ∀ (Q : Value → Shared → Prop) (E : Value → Shared → Prop), Q (.ref ax) s → wpAny (model prog w) A (eval iter env) Q E s)
    (he : ∀ i v C h tk m₂ (Q : Value → Shared → Prop) (E : Value → Shared → Prop), its[i]? = some v → h.Ns C m₂ → m₂ x = some v → Fr h₀ L h m → C ≠ L → h₀.get? C = none → (∀ r tk', G i r → Q r { s with heap := h, toks := tk' }) →
      wpAny (model prog w) A (eval elt (compEnvC scope cl C env)) Q E { s with heap := h, toks := tk + 1 })
    (hq : ∀ D ys h tk, ys.length = its.size → (∀ j r, ys[j]? = some r → G j r) → Fr h₀ L h (fun z => if z = y then some (.ref D) else m z) → News h₀ L h ((D, LCg.lst ys) :: news) → Q .next { s with heap := h, toks := tk }) :
    wpAny (model prog w) A (exec (.Assign [.Name y py] (.ListComp elt [⟨.Name x px, iter, [], 0⟩] scope pos) spos) env) Q E s := by
  subst hLe
  rw [exec_Assign_Name_used _ _ _ _ hsw]
  refine wpAny_bind (wpAny_standAt (wpAny_bind ?_))
  show wpAny _ A (do let _ ← comprehension (.ListComp elt [⟨.Name x px, iter, [], 0⟩] scope pos) scope env _ (newList []) false (eval iter env) (some (assign (.Name y py) env))) _ _ s
  refine wpAny_bind (wpAny_mono (wpAny_comprehension_free (use := some (assign (.Name y py) env)) (Q := fun _ s' => Q .next s') rfl hs hclos hkind hnames
    (hi _ _ ?_)) (fun _ s' hq => wpAny_pure (wpAny_pure hq)) fun _ _ e => e)
  have hax : @LT.lt Nat _ ax s.heap.objs.size := by obtain ⟨_, e, _⟩ := hl; exact Heap.lt_size e
  refine wpAny_pyIter_list hl ?_
  generalize hI : s.heap.objs.size = I
  have eI : (s.heap.push { cls := .type "list_iterator", data := .fields #[.ref ax, .int 0 0] }).IsListIter I ax 0 := ⟨_, by rw [← hI]; exact Heap.get?_push_size _ rfl, rfl, rfl⟩
  have kI : ∀ b o, s.heap.get? b = some o → (s.heap.push { cls := .type "list_iterator", data := .fields #[.ref ax, .int 0 0] }).get? b = some o := fun b o e => Heap.get?_push_of_some _ e
  have sI : (s.heap.push { cls := .type "list_iterator", data := .fields #[.ref ax, .int 0 0] }).objs.size = I + 1 := by rw [Heap.size_push, hI]
  generalize s.heap.push { cls := .type "list_iterator", data := .fields #[.ref ax, .int 0 0] } = H1 at eI kI sI ⊢
  refine wpAny_newObj_type (wpAny_newFunctionEnv hcell (by intro y hy; simp at hy) (fun h₁ hns₁ hsb₁ => ?_) hkind)
  dsimp only at hns₁ hsb₁ ⊢
  have eD : (H1.push { cls := .type "list", dict := none, data := .seq ([] : List Value).toArray }).get? (I + 1) = some (LCg.lst []) := by rw [← sI]; exact Heap.get?_push_size _ rfl
  have kD : ∀ b o, H1.get? b = some o → (H1.push { cls := .type "list", dict := none, data := .seq ([] : List Value).toArray }).get? b = some o := fun b o e => Heap.get?_push_of_some _ e
  have sD : (H1.push { cls := .type "list", dict := none, data := .seq ([] : List Value).toArray }).objs.size = I + 2 := by rw [Heap.size_push, sI]
  rw [sI]
  generalize H1.push { cls := .type "list", dict := none, data := .seq ([] : List Value).toArray } = H2 at eD kD sD hns₁ hsb₁ ⊢
  rw [sD] at hns₁ hsb₁ ⊢
  have low : ∀ b o, s.heap.get? b = some o → @LT.lt Nat _ b I := fun b o e => hI ▸ Heap.lt_size e
  have n1 : I ≠ I + 1 := by omega
  have n2 : I ≠ I + 2 := by omega
  have n3 : I + 1 ≠ I + 2 := by omega
  have k1 : ∀ b o, b ≠ I + 2 → H2.get? b = some o → h₁.get? b = some o := fun b o hb e => hsb₁.extBut b o hb (Heap.get?_push_of_some _ e)
  have old : ∀ b o, s.heap.get? b = some o → h₁.get? b = some o := fun b o e => k1 b o (by have := low b o e; omega) (kD b o (kI b o e))
  have eI1 : h₁.IsListIter I ax 0 := by
    obtain ⟨o, e, r⟩ := eI
    exact ⟨o, k1 _ _ n2 (kD _ _ e), r⟩
  have hl1 : h₁.IsList ax its := by
    obtain ⟨o, e, r⟩ := hl
    exact ⟨o, old _ _ e, r⟩
  have eD1 : h₁.get? (I + 1) = some (LCg.lst []) := k1 _ _ n3 eD
  have fresh₀ : ∀ a, @LE.le Nat _ I a → h₀.get? a = none := fun a ha => by
    cases e : h₀.get? a with
    | none => rfl
    | some o => exact absurd (low a o (F.keep a o e)) (by omega)
  have hLlt : @LT.lt Nat _ env.locals I := hI ▸ F.ns.lt
  have W := Walks.list (prog := prog) (w := w) hh I ax (show @Ne Nat ax I by omega) its
  have loop : ∀ s₃ : Shared, s₃ = { s with heap := h₁, toks := s.toks + ([] : List (Str × Value)).length } →
      codeAny (model prog w) A (.compLoop (.ListComp elt [⟨.Name x px, iter, [], 0⟩] scope pos) 0 (.ref I) (.ref (I + 1)) (compEnvC scope cl (I + 2) env)) (compPost (model prog w) A E (some (assign (.Name y py) env)) (fun _ s' => Q .next s') (.ref (I + 1)) (I + 2)) s₃ := by
    rintro s₃ rfl
    refine codeAny_compLoop_tests
      (fun k s' => ∃ h' tk i ys m', s' = { s with heap := h', toks := tk } ∧ i ≤ its.size ∧ k = its.size + 1 - i ∧ ys.length = i ∧ (∀ j r, ys[j]? = some r → G j r) ∧ h'.IsListIter I ax i ∧ h'.IsList ax its ∧ h'.Ns (I + 2) m' ∧ h'.get? (I + 1) = some (LCg.lst ys) ∧ ∀ b o, s.heap.get? b = some o → h'.get? b = some o) ?_ (its.size + 1)
      ⟨h₁, _, 0, [], _, rfl, Nat.zero_le _, rfl, rfl, (fun j r e => by simp at e), eI1, hl1, hns₁, eD1, old⟩
    rintro k s' ⟨h', tk, i, ys, m', rfl, hi', rfl, hyl, hG, hit, hls, hn', hD', kp⟩
    by_cases hlt : i < its.size
    · refine W.item i _ _ _ hlt ⟨hit, hls⟩ fun v h₂ tk₂ hPv hst₂ hk₂ => ?_
      have kp2 : ∀ b o, s.heap.get? b = some o → h₂.get? b = some o := fun b o e => hk₂ b o (fun hm => absurd (List.mem_singleton.mp hm) (show @Ne Nat b I by have := low b o e; omega)) (kp b o e)
      refine wpAny_assign_Name (wpAny_storeName_local (lookup_relabel_local hx) (hn'.at' fun o e => hk₂ _ o (by simp) e) (fun h₃ hn₃ hs₃ => ?_) (by simp [compEnvC, relabel, hkind]))
      refine wpAny_tests_nil ?_
      simp only [if_true]
      have x3 : ∀ b o, b ≠ I + 2 → h₂.get? b = some o → h₃.get? b = some o := fun b o hb e => hs₃.extBut b o hb e
      have kp3 : ∀ b o, s.heap.get? b = some o → h₃.get? b = some o := fun b o e => x3 b o (by have := low b o e; omega) (kp2 b o e)
      have hD3 : h₃.get? (I + 1) = some (LCg.lst ys) := x3 _ _ n3 (hk₂ _ _ (by simp) hD')
      have hit3 : h₃.IsListIter I ax (i + 1) := by
        obtain ⟨o, e, r⟩ := hst₂.1
        exact ⟨o, x3 _ _ n2 e, r⟩
      refine he i v (I + 2) h₃ _ _ _ _ hPv hn₃ (by simp) (F.keeps kp3) (show @Ne Nat (I + 2) env.locals by omega) (fresh₀ _ (show @LE.le Nat _ I (I + 2) by omega)) fun r tk' hr => ?_
      refine append_at (hsz := by show ys.toArray.size ≤ sizeLine; rw [List.size_toArray, hyl]; exact Nat.le_trans hi' hsz) hD3 fun h₅ hs₅ hD₅ => ?_
      have kp5 : ∀ b o, s.heap.get? b = some o → h₅.get? b = some o := fun b o e => hs₅.extBut b o (show @Ne Nat b (I + 1) by have := low b o e; omega) (kp3 b o e)
      refine ⟨its.size + 1 - (i + 1), by omega, h₅, tk', i + 1, ys ++ [r], _, rfl, hlt, rfl, by simp [hyl], fun j r' e => ?_, ?_, ?_, hn₃.sameBut hs₅ (Ne.symm n3), hD₅.trans (congrArg some (LCg.lst_snoc ys r)), kp5⟩
      · by_cases hj : j < ys.length
        · rw [List.getElem?_append_left hj] at e
          exact hG j r' e
        · rw [List.getElem?_append_right (by omega)] at e
          have : j - ys.length = 0 := by
            by_cases h0 : j - ys.length = 0
            · exact h0
            · rw [List.getElem?_eq_none (by simp; omega)] at e; cases e
          rw [this] at e
          simp at e
          subst e
          rw [show j = i by omega]
          exact hr
      · obtain ⟨o, e, q⟩ := hit3
        exact ⟨o, hs₅.extBut _ _ n1 e, q⟩
      · obtain ⟨o, e, q⟩ := hl
        exact ⟨o, kp5 _ _ e, q⟩
    · obtain rfl : i = its.size := Nat.le_antisymm hi' (Nat.not_lt.mp hlt)
      refine W.done _ _ _ ⟨hit, hls⟩ fun h₂ tk₂ hk₂ => ?_
      have kp2 : ∀ b o, s.heap.get? b = some o → h₂.get? b = some o := fun b o e => hk₂ b o (fun hm => absurd (List.mem_singleton.mp hm) (show @Ne Nat b I by have := low b o e; omega)) (kp b o e)
      have F2 : Fr h₀ env.locals h₂ m := F.keeps kp2
      show wpAny _ A (assign (.Name y py) env (.ref (I + 1))) _ _ _
      refine wpAny_assign_Name (wpAny_storeName_local hy F2.ns (fun h₃ hn₃ hs₃ => ?_) hp)
      have hL₀ : h₀.get? env.locals = none := Heap.get?_none_of_le F2.above
      have F₃ : Fr h₀ env.locals h₃ (fun z => if z = y then some (.ref (I + 1)) else m z) := ⟨hn₃, fun b o e => hs₃.extBut b o (fun q => by rw [q, hL₀] at e; cases e) (F2.keep b o e), F2.above⟩
      have hD3 : h₃.get? (I + 1) = some (LCg.lst ys) := hs₃.extBut _ _ (by show @Ne Nat (I + 1) env.locals; omega) (hk₂ _ _ (by simp) hD')
      have N3 : News h₀ env.locals h₃ ((I + 1, LCg.lst ys) :: news) := fun p hp => by
        rcases List.mem_cons.mp hp with rfl | hp
        · exact ⟨hD3, by show @Ne Nat (I + 1) env.locals; omega, fresh₀ _ (by show @LE.le Nat _ I (I + 1); omega)⟩
        · exact ⟨hs₃.extBut _ _ (N p hp).2.1 (kp2 _ _ (N p hp).1), (N p hp).2⟩
      refine ⟨_, (hn'.at' fun o e => hk₂ _ o (by simp) e).sameBut hs₃ (by show @Ne Nat (I + 2) env.locals; omega), fun h'' hs'' => hq (I + 1) ys h'' _ hyl hG (F₃.change hs'' (by show @Ne Nat (I + 2) env.locals; omega) (fresh₀ _ (by show @LE.le Nat _ I (I + 2); omega))) fun p hp => ?_⟩
      refine ⟨hs''.extBut _ _ ?_ (N3 p hp).1, (N3 p hp).2⟩
      rcases List.mem_cons.mp hp with rfl | hp
      · exact n3
      · have := low _ _ (N p hp).1
        show @Ne Nat p.1 (I + 2)
        omega
  exact codeAny_compStart_list (loop _ rfl) (W.self 0 _ _ _ ⟨eI1, hl1⟩ (loop _ rfl))
end
end BL
end
-- part LT8
section
set_option linter.unusedVariables false
open PySem PySem.W PySem.Spec PySem.Calls PyProof.Rows
set_option maxRecDepth 100000
set_option maxHeartbeats 8000000
set_option Elab.async false
namespace BL
local macro_rules | `(tactic| ktr_room) => `(tactic| ((try simp only [tc_depth, tc_units, depth_under_make, depth_under_kw, depth_in1, depth_deeper, units_in1, units_deeper, Around.mark_units, depth_mark]); (try dsimp only [ktrTop]); omega))
local macro_rules | `(tactic| k_room) => `(tactic| ktr_room)
local macro_rules | `(tactic| k_enter) => `(tactic| (refine' code_defG ?ke1 ?ke2 ?ke3 ?ke4 ?ke5 ?keA ?keF ?keK ?ke6 ?ke7 ?ke8 ?ke9 ?keB ?_ ?ked2 ?ked3 ?ked4 ?ked5; (case keA => exact rfl); (case keF => exact rfl); (case keK => first | exact rfl | assumption); (case ke1 => k_asm); (case ke2 => k_asm); (case ke3 => k_asm); (case ke4 => k_asm); (case ke5 => k_asm); (case ke6 => k_is); (case ke7 => k_is); (case ke8 => ktr_room); (case ke9 => first | exact BindsTo.of_eq rfl | exact binds_K (by k_in) rfl (by k_is) rfl rfl rfl); (case ked5 => decide); (case keB => exact locs rfl); (case ked2 => exact rfl); (case ked3 => exact rfl); (case ked4 => exact rfl); intro g' L' h' FG' F' N' B' X' T' kG'; (try dsimp only); (try k_lift B'); (try k_fold)))
local macro_rules | `(tactic| ktr_unf) => `(tactic| repeat' (first | (k_unfold; (try dsimp only)) | (k_end; wrow_close) | ((fail_if_success (first  | (with_reducible show LCg.CompSrc _ _ _ _ _ _ _ _ _ _ _ _ _ _) | (with_reducible show LCg.CompEnd _ _ _ _ _ _ _ _ _ _ _ _ _ _) | (with_reducible show wpAny _ _ (eval (PySem.Expr.ListComp _ _ _ _) _) _ _ _) | (with_reducible show wpAny _ _ (exec (Stmt.Assign _ (PySem.Expr.ListComp _ _ _ _) _) _) _ _ _))); (first | walk1 | (dsimp only; walk1))) | fail "no step"))
local macro_rules | `(tactic| k_all) => `(tactic| (k_dflt assumption))
local macro_rules | `(tactic| walk_at "pad 0") => `(tactic| fail)
local macro_rules | `(tactic| walk_at "pad 1") => `(tactic| fail)
local macro_rules | `(tactic| walk_at "call builtin:str.replace") => `(tactic| (k_dflt (refine' rep_rule o_92 o_9292 ?ru ?rv ?rx ?_; (case ru => first | exact Nat.succ_pos _ | exact Nat.le_trans (Nat.succ_pos _) (by assumption)); (case rv => exact rfl); (case rx => omega)); intro t5 k5 hk5 hl5; (try dsimp only at hk5)))
local macro_rules | `(tactic| walk_at "call builtin:str.replace") => `(tactic| (k_dflt (refine' rep_rule o_59 o_9259 ?ru ?rv ?rx ?_; (case ru => first | exact Nat.succ_pos _ | exact Nat.le_trans (Nat.succ_pos _) (by assumption)); (case rv => exact rfl); (case rx => omega)); intro t5 k5 hk5 hl5; (try dsimp only at hk5)))
local macro_rules | `(tactic| walk_at "call builtin:str.replace") => `(tactic| (k_dflt (refine' rep_rule o_44 o_9244 ?ru ?rv ?rx ?_; (case ru => first | exact Nat.succ_pos _ | exact Nat.le_trans (Nat.succ_pos _) (by assumption)); (case rv => exact rfl); (case rx => omega)); intro t5 k5 hk5 hl5; (try dsimp only at hk5)))
local macro_rules | `(tactic| walk_at "call builtin:str.replace") => `(tactic| (k_dflt (refine' rep_rule o_10 o_92110 ?ru ?rv ?rx ?_; (case ru => first | exact Nat.succ_pos _ | exact Nat.le_trans (Nat.succ_pos _) (by assumption)); (case rv => exact rfl); (case rx => omega)); intro t5 k5 hk5 hl5; (try dsimp only at hk5)))
local macro_rules | `(tactic| walk_at "call builtin:str.replace") => `(tactic| (k_dflt (refine' rep_rn ?ru ?rv ?rx ?ry ?_; (case ru => first | exact Nat.succ_pos _ | exact Nat.le_trans (Nat.succ_pos _) (by assumption)); (case rv => exact rfl); (case rx => omega); (case ry => repeat (first | assumption | (refine no13 ?_ (by decide))))); intro t5 k5 hk5; (try dsimp only at hk5)))
local macro_rules | `(tactic| walk_at "call builtin:str.replace") => `(tactic| (k_dflt (refine' rep_r ?ru ?rv ?rx ?ry ?_; (case ru => first | exact Nat.succ_pos _ | exact Nat.le_trans (Nat.succ_pos _) (by assumption)); (case rv => exact rfl); (case rx => omega); (case ry => repeat (first | assumption | (refine no13 ?_ (by decide))))); intro t5 k5 hk5; (try dsimp only at hk5)))
theorem strsAre_of {vs : List Value} : ∀ {ys : List Str}, vs.length = ys.length → (∀ (i : Nat) (v : Value), vs[i]? = some v → ∃ y t, ys[i]? = some y ∧ v = Value.str y t) → StrsAre vs ys := by
  induction vs with
  | nil =>
    intro ys h _
    have : ys = [] := List.length_eq_zero_iff.mp h.symm
    subst this
    exact .nil
  | cons v r ih =>
    intro ys h hG
    cases ys with
    | nil => simp at h
    | cons y ys =>
      obtain ⟨y', t, h1, h2⟩ := hG 0 v (by simp)
      obtain rfl : y = y' := by simpa using h1
      subst h2
      exact .cons y t (ih (by simpa using h) fun i v hv => by
        obtain ⟨y', t', e1, e2⟩ := hG (i + 1) v (by simpa using hv)
        exact ⟨y', t', by simpa using e1, e2⟩)
theorem strs_of_items {vs : List Value} {css : List (List Nat)} (hl : vs.length = css.length) (hG : ∀ (j : Nat) (r : Value), vs[j]? = some r → ∃ cs t, css[j]? = some cs ∧ r = Value.str (escT (ofL cs)) t) : StrsAre vs (css.map fun cs => escT (ofL cs)) := by
  refine strsAre_of (by rw [List.length_map]; exact hl) fun i v hv => ?_
  obtain ⟨cs, t, h1, h2⟩ := hG i v hv
  exact ⟨_, t, by rw [List.getElem?_map, h1]; rfl, h2⟩
theorem law_t8 {w : World} {dp un : Nat} {gd : Option (List Code)} {L a : Addr} {ccd : Value} {A₀ : Around} {h₀ : Heap} {s : Shared} {Q : Flow → Shared → Prop} {E : Value → Shared → Prop}
    {p : Program} {loose : List Str} {mean : ExcName → Option Value} {mg mb : Str → Option Value} {outer : List Env} (c1 c2 l0 D Df lt : Addr) (o2 : Obj) (fvs vt : List Value) (et : Nat) (ys : List Str) (css : List (List Nat)) (kind more many : Int) (tk1 tk2 tk3 : Tok) (out : Str) (to : Tok)
    (B : Below A₀ h₀ outer h₀) (X : (K w.params).In h₀) (T : Top p loose mean mg mb h₀) (hd : dp + 100 < recursionLimit) (hu : un + 1000 < cLine)
    (F : Fr h₀ L s.heap (fun y => if y = S "told" then some (.ref lt) else if y = S "out" then some (.str out to) else if y = S "fields" then some (.ref Df) else if y = S "texts" then some (.ref D) else if y = S "many" then some (.int many tk3) else if y = S "more" then some (.int more tk2) else if y = S "kind" then some (.int kind tk1) else if y = S "script" then some (.ref l0) else none))
    (N : News h₀ L s.heap ((Df, LCg.lst fvs) :: [(c2, o2)])) (hfv : StrsAre fvs (css.map ofL)) (hsg : Sg css) (hn : css.length ≤ 8)
    (next : ∀ (Dd : Addr) (dvs : List Value) h' tk', StrsAre dvs (css.map fun cs => escT (ofL cs)) → Fr h₀ L h' (fun y => if y = S "due" then some (.ref Dd) else if y = S "told" then some (.ref lt) else if y = S "out" then some (.str out to) else if y = S "fields" then some (.ref Df) else if y = S "texts" then some (.ref D) else if y = S "many" then some (.int many tk3) else if y = S "more" then some (.int more tk2) else if y = S "kind" then some (.int kind tk1) else if y = S "script" then some (.ref l0) else none) → News h₀ L h' ((Dd, LCg.lst dvs) :: (Df, LCg.lst fvs) :: [(c2, o2)]) → wpAny (model PySem.Challenge.rw_bl0008_01.row.prog w) (ktrTop dp un gd "law" lawScope L a ccd [(S "part", c2), (S "state", c1)] outer) (execs (lawBody.drop 11) (envX "law" lawScope L a ccd [(S "part", c2), (S "state", c1)])) Q E { s with heap := h', toks := tk' }) :
    wpAny (model PySem.Challenge.rw_bl0008_01.row.prog w) (ktrTop dp un gd "law" lawScope L a ccd [(S "part", c2), (S "state", c1)] outer) (execs (lawBody.drop 10) (envX "law" lawScope L a ccd [(S "part", c2), (S "state", c1)])) Q E s := by
  revert X
  w_top off
  k_fill
  intro X
  conv in (occs := *) lawScope => all_goals whnf
  conv in (List.drop 10 lawBody) => whnf
  ktr_unf
  have hyl := strsAre_len hfv
  rw [List.length_map] at hyl
  k_dflt (refine comp_pure (ax := Df) (its := fvs.toArray) (news := (Df, LCg.lst fvs) :: [(c2, o2)]) (fun i r => ∃ cs t, css[i]? = some cs ∧ r = .str (escT (ofL cs)) t) (by k_asm) (by k_asm) (by rfl) (by with_unfolding_all rfl) (by with_unfolding_all rfl) (by decide) (by rfl) (by decide) (by rfl) (by rfl) (by rfl) (by intro _; with_unfolding_all rfl) (by rfl) (News.isList (by k_asm) (List.Mem.head _)) (by rw [List.size_toArray, sizeLine_eq]; omega) ?hi ?he ?hq)
  case hi =>
    intro Q E q
    ktr_unf
    exact q
  case he =>
    intro i v C h tk m₂ Q E hv hns hx F9 hCL hC0 q
    obtain ⟨oC, heC, hoC⟩ := LCg.ns_obj hns
    have N9 : News h₀ L h [(C, oC)] := fun p hp => by
      rw [List.mem_singleton.mp hp]
      exact ⟨heC, hCL, hC0⟩
    have hv2 : fvs[i]? = some v := by simpa using hv
    have hi : i < fvs.length := by
      by_cases h : i < fvs.length
      · exact h
      · rw [List.getElem?_eq_none (by omega)] at hv2; cases hv2
    obtain ⟨y, ty, hy, hv3⟩ := strs_at hfv hi
    rw [List.getElem?_map] at hy
    obtain ⟨cs, hcs, rfl⟩ := Option.map_eq_some_iff.mp hy
    obtain rfl : v = .str (ofL cs) ty := by
      rw [hv2] at hv3
      exact Option.some.inj hv3
    have hcl : (ofL cs).length ≤ 3 := (hsg cs (List.mem_of_getElem? hcs)).1
    clear F N
    ktr_unf
    exact q _ _ ⟨cs, _, hcs, rfl⟩
  case hq =>
    intro Dd dvs h4 tk4 hlen hG F4 N4
    refine next Dd dvs h4 tk4 (strs_of_items (by rw [hlen, List.size_toArray]; exact hyl) hG) F4 N4
end BL
namespace BL
end BL
end
-- part StrN
section
set_option linter.unusedVariables false
set_option linter.unusedSimpArgs false
open PySem PySem.W PySem.Spec PySem.Calls PyProof.Rows Builtin
set_option maxRecDepth 100000
set_option maxHeartbeats 4000000
namespace BL
section
variable {prog : Program} {w : World} {A : Around} {E : Value → Shared → Prop} {s : Shared} {C : Addr}
theorem sn_plain : plainId "str.__new__" = true := by decide +kernel

theorem str_new_sub {h₀ : Heap} {L : Addr} {m : Str → Option Value} {news : List (Addr × Obj)} {x : Str} {tx : Tok} {Q : Value → Shared → Prop} (F : Fr h₀ L s.heap m) (N : News h₀ L s.heap news)
    (Y : OwnNew (model prog w) s.heap C "str") (ty : Looks (model prog w) s.heap (isType (.ref C)) true) (hchk : Looks (model prog w) s.heap (checkBuiltinCall "str.__new__" ⟨[.ref C, .str x tx], []⟩) ())
    (hz : x.length ≤ 1000)
    (h : ∀ l dx h' t1 tk', Fr h₀ L h' m → News h₀ L h' ((l, ({ cls := .ref C, dict := some dx, data := .prim (.str x t1) } : Obj)) :: (dx, emptyDict) :: news) → (∀ p ∈ news, p.1 < dx) → dx < l → Q (.ref l) { s with heap := h', toks := tk' }) :
    wpAny (model prog w) A (PySem.call (.builtin "str.__new__") [.ref C, .str x tx]) Q E s := by
  obtain ⟨hp, g, d, tk, os⟩ := s
  obtain ⟨⟨oc, od, cd, sl, hC, e1⟩, mro, made, base, sub, self, top, call, typ, init⟩ := Y
  refine wpAny_call (codeAny_call_builtin sn_plain PySem.F.entry_str_new (hchk.at ?_))
  unfold Builtin.«str.__new__»
  repeat (first | simp only [beq_self_eq_true, Bool.not_true, Bool.false_eq_true, if_false, if_true] | lk)
  have hz' : x.length ≤ sizeLine := by rw [sizeLine_eq]; omega
  rw [if_neg (Nat.not_lt.mpr hz')]
  refine wpAny_bind (wpAny_fresh (wpAny_pure ?_))
  have F' : Fr h₀ L (hp.push emptyDict) m := F.push _
  have N2 := (N.push F emptyDict).push F' (({ cls := .ref C, dict := some hp.objs.size, data := .prim (.str x tk) } : Obj))
  rw [Heap.size_push] at N2
  have hC' : (hp.push emptyDict).get? C = _ := Heap.get?_push_of_some _ hC
  refine wpAny_bind ?_
  unfold newObj
  dsimp only
  rw [show (Data.prim (Value.str x tk)).pastItsLine = none from if_neg (Nat.not_lt.mpr hz')]
  show wpAny _ _ (newObjAsIs _ _ _) _ _ _
  unfold newObjAsIs classHasDel
  refine wpAny_bind (wpAny_alloc (wpAny_bind (wpAny_bind (wpAny_load (Heap.get?_push_of_some _ hC') (wpAny_pure ?_)))))
  rw [e1]
  refine wpAny_pure (wpAny_pure ?_)
  have z := h (hp.objs.size + 1) hp.objs.size _ tk (tk + 1) (F'.push _) N2 (fun p hp => Heap.lt_size (N p hp).1) (Nat.lt_succ_self _)
  rw [← Heap.size_push hp emptyDict] at z
  exact z
end
end BL
end
-- part StrS
section
set_option linter.unusedVariables false
set_option linter.unusedSimpArgs false
open PySem PySem.W PySem.Spec PySem.Calls PyProof.Rows Builtin ObjectAttr
set_option maxRecDepth 100000
set_option maxHeartbeats 4000000
namespace BL
theorem of_str {h₀ h : Heap} {L x C dx : Addr} {news : List (Addr × Obj)} {v : Value} {od : Obj} {sl : Array (Option Value)} (N : News h₀ L h news) (h1 : (x, (⟨.ref C, some dx, .prim v, sl⟩ : Obj)) ∈ news) (h2 : (dx, od) ∈ news) :
    InstAt h x ⟨.ref C, some dx, .prim v, sl⟩ C (some od) := ⟨(N _ h1).1, rfl, rfl, (N _ h2).1⟩
/-- a str of a class of its own, in a heap -/
structure StrAt (h : Heap) (l dx C : Addr) (x : Str) (t : Tok) (sl : Array (Option Value)) : Prop where
  at_ : h.get? l = some ⟨.ref C, some dx, .prim (.str x t), sl⟩
  dict : h.get? dx = some emptyDict
theorem StrAt.inst {h : Heap} {l dx C : Addr} {x : Str} {t : Tok} {sl : Array (Option Value)} (I : StrAt h l dx C x t sl) : InstAt h l ⟨.ref C, some dx, .prim (.str x t), sl⟩ C (some emptyDict) := ⟨I.at_, rfl, rfl, I.dict⟩
theorem StrAt.keeps {h h' : Heap} {l dx C : Addr} {x : Str} {t : Tok} {sl : Array (Option Value)} (I : StrAt h l dx C x t sl) (k : ∀ b o, h.get? b = some o → h'.get? b = some o) : StrAt h' l dx C x t sl := ⟨k _ _ I.at_, k _ _ I.dict⟩
theorem instFr {h₀ h : Heap} {L l dx C : Addr} {m : Str → Option Value} {x : Str} {t : Tok} {sl : Array (Option Value)} (F : Fr h₀ L h m) (I : StrAt h₀ l dx C x t sl) : InstAt h l ⟨.ref C, some dx, .prim (.str x t), sl⟩ C (some emptyDict) := (I.keeps F.keep).inst
theorem strFr {h₀ h : Heap} {L l dx C : Addr} {m : Str → Option Value} {x : Str} {t : Tok} {sl : Array (Option Value)} (F : Fr h₀ L h m) (I : StrAt h₀ l dx C x t sl) : StrAt h l dx C x t sl := I.keeps F.keep
theorem passes_str (self : Value) (c : Addr) : refuseLoop self "__setattr__" [.ref c, .type "str", .type "object"] = pure () := by
  rw [refuseLoop_ref]
  kernel_rfl
section
variable {prog : Program} {w : World} {A : Around} {K : Frag} {E : Value → Shared → Prop} {s : Shared} {h₀ : Heap} {L x C p i : Addr} {m : Str → Option Value} {news news' : List (Addr × Obj)} {ox ox' : Obj} {od : Option Obj} {name : Str} {v : Value}
theorem set_over {Q : Unit → Shared → Prop} {mro : List Value} (F : Fr h₀ L s.heap m) (X₀ : K.In h₀) (N : News h₀ L s.heap news) (I : InstAt s.heap x ox C od)
    (hm : Looks (model prog w) s.heap (mroOf (.ref C)) mro) (hr : refuseLoop (.ref x) "__setattr__" mro = pure ()) (sub : Looks (model prog w) s.heap (isSubtype (.ref C) (.type "object")) true)
    (hs : findIn K (.ref C) "__setattr__" = some (some (.builtin "object.__setattr__"))) (hf : findIn K (.ref C) name = some (some (.ref p))) (ht : takesIn K (.ref p) = some true) (hT : typeIn K (.ref p) = some (.type "member_descriptor")) (hi : slotIn K p C = some i) (hz : i < 1000)
    (e : { ox with slots := (ox.slots ++ Array.replicate (i + 1 - ox.slots.size) none).setIfInBounds i (some v) } = ox') (hf' : ox'.isFreed = false) (U : Upd x ox ox' news news')
    (h : ∀ h', Fr h₀ L h' m → News h₀ L h' news' → Q () { s with heap := h', toks := s.toks + 1 }) : wpAny (model prog w) A (setAttr (.ref x) name v) Q E s := by
  obtain ⟨pre, post, rfl, rfl, a, b⟩ := U.split
  have X := X₀.keeps F.keep
  have SF := PySem.F.store_object
  have S := KF.slot_mset
  refine set_plain X I hs ?_
  have sub2 : Looks (model prog w) s.heap (isInstance (.ref x) (.type "object")) true := I.type.andThen sub
  refine codeAny_call_builtin SF.slot.plain SF.entry (@check_slot (model prog w) _ _ { s with toks := s.toks + 1 } "object.__setattr__" "object" "__setattr__" (.ref x) [.str name s.toks, v] [] _ SF.kind SF.split sub2 (SF.args (.ref x) (.str name s.toks) v) ?_)
  have L3 : Looks (model prog w) s.heap (storeTaker? (some (.ref p))) (some (.ref p)) := (looks_takesIn X ht).andThen .now
  rw [osa_eq, refuse_eq]
  refine wpAny_bind (wpAny_bind (I.type.here (s := { s with toks := s.toks + 1 }) (wpAny_bind (hm.here (s := { s with toks := s.toks + 1 }) ?_))))
  rw [hr]
  refine wpAny_pure (wpAny_bind (I.type.here (s := { s with toks := s.toks + 1 }) (wpAny_bind ((looks_findIn X hf).here (s := { s with toks := s.toks + 1 }) (wpAny_bind (L3.here (s := { s with toks := s.toks + 1 }) ?_))))))
  dsimp only
  refine wpAny_bind (wpAny_rule (wpAny_bind (wpAny_holding (wpAny_bind (wpAny_bind ((looks_typeIn X hT).here (s := { s with toks := s.toks + 1 }) ((Looks.of_pure S.lookup).here (wpAny_holding ?_))))))))
  rw [S.bind]
  refine wpAny_bind (wpAny_pure (wpAny_bind (wpAny_call (slot_set (s := { s with toks := s.toks + 1 }) F N X I hi hz a b e hf' fun h' F' N' => ?_))))
  exact wpAny_pure (wpAny_pure (h h' F' N'))
end
end BL
end
-- part Utf3
section
set_option linter.unusedVariables false
set_option linter.unusedSimpArgs false
open PySem PySem.W PySem.Spec PySem.Calls PyProof.Rows Builtin Builtin._codecs
set_option maxRecDepth 100000
set_option maxHeartbeats 4000000
namespace BL
section
variable {prog : Program} {w : World} {A : Around} {E : Value → Shared → Prop} {s : Shared}
theorem enc_tree2 (x : Str) (t u : Tok) : «str.encode» ⟨[.str x t, .str (Str.ofString "utf-8") u], []⟩ = (do ret (← encodeRoad "str.encode" (.str x t) x (Str.ofString "utf-8") none)) := by first | rfl | kernel_rfl
theorem enc_call {x : Str} {t u : Tok} {Q : Value → Shared → Prop} (hx : ∀ c ∈ x.cps.toList, Str.isSurrogate c = false) (hz : x.length ≤ 1000)
    (q : ∀ t' tk', Q (.bytes (encB x.cps.toList).toArray t') { s with toks := tk' }) : wpAny (model prog w) A (PySem.call (.builtin "str.encode") [.str x t, .str (Str.ofString "utf-8") u]) Q E s := by
  refine wpAny_call_entry PySem.F.slot_str_encode (typeIs_str _ _ _) PySem.F.entry_str_encode ?_ (PySem.F.args_str_encode_2 _ _)
  rw [enc_tree2, encodeRoad_utf8]
  obtain ⟨⟨l⟩⟩ := x
  have hl : l.length ≤ 1000 := hz
  rw [enc_narrow "str.encode" (.str ⟨l.toArray⟩ t) l (by simpa using hx) hl]
  have hb := encB_len l
  refine wpAny_bind (wpAny_bind (wpAny_pure ?_))
  unfold mkBytes
  rw [if_neg (by rw [List.size_toArray, sizeLine_eq]; omega)]
  refine wpAny_bind (wpAny_fresh (wpAny_pure (wpAny_pure ?_)))
  exact ⟨_, rfl, q _ _⟩
theorem dec_tree2 (c : UInt8) (cs : List UInt8) (t u : Tok) : «bytes.decode» ⟨[.bytes (c :: cs).toArray t, .str (Str.ofString "utf-8") u], []⟩ = (mkStr (Str.ofString "utf-8") >>= fun _ => mkStr (Str.ofString "utf-8") >>= fun e => mkStr (Str.ofString "bytes.decode") >>= fun d =>
    PySem.call (.builtin "_codecs.decode.text") [.bytes (c :: cs).toArray t, e, .none, d] >>= fun v => ret v) := by kernel_rfl
theorem dec_tree0 (t u : Tok) : «bytes.decode» ⟨[.bytes #[] t, .str (Str.ofString "utf-8") u], []⟩ = (rule "bytes.decode.empty" >>= fun _ => retStr Str.empty) := by kernel_rfl
theorem dec_call {l : List Nat} {t u : Tok} {Q : Value → Shared → Prop} (hx : ∀ c ∈ l, Plain7 c) (hz : l.length ≤ 1000)
    (q : ∀ t' tk', Q (.str ⟨l.toArray⟩ t') { s with toks := tk' }) : wpAny (model prog w) A (PySem.call (.builtin "bytes.decode") [.bytes (encB l).toArray t, .str (Str.ofString "utf-8") u]) Q E s := by
  refine wpAny_call_entry FB.slot_bytes_decode (typeIs_bytes _ _ _) FB.entry_bytes_decode ?_ (by unfold argsOk; kernel_rfl)
  cases hb : encB l with
  | nil =>
    have : l = [] := by
      cases l with
      | nil => rfl
      | cons c r =>
        rw [encB_cons] at hb
        have := (List.append_eq_nil_iff.mp hb).1
        unfold Str.utf8Of at this
        split at this <;> (try split at this) <;> (try split at this) <;> cases this
    subst this
    rw [dec_tree0]
    refine wpAny_bind (wpAny_rule ?_)
    exact wpAny_bind (wpAny_mkStr (wpAny_pure ⟨_, rfl, q _ _⟩) (by decide))
  | cons c cs =>
    rw [dec_tree2]
    refine wpAny_bind (wpAny_mkStr ?_ (by decide))
    refine wpAny_bind (wpAny_mkStr ?_ (by decide))
    refine wpAny_bind (wpAny_mkStr ?_ (by decide))
    have hd : ∀ id, _codecs.runDecoder id _codecs.utf8Decoder none true (c :: cs).toArray 0 [] = pure ((⟨l.toArray⟩ : Str).cps, (encB l).length) := fun id => by rw [← hb]; exact run_dec id l hx hz
    refine wpAny_bind (call_function_meets KBd.kind_text KBd.plain_text KBd.entry_text (KBd.args_text _ _ _ _) (KBd.meets_text hd) ⟨?_, wpAny_pure ⟨_, rfl, q _ _⟩⟩)
    show l.toArray.size ≤ sizeLine
    rw [List.size_toArray, sizeLine_eq]
    omega
end
end BL
namespace BL
section
variable {prog : Program} {w : World} {A : Around} {E : Value → Shared → Prop} {s : Shared}
theorem enc_method {M : Model} {x : Str} {t : Tok} {pl : Sem Bool} {Q : Value × List Value → Shared → Prop} (h : Q (.builtin "str.encode", [.str x t]) s) : wpAny M A (getMethod (.str x t) "encode" pl) Q E s :=
  getMethod_builtin (typeIs_str _ _ _) PySem.F.plainAttrs_str PySem.F.slot_str_encode PySem.F.type_str_encode (fun _ e => nomatch e) h
end
end BL
end
-- part NTp
section
set_option linter.unusedVariables false
open PySem PySem.W PySem.Spec PySem.Calls PyProof.Rows
set_option maxRecDepth 100000
set_option maxHeartbeats 8000000
set_option Elab.async false
namespace BL
theorem news_two {h₀ h h' : Heap} {L a b : Addr} {m : Str → Option Value} {o o2 : Obj} {news : List (Addr × Obj)} (F : Fr h₀ L h m) (N : News h₀ L h news) (hf : h.get? a = none) (hf2 : h.get? b = none) (hg : h'.get? a = some o) (hg2 : h'.get? b = some o2) (hk : ∀ b o, h.get? b = some o → h'.get? b = some o) : News h₀ L h' ((a, o) :: (b, o2) :: news) := by
  have N1 := news_in F N hf2 hg2 hk
  have N2 := news_in F N hf hg hk
  intro p hp
  rcases List.mem_cons.mp hp with rfl | hp
  · exact N2 _ (.head _)
  · exact N1 p hp
theorem strNews {h₀ h : Heap} {L l dx C : Addr} {x : Str} {t : Tok} {sl : Array (Option Value)} {news : List (Addr × Obj)} (N : News h₀ L h news) (h1 : (l, (⟨.ref C, some dx, .prim (.str x t), sl⟩ : Obj)) ∈ news) (h2 : (dx, emptyDict) ∈ news) : StrAt h l dx C x t sl := ⟨(N _ h1).1, (N _ h2).1⟩
theorem plain_sg {cs : List Nat} (h : ∀ c ∈ cs, Sign c) : (∀ c ∈ (ofL cs).cps.toList, Plain7 c) ∧ 78 ∉ (ofL cs).cps.toList ∧ 13 ∉ (ofL cs).cps.toList := by
  have e : (ofL cs).cps.toList = cs := rfl
  rw [e]
  refine ⟨fun c hc => ?_, fun hc => ?_, fun hc => ?_⟩
  · have h' : c ∈ [97, 110, 59, 44, 58, 92, 10, 34, 233, 32] := h c hc
    simp only [List.mem_cons, List.not_mem_nil, or_false] at h'
    unfold Plain7
    omega
  · have h' : 78 ∈ [97, 110, 59, 44, 58, 92, 10, 34, 233, 32] := h _ hc
    simp at h'
  · have h' : 13 ∈ [97, 110, 59, 44, 58, 92, 10, 34, 233, 32] := h _ hc
    simp at h'
theorem esc_lens {css : List (List Nat)} (h : Sg css) : ∀ x ∈ css.map (fun cs => escT (ofL cs)), x.length ≤ 48 := by
  intro x hx
  obtain ⟨cs, hc, rfl⟩ := List.mem_map.mp hx
  have h1 := escT_len (ofL cs)
  have h2 : (ofL cs).length ≤ 3 := (h cs hc).1
  omega
theorem esc_plains {css : List (List Nat)} (h : Sg css) : ∀ x ∈ css.map (fun cs => (escT (ofL cs)).cps.toList), ∀ c ∈ x, Plain7 c := by
  intro x hx
  obtain ⟨cs, hc, rfl⟩ := List.mem_map.mp hx
  exact escT_plain (plain_sg (h cs hc).2).1
theorem join_plain {p : Nat} (hp : Plain7 p) : ∀ {l : List (List Nat)}, (∀ x ∈ l, ∀ c ∈ x, Plain7 c) → ∀ c ∈ joinL p l, Plain7 c
  | [], _, c, hc => by cases hc
  | [x], h, c, hc => h x (.head _) c hc
  | x :: y :: r, h, c, hc => by
    have hc' : c ∈ x ++ p :: joinL p (y :: r) := hc
    rcases List.mem_append.mp hc' with hc | hc
    · exact h x (.head _) c hc
    · rcases List.mem_cons.mp hc with rfl | hc
      · exact hp
      · exact join_plain hp (fun z hz => h z (.tail _ hz)) c hc
theorem inElt_led {s g h h₀ : Heap} {L L' : Addr} {m : Str → Option Value} {news : List (Addr × Obj)} (G : GSub s g (news.map (·.1))) (F : Fr g L' h m) (N : News h₀ L s news) (N' : ∀ p ∈ news, h.get? p.1 = some p.2 ∧ p.1 ≠ L' ∧ g.get? p.1 = none) : InElt s h := fun b o e => by
  by_cases hb : b ∈ news.map (·.1)
  · obtain ⟨p, hp, rfl⟩ := List.mem_map.mp hb
    have z := (N p hp).1
    rw [e] at z
    cases z
    exact (N' p hp).1
  · exact F.keep b o (G b o e hb)
def JoinW (ys : List Str) : Prop := (ys.map (·.length)).sum + ys.length ≤ 1048576
def EncW (x : Str) : Prop := (∀ c ∈ x.cps.toList, Str.isSurrogate c = false) ∧ x.length ≤ 1000
theorem join_J {prog : Program} {w : World} {A : Around} {E : Value → Shared → Prop} {s : Shared} {x : Str} {t : Tok} {Q : Value → Shared → Prop} {D : Addr} {vs : List Value} {ys : List Str} {news : List (Addr × Obj)} {h₀ : Heap} {L : Addr} (N : News h₀ L s.heap ((D, LCg.lst vs) :: news)) (hi : StrsAre vs ys) (hsep : x.length ≤ 16) (hw : JoinW ys)
    (h : ∀ t' k, Q (.str (Txt.join x ys) t') { s with toks := k }) : wpAny (model prog w) A (call (.builtin "str.join") [.str x t, .ref D]) Q E s :=
  join_listW (News.isList N (.head _)) (by simpa using hi) hsep hw h
theorem enc_W {prog : Program} {w : World} {A : Around} {E : Value → Shared → Prop} {s : Shared} {x : Str} {t u : Tok} {Q : Value → Shared → Prop} (hx : EncW x)
    (q : ∀ t' tk', Q (.bytes (encB x.cps.toList).toArray t') { s with toks := tk' }) : wpAny (model prog w) A (PySem.call (.builtin "str.encode") [.str x t, .str (Str.ofString "utf-8") u]) Q E s := enc_call hx.1 hx.2 q
theorem back_str (x : Str) : (⟨x.cps.toList.toArray⟩ : Str) = x := by simp
end BL
end
-- part OCp
section
set_option linter.unusedVariables false
open PySem PySem.W PySem.Spec PySem.Calls PyProof.Rows
set_option maxRecDepth 100000
set_option maxHeartbeats 8000000
set_option Elab.async false
namespace BL
theorem news_sub {h₀ h : Heap} {L : Addr} {l l' : List (Addr × Obj)} (N : News h₀ L h l) (hs : ∀ p ∈ l', p ∈ l) : News h₀ L h l' := fun p hp => N p (hs p hp)
theorem news_cat {h₀ h : Heap} {L : Addr} {a b c d e f g i : Addr × Obj} {ts : List (Addr × Obj)} (N : News h₀ L h (a :: b :: c :: d :: e :: f :: g :: i :: ts)) : News h₀ L h (b :: c :: d :: ts) := fun p hp => by
  rcases List.mem_cons.mp hp with rfl | hp
  · exact N _ (.tail _ (.head _))
  · rcases List.mem_cons.mp hp with rfl | hp
    · exact N _ (.tail _ (.tail _ (.head _)))
    · rcases List.mem_cons.mp hp with rfl | hp
      · exact N _ (.tail _ (.tail _ (.tail _ (.head _))))
      · exact N _ (.tail _ (.tail _ (.tail _ (.tail _ (.tail _ (.tail _ (.tail _ (.tail _ hp))))))))
/-- what the octets' call keeps -/
theorem oct_keep {s g h : Heap} {L' : Addr} {m : Str → Option Value} {lf : Addr} {o : Obj} {x1 x2 x3 : Obj} {news : List (Addr × Obj)} (G : GSub s g (List.map (fun p => p.1) [(lf, o), (525, x1), (706, x2), (815, x3)])) (F : Fr g L' h m) (hs : s.get? lf = some o) (N : News g L' h news) (hm : (lf, o) ∈ news) :
    ∀ b ob, b ∉ [525, 706, 815] → s.get? b = some ob → h.get? b = some ob := fun b ob hb e => by
  by_cases h1 : b = lf
  · subst h1
    rw [hs] at e
    cases e
    exact (N _ hm).1
  · exact F.keep b ob (G b ob e (by simp at hb ⊢; exact ⟨h1, hb.1, hb.2.1, hb.2.2⟩))
end BL
end
-- part Gen1
section
set_option linter.unusedVariables false
set_option linter.unusedSimpArgs false
open PySem PySem.W PySem.Spec PySem.Calls PyProof.Rows
set_option maxRecDepth 100000
set_option maxHeartbeats 4000000
namespace BL
section
variable {prog : Program} {w : World} {A : Around} {E : Value → Shared → Prop} {s : Shared}
/-- str(f) of a text, in a block of a generator -/
theorem elt_str {cenv : Env} {x y : Str} {p1 p2 p3 : Pos} {t : Tok} {mg mb m : Str → Option Value} {Q : Value → Shared → Prop} (hk : cenv.scope.kind = .function) (hs : cenv.kindOf "str" = some .globalImplicit) (hx : cenv.kindOf x = some .local) (hd : (x == ("__debug__" : Str)) = false)
    (G : s.heap.Ns cenv.globals mg) (hg : mg "str" = none) (Bn : s.heap.Ns cenv.builtins mb) (hb : mb "str" = some (.type "str")) (N : s.heap.Ns cenv.locals m) (hm : m x = some (.str y t)) (q : Q (.str y t) s) :
    wpAny (model prog w) A (eval (.Call (.Name "str" p1) [.Name x p2] [] p3) cenv) Q E s := by
  refine Call_Name1 (Name_function_global hk hs (loadGlobal_builtin G hg Bn hb ?_))
  refine PySem.callWith_type1 ?_
  rw [PySem.eval_Name cenv x p2 hd]
  exact wpAny_bind (wpAny_standAt (wpAny_loadName_local hk hx N hm (P.str_of_str q)))
/-- what a generator over texts is, fresh -/
def GenOf (prog : Program) (w : World) (A : Around) (a : Addr) (vs : List Value) (lo : Nat) (s : Shared) : Prop :=
  ∃ fp wr g St, WalksS prog w A.in4 a fp wr (GenOnlyQ g) vs.length (fun i y => vs[i]? = some y) St ∧ St 0 s ∧ (∀ i s', St i s' → s'.TypeIs (.ref a) "generator") ∧ a ∈ fp ∧ (∀ b ∈ fp, b < s.heap.objs.size) ∧ ∀ b ∈ wr, lo ≤ b
theorem passing_all (n : Nat) : passing (fun _ => true) n 0 = List.range n := by simp [passing]
theorem gen_make {env : Env} {iter : PySem.Expr} {x : Str} {px p1 p2 p3 : Pos} {scope : Scope} {cl : List (Str × Addr)} {pos : Pos} {Q : Value → Shared → Prop} {h₀ : Heap} {L l c P : Addr} {m mg mb : Str → Option Value} {ps : Array Value} {vs : List Value} {ys : List Str} {p : Program} {loose : List Str} {mean : ExcName → Option Value}
    (F : Fr h₀ L s.heap m) (T : Top p loose mean mg mb h₀) (hP : h₀.get? P = none) (hcode : env.code = .ref c) (hok : s.heap.IsCode c P ps) (htab : s.heap.TableAt c P ps) (hnf : codeAmong pos ps.toList = none) (hgl : env.globals = mainGlobals)
    (hh : A.handled = none) (hco : scope.isCoroutine = false) (hclos : closureFor scope env = pure cl) (hcell : ∀ y ∈ scope.names, y.2 ≠ .cell) (h0 : scope.names.lookup (".0" : Str) = some NameKind.local)
    (hx : scope.names.lookup x = some .local) (hstr : scope.names.lookup ("str" : Str) = some .globalImplicit) (hxd : (x == ("__debug__" : Str)) = false) (hkind : scope.kind = .function) (hroom : A.depth < recursionLimit)
    (hms : mg "str" = none) (hl : s.heap.IsList l vs.toArray) (hvs : StrsAre vs ys)
    (hi : ∀ (Q : Value → Shared → Prop) (E : Value → Shared → Prop), Q (.ref l) s → wpAny (model prog w) A (eval iter env) Q E s)
    (q : ∀ a h' tk gs, GenOf prog w A a vs s.heap.objs.size ⟨h', gs, s.drawn, tk, s.os⟩ → (∀ b o, b ≠ P → s.heap.get? b = some o → h'.get? b = some o) → (∃ ps', h'.get? P = some (tabObj ps')) → (AllBare s.gens → AllBare gs) → Q (.ref a) ⟨h', gs, s.drawn, tk, s.os⟩)
    (hs : ∀ x, genFold iter env x = pure x) :
    wpAny (model prog w) A (eval (.GeneratorExp (.Call (.Name "str" p1) [.Name x p2] [] p3) [⟨.Name x px, iter, [], 0⟩] scope pos) env) Q E s := by
  refine wpAny_GeneratorExp_walksQ hh hco hclos hcell h0 hx hkind hroom (hi _ _ ?_) hs
  obtain ⟨H, g, d, t, os⟩ := s
  have hlt : l < H.objs.size := by obtain ⟨_, e, _⟩ := hl; exact Heap.lt_size e
  refine wpAny_pyIter_list hl ⟨((T.nolimit.keeps F.keep).keeps fun _ _ e => Heap.get?_push_of_some _ e), ?_⟩
  have eI : (H.push { cls := .type "list_iterator", data := .fields #[.ref l, .int 0 0] }).IsListIter H.objs.size l 0 := ⟨_, Heap.get?_push_size _ rfl, rfl, rfl⟩
  have kI : ∀ b o, H.get? b = some o → (H.push { cls := .type "list_iterator", data := .fields #[.ref l, .int 0 0] }).get? b = some o := fun b o e => Heap.get?_push_of_some _ e
  have sI : (H.push { cls := .type "list_iterator", data := .fields #[.ref l, .int 0 0] }).objs.size = H.objs.size + 1 := Heap.size_push ..
  have okI := hok.push { cls := .type "list_iterator", data := .fields #[.ref l, .int 0 0] }
  have tabI : (H.push { cls := .type "list_iterator", data := .fields #[.ref l, .int 0 0] }).TableAt c P ps := htab.keeps kI
  generalize H.push { cls := .type "list_iterator", data := .fields #[.ref l, .int 0 0] } = Ha at *
  refine wpAny_genexprCodeX hcode okI tabI hnf fun c3 h3 tk3 k3 _ _ ok3 _ tab3 _ => ?_
  have low : ∀ b o, h₀.get? b = some o → h3.get? b = some o := fun b o e => k3 b o (fun z => by rw [z, hP] at e; cases e) (kI b o (F.keep b o e))
  obtain ⟨bm, ob, hb1, hb2, hb3, hb4, hb5, hb6⟩ := T.bmain
  have hb0 : mb "str" = some (.type "str") := (T.builtins _ (by decide +kernel)).trans (by first | rfl | kernel_rfl)
  refine wpAny_builtinsFor (s := ⟨h3, g, d, tk3, os⟩) (by rw [hgl]; exact T.g.keeps low) hb1 hb2 (low _ _ hb3) hb4 hb5 hb6 ?_
  have nP : ∀ b, b ≠ P → ∀ o, Ha.get? b = some o → h3.get? b = some o := fun b n o e => k3 b o n e
  obtain ⟨oP, hoP, hdP⟩ : ∃ oP, H.get? P = some oP ∧ ∃ a, oP.data = .fields a := by
    obtain ⟨o, vs, file, tf, flags, tg, inF, text, tt, op, a1, a2, a3, a4, a5, a6, a7, a8, a9, _⟩ := hok
    exact ⟨op, a8, _, a9⟩
  have hPz : P < H.objs.size := Heap.lt_size hoP
  have hlP : l ≠ P := fun e => by
    obtain ⟨o, ho, hc, n, hd⟩ := hl
    obtain ⟨a, ha⟩ := hdP
    rw [e, hoP] at ho
    cases ho
    rw [hd] at ha
    cases ha
  have hIP : H.objs.size ≠ P := Nat.ne_of_gt hPz
  have hL3 : h3.IsList l vs.toArray := by
    obtain ⟨o, ho, r⟩ := hl
    exact ⟨o, nP l hlP o (kI _ _ ho), r⟩
  have hI3 : h3.IsListIter H.objs.size l 0 := by
    obtain ⟨o, ho, r⟩ := eI
    exact ⟨o, nP _ hIP o ho, r⟩
  have hI3z : H.objs.size < h3.objs.size := by
    obtain ⟨o, ho, r⟩ := hI3
    exact Heap.lt_size ho
  have hcs : cStatics < h₀.objs.size := let ⟨_, hn, _⟩ := T.nolimit; hn.lt
  have hH0 : h₀.objs.size ≤ H.objs.size := Nat.le_trans F.above (Nat.le_of_lt F.ns.lt)
  refine ⟨H.objs.size, [H.objs.size, l], [H.objs.size], vs.toArray.size, _, _, fun _ => true, fun i y => vs[i]? = some y, rfl, fun A' hA => Walks.list hA _ _ (Nat.ne_of_lt hlt) vs.toArray, ⟨hI3, hL3⟩, ?_, T.nolimit.keeps low, ?_, ?_, ?_⟩
  · intro b hb
    simp only [List.mem_cons, List.not_mem_nil, or_false] at hb
    rcases hb with rfl | rfl
    · exact hI3z
    · exact Nat.lt_trans hlt hI3z
  · intro hb
    simp only [List.mem_cons, List.not_mem_nil, or_false] at hb
    rw [hb] at hcs
    exact absurd hcs (Nat.not_lt.mpr hH0)
  · intro href hk
    refine ⟨fun A' E' i v s₂ m₂ hA hv hn hm hkk => ?_, fun A' E' i v s₂ m₂ hA hv hp hn hm hkk => ?_⟩
    · exact wpAny_pure ⟨rfl, _, _, rfl, fun _ _ e => e⟩
    · have hv' : vs[i]? = some v := by simpa using hv
      obtain ⟨y, ty, e, _⟩ := hvs.item i v hv'
      subst e
      have up : ∀ b o, h₀.get? b = some o → s₂.heap.get? b = some o := fun b o e => hkk b (List.mem_range.mpr (Heap.lt_size (low b o e))) (by
        simp only [List.mem_cons, List.not_mem_nil, or_false]
        exact Nat.ne_of_lt (Nat.lt_of_lt_of_le (Heap.lt_size e) hH0)) o (hk b o (low b o e))
      refine elt_str (mg := mg) (mb := mb) hkind hstr hx hxd (by show s₂.heap.Ns env.globals mg; rw [hgl]; exact T.g.keeps up) hms (T.b.keeps up) hb0 hn hm ?_
      exact ⟨hv', _, _, rfl, fun _ _ e => e⟩
  · intro a h5 tk gs hbare ha h5z k5 W G0
    have e1 : (passing (fun _ => true) vs.toArray.size 0).length = vs.length := by rw [passing_all]; simp
    rw [e1] at W
    have W' := WalksS.imp (P' := fun i y => vs[i]? = some y) W (by
      rintro j y ⟨i, hi, hF⟩
      rw [passing_all] at hi
      have : i = j := by
        rw [List.getElem?_eq_some_iff] at hi
        obtain ⟨_, hi⟩ := hi
        simpa using hi.symm
      rw [← this]
      exact hF)
    refine q a h5 tk _ ⟨_, _, _, _, W', G0, fun i s' st => st.1.typeIs, List.mem_cons_self .., ?_, ?_⟩ (fun b o n e => k5 b o (nP b n o (kI b o e))) ⟨_, k5 _ _ tab3.2⟩ fun hb => hb.push hbare
    · intro b hb
      show b < h5.objs.size
      rw [h5z]
      rcases List.mem_cons.mp hb with rfl | hb
      · exact Nat.lt_succ_self _
      · have ha' : h3.objs.size < a := ha
        rcases List.mem_cons.mp hb with rfl | hb
        · exact Nat.lt_succ_of_lt ha'
        · have : b < h3.objs.size := List.mem_range.mp hb
          exact Nat.lt_succ_of_lt (Nat.lt_trans this ha')
    · intro b hb
      show H.objs.size ≤ b
      rcases List.mem_cons.mp hb with rfl | hb
      · exact Nat.le_of_lt hI3z
      · simp only [List.mem_cons, List.not_mem_nil, or_false] at hb
        rw [hb]
        exact Nat.le_refl _
end
end BL
namespace BL
section
variable {prog : Program} {w : World} {A : Around} {E : Value → Shared → Prop} {s : Shared}
theorem items_eq {vs : List Value} {acc : Array Value} (h : ItemsOf (fun i y => vs[i]? = some y) acc vs.length) : acc.toList = vs := by
  obtain ⟨h1, h2⟩ := h
  apply List.ext_getElem?
  intro i
  rcases Nat.lt_or_ge i vs.length with hi | hi
  · have hi' : i < acc.size := by omega
    have e := h2 i acc[i] (Array.getElem?_eq_getElem hi')
    rw [e]
    simp [hi']
  · rw [List.getElem?_eq_none hi, List.getElem?_eq_none (by simp; omega)]
/-- what changes when the generator is gone through -/
theorem star_gen {a lo : Addr} {vs : List Value} {Q : List Value → Shared → Prop} (G : GenOf prog w A a vs lo s) (hn : vs.length ≤ 1000)
    (q : ∀ (h' : Heap) tk gs, (∀ b o, b < lo → s.heap.get? b = some o → h'.get? b = some o) → (AllBare s.gens → AllBare gs) → Q vs ⟨h', gs, s.drawn, tk, s.os⟩) : StarOf (model prog w) A E (.ref a) Q s := by
  obtain ⟨fp, wr, g, St, W, hst, hT, hI, hfp, hwr⟩ := G
  have z : wpAny (model prog w) A (collect (.ref a)) Q E s := by
    refine wpAny_collect_gen W.in4_1 hT hst hfp hI (fun s' acc mv it => ?_) (by rw [sizeLine_eq]; omega)
    obtain ⟨h', gs, d', tk, os'⟩ := s'
    have e1 : d' = s.drawn := mv.drawn
    have e2 : os' = s.os := mv.os
    subst e1 e2
    rw [items_eq it]
    exact q h' tk gs (fun b o hb e => mv.heap b o (fun hw => Nat.lt_irrefl _ (Nat.lt_of_lt_of_le hb (hwr b hw))) e) fun hb => AllBare.moved hb mv.gens
  unfold StarOf notIterableAtAll
  exact wpAny_bind (wpAny_specialOf (hT 0 s hst) PySem.slot_gen_iter.lookup (wpAny_pure ⟨rfl, z⟩))
theorem tuple_gen {a lo : Addr} {vs : List Value} {Q : Value → Shared → Prop} (G : GenOf prog w A a vs lo s) (hn : vs.length ≤ 1000)
    (q : ∀ (h' : Heap) tk gs, (∀ b o, b < lo → s.heap.get? b = some o → h'.get? b = some o) → (AllBare s.gens → AllBare gs) → Q (.ref h'.objs.size) ⟨h'.push { cls := .type "tuple", data := .seq vs.toArray }, gs, s.drawn, tk, s.os⟩) :
    wpAny (model prog w) A (PySem.call (.type "tuple") [.ref a]) Q E s := by
  obtain ⟨fp, wr, g, St, W, hst, hT, hI, hfp, hwr⟩ := G
  refine call_tuple_gen W.in4_3 hT hst hfp hI (fun s' acc mv it => ?_) (by rw [sizeLine_eq]; omega)
  obtain ⟨h', gs, d', tk, os'⟩ := s'
  have e1 : d' = s.drawn := mv.drawn
  have e2 : os' = s.os := mv.os
  subst e1 e2
  have e3 : acc = vs.toArray := by rw [← items_eq it]
  subst e3
  exact q h' tk gs (fun b o hb e => mv.heap b o (fun hw => Nat.lt_irrefl _ (Nat.lt_of_lt_of_le hb (hwr b hw))) e) fun hb => AllBare.moved hb mv.gens
end
end BL
end
-- part Gen2
section
set_option linter.unusedVariables false
open PySem PySem.W PySem.Spec PySem.Calls PyProof.Rows
set_option maxRecDepth 100000
set_option autoImplicit false
namespace BL
/-- a fresh generator over texts, behind a frame and a ledger -/
def GenIn (prog : Program) (w : World) (A : Around) (h₀ : Heap) (L : Addr) (news : List (Addr × Obj)) (a : Addr) (vs : List Value) (s : Shared) : Prop :=
  ∃ lo : Nat, GenOf prog w A a vs lo s ∧ @LT.lt Nat _ L lo ∧ (∀ p ∈ news, @LT.lt Nat _ p.1 lo)
section
variable {prog : Program} {w : World} {A : Around} {E : Value → Shared → Prop} {s : Shared} {h₀ : Heap} {L : Addr} {m mg mb : Str → Option Value} {news : List (Addr × Obj)}
theorem gen_ruleN {env : Env} {iter : PySem.Expr} {x : Str} {px p1 p2 p3 : Pos} {scope : Scope} {cl : List (Str × Addr)} {pos : Pos} {Q : Value → Shared → Prop} {l c P : Addr} {ps : Array Value} {vs : List Value} {ys : List Str} {p : Program} {loose : List Str} {mean : ExcName → Option Value} {g : Obj → List (Addr × Obj)}
    (F : Fr h₀ L s.heap m) (N : News h₀ L s.heap news) (T : Top p loose mean mg mb h₀) (hcode : env.code = .ref c) (C : CodeHd h₀ c P) (U : UpdF P (tabObj ps) news g) (ht : TriplesOk ps.toList) (hnf : codeAmong pos ps.toList = none) (hgl : env.globals = mainGlobals)
    (hb : AllBare s.gens) (hh : A.handled = none) (hco : scope.isCoroutine = false) (hclos : closureFor scope env = pure cl) (hcell : ∀ y ∈ scope.names, y.2 ≠ .cell) (h0 : scope.names.lookup (".0" : Str) = some NameKind.local)
    (hx : scope.names.lookup x = some .local) (hstr : scope.names.lookup ("str" : Str) = some .globalImplicit) (hxd : (x == ("__debug__" : Str)) = false) (hkind : scope.kind = .function) (hroom : A.depth < recursionLimit)
    (hms : mg "str" = none) (hl : s.heap.IsList l vs.toArray) (hvs : StrsAre vs ys)
    (hi : ∀ (Q : Value → Shared → Prop) (E : Value → Shared → Prop), Q (.ref l) s → wpAny (model prog w) A (eval iter env) Q E s)
    (q : ∀ a h' tk gs ps', GenIn prog w A h₀ L (g (tabObj ps')) a vs ⟨h', gs, s.drawn, tk, s.os⟩ → Fr h₀ L h' m → News h₀ L h' (g (tabObj ps')) → AllBare gs → Q (.ref a) ⟨h', gs, s.drawn, tk, s.os⟩)
    (hs : ∀ x, genFold iter env x = pure x) :
    wpAny (model prog w) A (eval (.GeneratorExp (.Call (.Name "str" p1) [.Name x p2] [] p3) [⟨.Name x px, iter, [], 0⟩] scope pos) env) Q E s := by
  obtain ⟨own, rest, rfl, hgr, h1, h2⟩ := U.split
  have hm := N (P, tabObj ps) (List.mem_append_right _ (.head _))
  have C' := C.keeps F.keep
  have hL : @LT.lt Nat _ L s.heap.objs.size := F.ns.lt
  refine gen_make F T hm.2.2 hcode (C'.code hm.1 ht) (C'.tab hm.1) hnf hgl hh hco hclos hcell h0 hx hstr hxd hkind hroom hms hl hvs hi (fun a h' tk gs G k5 htab hb' => ?_) hs
  obtain ⟨ps', hP'⟩ := htab
  have hLP : L ≠ P := Ne.symm hm.2.1
  have keep : ∀ b o, h₀.get? b = some o → h'.get? b = some o := fun b o e => k5 b o (fun z => by rw [z, hm.2.2] at e; cases e) (F.keep b o e)
  refine q a h' tk gs ps' ⟨s.heap.objs.size, G, hL, ?_⟩ ⟨F.ns.at' fun o e => k5 L o hLP e, keep, F.above⟩ ?_ (hb' hb)
  · intro p hp
    rw [hgr] at hp
    rcases List.mem_append.mp hp with hp | hp
    · exact Heap.lt_size (N p (List.mem_append_left _ hp)).1
    · rcases List.mem_cons.mp hp with rfl | hp
      · exact Heap.lt_size hm.1
      · exact Heap.lt_size (N p (List.mem_append_right _ (.tail _ hp))).1
  · intro p hp
    rw [hgr] at hp
    rcases List.mem_append.mp hp with hp | hp
    · exact ⟨k5 _ _ (h1 p hp) (N p (List.mem_append_left _ hp)).1, (N p (List.mem_append_left _ hp)).2⟩
    · rcases List.mem_cons.mp hp with rfl | hp
      · exact ⟨hP', hm.2⟩
      · exact ⟨k5 _ _ (h2 p hp) (N p (List.mem_append_right _ (.tail _ hp))).1, (N p (List.mem_append_right _ (.tail _ hp))).2⟩
theorem GenIn.grown {lo : Nat} {h' : Heap} (F : Fr h₀ L s.heap m) (N : News h₀ L s.heap news) (hL : @LT.lt Nat _ L lo) (hn : ∀ p ∈ news, @LT.lt Nat _ p.1 lo) (k : ∀ b o, b < lo → s.heap.get? b = some o → h'.get? b = some o) : Fr h₀ L h' m ∧ News h₀ L h' news := by
  have ha : @LE.le Nat _ h₀.objs.size L := F.above
  refine ⟨⟨F.ns.at' fun o e => k L o hL e, fun b o e => ?_, F.above⟩, fun p hp => ⟨k _ _ (hn p hp) (N p hp).1, (N p hp).2⟩⟩
  have hb : @LT.lt Nat _ b h₀.objs.size := Heap.lt_size e
  exact k b o (Nat.lt_of_lt_of_le hb (Nat.le_trans ha (Nat.le_of_lt hL))) (F.keep b o e)
theorem star_ruleN {a : Addr} {vs : List Value} {Q : List Value → Shared → Prop} (G : GenIn prog w A h₀ L news a vs s) (F : Fr h₀ L s.heap m) (N : News h₀ L s.heap news) (hb : AllBare s.gens) (hn : vs.length ≤ 1000)
    (q : ∀ (h' : Heap) tk gs, Fr h₀ L h' m → News h₀ L h' news → AllBare gs → Q vs ⟨h', gs, s.drawn, tk, s.os⟩) : StarOf (model prog w) A E (.ref a) Q s := by
  obtain ⟨lo, G, hL, hN⟩ := G
  refine star_gen G hn fun h' tk gs k hb' => ?_
  obtain ⟨F', N'⟩ := GenIn.grown F N hL hN k
  exact q h' tk gs F' N' (hb' hb)
theorem tuple_ruleN {a : Addr} {vs : List Value} {Q : Value → Shared → Prop} (G : GenIn prog w A h₀ L news a vs s) (F : Fr h₀ L s.heap m) (N : News h₀ L s.heap news) (hb : AllBare s.gens) (hn : vs.length ≤ 1000)
    (q : ∀ t (h' : Heap) tk gs, Fr h₀ L h' m → News h₀ L h' ((t, { cls := .type "tuple", data := .seq vs.toArray }) :: news) → (∀ p ∈ news, p.1 < t) → AllBare gs → Q (.ref t) ⟨h', gs, s.drawn, tk, s.os⟩) :
    wpAny (model prog w) A (PySem.call (.type "tuple") [.ref a]) Q E s := by
  obtain ⟨lo, G, hL, hN⟩ := G
  refine tuple_gen G hn fun h' tk gs k hb' => ?_
  obtain ⟨F', N'⟩ := GenIn.grown F N hL hN k
  exact q _ _ tk gs (F'.push _) (News.push F' N' _ rfl) (fun p hp => Heap.lt_size (N' p hp).1) (hb' hb)
end
end BL
end
-- part Chd
section
set_option linter.unusedVariables false
open PySem PySem.W PySem.Spec PySem.Calls PyProof.Rows
set_option maxRecDepth 100000
set_option maxHeartbeats 8000000
set_option Elab.async false
namespace BL
theorem chd529 {w : World} {h : Heap} (X : (K w.params).In h) : CodeHd h 529 525 := ⟨_, _, _, _, _, _, _, _, _, X 529 (o529_34 w.params) (by kernel_rfl), rfl, rfl, rfl, rfl, rfl, rfl, rfl, rfl, by decide⟩
theorem chd710 {w : World} {h : Heap} (X : (K w.params).In h) : CodeHd h 710 706 := ⟨_, _, _, _, _, _, _, _, _, X 710 (o710_39 w.params) (by kernel_rfl), rfl, rfl, rfl, rfl, rfl, rfl, rfl, rfl, by decide⟩
theorem chd819 {w : World} {h : Heap} (X : (K w.params).In h) : CodeHd h 819 815 := ⟨_, _, _, _, _, _, _, _, _, X 819 (o819_43 w.params) (by kernel_rfl), rfl, rfl, rfl, rfl, rfl, rfl, rfl, rfl, by decide⟩
theorem news_ne {h₀ h : Heap} {L l : Addr} {news : List (Addr × Obj)} (N : News h₀ L h news) (hn : h.get? l = none) : ∀ p ∈ news, p.1 ≠ l := fun p hp e => by
  have z := (N p hp).1
  rw [e, hn] at z
  cases z
theorem len_known {prog : Program} {w : World} {A : Around} {E : Value → Shared → Prop} {s : Shared} {l : Addr} {vs : List Value} {k : Nat} {Q : Value → Shared → Prop} (hl : s.heap.IsList l vs.toArray) (hk : vs.length = k) (hz : k ≤ 1000)
    (q : Q (.int (k : Int) (s.toks + 1)) { s with toks := s.toks + 1 + 1 }) : wpAny (model prog w) A (call (.builtin "len") [.ref l]) Q E s := by
  subst hk
  exact len_list hl (by rw [List.size_toArray]; omega) (by rw [List.size_toArray]; exact q)
end BL
end
-- part OwnD
section
set_option linter.unusedVariables false
open PySem PySem.W PySem.Spec PySem.Calls PyProof.Rows Builtin
set_option maxRecDepth 100000
set_option maxHeartbeats 4000000
namespace BL
theorem none_above {h : Heap} {b : Addr} (hb : h.objs.size ≤ b) : h.get? b = none := by
  cases e : h.get? b with
  | none => rfl
  | some o => exact absurd (Heap.lt_size e) (Nat.not_lt.mpr hb)
/-- a class two steps over dict, made by dict -/
structure OwnDict (M : Model) (h : Heap) (C B fI : Addr) : Prop where
  obj : ∃ oc od cd sl, h.get? C = some ⟨oc, od, .cls cd, sl⟩ ∧ cd.hasDel = false
  mro : Looks M h (mroOf (.ref C)) [.ref C, .ref B, .type "dict", .type "object"]
  made : Looks M h (Bind.madeBy (.ref C)) (some "dict.__new__")
  ty : Looks M h (isType (.ref C)) true
  sub : Looks M h (isSubtype (.ref C) (.type "dict")) true
  self : Looks M h (isSubtype (.ref C) (.ref C)) true
  call : Looks M h (specialOf (.ref C) "__call__") (some (.builtin "type.__call__"))
  typ : Looks M h (isInstance (.ref C) (.type "type")) true
  init : Looks M h (typeLookup (.ref C) "__init__") (some (.ref fI))
  fn : Looks M h (typeOf (.ref fI)) (.type "function")
  chk : Looks M h (checkBuiltinCall "dict.__new__" ⟨[.ref C, .none], []⟩) ()
abbrev dictInst (C dx : Addr) (es : List DictEntry) (n : Nat) : Obj := { cls := .ref C, dict := some dx, data := .dict es.toArray n }
section
variable {prog : Program} {w : World} {A : Around} {K : Frag} {E : Value → Shared → Prop} {s : Shared} {C B fI : Addr}
theorem dict_make {h₀ : Heap} {L : Addr} {m : Str → Option Value} {news : List (Addr × Obj)} {Q : Value → Shared → Prop} (Fr0 : Fr h₀ L s.heap m) (N : News h₀ L s.heap news) (Y : OwnDict (model prog w) s.heap C B fI)
    (h : ∀ x dx h', Fr h₀ L h' m → News h₀ L h' ((x, dictInst C dx [] 0) :: (dx, emptyDict) :: news) → (∀ p ∈ news, p.1 < dx) → dx < x → InElt s.heap h' → s.heap.objs.size ≤ dx →
      wpAny (model prog w) (A.under (.builtin "type.__call__" ⟨.ref C :: [.none], []⟩)) (PySem.call (.ref fI) [.ref x, .none]) (fun r s' => r = .none ∧ Q (.ref x) s') E { s with heap := h' }) :
    wpAny (model prog w) A (PySem.call (.ref C) [.none]) Q E s := by
  obtain ⟨hh, g, d, t, os⟩ := s
  have Y' := Y
  obtain ⟨⟨oc, od, cd, sl, hC, e1⟩, mro, made, ty, sub, self, call, typ, init, fn, chk⟩ := Y
  refine wpAny_call (codeAny_of_tree ?_)
  show wpAny _ _ (callAny (.ref C) _) _ _ _
  refine nd_load hC ?_
  show wpAny _ _ (callAny.viaDunder (.ref C) _) _ _ _
  unfold callAny.viaDunder
  refine wpAny_bind (call.at ?_)
  dsimp only
  rw [tc_bind]
  refine wpAny_bind (wpAny_pure (wpAny_bind (wpAny_pure ?_)))
  refine wpAny_pure (a := Fin.again (.call (.builtin "type.__call__") ⟨.ref C :: [.none], []⟩)) (And.intro rfl ?_)
  refine codeAny_call_builtin_at (Code.quiet_builtin _ (by decide +kernel)) entry_typeCall (check_slot tc_kind tc_split typ (tc_args _ _ _) ?_)
  unfold Builtin.«type.__call__»
  repeat (first | simp only [List.isEmpty_cons, Bool.false_eq_true, if_false] | (with_reducible refine wpAny_call ?_) | lk)
  refine codeAny_call_builtin F.kt_plain_dict_new F.kt_entry_dict_new (chk.at ?_)
  unfold Builtin.«dict.__new__»
  have hany : ([Value.ref C, Value.ref B, Value.type "dict", Value.type "object"].any fun x => match x with | .type n => !["dict", "object", "collections.defaultdict", "collections.OrderedDict"].contains n | _ => false) = false := by
    simp only [List.any_cons, List.any_nil]; decide +kernel
  repeat (first | simp only [Bool.not_true, Bool.false_eq_true, if_false] | rw [hany] | lk)
  refine nd_load (Heap.get?_push_of_some _ (Heap.get?_push_of_some _ hC)) (nd_pure ?_)
  dsimp only
  rw [e1]
  refine wpAny_pure (wpAny_pure (wpAny_pure ?_))
  have k : ∀ b o, hh.get? b = some o → ((hh.push emptyDict).push (dictInst C hh.objs.size [] 0)).get? b = some o := fun b o e => Heap.get?_push_of_some _ (Heap.get?_push_of_some _ e)
  have hx : ((hh.push emptyDict).push (dictInst C hh.objs.size [] 0)).get? (hh.objs.size + 1) = some (dictInst C hh.objs.size [] 0) := by heap_get
  have t1 : Looks (model prog w) ((hh.push emptyDict).push (dictInst C hh.objs.size [] 0)) (typeOf (.ref (hh.objs.size + 1))) (.ref C) := (Looks.ld hx).andThen .now
  have in1 : Looks (model prog w) ((hh.push emptyDict).push (dictInst C hh.objs.size [] 0)) (isInstance (.ref (hh.objs.size + 1)) (.ref C)) true := t1.andThen (self.keeps k)
  have bi : Looks (model prog w) ((hh.push emptyDict).push (dictInst C hh.objs.size [] 0)) (bindSpecial (.ref fI) (.ref (hh.objs.size + 1))) (.ref fI, [.ref (hh.objs.size + 1)]) := by
    unfold bindSpecial
    exact (fn.keeps k).andThen (Looks.of_pure (by kernel_rfl))
  have N2 := (N.push Fr0 emptyDict).push (Fr0.push _) (dictInst C hh.objs.size [] 0)
  rw [Heap.size_push] at N2
  have z := h (hh.objs.size + 1) hh.objs.size _ ((Fr0.push emptyDict).push _) N2 (fun p hp => Heap.lt_size (N p hp).1) (Nat.lt_succ_self _) k (Nat.le_refl _)
  show wpAny _ _ _ _ _ ⟨(hh.push emptyDict).push (dictInst C hh.objs.size [] 0), g, d, t, os⟩
  rw [Heap.size_push]
  refine wpAny_bind (in1.at ?_)
  rw [if_neg (by decide)]
  unfold callSpecial? specialOf
  refine wpAny_bind (wpAny_holding (wpAny_bind (wpAny_bind (t1.at ((init.keeps k).at (wpAny_holding (wpAny_bind (bi.at (wpAny_bind (wpAny_mono z ?_ fun _ _ y => y))))))))))
  rintro r s' ⟨rfl, q⟩
  exact wpAny_pure (wpAny_pure q)
end
end BL
end
-- part OwnG
section
set_option linter.unusedVariables false
open PySem PySem.W PySem.Spec PySem.Calls PyProof.Rows
set_option maxRecDepth 100000
set_option maxHeartbeats 8000000
set_option Elab.async false
namespace BL
theorem pm_own {w : World} {h : Heap} (X : (K w.params).In h) : OwnDict (model PySem.Challenge.rw_bl0008_01.row.prog w) h 303 174 264 := by
  revert X
  w_top off
  k_fill
  intro X
  exact ⟨⟨_, _, _, _, X 303 _ (by k_is), rfl⟩, .of_peek X (by kernel_rfl), .of_peek X (by kernel_rfl), .of_peek X (by kernel_rfl), .of_peek X (by kernel_rfl), .of_peek X (by kernel_rfl), .of_peek X (by kernel_rfl), .of_peek X (by kernel_rfl), .of_peek X (by kernel_rfl), .of_peek X (by kernel_rfl), .of_peek X (by kernel_rfl)⟩
end BL
end
-- part EnvC
section
set_option linter.unusedVariables false
open PySem PySem.W PySem.Spec PySem.Calls PyProof.Rows Builtin
set_option maxRecDepth 100000
set_option maxHeartbeats 4000000
namespace BL
section
variable {prog : Program} {w : World} {A₀ A : Around} {s : Shared} {base h₀ : Heap} {outer : List Env} {L : Addr} {m : Str → Option Value} {env : Env} {news : List (Addr × Obj)}
  {R : Result → Shared → Prop} {name qual : Str} {params : Arguments} {body : List Stmt} {scope : Scope} {cl : List (Str × Addr)} {dV kV doc pm cdv ct : Value} {an : Option Addr} {f : Addr} {args : Args}
/-- what is asked of the written part, then one object laid down -/
theorem peek_push {α : Type} {K : Frag} {M : Model} {A : Around} {E : Value → Shared → Prop} {Q : α → Shared → Prop} {s : Shared} {o : Obj} (X : K.In s.heap) (t : Sem α) :
    ∀ g : Addr → Sem α, peekA K ⟨M.prog, M.w.params⟩ t = some (o, g) → wpAny M A (g s.heap.objs.size) Q E { s with heap := s.heap.push o } → wpAny M A t Q E s := by
  induction t with
  | alloc ob k _ =>
    intro g e q
    have e1 : ob = o ∧ k = g := Prod.mk.inj (Option.some.inj (show some (ob, k) = some (o, g) from e))
    obtain ⟨rfl, rfl⟩ := e1
    exact wpAny_bind (m := alloc ob) (f := k) (wpAny_alloc q)
  | load a _ k ih =>
    intro g e q Γ p hΓ
    cases hl : K.lookup a with
    | none => simp only [peekA, hl] at e; cases e
    | some ob =>
      simp only [peekA, hl] at e
      exact ⟨ob, X _ _ hl, ih ob g e q Γ p hΓ⟩
  | rule _ k ih => exact fun g e q Γ p hΓ => ih () g e q Γ p hΓ
  | point _ k ih => exact fun g e q Γ p hΓ => ih () g e q Γ p hΓ
  | ask k ih => exact fun g e q Γ p hΓ => ih _ g e q Γ p hΓ
  | _ => exact fun g e => by cases e
/-- a frame with two plain names and one cell, under a closure -/
theorem frame_cell {E : Value → Shared → Prop} {x y z : Str} {vx vy vz : Value} (B : Below A₀ base outer h₀) (F : Fr h₀ L s.heap m) (N : News h₀ L s.heap news) (hlim : h₀.NoLimit) (hA : A.frames = some (env :: outer)) (hf : env.frame = some L) (hke : env.scope.kind = .function)
    (hx : scope.names.lookup x = some .local) (hy : scope.names.lookup y = some .local) (hz : scope.names.lookup z = some .cell)
    (hcf : ∀ n, cellsFrom n scope.names cl = (z, n) :: cl) (hpc : ∀ h, pushCells h scope.names = h.push { cls := .type "cell", data := .cell none })
    (h : ∀ g L' c o h₁ tk, Fr h₀ L g m → Fr g L' h₁ (fun n => [(x, vx), (y, vy)].reverse.lookup n) → News g L' h₁ ((c, o) :: news) → o.data = .cell (some vz) → (∀ p ∈ news, p.1 < c) → Below A base (env :: outer) g → h₀.StaysIn g → GSub s.heap g (news.map (·.1)) →
      _root_.PySem.wpAt (model prog w) (A.deeper (envX qual scope L' f cdv ((z, c) :: cl))) (.func body (envX qual scope L' f cdv ((z, c) :: cl))) (execs body (envX qual scope L' f cdv ((z, c) :: cl)))
        (fun fl s' => LeaveK h₀ L m g R (match fl with | .ret v => v | _ => .none) s')
        (fun e s' => wpAny (model prog w) (A.deeper (envX qual scope L' f cdv ((z, c) :: cl))) (leaving (envX qual scope L' f cdv ((z, c) :: cl)) e) (fun _ s'' => R (.error e) s'') (fun e' s'' => R (.error e') s'') s')
        { s with heap := h₁, toks := tk })
    (hk : scope.kind = .function) :
    wpAny (model prog w) A.in1 (newFunctionEnv scope mainGlobals cl [(x, vx), (y, vy), (z, vz)] (qual ++ ".<locals>.") (some f) cdv none builtinsNs) (fun env' s₂ => s₂.heap.NoLimit ∧ codeAny (model prog w) A (.func body env') R s₂) E s := by
  obtain ⟨FG, BG, st, lv⟩ := groundX (R := R) B F N hA hf hke
  have z1 : (s.heap.push { cls := .type "frame", data := .dict #[] }).Ns s.heap.objs.size (fun _ => none) := Heap.Ns.new s.heap (.type "frame")
  have k1 : ∀ b o, s.heap.get? b = some o → (s.heap.push { cls := .type "frame", data := .dict #[] }).get? b = some o := fun b o e => Heap.get?_push_of_some _ e
  have hsz : (s.heap.push { cls := .type "frame", data := .dict #[] }).objs.size = s.heap.objs.size + 1 := Heap.size_push ..
  simp only [newFunctionEnv, Option.isSome_none, Bool.false_eq_true, if_false]
  refine wpAny_bind (wpAny_alloc ?_)
  refine wpAny_bind (wpAny_layCells _ (fun name kind cells => by cases hkc : kind == NameKind.cell <;> simp [hkc]) _ _ _ _ ?_)
  dsimp only
  rw [hcf, hpc, hsz]
  generalize hL' : s.heap.objs.size = L' at *
  have z2 := z1.keeps (fun b o e => Heap.get?_push_of_some ({ cls := .type "cell", data := .cell none } : Obj) e)
  have c2 : ((s.heap.push { cls := .type "frame", data := .dict #[] }).push { cls := .type "cell", data := .cell none }).IsCell (L' + 1) none := ⟨_, Heap.get?_push_at hsz.symm rfl, rfl⟩
  have k2 : ∀ b o, s.heap.get? b = some o → ((s.heap.push { cls := .type "frame", data := .dict #[] }).push { cls := .type "cell", data := .cell none }).get? b = some o := fun b o e => Heap.get?_push_of_some _ (k1 b o e)
  have lt : ∀ b o, s.heap.get? b = some o → b < L' := fun b o e => hL' ▸ Heap.lt_size e
  generalize (s.heap.push { cls := .type "frame", data := .dict #[] }).push { cls := .type "cell", data := .cell none } = H2 at z2 c2 k2 ⊢
  have hcl : L' ≠ L' + 1 := Nat.ne_of_lt (Nat.lt_succ_self _)
  simp only [List.forIn_cons, List.forIn_nil]
  refine wpAny_bind (wpAny_bind ?_)
  refine wpAny_bind (wpAny_storeName_local (env := envX qual scope L' f cdv ((z, L' + 1) :: cl)) hx z2 (fun H3 z3 s3 => ?_) (by show (scope.kind == .class || (scope.kind == .module && L' != mainGlobals)) = false; rw [hk]; rfl))
  refine wpAny_pure ?_
  refine wpAny_bind ?_
  refine wpAny_bind (wpAny_storeName_local (s := { s with heap := H3, toks := s.toks + 1 }) (env := envX qual scope L' f cdv ((z, L' + 1) :: cl)) hy z3 (fun H4 z4 s4 => ?_) (by show (scope.kind == .class || (scope.kind == .module && L' != mainGlobals)) = false; rw [hk]; rfl))
  refine wpAny_pure ?_
  refine wpAny_bind ?_
  have c4 : H4.IsCell (L' + 1) none := by
    obtain ⟨o, ho, hd⟩ := c2
    exact ⟨o, (s4.2 _ (Ne.symm hcl)).trans ((s3.2 _ (Ne.symm hcl)).trans ho), hd⟩
  refine wpAny_bind (wpAny_storeName_cell (s := { s with heap := H4, toks := s.toks + 1 + 1 }) (env := envX qual scope L' f cdv ((z, L' + 1) :: cl)) hk hz (c := L' + 1) (by show List.lookup z ((z, L' + 1) :: cl) = _; rw [List.lookup_cons]; simp) c4 (fun H5 c5 s5 => ?_))
  refine wpAny_pure ?_
  refine wpAny_pure ?_
  refine wpAny_pure ?_
  obtain ⟨o5, ho5, hd5⟩ := c5
  have z5 : H5.Ns L' (fun n => if n = y then some vy else if n = x then some vx else none) := z4.sameBut s5 hcl
  have ne0 : ∀ b o, s.heap.get? b = some o → b ≠ L' ∧ b ≠ L' + 1 := fun b o e => ⟨Nat.ne_of_lt (lt b o e), Nat.ne_of_lt (Nat.lt_succ_of_lt (lt b o e))⟩
  have k5 : ∀ b o, s.heap.get? b = some o → H5.get? b = some o := fun b o e =>
    (s5.2 b (ne0 b o e).2).trans ((s4.2 b (ne0 b o e).1).trans ((s3.2 b (ne0 b o e).1).trans (k2 b o e)))
  have none1 : ∀ b, L' ≤ b → s.heap.get? b = none := fun b hb => by
    cases e : s.heap.get? b with
    | none => rfl
    | some o => exact absurd (lt b o e) (Nat.not_lt.mpr hb)
  have hid : ∀ b, s.heap.get? b = none → (hideAll s.heap (news.map (·.1))).get? b = none := fun b e => by
    cases q : (hideAll s.heap (news.map (·.1))).get? b with
    | none => rfl
    | some o => rw [of_hideAll _ q] at e; cases e
  refine ⟨(hlim.keeps F.keep).keeps k5, ks_codeAny_funcAt ?_⟩
  refine ks_wpAt_mono (h _ L' (L' + 1) o5 H5 _ FG ⟨?_, fun b o e => k5 b o (of_hideAll _ e), by rw [hideAll_size, hL']; exact Nat.le_refl _⟩ (fun p hp => ?_) hd5 (fun p hp => Nat.lt_succ_of_lt (lt _ _ (N p hp).1)) BG st (fun b o e n => hideAll_get _ e n)) (fun fl s' hl => lv _ _ hl) fun _ _ y => y
  · obtain ⟨o, es, ep, e, d, kk, ff⟩ := z5
    refine ⟨o, es, ep, e, d, kk, fun n => (ff n).trans ?_⟩
    show _ = List.lookup n [(y, vy), (x, vx)]
    rw [List.lookup_cons, List.lookup_cons]
    by_cases h1 : n = y
    · subst h1; simp
    · by_cases h2 : n = x
      · subst h2
        have e1 : (n == y) = false := by simpa using h1
        simp [h1, e1, List.lookup]
      · have e1 : (n == y) = false := by simpa using h1
        have e2 : (n == x) = false := by simpa using h2
        simp [h1, h2, e1, e2, List.lookup]
  · rcases List.mem_cons.mp hp with rfl | hp
    · exact ⟨ho5, Ne.symm hcl, hid _ (none1 _ (Nat.le_succ _))⟩
    · exact ⟨k5 _ _ (N p hp).1, Nat.ne_of_lt (lt _ _ (N p hp).1), hideAll_none _ (List.mem_map_of_mem hp)⟩
theorem both_cell {K : Frag} {p : Program} {loose : List Str} {mean : ExcName → Option Value} {mg mb : Str → Option Value} {oc : Value} {od : Option Addr} {osl : Array (Option Value)} {x nr nm : Str} {v : Value} {vs : List Value} {g₁ : Addr → Sem (List (Str × Value))} {g₂ : Addr → Addr → Sem (List (Str × Value))}
    (B : Below A₀ base outer h₀) (F : Fr h₀ L s.heap m) (X₀ : K.In h₀) (N : News h₀ L s.heap news) (T : Top p loose mean mg mb h₀) (hA : A.frames = some (env :: outer)) (hf : env.frame = some L) (hke : env.scope.kind = .function)
    (ho : K.lookup f = some ⟨oc, od, .func (fnX name qual params body scope cl dV kV doc pm an cdv ct), osl⟩) (hcd : codeIn K cdv qual = true) (hroom : A.depth < recursionLimit)
    (hp : peekA K ⟨prog, w.params⟩ (bindArgs (fnX name qual params body scope cl dV kV doc pm an cdv ct) args) = some (({ cls := .type "tuple", data := .seq vs.toArray } : Obj), g₁))
    (hp₂ : ∀ D, peekA K ⟨prog, w.params⟩ (g₁ D) = some (dictOf [] 0, g₂ D))
    (hk₂ : ∀ C D, g₂ C D = pure [(x, v), (nr, .ref C), (nm, .ref D)])
    (hx : scope.names.lookup x = some .local) (hy : scope.names.lookup nr = some .local) (hz : scope.names.lookup nm = some .cell)
    (hcf : ∀ n, cellsFrom n scope.names cl = (nm, n) :: cl) (hpc : ∀ h, pushCells h scope.names = h.push { cls := .type "cell", data := .cell none })
    (h : ∀ C D g L' c o h₁ tk, (∀ p ∈ news, p.1 < C) → C < D → D < c → (D == sysModules) = false → Fr h₀ L g m → Fr g L' h₁ (fun n => [(x, v), (nr, .ref C)].reverse.lookup n) →
      News g L' h₁ ((c, o) :: (D, dictOf [] 0) :: (C, ({ cls := .type "tuple", data := .seq vs.toArray } : Obj)) :: news) → o.data = .cell (some (.ref D)) → Below A base (env :: outer) g → K.In g → Top p loose mean mg mb g → GSub s.heap g (news.map (·.1)) →
      _root_.PySem.wpAt (model prog w) (A.deeper (envX qual scope L' f cdv ((nm, c) :: cl))) (.func body (envX qual scope L' f cdv ((nm, c) :: cl))) (execs body (envX qual scope L' f cdv ((nm, c) :: cl)))
        (fun fl s' => LeaveK h₀ L m g R (match fl with | .ret v => v | _ => .none) s')
        (fun e s' => wpAny (model prog w) (A.deeper (envX qual scope L' f cdv ((nm, c) :: cl))) (leaving (envX qual scope L' f cdv ((nm, c) :: cl)) e) (fun _ s'' => R (.error e) s'') (fun e' s'' => R (.error e') s'') s')
        { s with heap := h₁, toks := tk })
    (hco : scope.isCoroutine = false) (hgen : scope.isGenerator = false) (hk : scope.kind = .function) : codeAny (model prog w) A (.call (.ref f) args) R s := by
  refine codeAny_call_function (fd := fnX name qual params body scope cl dV kV doc pm an cdv ct) (body := body) hroom ((X₀.keeps F.keep) _ _ ho) rfl hco hgen rfl (codeRec_of (X₀.keeps F.keep) hcd) ?_
  have l : ∀ p ∈ news, p.1 < s.heap.objs.size := fun p hp => Heap.lt_size (N p hp).1
  have n0 : ∀ b o, s.heap.get? b = some o → b ≠ s.heap.objs.size := fun b o e => Nat.ne_of_lt (Heap.lt_size e)
  refine peek_push (o := ({ cls := .type "tuple", data := .seq vs.toArray } : Obj)) (X₀.keeps F.keep) _ g₁ hp ?_
  have F' := F.push ({ cls := .type "tuple", data := .seq vs.toArray } : Obj)
  have N' := News.push F N ({ cls := .type "tuple", data := .seq vs.toArray } : Obj) rfl
  have k' : ∀ b o, s.heap.get? b = some o → (s.heap.push ({ cls := .type "tuple", data := .seq vs.toArray } : Obj)).get? b = some o := fun b o e => Heap.get?_push_of_some _ e
  generalize s.heap.push ({ cls := .type "tuple", data := .seq vs.toArray } : Obj) = h' at F' N' k' ⊢
  have n1 : ∀ b o, s.heap.get? b = some o → b ≠ h'.objs.size := fun b o e => Nat.ne_of_lt (Heap.lt_size (k' b o e))
  refine peek_push (s := { s with heap := h' }) (o := dictOf [] 0) (X₀.keeps F'.keep) _ (g₂ s.heap.objs.size) (hp₂ _) ?_
  have F'' := F'.push (dictOf [] 0)
  have N'' := News.push F' N' (dictOf [] 0) rfl
  have l' : ∀ p ∈ ((s.heap.objs.size, ({ cls := .type "tuple", data := .seq vs.toArray } : Obj)) :: news), p.1 < h'.objs.size := fun p hp => Heap.lt_size (N' p hp).1
  have k'' : ∀ b o, s.heap.get? b = some o → (h'.push (dictOf [] 0)).get? b = some o := fun b o e => Heap.get?_push_of_some _ (k' b o e)
  show wpAny _ _ (g₂ s.heap.objs.size h'.objs.size) _ _ { s with heap := h'.push (dictOf [] 0) }
  generalize h'.push (dictOf [] 0) = h'' at F'' N'' k'' ⊢
  have sub : ∀ {g : Heap}, GSub h'' g (((h'.objs.size, dictOf [] 0) :: (s.heap.objs.size, ({ cls := .type "tuple", data := .seq vs.toArray } : Obj)) :: news).map (·.1)) → GSub s.heap g (news.map (·.1)) := fun G b o e n => G b o (k'' b o e) (by
    simp only [List.map_cons, List.mem_cons, not_or]
    exact ⟨n1 b o e, n0 b o e, n⟩)
  rw [hk₂]
  refine wpAny_pure ?_
  refine frame_cell (cl := cl) (s := { s with heap := h'' }) B F'' N'' T.nolimit hA hf hke hx hy hz hcf hpc (fun g L' c o h₁ tk FG FL NG hd lc BG st GS => ?_) hk
  exact h s.heap.objs.size h'.objs.size g L' c o h₁ tk l (l' _ (.head _)) (lc _ (.head _)) (F'.notModules (modules_low T.nolimit)) FG FL NG hd BG (X₀.keeps st) (T.keeps st) (sub GS)
theorem both_loc {K : Frag} {p : Program} {loose : List Str} {mean : ExcName → Option Value} {mg mb : Str → Option Value} {oc : Value} {od : Option Addr} {osl : Array (Option Value)} {x nr nm : Str} {v : Value} {vs : List Value} {g₁ : Addr → Sem (List (Str × Value))} {g₂ : Addr → Addr → Sem (List (Str × Value))}
    (B : Below A₀ base outer h₀) (F : Fr h₀ L s.heap m) (X₀ : K.In h₀) (N : News h₀ L s.heap news) (T : Top p loose mean mg mb h₀) (hA : A.frames = some (env :: outer)) (hf : env.frame = some L) (hke : env.scope.kind = .function)
    (ho : K.lookup f = some ⟨oc, od, .func (fnX name qual params body scope cl dV kV doc pm an cdv ct), osl⟩) (hcd : codeIn K cdv qual = true) (hroom : A.depth < recursionLimit)
    (hp : peekA K ⟨prog, w.params⟩ (bindArgs (fnX name qual params body scope cl dV kV doc pm an cdv ct) args) = some (({ cls := .type "tuple", data := .seq vs.toArray } : Obj), g₁))
    (hp₂ : ∀ D, peekA K ⟨prog, w.params⟩ (g₁ D) = some (dictOf [] 0, g₂ D))
    (hk₂ : ∀ C D, g₂ C D = pure [(x, v), (nr, .ref C), (nm, .ref D)])
    (hloc : ∀ C D, ∀ y ∈ [(x, v), (nr, .ref C), (nm, .ref D)], scope.names.lookup y.1 = some .local)
    (h : ∀ C D g L' h₁ tk, (∀ p ∈ news, p.1 < C) → C < D → D < L' → (D == sysModules) = false → Fr h₀ L g m → Fr g L' h₁ (fun n => [(x, v), (nr, .ref C), (nm, .ref D)].reverse.lookup n) →
      News g L' h₁ ((D, dictOf [] 0) :: (C, ({ cls := .type "tuple", data := .seq vs.toArray } : Obj)) :: news) → Below A base (env :: outer) g → K.In g → Top p loose mean mg mb g → GSub s.heap g (news.map (·.1)) →
      _root_.PySem.wpAt (model prog w) (A.deeper (envX qual scope L' f cdv cl)) (.func body (envX qual scope L' f cdv cl)) (execs body (envX qual scope L' f cdv cl))
        (fun fl s' => LeaveK h₀ L m g R (match fl with | .ret v => v | _ => .none) s')
        (fun e s' => wpAny (model prog w) (A.deeper (envX qual scope L' f cdv cl)) (leaving (envX qual scope L' f cdv cl) e) (fun _ s'' => R (.error e) s'') (fun e' s'' => R (.error e') s'') s')
        { s with heap := h₁, toks := tk })
    (hco : scope.isCoroutine = false) (hgen : scope.isGenerator = false) (hk : scope.kind = .function) (hcell : ∀ x ∈ scope.names, x.2 ≠ .cell) : codeAny (model prog w) A (.call (.ref f) args) R s := by
  refine codeAny_call_function (fd := fnX name qual params body scope cl dV kV doc pm an cdv ct) (body := body) hroom ((X₀.keeps F.keep) _ _ ho) rfl hco hgen rfl (codeRec_of (X₀.keeps F.keep) hcd) ?_
  have l : ∀ p ∈ news, p.1 < s.heap.objs.size := fun p hp => Heap.lt_size (N p hp).1
  have n0 : ∀ b o, s.heap.get? b = some o → b ≠ s.heap.objs.size := fun b o e => Nat.ne_of_lt (Heap.lt_size e)
  refine peek_push (o := ({ cls := .type "tuple", data := .seq vs.toArray } : Obj)) (X₀.keeps F.keep) _ g₁ hp ?_
  have F' := F.push ({ cls := .type "tuple", data := .seq vs.toArray } : Obj)
  have N' := News.push F N ({ cls := .type "tuple", data := .seq vs.toArray } : Obj) rfl
  have k' : ∀ b o, s.heap.get? b = some o → (s.heap.push ({ cls := .type "tuple", data := .seq vs.toArray } : Obj)).get? b = some o := fun b o e => Heap.get?_push_of_some _ e
  generalize s.heap.push ({ cls := .type "tuple", data := .seq vs.toArray } : Obj) = h' at F' N' k' ⊢
  have n1 : ∀ b o, s.heap.get? b = some o → b ≠ h'.objs.size := fun b o e => Nat.ne_of_lt (Heap.lt_size (k' b o e))
  refine peek_push (s := { s with heap := h' }) (o := dictOf [] 0) (X₀.keeps F'.keep) _ (g₂ s.heap.objs.size) (hp₂ _) ?_
  have F'' := F'.push (dictOf [] 0)
  have N'' := News.push F' N' (dictOf [] 0) rfl
  have l' : ∀ p ∈ ((s.heap.objs.size, ({ cls := .type "tuple", data := .seq vs.toArray } : Obj)) :: news), p.1 < h'.objs.size := fun p hp => Heap.lt_size (N' p hp).1
  have k'' : ∀ b o, s.heap.get? b = some o → (h'.push (dictOf [] 0)).get? b = some o := fun b o e => Heap.get?_push_of_some _ (k' b o e)
  show wpAny _ _ (g₂ s.heap.objs.size h'.objs.size) _ _ { s with heap := h'.push (dictOf [] 0) }
  generalize h'.push (dictOf [] 0) = h'' at F'' N'' k'' ⊢
  have sub : ∀ {g : Heap}, GSub h'' g (((h'.objs.size, dictOf [] 0) :: (s.heap.objs.size, ({ cls := .type "tuple", data := .seq vs.toArray } : Obj)) :: news).map (·.1)) → GSub s.heap g (news.map (·.1)) := fun G b o e n => G b o (k'' b o e) (by
    simp only [List.map_cons, List.mem_cons, not_or]
    exact ⟨n1 b o e, n0 b o e, n⟩)
  rw [hk₂]
  refine wpAny_pure ?_
  have hlim : h₀.NoLimit := T.nolimit
  obtain ⟨FG, BG, st, lv⟩ := groundX (R := R) (s := { s with heap := h'' }) B F'' N'' hA hf hke
  refine wpAny_newFunctionEnv hcell (hloc _ _) (fun h₁ hns hsb => ⟨(hlim.keeps F''.keep).fresh _ hsb, ks_codeAny_funcAt ?_⟩) hk
  have hk₁ : ∀ b o, h''.get? b = some o → h₁.get? b = some o := fun b o e => hsb.extBut b o (Nat.ne_of_lt (Heap.lt_size e)) (Heap.get?_push_of_some _ e)
  refine ks_wpAt_mono (h s.heap.objs.size h'.objs.size _ h''.objs.size h₁ _ l (l' _ (.head _)) (Heap.lt_size (N'' _ (.head _)).1) (F'.notModules (modules_low T.nolimit)) FG ⟨hns, fun b o e => hk₁ b o (of_hideAll _ e), Nat.le_of_eq (hideAll_size _ _)⟩
    (fun p hp => ⟨hk₁ _ _ (N'' p hp).1, Nat.ne_of_lt (Heap.lt_size (N'' p hp).1), hideAll_none _ (List.mem_map_of_mem hp)⟩) BG (X₀.keeps st) (T.keeps st) (sub fun b o e n => hideAll_get _ e n)) (fun fl s' hl => lv _ _ hl) fun _ _ y => y
end
end BL
end
-- part Nil
section
set_option linter.unusedVariables false
open PySem PySem.W PySem.Spec PySem.Calls PyProof.Rows Builtin
set_option maxRecDepth 100000
set_option maxHeartbeats 4000000
namespace BL
/-- the iterable of a comprehension is an empty list; the statement's end follows with a new empty dict -/
def NilPost (prog : Program) (w : World) (h₀ : Heap) (L : Addr) (m : Str → Option Value) (news : List (Addr × Obj)) (y : Str) (Q : Flow → Shared → Prop) (xv : Value) (s₁ : Shared) : Prop :=
  (∃ ax, xv = .ref ax ∧ s₁.heap.IsList ax ([] : List Value).toArray ∧ Fr h₀ L s₁.heap m ∧ News h₀ L s₁.heap news) ∧
  ∀ D o h' tk, Fr h₀ L h' (fun z => if z = y then some (.ref D) else m z) → News h₀ L h' ((D, o) :: news) → o.IsDictOf (strKind prog w) [] → (D == sysModules) = false → Q .next { s₁ with heap := h', toks := tk }
theorem nil_dict {prog : Program} {w : World} (n : Nat) : (dictOf [] n).IsDictOf (strKind prog w) [] := kp_isDict (prog := prog) (w := w) (ex := []) 0 n List.nodup_nil
section
variable {prog : Program} {w : World} {A : Around} {E : Value → Shared → Prop} {s : Shared} {h₀ : Heap} {m : Str → Option Value} {news : List (Addr × Obj)} {env : Env}
theorem dictComp_nil {kx vx iter : PySem.Expr} {x y : Str} {px py : Pos} {ifs : List PySem.Expr} {scope : Scope} {cl : List (Str × Addr)} {pos spos : Pos} {Q : Flow → Shared → Prop}
    (F : Fr h₀ env.locals s.heap m) (N : News h₀ env.locals s.heap news)
    (hsw : swapsWith (.DictComp kx vx [⟨.Name x px, iter, ifs, 0⟩] scope pos) (some (.Name y py)) spos.line env = pure true)
    (hh : A.handled = none) (hclos : closureFor scope env = pure cl) (hcell : ∀ z ∈ scope.names, z.2 ≠ .cell) (hkind : scope.kind = .function)
    (hnames : ∀ z ∈ scope.names, z.2 = .local → scope.names.lookup z.1 = some .local) (hx : scope.names.lookup x = some .local)
    (hy : env.kindOf y = some .local) (hp : (env.scope.kind == .class || (env.scope.kind == .module && env.locals != env.globals)) = false)
    (h : wpAny (model prog w) A (eval iter env) (NilPost prog w h₀ env.locals m news y Q) E s)
    (hs : ∀ x, foldedSetIterable iter env x = pure x) (hlow : sysModules < h₀.objs.size) :
    wpAny (model prog w) A (exec (.Assign [.Name y py] (.DictComp kx vx [⟨.Name x px, iter, ifs, 0⟩] scope pos) spos) env) Q E s := by
  rw [exec_Assign_Name_used _ _ _ _ hsw]
  refine wpAny_bind (wpAny_standAt (wpAny_bind ?_))
  show wpAny _ A (do let _ ← comprehension (.DictComp kx vx [⟨.Name x px, iter, ifs, 0⟩] scope pos) scope env _ newDict false (eval iter env) (some (assign (.Name y py) env))) _ _ s
  refine wpAny_bind (wpAny_mono (wpAny_comprehension_free (use := some (assign (.Name y py) env)) (Q := fun _ s' => Q .next s') rfl hs hclos hkind hnames
    (wpAny_mono h (fun xv s₁ h₁ => ?_) fun _ _ e => e)) (fun _ s' hq => wpAny_pure (wpAny_pure hq)) fun _ _ e => e)
  obtain ⟨⟨ax, rfl, hl, F1, N1⟩, k⟩ := h₁
  obtain ⟨H, g, d, t, os⟩ := s₁
  have hlt : ax < H.objs.size := by obtain ⟨_, e, _⟩ := hl; exact Heap.lt_size e
  refine wpAny_pyIter_list hl ?_
  refine wpAny_newObj_type (wpAny_newFunctionEnv hcell (by intro y hy; simp at hy) (fun h₁ hns₁ hsb₁ => ?_) hkind)
  dsimp only at hns₁ hsb₁ ⊢
  have sI : (H.push { cls := .type "list_iterator", data := .fields #[.ref ax, .int 0 0] }).objs.size = H.objs.size + 1 := Heap.size_push ..
  have eI : (H.push { cls := .type "list_iterator", data := .fields #[.ref ax, .int 0 0] }).IsListIter H.objs.size ax 0 := ⟨_, Heap.get?_push_size _ rfl, rfl, rfl⟩
  have kI : ∀ b o, H.get? b = some o → (H.push { cls := .type "list_iterator", data := .fields #[.ref ax, .int 0 0] }).get? b = some o := fun b o e => Heap.get?_push_of_some _ e
  generalize H.push { cls := .type "list_iterator", data := .fields #[.ref ax, .int 0 0] } = Ha at *
  have sD : (Ha.push { cls := .type "dict", data := .dict #[] }).objs.size = H.objs.size + 2 := by rw [Heap.size_push, sI]
  have eD : (Ha.push { cls := .type "dict", data := .dict #[] }).get? (H.objs.size + 1) = some { cls := .type "dict", data := .dict #[] } := by rw [← sI]; exact Heap.get?_push_size _ rfl
  have kD : ∀ b o, Ha.get? b = some o → (Ha.push { cls := .type "dict", data := .dict #[] }).get? b = some o := fun b o e => Heap.get?_push_of_some _ e
  rw [sI]
  generalize Ha.push { cls := .type "dict", data := .dict #[] } = Hb at *
  rw [sD] at hns₁ hsb₁ ⊢
  have k1 : ∀ b o, b ≠ H.objs.size + 2 → Hb.get? b = some o → h₁.get? b = some o := fun b o n e => hsb₁.extBut b o n (Heap.get?_push_of_some _ e)
  have kH : ∀ b o, H.get? b = some o → h₁.get? b = some o := fun b o e => k1 b o (Nat.ne_of_lt (Nat.lt_of_lt_of_le (Heap.lt_size e) (Nat.le_add_right _ _))) (kD _ _ (kI _ _ e))
  have D1 : h₁.get? (H.objs.size + 1) = some { cls := .type "dict", data := .dict #[] } := k1 _ _ (Nat.ne_of_lt (Nat.lt_succ_self _)) eD
  have I1 : h₁.IsListIter H.objs.size ax 0 := by
    obtain ⟨o, e, r⟩ := eI
    exact ⟨o, k1 _ _ (Nat.ne_of_lt (Nat.lt_add_of_pos_right (by decide))) (kD _ _ e), r⟩
  have L1 : h₁.IsList ax ([] : List Value).toArray := by
    obtain ⟨o, e, r⟩ := hl
    exact ⟨o, kH _ _ e, r⟩
  have loop : codeAny (model prog w) A (.compLoop (.DictComp kx vx [⟨.Name x px, iter, ifs, 0⟩] scope pos) 0 (.ref H.objs.size) (.ref (H.objs.size + 1)) (compEnvC scope cl (H.objs.size + 2) env))
      (compPost (model prog w) A E (some (assign (.Name y py) env)) (fun _ s' => Q .next s') (.ref (H.objs.size + 1)) (H.objs.size + 2)) ⟨h₁, g, d, t + 0, os⟩ := by
    refine codeAny_compLoop_testsD (fun _ s' => s' = ⟨h₁, g, d, t + 0, os⟩) (fun n s' e => ?_) 0 rfl
    subst e
    refine wpAny_pyNext_list_end hh I1 L1 rfl fun h' he => ?_
    have k2 : ∀ b o, H.get? b = some o → h'.get? b = some o := fun b o e => he b o (Nat.ne_of_lt (Heap.lt_size e)) (kH b o e)
    have D2 : h'.get? (H.objs.size + 1) = some { cls := .type "dict", data := .dict #[] } := he _ _ (Nat.ne_of_gt (Nat.lt_succ_self _)) D1
    have C2 : h'.Ns (H.objs.size + 2) (fun x => ([] : List (Str × Value)).reverse.lookup x) := hns₁.at' fun o e => he _ o (Nat.ne_of_gt (Nat.lt_add_of_pos_right (by decide))) e
    have hL : env.locals < H.objs.size := F1.ns.lt
    have nLC : env.locals ≠ H.objs.size + 2 := Nat.ne_of_lt (Nat.lt_of_lt_of_le hL (Nat.le_add_right _ _))
    have nLD : env.locals ≠ H.objs.size + 1 := Nat.ne_of_lt (Nat.lt_of_lt_of_le hL (Nat.le_add_right _ _))
    show wpAny _ A (assign (.Name y py) env (.ref (H.objs.size + 1))) _ _ _
    refine wpAny_assign_Name (wpAny_storeName_local hy (F1.ns.at' fun o e => k2 _ o e) (fun h₂ hn₂ hs₂ => ?_) hp)
    refine ⟨_, C2.sameBut hs₂ (Ne.symm nLC), fun h₃ hs₃ => ?_⟩
    have k3 : ∀ b o, b ≠ env.locals → H.get? b = some o → h₃.get? b = some o := fun b o hb e =>
      hs₃.extBut b o (Nat.ne_of_lt (Nat.lt_of_lt_of_le (Heap.lt_size e) (Nat.le_add_right _ _))) (hs₂.extBut b o hb (k2 b o e))
    have low : ∀ b, b < h₀.objs.size → b ≠ env.locals := fun b hb => Nat.ne_of_lt (Nat.lt_of_lt_of_le hb F1.above)
    have hz : h₀.objs.size < H.objs.size := Nat.lt_of_le_of_lt F1.above hL
    refine k (H.objs.size + 1) { cls := .type "dict", data := .dict #[] } h₃ _ ⟨hn₂.sameBut hs₃ nLC, fun b o e => k3 b o (low b (Heap.lt_size e)) (F1.keep b o e), F1.above⟩ ?_ (nil_dict 0) ?_
    · intro p hp
      rcases List.mem_cons.mp hp with rfl | hp
      · refine ⟨hs₃.extBut _ _ (Nat.ne_of_lt (Nat.lt_succ_self _)) (hs₂.extBut _ _ (Ne.symm nLD) D2), Ne.symm nLD, ?_⟩
        cases e : h₀.get? (H.objs.size + 1) with
        | none => rfl
        | some o' => exact (Nat.lt_irrefl _ (Nat.lt_trans (Nat.lt_trans (Nat.lt_succ_self _) (Heap.lt_size e)) hz)).elim
      · exact ⟨k3 _ _ (N1 p hp).2.1 (N1 p hp).1, (N1 p hp).2⟩
    · have : H.objs.size + 1 ≠ sysModules := Nat.ne_of_gt (Nat.lt_trans hlow (Nat.lt_trans hz (Nat.lt_succ_self _)))
      simpa using this
  exact codeAny_compStart_dict loop ((Walks.list hh _ _ (Nat.ne_of_lt hlt) ([] : List Value).toArray).self 0 _ _ _ ⟨I1, L1⟩ loop)
end
end BL
end
-- part Sup
section
set_option linter.unusedVariables false
open PySem PySem.W PySem.Spec PySem.Calls PyProof.Rows Builtin
set_option maxRecDepth 100000
set_option maxHeartbeats 4000000
namespace BL
section
variable {prog : Program} {w : World} {A : Around} {E : Value → Shared → Prop} {s : Shared} {h₀ : Heap} {L : Addr} {m mg mb : Str → Option Value} {news : List (Addr × Obj)} {K : Frag} {p : Program} {loose : List Str} {mean : ExcName → Option Value} {x C D f f2 cc cda so : Addr} {ox : Obj} {odx : Option Obj}
/-- super() in a def, whatever cells its frame has -/
theorem super_node {body : List Stmt} {q : Str} {scope : Scope} {cl : List (Str × Addr)} {p0 p1 : Pos} {attr : Str} {whole : Sem Value} {fd : FuncData} {ar : Arg} {vs : Array Value} {file : Str} {tf : Tok} {oc ccl c1 : Value} {od cdd cld : Option Addr} {osl ccs csl : Array (Option Value)} {cdD : ClassData} {Q : Value → Shared → Prop}
    (F : Fr h₀ L s.heap m) (X₀ : K.In h₀) (N : News h₀ L s.heap news) (T : Top p loose mean mg mb h₀)
    (hf : K.lookup f = some ⟨oc, od, .func fd, osl⟩) (hp : (fd.params.posonlyargs ++ fd.params.args).head? = some ar) (hv : m ar.arg = some (.ref x)) (I : InstAt s.heap x ox C odx)
    (hcode : K.lookup cda = some ⟨ccl, cdd, .fields vs, ccs⟩) (hvs : vs[2]? = some (.str file tf)) (hfile : ((prog.main.file : Str) == file) = true)
    (hcl : cl.lookup ("__class__" : Str) = some cc) (hcell : K.lookup cc = some ⟨c1, cld, .cell (some (.ref D)), csl⟩) (hD : clsIn K D = some cdD) (hsub : mroIn K C (.ref D) = some true) (hsuper : nsIn K mainGlobals "super" = some none)
    (hat : (attr == ("__class__" : Str)) = false) (hks : scope.names.lookup ("super" : Str) = some .globalImplicit) (hkc : scope.names.lookup ("__class__" : Str) = some .free) (hka : scope.names.lookup ar.arg = some .local) (hk : scope.kind = .function)
    (htop : (prog.main.scope.names.lookup ("super" : Str)).isSome = false) (hboot : bootBuiltins "super" = some (.type "super"))
    (h : ∀ so h', Fr h₀ L h' m → News h₀ L h' ((so, ks_superObj D x C) :: news) → (∀ p ∈ news, p.1 < so) → Q (.ref so) { s with heap := h' }) :
    _root_.PySem.wpAt (model prog w) A (.func body (envX q scope L f (.ref cda) cl)) (attributeBase (.Call (.Name "super" p0) [] [] p1) attr (envX q scope L f (.ref cda) cl) whole) Q E s := by
  have X : K.In s.heap := X₀.keeps F.keep
  obtain ⟨hh, g, d, t, os⟩ := s
  obtain ⟨oD, hD1, hD2⟩ : ∃ oD, hh.get? D = some oD ∧ oD.data = .cls cdD := by
    unfold clsIn at hD
    split at hD
    · rename_i c d cd' sl ho
      cases hD
      exact ⟨_, X _ _ ho, rfl⟩
    · cases hD
  refine ks_wpAt_super_base (env := envX q scope L f (.ref cda) cl) hks hkc hat rfl (X _ _ hf) rfl hp rfl (X _ _ hcode) rfl hvs hfile htop ?_
  refine ks_loadName_global hk hks (loadGlobal_builtin (env := envX q scope L f (.ref cda) cl) (T.g.keeps F.keep) (mg_none_of X₀ T.g hsuper) (T.b.keeps F.keep) ((T.builtins _ (by decide +kernel)).trans hboot) ⟨rfl, ?_⟩)
  refine wpAny_loadName_free hk hkc hcl ⟨_, X _ _ hcell, rfl⟩ ?_
  refine wpAny_loadName_local hk hka F.ns hv ?_
  refine ks_wpAny_isType_cls hD1 hD2 ⟨rfl, ?_⟩
  refine ks_wpAny_call_super hD1 hD2 I.at_ I.cls (fun c e => ?_) (looks_mroIn X hsub) (fun h' e k => ?_)
  · have := I.no
    unfold notCls at this
    rw [e] at this
    exact Bool.noConfusion this
  · obtain ⟨F', N', l'⟩ := ks_newsPush (s := ⟨hh, g, d, t, os⟩) F N rfl e k
    exact h _ _ F' N' l'
/-- a call of what an attribute of super() is, with stars -/
theorem at_methodCall {M : Model} {A : Around} {c : Code} {E : Value → Shared → Prop} {s : Shared} {env : Env} {o : PySem.Expr} {name : Str} {apos pos : Pos} {args : List PySem.Expr} {kws : List Keyword} {Q : Value → Shared → Prop}
    (hfew : methodCallForm (args.length + kws.length) (backTo pos (starEach args env)) (backToKw pos (keywordEach kws env)) = false)
    (h : _root_.PySem.wpAt M A c (attributeBase o name env (eval o env)) (fun ov s₁ => wpAny M A (getAttr ov name true) (fun f s₂ => wpAny M A (callWith pos f [] (backTo pos (starEach args env)) (backToKw pos (keywordEach kws env))) Q E s₂) E s₁) E s)
    (he : eval (.Call (.Attribute o name apos) args kws pos) env = (do
      let ov ← attributeBase o name env (eval o env)
      standAt apos.atName
      methodCall o name apos pos env ov (args.length + kws.length) (backTo pos (starEach args env)) (backToKw pos (keywordEach kws env))) := by rfl) :
    _root_.PySem.wpAt M A c (eval (.Call (.Attribute o name apos) args kws pos) env) Q E s := by
  rw [he]
  refine _root_.PySem.wpAt_bind (_root_.PySem.wpAt_mono h (fun ov s₁ h₁ => _root_.PySem.wpAt_of_wpAny (wpAny_bind (wpAny_standAt ?_))) fun _ _ x => x)
  unfold methodCall
  rw [hfew]
  unfold calleeOf methodCallPos
  simp only [Bool.false_eq_true, if_false, Bool.not_false, Bool.true_or, if_true]
  refine wpAny_bind (wpAny_holding (wpAny_bind (wpAny_mono h₁ (fun f s₂ h₂ => wpAny_pure ?_) fun _ _ x => x)))
  exact wpAny_bind (wpAny_pure h₂)
/-- an attribute of a super object: what is found along the classes is bound by g, or handed on as it is -/
theorem super_ga {M : Model} {A : Around} {E : Value → Shared → Prop} {h : Heap} {g : Array GenState} {d : Drawn} {t : Nat} {os : OsState} {so D C : Addr} {xv a ta : Value} {gv : Option Value} {l₀ l : List Value} {K : Frag} {name : Str} {tk : Tok} {Q : Fin → Shared → Prop}
    (hso : h.get? so = some { cls := .type "super", dict := none, data := .fields #[.ref D, xv, .ref C], slots := #[] }) (hno : Looks M h (opaqueClassAbove (.ref C)) none)
    (hC : Looks M h (mroOf (.ref C)) l₀) (hl : (l₀.dropWhile (· != .ref D)).drop 1 = l) (X : K.In h)
    (hf : alongIn K name l = some (some a)) (hta : Looks M h (typeOf a) ta) (hga : Looks M h (typeLookup ta "__get__") gv) (hn : (name == ("__class__" : Str)) = false)
    (hq : match gv with
      | some gf => wpAny M A (call gf [a, if xv == .ref C then .none else xv, .ref C]) (fun v s' => Q (.done (.ret v)) s') E ⟨h, g, d, t, os⟩
      | none => wpAny M A (handedOut a) (fun v s' => Q (.done (.ret v)) s') E ⟨h, g, d, t, os⟩) :
    wpAny M A (Builtin.«super.__getattribute__» ⟨[.ref so, .str name tk], []⟩) Q E ⟨h, g, d, t, os⟩ := by
  have hdt : ({ cls := .type "super", dict := none, data := .fields #[.ref D, xv, .ref C], slots := #[] } : Obj).data = .fields #[.ref D, xv, .ref C] := rfl
  have f0 : (#[.ref D, xv, .ref C] : Array Value)[0]? = some (.ref D) := rfl
  have f1 : (#[.ref D, xv, .ref C] : Array Value)[1]? = some xv := rfl
  have f2 : (#[.ref D, xv, .ref C] : Array Value)[2]? = some (.ref C) := rfl
  unfold Builtin.«super.__getattribute__»
  repeat (first
    | (with_reducible refine wpAny_field hso hdt f0 ?_) | (with_reducible refine wpAny_field hso hdt f1 ?_) | (with_reducible refine wpAny_field hso hdt f2 ?_)
    | (with_reducible refine ks_wpAny_notOpaque hno ?_)
    | (with_reducible refine Looks.at hC ?_; rw [hl])
    | (refine ks_forIn_along X (fun _ _ => rfl) rfl ?_ hf)
    | (with_reducible refine Looks.at hta ?_)
    | (with_reducible refine Looks.at hga ?_)
    | (simp only [hn, Bool.or_false, Bool.false_eq_true, if_false])
    | wp_step
    | dsimp only)
  cases gv with
  | some gf => exact wpAny_bind (wpAny_holding (wpAny_mono hq (fun v s' q => wpAny_bind (wpAny_pure (wpAny_pure (wpAny_pure q)))) fun _ _ z => z))
  | none => exact wpAny_bind (wpAny_mono hq (fun v s' q => wpAny_bind (wpAny_pure (wpAny_pure (wpAny_pure q)))) fun _ _ z => z)
theorem super_getattr {prog : Program} {w : World} {A : Around} {E : Value → Shared → Prop} {h : Heap} {g : Array GenState} {d : Drawn} {t : Nat} {os : OsState} {so D C : Addr} {xv a ta : Value} {gv : Option Value} {l₀ l : List Value} {K : Frag} {name : Str} {ex : Bool} {Q : Value → Shared → Prop}
    (hso : h.get? so = some { cls := .type "super", dict := none, data := .fields #[.ref D, xv, .ref C], slots := #[] }) (hno : Looks (model prog w) h (opaqueClassAbove (.ref C)) none)
    (hC : Looks (model prog w) h (mroOf (.ref C)) l₀) (hl : (l₀.dropWhile (· != .ref D)).drop 1 = l) (X : K.In h)
    (hf : alongIn K name l = some (some a)) (hta : Looks (model prog w) h (typeOf a) ta) (hga : Looks (model prog w) h (typeLookup ta "__get__") gv) (hn : (name == ("__class__" : Str)) = false)
    (hq : match gv with
      | some gf => wpAny (model prog w) A.in1 (call gf [a, if xv == .ref C then .none else xv, .ref C]) (fun v s' => wpAny (model prog w) A (handedOut v) Q E s') (fun _ _ => False) ⟨h, g, d, t + 1, os⟩
      | none => wpAny (model prog w) A.in1 (handedOut a) (fun v s' => wpAny (model prog w) A (handedOut v) Q E s') (fun _ _ => False) ⟨h, g, d, t + 1, os⟩) :
    wpAny (model prog w) A (getAttr (.ref so) name ex) Q E ⟨h, g, d, t, os⟩ := by
  have hlk := F.ks_slot_super_ga.lookup
  have hT : ∀ t', (⟨h, g, d, t', os⟩ : Shared).TypeIs (.ref so) "super" := fun _ => ⟨_, hso, rfl⟩
  unfold getAttr getAttrBy
  refine wpAny_bind (wpAny_mkText (wpAny_holding (wpAny_bind (wpAny_typeOf (hT _) (wpAny_bind (wpAny_of_eq hlk ?_))))))
  show wpAny _ _ (getAttrByItsOwn (.ref so) (.str name t) (.type "super") (.builtin "super.__getattribute__") true ex) _ _ _
  unfold getAttrByItsOwn hookBefore callGetattribute boundAndCalled
  refine wpAny_bind (wpAny_of_eq (show (if onTheHeap (.type "super") then typeLookup (.type "super") "__getattr__" else pure none) = pure none from rfl) ?_)
  refine wpAny_bind (wpAny_attempt (wpAny_holding ?_))
  rw [show (ex && onTheHeap (Value.builtin "super.__getattribute__")) = false from Bool.and_false _]
  show wpAny _ _ (bindSpecial (.builtin "super.__getattribute__") (.ref so) >>= _) _ _ _
  refine wpAny_bind (wpAny_of_eq (F.ks_slot_super_ga.bind _) ?_)
  refine wpAny_mono (Q := fun v s' => wpAny (model prog w) A (handedOut v) Q E s') (E := fun _ _ => False)
    (wpAny_call_entry F.ks_slot_super_ga (hT _) F.ks_entry_super_ga (super_ga hso hno hC hl X hf hta hga hn ?_) (F.ks_gaArgs_super _ _)) (fun v s' hv => hv) fun _ _ z => z.elim
  cases gv with
  | some gf => exact wpAny_mono hq (fun v s' q => ⟨v, rfl, q⟩) fun _ _ z => z
  | none => exact wpAny_mono hq (fun v s' q => ⟨v, rfl, q⟩) fun _ _ z => z
end
end BL
end
-- part Kws
section
set_option linter.unusedVariables false
set_option linter.unusedSimpArgs false
open PySem PySem.W PySem.Spec PySem.Calls PyProof.Rows Builtin
set_option maxRecDepth 100000
set_option maxHeartbeats 4000000
namespace BL
/-- an exact empty dict -/
def NilDict (h : Heap) (b : Addr) : Prop := ∃ o ep, h.get? b = some o ∧ o.cls = .type "dict" ∧ o.data = .dict #[] ep
theorem NilDict.of {prog : Program} {w : World} {h : Heap} {b : Addr} {o : Obj} (e : h.get? b = some o) (hd : o.IsDictOf (strKind prog w) []) : NilDict h b := by
  obtain ⟨es, ep, hx, hda, _, hP, _⟩ := hd
  have e0 : es.toList = [] := by
    generalize es.toList = l at hP
    cases hP
    rfl
  have e1 : es = #[] := by
    obtain ⟨l⟩ := es
    cases e0
    rfl
  subst e1
  exact ⟨o, ep, e, hx.1, hda⟩
section
variable {prog : Program} {w : World} {A : Around} {E : Value → Shared → Prop} {s : Shared}
theorem merge_nil {d b : Addr} {Q : Unit → Shared → Prop} (hd : NilDict s.heap d) (hb : NilDict s.heap b) (hne : (b == sysModules) = false) (q : Q () s) : wpAny (model prog w) A (mergeMapping d (.ref b) true) Q E s := by
  obtain ⟨od, epd, hod, hcd, hdd⟩ := hd
  obtain ⟨ob, epb, hob, hcb, hdb⟩ := hb
  obtain ⟨hh, g, dr, t, os⟩ := s
  have hT : (⟨hh, g, dr, t, os⟩ : Shared).TypeIs (.ref b) "dict" := ⟨_, hob, hcb⟩
  unfold mergeMapping
  repeat (first
    | exact q
    | (with_reducible refine wpAny_isInstance hT isSubtype_dict_dict ?_) | (with_reducible refine wpAny_specialOf hT F.slot_dict_iter.lookup ?_)
    | (with_reducible refine wpAny_dictEntries hod hdd ?_) | (with_reducible refine wpAny_dictEntries hob hdb ?_) | (with_reducible refine wpAny_dictEpoch hob hdb ?_)
    | simp only [beq_self_eq_true, hne, Bool.false_eq_true, if_false, if_true, Array.isEmpty_empty]
    | wp_step)
section
variable {h₀ : Heap} {L t b : Addr} {m : Str → Option Value} {news : List (Addr × Obj)} {f : Value} {x xk : Sem Value} {pos : Pos}
theorem merged_nil {Q : Addr → Shared → Prop} (F : Fr h₀ L s.heap m) (N : News h₀ L s.heap news)
    (hk : ∀ s' : Shared, (∃ H tk, s' = { s with heap := H, toks := tk }) → Fr h₀ L s'.heap m → News h₀ L s'.heap news → ∀ (Q : Value → Shared → Prop) (E : Value → Shared → Prop), Q (.ref b) s' → wpAny (model prog w) A xk Q E s')
    (hb : NilDict s.heap b) (hne : (b == sysModules) = false)
    (h : ∀ d H, Fr h₀ L H m → News h₀ L H news → NilDict H d → Q d { s with heap := H }) :
    wpAny (model prog w) A (mergedKeywords f [(none, (do let v ← xk; standAt pos; pure v))]) Q E s := by
  have F1 : Fr h₀ L (s.heap.push { cls := .type "dict", data := .dict #[] }) m := F.push _
  have N1 : News h₀ L (s.heap.push { cls := .type "dict", data := .dict #[] }) news := N.grown fun _ _ e => Heap.get?_push_of_some _ e
  have hb1 : NilDict (s.heap.push { cls := .type "dict", data := .dict #[] }) b := by
    obtain ⟨o, ep, e, r⟩ := hb
    exact ⟨o, ep, Heap.get?_push_of_some _ e, r⟩
  have hd1 : NilDict (s.heap.push { cls := .type "dict", data := .dict #[] }) s.heap.objs.size := ⟨_, 0, Heap.get?_push_size _ rfl, rfl, rfl⟩
  unfold mergedKeywords
  refine wpAny_bind (wpAny_alloc (wpAny_bind (wpAny_holding ?_)))
  have z := h _ _ F1 N1 hd1
  have mn : ∀ (A' : Around) (Q' : Unit → Shared → Prop) (E' : Value → Shared → Prop), Q' () { s with heap := s.heap.push { cls := .type "dict", data := .dict #[] } } → wpAny (model prog w) A' (mergeMapping s.heap.objs.size (.ref b) true) Q' E' { s with heap := s.heap.push { cls := .type "dict", data := .dict #[] } } := fun _ _ _ q => merge_nil hd1 hb1 hne q
  repeat (first
    | (with_reducible refine hk _ ⟨_, _, rfl⟩ F1 N1 _ _ ?_)
    | simp only [List.isEmpty_nil, if_true]
    | ((fail_if_success (with_reducible show wpAny _ _ (Sem.at _ _) _ _ _)); lk))
  refine wpAny_standAt (wpAny_pure ?_)
  refine wpAny_bind (wpAny_onRaise (wpAny_holding (wpAny_tryCatch (wpAny_onRaise (mn _ _ _ ?_)))))
  repeat (first
    | exact z
    | simp only [List.isEmpty_nil, if_true]
    | lk)
theorem keywordsIn_nil {d : Addr} {Q : List (Str × Value) → Shared → Prop} (hd : NilDict s.heap d) (q : Q [] s) : wpAny (model prog w) A (keywordsIn f d) Q E s := by
  obtain ⟨od, epd, hod, hcd, hdd⟩ := hd
  unfold keywordsIn
  refine wpAny_bind (wpAny_dictEntries hod hdd ?_)
  exact wpAny_bind (wpAny_pure (wpAny_pure q))
theorem args_nil {Q : Args → Shared → Prop} {ot : Obj} {nt : Nat} (F : Fr h₀ L s.heap m) (N : News h₀ L s.heap news)
    (hx : ∀ (Q : Value → Shared → Prop) (E : Value → Shared → Prop), Q (.ref t) s → wpAny (model prog w) A x Q E s)
    (hk : ∀ s' : Shared, (∃ H tk, s' = { s with heap := H, toks := tk }) → Fr h₀ L s'.heap m → News h₀ L s'.heap news → ∀ (Q : Value → Shared → Prop) (E : Value → Shared → Prop), Q (.ref b) s' → wpAny (model prog w) A xk Q E s')
    (ht : (t, ot) ∈ news) (htc : ot.cls = .type "tuple") (htd : ot.data = .seq #[] nt) (hb : NilDict s.heap b) (hne : (b == sysModules) = false)
    (h : ∀ H, Fr h₀ L H m → News h₀ L H news → Q ⟨[], []⟩ { s with heap := H }) :
    wpAny (model prog w) A (evalArgs f true [(true, (do let v ← x; standAt pos; pure v))] [(none, (do let v ← xk; standAt pos; pure v))]) Q E s := by
  unfold evalArgs
  refine wpAny_bind (wpAny_bind (hx _ _ ?_))
  refine wpAny_bind (wpAny_standAt (wpAny_pure ?_))
  refine wpAny_bind (wpAny_pure ?_)
  refine wpAny_holding ?_
  refine wpAny_bind (merged_nil (f := f) (pos := pos) F N hk hb hne fun d H F1 N1 hd1 => ?_)
  have D := (N1 _ ht).1
  have hT' : ({ s with heap := H } : Shared).TypeIs (.ref t) "tuple" := ⟨ot, D, htc⟩
  have nia : ∀ (Q' : Bool → Shared → Prop) (E' : Value → Shared → Prop), Q' false { s with heap := H } → wpAny (model prog w) A (notIterableAtAll (.ref t)) Q' E' { s with heap := H } := fun _ _ q => by
    unfold notIterableAtAll
    exact wpAny_bind (wpAny_specialOf hT' PySem.F.slot_tuple_iter.lookup (wpAny_pure q))
  refine wpAny_bind (wpAny_bind (nia _ _ ?_))
  show wpAny _ _ (holding [Value.ref d] (collect (Value.ref t))) _ _ _
  refine wpAny_holding (wpAny_collect_seq (s := { s with heap := H }) t (.inr rfl) D htc htd (fun H2 k2 => ?_) (by rw [sizeLine_eq]; exact Nat.zero_le _))
  have F2 : Fr h₀ L H2 m := F1.keeps k2
  have N2 : News h₀ L H2 news := N1.grown k2
  have hd2 : NilDict H2 d := by
    obtain ⟨o, ep, e, r⟩ := hd1
    exact ⟨o, ep, k2 _ _ e, r⟩
  exact wpAny_bind (wpAny_holding (keywordsIn_nil (s := { s with heap := H2 }) hd2 (wpAny_pure (h H2 F2 N2))))
/-- a call with an empty tuple behind * and an empty dict behind ** -/
theorem call_nil {env : Env} {ea ek : PySem.Expr} {pa pk : Pos} {first : List Value} {Q : Value → Shared → Prop} {ot : Obj} {nt : Nat} {kp : Keeper} (F : Fr h₀ L s.heap m) (N : News h₀ L s.heap news)
    (hx : ∀ (Q : Value → Shared → Prop) (E : Value → Shared → Prop), Q (.ref t) s → wpAny (model prog w) A (eval ea env) Q E s)
    (hk : ∀ s' : Shared, (∃ H tk, s' = { s with heap := H, toks := tk }) → Fr h₀ L s'.heap m → News h₀ L s'.heap news → ∀ (Q : Value → Shared → Prop) (E : Value → Shared → Prop), Q (.ref b) s' → wpAny (model prog w) A (eval ek env) Q E s')
    (ht : (t, ot) ∈ news) (htc : ot.cls = .type "tuple") (htd : ot.data = .seq #[] nt) (hb : NilDict s.heap b) (hne : (b == sysModules) = false)
    (hkp : ∀ H, Fr h₀ L H m → News h₀ L H news → Looks (model prog w) H (keeperOf f) kp)
    (h : ∀ H, Fr h₀ L H m → News h₀ L H news → wpAny (model prog w) A (call f first []) Q E { s with heap := H })
    (he : starEach [.Starred ea pa] env = [(true, eval ea env)] := by rfl) (hke : keywordEach [⟨none, ek, pk⟩] env = [(none, eval ek env)] := by rfl) :
    wpAny (model prog w) A (callWith pos f first (backTo pos (starEach [.Starred ea pa] env)) (backToKw pos (keywordEach [⟨none, ek, pk⟩] env))) Q E s := by
  rw [he, hke]
  unfold callWith
  refine wpAny_bind (wpAny_holding (args_nil F N hx hk ht htc htd hb hne fun H F1 N1 => wpAny_bind (wpAny_standAt ?_)))
  refine wpAny_bind ((hkp H F1 N1).here ?_)
  have z := h H F1 N1
  have tail : ∀ {tt : Sem Value}, wpAny (model prog w) A tt Q E { s with heap := H } → wpAny (model prog w) A (tt >>= fun r => holding [r] point >>= fun _ => pure r) Q E { s with heap := H } :=
    fun ht => wpAny_bind (wpAny_mono ht (fun r s₂ hr => wpAny_bind (wpAny_holding (wpAny_point (wpAny_pure hr)))) fun _ _ x => x)
  rw [show (first ++ ([] : List Value)) = first from List.append_nil _]
  cases kp <;> first | exact tail (wpAny_operating z) | exact tail (by unfold callMarked; exact Calls.wpAny_keep z)
end
end
end BL
end
-- part Has
section
set_option linter.unusedVariables false
set_option linter.unusedSimpArgs false
open PySem PySem.W PySem.Spec PySem.Calls PyProof.Rows Builtin
set_option maxRecDepth 100000
set_option maxHeartbeats 4000000
namespace BL
theorem kind_hasattr : builtinKind "hasattr" = none ∨ builtinKind "hasattr" = some .builtinFn := by first | exact .inl (by decide +kernel) | exact .inr (by decide +kernel)
theorem plain_hasattr : plainId "hasattr" = true := by decide +kernel
theorem entry_hasattr : entryFor table "hasattr" = some Builtin.«hasattr» := entryFor_of_tree (by kernel_rfl)
theorem check_hasattr (a b : Value) : checkBuiltinCall "hasattr" ⟨[a, b], []⟩ = pure () := by kernel_rfl
theorem slot_mdget : Slot "method_descriptor" "__get__" "method_descriptor.__get__" := .of (owner := "method_descriptor") (n := "__get__") (by rw [typeLookup_type, builtinLookup_eq_fast]; kernel_rfl) (by decide +kernel) (by decide +kernel) (by decide +kernel)
  (by first | exact .inl (by decide +kernel) | exact .inr (by decide +kernel)) (by rw [isSubtype_type]; kernel_rfl)
theorem entry_mdget : entryFor table "method_descriptor.__get__" = some Builtin.«method_descriptor.__get__» := entryFor_of_tree (by kernel_rfl)
theorem args_mdget (a b c : Value) : argsOk "method_descriptor.__get__" ⟨[a, b, c], []⟩ := by unfold argsOk; kernel_rfl
theorem md_kind : builtinKind "method_descriptor.__get__" = some .slot := by decide +kernel
theorem md_split : splitId "method_descriptor.__get__" = some ("method_descriptor", "__get__") := by decide +kernel
section
variable {prog : Program} {w : World} {A : Around} {E : Value → Shared → Prop} {s : Shared}
theorem has_items {d : Addr} {tk : Tok} {Q : Value → Shared → Prop} {es : Array DictEntry} {n : Nat} {sl : Array (Option Value)} (ho : s.heap.get? d = some ⟨.type "dict", none, .dict es n, sl⟩)
    (h : ∀ H tk', (∀ b o, s.heap.get? b = some o → H.get? b = some o) → Q (.bool true) { s with heap := H, toks := tk' }) :
    wpAny (model prog w) A (PySem.call (.builtin "hasattr") [.ref d, .str (Str.ofString "items") tk]) Q E s := by
  obtain ⟨hh, g, dr, t, os⟩ := s
  have ty : Looks (model prog w) hh (typeOf (.ref d)) (.type "dict") := (Looks.ld ho).andThen .now
  have l1 : Looks (model prog w) hh (typeLookup (.type "dict") (Str.ofString "items")) (some (.builtin "dict.items")) := .of_pure PySem.F.slot_dict_items.lookup
  have l2 : Looks (model prog w) hh (typeLookup (.type "dict") (Str.ofString "__getattribute__")) (some (.builtin "dict.__getattribute__")) := .of_pure PySem.F.slot_dict_getattribute.lookup
  have l3 : Looks (model prog w) hh (isSubtype (.type "dict") (.type "module")) false := .of_pure (by rw [isSubtype_type]; kernel_rfl)
  refine wpAny_call (codeAny_call_builtin plain_hasattr entry_hasattr ?_)
  rw [check_hasattr]
  refine wpAny_pure ?_
  unfold Builtin.«hasattr»
  repeat (first | simp only [Bool.false_eq_true, if_false] | ((fail_if_success (with_reducible show wpAny _ _ (getAttrBy? _ _) _ _ _)); lk))
  unfold getAttrBy? getAttrBy
  have hT : (⟨hh, g, dr, t, os⟩ : Shared).TypeIs (.ref d) "dict" := ⟨_, ho, rfl⟩
  refine wpAny_bind (wpAny_attempt (wpAny_holding (wpAny_bind (ty.at (wpAny_bind (l2.at ?_))))))
  show wpAny _ _ (getAttrByItsOwn (.ref d) (.str (Str.ofString "items") tk) (.type "dict") (.builtin "dict.__getattribute__") false false) _ _ _
  unfold getAttrByItsOwn hookBefore callGetattribute boundAndCalled
  refine wpAny_bind (wpAny_of_eq (show (if onTheHeap (.type "dict") then typeLookup (.type "dict") "__getattr__" else pure none) = pure none from rfl) ?_)
  refine wpAny_bind (wpAny_attempt (wpAny_holding ?_))
  show wpAny _ _ (bindSpecial (.builtin "dict.__getattribute__") (.ref d) >>= _) _ _ _
  refine wpAny_bind (wpAny_of_eq (PySem.F.slot_dict_getattribute.bind _) ?_)
  refine wpAny_mono (Q := fun v s' => v = .ref hh.objs.size ∧ ∃ H, (∀ b o, hh.get? b = some o → H.get? b = some o) ∧ s' = ⟨H, g, dr, t, os⟩) (E := fun _ _ => False) (wpAny_call_entry PySem.F.slot_dict_getattribute hT PySem.F.entry_dict_ga ?_ (PySem.F.args_dict_getattribute_2 _ _)) (fun v s' hv => ?_) fun _ _ z => z.elim
  · unfold Builtin.«object.__getattribute__»
    have L5 : Looks (model prog w) hh (typeOf (.builtin "dict.items")) (.type "method_descriptor") := .of_pure PySem.F.type_dict_items
    have L6 : Looks (model prog w) hh (typeLookup (.type "method_descriptor") (Str.ofString "__get__")) (some (.builtin "method_descriptor.__get__")) := .of_pure (by rw [typeLookup_type, builtinLookup_eq_fast]; kernel_rfl)
    repeat (first | simp only [Bool.false_eq_true, if_false] | ((fail_if_success (with_reducible show wpAny _ _ (PySem.call _ _ _) _ _ _)); lk))
    have in6 : Looks (model prog w) hh (isInstance (.builtin "dict.items") (.type "method_descriptor")) true := L5.andThen (Looks.of_pure (by rw [isSubtype_type]; kernel_rfl))
    have in7 : Looks (model prog w) hh (isSubtype (.type "dict") (.type "dict")) true := Looks.of_pure (by rw [isSubtype_type]; kernel_rfl)
    refine wpAny_call (codeAny_call_builtin slot_mdget.plain entry_mdget (@check_slot (model prog w) _ _ _ "method_descriptor.__get__" "method_descriptor" "__get__" (.builtin "dict.items") [.ref d, .type "dict"] [] _ md_kind md_split in6 (args_mdget _ _ _) ?_))
    unfold Builtin.«method_descriptor.__get__»
    repeat (first | simp only [Bool.false_eq_true, if_false] | lk)
    exact ⟨_, rfl, rfl, _, fun b o e => Heap.get?_push_of_some _ e, rfl⟩
  · obtain ⟨rfl, H, k, rfl⟩ := hv
    exact wpAny_pure (wpAny_pure (wpAny_pure (h H _ k)))
theorem has_itemsN {h₀ : Heap} {L d : Addr} {m : Str → Option Value} {news : List (Addr × Obj)} {o : Obj} {kvs : List (Str × Value)} {tk : Tok} {Q : Value → Shared → Prop} (F : Fr h₀ L s.heap m) (N : News h₀ L s.heap news) (hm : (d, o) ∈ news) (hd : o.IsDictOf (strKind prog w) kvs)
    (h : ∀ H tk', Fr h₀ L H m → News h₀ L H news → Q (.bool true) { s with heap := H, toks := tk' }) :
    wpAny (model prog w) A (PySem.call (.builtin "hasattr") [.ref d, .str (Str.ofString "items") tk]) Q E s := by
  obtain ⟨es, ep, ⟨x1, x2, x3⟩, hda, _⟩ := hd
  obtain ⟨oc, od, odt, osl⟩ := o
  dsimp only at x1 x2 x3 hda
  subst x1 x2 x3 hda
  exact has_items (N _ hm).1 fun H tk' k => h H tk' (F.keeps k) (N.grown k)
end
end BL
end
-- part ForNil
section
set_option linter.unusedVariables false
set_option linter.unusedSimpArgs false
open PySem PySem.W PySem.Spec PySem.Calls PyProof.Rows Builtin
set_option maxRecDepth 100000
set_option maxHeartbeats 4000000
namespace BL
def ItemsPost (prog : Program) (w : World) (Q : Flow → Shared → Prop) (xv : Value) (s₁ : Shared) : Prop :=
  ∃ h₀ L m news v d o, xv = .ref v ∧ Fr h₀ L s₁.heap m ∧ News h₀ L s₁.heap news ∧ (v, ({ cls := .type "dict_items", data := .fields #[.ref d] } : Obj)) ∈ news ∧ (d, o) ∈ news ∧ o.IsDictOf (strKind prog w) [] ∧
    ∀ H tk, Fr h₀ L H m → News h₀ L H news → Q .next { s₁ with heap := H, toks := tk }
abbrev itemIt (d : Addr) (ep : Nat) : Obj := { cls := .type "dict_itemiterator", dict := none, data := .fields #[.none, .bool false, .ref d, .int 0 0, .int ([] : List (Str × Value)).length 0, .int ep 0, .none, .none], slots := #[] }
def IterPost (prog : Program) (w : World) (Q : Flow → Shared → Prop) (xv : Value) (s₁ : Shared) : Prop :=
  ∃ h₀ L m news I d o ep, xv = .ref I ∧ Fr h₀ L s₁.heap m ∧ News h₀ L s₁.heap ((I, itemIt d ep) :: news) ∧ (d, o) ∈ news ∧ KdkAt (strKind prog w) o [] ep ∧ (∀ p ∈ news, p.1 < I) ∧
    ∀ H tk, Fr h₀ L H m → News h₀ L H news → Q .next { s₁ with heap := H, toks := tk }
section
variable {prog : Program} {w : World} {A : Around} {E : Value → Shared → Prop} {s : Shared} {env : Env}
theorem forLoop_end {R : Result → Shared → Prop} {target : PySem.Expr} {it : Value} {body : List Stmt} (h : wpAny (model prog w) A (pyNext it) (fun r s₁ => r = none ∧ R (.ok .next) s₁) (fun _ _ => False) s) : codeAny (model prog w) A (.forLoop target it body [] env) R s := by
  refine codeAny_loop' rfl (fun _ s' => s' = s) (fun n s' hI => ?_) 0 rfl
  subst hI
  show wpAny _ _ ((forTurn target it body [] env).onRaise (fun x => do noteFrame x env; theTreesLotGoes x)) _ _ _
  refine wpAny_noted ?_
  simp only [forTurn]
  refine wpAny_bind (wpAny_standAt (wpAny_bind (wpAny_onRaise (wpAny_mono h (fun r s₁ h₁ => ?_) fun _ _ z => z.elim))))
  obtain ⟨rfl, q⟩ := h₁
  exact wpAny_pure (.inr ⟨rfl, codeAny_block (wpAny_execs_nil q)⟩)
/-- the items of an empty dict, gone through -/
theorem for_items_nil {target iter : PySem.Expr} {body : List Stmt} {pos : Pos} {Q : Flow → Shared → Prop} (hh : A.handled = none)
    (h : wpAny (model prog w) A (eval iter env) (ItemsPost prog w Q) E s)
    (hs : ∀ x, foldedSetIterable iter env x = pure x := by intro _; rfl) :
    wpAny (model prog w) A (exec (.For target iter body [] pos) env) Q E s := by
  refine wpAny_For (wpAny_mono h ?_ fun _ _ z => z) hs
  rintro xv s₁ ⟨h₀, L, m, news, v, d, o, rfl, F, N, hv, hd, hdo, k⟩
  obtain ⟨ep, hat⟩ := KdkAt.of hdo
  have hD := hat.dictAt (N _ hd).1
  refine wpAny_pyIter_items ⟨_, (N _ hv).1, rfl, rfl⟩ hD ?_
  have up : ∀ b o, s₁.heap.get? b = some o → (s₁.heap.push { cls := .type "dict_itemiterator", data := .fields #[.none, .bool false, .ref d, .int 0 0, .int ([] : List (Str × Value)).length 0, .int ep 0, .none, .none] }).get? b = some o := fun b o e => Heap.get?_push_of_some _ e
  refine forLoop_end ?_
  refine wpAny_pyNext_items_end (kvs := ([] : List (Str × Value))) (knd := strKind prog w) (ep := ep) (i := 0) hh (Heap.get?_push_size _ rfl) ?_ rfl fun h' he => ⟨rfl, ?_⟩
  · obtain ⟨o', es, e, r⟩ := hD
    exact ⟨o', es, up _ _ e, r⟩
  · have kp : ∀ b o, s₁.heap.get? b = some o → h'.get? b = some o := fun b o e => he b o (Nat.ne_of_lt (Heap.lt_size e)) (up b o e)
    exact k h' _ (F.keeps kp) (N.grown kp)
theorem iter_items {h₀ : Heap} {L d v : Addr} {o : Obj} {m : Str → Option Value} {news : List (Addr × Obj)} {Q : Value → Shared → Prop} (F : Fr h₀ L s.heap m) (N : News h₀ L s.heap news) (hv : (v, ({ cls := .type "dict_items", data := .fields #[.ref d] } : Obj)) ∈ news) (hd : (d, o) ∈ news) (hdo : o.IsDictOf (strKind prog w) [])
    (h : ∀ I ep H, Fr h₀ L H m → News h₀ L H ((I, itemIt d ep) :: news) → (∀ p ∈ news, p.1 < I) → KdkAt (strKind prog w) o [] ep → Q (.ref I) { s with heap := H }) :
    wpAny (model prog w) A (PySem.call (.builtin "iter") [.ref v]) Q E s := by
  obtain ⟨ep, hat⟩ := KdkAt.of hdo
  refine call_function_entry (by decide +kernel) (by decide +kernel) kdk_entry_iter (kdk_args_iter _) ?_
  unfold Builtin.«iter»
  refine wpAny_bind (m := someArgs "iter" 1 2 _) (wpAny_of_eq (a := [Value.ref v]) (by first | rfl | kernel_rfl!) ?_)
  show wpAny _ _ (pyIter (.ref v) >>= _) _ _ _
  refine wpAny_bind (wpAny_pyIter_items ⟨_, (N _ hv).1, rfl, rfl⟩ (hat.dictAt (N _ hd).1) ?_)
  exact wpAny_pure ⟨_, rfl, h _ ep _ (F.push _) (News.push F N _) (fun q hq => Heap.lt_size (N q hq).1) hat⟩
theorem for_iter_nil {target iter : PySem.Expr} {body : List Stmt} {pos : Pos} {Q : Flow → Shared → Prop} (hh : A.handled = none)
    (h : wpAny (model prog w) A (eval iter env) (IterPost prog w Q) E s)
    (hs : ∀ x, foldedSetIterable iter env x = pure x := by intro _; rfl) :
    wpAny (model prog w) A (exec (.For target iter body [] pos) env) Q E s := by
  refine wpAny_For (wpAny_mono h ?_ fun _ _ z => z) hs
  rintro xv s₁ ⟨h₀, L, m, news, I, d, o, ep, rfl, F, N, hd, hat, lt, k⟩
  have hI := (N _ (List.Mem.head _)).1
  have N1 : News h₀ L s₁.heap news := fun p hp => N p (List.Mem.tail _ hp)
  refine kcp_self (d := d) (i := 0) (n := ([] : List (Str × Value)).length) (ep := ep) (ok := .none) (ov := .none) hI ?_
  refine forLoop_end ?_
  refine wpAny_pyNext_items_end (kvs := ([] : List (Str × Value))) (knd := strKind prog w) (ep := ep) (i := 0) hh hI (hat.dictAt (N1 _ hd).1) rfl fun h' he => ⟨rfl, ?_⟩
  refine k h' _ ⟨F.ns.at' fun o e => he _ o (Ne.symm (N _ (List.Mem.head _)).2.1) e, fun b o e => he b o (fun z => by rw [z, (N _ (List.Mem.head _)).2.2] at e; cases e) (F.keep b o e), F.above⟩ fun p hp => ⟨he _ _ (Nat.ne_of_lt (lt p hp)) (N1 p hp).1, (N1 p hp).2⟩
end
end BL
end
-- part SupB
section
set_option linter.unusedVariables false
set_option linter.unusedSimpArgs false
open PySem PySem.W PySem.Spec PySem.Calls PyProof.Rows Builtin
set_option maxRecDepth 100000
set_option maxHeartbeats 4000000
namespace BL
section
variable {prog : Program} {w : World} {A : Around} {E : Value → Shared → Prop} {h : Heap} {g : Array GenState} {d : Drawn} {t : Nat} {os : OsState} {x C : Addr} {ox : Obj}
/-- a super object's method is its attribute -/
theorem super_getMethod {so D : Addr} {xv cv : Value} {name : Str} {pl : Sem Bool} {Q : Value × List Value → Shared → Prop}
    (hso : h.get? so = some { cls := .type "super", dict := none, data := .fields #[.ref D, xv, cv], slots := #[] })
    (z : wpAny (model prog w) A (getAttr (.ref so) name) (fun v s' => Q (v, []) s') E ⟨h, g, d, t, os⟩) :
    wpAny (model prog w) A (getMethod (.ref so) name pl) Q E ⟨h, g, d, t, os⟩ := by
  have hcan := PySem.F.ks_canon_super_ga
  have hT : (⟨h, g, d, t, os⟩ : Shared).TypeIs (.ref so) "super" := ⟨_, hso, rfl⟩
  unfold getMethod
  refine wpAny_bind (wpAny_specialOf hT PySem.F.ks_slot_super_ga.lookup ?_)
  show wpAny _ _ (if (Manifest.canonical "super.__getattribute__" != "object.__getattribute__") = true then _ else _) _ _ _
  rw [if_pos hcan]
  exact wpAny_bind (wpAny_mono z (fun v s' q => wpAny_pure q) fun _ _ y => y)
theorem wd_plain : plainId "wrapper_descriptor.__get__" = true := by decide +kernel
theorem wd_entry : entryFor table "wrapper_descriptor.__get__" = some Builtin.«wrapper_descriptor.__get__» := entryFor_of_tree (by kernel_rfl)
theorem wd_get {cv : Value} {Q : Value → Shared → Prop} (hcv : (cv == .none) = false) (hin : Looks (model prog w) h (isInstance (.ref x) (.type "dict")) true)
    (hchk : Looks (model prog w) h (checkBuiltinCall "wrapper_descriptor.__get__" ⟨[.builtin "dict.__init__", .ref x, cv], []⟩) ())
    (q : Q (.ref h.objs.size) ⟨h.push { cls := .type "method-wrapper", data := .fields #[.builtin "dict.__init__", .ref x] }, g, d, t, os⟩) :
    wpAny (model prog w) A (PySem.call (.builtin "wrapper_descriptor.__get__") [.builtin "dict.__init__", .ref x, cv]) Q E ⟨h, g, d, t, os⟩ := by
  refine wpAny_call (codeAny_call_builtin wd_plain wd_entry (hchk.at ?_))
  have hin' : ∀ n, n = "dict" → Looks (model prog w) h (isInstance (.ref x) (.type n)) true := fun n e => by rw [e]; exact hin
  unfold Builtin.«wrapper_descriptor.__get__»
  repeat (first | (with_reducible refine Looks.at (hin' _ (by kernel_rfl)) ?_) | exact q | simp only [hcv, List.isEmpty_nil, Bool.not_true, Bool.false_eq_true, if_false, show (Value.ref x == Value.none) = false from rfl] | lk)
theorem di_quiet (x : Addr) : (Code.builtin "dict.__init__" ⟨[.ref x], []⟩).quiet = true := Code.quiet_builtin _ (by decide +kernel)
theorem mw_call {mw : Addr} {Q : Value → Shared → Prop} (hm : h.get? mw = some { cls := .type "method-wrapper", data := .fields #[.builtin "dict.__init__", .ref x] })
    (hx : h.get? x = some ox) (hod : Looks (model prog w) h (isSubtype (.ref C) (.type "collections.OrderedDict")) false) (hc : ox.cls = .ref C) 
    (hchk : Looks (model prog w) h (checkBoundCall "dict.__init__" ⟨[.ref x], []⟩) ())
    (q : Q .none ⟨h, g, d, t, os⟩) : wpAny (model prog w) A (PySem.call (.ref mw) []) Q E ⟨h, g, d, t, os⟩ := by
  refine wpAny_call (codeAny_of_tree ?_)
  show wpAny _ _ (callAny (.ref mw) _) _ _ _
  simp only [callAny]
  refine wpAny_bind (wpAny_load hm ?_)
  simp only [show (Value.type "method-wrapper" == Value.type "method" || Value.type "method-wrapper" == Value.type "builtin_function_or_method" || Value.type "method-wrapper" == Value.type "method-wrapper") = true by decide, show (Value.type "method-wrapper" != Value.type "method") = true by decide, if_true]
  refine wpAny_bind (hchk.at ?_)
  refine wpAny_bind (wpAny_pure (wpAny_pure ?_))
  refine ⟨di_quiet x, codeAny_builtin PySem.F.entry_dict_init ?_⟩
  show wpAny _ _ (Builtin.«dict.__init__» ⟨[.ref x], []⟩) _ _ _
  unfold Builtin.«dict.__init__»
  have tx : Looks (model prog w) h (typeOf (.ref x)) (.ref C) := by rw [← hc]; exact (Looks.ld hx).andThen .now
  repeat (first | exact q | (with_reducible exact wpAny_pure (wpAny_pure (wpAny_pure q))) | (with_reducible refine Looks.at tx ?_) | (with_reducible refine Looks.at hod ?_) | simp only [hc, show (Value.ref C != Value.type "dict") = true from rfl, if_true, Bool.false_eq_true, if_false] | lk)
end
end BL
end
-- part DGet
section
set_option linter.unusedVariables false
set_option linter.unusedSimpArgs false
open PySem PySem.W PySem.Spec PySem.Calls PyProof.Rows Builtin
set_option maxRecDepth 100000
set_option maxHeartbeats 4000000
namespace BL
section
variable {prog : Program} {w : World} {A : Around} {E : Value → Shared → Prop} {h : Heap} {g : Array GenState} {d : Drawn} {t : Nat} {os : OsState} {x C f : Addr} {ox : Obj} {od : Option Obj} {K : Frag}
theorem dga_bind (v : Value) : bindSpecial (.builtin "dict.__getattribute__") v = pure (.builtin "dict.__getattribute__", [v]) := PySem.F.slot_dict_getattribute.bind v
theorem dga_plain : plainId "dict.__getattribute__" = true := by decide +kernel
theorem dga_kind : builtinKind "dict.__getattribute__" = some .slot := by decide +kernel
theorem dga_split : splitId "dict.__getattribute__" = some ("dict", "__getattribute__") := by decide +kernel
/-- a def of a class over dict, asked of an obj -/
theorem dsub_get {name : Str} {expr : Bool} {Q : Value → Shared → Prop} (X : K.In h) (I : InstAt h x ox C od) (hga : findIn K (.ref C) "__getattribute__" = some (some (.builtin "dict.__getattribute__")))
    (hf : findObj K C od name = some (.bind (.builtin "function.__get__") (.ref f))) (hfn : typeIn K (.ref f) = some (.type "function")) (hk : findIn K (.ref C) "__getattr__" = some none)
    (hin : Looks (model prog w) h (isInstance (.ref x) (.type "dict")) true)
    (q : Q (.ref h.objs.size) ⟨h.push (methodObj (.ref f) (.ref x)), g, d, t + 1, os⟩) :
    wpAny (model prog w) A (getAttr (.ref x) name expr) Q E ⟨h, g, d, t, os⟩ := by
  have L0 := I.type (M := model prog w)
  have L1 := looks_findIn (M := model prog w) X hga
  have L2 := looks_findIn (M := model prog w) X hk
  have L3 := looks_find (M := model prog w) X I hf
  unfold getAttr getAttrBy
  refine wpAny_bind (wpAny_mkText (wpAny_holding (wpAny_bind (L0.at (wpAny_bind (L1.at ?_))))))
  show wpAny _ _ (getAttrByItsOwn (.ref x) (.str name t) (.ref C) (.builtin "dict.__getattribute__") true expr) _ _ _
  unfold getAttrByItsOwn hookBefore callGetattribute boundAndCalled
  refine wpAny_bind (L2.at (wpAny_bind (wpAny_attempt (wpAny_holding ?_))))
  rw [show (expr && onTheHeap (Value.builtin "dict.__getattribute__")) = false from Bool.and_false _]
  show wpAny _ _ (bindSpecial (.builtin "dict.__getattribute__") (.ref x) >>= _) _ _ _
  rw [dga_bind]
  refine wpAny_bind (wpAny_pure ?_)
  refine wpAny_call (codeAny_call_builtin dga_plain am_entry_dict_getattribute (@check_slot (model prog w) _ _ _ "dict.__getattribute__" "dict" "__getattribute__" (.ref x) [.str name t] [] _ dga_kind dga_split hin (PySem.F.args_dict_getattribute_2 _ _) ?_))
  unfold Builtin.«object.__getattribute__»
  repeat (first | (with_reducible refine Looks.at L3 ?_) | ((fail_if_success (with_reducible show wpAny _ _ (PySem.call _ _ _) _ _ _)); lk))
  exact wpAny_call (fn_get (s := ⟨h, g, d, t + 1, os⟩) X hfn (wpAny_pure (wpAny_pure q)))
end
end BL
end
-- part P3
section
set_option linter.unusedVariables false
open PySem PySem.W PySem.Spec PySem.Calls PyProof.Rows
set_option maxRecDepth 100000
set_option maxHeartbeats 8000000
set_option Elab.async false
namespace BL
local macro_rules | `(tactic| ktr_room) => `(tactic| ((try simp only [tc_depth, tc_units, depth_under_make, depth_under_kw, depth_in1, depth_deeper, units_in1, units_deeper, Around.mark_units, depth_mark]); (try dsimp only [ktrTop]); omega))
local macro_rules | `(tactic| k_room) => `(tactic| ktr_room)
local macro_rules | `(tactic| walk_at "pad 0") => `(tactic| fail)
local macro_rules | `(tactic| walk_at "pad 1") => `(tactic| fail)
local macro_rules | `(tactic| walk_at "pad 2") => `(tactic| fail)
local macro_rules | `(tactic| walk_at "pad 3") => `(tactic| fail)
local macro_rules | `(tactic| walk_at "pad 4") => `(tactic| fail)
local macro_rules | `(tactic| walk_at "pad 5") => `(tactic| fail)
local macro_rules | `(tactic| walk_at "pad 6") => `(tactic| fail)
local macro_rules | `(tactic| walk_at "pad 7") => `(tactic| fail)
local macro_rules | `(tactic| walk_at "call builtin:hasattr") => `(tactic| (k_here; (with_reducible show wpAny _ _ (call (Value.builtin _) [Value.ref _, Value.str _ _]) _ _ _); k_dflt (refine' has_itemsN ?ha1 ?ha2 ?ha3 ?ha4 ?_; (case ha1 => k_asm); (case ha2 => k_asm); (case ha3 => k_mem); (case ha4 => assumption)); intro h9 tk9 F9 N9; (try k_sweep)))
local macro_rules | `(tactic| walk_at "call builtin:iter") => `(tactic| (k_here; (with_reducible show wpAny _ _ (call (Value.builtin _) [Value.ref _]) _ _ _); k_dflt (refine' iter_items ?it1 ?it2 ?it3 ?it4 ?it5 ?_; (case it1 => k_asm); (case it2 => k_asm); (case it3 => k_mem); (case it4 => k_mem); (case it5 => assumption)); intro I9 ep9 h9 F9 N9 l9 k9; (try k_sweep)))
local macro_rules | `(tactic| walk_at "exec For Tuple Name cons nil") => `(tactic| (k_here; k_dflt (refine for_iter_nil rfl ?_)))
local macro_rules | `(tactic| walk_at "exec For Tuple Call cons nil") => `(tactic| (k_here; k_dflt (refine for_items_nil rfl ?_)))
local macro_rules | `(tactic| walk_at "IterPost") => `(tactic| (k_here; k_dflt (refine' ⟨_, _, _, _, _, _, _, _, rfl, ?it1, ?it2, ?it3, ?it4, ?it5, ?_⟩; (case it1 => k_asm); (case it2 => k_asm); (case it3 => k_mem); (case it4 => assumption); (case it5 => assumption)); intro h9 tk9 F9 N9; (try k_sweep)))
local macro_rules | `(tactic| walk_at "ItemsPost") => `(tactic| (k_here; k_dflt (refine' ⟨_, _, _, _, _, _, _, rfl, ?it1, ?it2, ?it3, ?it4, ?it5, ?_⟩; (case it1 => k_asm); (case it2 => k_asm); (case it3 => k_mem); (case it4 => k_mem); (case it5 => assumption)); intro h9 tk9 F9 N9; (try k_sweep)))
theorem up_code {w : World} {dp un : Nat} {gd : Option (List Code)} {cn : Str} {cs : Scope} {L a : Addr} {ccd : Value} {cl : List (Str × Addr)} {outer : List Env} {A₀ : Around} {base h₀ : Heap} {m : Str → Option Value} {s : Shared} {R : Result → Shared → Prop}
    {p : Program} {loose : List Str} {mean : ExcName → Option Value} {mg mb : Str → Option Value} (x : Addr)
    (B : Below A₀ base outer h₀) (F : Fr h₀ L s.heap m) (X : (K w.params).In h₀) (T : Top p loose mean mg mb h₀) (hk : cs.kind = .function) (hd : dp + 20 < recursionLimit) (hu : un + 150 < cLine)
    (ret : ∀ h' tk', InElt s.heap h' → R (.ok (.ret .none)) { s with heap := h', toks := tk' }) :
    codeAny (model PySem.Challenge.rw_bl0008_01.row.prog w) (ktrTop dp un gd cn cs L a ccd cl outer) (.call (.ref 143) ⟨[.ref x], []⟩) R s := by
  revert X
  w_top off
  k_fill
  intro X
  have N : News h₀ L s.heap [] := News.nil
  k_dflt (refine' both_loc (vs := []) ?k1 ?k2 ?k3 ?k4 ?k5 ?kA ?kF ?kK ?k6 ?k7 ?k8 ?kQ ?kR ?kS ?kB ?_ ?c2 ?c3 ?c4 ?c5; (case kA => exact rfl); (case kF => exact rfl); (case kK => first | exact rfl | assumption); (case k1 => k_asm); (case k2 => k_asm); (case k3 => k_asm); (case k4 => k_asm); (case k5 => k_asm); (case k6 => k_is); (case k7 => k_is); (case k8 => ktr_room); (case kQ => exact rfl); (case kR => exact fun _ => rfl); (case kS => exact fun _ _ => rfl); (case kB => exact fun _ _ => locs rfl); (case c2 => exact rfl); (case c3 => exact rfl); (case c4 => exact rfl); (case c5 => decide))
  intro C' D' g' L' h' tk' l1 l2 l3 lm FG' F' N' B' X' T' st'
  obtain ⟨oD, eD⟩ : ∃ o, o = dictOf [] 0 := ⟨_, rfl⟩
  have hoD : oD.IsDictOf (strKind PySem.Challenge.rw_bl0008_01.row.prog w) [] := by rw [eD]; exact nil_dict 0
  have fD : PyProof.V.FlatPairs PyData.str ([] : List (Str × Value)) [] := .nil
  rw [← eD] at N'
  clear eD
  (try dsimp only)
  k_steps
  rename_i F8 N8 kF8 kN8 Tc8 kX8
  exact ret _ _ (inElt_of st' F8)
end BL
namespace BL
end BL
end
-- part P2
section
set_option linter.unusedVariables false
open PySem PySem.W PySem.Spec PySem.Calls PyProof.Rows
set_option maxRecDepth 100000
set_option maxHeartbeats 8000000
set_option Elab.async false
namespace BL
local macro_rules | `(tactic| ktr_room) => `(tactic| ((try simp only [tc_depth, tc_units, depth_under_make, depth_under_kw, depth_in1, depth_deeper, units_in1, units_deeper, Around.mark_units, depth_mark]); (try dsimp only [ktrTop]); omega))
local macro_rules | `(tactic| k_room) => `(tactic| ktr_room)
theorem ci_code {w : World} {dp un : Nat} {gd : Option (List Code)} {cn : Str} {cs : Scope} {L a : Addr} {ccd : Value} {cl : List (Str × Addr)} {outer : List Env} {A₀ : Around} {base h₀ : Heap} {m : Str → Option Value} {s : Shared} {R : Result → Shared → Prop}
    {p : Program} {loose : List Str} {mean : ExcName → Option Value} {mg mb : Str → Option Value} (x dx : Addr)
    (B : Below A₀ base outer h₀) (F : Fr h₀ L s.heap m) (X : (K w.params).In h₀) (T : Top p loose mean mg mb h₀) (hk : cs.kind = .function) (hd : dp + 26 < recursionLimit) (hu : un + 180 < cLine)
    (I : InstAt s.heap x (dictInst 303 dx [] 0) 303 (some emptyDict))
    (ret : ∀ h' tk', InElt s.heap h' → R (.ok (.ret .none)) { s with heap := h', toks := tk' }) :
    codeAny (model PySem.Challenge.rw_bl0008_01.row.prog w) (ktrTop dp un gd cn cs L a ccd cl outer) (.call (.ref 63) ⟨[.ref x], []⟩) R s := by
  revert X
  w_top off
  k_fill
  intro X
  have N : News h₀ L s.heap [] := News.nil
  k_dflt (refine' both_loc (vs := []) ?k1 ?k2 ?k3 ?k4 ?k5 ?kA ?kF ?kK ?k6 ?k7 ?k8 ?kQ ?kR ?kS ?kB ?_ ?c2 ?c3 ?c4 ?c5; (case kA => exact rfl); (case kF => exact rfl); (case kK => first | exact rfl | assumption); (case k1 => k_asm); (case k2 => k_asm); (case k3 => k_asm); (case k4 => k_asm); (case k5 => k_asm); (case k6 => k_is); (case k7 => k_is); (case k8 => ktr_room); (case kQ => exact rfl); (case kR => exact fun _ => rfl); (case kS => exact fun _ _ => rfl); (case kB => exact fun _ _ => locs rfl); (case c2 => exact rfl); (case c3 => exact rfl); (case c4 => exact rfl); (case c5 => decide))
  intro C' D' g' L' h' tk' l1 l2 l3 lm FG' F' N' B' X' T' st'
  obtain ⟨oD, eD⟩ : ∃ o, o = dictOf [] 0 := ⟨_, rfl⟩
  have hoD : oD.IsDictOf (strKind PySem.Challenge.rw_bl0008_01.row.prog w) [] := by rw [eD]; exact nil_dict 0
  have fD : PyProof.V.FlatPairs PyData.str ([] : List (Str × Value)) [] := .nil
  rw [← eD] at N'
  clear eD
  (try dsimp only)
  have kp : InElt s.heap h' := inElt_of st' F'
  have I' : InstAt h' x (dictInst 303 dx [] 0) 303 (some emptyDict) := ⟨kp _ _ I.at_, I.cls, I.no, kp _ _ I.dict⟩
  have Ig : InstAt g' x (dictInst 303 dx [] 0) 303 (some emptyDict) := ⟨st' _ _ I.at_ (by simp), I.cls, I.no, st' _ _ I.dict (by simp)⟩
  iterate 4 (walk1; (try dsimp only))
  refine ks_wpAt_execs_cons (ks_wpAt_Expr_any (ks_wpAt_MethodCall ?_))
  refine super_node F' X' N' T' (by k_is) (by rfl) (by rfl) I' (by k_is) (by rfl) (by first | rfl | decide +kernel) (by rfl) (by k_is) (by k_is) (by k_is) (by k_is) (by decide) (by rfl) (by rfl) (by rfl) (by rfl) (by decide +kernel) (by first | rfl | kernel_rfl) ?_
  intro so h2 F2 N2 l4
  have X2 := X'.keeps F2.keep
  have I2 : InstAt h2 x (dictInst 303 dx [] 0) 303 (some emptyDict) := ⟨F2.keep _ _ Ig.at_, I.cls, I.no, F2.keep _ _ Ig.dict⟩
  have n303 : (Value.ref x == Value.ref 303) = false := by
    have hne : x ≠ 303 := fun e => by
      have z := I2.at_
      rw [e] at z
      have z2 := z.symm.trans (X2 303 _ (by k_is))
      cases z2
    simpa using hne
  refine super_getMethod (N2 _ (.head _)).1 ?_
  refine super_getattr (gv := some (.builtin "wrapper_descriptor.__get__")) (a := .builtin "dict.__init__") (l₀ := [.ref 303, .ref 174, .type "dict", .type "object"]) (ta := .type "wrapper_descriptor") (N2 _ (.head _)).1 (.of_peek X2 (by kernel_rfl)) (.of_peek X2 (by kernel_rfl)) rfl X2 (by kernel_rfl) (.of_peek X2 (by kernel_rfl)) (.of_peek X2 (by kernel_rfl)) (by decide +kernel) ?_
  dsimp only
  rw [n303]
  simp only [Bool.false_eq_true, if_false]
  have tx : ∀ {H : Heap}, H.get? x = some (dictInst 303 dx [] 0) → Looks (model PySem.Challenge.rw_bl0008_01.row.prog w) H (typeOf (.ref x)) (.ref 303) := fun e => (Looks.ld e).andThen .now
  refine wd_get rfl ((tx I2.at_).andThen (.of_peek X2 (by kernel_rfl))) (.of_peek X2 (by kernel_rfl)) ?_
  refine wpAny_pure (a := Value.ref h2.objs.size) ?_
  generalize hmw : h2.push { cls := .type "method-wrapper", data := .fields #[.builtin "dict.__init__", .ref x] } = h3
  have k3 : ∀ b o, h2.get? b = some o → h3.get? b = some o := fun b o e => hmw ▸ Heap.get?_push_of_some _ e
  have e3 : h3.get? h2.objs.size = some { cls := .type "method-wrapper", data := .fields #[.builtin "dict.__init__", .ref x] } := hmw ▸ Heap.get?_push_size _ rfl
  have X3 := X2.keeps k3
  have F3 := F2.keeps k3
  have N3 := News.grown N2 k3
  refine callWith_of (P := fun H => H = h3) rfl (fun H e => ⟨.machine, .inr (.inl rfl), by rw [e]; exact (Looks.ld e3).andThen .now⟩) (evalArgs_nil3 ⟨rfl, ?_⟩)
  refine mw_call (C := 303) e3 (k3 _ _ I2.at_) (.of_peek X3 (by kernel_rfl)) rfl (.of_peek X3 (by kernel_rfl)) ?_
  (try dsimp only)
  refine ks_wpAt_execs_cons (ks_wpAt_Expr_any (at_methodCall rfl (_root_.PySem.wpAt_of_wpAny ?_)))
  clear l4 hmw
  have I3 : InstAt h3 x (dictInst 303 dx [] 0) 303 (some emptyDict) := ⟨k3 _ _ I2.at_, I.cls, I.no, k3 _ _ I2.dict⟩
  change wpAny _ _ (eval _ _) _ _ _
  k_steps
  refine dsub_get (K := K w.params) (f := 143) (X'.keeps F3.keep) I3 (by k_is) (by rfl) (by k_is) (by k_is) ((tx I3.at_).andThen (.of_peek (X'.keeps F3.keep) (by kernel_rfl))) ?_
  have F4 := F3.push (methodObj (.ref 143) (.ref x))
  have N4 := News.push F3 N3 (methodObj (.ref 143) (.ref x)) rfl
  generalize h3.objs.size = q4 at F4 N4 ⊢
  generalize h3.push (methodObj (.ref 143) (.ref x)) = h4 at F4 N4 ⊢
  refine call_nil (kp := .boundFrame) (t := C') (b := D') (ot := { cls := .type "tuple", data := .seq #[] }) F4 N4 ?hx ?hk (by simp) rfl rfl (.of (N4 (D', oD) (by simp)).1 hoD) lm ?hp ?_
  case hx => intro Q E q; k_steps; exact q
  case hk => intro s5 hs5 F5 N5 Q E q; obtain ⟨H5, tk5, rfl⟩ := hs5; k_steps; exact q
  case hp => intro H5 F5 N5; exact (Looks.ld (N5 _ (.head _)).1).andThen ((Looks.ld (X'.keeps F5.keep 143 _ (by k_is))).andThen .now)
  intro h5 F5 N5
  refine call_meth N5 (.head _) ?_
  refine up_code (s := ⟨h5, _, _, _, _⟩) x (by k_asm) F5 X' T' rfl (by ktr_room) (by ktr_room) ?_
  intro h6 tk6 k6
  have F6 := Fr.keeps F5 k6
  have N6 := News.grown N5 k6
  dsimp only
  k_steps
  exact ret _ _ (inElt_of st' F6)
end BL
namespace BL
end BL
end
-- part P1
section
set_option linter.unusedVariables false
open PySem PySem.W PySem.Spec PySem.Calls PyProof.Rows
set_option maxRecDepth 100000
set_option maxHeartbeats 8000000
set_option Elab.async false
namespace BL
local macro_rules | `(tactic| ktr_room) => `(tactic| ((try simp only [tc_depth, tc_units, depth_under_make, depth_under_kw, depth_in1, depth_deeper, units_in1, units_deeper, Around.mark_units, depth_mark]); (try dsimp only [ktrTop]); omega))
local macro_rules | `(tactic| k_room) => `(tactic| ktr_room)
local macro_rules | `(tactic| ktr_unf) => `(tactic| repeat' (first | (k_unfold; (try dsimp only)) | (k_end; wrow_close) | ((fail_if_success (with_reducible show wpAny _ _ _ _ _ _)); dsimp only; walk1) | ((fail_if_success (with_reducible show wpAny _ _ (exec (Stmt.Assign _ (PySem.Expr.DictComp _ _ _ _ _) _) _) _ _ _)); (first | walk1 | (dsimp only; walk1))) | fail "no step"))
local macro_rules | `(tactic| walk_at "pad 0") => `(tactic| fail)
local macro_rules | `(tactic| walk_at "pad 1") => `(tactic| fail)
local macro_rules | `(tactic| walk_at "pad 2") => `(tactic| fail)
local macro_rules | `(tactic| walk_at "pad 3") => `(tactic| fail)
local macro_rules | `(tactic| walk_at "pad 4") => `(tactic| fail)
local macro_rules | `(tactic| walk_at "pad 5") => `(tactic| fail)
local macro_rules | `(tactic| walk_at "pad 6") => `(tactic| fail)
local macro_rules | `(tactic| walk_at "pad 7") => `(tactic| fail)
local macro_rules | `(tactic| walk_at "pad 8") => `(tactic| fail)
local macro_rules | `(tactic| walk_at "pad 9") => `(tactic| fail)
local macro_rules | `(tactic| walk_at "pad 10") => `(tactic| fail)
local macro_rules | `(tactic| walk_at "pad 11") => `(tactic| fail)
local macro_rules | `(tactic| walk_at "pad 12") => `(tactic| fail)
local macro_rules | `(tactic| walk_at "pad 13") => `(tactic| fail)
local macro_rules | `(tactic| walk_at "subscriptTail") => `(tactic| (k_here; (with_reducible show wpAny _ _ (subscriptTail _ _ (Value.ref _) (Value.ref _)) _ _ _); k_dflt (refine' slice_tuple_from (s := ⟨_, _, _, _, _⟩) (a := 1) ?st1 ?st2 (News.isTup ?st3 ?st5) (by decide) ?st4 ?_ ?st7 ?st8 ?st6; (case st7 => with_unfolding_all rfl); (case st8 => (intro _; with_unfolding_all rfl)); (case st1 => k_asm); (case st2 => k_asm); (case st3 => k_asm); (case st5 => k_mem); (case st4 => exact Nat.le_of_ble_eq_true rfl); (case st6 => (show 1 ≤ sizeLine; rw [sizeLine_eq]; omega))); intro h9 F9 N9; (try k_sweep)))
local macro_rules | `(tactic| walk_at "call builtin:hasattr") => `(tactic| (k_here; (with_reducible show wpAny _ _ (call (Value.builtin _) [Value.ref _, Value.str _ _]) _ _ _); k_dflt (refine' has_itemsN ?ha1 ?ha2 ?ha3 ?ha4 ?_; (case ha1 => k_asm); (case ha2 => k_asm); (case ha3 => k_mem); (case ha4 => assumption)); intro h9 tk9 F9 N9; (try k_sweep)))
local macro_rules | `(tactic| walk_at "call builtin:iter") => `(tactic| (k_here; (with_reducible show wpAny _ _ (call (Value.builtin _) [Value.ref _]) _ _ _); k_dflt (refine' iter_items ?it1 ?it2 ?it3 ?it4 ?it5 ?_; (case it1 => k_asm); (case it2 => k_asm); (case it3 => k_mem); (case it4 => k_mem); (case it5 => assumption)); intro I9 ep9 h9 F9 N9 l9 k9; (try k_sweep)))
local macro_rules | `(tactic| walk_at "exec For Tuple Name cons nil") => `(tactic| (k_here; k_dflt (refine for_iter_nil rfl ?_)))
local macro_rules | `(tactic| walk_at "exec For Tuple Call cons nil") => `(tactic| (k_here; k_dflt (refine for_items_nil rfl ?_)))
local macro_rules | `(tactic| walk_at "IterPost") => `(tactic| (k_here; k_dflt (refine' ⟨_, _, _, _, _, _, _, _, rfl, ?it1, ?it2, ?it3, ?it4, ?it5, ?_⟩; (case it1 => k_asm); (case it2 => k_asm); (case it3 => k_mem); (case it4 => assumption); (case it5 => assumption)); intro h9 tk9 F9 N9; (try k_sweep)))
local macro_rules | `(tactic| walk_at "ItemsPost") => `(tactic| (k_here; k_dflt (refine' ⟨_, _, _, _, _, _, _, rfl, ?it1, ?it2, ?it3, ?it4, ?it5, ?_⟩; (case it1 => k_asm); (case it2 => k_asm); (case it3 => k_mem); (case it4 => k_mem); (case it5 => assumption)); intro h9 tk9 F9 N9; (try k_sweep)))
theorem pm_call {w : World} {dp un : Nat} {gd : Option (List Code)} {cn : Str} {cs : Scope} {L a : Addr} {ccd : Value} {cl : List (Str × Addr)} {outer : List Env} {A₀ : Around} {base h₀ : Heap} {m : Str → Option Value} {s : Shared} {Q E : Value → Shared → Prop}
    {p : Program} {loose : List Str} {mean : ExcName → Option Value} {mg mb : Str → Option Value} 
    (B : Below A₀ base outer h₀) (F : Fr h₀ L s.heap m) (X : (K w.params).In h₀) (T : Top p loose mean mg mb h₀) (hk : cs.kind = .function) (hd : dp + 30 < recursionLimit) (hu : un + 200 < cLine)
    (ret : ∀ x o h' tk', h'.get? x = some o → s.heap.objs.size ≤ x → InElt s.heap h' → Q (.ref x) { s with heap := h', toks := tk' }) :
    wpAny (model PySem.Challenge.rw_bl0008_01.row.prog w) (ktrTop dp un gd cn cs L a ccd cl outer) (call (.ref 303) [.none]) Q E s := by
  revert X
  w_top off
  k_fill
  intro X
  have N : News h₀ L s.heap [] := News.nil
  refine dict_make F N (pm_own (X.keeps F.keep)) fun x9 dx9 h9 F9 N9 l9 l8 kk9 hz9 => ?_
  refine wpAny_call ?_
  k_dflt (refine' both_cell (vs := [.none]) ?k1 ?k2 ?k3 ?k4 ?k5 ?kA ?kF ?kK ?k6 ?k7 ?k8 ?kQ ?kR ?kS ?kx ?ky ?kz ?kcf ?kpc ?_ ?c2 ?c3 ?c4; (case kA => exact rfl); (case kF => exact rfl); (case kK => first | exact rfl | assumption); (case k1 => k_asm); (case k2 => k_asm); (case k3 => k_asm); (case k4 => k_asm); (case k5 => k_asm); (case k6 => k_is); (case k7 => k_is); (case k8 => ktr_room); (case kQ => exact rfl); (case kR => exact fun _ => rfl); (case kS => exact fun _ _ => rfl); (case kx => exact rfl); (case ky => exact rfl); (case kz => exact rfl); (case kcf => exact fun _ => rfl); (case kpc => exact fun _ => rfl); (case c2 => exact rfl); (case c3 => exact rfl); (case c4 => exact rfl))
  intro C' D' g' L' c' o' h' tk' l1 l2 l3 lm FG' F' N' hd' B' X' T' st'
  obtain ⟨oD, eD⟩ : ∃ o, o = dictOf [] 0 := ⟨_, rfl⟩
  have hoD : oD.IsDictOf (strKind PySem.Challenge.rw_bl0008_01.row.prog w) [] := by rw [eD]; exact nil_dict 0
  have fD : PyProof.V.FlatPairs PyData.str ([] : List (Str × Value)) [] := .nil
  rw [← eD] at N'
  clear eD
  k_lt l1
  (try dsimp only)
  ktr_unf
  all_goals try dsimp only at *
  refine dictComp_nil (cl := [(S "kwargs", c')]) (by k_asm) (by k_asm) (by with_unfolding_all rfl) rfl (by rfl) (by decide) rfl (by decide) rfl rfl rfl ?_ (by intro _; rfl) (modules_low T'.nolimit)
  k_steps
  rename_i F9 N9 l9
  refine ⟨⟨_, rfl, News.isList N9 (List.Mem.head _), F9, fun p hp => N9 p (List.Mem.tail _ (List.Mem.tail _ hp))⟩, ?_⟩
  intro D2 o2 h2 tk2 F2 N2 hd2 lm2
  clear F9 N9 l9
  (try dsimp only)
  have I2 : InstAt h2 x9 (dictInst 303 dx9 [] 0) 303 (some emptyDict) := ⟨(N2 (x9, dictInst 303 dx9 [] 0) (by simp)).1, rfl, rfl, (N2 (dx9, emptyDict) (by simp)).1⟩
  refine ks_wpAt_execs_cons (ks_wpAt_Expr_any (at_methodCall rfl ?_))
  refine super_node F2 X' N2 T' (by k_is) (by rfl) (by rfl) I2 (by k_is) (by rfl) (by first | rfl | decide +kernel) (by rfl) (by k_is) (by k_is) (by k_is) (by k_is) (by decide) (by rfl) (by rfl) (by rfl) (by rfl) (by decide +kernel) (by first | rfl | kernel_rfl) ?_
  intro so h3 F3 N3 l4
  have X3 := X'.keeps F3.keep
  have I3 : InstAt h3 x9 (dictInst 303 dx9 [] 0) 303 (some emptyDict) := ⟨(N3 (x9, dictInst 303 dx9 [] 0) (by simp)).1, rfl, rfl, (N3 (dx9, emptyDict) (by simp)).1⟩
  have n303 : (Value.ref x9 == Value.ref 303) = false := by
    have hne : x9 ≠ 303 := fun e => by
      have z := I3.at_
      rw [e] at z
      have z2 := z.symm.trans (X3 303 _ (by k_is))
      cases z2
    simpa using hne
  refine super_getattr (gv := some (.builtin "function.__get__")) (a := .ref 63) (l₀ := [.ref 303, .ref 174, .type "dict", .type "object"]) (ta := .type "function") (N3 _ (.head _)).1 (.of_peek X3 (by kernel_rfl)) (.of_peek X3 (by kernel_rfl)) rfl X3 (by kernel_rfl) (.of_peek X3 (by kernel_rfl)) (.of_peek X3 (by kernel_rfl)) (by decide +kernel) ?_
  dsimp only
  rw [n303]
  simp only [Bool.false_eq_true, if_false]
  refine wpAny_call (fn_get (s := ⟨h3, _, _, _, _⟩) X3 (by k_is) ?_)
  refine wpAny_pure (a := Value.ref h3.objs.size) ?_
  have F4 := F3.push (methodObj (.ref 63) (.ref x9))
  have N4 := News.push F3 N3 (methodObj (.ref 63) (.ref x9)) rfl
  show wpAny _ _ _ _ _ ⟨h3.push (methodObj (.ref 63) (.ref x9)), _, _, _, _⟩
  generalize h3.objs.size = q4 at F4 N4 ⊢
  generalize h3.push (methodObj (.ref 63) (.ref x9)) = h4 at F4 N4 ⊢
  refine call_nil (kp := .boundFrame) (t := h'.objs.size + 1) (b := D') (ot := { cls := .type "tuple", data := .seq #[] }) F4 N4 ?hx ?hk ?hm rfl rfl (.of (N4 (D', oD) (by simp)).1 hoD) lm ?hp ?_
  case hx => intro Q E q; k_steps; exact q
  case hm => simp
  case hk => intro s5 hs5 F5 N5 Q E q; obtain ⟨H5, tk5, rfl⟩ := hs5; k_steps; exact q
  case hp => intro H5 F5 N5; exact (Looks.ld (N5 _ (.head _)).1).andThen ((Looks.ld (X'.keeps F5.keep 63 _ (by k_is))).andThen .now)
  intro h5 F5 N5
  refine call_meth N5 (.head _) ?_
  refine ci_code (s := ⟨h5, _, _, _, _⟩) x9 dx9 (by k_asm) F5 X' T' rfl (by ktr_room) (by ktr_room) ⟨(N5 (x9, dictInst 303 dx9 [] 0) (by simp)).1, rfl, rfl, (N5 (dx9, emptyDict) (by simp)).1⟩ ?_
  intro h6 tk6 k6
  have F6 := Fr.keeps F5 k6
  have N6 := News.grown (fun p hp => N5 p (List.Mem.tail _ (List.Mem.tail _ hp))) k6
  clear N5 F5 N4 F4 N3 F3 N2 F2 l4 hoD
  dsimp only
  k_steps
  rename Fr g' L' _ _ => FZ
  rename News h₀ L _ _ => kNZ
  refine ret x9 (dictInst 303 dx9 [] 0) _ _ (kNZ (x9, dictInst 303 dx9 [] 0) (by simp)).1 (Nat.le_of_lt (Nat.lt_of_le_of_lt hz9 l8)) fun b o e => ?_
  have hb : b < s.heap.objs.size := Heap.lt_size e
  exact FZ.keep b o (st' b o (kk9 b o e) (by simp only [List.map_cons, List.map_nil, List.mem_cons, List.not_mem_nil, or_false, not_or]; exact ⟨Nat.ne_of_lt (Nat.lt_trans (Nat.lt_of_lt_of_le hb hz9) l8), Nat.ne_of_lt (Nat.lt_of_lt_of_le hb hz9)⟩))
end BL
namespace BL
end BL
end
-- part SupC
section
set_option linter.unusedVariables false
set_option linter.unusedSimpArgs false
open PySem PySem.W PySem.Spec PySem.Calls PyProof.Rows Builtin
set_option maxRecDepth 100000
set_option maxHeartbeats 4000000
namespace BL
section
variable {prog : Program} {w : World} {A : Around} {E : Value → Shared → Prop} {h : Heap} {g : Array GenState} {d : Drawn} {t : Nat} {os : OsState}
/-- super(D, C) of two classes -/
theorem super_of_cls {D C : Addr} {oD oC : Obj} {cdD cdC : ClassData} {Q : Value → Shared → Prop}
    (hD : h.get? D = some oD) (hDt : oD.data = .cls cdD) (hC : h.get? C = some oC) (hCt : oC.data = .cls cdC) (hsub : Looks (model prog w) h (isSubtype (.ref C) (.ref D)) true)
    (q : ∀ h', h'.get? h.objs.size = some { cls := .type "super", dict := none, data := .fields #[.ref D, .ref C, .ref C], slots := #[] } → (∀ y o, h.get? y = some o → h'.get? y = some o) → Q (.ref h.objs.size) ⟨h', g, d, t, os⟩) :
    wpAny (model prog w) A (call (.type "super") [.ref D, .ref C]) Q E ⟨h, g, d, t, os⟩ := by
  refine ks_callType_codesW (Q₁ := fun obj s₁ => obj = .ref h.objs.size ∧ s₁ = ⟨h.push { cls := .type "super", data := .fields #[.none, .none, .none] }, g, d, t, os⟩) PySem.F.ks_called_super (ks_wpAny_checkTypeCall_super hD hDt) PySem.F.ks_entry_super_init
    (ks_code_super_new _ _ ⟨rfl, rfl⟩) ?_
  rintro obj s₁ ⟨rfl, rfl⟩
  have up : ∀ y o, h.get? y = some o → (h.push { cls := .type "super", data := .fields #[.none, .none, .none] }).get? y = some o := fun y o e => Heap.get?_push_of_some _ e
  have hso : (h.push { cls := .type "super", data := .fields #[.none, .none, .none] }).get? h.objs.size = some { cls := .type "super", dict := none, data := .fields #[.none, .none, .none], slots := #[] } := Heap.get?_push_at rfl rfl
  have hD' := up _ _ hD
  have hC' := up _ _ hC
  have hsub' := hsub.keeps up
  generalize hP : h.push { cls := .type "super", data := .fields #[.none, .none, .none] } = hp at *
  refine ⟨⟨_, hso, rfl⟩, PySem.F.ks_initArgs_super _ _ _, ?_⟩
  unfold Builtin.«super.__init__» noKeywords
  have last : ∀ h' : Heap, h'.get? h.objs.size = some { cls := .type "super", dict := none, data := .fields #[.ref D, .ref C, .ref C], slots := #[] } → (∀ y o, y ≠ h.objs.size → hp.get? y = some o → h'.get? y = some o) → ∀ y o, h.get? y = some o → h'.get? y = some o :=
    fun h' _ k y o ey => k y o (Nat.ne_of_lt (Heap.lt_size ey)) (up y o ey)
  repeat (first
    | (with_reducible refine ks_wpAny_isType_cls hD' hDt ?_)
    | (with_reducible refine ks_wpAny_isType_cls hC' hCt ?_)
    | (with_reducible refine Looks.at hsub' ?_)
    | (refine ks_wpAny_super_set3 hso ?_; intro h' e k; exact ⟨rfl, q h' e (last h' e k)⟩)
    | wp_step)
end
section
variable {prog : Program} {w : World} {A A₀ : Around} {E : Value → Shared → Prop} {s : Shared} {h₀ base : Heap} {L : Addr} {m mg mb : Str → Option Value} {news : List (Addr × Obj)} {K : Frag} {p : Program} {loose : List Str} {mean : ExcName → Option Value} {C D f cc cda : Addr} {outer : List Env} {env : Env}
/-- super() in a def whose first argument is a class -/
theorem super_cls_node {body : List Stmt} {q : Str} {scope : Scope} {cl : List (Str × Addr)} {p0 p1 : Pos} {attr : Str} {whole : Sem Value} {fd : FuncData} {ar : Arg} {vs : Array Value} {file : Str} {tf : Tok} {oc ccl c1 : Value} {od cdd cld : Option Addr} {osl ccs csl : Array (Option Value)} {cdD cdC : ClassData} {Q : Value → Shared → Prop}
    (F : Fr h₀ L s.heap m) (X₀ : K.In h₀) (N : News h₀ L s.heap news) (T : Top p loose mean mg mb h₀)
    (hf : K.lookup f = some ⟨oc, od, .func fd, osl⟩) (hp : (fd.params.posonlyargs ++ fd.params.args).head? = some ar) (hv : m ar.arg = some (.ref C)) (hC : clsIn K C = some cdC)
    (hcode : K.lookup cda = some ⟨ccl, cdd, .fields vs, ccs⟩) (hvs : vs[2]? = some (.str file tf)) (hfile : ((prog.main.file : Str) == file) = true)
    (hcl : cl.lookup ("__class__" : Str) = some cc) (hcell : K.lookup cc = some ⟨c1, cld, .cell (some (.ref D)), csl⟩) (hD : clsIn K D = some cdD) (hsub : mroIn K C (.ref D) = some true) (hsuper : nsIn K mainGlobals "super" = some none)
    (hat : (attr == ("__class__" : Str)) = false) (hks : scope.names.lookup ("super" : Str) = some .globalImplicit) (hkc : scope.names.lookup ("__class__" : Str) = some .free) (hka : scope.names.lookup ar.arg = some .local) (hk : scope.kind = .function)
    (htop : (prog.main.scope.names.lookup ("super" : Str)).isSome = false) (hboot : bootBuiltins "super" = some (.type "super"))
    (h : ∀ so h', Fr h₀ L h' m → News h₀ L h' ((so, { cls := .type "super", dict := none, data := .fields #[.ref D, .ref C, .ref C], slots := #[] }) :: news) → (∀ p ∈ news, p.1 < so) → Q (.ref so) { s with heap := h' }) :
    _root_.PySem.wpAt (model prog w) A (.func body (envX q scope L f (.ref cda) cl)) (attributeBase (.Call (.Name "super" p0) [] [] p1) attr (envX q scope L f (.ref cda) cl) whole) Q E s := by
  have X : K.In s.heap := X₀.keeps F.keep
  obtain ⟨hh, g, d, t, os⟩ := s
  have cls : ∀ {C : Addr} {cd : ClassData}, clsIn K C = some cd → ∃ oC, hh.get? C = some oC ∧ oC.data = .cls cd := fun {C cd} hC => by
    unfold clsIn at hC
    split at hC
    · rename_i c d cd' sl ho
      cases hC
      exact ⟨_, X _ _ ho, rfl⟩
    · cases hC
  obtain ⟨oD, hD1, hD2⟩ := cls hD
  obtain ⟨oC, hC1, hC2⟩ := cls hC
  refine ks_wpAt_super_base (env := envX q scope L f (.ref cda) cl) hks hkc hat rfl (X _ _ hf) rfl hp rfl (X _ _ hcode) rfl hvs hfile htop ?_
  refine ks_loadName_global hk hks (loadGlobal_builtin (env := envX q scope L f (.ref cda) cl) (T.g.keeps F.keep) (mg_none_of X₀ T.g hsuper) (T.b.keeps F.keep) ((T.builtins _ (by decide +kernel)).trans hboot) ⟨rfl, ?_⟩)
  refine wpAny_loadName_free hk hkc hcl ⟨_, X _ _ hcell, rfl⟩ ?_
  refine wpAny_loadName_local hk hka F.ns hv ?_
  refine ks_wpAny_isType_cls hD1 hD2 ⟨rfl, ?_⟩
  refine super_of_cls hD1 hD2 hC1 hC2 (looks_mroIn X hsub) (fun h' e k => ?_)
  obtain ⟨F', N', l'⟩ := ks_newsPush (s := ⟨hh, g, d, t, os⟩) F N rfl e k
  exact h _ _ F' N' l'
theorem kTo {h : Heap} (F' : Fr h₀ L h m) (X : K.In h₀) : K.In h := X.keeps F'.keep
theorem news_lt {h : Heap} {l : Addr} (N' : News h₀ L h news) (hz : h.objs.size ≤ l) : ∀ p ∈ news, p.1 < l := fun p hp => Nat.lt_of_lt_of_le (Heap.lt_size (N' p hp).1) hz
theorem news_ne_K {h : Heap} {t : Addr} {o oc : Obj} (N' : News h₀ L h news) (hm : (t, o) ∈ news) (X : K.In h₀) (hK : K.lookup C = some oc) : C ≠ t := fun e => by
  have z := (N' _ hm).2.2
  rw [← e, X _ _ hK] at z
  cases z
/-- where super() stands -/
def SuperAt (M : Model) (A : Around) (c : Code) (o : PySem.Expr) (attr : Str) (env : Env) (whole : Sem Value) (Q : Value → Shared → Prop) (E : Value → Shared → Prop) (s : Shared) : Prop := _root_.PySem.wpAt M A c (attributeBase o attr env whole) Q E s
theorem superAt {M : Model} {A : Around} {c : Code} {p0 p1 : Pos} {attr : Str} {env : Env} {whole : Sem Value} {Q : Value → Shared → Prop} {E : Value → Shared → Prop} {s : Shared}
    (h : SuperAt M A c (.Call (.Name "super" p0) [] [] p1) attr env whole Q E s) : _root_.PySem.wpAt M A c (attributeBase (.Call (.Name "super" p0) [] [] p1) attr env whole) Q E s := h
/-- a call of a def that closes over cells; what it sees keeps the whole heap but the ledger -/
theorem clo_code {R : Result → Shared → Prop} {name qual : Str} {params : Arguments} {body : List Stmt} {scope : Scope} {cl : List (Str × Addr)} {dV kV doc pm cdv ct oc : Value} {an od : Option Addr} {osl : Array (Option Value)} {args : Args} {binds : List (Str × Value)}
    (B : Below A₀ base outer h₀) (F : Fr h₀ L s.heap m) (X₀ : K.In h₀) (N : News h₀ L s.heap news) (T : Top p loose mean mg mb h₀) (hA : A.frames = some (env :: outer)) (hf : env.frame = some L) (hke : env.scope.kind = .function)
    (ho : K.lookup f = some ⟨oc, od, .func (fnX name qual params body scope cl dV kV doc pm an cdv ct), osl⟩) (hcd : codeIn K cdv qual = true) (hroom : A.depth < recursionLimit)
    (hbind : BindsTo s (fnX name qual params body scope cl dV kV doc pm an cdv ct) args binds) (hloc : ∀ y ∈ binds, scope.names.lookup y.1 = some .local)
    (h : ∀ g L' h₁, Fr h₀ L g m → Fr g L' h₁ (fun y => binds.reverse.lookup y) → News g L' h₁ news → Below A base (env :: outer) g → K.In g → Top p loose mean mg mb g → GSub s.heap g (news.map (·.1)) →
      _root_.PySem.wpAt (model prog w) (A.deeper (envX qual scope L' f cdv cl)) (.func body (envX qual scope L' f cdv cl)) (execs body (envX qual scope L' f cdv cl))
        (fun fl s' => LeaveK h₀ L m g R (match fl with | .ret v => v | _ => .none) s')
        (fun e s' => wpAny (model prog w) (A.deeper (envX qual scope L' f cdv cl)) (leaving (envX qual scope L' f cdv cl) e) (fun _ s'' => R (.error e) s'') (fun e' s'' => R (.error e') s'') s')
        { s with heap := h₁, toks := s.toks + binds.length })
    (hcell : ∀ x ∈ scope.names, x.2 ≠ .cell) (hco : scope.isCoroutine = false) (hgen : scope.isGenerator = false) (hk : scope.kind = .function) : codeAny (model prog w) A (.call (.ref f) args) R s := by
  obtain ⟨FG, BG, st, lv⟩ := groundX (R := R) B F N hA hf hke
  have X := X₀.keeps F.keep
  refine ks_codeAny_call_defAt (fd := fnX name qual params body scope cl dV kV doc pm an cdv ct) (body := body) (binds := binds) hroom (X _ _ ho) rfl (T.nolimit.keeps F.keep) (codeRec_of X hcd) rfl hbind hcell hloc (fun h₁ hns kp => ?_) hco hgen hk
  have F1 : Fr (hideAll s.heap (news.map (·.1))) s.heap.objs.size h₁ (fun y => binds.reverse.lookup y) := ⟨hns, fun b o e => kp b o (of_hideAll _ e), Nat.le_of_eq (hideAll_size _ _)⟩
  have N1 : News (hideAll s.heap (news.map (·.1))) s.heap.objs.size h₁ news := fun q hq => ⟨kp _ _ (N q hq).1, Nat.ne_of_lt (Heap.lt_size (N q hq).1), hideAll_none _ (List.mem_map_of_mem hq)⟩
  exact ks_wpAt_mono (h _ _ h₁ FG F1 N1 BG (X₀.keeps st) (T.keeps st) (fun b o e n => hideAll_get _ e n)) (fun fl s' hl => lv _ _ hl) fun _ _ y => y
end
end BL
end
-- part NFL
section
set_option linter.unusedVariables false
open PySem PySem.W PySem.Spec PySem.Calls PyProof.Rows
set_option maxRecDepth 100000
set_option maxHeartbeats 8000000
set_option Elab.async false
namespace BL
theorem nf_callL {w : World} {dp un : Nat} {gd : Option (List Code)} {cn : Str} {cs : Scope} {L a : Addr} {ccd : Value} {cl : List (Str × Addr)} {outer : List Env} {A₀ : Around} {base h₀ : Heap} {m : Str → Option Value} {s : Shared} {Q E : Value → Shared → Prop}
    {p : Program} {loose : List Str} {mean : ExcName → Option Value} {mg mb : Str → Option Value} (vs : List Value) (hv : vs.length = 5)
    (B : Below A₀ base outer h₀) (F : Fr h₀ L s.heap m) (X : (K w.params).In h₀) (T : Top p loose mean mg mb h₀) (hk : cs.kind = .function) (hd : dp + 5 < recursionLimit) (hu : un + 40 < cLine)
    (ret : ∀ l dx h' tk', h'.get? l = some { cls := .ref 512, dict := some dx, data := .seq vs.toArray } → s.heap.get? l = none → InElt s.heap h' → Q (.ref l) { s with heap := h', toks := tk' }) :
    wpAny (model PySem.Challenge.rw_bl0008_01.row.prog w) (ktrTop dp un gd cn cs L a ccd cl outer) (call (.ref 512) ([] ++ vs)) Q E s := by
  match vs, hv with
  | [v1, v2, v3, v4, v5], _ => exact nf_call v1 v2 v3 v4 v5 B F X T hk hd hu ret
theorem af_callL {w : World} {dp un : Nat} {gd : Option (List Code)} {cn : Str} {cs : Scope} {L a : Addr} {ccd : Value} {cl : List (Str × Addr)} {outer : List Env} {A₀ : Around} {base h₀ : Heap} {m : Str → Option Value} {s : Shared} {Q E : Value → Shared → Prop}
    {p : Program} {loose : List Str} {mean : ExcName → Option Value} {mg mb : Str → Option Value} (vs : List Value) (hv : vs.length = 7)
    (B : Below A₀ base outer h₀) (F : Fr h₀ L s.heap m) (X : (K w.params).In h₀) (T : Top p loose mean mg mb h₀) (hk : cs.kind = .function) (hd : dp + 5 < recursionLimit) (hu : un + 40 < cLine)
    (ret : ∀ l dx h' tk', h'.get? l = some { cls := .ref 693, dict := some dx, data := .seq vs.toArray } → s.heap.get? l = none → InElt s.heap h' → Q (.ref l) { s with heap := h', toks := tk' }) :
    wpAny (model PySem.Challenge.rw_bl0008_01.row.prog w) (ktrTop dp un gd cn cs L a ccd cl outer) (call (.ref 693) ([] ++ vs)) Q E s := by
  match vs, hv with
  | [v1, v2, v3, v4, v5, v6, v7], _ => exact af_call v1 v2 v3 v4 v5 v6 v7 B F X T hk hd hu ret
end BL
end
-- part VN
section
set_option linter.unusedVariables false
open PySem PySem.W PySem.Spec PySem.Calls PyProof.Rows
set_option maxRecDepth 100000
set_option maxHeartbeats 8000000
set_option Elab.async false
namespace BL
local macro_rules | `(tactic| ktr_room) => `(tactic| ((try simp only [tc_depth, tc_units, depth_under_make, depth_under_kw, depth_in1, depth_deeper, units_in1, units_deeper, Around.mark_units, depth_mark]); (try dsimp only [ktrTop]); omega))
local macro_rules | `(tactic| k_room) => `(tactic| ktr_room)
local macro_rules | `(tactic| k_enter) => `(tactic| (refine' code_defG ?ke1 ?ke2 ?ke3 ?ke4 ?ke5 ?keA ?keF ?keK ?ke6 ?ke7 ?ke8 ?ke9 ?keB ?_ ?ked2 ?ked3 ?ked4 ?ked5; (case keA => exact rfl); (case keF => exact rfl); (case keK => first | exact rfl | assumption); (case ke1 => k_asm); (case ke2 => k_asm); (case ke3 => k_asm); (case ke4 => k_asm); (case ke5 => k_asm); (case ke6 => k_is); (case ke7 => k_is); (case ke8 => ktr_room); (case ke9 => first | exact BindsTo.of_eq rfl | exact binds_K (by k_in) rfl (by k_is) rfl rfl rfl); (case ked5 => decide); (case keB => exact locs rfl); (case ked2 => exact rfl); (case ked3 => exact rfl); (case ked4 => exact rfl); intro g' L' h' FG' F' N' B' X' T' kG'; (try dsimp only); (try k_lift B'); (try k_fold)))
local macro_rules | `(tactic| k_all) => `(tactic| (k_dflt assumption))
local macro_rules | `(tactic| k_ne) => `(tactic| first | (k_dflt assumption) | (refine Ne.symm ?_; k_dflt assumption) | (refine neN ?_; (try dsimp only); omega))
local macro_rules | `(tactic| walk_at "call builtin:len") => `(tactic| (k_here; (with_reducible show wpAny _ _ (call (Value.builtin "len") [Value.ref _]) _ _ _); k_dflt (refine len_known (News.isList (by k_asm) (by k_mem)) (by assumption) (by omega) ?_)))
local macro_rules | `(tactic| walk_at "eval GeneratorExp") => `(tactic| (k_here; k_dflt ((refine' gen_ruleN ?ge1 ?ge2 ?ge3 ?ge4 ?ge5 ?ge6 ?ge7 ?ge8 ?ge9 ?gea ?geb ?gec ?ged ?gee ?gef ?geg ?geh ?gei ?gej ?gek ?gel ?gem ?gen ?geo ?_ ?gep; (case ge1 => k_asm); (case ge2 => k_asm); (case ge3 => k_asm); (case ge4 => exact rfl); (case ge5 => first | exact chd529 (by k_asm) | exact chd710 (by k_asm) | exact chd819 (by k_asm)); (case ge6 => k_updF); (case ge7 => exact True.intro); (case ge8 => exact rfl); (case ge9 => exact rfl); (case gea => assumption); (case geb => exact rfl); (case gec => exact rfl); (case ged => exact rfl); (case gee => decide); (case gef => exact rfl); (case geg => exact rfl); (case geh => exact rfl); (case gei => decide); (case gej => exact rfl); (case gek => ktr_room); (case gel => exact mg_none_of (by k_asm) (Top.g (by k_asm)) (by k_is)); (case gem => exact News.isList (by k_asm) (by k_mem)); (case gen => assumption); (case geo => (intro Q E q; k_steps; exact q)); (case gep => (intro _; rfl)))); intro a9 h9 tk9 gs9 ps9 G9 F9 N9 b9; (try dsimp only at N9); (try k_sweep)))
local macro_rules | `(tactic| walk_at "StarOf") => `(tactic| (k_here; k_dflt ((refine' star_ruleN ?sr1 ?sr2 ?sr3 ?sr4 ?sr5 ?_; (case sr1 => assumption); (case sr2 => k_asm); (case sr3 => k_asm); (case sr4 => assumption); (case sr5 => omega))); intro h9 tk9 gs9 F9 N9 b9; (try k_sweep)))
local macro_rules | `(tactic| walk_at "call ref") => `(tactic| (k_here; (with_reducible show wpAny _ _ (call (Value.ref 512) _) _ _ _); k_dflt ((refine' nf_callL _ (by assumption) ?nfl1 ?nfl2 ?nfl3 ?nfl4 ?nfl5 ?nfl6 ?nfl7 ?_; (case nfl1 => k_asm); (case nfl2 => k_asm); (case nfl3 => k_asm); (case nfl4 => k_asm); (case nfl5 => exact rfl); (case nfl6 => ktr_room); (case nfl7 => ktr_room)); intro lf dxf hf9 tkf hgf hff hkf; (have lq := news_ne (by k_asm) hff); (have Nq := news_in (by k_asm) (by k_asm) hff hgf hkf); (have Fq := Fr.keeps (by k_asm) hkf); (simp only [List.forall_mem_cons] at lq); (obtain ⟨nq1, nq2, nq3, nq4, nq5, nq6, nq7⟩ := lq)); (try k_sweep)))
local macro_rules | `(tactic| walk_at "call ref") => `(tactic| (k_here; (with_reducible show wpAny _ _ (call (Value.ref 303) _) _ _ _); k_dflt ((refine' pm_call ?nf1 ?nf2 ?nf3 ?nf4 ?nf5 ?nf6 ?nf7 ?_; (case nf1 => k_asm); (case nf2 => k_asm); (case nf3 => k_asm); (case nf4 => k_asm); (case nf5 => exact rfl); (case nf6 => ktr_room); (case nf7 => ktr_room)); intro lf of hf9 tkf hgf hff hkf; (have Nq := news_in (by k_asm) (by k_asm) (none_above hff) hgf hkf); (have lq := news_lt (by k_asm) hff); (have Fq := Fr.keeps (by k_asm) hkf); (try k_lt lq)); (try k_sweep)))
theorem vn_make {w : World} {dp un : Nat} {gd : Option (List Code)} {cn : Str} {cs : Scope} {L a : Addr} {ccd : Value} {cl : List (Str × Addr)} {outer : List Env} {A₀ : Around} {base h₀ : Heap} {m : Str → Option Value} {s : Shared} {Q E : Value → Shared → Prop}
    {p : Program} {loose : List Str} {mean : ExcName → Option Value} {mg mb : Str → Option Value} (lf : Addr) (fvs : List Value) (ys : List Str)
    (B : Below A₀ base outer h₀) (F : Fr h₀ L s.heap m) (X : (K w.params).In h₀) (T : Top p loose mean mg mb h₀) (hk : cs.kind = .function) (hd : dp + 60 < recursionLimit) (hu : un + 400 < cLine)
    (N : News h₀ L s.heap [(lf, LCg.lst fvs), (525, tabObj #[]), (706, tabObj #[]), (815, tabObj #[])]) (n1 : lf ≠ 525) (n2 : lf ≠ 706) (n3 : lf ≠ 815) (hS : StrsAre fvs ys) (h5 : fvs.length = 5) (hb : AllBare s.gens)
    (ret : ∀ x dx e1 e2 n fx dfx px opx ps h' tk gs, Fr h₀ L h' m → News h₀ L h' [(px, opx), (fx, { cls := .ref 512, dict := some dfx, data := .seq fvs.toArray }), (x, instObj 563 dx), (dx, dictOf [⟨PyData.keyHash w.params (S "fields"), .str (S "fields") e1, .ref fx⟩, ⟨PyData.keyHash w.params (S "params"), .str (S "params") e2, .ref px⟩] n), (lf, LCg.lst fvs), (525, tabObj ps), (706, tabObj #[]), (815, tabObj #[])] → AllBare gs → Q (.ref x) ⟨h', gs, s.drawn, tk, s.os⟩) :
    wpAny (model PySem.Challenge.rw_bl0008_01.row.prog w) (ktrTop dp un gd cn cs L a ccd cl outer) (call (.ref 563) [.ref lf]) Q E s := by
  revert X
  w_top off
  k_fill
  intro X
  have h5' : (fvs.toArray.size : Int) = 5 := by rw [List.size_toArray, h5]; rfl
  k_steps
  rename Fr h₀ L _ _ => F9
  rename News h₀ L _ _ => N9
  exact ret _ _ _ _ _ _ _ _ _ _ _ _ _ F9 N9 (by assumption)
end BL
namespace BL
end BL
end
-- part VA
section
set_option linter.unusedVariables false
open PySem PySem.W PySem.Spec PySem.Calls PyProof.Rows
set_option maxRecDepth 100000
set_option maxHeartbeats 8000000
set_option Elab.async false
namespace BL
local macro_rules | `(tactic| ktr_room) => `(tactic| ((try simp only [tc_depth, tc_units, depth_under_make, depth_under_kw, depth_in1, depth_deeper, units_in1, units_deeper, Around.mark_units, depth_mark]); (try dsimp only [ktrTop]); omega))
local macro_rules | `(tactic| k_room) => `(tactic| ktr_room)
local macro_rules | `(tactic| k_enter) => `(tactic| (refine' code_defG ?ke1 ?ke2 ?ke3 ?ke4 ?ke5 ?keA ?keF ?keK ?ke6 ?ke7 ?ke8 ?ke9 ?keB ?_ ?ked2 ?ked3 ?ked4 ?ked5; (case keA => exact rfl); (case keF => exact rfl); (case keK => first | exact rfl | assumption); (case ke1 => k_asm); (case ke2 => k_asm); (case ke3 => k_asm); (case ke4 => k_asm); (case ke5 => k_asm); (case ke6 => k_is); (case ke7 => k_is); (case ke8 => ktr_room); (case ke9 => first | exact BindsTo.of_eq rfl | exact binds_K (by k_in) rfl (by k_is) rfl rfl rfl); (case ked5 => decide); (case keB => exact locs rfl); (case ked2 => exact rfl); (case ked3 => exact rfl); (case ked4 => exact rfl); intro g' L' h' FG' F' N' B' X' T' kG'; (try dsimp only); (try k_lift B'); (try k_fold)))
local macro_rules | `(tactic| k_all) => `(tactic| (k_dflt assumption))
local macro_rules | `(tactic| k_ne) => `(tactic| first | (k_dflt assumption) | (refine Ne.symm ?_; k_dflt assumption) | (refine neN ?_; (try dsimp only); omega))
local macro_rules | `(tactic| walk_at "pad 0") => `(tactic| fail)
local macro_rules | `(tactic| walk_at "pad 1") => `(tactic| fail)
local macro_rules | `(tactic| walk_at "pad 2") => `(tactic| fail)
local macro_rules | `(tactic| walk_at "pad 3") => `(tactic| fail)
local macro_rules | `(tactic| walk_at "pad 4") => `(tactic| fail)
local macro_rules | `(tactic| walk_at "call builtin:len") => `(tactic| (k_here; (with_reducible show wpAny _ _ (call (Value.builtin "len") [Value.ref _]) _ _ _); k_dflt (refine len_known (News.isList (by k_asm) (by k_mem)) (by assumption) (by omega) ?_)))
local macro_rules | `(tactic| walk_at "eval GeneratorExp") => `(tactic| (k_here; k_dflt ((refine' gen_ruleN ?ge1 ?ge2 ?ge3 ?ge4 ?ge5 ?ge6 ?ge7 ?ge8 ?ge9 ?gea ?geb ?gec ?ged ?gee ?gef ?geg ?geh ?gei ?gej ?gek ?gel ?gem ?gen ?geo ?_ ?gep; (case ge1 => k_asm); (case ge2 => k_asm); (case ge3 => k_asm); (case ge4 => exact rfl); (case ge5 => first | exact chd529 (by k_asm) | exact chd710 (by k_asm) | exact chd819 (by k_asm)); (case ge6 => k_updF); (case ge7 => exact True.intro); (case ge8 => exact rfl); (case ge9 => exact rfl); (case gea => assumption); (case geb => exact rfl); (case gec => exact rfl); (case ged => exact rfl); (case gee => decide); (case gef => exact rfl); (case geg => exact rfl); (case geh => exact rfl); (case gei => decide); (case gej => exact rfl); (case gek => ktr_room); (case gel => exact mg_none_of (by k_asm) (Top.g (by k_asm)) (by k_is)); (case gem => exact News.isList (by k_asm) (by k_mem)); (case gen => assumption); (case geo => (intro Q E q; k_steps; exact q)); (case gep => (intro _; rfl)))); intro a9 h9 tk9 gs9 ps9 G9 F9 N9 b9; (try dsimp only at N9); (try k_sweep)))
local macro_rules | `(tactic| walk_at "StarOf") => `(tactic| (k_here; k_dflt ((refine' star_ruleN ?sr1 ?sr2 ?sr3 ?sr4 ?sr5 ?_; (case sr1 => assumption); (case sr2 => k_asm); (case sr3 => k_asm); (case sr4 => assumption); (case sr5 => omega))); intro h9 tk9 gs9 F9 N9 b9; (try k_sweep)))
local macro_rules | `(tactic| walk_at "call ref") => `(tactic| (k_here; (with_reducible show wpAny _ _ (call (Value.ref 693) _) _ _ _); k_dflt ((refine' af_callL _ (by assumption) ?afl1 ?afl2 ?afl3 ?afl4 ?afl5 ?afl6 ?afl7 ?_; (case afl1 => k_asm); (case afl2 => k_asm); (case afl3 => k_asm); (case afl4 => k_asm); (case afl5 => exact rfl); (case afl6 => ktr_room); (case afl7 => ktr_room)); intro lf dxf hf9 tkf hgf hff hkf; (have lq := news_ne (by k_asm) hff); (have Nq := news_in (by k_asm) (by k_asm) hff hgf hkf); (have Fq := Fr.keeps (by k_asm) hkf); (simp only [List.forall_mem_cons] at lq); (obtain ⟨nq1, nq2, nq3, nq4, nq5, nq6, nq7⟩ := lq)); (try k_sweep)))
local macro_rules | `(tactic| walk_at "call ref") => `(tactic| (k_here; (with_reducible show wpAny _ _ (call (Value.ref 303) _) _ _ _); k_dflt ((refine' pm_call ?nf1 ?nf2 ?nf3 ?nf4 ?nf5 ?nf6 ?nf7 ?_; (case nf1 => k_asm); (case nf2 => k_asm); (case nf3 => k_asm); (case nf4 => k_asm); (case nf5 => exact rfl); (case nf6 => ktr_room); (case nf7 => ktr_room)); intro lf of hf9 tkf hgf hff hkf; (have Nq := news_in (by k_asm) (by k_asm) (none_above hff) hgf hkf); (have lq := news_lt (by k_asm) hff); (have Fq := Fr.keeps (by k_asm) hkf); (try k_lt lq)); (try k_sweep)))
theorem va_make {w : World} {dp un : Nat} {gd : Option (List Code)} {cn : Str} {cs : Scope} {L a : Addr} {ccd : Value} {cl : List (Str × Addr)} {outer : List Env} {A₀ : Around} {base h₀ : Heap} {m : Str → Option Value} {s : Shared} {Q E : Value → Shared → Prop}
    {p : Program} {loose : List Str} {mean : ExcName → Option Value} {mg mb : Str → Option Value} (lf : Addr) (fvs : List Value) (ys : List Str)
    (B : Below A₀ base outer h₀) (F : Fr h₀ L s.heap m) (X : (K w.params).In h₀) (T : Top p loose mean mg mb h₀) (hk : cs.kind = .function) (hd : dp + 60 < recursionLimit) (hu : un + 400 < cLine)
    (N : News h₀ L s.heap [(lf, LCg.lst fvs), (525, tabObj #[]), (706, tabObj #[]), (815, tabObj #[])]) (n1 : lf ≠ 525) (n2 : lf ≠ 706) (n3 : lf ≠ 815) (hS : StrsAre fvs ys) (h5 : fvs.length = 7) (hb : AllBare s.gens)
    (ret : ∀ x dx e1 e2 n fx dfx px opx ps h' tk gs, Fr h₀ L h' m → News h₀ L h' [(px, opx), (fx, { cls := .ref 693, dict := some dfx, data := .seq fvs.toArray }), (x, instObj 744 dx), (dx, dictOf [⟨PyData.keyHash w.params (S "fields"), .str (S "fields") e1, .ref fx⟩, ⟨PyData.keyHash w.params (S "params"), .str (S "params") e2, .ref px⟩] n), (lf, LCg.lst fvs), (525, tabObj #[]), (706, tabObj ps), (815, tabObj #[])] → AllBare gs → Q (.ref x) ⟨h', gs, s.drawn, tk, s.os⟩) :
    wpAny (model PySem.Challenge.rw_bl0008_01.row.prog w) (ktrTop dp un gd cn cs L a ccd cl outer) (call (.ref 744) [.ref lf]) Q E s := by
  revert X
  w_top off
  k_fill
  intro X
  have h5' : (fvs.toArray.size : Int) = 7 := by rw [List.size_toArray, h5]; rfl
  k_steps
  rename Fr h₀ L _ _ => F9
  rename News h₀ L _ _ => N9
  exact ret _ _ _ _ _ _ _ _ _ _ _ _ _ F9 N9 (by assumption)
end BL
namespace BL
end BL
end
-- part VO
section
set_option linter.unusedVariables false
open PySem PySem.W PySem.Spec PySem.Calls PyProof.Rows
set_option maxRecDepth 100000
set_option maxHeartbeats 8000000
set_option Elab.async false
namespace BL
local macro_rules | `(tactic| ktr_room) => `(tactic| ((try simp only [tc_depth, tc_units, depth_under_make, depth_under_kw, depth_in1, depth_deeper, units_in1, units_deeper, Around.mark_units, depth_mark]); (try dsimp only [ktrTop]); omega))
local macro_rules | `(tactic| k_room) => `(tactic| ktr_room)
local macro_rules | `(tactic| k_enter) => `(tactic| (refine' code_defG ?ke1 ?ke2 ?ke3 ?ke4 ?ke5 ?keA ?keF ?keK ?ke6 ?ke7 ?ke8 ?ke9 ?keB ?_ ?ked2 ?ked3 ?ked4 ?ked5; (case keA => exact rfl); (case keF => exact rfl); (case keK => first | exact rfl | assumption); (case ke1 => k_asm); (case ke2 => k_asm); (case ke3 => k_asm); (case ke4 => k_asm); (case ke5 => k_asm); (case ke6 => k_is); (case ke7 => k_is); (case ke8 => ktr_room); (case ke9 => first | exact BindsTo.of_eq rfl | exact binds_K (by k_in) rfl (by k_is) rfl rfl rfl); (case ked5 => decide); (case keB => exact locs rfl); (case ked2 => exact rfl); (case ked3 => exact rfl); (case ked4 => exact rfl); intro g' L' h' FG' F' N' B' X' T' kG'; (try dsimp only); (try k_lift B'); (try k_fold)))
local macro_rules | `(tactic| k_all) => `(tactic| (k_dflt assumption))
local macro_rules | `(tactic| k_ne) => `(tactic| first | (k_dflt assumption) | (refine Ne.symm ?_; k_dflt assumption) | (refine neN ?_; (try dsimp only); omega))
local macro_rules | `(tactic| walk_at "call builtin:len") => `(tactic| (k_here; (with_reducible show wpAny _ _ (call (Value.builtin "len") [Value.ref _]) _ _ _); k_dflt (refine len_known (News.isList (by k_asm) (by k_mem)) (by assumption) (by omega) ?_)))
local macro_rules | `(tactic| walk_at "eval GeneratorExp") => `(tactic| (k_here; k_dflt ((refine' gen_ruleN ?ge1 ?ge2 ?ge3 ?ge4 ?ge5 ?ge6 ?ge7 ?ge8 ?ge9 ?gea ?geb ?gec ?ged ?gee ?gef ?geg ?geh ?gei ?gej ?gek ?gel ?gem ?gen ?geo ?_ ?gep; (case ge1 => k_asm); (case ge2 => k_asm); (case ge3 => k_asm); (case ge4 => exact rfl); (case ge5 => first | exact chd529 (by k_asm) | exact chd710 (by k_asm) | exact chd819 (by k_asm)); (case ge6 => k_updF); (case ge7 => exact True.intro); (case ge8 => exact rfl); (case ge9 => exact rfl); (case gea => assumption); (case geb => exact rfl); (case gec => exact rfl); (case ged => exact rfl); (case gee => decide); (case gef => exact rfl); (case geg => exact rfl); (case geh => exact rfl); (case gei => decide); (case gej => exact rfl); (case gek => ktr_room); (case gel => exact mg_none_of (by k_asm) (Top.g (by k_asm)) (by k_is)); (case gem => exact News.isList (by k_asm) (by k_mem)); (case gen => assumption); (case geo => (intro Q E q; k_steps; exact q)); (case gep => (intro _; rfl)))); intro a9 h9 tk9 gs9 ps9 G9 F9 N9 b9; (try dsimp only at N9); (try k_sweep)))
local macro_rules | `(tactic| walk_at "call type:tuple") => `(tactic| (k_here; k_dflt ((refine' tuple_ruleN ?tr1 ?tr2 ?tr3 ?tr4 ?tr5 ?_; (case tr1 => assumption); (case tr2 => k_asm); (case tr3 => k_asm); (case tr4 => assumption); (case tr5 => omega))); intro t9 h9 tk9 gs9 F9 N9 l9 b9; (try k_lt l9); (try k_sweep)))
local macro_rules | `(tactic| walk_at "call ref") => `(tactic| (k_here; (with_reducible show wpAny _ _ (call (Value.ref 303) _) _ _ _); k_dflt ((refine' pm_call ?nf1 ?nf2 ?nf3 ?nf4 ?nf5 ?nf6 ?nf7 ?_; (case nf1 => k_asm); (case nf2 => k_asm); (case nf3 => k_asm); (case nf4 => k_asm); (case nf5 => exact rfl); (case nf6 => ktr_room); (case nf7 => ktr_room)); intro lf of hf9 tkf hgf hff hkf; (have Nq := news_in (by k_asm) (by k_asm) (none_above hff) hgf hkf); (have lq := news_lt (by k_asm) hff); (have Fq := Fr.keeps (by k_asm) hkf); (try k_lt lq)); (try k_sweep)))
theorem vo_make {w : World} {dp un : Nat} {gd : Option (List Code)} {cn : Str} {cs : Scope} {L a : Addr} {ccd : Value} {cl : List (Str × Addr)} {outer : List Env} {A₀ : Around} {base h₀ : Heap} {m : Str → Option Value} {s : Shared} {Q E : Value → Shared → Prop}
    {p : Program} {loose : List Str} {mean : ExcName → Option Value} {mg mb : Str → Option Value} (lf : Addr) (fvs : List Value) (ys : List Str)
    (B : Below A₀ base outer h₀) (F : Fr h₀ L s.heap m) (X : (K w.params).In h₀) (T : Top p loose mean mg mb h₀) (hk : cs.kind = .function) (hd : dp + 60 < recursionLimit) (hu : un + 400 < cLine)
    (N : News h₀ L s.heap [(lf, LCg.lst fvs), (525, tabObj #[]), (706, tabObj #[]), (815, tabObj #[])]) (n1 : lf ≠ 525) (n2 : lf ≠ 706) (n3 : lf ≠ 815) (hS : StrsAre fvs ys) (h5 : 1 ≤ fvs.length) (h6 : fvs.length ≤ 3) (hb : AllBare s.gens)
    (ret : ∀ x dx e1 e2 n fx px opx ps h' tk gs, Fr h₀ L h' m → News h₀ L h' [(px, opx), (fx, { cls := .type "tuple", data := .seq fvs.toArray }), (x, instObj 869 dx), (dx, dictOf [⟨PyData.keyHash w.params (S "fields"), .str (S "fields") e1, .ref fx⟩, ⟨PyData.keyHash w.params (S "params"), .str (S "params") e2, .ref px⟩] n), (lf, LCg.lst fvs), (525, tabObj #[]), (706, tabObj #[]), (815, tabObj ps)] → AllBare gs → Q (.ref x) ⟨h', gs, s.drawn, tk, s.os⟩) :
    wpAny (model PySem.Challenge.rw_bl0008_01.row.prog w) (ktrTop dp un gd cn cs L a ccd cl outer) (call (.ref 869) [.ref lf]) Q E s := by
  revert X
  w_top off
  k_fill
  intro X
  have hkk : fvs.length = fvs.length := rfl
  k_steps
  rename Fr h₀ L _ _ => F9
  rename News h₀ L _ _ => N9
  exact ret _ _ _ _ _ _ _ _ _ _ _ _ F9 N9 (by assumption)
end BL
namespace BL
end BL
end
-- part HasL
section
set_option linter.unusedVariables false
set_option linter.unusedSimpArgs false
open PySem PySem.W PySem.Spec PySem.Calls PyProof.Rows Builtin
set_option maxRecDepth 100000
set_option maxHeartbeats 4000000
namespace BL
theorem slot_wdget : Slot "wrapper_descriptor" "__get__" "wrapper_descriptor.__get__" := .of (owner := "wrapper_descriptor") (n := "__get__") (by rw [typeLookup_type, builtinLookup_eq_fast]; kernel_rfl) (by decide +kernel) (by decide +kernel) (by decide +kernel)
  (by first | exact .inl (by decide +kernel) | exact .inr (by decide +kernel)) (by rw [isSubtype_type]; kernel_rfl)
theorem entry_wdget : entryFor table "wrapper_descriptor.__get__" = some Builtin.«wrapper_descriptor.__get__» := entryFor_of_tree (by kernel_rfl)
theorem args_wdget (a b c : Value) : argsOk "wrapper_descriptor.__get__" ⟨[a, b, c], []⟩ := by unfold argsOk; kernel_rfl
theorem wd_kind : builtinKind "wrapper_descriptor.__get__" = some .slot := by decide +kernel
theorem wd_split : splitId "wrapper_descriptor.__get__" = some ("wrapper_descriptor", "__get__") := by decide +kernel
section
variable {prog : Program} {w : World} {A : Around} {E : Value → Shared → Prop} {s : Shared}
theorem has_list {d : Addr} {tk : Tok} {Q : Value → Shared → Prop} {es : Array Value} {n : Nat} {sl : Array (Option Value)} (ho : s.heap.get? d = some ⟨.type "list", none, .seq es n, sl⟩)
    (h : ∀ H tk', (∀ b o, s.heap.get? b = some o → H.get? b = some o) → Q (.bool true) { s with heap := H, toks := tk' }) :
    wpAny (model prog w) A (PySem.call (.builtin "hasattr") [.ref d, .str (Str.ofString "__iter__") tk]) Q E s := by
  obtain ⟨hh, g, dr, t, os⟩ := s
  have ty : Looks (model prog w) hh (typeOf (.ref d)) (.type "list") := (Looks.ld ho).andThen .now
  have l1 : Looks (model prog w) hh (typeLookup (.type "list") (Str.ofString "__iter__")) (some (.builtin "list.__iter__")) := .of_pure PySem.F.slot_list_iter.lookup
  have l2 : Looks (model prog w) hh (typeLookup (.type "list") (Str.ofString "__getattribute__")) (some (.builtin "list.__getattribute__")) := .of_pure PySem.F.slot_list_getattribute.lookup
  have l3 : Looks (model prog w) hh (isSubtype (.type "list") (.type "module")) false := .of_pure (by rw [isSubtype_type]; kernel_rfl)
  refine wpAny_call (codeAny_call_builtin plain_hasattr entry_hasattr ?_)
  rw [check_hasattr]
  refine wpAny_pure ?_
  unfold Builtin.«hasattr»
  repeat (first | simp only [Bool.false_eq_true, if_false] | ((fail_if_success (with_reducible show wpAny _ _ (getAttrBy? _ _) _ _ _)); lk))
  unfold getAttrBy? getAttrBy
  have hT : (⟨hh, g, dr, t, os⟩ : Shared).TypeIs (.ref d) "list" := ⟨_, ho, rfl⟩
  refine wpAny_bind (wpAny_attempt (wpAny_holding (wpAny_bind (ty.at (wpAny_bind (l2.at ?_))))))
  show wpAny _ _ (getAttrByItsOwn (.ref d) (.str (Str.ofString "__iter__") tk) (.type "list") (.builtin "list.__getattribute__") false false) _ _ _
  unfold getAttrByItsOwn hookBefore callGetattribute boundAndCalled
  refine wpAny_bind (wpAny_of_eq (show (if onTheHeap (.type "list") then typeLookup (.type "list") "__getattr__" else pure none) = pure none from rfl) ?_)
  refine wpAny_bind (wpAny_attempt (wpAny_holding ?_))
  show wpAny _ _ (bindSpecial (.builtin "list.__getattribute__") (.ref d) >>= _) _ _ _
  refine wpAny_bind (wpAny_of_eq (PySem.F.slot_list_getattribute.bind _) ?_)
  refine wpAny_mono (Q := fun v s' => v = .ref hh.objs.size ∧ ∃ H, (∀ b o, hh.get? b = some o → H.get? b = some o) ∧ s' = ⟨H, g, dr, t, os⟩) (E := fun _ _ => False) (wpAny_call_entry PySem.F.slot_list_getattribute hT PySem.F.entry_list_ga ?_ (PySem.F.args_list_getattribute_2 _ _)) (fun v s' hv => ?_) fun _ _ z => z.elim
  · unfold Builtin.«object.__getattribute__»
    have L5 : Looks (model prog w) hh (typeOf (.builtin "list.__iter__")) (.type "wrapper_descriptor") := .of_pure (show typeOf (.builtin "list.__iter__") = pure (.type "wrapper_descriptor") by show builtinType _ = _; rw [builtinType_eq_fast]; kernel_rfl)
    have L6 : Looks (model prog w) hh (typeLookup (.type "wrapper_descriptor") (Str.ofString "__get__")) (some (.builtin "wrapper_descriptor.__get__")) := .of_pure (by rw [typeLookup_type, builtinLookup_eq_fast]; kernel_rfl)
    repeat (first | simp only [Bool.false_eq_true, if_false] | ((fail_if_success (with_reducible show wpAny _ _ (PySem.call _ _ _) _ _ _)); lk))
    have in6 : Looks (model prog w) hh (isInstance (.builtin "list.__iter__") (.type "wrapper_descriptor")) true := L5.andThen (Looks.of_pure (by rw [isSubtype_type]; kernel_rfl))
    have in7 : Looks (model prog w) hh (isSubtype (.type "list") (.type "list")) true := Looks.of_pure (by rw [isSubtype_type]; kernel_rfl)
    refine wpAny_call (codeAny_call_builtin slot_wdget.plain entry_wdget (@check_slot (model prog w) _ _ _ "wrapper_descriptor.__get__" "wrapper_descriptor" "__get__" (.builtin "list.__iter__") [.ref d, .type "list"] [] _ wd_kind wd_split in6 (args_wdget _ _ _) ?_))
    unfold Builtin.«wrapper_descriptor.__get__»
    repeat (first | simp only [Bool.false_eq_true, if_false] | lk)
    exact ⟨_, rfl, rfl, _, fun b o e => Heap.get?_push_of_some _ e, rfl⟩
  · obtain ⟨rfl, H, k, rfl⟩ := hv
    exact wpAny_pure (wpAny_pure (wpAny_pure (h H _ k)))
end
end BL
end
-- part HasI
section
set_option linter.unusedVariables false
set_option linter.unusedSimpArgs false
open PySem PySem.W PySem.Spec PySem.Calls PyProof.Rows Builtin
set_option maxRecDepth 100000
set_option maxHeartbeats 4000000
namespace BL
section
variable {prog : Program} {w : World} {A : Around} {E : Value → Shared → Prop} {s : Shared} {K : Frag} {x C f L : Addr} {ox : Obj} {name : PySem.Str} {h₀ : Heap} {m : PySem.Str → Option Value} {news : List (Addr × Obj)} {oD : Obj} {Q : Value → Shared → Prop} {t : Tok}
/-- an obj has a method of its class -/
theorem has_meth (F : Fr h₀ L s.heap m) (X₀ : K.In h₀) (N : News h₀ L s.heap news) (I : InstAt s.heap x ox C (some oD)) (hg : plainGet K C name = true) (hfo : ∀ od, findObj K C od name = some (.bind (.builtin "function.__get__") (.ref f))) (hf : isFn K (.ref f) = true) (hmod : mroIn K C (.type "module") = some false)
    (h : ∀ h', Fr h₀ L h' m → News h₀ L h' news → Q (.bool true) { s with heap := h' }) : wpAny (model prog w) A (PySem.call (.builtin "hasattr") [.ref x, .str name t]) Q E s := by
  obtain ⟨hp, g, dr, tk, os⟩ := s
  have ty : Looks (model prog w) hp (typeOf (.ref x)) (.ref C) := I.type
  have l3 : Looks (model prog w) hp (isSubtype (.ref C) (.type "module")) false := looks_mroIn (X₀.keeps F.keep) hmod
  refine wpAny_call (codeAny_call_builtin plain_hasattr entry_hasattr ?_)
  rw [check_hasattr]
  refine wpAny_pure ?_
  unfold Builtin.«hasattr»
  repeat (first | simp only [Bool.false_eq_true, if_false] | ((fail_if_success (with_reducible show wpAny _ _ (getAttrBy? _ _) _ _ _)); lk))
  unfold getAttrBy? getAttrBy
  have L1 : Looks (model prog w) hp (typeLookup (.ref C) "__getattribute__") (some (.builtin "object.__getattribute__")) := looks_findIn (X₀.keeps F.keep) (plainGet_of hg).1
  refine wpAny_bind (wpAny_attempt (wpAny_holding (wpAny_bind (ty.at (wpAny_bind (L1.at ?_))))))
  show wpAny _ _ (getAttrEveryday _ _ _) _ _ _
  have L4 := looks_find (M := model prog w) (X₀.keeps F.keep) I (hfo _)
  have L2 : Looks (model prog w) hp (typeLookup (.ref C) "__getattr__") none := looks_findIn (X₀.keeps F.keep) (plainGet_of hg).2
  refine wpAny_bind (wpAny_onRaise (wpAny_runValue (codeAny_builtin PySem.F.plainObj_entry_getattr_hooked ?_)))
  refine wpAny_bind (wpAny_pure (wpAny_bind (ty.at (wpAny_bind (L4.at (wpAny_bind (L2.at ?_)))))))
  show wpAny _ _ (holding [.ref f] (PySem.call (.builtin "function.__get__") [.ref f, .ref x, .ref C]) >>= ret) _ _ _
  refine wpAny_bind (wpAny_holding (wpAny_call (fn_get (s := ⟨hp, g, dr, tk, os⟩) (X₀.keeps F.keep) (beq_iff_eq.mp hf) ?_)))
  refine wpAny_pure ?_
  refine handed_on rfl ?_
  refine wpAny_pure ?_
  exact wpAny_pure (h _ (F.push _) (N.grown fun _ _ e => Heap.get?_push_of_some _ e))
end
end BL
end
-- part VCp
section
set_option linter.unusedVariables false
open PySem PySem.W PySem.Spec PySem.Calls PyProof.Rows
set_option maxRecDepth 100000
set_option maxHeartbeats 8000000
set_option Elab.async false
namespace BL
/-- texts of the class vText, laid down one by one -/
inductive CX (d : Addr) : List Value → List (Addr × Obj) → List (List Nat) → Prop
  | nil : CX d [] [] []
  | snoc {rs ts css} (l dx : Addr) (t1 : Tok) (sl : Array (Option Value)) (cs : List Nat) : CX d rs ts css → l ≠ d → dx ≠ d → CX d (rs ++ [.ref l]) ((l, ⟨.ref 387, some dx, .prim (.str (ofL cs) t1), sl⟩) :: (dx, emptyDict) :: ts) (css ++ [cs])
theorem CX.off {d : Addr} {rs ts css} (h : CX d rs ts css) : ∀ p ∈ ts, p.1 ≠ d := by
  induction h with
  | nil => intro p hp; cases hp
  | snoc l dx t1 sl cs _ h1 h2 ih =>
    intro p hp
    rcases List.mem_cons.mp hp with rfl | hp
    · exact h1
    · rcases List.mem_cons.mp hp with rfl | hp
      · exact h2
      · exact ih p hp
theorem CX.len {d : Addr} {rs ts css} (h : CX d rs ts css) : rs.length = css.length := by
  induction h with
  | nil => rfl
  | snoc => simp; assumption
theorem CX.at {d : Addr} {rs ts css} (h : CX d rs ts css) : ∀ {i : Nat} {v : Value}, rs[i]? = some v → ∃ l dx t1 sl cs, v = .ref l ∧ (l, (⟨.ref 387, some dx, .prim (.str (ofL cs) t1), sl⟩ : Obj)) ∈ ts ∧ (dx, emptyDict) ∈ ts ∧ css[i]? = some cs := by
  induction h with
  | nil => intro i v hv; simp at hv
  | @snoc rs ts css l dx t1 sl cs hT _ _ ih =>
    intro i v hv
    have hlen := hT.len
    by_cases hi : i < rs.length
    · rw [List.getElem?_append_left hi] at hv
      obtain ⟨l', dx', t', sl', cs', e1, e2, e3, e4⟩ := ih hv
      exact ⟨l', dx', t', sl', cs', e1, .tail _ (.tail _ e2), .tail _ (.tail _ e3), by rw [List.getElem?_append_left (by omega)]; exact e4⟩
    · rw [List.getElem?_append_right (by omega)] at hv
      have hi2 : i - rs.length = 0 := by
        by_cases h0 : i - rs.length = 0
        · exact h0
        · rw [List.getElem?_eq_none (by simp; omega)] at hv; cases hv
      rw [hi2] at hv
      simp at hv
      subst hv
      exact ⟨l, dx, t1, sl, cs, rfl, .head _, .tail _ (.head _), by rw [List.getElem?_append_right (by omega), show i - css.length = 0 by omega]; rfl⟩
theorem mem_mid2 {q r : Addr × Obj} {ts : List (Addr × Obj)} : ∀ (pre : List (Addr × Obj)), ∀ p ∈ pre ++ q :: r :: ts, p ∈ q :: r :: (pre ++ ts) := by
  intro pre p hp
  rcases List.mem_append.mp hp with hp | hp
  · exact .tail _ (.tail _ (List.mem_append_left _ hp))
  · rcases List.mem_cons.mp hp with rfl | hp
    · exact .head _
    · rcases List.mem_cons.mp hp with rfl | hp
      · exact .tail _ (.head _)
      · exact .tail _ (.tail _ (List.mem_append_right _ hp))
theorem off_mid2 {q r : Addr × Obj} {ts : List (Addr × Obj)} {P : Addr → Prop} (pre : List (Addr × Obj)) (h : ∀ p ∈ pre ++ ts, P p.1) (hq : P q.1) (hr : P r.1) : ∀ p ∈ pre ++ q :: r :: ts, P p.1 := by
  intro p hp
  rcases List.mem_cons.mp (mem_mid2 pre p hp) with rfl | hp
  · exact hq
  · rcases List.mem_cons.mp hp with rfl | hp
    · exact hr
    · exact h p hp
theorem has_listN {prog : Program} {w : World} {A : Around} {E : Value → Shared → Prop} {s : Shared} {h₀ : Heap} {L d : Addr} {m : Str → Option Value} {news : List (Addr × Obj)} {tk : Tok} {Q : Value → Shared → Prop} {es : Array Value} {n : Nat} {sl : Array (Option Value)} (F : Fr h₀ L s.heap m) (N : News h₀ L s.heap news) (hm : (d, (⟨.type "list", none, .seq es n, sl⟩ : Obj)) ∈ news)
    (h : ∀ H tk', Fr h₀ L H m → News h₀ L H news → Q (.bool true) { s with heap := H, toks := tk' }) :
    wpAny (model prog w) A (PySem.call (.builtin "hasattr") [.ref d, .str (Str.ofString "__iter__") tk]) Q E s := has_list (N _ hm).1 fun H tk' k => h H tk' (F.keeps k) (N.grown k)
end BL
end
-- part V1
section
set_option linter.unusedVariables false
open PySem PySem.W PySem.Spec PySem.Calls PyProof.Rows
set_option maxRecDepth 100000
set_option maxHeartbeats 8000000
set_option Elab.async false
namespace BL
local macro_rules | `(tactic| ktr_room) => `(tactic| ((try simp only [tc_depth, tc_units, depth_under_make, depth_under_kw, depth_in1, depth_deeper, units_in1, units_deeper, Around.mark_units, depth_mark]); (try dsimp only [ktrTop]); omega))
local macro_rules | `(tactic| k_room) => `(tactic| ktr_room)
local macro_rules | `(tactic| k_enter) => `(tactic| (refine' code_defG ?ke1 ?ke2 ?ke3 ?ke4 ?ke5 ?keA ?keF ?keK ?ke6 ?ke7 ?ke8 ?ke9 ?keB ?_ ?ked2 ?ked3 ?ked4 ?ked5; (case keA => exact rfl); (case keF => exact rfl); (case keK => first | exact rfl | assumption); (case ke1 => k_asm); (case ke2 => k_asm); (case ke3 => k_asm); (case ke4 => k_asm); (case ke5 => k_asm); (case ke6 => k_is); (case ke7 => k_is); (case ke8 => ktr_room); (case ke9 => first | exact BindsTo.of_eq rfl | exact binds_K (by k_in) rfl (by k_is) rfl rfl rfl); (case ked5 => decide); (case keB => exact locs rfl); (case ked2 => exact rfl); (case ked3 => exact rfl); (case ked4 => exact rfl); intro g' L' h' FG' F' N' B' X' T' kG'; (try dsimp only); (try k_lift B'); (try k_fold)))
local macro_rules | `(tactic| ktr_unf) => `(tactic| repeat' (first | (k_unfold; (try dsimp only)) | (k_end; wrow_close) | ((fail_if_success (with_reducible show wpAny _ _ _ _ _ _)); dsimp only; walk1) | ((fail_if_success (with_reducible show wpAny _ _ (PySem.call (.ref 358) _) _ _ _)); (first | walk1 | (dsimp only; walk1))) | fail "no step"))
local macro_rules | `(tactic| walk_at "pad 0") => `(tactic| fail)
local macro_rules | `(tactic| walk_at "pad 1") => `(tactic| fail)
local macro_rules | `(tactic| walk_at "pad 2") => `(tactic| fail)
local macro_rules | `(tactic| walk_at "pad 3") => `(tactic| fail)
local macro_rules | `(tactic| walk_at "pad 4") => `(tactic| fail)
local macro_rules | `(tactic| walk_at "wpAt") => `(tactic| k_dflt (refine ks_wpAt_Assign_Name (ks_wpAt_MethodCall (superAt ?_))))
local macro_rules | `(tactic| walk_at "call builtin:str.__new__") => `(tactic| (k_here; k_dflt (refine' str_new_sub ?tn1 ?tn2 (vt_own ?tn5) (vt_ty ?tn5) (vt_chk ?tn5) ?tn4 ?_; (case tn1 => k_asm); (case tn2 => k_asm); (case tn4 => assumption); (case tn5 => exact kTo (by k_asm) (by k_asm))); intro x9 dx9 h9 t9 tk9 F9 N9 l9 l8; (have l7 := Nat.lt_of_lt_of_le l8 (Nat.le_refl _)); (try k_lt l9); (try k_sweep)))
local macro_rules | `(tactic| walk_at "call ref") => `(tactic| (k_here; (with_reducible show wpAny _ _ (call (Value.ref 303) _) _ _ _); k_dflt ((refine' pm_call ?nf1 ?nf2 ?nf3 ?nf4 ?nf5 ?nf6 ?nf7 ?_; (case nf1 => k_asm); (case nf2 => k_asm); (case nf3 => k_asm); (case nf4 => k_asm); (case nf5 => exact rfl); (case nf6 => ktr_room); (case nf7 => ktr_room)); intro lf of hf9 tkf hgf hff hkf; (have Nq := news_in (by k_asm) (by k_asm) (none_above hff) hgf hkf); (have lq := news_lt (by k_asm) hff); (have Fq := Fr.keeps (by k_asm) hkf); (try k_lt lq)); (try k_sweep)))
local macro_rules | `(tactic| walk_at "setAttr ref") => `(tactic| (k_here; k_dflt (refine' set_over ?k1 ?k2 ?k3 ?k4 ?k5 (passes_str _ 387) ?k7 ?k8 ?k9 ?ka ?kb ?kc ?kd ?ke ?kf ?kg ?_; (case k1 => k_asm); (case k2 => k_asm); (case k3 => k_asm); (case k4 => exact of_str (by k_asm) (by k_mem) (by k_mem)); (case k5 => exact Looks.of_peek (kTo (by k_asm) (by k_asm)) (by kernel_rfl)); (case k7 => exact Looks.of_peek (kTo (by k_asm) (by k_asm)) (by kernel_rfl)); (case k8 => k_is); (case k9 => k_is); (case ka => k_is); (case kb => k_is); (case kc => k_is); (case kd => decide); (case ke => k_slotset); (case kf => exact rfl); (case kg => k_upd)); intro h9 F9 N9; (try k_sweep)))
theorem vt_call {w : World} {dp un : Nat} {gd : Option (List Code)} {cn : Str} {cs : Scope} {L a : Addr} {ccd : Value} {cl : List (Str × Addr)} {outer : List Env} {A₀ : Around} {base h₀ : Heap} {m : Str → Option Value} {s : Shared} {Q E : Value → Shared → Prop}
    {p : Program} {loose : List Str} {mean : ExcName → Option Value} {mg mb : Str → Option Value} (x : Str) (tx : Tok)
    (B : Below A₀ base outer h₀) (F : Fr h₀ L s.heap m) (X : (K w.params).In h₀) (T : Top p loose mean mg mb h₀) (hk : cs.kind = .function) (hd : dp + 40 < recursionLimit) (hu : un + 300 < cLine)
    (hz : x.length ≤ 1000)
    (ret : ∀ l dx t1 sl h' tk', h'.get? l = some { cls := .ref 387, dict := some dx, data := .prim (.str x t1), slots := sl } → h'.get? dx = some emptyDict → s.heap.get? l = none → s.heap.get? dx = none → dx < l → InElt s.heap h' → Q (.ref l) { s with heap := h', toks := tk' }) :
    wpAny (model PySem.Challenge.rw_bl0008_01.row.prog w) (ktrTop dp un gd cn cs L a ccd cl outer) (call (.ref 387) [.str x tx]) Q E s := by
  revert X
  w_top off
  k_fill
  intro X
  have N : News h₀ L s.heap [] := News.nil
  refine own_call (T := "str") (X.keeps F.keep) (fun h X => vt_own X) ?_
  k_steps
  refine wpAny_call ?_
  k_dflt (refine' clo_code ?k1 ?k2 ?k3 ?k4 ?k5 ?kA ?kF ?kK ?k6 ?k7 ?k8 ?k9 ?kB ?_ ?c1 ?c2 ?c3 ?c4; (case kA => exact rfl); (case kF => exact rfl); (case kK => first | exact rfl | assumption); (case k1 => k_asm); (case k2 => k_asm); (case k3 => k_asm); (case k4 => k_asm); (case k5 => k_asm); (case k6 => k_is); (case k7 => k_is); (case k8 => ktr_room); (case k9 => first | exact BindsTo.of_eq rfl | exact binds_K (by k_in) rfl (by k_is) rfl rfl rfl); (case kB => exact locs rfl); (case c1 => decide); (case c2 => exact rfl); (case c3 => exact rfl); (case c4 => exact rfl))
  intro g' L' h' FG' F' N' B' X' T' kG'
  (try dsimp only)
  k_steps
  unfold SuperAt
  k_dflt (refine super_cls_node (by k_asm) (by k_asm) (by k_asm) (by k_asm) (by k_is) (by rfl) (by rfl) (by k_is) (by k_is) (by rfl) (by first | rfl | decide +kernel) (by rfl) (by k_is) (by k_is) (by k_is) (by k_is) (by decide) (by rfl) (by rfl) (by rfl) (by rfl) (by decide +kernel) (by first | rfl | kernel_rfl) ?_)
  intro so h3 F3 N3 l4
  (try k_lt l4)
  have X3 := X'.keeps F3.keep
  refine super_getMethod (N3 _ (.head _)).1 ?_
  refine super_getattr (gv := none) (a := .builtin "str.__new__") (l₀ := [.ref 387, .type "str", .type "object"]) (ta := .type "builtin_function_or_method") (N3 _ (.head _)).1 (.of_peek X3 (by kernel_rfl)) (.of_peek X3 (by kernel_rfl)) rfl X3 (by kernel_rfl) (.of_peek X3 (by kernel_rfl)) (.of_peek X3 (by kernel_rfl)) (by decide +kernel) ?_
  dsimp only
  refine wpAny_pure (a := Value.builtin "str.__new__") (wpAny_pure (a := Value.builtin "str.__new__") ?_)
  k_steps

  rename Fr g' L' _ _ => F9
  rename News g' L' _ _ => N9
  rename Fr h₀ L _ _ => kF
  exact ⟨_, _, rfl, (N9 _ (.tail _ (.head _))).1, rfl, X.keeps kF.keep, ret _ _ _ _ _ _ (N9 _ (.tail _ (.head _))).1 (N9 _ (.tail _ (.tail _ (.head _)))).1 (fresh_of kG' (N9 _ (.tail _ (.head _))).2.2 (by simp)) (fresh_of kG' (N9 _ (.tail _ (.tail _ (.head _)))).2.2 (by simp)) (by assumption) (inElt_of kG' F9)⟩
end BL
namespace BL
end BL
end
-- part IsiS
section
set_option linter.unusedVariables false
set_option linter.unusedSimpArgs false
open PySem PySem.W PySem.Spec PySem.Calls PyProof.Rows Builtin
set_option maxRecDepth 100000
set_option maxHeartbeats 4000000
namespace BL
section
variable {prog : Program} {w : World} {A : Around} {E : Value → Shared → Prop} {s : Shared} {M : Model}
theorem nest_str {v : Value} {C : Addr} {dep : Int} {tk : Tok} {Q : Fin → Shared → Prop} (ht : Looks M s.heap (typeOf v) (.ref C)) (hs : Looks M s.heap (isSubtype (.ref C) (.type "str")) true) (h : Q (.done (.ret (.bool true))) s) :
    wpAny M A (Builtin.«isinstance.nested» ⟨[v, .type "str", .int dep tk], []⟩) Q E s := by
  obtain ⟨hh, g, d, tt, os⟩ := s
  unfold Builtin.«isinstance.nested»
  refine wpAny_bind (ht.at ?_)
  rw [if_neg (by intro e; cases e)]
  have L3 : Looks M hh (isInstance v (.type "str")) true := ht.andThen hs
  refine wpAny_bind (wpAny_of_eq (show typeOf (.type "str") = pure (.type "type") by kernel_rfl) ?_)
  rw [if_pos (by decide)]
  k_delta "plainIsInstance"
  unfold isType
  repeat (first | (with_reducible refine Looks.at L3 ?_) | simp only [Bool.not_true, Bool.false_eq_true, if_false, if_true] | lk)
  exact h
theorem isi_str {v : Value} {C : Addr} {Q : Value → Shared → Prop} (ht : Looks (model prog w) s.heap (typeOf v) (.ref C)) (hs : Looks (model prog w) s.heap (isSubtype (.ref C) (.type "str")) true) (hx : v ≠ .builtin "__main__.__loader__#opaque") (h : Q (.bool true) s) :
    wpAny (model prog w) A (PySem.call (.builtin "isinstance") [v, .type "str"]) Q E s :=
  call_isinstance_of (nest_str ht hs h) hx
theorem isi_tup {v : Value} {C t : Addr} {rest : List Value} {Q : Value → Shared → Prop} (ht : Looks (model prog w) s.heap (typeOf v) (.ref C)) (hs : Looks (model prog w) s.heap (isSubtype (.ref C) (.type "str")) true) (hx : v ≠ .builtin "__main__.__loader__#opaque")
    (hT : IsTup s.heap t (Value.type "str" :: rest).toArray) (hn : C ≠ t) (h : Q (.bool true) s) :
    wpAny (model prog w) A (PySem.call (.builtin "isinstance") [v, .ref t]) Q E s := by
  refine call_isinstance_of ?_ hx
  obtain ⟨hh, g, d, tt, os⟩ := s
  obtain ⟨o, ho, hc, n, hd⟩ := hT
  unfold Builtin.«isinstance.nested»
  refine wpAny_bind (ht.at ?_)
  rw [if_neg (by simpa using hn)]
  have tT : Looks (model prog w) hh (typeOf (.ref t)) (.type "tuple") := by rw [← hc]; exact (Looks.ld ho).andThen .now
  refine wpAny_bind (tT.at ?_)
  rw [if_neg (by decide)]
  have iT : Looks (model prog w) hh (isInstance (.ref t) (.type "tuple")) true := tT.andThen (.of_pure (by rw [isSubtype_type]; kernel_rfl))
  repeat (first | (with_reducible refine Looks.at iT ?_) | (with_reducible refine Looks.at tT ?_) | simp only [Bool.not_true, Bool.false_eq_true, if_false, if_true, hd] | ((fail_if_success (with_reducible show wpAny _ _ (PySem.call _ _ _) _ _ _)); lk))
  have e0 : ((some (Value.type "str" :: rest).toArray).getD #[])[((some (Value.type "str" :: rest).toArray).getD #[]).size - 1 - rest.length]'(by simp) = Value.type "str" := by simp
  rw [e0]
  refine call_function_entry PySem.F.kind_isinstance_nested PySem.F.plain_isinstance_nested PySem.F.entry_isinstance_nested (PySem.F.args_isinstance_nested_3 _ _ _) ?_
  refine nest_str (s := ⟨hh, g, d, tt, os⟩) ht hs ⟨_, rfl, ?_⟩
  repeat (first | exact h | simp only [if_true] | lk)
end
end BL
end
-- part StrR
section
set_option linter.unusedVariables false
set_option linter.unusedSimpArgs false
open PySem PySem.W PySem.Spec PySem.Calls PyProof.Rows Builtin Builtin.Str
set_option maxRecDepth 100000
set_option maxHeartbeats 4000000
namespace BL
section
variable {prog : Program} {w : World} {A : Around} {E : Value → Shared → Prop} {s : Shared} {l dx C : Addr} {x : PySem.Str} {t1 : Tok} {sl : Array (Option Value)}
theorem sub_method {name : PySem.Str} {f : Value} {pl : Sem Bool} {Q : Value × List Value → Shared → Prop} (I : StrAt s.heap l dx C x t1 sl)
    (h1 : Looks (model prog w) s.heap (typeLookup (.ref C) "__getattribute__") (some (.builtin "object.__getattribute__"))) (h2 : Looks (model prog w) s.heap (typeLookup (.ref C) "__getattr__") none)
    (h3 : Looks (model prog w) s.heap (typeLookup (.ref C) name) (some f)) (h4 : Looks (model prog w) s.heap (typeOf f) (.type "method_descriptor")) (q : Q (f, [.ref l]) s) :
    wpAny (model prog w) A (getMethod (.ref l) name pl) Q E s := by
  obtain ⟨hh, g, d, t, os⟩ := s
  have ty : Looks (model prog w) hh (typeOf (.ref l)) (.ref C) := I.inst.type
  have nil : Heap.Ns hh dx (fun _ => none) := ⟨emptyDict, #[], 0, I.dict, rfl, (by intro e he; simp at he), fun _ => rfl⟩
  unfold getMethod specialOf
  refine wpAny_bind (wpAny_bind (ty.at (h1.at ?_)))
  dsimp only
  rw [if_neg (by decide +kernel)]
  refine wpAny_bind (wpAny_bind (ty.at (h2.at ?_)))
  rw [if_neg (by decide)]
  refine wpAny_bind (wpAny_bind (ty.at (h3.at ?_)))
  dsimp only
  refine wpAny_bind (h4.at ?_)
  rw [if_neg (by decide)]
  refine wpAny_bind (wpAny_loadPart_at I.at_ ?_)
  dsimp only
  refine wpAny_bind (wpAny_nsGet nil ?_)
  rw [if_neg (by decide)]
  exact wpAny_bind (wpAny_rule (wpAny_pure q))
theorem check_meth {i owner n : String} {self : Value} {rest : List Value} {Q : Unit → Shared → Prop}
    (hk : builtinKind i = some .method) (hs : splitId i = some (owner, n)) (hi : Looks (model prog w) s.heap (isInstance self (.type owner)) true) (ha : argsOk i ⟨self :: rest, []⟩) (q : Q () s) :
    wpAny (model prog w) A (checkBuiltinCall i ⟨self :: rest, []⟩) Q E s := by
  simp only [checkBuiltinCall, hk, hs]
  refine wpAny_bind (hi.here ?_)
  simp only [Bool.not_true, Bool.false_eq_true, if_false]
  cases hsig : Manifest.signature? i with
  | none => exact wpAny_pure q
  | some sig =>
    simp only [argsOk, hsig] at ha
    have h2 : Bind.checkArgs i sig ⟨self :: rest, []⟩ = pure () := ha
    show wpAny _ _ (Bind.checkArgs i sig ⟨self :: rest, []⟩) _ _ _
    rw [h2]
    exact wpAny_pure q
theorem sr_plain : plainId "str.replace" = true := by decide +kernel
theorem sr_kind : builtinKind "str.replace" = some .method := by decide +kernel
theorem sr_split : splitId "str.replace" = some ("str", "replace") := by decide +kernel
theorem replace_sub {y z : PySem.Str} {u v : Tok} {Q : Value → Shared → Prop} (I : StrAt s.heap l dx C x t1 sl) (hs : Looks (model prog w) s.heap (isSubtype (.ref C) (.type "str")) true) (hc : (occurrences x y 0 x.length (x.length + 1)).isEmpty = true) (hz : x.length ≤ 1000)
    (q : ∀ t', Q (.str x t') { s with toks := s.toks + 1 }) :
    wpAny (model prog w) A (PySem.call (.builtin "str.replace") [.ref l, .str y u, .str z v]) Q E s := by
  obtain ⟨hh, g, d, t, os⟩ := s
  have ty : Looks (model prog w) hh (typeOf (.ref l)) (.ref C) := I.inst.type
  have hx := I.at_
  have hi : Looks (model prog w) hh (isInstance (.ref l) (.type "str")) true := ty.andThen hs
  refine wpAny_call (codeAny_call_builtin sr_plain PySem.F.entry_str_replace (@check_meth prog w _ _ ⟨hh, g, d, t, os⟩ "str.replace" "str" "replace" (.ref l) [.str y u, .str z v] _ sr_kind sr_split hi (PySem.F.args_str_replace_3 _ _ _) ?_))
  unfold Builtin.«str.replace»
  repeat (first | simp only [hc, Bool.true_or, if_true] | lk)
  rw [if_neg (by rw [sizeLine_eq]; omega)]
  exact wpAny_bind (wpAny_fresh (wpAny_pure (wpAny_pure (q _))))
end
end BL
end
-- part E1
section
set_option linter.unusedVariables false
open PySem PySem.W PySem.Spec PySem.Calls PyProof.Rows
set_option maxRecDepth 100000
set_option maxHeartbeats 8000000
set_option Elab.async false
namespace BL
local macro_rules | `(tactic| ktr_room) => `(tactic| ((try simp only [tc_depth, tc_units, depth_under_make, depth_under_kw, depth_in1, depth_deeper, units_in1, units_deeper, Around.mark_units, depth_mark]); (try dsimp only [ktrTop]); omega))
local macro_rules | `(tactic| k_room) => `(tactic| ktr_room)
local macro_rules | `(tactic| k_enter) => `(tactic| (refine' code_defG ?ke1 ?ke2 ?ke3 ?ke4 ?ke5 ?keA ?keF ?keK ?ke6 ?ke7 ?ke8 ?ke9 ?keB ?_ ?ked2 ?ked3 ?ked4 ?ked5; (case keA => exact rfl); (case keF => exact rfl); (case keK => first | exact rfl | assumption); (case ke1 => k_asm); (case ke2 => k_asm); (case ke3 => k_asm); (case ke4 => k_asm); (case ke5 => k_asm); (case ke6 => k_is); (case ke7 => k_is); (case ke8 => ktr_room); (case ke9 => first | exact BindsTo.of_eq rfl | exact binds_K (by k_in) rfl (by k_is) rfl rfl rfl); (case ked5 => decide); (case keB => exact locs rfl); (case ked2 => exact rfl); (case ked3 => exact rfl); (case ked4 => exact rfl); intro g' L' h' FG' F' N' B' X' T' kG'; (try dsimp only); (try k_lift B'); (try k_fold)))
local macro_rules | `(tactic| k_inst) => `(tactic| exact instFr (by k_asm) (by assumption))
theorem k387 {w : World} {h : Heap} (X : (K w.params).In h) : ∃ o, h.get? 387 = some o :=
  let ⟨_, _, _, _, e, _⟩ := (vt_own X).obj
  ⟨_, e⟩
theorem ne387 {w : World} {h₀ h : Heap} {L t : Addr} {o : Obj} {news : List (Addr × Obj)} (N : News h₀ L h news) (hm : (t, o) ∈ news) (X : (K w.params).In h₀) : 387 ≠ t := fun e => by
  obtain ⟨oc, hc⟩ := k387 X
  have z := (N _ hm).2.2
  rw [← e, hc] at z
  cases z
local macro_rules | `(tactic| walk_at "pad 0") => `(tactic| fail)
local macro_rules | `(tactic| walk_at "pad 1") => `(tactic| fail)
local macro_rules | `(tactic| walk_at "pad 2") => `(tactic| fail)
local macro_rules | `(tactic| walk_at "pad 3") => `(tactic| fail)
local macro_rules | `(tactic| walk_at "pad 4") => `(tactic| fail)
local macro_rules | `(tactic| walk_at "pad 5") => `(tactic| fail)
local macro_rules | `(tactic| walk_at "pad 6") => `(tactic| fail)
local macro_rules | `(tactic| walk_at "pad 7") => `(tactic| fail)
local macro_rules | `(tactic| walk_at "pad 8") => `(tactic| fail)
local macro_rules | `(tactic| walk_at "pad 9") => `(tactic| fail)
local macro_rules | `(tactic| walk_at "call builtin:isinstance") => `(tactic| (k_here; k_dflt (refine' isi_str (C := 387) ?k1 ?k2 (by intro e; cases e) ?_; (case k1 => exact (instFr (by k_asm) (by assumption)).type); (case k2 => exact Looks.of_peek (kTo (by k_asm) (by k_asm)) (by kernel_rfl)))))
local macro_rules | `(tactic| walk_at "call builtin:isinstance") => `(tactic| (k_here; k_dflt (refine' isi_tup (C := 387) ?k1 ?k2 (by intro e; cases e) ?k3 ?k4 ?_; (case k1 => exact (instFr (by k_asm) (by assumption)).type); (case k2 => exact Looks.of_peek (kTo (by k_asm) (by k_asm)) (by kernel_rfl)); (case k3 => exact News.isTup (by k_asm) (List.Mem.head _)); (case k4 => exact ne387 (by k_asm) (List.Mem.head _) (by k_asm)))))
local macro_rules | `(tactic| walk_at "call builtin:str.replace") => `(tactic| (k_dflt (refine' rep_rule o_92 o_9292 ?ru ?rv ?rx ?_; (case ru => first | exact Nat.succ_pos _ | exact Nat.le_trans (Nat.succ_pos _) (by assumption)); (case rv => exact rfl); (case rx => omega)); intro t5 k5 hk5 hl5; (try dsimp only at hk5)))
local macro_rules | `(tactic| walk_at "call builtin:str.replace") => `(tactic| (k_dflt (refine' rep_rule o_59 o_9259 ?ru ?rv ?rx ?_; (case ru => first | exact Nat.succ_pos _ | exact Nat.le_trans (Nat.succ_pos _) (by assumption)); (case rv => exact rfl); (case rx => omega)); intro t5 k5 hk5 hl5; (try dsimp only at hk5)))
local macro_rules | `(tactic| walk_at "call builtin:str.replace") => `(tactic| (k_dflt (refine' rep_rule o_44 o_9244 ?ru ?rv ?rx ?_; (case ru => first | exact Nat.succ_pos _ | exact Nat.le_trans (Nat.succ_pos _) (by assumption)); (case rv => exact rfl); (case rx => omega)); intro t5 k5 hk5 hl5; (try dsimp only at hk5)))
local macro_rules | `(tactic| walk_at "call builtin:str.replace") => `(tactic| (k_dflt (refine' rep_rule o_10 o_92110 ?ru ?rv ?rx ?_; (case ru => first | exact Nat.succ_pos _ | exact Nat.le_trans (Nat.succ_pos _) (by assumption)); (case rv => exact rfl); (case rx => omega)); intro t5 k5 hk5 hl5; (try dsimp only at hk5)))
local macro_rules | `(tactic| walk_at "call builtin:str.replace") => `(tactic| (k_dflt (refine' rep_rn ?ru ?rv ?rx ?ry ?_; (case ru => first | exact Nat.succ_pos _ | exact Nat.le_trans (Nat.succ_pos _) (by assumption)); (case rv => exact rfl); (case rx => omega); (case ry => repeat (first | assumption | (refine no13 ?_ (by decide))))); intro t5 k5 hk5; (try dsimp only at hk5)))
local macro_rules | `(tactic| walk_at "call builtin:str.replace") => `(tactic| (k_dflt (refine' rep_r ?ru ?rv ?rx ?ry ?_; (case ru => first | exact Nat.succ_pos _ | exact Nat.le_trans (Nat.succ_pos _) (by assumption)); (case rv => exact rfl); (case rx => omega); (case ry => repeat (first | assumption | (refine no13 ?_ (by decide))))); intro t5 k5 hk5; (try dsimp only at hk5)))
theorem tu_call {w : World} {dp un : Nat} {gd : Option (List Code)} {cn : Str} {cs : Scope} {L a : Addr} {ccd : Value} {cl : List (Str × Addr)} {outer : List Env} {A₀ : Around} {base h₀ : Heap} {m : Str → Option Value} {s : Shared} {Q E : Value → Shared → Prop}
    {p : Program} {loose : List Str} {mean : ExcName → Option Value} {mg mb : Str → Option Value} (l dx : Addr) (x : Str) (t1 : Tok) (sl : Array (Option Value))
    (B : Below A₀ base outer h₀) (F : Fr h₀ L s.heap m) (X : (K w.params).In h₀) (T : Top p loose mean mg mb h₀) (hk : cs.kind = .function) (hd : dp + 5 < recursionLimit) (hu : un + 60 < cLine)
    (I : StrAt s.heap l dx 387 x t1 sl)
    (ret : ∀ h' tk', InElt s.heap h' → Q (.ref l) { s with heap := h', toks := tk' }) :
    wpAny (model PySem.Challenge.rw_bl0008_01.row.prog w) (ktrTop dp un gd cn cs L a ccd cl outer) (call (.ref 47) [.ref l]) Q E s := by
  revert X
  w_top off
  k_fill
  intro X
  have N : News h₀ L s.heap [] := News.nil
  refine wpAny_call ?_
  k_dflt (refine' code_defG ?ke1 ?ke2 ?ke3 ?ke4 ?ke5 ?keA ?keF ?keK ?ke6 ?ke7 ?ke8 ?ke9 ?keB ?_ ?ked2 ?ked3 ?ked4 ?ked5; (case keA => exact rfl); (case keF => exact rfl); (case keK => first | exact rfl | assumption); (case ke1 => k_asm); (case ke2 => k_asm); (case ke3 => k_asm); (case ke4 => k_asm); (case ke5 => k_asm); (case ke6 => k_is); (case ke7 => k_is); (case ke8 => ktr_room); (case ke9 => first | exact BindsTo.of_eq rfl | exact binds_K (by k_in) rfl (by k_is) rfl rfl rfl); (case ked5 => decide); (case keB => exact locs rfl); (case ked2 => exact rfl); (case ked3 => exact rfl); (case ked4 => exact rfl))
  intro g' L' h' FG' F' N' B' X' T' kG'
  (try dsimp only)
  have I' : StrAt g' l dx 387 x t1 sl := ⟨kG' _ _ I.at_ (by simp), kG' _ _ I.dict (by simp)⟩
  k_steps
  rename Fr g' L' _ _ => F9
  exact ret _ _ (inElt_of kG' F9)
local macro_rules | `(tactic| walk_at "call ref") => `(tactic| (k_here; (with_reducible show wpAny _ _ (call (Value.ref 47) _) _ _ _); k_dflt ((refine' tu_call _ _ _ _ _ ?nf1 ?nf2 ?nf3 ?nf4 ?nf5 ?nf6 ?nf7 ?nf8 ?_; (case nf1 => k_asm); (case nf2 => k_asm); (case nf3 => k_asm); (case nf4 => k_asm); (case nf5 => exact rfl); (case nf6 => ktr_room); (case nf7 => ktr_room); (case nf8 => exact strFr (by k_asm) (by assumption))); intro hf9 tkf hkf; (have Nq := News.grown (by k_asm) hkf); (have Fq := Fr.keeps (by k_asm) hkf)); (try k_sweep)))
theorem ec_call {w : World} {dp un : Nat} {gd : Option (List Code)} {cn : Str} {cs : Scope} {L a : Addr} {ccd : Value} {cl : List (Str × Addr)} {outer : List Env} {A₀ : Around} {base h₀ : Heap} {m : Str → Option Value} {s : Shared} {Q E : Value → Shared → Prop}
    {p : Program} {loose : List Str} {mean : ExcName → Option Value} {mg mb : Str → Option Value} (l dx : Addr) (x : Str) (t1 : Tok) (sl : Array (Option Value))
    (B : Below A₀ base outer h₀) (F : Fr h₀ L s.heap m) (X : (K w.params).In h₀) (T : Top p loose mean mg mb h₀) (hk : cs.kind = .function) (hd : dp + 20 < recursionLimit) (hu : un + 200 < cLine)
    (I : StrAt s.heap l dx 387 x t1 sl) (hz : x.length ≤ 20) (hN : 78 ∉ x.cps.toList) (hR : 13 ∉ x.cps.toList)
    (ret : ∀ t' h' tk', InElt s.heap h' → Q (.str (escT x) t') { s with heap := h', toks := tk' }) :
    wpAny (model PySem.Challenge.rw_bl0008_01.row.prog w) (ktrTop dp un gd cn cs L a ccd cl outer) (call (.ref 185) [.ref l]) Q E s := by
  revert X
  w_top off
  k_fill
  intro X
  have N : News h₀ L s.heap [] := News.nil
  refine wpAny_call ?_
  k_dflt (refine' code_defG ?ke1 ?ke2 ?ke3 ?ke4 ?ke5 ?keA ?keF ?keK ?ke6 ?ke7 ?ke8 ?ke9 ?keB ?_ ?ked2 ?ked3 ?ked4 ?ked5; (case keA => exact rfl); (case keF => exact rfl); (case keK => first | exact rfl | assumption); (case ke1 => k_asm); (case ke2 => k_asm); (case ke3 => k_asm); (case ke4 => k_asm); (case ke5 => k_asm); (case ke6 => k_is); (case ke7 => k_is); (case ke8 => ktr_room); (case ke9 => first | exact BindsTo.of_eq rfl | exact binds_K (by k_in) rfl (by k_is) rfl rfl rfl); (case ked5 => decide); (case keB => exact locs rfl); (case ked2 => exact rfl); (case ked3 => exact rfl); (case ked4 => exact rfl))
  intro g' L' h' FG' F' N' B' X' T' kG'
  (try dsimp only)
  have I' : StrAt g' l dx 387 x t1 sl := ⟨kG' _ _ I.at_ (by simp), kG' _ _ I.dict (by simp)⟩
  k_steps
  rename Fr g' L' _ _ => F6
  have X6 := kTo F6 X'
  refine sub_method (f := .builtin "str.replace") (strFr F6 I') (.of_peek X6 (by kernel_rfl)) (.of_peek X6 (by kernel_rfl)) (.of_peek X6 (by kernel_rfl)) (.of_peek X6 (by kernel_rfl)) ?_
  k_steps
  refine replace_sub (strFr F6 I') (.of_peek X6 (by kernel_rfl)) (occ_none (d := 78) (by rw [o_9278]; decide) hN) (by omega) fun t2 => ?_
  k_steps
  rename Fr g' L' _ _ => F9
  exact ret _ _ _ (inElt_of kG' F9)
end BL
namespace BL
end BL
end
-- part T1
section
set_option linter.unusedVariables false
open PySem PySem.W PySem.Spec PySem.Calls PyProof.Rows
set_option maxRecDepth 100000
set_option maxHeartbeats 8000000
set_option Elab.async false
namespace BL
local macro_rules | `(tactic| ktr_room) => `(tactic| ((try simp only [tc_depth, tc_units, depth_under_make, depth_under_kw, depth_in1, depth_deeper, units_in1, units_deeper, Around.mark_units, depth_mark]); (try dsimp only [ktrTop]); omega))
local macro_rules | `(tactic| k_room) => `(tactic| ktr_room)
local macro_rules | `(tactic| k_enter) => `(tactic| (refine' code_defG ?ke1 ?ke2 ?ke3 ?ke4 ?ke5 ?keA ?keF ?keK ?ke6 ?ke7 ?ke8 ?ke9 ?keB ?_ ?ked2 ?ked3 ?ked4 ?ked5; (case keA => exact rfl); (case keF => exact rfl); (case keK => first | exact rfl | assumption); (case ke1 => k_asm); (case ke2 => k_asm); (case ke3 => k_asm); (case ke4 => k_asm); (case ke5 => k_asm); (case ke6 => k_is); (case ke7 => k_is); (case ke8 => ktr_room); (case ke9 => first | exact BindsTo.of_eq rfl | exact binds_K (by k_in) rfl (by k_is) rfl rfl rfl); (case ked5 => decide); (case keB => exact locs rfl); (case ked2 => exact rfl); (case ked3 => exact rfl); (case ked4 => exact rfl); intro g' L' h' FG' F' N' B' X' T' kG'; (try dsimp only); (try k_lift B'); (try k_fold)))
local macro_rules | `(tactic| k_inst) => `(tactic| exact instFr (by k_asm) (by assumption))
local macro_rules | `(tactic| walk_at "call ref") => `(tactic| (k_here; (with_reducible show wpAny _ _ (call (Value.ref 185) _) _ _ _); k_dflt ((refine' ec_call _ _ _ _ _ ?nf1 ?nf2 ?nf3 ?nf4 ?nf5 ?nf6 ?nf7 ?nf8 ?nf9 ?nfa ?nfb ?_; (case nf1 => k_asm); (case nf2 => k_asm); (case nf3 => k_asm); (case nf4 => k_asm); (case nf5 => exact rfl); (case nf6 => ktr_room); (case nf7 => ktr_room); (case nf8 => exact strFr (by k_asm) (by assumption)); (case nf9 => assumption); (case nfa => assumption); (case nfb => assumption)); intro t9 hf9 tkf hkf; (have Nq := News.grown (by k_asm) hkf); (have Fq := Fr.keeps (by k_asm) hkf)); (try k_sweep)))
local macro_rules | `(tactic| walk_at "getMethod str") => `(tactic| (k_dflt (refine enc_method ?_)))
local macro_rules | `(tactic| walk_at "call builtin:str.encode") => `(tactic| (k_dflt (refine' enc_call ?ex ?ey ?_; (case ex => assumption); (case ey => assumption)); intro t9 k9))
theorem ti_call {w : World} {dp un : Nat} {gd : Option (List Code)} {cn : Str} {cs : Scope} {L a : Addr} {ccd : Value} {cl : List (Str × Addr)} {outer : List Env} {A₀ : Around} {base h₀ : Heap} {m : Str → Option Value} {s : Shared} {Q E : Value → Shared → Prop}
    {p : Program} {loose : List Str} {mean : ExcName → Option Value} {mg mb : Str → Option Value} (l dx : Addr) (x : Str) (t1 : Tok) (sl : Array (Option Value))
    (B : Below A₀ base outer h₀) (F : Fr h₀ L s.heap m) (X : (K w.params).In h₀) (T : Top p loose mean mg mb h₀) (hk : cs.kind = .function) (hd : dp + 25 < recursionLimit) (hu : un + 240 < cLine)
    (I : StrAt s.heap l dx 387 x t1 sl) (hz : x.length ≤ 20) (hP : ∀ c ∈ x.cps.toList, Plain7 c) (hN : 78 ∉ x.cps.toList) (hR : 13 ∉ x.cps.toList)
    (ret : ∀ t' h' tk', InElt s.heap h' → Q (.bytes (encB (escT x).cps.toList).toArray t') { s with heap := h', toks := tk' }) :
    wpAny (model PySem.Challenge.rw_bl0008_01.row.prog w) (ktrTop dp un gd cn cs L a ccd cl outer) (call (.ref 365) [.ref l]) Q E s := by
  revert X
  w_top off
  k_fill
  intro X
  have N : News h₀ L s.heap [] := News.nil
  refine wpAny_call ?_
  k_dflt (refine' code_defG ?ke1 ?ke2 ?ke3 ?ke4 ?ke5 ?keA ?keF ?keK ?ke6 ?ke7 ?ke8 ?ke9 ?keB ?_ ?ked2 ?ked3 ?ked4 ?ked5; (case keA => exact rfl); (case keF => exact rfl); (case keK => first | exact rfl | assumption); (case ke1 => k_asm); (case ke2 => k_asm); (case ke3 => k_asm); (case ke4 => k_asm); (case ke5 => k_asm); (case ke6 => k_is); (case ke7 => k_is); (case ke8 => ktr_room); (case ke9 => first | exact BindsTo.of_eq rfl | exact binds_K (by k_in) rfl (by k_is) rfl rfl rfl); (case ked5 => decide); (case keB => exact locs rfl); (case ked2 => exact rfl); (case ked3 => exact rfl); (case ked4 => exact rfl))
  intro g' L' h' FG' F' N' B' X' T' kG'
  (try dsimp only)
  have I' : StrAt g' l dx 387 x t1 sl := ⟨kG' _ _ I.at_ (by simp), kG' _ _ I.dict (by simp)⟩
  have hS := sur_plain (escT_plain hP)
  have hL : (escT x).length ≤ 1000 := Nat.le_trans (escT_len x) (by omega)
  k_steps
  rename Fr g' L' _ _ => F9
  exact ret _ _ _ (inElt_of kG' F9)
end BL
namespace BL
end BL
end
-- part VC
section
set_option linter.unusedVariables false
open PySem PySem.W PySem.Spec PySem.Calls PyProof.Rows
set_option maxRecDepth 100000
set_option maxHeartbeats 8000000
set_option Elab.async false
namespace BL
local macro_rules | `(tactic| ktr_room) => `(tactic| ((try simp only [tc_depth, tc_units, depth_under_make, depth_under_kw, depth_in1, depth_deeper, units_in1, units_deeper, Around.mark_units, depth_mark]); (try dsimp only [ktrTop]); omega))
local macro_rules | `(tactic| k_room) => `(tactic| ktr_room)
local macro_rules | `(tactic| k_enter) => `(tactic| (refine' code_defG ?ke1 ?ke2 ?ke3 ?ke4 ?ke5 ?keA ?keF ?keK ?ke6 ?ke7 ?ke8 ?ke9 ?keB ?_ ?ked2 ?ked3 ?ked4 ?ked5; (case keA => exact rfl); (case keF => exact rfl); (case keK => first | exact rfl | assumption); (case ke1 => k_asm); (case ke2 => k_asm); (case ke3 => k_asm); (case ke4 => k_asm); (case ke5 => k_asm); (case ke6 => k_is); (case ke7 => k_is); (case ke8 => ktr_room); (case ke9 => first | exact BindsTo.of_eq rfl | exact binds_K (by k_in) rfl (by k_is) rfl rfl rfl); (case ked5 => decide); (case keB => exact locs rfl); (case ked2 => exact rfl); (case ked3 => exact rfl); (case ked4 => exact rfl); intro g' L' h' FG' F' N' B' X' T' kG'; (try dsimp only); (try k_lift B'); (try k_fold)))
local macro_rules | `(tactic| k_all) => `(tactic| (k_dflt assumption))
local macro_rules | `(tactic| k_ne) => `(tactic| first | (k_dflt assumption) | (refine Ne.symm ?_; k_dflt assumption) | (refine neN ?_; (try dsimp only); omega))
local macro_rules | `(tactic| ktr_unf) => `(tactic| repeat' (first | (k_unfold; (try dsimp only)) | (k_end; wrow_close) | ((fail_if_success (first | (with_reducible show SrcT _ _ _ _ _ _ _ _ _ _ _ _ _ _) | (with_reducible show LCg.CompSrc _ _ _ _ _ _ _ _ _ _ _ _ _ _) | (with_reducible show LCg.CompEnd _ _ _ _ _ _ _ _ _ _ _ _ _ _) | (with_reducible show wpAny _ _ (eval (PySem.Expr.ListComp _ _ _ _) _) _ _ _))); (first | walk1 | (dsimp only; walk1))) | fail "no step"))
local macro_rules | `(tactic| walk_at "pad 0") => `(tactic| fail)
local macro_rules | `(tactic| walk_at "pad 1") => `(tactic| fail)
local macro_rules | `(tactic| walk_at "pad 2") => `(tactic| fail)
local macro_rules | `(tactic| walk_at "call ref") => `(tactic| (k_here; (with_reducible show wpAny _ _ (call (Value.ref 387) _) _ _ _); k_dflt ((refine' vt_call _ _ ?vt1 ?vt2 ?vt3 ?vt4 ?vt5 ?vt6 ?vt7 ?vt8 ?_; (case vt1 => k_asm); (case vt2 => k_asm); (case vt3 => k_asm); (case vt4 => k_asm); (case vt5 => exact rfl); (case vt6 => ktr_room); (case vt7 => ktr_room); (case vt8 => omega)); intro lv dxv t1v slv hv tkv hgv hdv hnv hmv hltv hkv; (have nv1 := news_ne (by k_asm) hnv); (have nv2 := news_ne (by k_asm) hmv); (have Nq := news_two (by k_asm) (by k_asm) hnv hmv hgv hdv hkv); (have Fq := Fr.keeps (by k_asm) hkv)); (try k_sweep)))
local macro_rules | `(tactic| walk_at "call ref") => `(tactic| (k_here; (with_reducible show wpAny _ _ (call (Value.ref 365) _) _ _ _); k_dflt ((refine' ti_call _ _ _ _ _ ?ti1 ?ti2 ?ti3 ?ti4 ?ti5 ?ti6 ?ti7 ?ti8 ?ti9 ?tia ?tib ?tic ?_; (case ti1 => k_asm); (case ti2 => k_asm); (case ti3 => k_asm); (case ti4 => k_asm); (case ti5 => exact rfl); (case ti6 => ktr_room); (case ti7 => ktr_room); (case ti8 => exact strNews (by k_asm) (by k_mem) (by k_mem)); (case ti9 => omega); (case tia => assumption); (case tib => assumption); (case tic => assumption)); intro t9 hf9 tkf hkf; (have Nq := News.grown (by k_asm) hkf); (have Fq := Fr.keeps (by k_asm) hkf)); (try k_sweep)))
local macro_rules | `(tactic| walk_at "call ref") => `(tactic| (k_here; (with_reducible show wpAny _ _ (call (Value.ref 303) _) _ _ _); k_dflt ((refine' pm_call ?nf1 ?nf2 ?nf3 ?nf4 ?nf5 ?nf6 ?nf7 ?_; (case nf1 => k_asm); (case nf2 => k_asm); (case nf3 => k_asm); (case nf4 => k_asm); (case nf5 => exact rfl); (case nf6 => ktr_room); (case nf7 => ktr_room)); intro lf of hf9 tkf hgf hff hkf; (have Nq := news_in (by k_asm) (by k_asm) (none_above hff) hgf hkf); (have lq := news_lt (by k_asm) hff); (have Fq := Fr.keeps (by k_asm) hkf); (try k_lt lq)); (try k_sweep)))
local macro_rules | `(tactic| walk_at "call builtin:hasattr") => `(tactic| (k_here; (with_reducible show wpAny _ _ (call (Value.builtin _) [Value.ref _, Value.str _ _]) _ _ _); k_dflt (refine' has_listN ?hs1 ?hs2 ?hs3 ?_; (case hs1 => k_asm); (case hs2 => k_asm); (case hs3 => k_mem)); intro h9 tk9 F9 N9; (try k_sweep)))
local macro_rules | `(tactic| k_all) => `(tactic| (exact CX.off (by assumption)))
local macro_rules | `(tactic| k_ne) => `(tactic| first | (k_dflt assumption) | (refine Ne.symm ?_; k_dflt assumption) | (refine neN ?_; (try dsimp only); omega))
theorem vc_make {w : World} {dp un : Nat} {gd : Option (List Code)} {cn : Str} {cs : Scope} {L a : Addr} {ccd : Value} {cl : List (Str × Addr)} {outer : List Env} {A₀ : Around} {base h₀ : Heap} {m : Str → Option Value} {s : Shared} {Q E : Value → Shared → Prop}
    {p : Program} {loose : List Str} {mean : ExcName → Option Value} {mg mb : Str → Option Value} (lf : Addr) (fvs : List Value) (css : List (List Nat))
    (B : Below A₀ base outer h₀) (F : Fr h₀ L s.heap m) (X : (K w.params).In h₀) (T : Top p loose mean mg mb h₀) (hk : cs.kind = .function) (hd : dp + 60 < recursionLimit) (hu : un + 500 < cLine)
    (N : News h₀ L s.heap [(lf, LCg.lst fvs), (525, tabObj #[]), (706, tabObj #[]), (815, tabObj #[])]) (n1 : lf ≠ 525) (n2 : lf ≠ 706) (n3 : lf ≠ 815) (hS : StrsAre fvs (css.map ofL)) (hsg : Sg css) (hn : css.length ≤ 8)
    (ret : ∀ x dx e1 e2 n fx zs ts px opx h' tk, CX dx zs ts css → Fr h₀ L h' m → News h₀ L h' ((px, opx) :: (fx, LCg.lst zs) :: (x, instObj 801 dx) :: (dx, dictOf [⟨PyData.keyHash w.params (S "cats"), .str (S "cats") e1, .ref fx⟩, ⟨PyData.keyHash w.params (S "params"), .str (S "params") e2, .ref px⟩] n) :: (lf, LCg.lst fvs) :: (525, tabObj #[]) :: (706, tabObj #[]) :: (815, tabObj #[]) :: ts) → Q (.ref x) { s with heap := h', toks := tk }) :
    wpAny (model PySem.Challenge.rw_bl0008_01.row.prog w) (ktrTop dp un gd cn cs L a ccd cl outer) (call (.ref 801) [.ref lf]) Q E s := by
  revert X
  w_top off
  k_fill
  intro X
  have hyl := strsAre_len hS
  rw [List.length_map] at hyl
  ktr_unf
  k_dflt (refine LCg.ListComp_U (F₀ := by k_asm) (by with_unfolding_all rfl) (by decide) (by rfl) (by decide) (by rfl) ?_)
  ktr_unf
  rename_i x9 d9 hA FA NA l1 l2 gA LA hB FG BA XA TA kG hC tkC F9 N9 tk0
  k_dflt (refine LCg.CompSrc.ledger (its := fvs.toArray) (k := fvs.length) (news := (x9, instObj 801 d9) :: (d9, dictOf [] 0) :: (lf, LCg.lst fvs) :: (525, tabObj #[]) :: (706, tabObj #[]) :: (815, tabObj #[]) :: []) (by rfl) (by k_asm) (by k_asm) (.tail _ (.tail _ (.head _))) (by rw [List.size_toArray, sizeLine_eq]; omega) ?_)
  intro g2
  refine comp_ind (fun i zs news => ∃ ts, CX d9 zs ts (css.take i) ∧ zs.length = i ∧ news = (x9, instObj 801 d9) :: (d9, dictOf [] 0) :: (lf, LCg.lst fvs) :: (525, tabObj #[]) :: (706, tabObj #[]) :: (815, tabObj #[]) :: ts) fvs.toArray.size ?turn ?fin fvs.toArray.size 0 [] _ rfl ?start
  case start => exact ⟨[], .nil, rfl, rfl⟩
  case turn =>
    rintro i zs _ v I oI C oC Dz m₂ h tk E' hi ⟨ts, hZ, hlen, rfl⟩ hv hoC hx F8 N8 off z1 z2 z3
    obtain ⟨y, ty, hy, hv2⟩ := strs_at hS (i := i) (by rw [List.size_toArray] at hi; exact hi)
    rw [List.getElem?_map] at hy
    obtain ⟨cs, hcs, rfl⟩ := Option.map_eq_some_iff.mp hy
    obtain rfl : v = .str (ofL cs) ty := by
      have e : fvs[i]? = some v := by simpa using hv
      rw [e] at hv2
      exact Option.some.inj hv2
    have hcl : (ofL cs).length ≤ 3 := (hsg cs (List.mem_of_getElem? hcs)).1
    ktr_unf
    rename_i lv dxv t1v slv hv9 tkv hgv hdv hnv hmv hltv hkv nv1 nv2 Nq Fq
    refine LCg.CompEnd.intro Fq Nq ((x9, instObj 801 d9) :: (d9, dictOf [] 0) :: (lf, LCg.lst fvs) :: (525, tabObj #[]) :: (706, tabObj #[]) :: (815, tabObj #[]) :: (lv, ⟨.ref 387, some dxv, .prim (.str (ofL cs) t1v), slv⟩) :: (dxv, emptyDict) :: ts) ?sub (LCg.Off3.of ?off) (.inr ⟨_, .tail _ (.tail _ (.head _)), rfl, _, rfl⟩) ⟨_, ?cx, by simp [hlen], rfl⟩
    case sub => exact mem_mid2 ((I, oI) :: (C, oC) :: (Dz, LCg.lst zs) :: (x9, instObj 801 d9) :: (d9, dictOf [] 0) :: (lf, LCg.lst fvs) :: (525, tabObj #[]) :: (706, tabObj #[]) :: (815, tabObj #[]) :: [])
    case off => exact off_mid2 (P := fun a => a ≠ I ∧ a ≠ C ∧ a ≠ Dz) ((x9, instObj 801 d9) :: (d9, dictOf [] 0) :: (lf, LCg.lst fvs) :: (525, tabObj #[]) :: (706, tabObj #[]) :: (815, tabObj #[]) :: []) off ⟨Ne.symm (nv1 (I, oI) (.head _)), Ne.symm (nv1 (C, oC) (.tail _ (.head _))), Ne.symm (nv1 (Dz, _) (.tail _ (.tail _ (.head _))))⟩ ⟨Ne.symm (nv2 (I, oI) (.head _)), Ne.symm (nv2 (C, oC) (.tail _ (.head _))), Ne.symm (nv2 (Dz, _) (.tail _ (.tail _ (.head _))))⟩
    case cx =>
      rw [take_at hcs]
      exact .snoc lv dxv t1v slv cs hZ (Ne.symm (nv1 (d9, _) (.tail _ (.tail _ (.tail _ (.tail _ (.head _))))))) (Ne.symm (nv2 (d9, _) (.tail _ (.tail _ (.tail _ (.tail _ (.head _)))))))
  case fin =>
    rintro zs _ ⟨ts, hZ, hlen, rfl⟩ D4 h4 tk4 F4 N4 o4
    rw [List.take_of_length_le (by rw [List.size_toArray]; omega)] at hZ
    have q1 : D4 ≠ d9 := Ne.symm (off1_mem o4 (d9, _) (.tail _ (.head _)))
    clear N9 F9
    ktr_unf
    rename Fr h₀ L _ _ => F7
    rename News h₀ L _ _ => N7
    exact ret _ _ _ _ _ _ _ _ _ _ _ _ hZ F7 N7
end BL
namespace BL
end BL
end
-- part CompT
section
set_option linter.unusedVariables false
open PySem PySem.W PySem.Spec PySem.Calls PyProof.Rows
set_option maxRecDepth 100000
set_option autoImplicit false
namespace BL
/-- a source that is gone through as a tuple is: an object of the ledger -/
def SrcT (prog : Program) (w : World) (A : Around) (h₀ : Heap) (L : Addr) (m : Str → Option Value) (env : Env) (elt : Expr) (x : Str) (scope : Scope) (cl : List (Str × Addr)) (Fin : Shared → List Value → List (Addr × Obj) → Prop) (xv : Value) (s₁ : Shared) : Prop :=
  ∃ (t : Addr) (o : Obj) (its : Array Value) (news : List (Addr × Obj)) (T : Heap → Prop), xv = .ref t ∧ A.handled = none ∧ Fr h₀ L s₁.heap m ∧ News h₀ L s₁.heap news ∧ (t, o) ∈ news ∧ its.size ≤ 1000 ∧
    (∀ (Q E : Value → Shared → Prop), Q (.ref s₁.heap.objs.size) { s₁ with heap := s₁.heap.push { cls := .type "tuple_iterator", data := .fields #[.ref t, .int 0 0] } } → wpAny (model prog w) A (pyIter xv) Q E s₁) ∧
    (∀ I, t ≠ I → Walks prog w A I [I, t] [I] its.size (fun i v => its[i]? = some v) (fun i h => h.IsTupleIter I t i ∧ T h)) ∧ (∀ h : Heap, h.get? t = some o → T h) ∧
    ∀ s₂ : Shared, (∃ h, s₂ = { s₁ with heap := h }) → LCg.CompRest prog w A h₀ L m env elt x scope cl s₂ (fun nw => (t, o) ∈ nw) (fun i v => its[i]? = some v) (Fin s₂) its.size 0 [] news
section
variable {prog : Program} {w : World} {A : Around} {E : Value → Shared → Prop} {s : Shared} {h₀ : Heap} {L : Addr} {m : Str → Option Value} {env : Env}
theorem SrcT.sub {elt : Expr} {x : Str} {scope : Scope} {cl : List (Str × Addr)} {Fin : Shared → List Value → List (Addr × Obj) → Prop} {t C : Addr} {d : Option Addr} {its : Array Value} {k : Nat} {sl : Array (Option Value)} {news : List (Addr × Obj)} {s₁ : Shared}
    (hh : A.handled = none) (F : Fr h₀ L s₁.heap m) (N : News h₀ L s₁.heap news) (Y : SubT (model prog w) s₁.heap C) (hm : (t, ({ cls := .ref C, dict := d, data := .seq its k, slots := sl } : Obj)) ∈ news) (hsz : its.size ≤ 1000)
    (h : ∀ g, LCg.CompRest prog w A h₀ L m env elt x scope cl { s₁ with heap := g } (fun nw => (t, ({ cls := .ref C, dict := d, data := .seq its k, slots := sl } : Obj)) ∈ nw) (fun i v => its[i]? = some v) (Fin { s₁ with heap := g }) its.size 0 [] news) :
    SrcT prog w A h₀ L m env elt x scope cl Fin (.ref t) s₁ :=
  ⟨t, _, its, news, fun h => IsSub h t C its, rfl, hh, F, N, hm, hsz, fun Q E q => sub_iter Y ⟨_, (N _ hm).1, rfl, k, rfl⟩ q, fun I hne => sub_walks hh I hne, fun h e => ⟨_, e, rfl, k, rfl⟩, fun _ ⟨g, e⟩ => e ▸ h g⟩
theorem SrcT.tup {elt : Expr} {x : Str} {scope : Scope} {cl : List (Str × Addr)} {Fin : Shared → List Value → List (Addr × Obj) → Prop} {t : Addr} {its : Array Value} {k : Nat} {news : List (Addr × Obj)} {s₁ : Shared}
    (hh : A.handled = none) (F : Fr h₀ L s₁.heap m) (N : News h₀ L s₁.heap news) (hm : (t, ({ cls := .type "tuple", data := .seq its k } : Obj)) ∈ news) (hsz : its.size ≤ 1000)
    (h : ∀ g, LCg.CompRest prog w A h₀ L m env elt x scope cl { s₁ with heap := g } (fun nw => (t, ({ cls := .type "tuple", data := .seq its k } : Obj)) ∈ nw) (fun i v => its[i]? = some v) (Fin { s₁ with heap := g }) its.size 0 [] news) :
    SrcT prog w A h₀ L m env elt x scope cl Fin (.ref t) s₁ :=
  ⟨t, _, its, news, fun h => h.IsTuple t its, rfl, hh, F, N, hm, hsz, fun Q E q => wpAny_pyIter_tuple ⟨_, (N _ hm).1, rfl, k, rfl⟩ q, fun I hne => Walks.tuple hh I t hne its, fun h e => ⟨_, e, rfl, k, rfl⟩, fun _ ⟨g, e⟩ => e ▸ h g⟩
theorem Assign_ListComp_T {elt iter : Expr} {x y : Str} {px py : Pos} {scope : Scope} {cl : List (Str × Addr)} {pos spos : Pos} {Q : Flow → Shared → Prop} (F₀ : Fr h₀ L s.heap m) (hLe : env.locals = L)
    (hsw : swapsWith (.ListComp elt [⟨.Name x px, iter, [], 0⟩] scope pos) (some (.Name y py)) spos.line env = pure true)
    (hclos : closureFor scope env = pure cl) (hcell : ∀ z ∈ scope.names, z.2 ≠ .cell) (hkind : scope.kind = .function)
    (hnames : ∀ z ∈ scope.names, z.2 = .local → scope.names.lookup z.1 = some .local) (hx : scope.names.lookup x = some .local)
    (hy : env.kindOf y = some .local) (hp : (env.scope.kind == .class || (env.scope.kind == .module && env.locals != env.globals)) = false)
    (h : wpAny (model prog w) A (eval iter env) (SrcT prog w A h₀ L m env elt x scope cl (fun s₂ => LCg.FinA h₀ L m s₂ y Q)) E s)
    (hs : ∀ x, foldedSetIterable iter env x = pure x := by intro _; rfl) :
    wpAny (model prog w) A (exec (.Assign [.Name y py] (.ListComp elt [⟨.Name x px, iter, [], 0⟩] scope pos) spos) env) Q E s := by
  subst hLe
  rw [exec_Assign_Name_used _ _ _ _ hsw]
  refine wpAny_bind (wpAny_standAt (wpAny_bind ?_))
  show wpAny _ A (do let _ ← comprehension (.ListComp elt [⟨.Name x px, iter, [], 0⟩] scope pos) scope env _ (newList []) false (eval iter env) (some (assign (.Name y py) env))) _ _ s
  refine wpAny_bind (wpAny_mono (wpAny_comprehension_free (use := some (assign (.Name y py) env)) (Q := fun _ s' => Q .next s') rfl hs hclos hkind hnames
    (wpAny_mono h (fun xv s₁ h₁ => ?_) fun _ _ e => e)) (fun _ s' hq => wpAny_pure (wpAny_pure hq)) fun _ _ e => e)
  obtain ⟨t, o, its, news, T, rfl, hh, F, N, hm, hsz, hit, W, hT, R⟩ := h₁
  have hlt : t < s₁.heap.objs.size := Heap.lt_size (N _ hm).1
  refine hit _ _ ?_
  have up : ∀ b o, s₁.heap.get? b = some o → (s₁.heap.push { cls := .type "tuple_iterator", data := .fields #[.ref t, .int 0 0] }).get? b = some o := fun b o e => Heap.get?_push_of_some _ e
  refine LCg.block_U (S := fun nw => (t, o) ∈ nw) (W s₁.heap.objs.size (Nat.ne_of_lt hlt)) (by rw [sizeLine_eq]; omega) (fun i h st => by obtain ⟨o, e, _⟩ := st.1; exact ⟨o, e⟩)
    (fun i h h' oI nw st e e' k N' S' => ⟨by obtain ⟨o', q, r⟩ := st.1; rw [e] at q; cases q; exact ⟨oI, e', r⟩, hT _ (N' _ S').1⟩) hcell hkind hx ⟨⟨_, Heap.get?_push_size _ rfl, rfl, rfl⟩, hT _ (up _ _ (N _ hm).1)⟩ (fun b hb => ?_)
    (F.keeps up) (N.grown up) (Nat.ne_of_lt F.ns.lt) (next_is_new F) (fun p hp => Nat.ne_of_lt (Heap.lt_size (N p hp).1)) hm (R _ ⟨_, rfl⟩) ?_
  · show b < (s₁.heap.push _).objs.size
    rw [Heap.size_push]
    rcases List.mem_cons.mp hb with rfl | hb
    · exact Nat.lt_succ_self _
    · rw [List.mem_singleton.mp hb]; exact Nat.lt_succ_of_lt hlt
  · intro D C h' tk m' ys news' F' N' o1 hn hC₀ hD₀ hCL hDL hCD offC fin
    show wpAny _ A (assign (.Name y py) env (.ref D)) _ _ _
    refine wpAny_assign_Name (wpAny_storeName_local hy F'.ns (fun h₂ hn₂ hs₂ => ?_) hp)
    have hL₀ : h₀.get? env.locals = none := Heap.get?_none_of_le F'.above
    have F₂ : Fr h₀ env.locals h₂ (fun z => if z = y then some (.ref D) else m z) := ⟨hn₂, fun b o e => hs₂.extBut b o (fun q => by rw [q, hL₀] at e; cases e) (F'.keep b o e), F'.above⟩
    refine ⟨m', hn.sameBut hs₂ hCL, fun h'' hs'' => fin D h'' _ (F₂.change hs'' hCL hC₀) (fun p hp => ?_) o1⟩
    have z : h₂.get? p.1 = some p.2 := hs₂.extBut _ _ (N' p hp).2.1 (N' p hp).1
    refine ⟨hs''.extBut _ _ ?_ z, (N' p hp).2⟩
    rcases List.mem_cons.mp hp with rfl | hp
    · exact Ne.symm hCD
    · exact offC p hp
end
end BL
end
-- part NT
section
set_option linter.unusedVariables false
open PySem PySem.W PySem.Spec PySem.Calls PyProof.Rows
set_option maxRecDepth 100000
set_option maxHeartbeats 8000000
set_option Elab.async false
namespace BL
local macro_rules | `(tactic| ktr_room) => `(tactic| ((try simp only [tc_depth, tc_units, depth_under_make, depth_under_kw, depth_in1, depth_deeper, units_in1, units_deeper, Around.mark_units, depth_mark]); (try dsimp only [ktrTop]); omega))
local macro_rules | `(tactic| k_room) => `(tactic| ktr_room)
local macro_rules | `(tactic| k_enter) => `(tactic| (refine' code_defG ?ke1 ?ke2 ?ke3 ?ke4 ?ke5 ?keA ?keF ?keK ?ke6 ?ke7 ?ke8 ?ke9 ?keB ?_ ?ked2 ?ked3 ?ked4 ?ked5; (case keA => exact rfl); (case keF => exact rfl); (case keK => first | exact rfl | assumption); (case ke1 => k_asm); (case ke2 => k_asm); (case ke3 => k_asm); (case ke4 => k_asm); (case ke5 => k_asm); (case ke6 => k_is); (case ke7 => k_is); (case ke8 => ktr_room); (case ke9 => first | exact BindsTo.of_eq rfl | exact binds_K (by k_in) rfl (by k_is) rfl rfl rfl); (case ked5 => decide); (case keB => exact locs rfl); (case ked2 => exact rfl); (case ked3 => exact rfl); (case ked4 => exact rfl); intro g' L' h' FG' F' N' B' X' T' kG'; (try dsimp only); (try k_lift B'); (try k_fold)))
local macro_rules | `(tactic| ktr_unf) => `(tactic| repeat' (first | (k_unfold; (try dsimp only)) | (k_end; wrow_close) | ((fail_if_success (first | (with_reducible show SrcT _ _ _ _ _ _ _ _ _ _ _ _ _ _) | (with_reducible show LCg.CompSrc _ _ _ _ _ _ _ _ _ _ _ _ _ _) | (with_reducible show LCg.CompEnd _ _ _ _ _ _ _ _ _ _ _ _ _ _) | (with_reducible show wpAny _ _ (eval (PySem.Expr.ListComp _ _ _ _) _) _ _ _) | (with_reducible show wpAny _ _ (exec (Stmt.Assign _ (PySem.Expr.ListComp _ _ _ _) _) _) _ _ _))); (first | walk1 | (dsimp only; walk1))) | fail "no step"))
local macro_rules | `(tactic| k_inst) => `(tactic| exact of_str (by k_asm) (by k_mem) (by k_mem))
local macro_rules | `(tactic| walk_at "pad 0") => `(tactic| fail)
local macro_rules | `(tactic| walk_at "pad 1") => `(tactic| fail)
local macro_rules | `(tactic| walk_at "pad 2") => `(tactic| fail)
local macro_rules | `(tactic| walk_at "pad 3") => `(tactic| fail)
local macro_rules | `(tactic| walk_at "pad 4") => `(tactic| fail)
local macro_rules | `(tactic| walk_at "pad 5") => `(tactic| fail)
local macro_rules | `(tactic| walk_at "pad 6") => `(tactic| fail)
local macro_rules | `(tactic| walk_at "call ref") => `(tactic| (k_here; (with_reducible show wpAny _ _ (call (Value.ref 387) _) _ _ _); k_dflt ((refine' vt_call _ _ ?vt1 ?vt2 ?vt3 ?vt4 ?vt5 ?vt6 ?vt7 ?vt8 ?_; (case vt1 => k_asm); (case vt2 => k_asm); (case vt3 => k_asm); (case vt4 => k_asm); (case vt5 => exact rfl); (case vt6 => ktr_room); (case vt7 => ktr_room); (case vt8 => omega)); intro lv dxv t1v slv hv tkv hgv hdv hnv hmv hltv hkv; (have Nq := news_two (by k_asm) (by k_asm) hnv hmv hgv hdv hkv); (have Fq := Fr.keeps (by k_asm) hkv)); (try k_sweep)))
local macro_rules | `(tactic| walk_at "call ref") => `(tactic| (k_here; (with_reducible show wpAny _ _ (call (Value.ref 365) _) _ _ _); k_dflt ((refine' ti_call _ _ _ _ _ ?ti1 ?ti2 ?ti3 ?ti4 ?ti5 ?ti6 ?ti7 ?ti8 ?ti9 ?tia ?tib ?tic ?_; (case ti1 => k_asm); (case ti2 => k_asm); (case ti3 => k_asm); (case ti4 => k_asm); (case ti5 => exact rfl); (case ti6 => ktr_room); (case ti7 => ktr_room); (case ti8 => exact strNews (by k_asm) (by k_mem) (by k_mem)); (case ti9 => omega); (case tia => assumption); (case tib => assumption); (case tic => assumption)); intro t9 hf9 tkf hkf; (have Nq := News.grown (by k_asm) hkf); (have Fq := Fr.keeps (by k_asm) hkf)); (try k_sweep)))
local macro_rules | `(tactic| walk_at "call builtin:bytes.decode") => `(tactic| (k_dflt (refine' dec_call ?ex1 ?ey1 ?_; (case ex1 => assumption); (case ey1 => assumption)); intro t9 k9))
local macro_rules | `(tactic| walk_at "getMethod str") => `(tactic| ((with_reducible show wpAny _ _ (getMethod (Value.str _ _) (Str.ofString "encode") _) _ _ _); k_dflt (refine enc_method ?_)))
local macro_rules | `(tactic| walk_at "call builtin:str.encode") => `(tactic| (k_dflt (refine' enc_W ?ex ?_; (case ex => with_reducible assumption)); intro t9 k9))
local macro_rules | `(tactic| walk_at "call builtin:str.join") => `(tactic| (k_here; (with_reducible show wpAny _ _ (call (Value.builtin _) [Value.str _ _, Value.ref _]) _ _ _); k_dflt (refine join_J (by k_asm) (by assumption) (by decide +kernel) (by with_reducible assumption) ?_); intro tj kj))
theorem nt_call {w : World} {dp un : Nat} {gd : Option (List Code)} {cn : Str} {cs : Scope} {L a : Addr} {ccd : Value} {cl : List (Str × Addr)} {outer : List Env} {A₀ : Around} {base h₀ : Heap} {m : Str → Option Value} {s : Shared} {Q E : Value → Shared → Prop}
    {p : Program} {loose : List Str} {mean : ExcName → Option Value} {mg mb : Str → Option Value} (x dx fx dfx : Addr) (e1 e2 n : Nat) (px : Addr) (fvs : List Value) (css : List (List Nat))
    (B : Below A₀ base outer h₀) (F : Fr h₀ L s.heap m) (X : (K w.params).In h₀) (T : Top p loose mean mg mb h₀) (hk : cs.kind = .function) (hd : dp + 60 < recursionLimit) (hu : un + 500 < cLine)
    (N : News h₀ L s.heap [(fx, { cls := .ref 512, dict := some dfx, data := .seq fvs.toArray }), (x, instObj 563 dx), (dx, dictOf [⟨PyData.keyHash w.params (S "fields"), .str (S "fields") e1, .ref fx⟩, ⟨PyData.keyHash w.params (S "params"), .str (S "params") e2, .ref px⟩] n)]) (hS : StrsAre fvs (css.map ofL)) (hsg : Sg css) (hn : css.length ≤ 8)
    (ret : ∀ t' h' tk', InElt s.heap h' → Q (.bytes (encB (joinL 59 (css.map fun cs => (escT (ofL cs)).cps.toList))).toArray t') { s with heap := h', toks := tk' }) :
    wpAny (model PySem.Challenge.rw_bl0008_01.row.prog w) (ktrTop dp un gd cn cs L a ccd cl outer) (call (.ref 535) [.ref x]) Q E s := by
  revert X
  w_top off
  k_fill
  intro X
  refine wpAny_call ?_
  k_dflt (refine' code_defG ?ke1 ?ke2 ?ke3 ?ke4 ?ke5 ?keA ?keF ?keK ?ke6 ?ke7 ?ke8 ?ke9 ?keB ?_ ?ked2 ?ked3 ?ked4 ?ked5; (case keA => exact rfl); (case keF => exact rfl); (case keK => first | exact rfl | assumption); (case ke1 => k_asm); (case ke2 => k_asm); (case ke3 => k_asm); (case ke4 => k_asm); (case ke5 => k_asm); (case ke6 => k_is); (case ke7 => k_is); (case ke8 => ktr_room); (case ke9 => first | exact BindsTo.of_eq rfl | exact binds_K (by k_in) rfl (by k_is) rfl rfl rfl); (case ked5 => decide); (case keB => exact locs rfl); (case ked2 => exact rfl); (case ked3 => exact rfl); (case ked4 => exact rfl))
  intro g' L' h' FG' F' N' B' X' T' kG'
  (try dsimp only)
  have hyl := strsAre_len hS
  rw [List.length_map] at hyl
  ktr_unf
  k_dflt (refine Assign_ListComp_T (F₀ := by k_asm) (by rfl) (by with_unfolding_all rfl) (by with_unfolding_all rfl) (by decide) (by rfl) (by decide) (by rfl) (by rfl) (by rfl) ?_)
  ktr_unf
  k_dflt (refine SrcT.sub (k := 0) (by rfl) (by k_asm) (by k_asm) (nf_sub (kTo (by k_asm) (by k_asm))) (.head _) (by rw [List.size_toArray]; omega) ?_)
  intro g2
  refine comp_ind (fun i zs news => StrsAre zs ((css.take i).map fun cs => escT (ofL cs)) ∧ zs.length = i ∧ news = [(fx, { cls := .ref 512, dict := some dfx, data := .seq fvs.toArray }), (x, instObj 563 dx), (dx, dictOf [⟨PyData.keyHash w.params (S "fields"), .str (S "fields") e1, .ref fx⟩, ⟨PyData.keyHash w.params (S "params"), .str (S "params") e2, .ref px⟩] n)]) fvs.toArray.size ?turn ?fin fvs.toArray.size 0 [] _ rfl ?start
  case start => exact ⟨.nil, rfl, rfl⟩
  case turn =>
    rintro i zs _ v I oI C oC Dz m₂ h tk E' hi ⟨hZ, hlen, rfl⟩ hv hoC hx F9 N9 off n1 n2 n3
    obtain ⟨y, ty, hy, hv2⟩ := strs_at hS (i := i) (by rw [List.size_toArray] at hi; exact hi)
    rw [List.getElem?_map] at hy
    obtain ⟨cs, hcs, rfl⟩ := Option.map_eq_some_iff.mp hy
    obtain rfl : v = .str (ofL cs) ty := by
      have e : fvs[i]? = some v := by simpa using hv
      rw [e] at hv2
      exact Option.some.inj hv2
    have hsc := hsg cs (List.mem_of_getElem? hcs)
    have hcl : (ofL cs).length ≤ 3 := hsc.1
    obtain ⟨hp1, hp2, hp3⟩ := plain_sg hsc.2
    have hq1 : ∀ c ∈ (escT (ofL cs)).cps.toList, Plain7 c := escT_plain hp1
    have hq2 : (escT (ofL cs)).cps.toList.length ≤ 1000 := by
      have := escT_len (ofL cs)
      show (escT (ofL cs)).length ≤ 1000
      omega
    ktr_unf
    rename Fr g' L' _ _ => F5
    rename News g' L' _ _ => N5
    refine LCg.CompEnd.intro F5 N5 [(fx, { cls := .ref 512, dict := some dfx, data := .seq fvs.toArray }), (x, instObj 563 dx), (dx, dictOf [⟨PyData.keyHash w.params (S "fields"), .str (S "fields") e1, .ref fx⟩, ⟨PyData.keyHash w.params (S "params"), .str (S "params") e2, .ref px⟩] n)] (fun p hp => .tail _ (.tail _ hp)) (LCg.Off3.of off) (.head _) ⟨?_, by simp [hlen], rfl⟩
    rw [back_str, take_at hcs, List.map_append]
    exact strsAre_snoc hZ _ _
  case fin =>
    rintro zs _ ⟨hZ, hlen, rfl⟩ Dd h4 tk4 F4 N4 o4
    rw [List.take_of_length_le (by rw [List.size_toArray]; omega)] at hZ
    have e1 : (Txt.join (Str.ofString ";") (css.map fun cs => escT (ofL cs))).cps.toList = joinL 59 (css.map fun cs => (escT (ofL cs)).cps.toList) := by
      rw [semi_is]
      exact (join_cps 59 _).trans (by rw [cpsL, List.map_map]; rfl)
    have hlen2 := esc_lens hsg
    have hw : JoinW (css.map fun cs => escT (ofL cs)) := by
      unfold JoinW
      have := sum_le hlen2
      rw [List.length_map] at this ⊢
      omega
    have hS7 := sur_plain (join_plain (p := 59) (by unfold Plain7; omega) (esc_plains hsg))
    rw [← e1] at hS7
    have hL7 : (Txt.join (Str.ofString ";") (css.map fun cs => escT (ofL cs))).length ≤ 1000 := by
      show (Txt.join (Str.ofString ";") (css.map fun cs => escT (ofL cs))).cps.size ≤ 1000
      rw [← Array.length_toList, e1]
      have := joinL_len 59 (css.map fun cs => (escT (ofL cs)).cps.toList) (n := 48) (fun x hx => by
        obtain ⟨cs, hc, rfl⟩ := List.mem_map.mp hx
        exact hlen2 _ (List.mem_map_of_mem (f := fun cs => escT (ofL cs)) hc))
      rw [List.length_map] at this
      omega
    have hEW : EncW (Txt.join (Str.ofString ";") (css.map fun cs => escT (ofL cs))) := ⟨hS7, hL7⟩
    clear hS7 hL7 hlen2
    ktr_unf
    rename Fr g' L' _ _ => F9
    rename News g' L' _ _ => N9
    rw [e1]
    exact ret _ _ _ (inElt_led kG' F9 N (fun p hp => N9 p (.tail _ hp)))
end BL
namespace BL
end BL
end
-- part AT
section
set_option linter.unusedVariables false
open PySem PySem.W PySem.Spec PySem.Calls PyProof.Rows
set_option maxRecDepth 100000
set_option maxHeartbeats 8000000
set_option Elab.async false
namespace BL
local macro_rules | `(tactic| ktr_room) => `(tactic| ((try simp only [tc_depth, tc_units, depth_under_make, depth_under_kw, depth_in1, depth_deeper, units_in1, units_deeper, Around.mark_units, depth_mark]); (try dsimp only [ktrTop]); omega))
local macro_rules | `(tactic| k_room) => `(tactic| ktr_room)
local macro_rules | `(tactic| k_enter) => `(tactic| (refine' code_defG ?ke1 ?ke2 ?ke3 ?ke4 ?ke5 ?keA ?keF ?keK ?ke6 ?ke7 ?ke8 ?ke9 ?keB ?_ ?ked2 ?ked3 ?ked4 ?ked5; (case keA => exact rfl); (case keF => exact rfl); (case keK => first | exact rfl | assumption); (case ke1 => k_asm); (case ke2 => k_asm); (case ke3 => k_asm); (case ke4 => k_asm); (case ke5 => k_asm); (case ke6 => k_is); (case ke7 => k_is); (case ke8 => ktr_room); (case ke9 => first | exact BindsTo.of_eq rfl | exact binds_K (by k_in) rfl (by k_is) rfl rfl rfl); (case ked5 => decide); (case keB => exact locs rfl); (case ked2 => exact rfl); (case ked3 => exact rfl); (case ked4 => exact rfl); intro g' L' h' FG' F' N' B' X' T' kG'; (try dsimp only); (try k_lift B'); (try k_fold)))
local macro_rules | `(tactic| ktr_unf) => `(tactic| repeat' (first | (k_unfold; (try dsimp only)) | (k_end; wrow_close) | ((fail_if_success (first | (with_reducible show SrcT _ _ _ _ _ _ _ _ _ _ _ _ _ _) | (with_reducible show LCg.CompSrc _ _ _ _ _ _ _ _ _ _ _ _ _ _) | (with_reducible show LCg.CompEnd _ _ _ _ _ _ _ _ _ _ _ _ _ _) | (with_reducible show wpAny _ _ (eval (PySem.Expr.ListComp _ _ _ _) _) _ _ _) | (with_reducible show wpAny _ _ (exec (Stmt.Assign _ (PySem.Expr.ListComp _ _ _ _) _) _) _ _ _))); (first | walk1 | (dsimp only; walk1))) | fail "no step"))
local macro_rules | `(tactic| k_inst) => `(tactic| exact of_str (by k_asm) (by k_mem) (by k_mem))
local macro_rules | `(tactic| walk_at "pad 0") => `(tactic| fail)
local macro_rules | `(tactic| walk_at "pad 1") => `(tactic| fail)
local macro_rules | `(tactic| walk_at "pad 2") => `(tactic| fail)
local macro_rules | `(tactic| walk_at "pad 3") => `(tactic| fail)
local macro_rules | `(tactic| walk_at "pad 4") => `(tactic| fail)
local macro_rules | `(tactic| walk_at "pad 5") => `(tactic| fail)
local macro_rules | `(tactic| walk_at "pad 6") => `(tactic| fail)
local macro_rules | `(tactic| walk_at "pad 7") => `(tactic| fail)
local macro_rules | `(tactic| walk_at "pad 8") => `(tactic| fail)
local macro_rules | `(tactic| walk_at "pad 9") => `(tactic| fail)
local macro_rules | `(tactic| walk_at "pad 10") => `(tactic| fail)
local macro_rules | `(tactic| walk_at "pad 11") => `(tactic| fail)
local macro_rules | `(tactic| walk_at "pad 12") => `(tactic| fail)
local macro_rules | `(tactic| walk_at "call ref") => `(tactic| (k_here; (with_reducible show wpAny _ _ (call (Value.ref 387) _) _ _ _); k_dflt ((refine' vt_call _ _ ?vt1 ?vt2 ?vt3 ?vt4 ?vt5 ?vt6 ?vt7 ?vt8 ?_; (case vt1 => k_asm); (case vt2 => k_asm); (case vt3 => k_asm); (case vt4 => k_asm); (case vt5 => exact rfl); (case vt6 => ktr_room); (case vt7 => ktr_room); (case vt8 => omega)); intro lv dxv t1v slv hv tkv hgv hdv hnv hmv hltv hkv; (have Nq := news_two (by k_asm) (by k_asm) hnv hmv hgv hdv hkv); (have Fq := Fr.keeps (by k_asm) hkv)); (try k_sweep)))
local macro_rules | `(tactic| walk_at "call ref") => `(tactic| (k_here; (with_reducible show wpAny _ _ (call (Value.ref 365) _) _ _ _); k_dflt ((refine' ti_call _ _ _ _ _ ?ti1 ?ti2 ?ti3 ?ti4 ?ti5 ?ti6 ?ti7 ?ti8 ?ti9 ?tia ?tib ?tic ?_; (case ti1 => k_asm); (case ti2 => k_asm); (case ti3 => k_asm); (case ti4 => k_asm); (case ti5 => exact rfl); (case ti6 => ktr_room); (case ti7 => ktr_room); (case ti8 => exact strNews (by k_asm) (by k_mem) (by k_mem)); (case ti9 => omega); (case tia => assumption); (case tib => assumption); (case tic => assumption)); intro t9 hf9 tkf hkf; (have Nq := News.grown (by k_asm) hkf); (have Fq := Fr.keeps (by k_asm) hkf)); (try k_sweep)))
local macro_rules | `(tactic| walk_at "call builtin:bytes.decode") => `(tactic| (k_dflt (refine' dec_call ?ex1 ?ey1 ?_; (case ex1 => assumption); (case ey1 => assumption)); intro t9 k9))
local macro_rules | `(tactic| walk_at "getMethod str") => `(tactic| ((with_reducible show wpAny _ _ (getMethod (Value.str _ _) (Str.ofString "encode") _) _ _ _); k_dflt (refine enc_method ?_)))
local macro_rules | `(tactic| walk_at "call builtin:str.encode") => `(tactic| (k_dflt (refine' enc_W ?ex ?_; (case ex => with_reducible assumption)); intro t9 k9))
local macro_rules | `(tactic| walk_at "call builtin:str.join") => `(tactic| (k_here; (with_reducible show wpAny _ _ (call (Value.builtin _) [Value.str _ _, Value.ref _]) _ _ _); k_dflt (refine join_J (by k_asm) (by assumption) (by decide +kernel) (by with_reducible assumption) ?_); intro tj kj))
theorem at_call {w : World} {dp un : Nat} {gd : Option (List Code)} {cn : Str} {cs : Scope} {L a : Addr} {ccd : Value} {cl : List (Str × Addr)} {outer : List Env} {A₀ : Around} {base h₀ : Heap} {m : Str → Option Value} {s : Shared} {Q E : Value → Shared → Prop}
    {p : Program} {loose : List Str} {mean : ExcName → Option Value} {mg mb : Str → Option Value} (x dx fx dfx : Addr) (e1 e2 n : Nat) (px : Addr) (fvs : List Value) (css : List (List Nat))
    (B : Below A₀ base outer h₀) (F : Fr h₀ L s.heap m) (X : (K w.params).In h₀) (T : Top p loose mean mg mb h₀) (hk : cs.kind = .function) (hd : dp + 60 < recursionLimit) (hu : un + 500 < cLine)
    (N : News h₀ L s.heap [(fx, { cls := .ref 693, dict := some dfx, data := .seq fvs.toArray }), (x, instObj 744 dx), (dx, dictOf [⟨PyData.keyHash w.params (S "fields"), .str (S "fields") e1, .ref fx⟩, ⟨PyData.keyHash w.params (S "params"), .str (S "params") e2, .ref px⟩] n)]) (hS : StrsAre fvs (css.map ofL)) (hsg : Sg css) (hn : css.length ≤ 8)
    (ret : ∀ t' h' tk', InElt s.heap h' → Q (.bytes (encB (joinL 59 (css.map fun cs => (escT (ofL cs)).cps.toList))).toArray t') { s with heap := h', toks := tk' }) :
    wpAny (model PySem.Challenge.rw_bl0008_01.row.prog w) (ktrTop dp un gd cn cs L a ccd cl outer) (call (.ref 716) [.ref x]) Q E s := by
  revert X
  w_top off
  k_fill
  intro X
  refine wpAny_call ?_
  k_dflt (refine' code_defG ?ke1 ?ke2 ?ke3 ?ke4 ?ke5 ?keA ?keF ?keK ?ke6 ?ke7 ?ke8 ?ke9 ?keB ?_ ?ked2 ?ked3 ?ked4 ?ked5; (case keA => exact rfl); (case keF => exact rfl); (case keK => first | exact rfl | assumption); (case ke1 => k_asm); (case ke2 => k_asm); (case ke3 => k_asm); (case ke4 => k_asm); (case ke5 => k_asm); (case ke6 => k_is); (case ke7 => k_is); (case ke8 => ktr_room); (case ke9 => first | exact BindsTo.of_eq rfl | exact binds_K (by k_in) rfl (by k_is) rfl rfl rfl); (case ked5 => decide); (case keB => exact locs rfl); (case ked2 => exact rfl); (case ked3 => exact rfl); (case ked4 => exact rfl))
  intro g' L' h' FG' F' N' B' X' T' kG'
  (try dsimp only)
  have hyl := strsAre_len hS
  rw [List.length_map] at hyl
  ktr_unf
  k_dflt (refine Assign_ListComp_T (F₀ := by k_asm) (by rfl) (by with_unfolding_all rfl) (by with_unfolding_all rfl) (by decide) (by rfl) (by decide) (by rfl) (by rfl) (by rfl) ?_)
  ktr_unf
  k_dflt (refine SrcT.sub (k := 0) (by rfl) (by k_asm) (by k_asm) (af_sub (kTo (by k_asm) (by k_asm))) (.head _) (by rw [List.size_toArray]; omega) ?_)
  intro g2
  refine comp_ind (fun i zs news => StrsAre zs ((css.take i).map fun cs => escT (ofL cs)) ∧ zs.length = i ∧ news = [(fx, { cls := .ref 693, dict := some dfx, data := .seq fvs.toArray }), (x, instObj 744 dx), (dx, dictOf [⟨PyData.keyHash w.params (S "fields"), .str (S "fields") e1, .ref fx⟩, ⟨PyData.keyHash w.params (S "params"), .str (S "params") e2, .ref px⟩] n)]) fvs.toArray.size ?turn ?fin fvs.toArray.size 0 [] _ rfl ?start
  case start => exact ⟨.nil, rfl, rfl⟩
  case turn =>
    rintro i zs _ v I oI C oC Dz m₂ h tk E' hi ⟨hZ, hlen, rfl⟩ hv hoC hx F9 N9 off n1 n2 n3
    obtain ⟨y, ty, hy, hv2⟩ := strs_at hS (i := i) (by rw [List.size_toArray] at hi; exact hi)
    rw [List.getElem?_map] at hy
    obtain ⟨cs, hcs, rfl⟩ := Option.map_eq_some_iff.mp hy
    obtain rfl : v = .str (ofL cs) ty := by
      have e : fvs[i]? = some v := by simpa using hv
      rw [e] at hv2
      exact Option.some.inj hv2
    have hsc := hsg cs (List.mem_of_getElem? hcs)
    have hcl : (ofL cs).length ≤ 3 := hsc.1
    obtain ⟨hp1, hp2, hp3⟩ := plain_sg hsc.2
    have hq1 : ∀ c ∈ (escT (ofL cs)).cps.toList, Plain7 c := escT_plain hp1
    have hq2 : (escT (ofL cs)).cps.toList.length ≤ 1000 := by
      have := escT_len (ofL cs)
      show (escT (ofL cs)).length ≤ 1000
      omega
    ktr_unf
    rename Fr g' L' _ _ => F5
    rename News g' L' _ _ => N5
    refine LCg.CompEnd.intro F5 N5 [(fx, { cls := .ref 693, dict := some dfx, data := .seq fvs.toArray }), (x, instObj 744 dx), (dx, dictOf [⟨PyData.keyHash w.params (S "fields"), .str (S "fields") e1, .ref fx⟩, ⟨PyData.keyHash w.params (S "params"), .str (S "params") e2, .ref px⟩] n)] (fun p hp => .tail _ (.tail _ hp)) (LCg.Off3.of off) (.head _) ⟨?_, by simp [hlen], rfl⟩
    rw [back_str, take_at hcs, List.map_append]
    exact strsAre_snoc hZ _ _
  case fin =>
    rintro zs _ ⟨hZ, hlen, rfl⟩ Dd h4 tk4 F4 N4 o4
    rw [List.take_of_length_le (by rw [List.size_toArray]; omega)] at hZ
    have e1 : (Txt.join (Str.ofString ";") (css.map fun cs => escT (ofL cs))).cps.toList = joinL 59 (css.map fun cs => (escT (ofL cs)).cps.toList) := by
      rw [semi_is]
      exact (join_cps 59 _).trans (by rw [cpsL, List.map_map]; rfl)
    have hlen2 := esc_lens hsg
    have hw : JoinW (css.map fun cs => escT (ofL cs)) := by
      unfold JoinW
      have := sum_le hlen2
      rw [List.length_map] at this ⊢
      omega
    have hS7 := sur_plain (join_plain (p := 59) (by unfold Plain7; omega) (esc_plains hsg))
    rw [← e1] at hS7
    have hL7 : (Txt.join (Str.ofString ";") (css.map fun cs => escT (ofL cs))).length ≤ 1000 := by
      show (Txt.join (Str.ofString ";") (css.map fun cs => escT (ofL cs))).cps.size ≤ 1000
      rw [← Array.length_toList, e1]
      have := joinL_len 59 (css.map fun cs => (escT (ofL cs)).cps.toList) (n := 48) (fun x hx => by
        obtain ⟨cs, hc, rfl⟩ := List.mem_map.mp hx
        exact hlen2 _ (List.mem_map_of_mem (f := fun cs => escT (ofL cs)) hc))
      rw [List.length_map] at this
      omega
    have hEW : EncW (Txt.join (Str.ofString ";") (css.map fun cs => escT (ofL cs))) := ⟨hS7, hL7⟩
    clear hS7 hL7 hlen2
    ktr_unf
    rename Fr g' L' _ _ => F9
    rename News g' L' _ _ => N9
    rw [e1]
    exact ret _ _ _ (inElt_led kG' F9 N (fun p hp => N9 p (.tail _ hp)))
end BL
namespace BL
end BL
end
-- part OT
section
set_option linter.unusedVariables false
open PySem PySem.W PySem.Spec PySem.Calls PyProof.Rows
set_option maxRecDepth 100000
set_option maxHeartbeats 8000000
set_option Elab.async false
namespace BL
local macro_rules | `(tactic| ktr_room) => `(tactic| ((try simp only [tc_depth, tc_units, depth_under_make, depth_under_kw, depth_in1, depth_deeper, units_in1, units_deeper, Around.mark_units, depth_mark]); (try dsimp only [ktrTop]); omega))
local macro_rules | `(tactic| k_room) => `(tactic| ktr_room)
local macro_rules | `(tactic| k_enter) => `(tactic| (refine' code_defG ?ke1 ?ke2 ?ke3 ?ke4 ?ke5 ?keA ?keF ?keK ?ke6 ?ke7 ?ke8 ?ke9 ?keB ?_ ?ked2 ?ked3 ?ked4 ?ked5; (case keA => exact rfl); (case keF => exact rfl); (case keK => first | exact rfl | assumption); (case ke1 => k_asm); (case ke2 => k_asm); (case ke3 => k_asm); (case ke4 => k_asm); (case ke5 => k_asm); (case ke6 => k_is); (case ke7 => k_is); (case ke8 => ktr_room); (case ke9 => first | exact BindsTo.of_eq rfl | exact binds_K (by k_in) rfl (by k_is) rfl rfl rfl); (case ked5 => decide); (case keB => exact locs rfl); (case ked2 => exact rfl); (case ked3 => exact rfl); (case ked4 => exact rfl); intro g' L' h' FG' F' N' B' X' T' kG'; (try dsimp only); (try k_lift B'); (try k_fold)))
local macro_rules | `(tactic| ktr_unf) => `(tactic| repeat' (first | (k_unfold; (try dsimp only)) | (k_end; wrow_close) | ((fail_if_success (first | (with_reducible show SrcT _ _ _ _ _ _ _ _ _ _ _ _ _ _) | (with_reducible show LCg.CompSrc _ _ _ _ _ _ _ _ _ _ _ _ _ _) | (with_reducible show LCg.CompEnd _ _ _ _ _ _ _ _ _ _ _ _ _ _) | (with_reducible show wpAny _ _ (eval (PySem.Expr.ListComp _ _ _ _) _) _ _ _) | (with_reducible show wpAny _ _ (exec (Stmt.Assign _ (PySem.Expr.ListComp _ _ _ _) _) _) _ _ _))); (first | walk1 | (dsimp only; walk1))) | fail "no step"))
local macro_rules | `(tactic| k_inst) => `(tactic| exact of_str (by k_asm) (by k_mem) (by k_mem))
local macro_rules | `(tactic| walk_at "call ref") => `(tactic| (k_here; (with_reducible show wpAny _ _ (call (Value.ref 387) _) _ _ _); k_dflt ((refine' vt_call _ _ ?vt1 ?vt2 ?vt3 ?vt4 ?vt5 ?vt6 ?vt7 ?vt8 ?_; (case vt1 => k_asm); (case vt2 => k_asm); (case vt3 => k_asm); (case vt4 => k_asm); (case vt5 => exact rfl); (case vt6 => ktr_room); (case vt7 => ktr_room); (case vt8 => omega)); intro lv dxv t1v slv hv tkv hgv hdv hnv hmv hltv hkv; (have Nq := news_two (by k_asm) (by k_asm) hnv hmv hgv hdv hkv); (have Fq := Fr.keeps (by k_asm) hkv)); (try k_sweep)))
local macro_rules | `(tactic| walk_at "call ref") => `(tactic| (k_here; (with_reducible show wpAny _ _ (call (Value.ref 365) _) _ _ _); k_dflt ((refine' ti_call _ _ _ _ _ ?ti1 ?ti2 ?ti3 ?ti4 ?ti5 ?ti6 ?ti7 ?ti8 ?ti9 ?tia ?tib ?tic ?_; (case ti1 => k_asm); (case ti2 => k_asm); (case ti3 => k_asm); (case ti4 => k_asm); (case ti5 => exact rfl); (case ti6 => ktr_room); (case ti7 => ktr_room); (case ti8 => exact strNews (by k_asm) (by k_mem) (by k_mem)); (case ti9 => omega); (case tia => assumption); (case tib => assumption); (case tic => assumption)); intro t9 hf9 tkf hkf; (have Nq := News.grown (by k_asm) hkf); (have Fq := Fr.keeps (by k_asm) hkf)); (try k_sweep)))
local macro_rules | `(tactic| walk_at "call builtin:bytes.decode") => `(tactic| (k_dflt (refine' dec_call ?ex1 ?ey1 ?_; (case ex1 => assumption); (case ey1 => assumption)); intro t9 k9))
local macro_rules | `(tactic| walk_at "getMethod str") => `(tactic| ((with_reducible show wpAny _ _ (getMethod (Value.str _ _) (Str.ofString "encode") _) _ _ _); k_dflt (refine enc_method ?_)))
local macro_rules | `(tactic| walk_at "call builtin:str.encode") => `(tactic| (k_dflt (refine' enc_W ?ex ?_; (case ex => with_reducible assumption)); intro t9 k9))
local macro_rules | `(tactic| walk_at "call builtin:str.join") => `(tactic| (k_here; (with_reducible show wpAny _ _ (call (Value.builtin _) [Value.str _ _, Value.ref _]) _ _ _); k_dflt (refine join_J (by k_asm) (by assumption) (by decide +kernel) (by with_reducible assumption) ?_); intro tj kj))
theorem ot_call {w : World} {dp un : Nat} {gd : Option (List Code)} {cn : Str} {cs : Scope} {L a : Addr} {ccd : Value} {cl : List (Str × Addr)} {outer : List Env} {A₀ : Around} {base h₀ : Heap} {m : Str → Option Value} {s : Shared} {Q E : Value → Shared → Prop}
    {p : Program} {loose : List Str} {mean : ExcName → Option Value} {mg mb : Str → Option Value} (x dx fx : Addr) (e1 e2 n : Nat) (px : Addr) (fvs : List Value) (css : List (List Nat))
    (B : Below A₀ base outer h₀) (F : Fr h₀ L s.heap m) (X : (K w.params).In h₀) (T : Top p loose mean mg mb h₀) (hk : cs.kind = .function) (hd : dp + 60 < recursionLimit) (hu : un + 500 < cLine)
    (N : News h₀ L s.heap [(fx, { cls := .type "tuple", data := .seq fvs.toArray }), (x, instObj 869 dx), (dx, dictOf [⟨PyData.keyHash w.params (S "fields"), .str (S "fields") e1, .ref fx⟩, ⟨PyData.keyHash w.params (S "params"), .str (S "params") e2, .ref px⟩] n)]) (hS : StrsAre fvs (css.map ofL)) (hsg : Sg css) (hn : css.length ≤ 8)
    (ret : ∀ t' h' tk', InElt s.heap h' → Q (.bytes (encB (joinL 59 (css.map fun cs => (escT (ofL cs)).cps.toList))).toArray t') { s with heap := h', toks := tk' }) :
    wpAny (model PySem.Challenge.rw_bl0008_01.row.prog w) (ktrTop dp un gd cn cs L a ccd cl outer) (call (.ref 825) [.ref x]) Q E s := by
  revert X
  w_top off
  k_fill
  intro X
  refine wpAny_call ?_
  k_dflt (refine' code_defG ?ke1 ?ke2 ?ke3 ?ke4 ?ke5 ?keA ?keF ?keK ?ke6 ?ke7 ?ke8 ?ke9 ?keB ?_ ?ked2 ?ked3 ?ked4 ?ked5; (case keA => exact rfl); (case keF => exact rfl); (case keK => first | exact rfl | assumption); (case ke1 => k_asm); (case ke2 => k_asm); (case ke3 => k_asm); (case ke4 => k_asm); (case ke5 => k_asm); (case ke6 => k_is); (case ke7 => k_is); (case ke8 => ktr_room); (case ke9 => first | exact BindsTo.of_eq rfl | exact binds_K (by k_in) rfl (by k_is) rfl rfl rfl); (case ked5 => decide); (case keB => exact locs rfl); (case ked2 => exact rfl); (case ked3 => exact rfl); (case ked4 => exact rfl))
  intro g' L' h' FG' F' N' B' X' T' kG'
  (try dsimp only)
  have hyl := strsAre_len hS
  rw [List.length_map] at hyl
  ktr_unf
  k_dflt (refine Assign_ListComp_T (F₀ := by k_asm) (by rfl) (by with_unfolding_all rfl) (by with_unfolding_all rfl) (by decide) (by rfl) (by decide) (by rfl) (by rfl) (by rfl) ?_)
  ktr_unf
  k_dflt (refine SrcT.tup (k := 0) (by rfl) (by k_asm) (by k_asm) (.head _) (by rw [List.size_toArray]; omega) ?_)
  intro g2
  refine comp_ind (fun i zs news => StrsAre zs ((css.take i).map fun cs => escT (ofL cs)) ∧ zs.length = i ∧ news = [(fx, { cls := .type "tuple", data := .seq fvs.toArray }), (x, instObj 869 dx), (dx, dictOf [⟨PyData.keyHash w.params (S "fields"), .str (S "fields") e1, .ref fx⟩, ⟨PyData.keyHash w.params (S "params"), .str (S "params") e2, .ref px⟩] n)]) fvs.toArray.size ?turn ?fin fvs.toArray.size 0 [] _ rfl ?start
  case start => exact ⟨.nil, rfl, rfl⟩
  case turn =>
    rintro i zs _ v I oI C oC Dz m₂ h tk E' hi ⟨hZ, hlen, rfl⟩ hv hoC hx F9 N9 off n1 n2 n3
    obtain ⟨y, ty, hy, hv2⟩ := strs_at hS (i := i) (by rw [List.size_toArray] at hi; exact hi)
    rw [List.getElem?_map] at hy
    obtain ⟨cs, hcs, rfl⟩ := Option.map_eq_some_iff.mp hy
    obtain rfl : v = .str (ofL cs) ty := by
      have e : fvs[i]? = some v := by simpa using hv
      rw [e] at hv2
      exact Option.some.inj hv2
    have hsc := hsg cs (List.mem_of_getElem? hcs)
    have hcl : (ofL cs).length ≤ 3 := hsc.1
    obtain ⟨hp1, hp2, hp3⟩ := plain_sg hsc.2
    have hq1 : ∀ c ∈ (escT (ofL cs)).cps.toList, Plain7 c := escT_plain hp1
    have hq2 : (escT (ofL cs)).cps.toList.length ≤ 1000 := by
      have := escT_len (ofL cs)
      show (escT (ofL cs)).length ≤ 1000
      omega
    ktr_unf
    rename Fr g' L' _ _ => F5
    rename News g' L' _ _ => N5
    refine LCg.CompEnd.intro F5 N5 [(fx, { cls := .type "tuple", data := .seq fvs.toArray }), (x, instObj 869 dx), (dx, dictOf [⟨PyData.keyHash w.params (S "fields"), .str (S "fields") e1, .ref fx⟩, ⟨PyData.keyHash w.params (S "params"), .str (S "params") e2, .ref px⟩] n)] (fun p hp => .tail _ (.tail _ hp)) (LCg.Off3.of off) (.head _) ⟨?_, by simp [hlen], rfl⟩
    rw [back_str, take_at hcs, List.map_append]
    exact strsAre_snoc hZ _ _
  case fin =>
    rintro zs _ ⟨hZ, hlen, rfl⟩ Dd h4 tk4 F4 N4 o4
    rw [List.take_of_length_le (by rw [List.size_toArray]; omega)] at hZ
    have e1 : (Txt.join (Str.ofString ";") (css.map fun cs => escT (ofL cs))).cps.toList = joinL 59 (css.map fun cs => (escT (ofL cs)).cps.toList) := by
      rw [semi_is]
      exact (join_cps 59 _).trans (by rw [cpsL, List.map_map]; rfl)
    have hlen2 := esc_lens hsg
    have hw : JoinW (css.map fun cs => escT (ofL cs)) := by
      unfold JoinW
      have := sum_le hlen2
      rw [List.length_map] at this ⊢
      omega
    have hS7 := sur_plain (join_plain (p := 59) (by unfold Plain7; omega) (esc_plains hsg))
    rw [← e1] at hS7
    have hL7 : (Txt.join (Str.ofString ";") (css.map fun cs => escT (ofL cs))).length ≤ 1000 := by
      show (Txt.join (Str.ofString ";") (css.map fun cs => escT (ofL cs))).cps.size ≤ 1000
      rw [← Array.length_toList, e1]
      have := joinL_len 59 (css.map fun cs => (escT (ofL cs)).cps.toList) (n := 48) (fun x hx => by
        obtain ⟨cs, hc, rfl⟩ := List.mem_map.mp hx
        exact hlen2 _ (List.mem_map_of_mem (f := fun cs => escT (ofL cs)) hc))
      rw [List.length_map] at this
      omega
    have hEW : EncW (Txt.join (Str.ofString ";") (css.map fun cs => escT (ofL cs))) := ⟨hS7, hL7⟩
    clear hS7 hL7 hlen2
    ktr_unf
    rename Fr g' L' _ _ => F9
    rename News g' L' _ _ => N9
    rw [e1]
    exact ret _ _ _ (inElt_led kG' F9 N (fun p hp => N9 p (.tail _ hp)))
end BL
namespace BL
end BL
end
-- part BJ
section
set_option linter.unusedVariables false
set_option linter.unusedSimpArgs false
open PySem PySem.W PySem.Spec PySem.Calls PyProof.Rows Builtin Builtin.Bytes
set_option maxRecDepth 100000
set_option maxHeartbeats 4000000
namespace BL
theorem bj_plain : plainId "bytes.join" = true := by decide +kernel
theorem bj_entry : entryFor table "bytes.join" = some Builtin.«bytes.join» := entryFor_of_tree (by kernel_rfl)
theorem bj_args (a b : Value) : argsOk "bytes.join" ⟨[a, b], []⟩ := by unfold argsOk; kernel_rfl
theorem bj_slot : Slot "bytes" "join" "bytes.join" := .of (owner := "bytes") (n := "join") (by rw [typeLookup_type, builtinLookup_eq_fast]; kernel_rfl) (by decide +kernel) (by decide +kernel) (by decide +kernel)
  (by first | exact .inl (by decide +kernel) | exact .inr (by decide +kernel)) (by rw [isSubtype_type]; kernel_rfl)
theorem bj_take (a : Array UInt8) (t : Tok) : takeBufferQuiet? "bytes.join" (.bytes a t) 0 = pure (some (a, none)) := by
  unfold takeBufferQuiet? takeBuffer? specialOf
  rw [show typeOf (.bytes a t) = pure (.type "bytes") from rfl]
  simp only [pure_bind]
  rw [typeLookup_type, builtinLookup_eq_fast]
  kernel_rfl
end BL
end
-- part BK
section
set_option linter.unusedVariables false
set_option linter.unusedSimpArgs false
open PySem PySem.W PySem.Spec PySem.Calls PyProof.Rows Builtin Builtin.Bytes
set_option maxRecDepth 100000
set_option maxHeartbeats 4000000
namespace BL
section
variable {prog : Program} {w : World} {A : Around} {E : Value → Shared → Prop} {s : Shared}
theorem bj_1 {D : Addr} {sep a : Array UInt8} {ts ta : Tok} {n : Nat} {Q : Value → Shared → Prop} (ho : s.heap.get? D = some { cls := .type "list", data := .seq #[.bytes a ta] n })
    (hz : a.size + 3 * sep.size ≤ 10000) (hj : (joined sep [a]).size ≤ 10000) (q : ∀ t' tk', Q (.bytes (joined sep [a]) t') { s with toks := tk' }) :
    wpAny (model prog w) A (PySem.call (.builtin "bytes.join") [.bytes sep ts, .ref D]) Q E s := by
  obtain ⟨hp, g, dr, tk, os⟩ := s
  have ty : Looks (model prog w) hp (typeOf (.ref D)) (.type "list") := (Looks.ld ho).andThen .now
  refine wpAny_call_entry bj_slot (typeIs_bytes _ _ _) bj_entry ?_ (bj_args _ _)
  show wpAny _ _ (joinM .bytes ⟨[.bytes sep ts, .ref D], []⟩) _ _ _
  have hid : (toString Kind.bytes.name ++ toString ".join") = "bytes.join" := by decide +kernel
  unfold joinM joinItems
  repeat (first | simp only [hid, beq_self_eq_true, Bool.true_or, Bool.false_eq_true, if_false, if_true] | ((with_reducible show wpAny _ _ (takeBufferQuiet? _ _ _) _ _ _); refine wpAny_of_eq (bj_take _ _) ?_) | lk)
  have e : joined sep [a] = a := by simp [joined]
  rw [e] at q
  exact ⟨_, rfl, q _ _⟩
theorem bj_2 {D : Addr} {sep a b : Array UInt8} {ts ta tb : Tok} {n : Nat} {Q : Value → Shared → Prop} (ho : s.heap.get? D = some { cls := .type "list", data := .seq #[.bytes a ta, .bytes b tb] n })
    (hz : a.size + b.size + 3 * sep.size ≤ 10000) (hj : (joined sep [a, b]).size ≤ 10000) (q : ∀ t' tk', Q (.bytes (joined sep [a, b]) t') { s with toks := tk' }) :
    wpAny (model prog w) A (PySem.call (.builtin "bytes.join") [.bytes sep ts, .ref D]) Q E s := by
  obtain ⟨hp, g, dr, tk, os⟩ := s
  have ty : Looks (model prog w) hp (typeOf (.ref D)) (.type "list") := (Looks.ld ho).andThen .now
  refine wpAny_call_entry bj_slot (typeIs_bytes _ _ _) bj_entry ?_ (bj_args _ _)
  show wpAny _ _ (joinM .bytes ⟨[.bytes sep ts, .ref D], []⟩) _ _ _
  have hid : (toString Kind.bytes.name ++ toString ".join") = "bytes.join" := by decide +kernel
  unfold joinM joinItems
  repeat (first | simp only [hid, beq_self_eq_true, Bool.true_or, Bool.false_eq_true, if_false, if_true] | ((with_reducible show wpAny _ _ (takeBufferQuiet? _ _ _) _ _ _); refine wpAny_of_eq (bj_take _ _) ?_) | ((fail_if_success (with_reducible show wpAny _ _ (forIn _ _ _) _ _ _)); lk))
  rw [Std.Legacy.Range.forIn_eq_forIn_range']
  rw [show List.range' [:#[Value.bytes a ta, Value.bytes b tb].size].start [:#[Value.bytes a ta, Value.bytes b tb].size].size [:#[Value.bytes a ta, Value.bytes b tb].size].step = [0, 1] from by simp [Std.Legacy.Range.size, List.range']]
  simp only [List.forIn_cons, List.forIn_nil]
  repeat (first | simp only [hid, beq_self_eq_true, Bool.true_or, Bool.false_eq_true, if_false, if_true] | ((with_reducible show wpAny _ _ (takeBufferQuiet? _ _ _) _ _ _); refine wpAny_of_eq (bj_take _ _) ?_) | lk)
  have hl : tooLong (Array.foldl (fun x1 x2 => x1 + x2.size) (sep.size * (((#[].push a).push b).size - 1)) ((#[].push a).push b)) = false := by
    unfold tooLong
    rw [sizeLine_eq]
    simp
    omega
  rw [hl]
  simp only [Bool.false_eq_true, if_false]
  have e : ((#[].push a).push b).toList = [a, b] := by simp
  rw [e]
  unfold Kind.new
  dsimp only
  unfold mkBytes
  rw [if_neg (by rw [sizeLine_eq]; omega)]
  repeat (first | simp only [List.nil_append, List.cons_append, joinLetGo] | lk)
  exact ⟨_, rfl, q _ _⟩
theorem bj_3 {D : Addr} {sep a b c : Array UInt8} {ts ta tb tc : Tok} {n : Nat} {Q : Value → Shared → Prop} (ho : s.heap.get? D = some { cls := .type "list", data := .seq #[.bytes a ta, .bytes b tb, .bytes c tc] n })
    (hz : a.size + b.size + c.size + 3 * sep.size ≤ 10000) (hj : (joined sep [a, b, c]).size ≤ 10000) (q : ∀ t' tk', Q (.bytes (joined sep [a, b, c]) t') { s with toks := tk' }) :
    wpAny (model prog w) A (PySem.call (.builtin "bytes.join") [.bytes sep ts, .ref D]) Q E s := by
  obtain ⟨hp, g, dr, tk, os⟩ := s
  have ty : Looks (model prog w) hp (typeOf (.ref D)) (.type "list") := (Looks.ld ho).andThen .now
  refine wpAny_call_entry bj_slot (typeIs_bytes _ _ _) bj_entry ?_ (bj_args _ _)
  show wpAny _ _ (joinM .bytes ⟨[.bytes sep ts, .ref D], []⟩) _ _ _
  have hid : (toString Kind.bytes.name ++ toString ".join") = "bytes.join" := by decide +kernel
  unfold joinM joinItems
  repeat (first | simp only [hid, beq_self_eq_true, Bool.true_or, Bool.false_eq_true, if_false, if_true] | ((with_reducible show wpAny _ _ (takeBufferQuiet? _ _ _) _ _ _); refine wpAny_of_eq (bj_take _ _) ?_) | ((fail_if_success (with_reducible show wpAny _ _ (forIn _ _ _) _ _ _)); lk))
  rw [Std.Legacy.Range.forIn_eq_forIn_range']
  rw [show List.range' [:#[Value.bytes a ta, Value.bytes b tb, Value.bytes c tc].size].start [:#[Value.bytes a ta, Value.bytes b tb, Value.bytes c tc].size].size [:#[Value.bytes a ta, Value.bytes b tb, Value.bytes c tc].size].step = [0, 1, 2] from by simp [Std.Legacy.Range.size, List.range']]
  simp only [List.forIn_cons, List.forIn_nil]
  repeat (first | simp only [hid, beq_self_eq_true, Bool.true_or, Bool.false_eq_true, if_false, if_true] | ((with_reducible show wpAny _ _ (takeBufferQuiet? _ _ _) _ _ _); refine wpAny_of_eq (bj_take _ _) ?_) | lk)
  have hl : tooLong (Array.foldl (fun x1 x2 => x1 + x2.size) (sep.size * ((((#[].push a).push b).push c).size - 1)) (((#[].push a).push b).push c)) = false := by
    unfold tooLong
    rw [sizeLine_eq]
    simp
    omega
  rw [hl]
  simp only [Bool.false_eq_true, if_false]
  have e : (((#[].push a).push b).push c).toList = [a, b, c] := by simp
  rw [e]
  unfold Kind.new
  dsimp only
  unfold mkBytes
  rw [if_neg (by rw [sizeLine_eq]; omega)]
  repeat (first | simp only [List.nil_append, List.cons_append, joinLetGo] | lk)
  exact ⟨_, rfl, q _ _⟩
end
end BL
end
-- part BM
section
set_option linter.unusedVariables false
open PySem PySem.W PySem.Spec PySem.Calls PyProof.Rows
set_option maxRecDepth 100000
set_option maxHeartbeats 8000000
set_option Elab.async false
namespace BL
theorem bj_type : typeOf (.builtin "bytes.join") = pure (.type "method_descriptor") := by show builtinType _ = _; rw [builtinType_eq_fast]; kernel_rfl
theorem bj_method {M : Model} {A : Around} {E : Value → Shared → Prop} {s : Shared} {x : Array UInt8} {t : Tok} {pl : Sem Bool} {Q : Value × List Value → Shared → Prop} (h : Q (.builtin "bytes.join", [.bytes x t]) s) : wpAny M A (getMethod (.bytes x t) "join" pl) Q E s :=
  getMethod_builtin (typeIs_bytes _ _ _) FB.plainAttrs_bytes bj_slot bj_type (fun _ e => nomatch e) h
theorem joined_enc {ls : List (List Nat)} (h0 : 1 ≤ ls.length) (h3 : ls.length ≤ 3) : Builtin.Bytes.joined #[44] (ls.map fun l => (encB l).toArray) = (encB (joinL 44 ls)).toArray := by
  have e44 : Str.utf8Of 44 = [44] := by decide +kernel
  match ls, h0, h3 with
  | [a], _, _ => simp [Builtin.Bytes.joined, joinL]
  | [a, b], _, _ => simp [Builtin.Bytes.joined, joinL, encB_append, encB_cons, e44]
  | [a, b, c], _, _ => simp [Builtin.Bytes.joined, joinL, encB_append, encB_cons, e44]
theorem bj_any {prog : Program} {w : World} {A : Around} {E : Value → Shared → Prop} {s : Shared} {D : Addr} {ts : Tok} {zs : List Value} {ls : List (List Nat)} {Q : Value → Shared → Prop} (ho : s.heap.get? D = some (LCg.lst zs)) (h1 : zs.length = ls.length)
    (hG : ∀ (i : Nat) (v : Value), zs[i]? = some v → ∃ l t, ls[i]? = some l ∧ v = .bytes (encB l).toArray t) (h0 : 1 ≤ ls.length) (h3 : ls.length ≤ 3) (hz : ∀ l ∈ ls, l.length ≤ 100)
    (q : ∀ t' tk', Q (.bytes (encB (joinL 44 ls)).toArray t') { s with toks := tk' }) : wpAny (model prog w) A (PySem.call (.builtin "bytes.join") [.bytes #[44] ts, .ref D]) Q E s := by
  have hsz : ∀ l ∈ ls, ((encB l).toArray).size ≤ 400 := fun l hl => by
    have := encB_len l
    have := hz l hl
    rw [List.size_toArray]
    omega
  have hje := joined_enc h0 h3
  have hjl : ((encB (joinL 44 ls)).toArray).size ≤ 10000 := by
    have e1 := encB_len (joinL 44 ls)
    have e2 := joinL_len 44 ls hz
    have e3 : ls.length * (100 + 1) ≤ 3 * 101 := Nat.mul_le_mul_right _ h3
    rw [List.size_toArray]
    omega
  rw [← hje] at q hjl
  cases ls with
  | nil => simp at h0
  | cons a ls =>
  cases zs with
  | nil => simp at h1
  | cons x zs =>
  obtain ⟨l, t, e1, e2⟩ := hG 0 x (by simp)
  obtain rfl : a = l := by simpa using e1
  subst e2
  have z1 := hsz a (.head _)
  cases ls with
  | nil =>
    cases zs with
    | cons => simp at h1
    | nil => exact bj_1 ho (by simp at z1 ⊢; omega) hjl q
  | cons b ls =>
  cases zs with
  | nil => simp at h1
  | cons y zs =>
  obtain ⟨l', t', e3, e4⟩ := hG 1 y (by simp)
  obtain rfl : b = l' := by simpa using e3
  subst e4
  have z2 := hsz b (.tail _ (.head _))
  cases ls with
  | nil =>
    cases zs with
    | cons => simp at h1
    | nil => exact bj_2 ho (by simp at z1 z2 ⊢; omega) hjl q
  | cons c ls =>
  cases zs with
  | nil => simp at h1
  | cons z zs =>
  obtain ⟨l'', t'', e5, e6⟩ := hG 2 z (by simp)
  obtain rfl : c = l'' := by simpa using e5
  subst e6
  have z3 := hsz c (.tail _ (.tail _ (.head _)))
  cases ls with
  | cons => simp at h3
  | nil =>
    cases zs with
    | cons => simp at h1
    | nil => exact bj_3 ho (by simp at z1 z2 z3 ⊢; omega) hjl q
end BL
end
-- part CT
section
set_option linter.unusedVariables false
open PySem PySem.W PySem.Spec PySem.Calls PyProof.Rows
set_option maxRecDepth 100000
set_option maxHeartbeats 8000000
set_option Elab.async false
namespace BL
local macro_rules | `(tactic| ktr_room) => `(tactic| ((try simp only [tc_depth, tc_units, depth_under_make, depth_under_kw, depth_in1, depth_deeper, units_in1, units_deeper, Around.mark_units, depth_mark]); (try dsimp only [ktrTop]); omega))
local macro_rules | `(tactic| k_room) => `(tactic| ktr_room)
local macro_rules | `(tactic| k_enter) => `(tactic| (refine' code_defG ?ke1 ?ke2 ?ke3 ?ke4 ?ke5 ?keA ?keF ?keK ?ke6 ?ke7 ?ke8 ?ke9 ?keB ?_ ?ked2 ?ked3 ?ked4 ?ked5; (case keA => exact rfl); (case keF => exact rfl); (case keK => first | exact rfl | assumption); (case ke1 => k_asm); (case ke2 => k_asm); (case ke3 => k_asm); (case ke4 => k_asm); (case ke5 => k_asm); (case ke6 => k_is); (case ke7 => k_is); (case ke8 => ktr_room); (case ke9 => first | exact BindsTo.of_eq rfl | exact binds_K (by k_in) rfl (by k_is) rfl rfl rfl); (case ked5 => decide); (case keB => exact locs rfl); (case ked2 => exact rfl); (case ked3 => exact rfl); (case ked4 => exact rfl); intro g' L' h' FG' F' N' B' X' T' kG'; (try dsimp only); (try k_lift B'); (try k_fold)))
local macro_rules | `(tactic| ktr_unf) => `(tactic| repeat' (first | (k_unfold; (try dsimp only)) | (k_end; wrow_close) | ((fail_if_success (first | (with_reducible show SrcT _ _ _ _ _ _ _ _ _ _ _ _ _ _) | (with_reducible show LCg.CompSrc _ _ _ _ _ _ _ _ _ _ _ _ _ _) | (with_reducible show LCg.CompEnd _ _ _ _ _ _ _ _ _ _ _ _ _ _) | (with_reducible show wpAny _ _ (eval (PySem.Expr.ListComp _ _ _ _) _) _ _ _))); (first | walk1 | (dsimp only; walk1))) | fail "no step"))
local macro_rules | `(tactic| walk_at "call ref") => `(tactic| (k_here; (with_reducible show wpAny _ _ (call (Value.ref 365) _) _ _ _); k_dflt ((refine' ti_call _ _ _ _ _ ?ti1 ?ti2 ?ti3 ?ti4 ?ti5 ?ti6 ?ti7 ?ti8 ?ti9 ?tia ?tib ?tic ?_; (case ti1 => k_asm); (case ti2 => k_asm); (case ti3 => k_asm); (case ti4 => k_asm); (case ti5 => exact rfl); (case ti6 => ktr_room); (case ti7 => ktr_room); (case ti8 => exact strNews (by k_asm) (by with_reducible assumption) (by with_reducible assumption)); (case ti9 => omega); (case tia => assumption); (case tib => assumption); (case tic => assumption)); intro t9 hf9 tkf hkf; (have Nq := News.grown (by k_asm) hkf); (have Fq := Fr.keeps (by k_asm) hkf)); (try k_sweep)))
local macro_rules | `(tactic| walk_at "call builtin:hasattr") => `(tactic| (k_here; (with_reducible show wpAny _ _ (call (Value.builtin _) [Value.ref _, Value.str _ _]) _ _ _); k_dflt (refine' has_meth (C := 387) (f := 365) ?hm1 ?hm2 ?hm3 ?hm4 ?hm5 ?hm6 ?hm7 ?hm8 ?_; (case hm1 => k_asm); (case hm2 => k_asm); (case hm3 => k_asm); (case hm4 => k_inst); (case hm5 => k_is); (case hm6 => (intro _; kernel_rfl)); (case hm7 => k_is); (case hm8 => k_is)); intro h9 F9 N9; (try k_sweep)))
local macro_rules | `(tactic| k_inst) => `(tactic| exact of_str (by k_asm) (by with_reducible assumption) (by with_reducible assumption))
local macro_rules | `(tactic| walk_at "call builtin:bytes.join") => `(tactic| (k_dflt (refine' bj_any ?bj1 (by assumption) (by assumption) (by assumption) (by assumption) (by assumption) ?_; (case bj1 => exact News.here (by k_asm))); intro t9 k9))
local macro_rules | `(tactic| walk_at "getMethod bytes") => `(tactic| ((with_reducible show wpAny _ _ (getMethod (Value.bytes _ _) (Str.ofString "join") _) _ _ _); k_dflt (refine bj_method ?_)))
theorem ct_call {w : World} {dp un : Nat} {gd : Option (List Code)} {cn : Str} {cs : Scope} {L a : Addr} {ccd : Value} {cl : List (Str × Addr)} {outer : List Env} {A₀ : Around} {base h₀ : Heap} {m : Str → Option Value} {s : Shared} {Q E : Value → Shared → Prop}
    {p : Program} {loose : List Str} {mean : ExcName → Option Value} {mg mb : Str → Option Value} (x dx fx px : Addr) (e1 e2 n : Nat) (zs : List Value) (ts : List (Addr × Obj)) (css : List (List Nat))
    (B : Below A₀ base outer h₀) (F : Fr h₀ L s.heap m) (X : (K w.params).In h₀) (T : Top p loose mean mg mb h₀) (hk : cs.kind = .function) (hd : dp + 60 < recursionLimit) (hu : un + 500 < cLine)
    (N : News h₀ L s.heap ((fx, LCg.lst zs) :: (x, instObj 801 dx) :: (dx, dictOf [⟨PyData.keyHash w.params (S "cats"), .str (S "cats") e1, .ref fx⟩, ⟨PyData.keyHash w.params (S "params"), .str (S "params") e2, .ref px⟩] n) :: ts)) (hT : CX dx zs ts css) (hsg : Sg css) (hn0 : 1 ≤ css.length) (hn : css.length ≤ 3)
    (ret : ∀ t' h' tk', InElt s.heap h' → Q (.bytes (encB (joinL 44 (css.map fun cs => (escT (ofL cs)).cps.toList))).toArray t') { s with heap := h', toks := tk' }) :
    wpAny (model PySem.Challenge.rw_bl0008_01.row.prog w) (ktrTop dp un gd cn cs L a ccd cl outer) (call (.ref 773) [.ref x]) Q E s := by
  revert X
  w_top off
  k_fill
  intro X
  refine wpAny_call ?_
  k_dflt (refine' code_defG ?ke1 ?ke2 ?ke3 ?ke4 ?ke5 ?keA ?keF ?keK ?ke6 ?ke7 ?ke8 ?ke9 ?keB ?_ ?ked2 ?ked3 ?ked4 ?ked5; (case keA => exact rfl); (case keF => exact rfl); (case keK => first | exact rfl | assumption); (case ke1 => k_asm); (case ke2 => k_asm); (case ke3 => k_asm); (case ke4 => k_asm); (case ke5 => k_asm); (case ke6 => k_is); (case ke7 => k_is); (case ke8 => ktr_room); (case ke9 => first | exact BindsTo.of_eq rfl | exact binds_K (by k_in) rfl (by k_is) rfl rfl rfl); (case ked5 => decide); (case keB => exact locs rfl); (case ked2 => exact rfl); (case ked3 => exact rfl); (case ked4 => exact rfl))
  intro g' L' h' FG' F' N' B' X' T' kG'
  (try dsimp only)
  have hyl := hT.len
  ktr_unf
  k_dflt (refine LCg.ListComp_U (F₀ := by k_asm) (by with_unfolding_all rfl) (by decide) (by rfl) (by decide) (by rfl) ?_)
  ktr_unf
  k_dflt (refine LCg.CompSrc.ledger (its := zs.toArray) (k := zs.length) (news := (fx, LCg.lst zs) :: (x, instObj 801 dx) :: (dx, dictOf [⟨PyData.keyHash w.params (S "cats"), .str (S "cats") e1, .ref fx⟩, ⟨PyData.keyHash w.params (S "params"), .str (S "params") e2, .ref px⟩] n) :: ts) (by rfl) (by k_asm) (by k_asm) (.head _) (by rw [List.size_toArray, sizeLine_eq]; omega) ?_)
  intro g2
  refine comp_ind (fun i ws news => (∀ (j : Nat) (v : Value), ws[j]? = some v → ∃ l t, (css.map fun cs => (escT (ofL cs)).cps.toList)[j]? = some l ∧ v = .bytes (encB l).toArray t) ∧ ws.length = i ∧ news = (fx, LCg.lst zs) :: (x, instObj 801 dx) :: (dx, dictOf [⟨PyData.keyHash w.params (S "cats"), .str (S "cats") e1, .ref fx⟩, ⟨PyData.keyHash w.params (S "params"), .str (S "params") e2, .ref px⟩] n) :: ts) zs.toArray.size ?turn ?fin zs.toArray.size 0 [] _ rfl ?start
  case start => exact ⟨fun j v h => by simp at h, rfl, rfl⟩
  case turn =>
    rintro i ws _ v I oI C oC Dz m₂ h tk E' hi ⟨hZ, hlen, rfl⟩ hv hoC hx F9 N9 off n1 n2 n3
    obtain ⟨lc, dc, t1, sl, cs, rfl, hm1, hm2, hcs⟩ := hT.at (i := i) (v := v) (by simpa using hv)
    have hM1 := List.mem_append_right ((I, oI) :: (C, oC) :: (Dz, LCg.lst ws) :: (fx, LCg.lst zs) :: (x, instObj 801 dx) :: (dx, dictOf [⟨PyData.keyHash w.params (S "cats"), .str (S "cats") e1, .ref fx⟩, ⟨PyData.keyHash w.params (S "params"), .str (S "params") e2, .ref px⟩] n) :: []) hm1
    have hM2 := List.mem_append_right ((I, oI) :: (C, oC) :: (Dz, LCg.lst ws) :: (fx, LCg.lst zs) :: (x, instObj 801 dx) :: (dx, dictOf [⟨PyData.keyHash w.params (S "cats"), .str (S "cats") e1, .ref fx⟩, ⟨PyData.keyHash w.params (S "params"), .str (S "params") e2, .ref px⟩] n) :: []) hm2
    simp only [List.cons_append, List.nil_append] at hM1 hM2
    have hsc := hsg cs (List.mem_of_getElem? hcs)
    have hcl : (ofL cs).length ≤ 3 := hsc.1
    obtain ⟨hp1, hp2, hp3⟩ := plain_sg hsc.2
    ktr_unf
    rename Fr g' L' _ _ => F5
    rename News g' L' _ _ => N5
    refine LCg.CompEnd.intro F5 N5 ((fx, LCg.lst zs) :: (x, instObj 801 dx) :: (dx, dictOf [⟨PyData.keyHash w.params (S "cats"), .str (S "cats") e1, .ref fx⟩, ⟨PyData.keyHash w.params (S "params"), .str (S "params") e2, .ref px⟩] n) :: ts) (fun p hp => hp) (LCg.Off3.of off) (.inr ⟨_, .head _, rfl, _, rfl⟩) ⟨fun j v e => ?_, by simp [hlen], rfl⟩
    by_cases hj : j < ws.length
    · rw [List.getElem?_append_left hj] at e
      exact hZ j v e
    · rw [List.getElem?_append_right (by omega)] at e
      have h0 : j - ws.length = 0 := by
        by_cases h0 : j - ws.length = 0
        · exact h0
        · rw [List.getElem?_eq_none (by simp; omega)] at e; cases e
      rw [h0] at e
      simp at e
      subst e
      exact ⟨_, _, by rw [List.getElem?_map, show j = i by omega, hcs]; rfl, rfl⟩
  case fin =>
    rintro ws _ ⟨hZ, hlen, rfl⟩ Dd h4 tk4 F4 N4 o4
    have hl1 : ws.length = (css.map fun cs => (escT (ofL cs)).cps.toList).length := by rw [List.length_map, hlen, List.size_toArray, hyl]
    have hl2 : 1 ≤ (css.map fun cs => (escT (ofL cs)).cps.toList).length := by rw [List.length_map]; exact hn0
    have hl3 : (css.map fun cs => (escT (ofL cs)).cps.toList).length ≤ 3 := by rw [List.length_map]; exact hn
    have hl4 : ∀ l ∈ (css.map fun cs => (escT (ofL cs)).cps.toList), l.length ≤ 100 := fun l hl => by
      obtain ⟨cs, hc, rfl⟩ := List.mem_map.mp hl
      have := esc_lens hsg _ (List.mem_map_of_mem (f := fun cs => escT (ofL cs)) hc)
      show (escT (ofL cs)).length ≤ 100
      omega
    ktr_unf
    rename Fr g' L' _ _ => F9
    rename News g' L' _ _ => N9
    exact ret _ _ _ (inElt_led kG' F9 N (fun p hp => N9 p (.tail _ hp)))
end BL
namespace BL
end BL
end
-- part OC
section
set_option linter.unusedVariables false
open PySem PySem.W PySem.Spec PySem.Calls PyProof.Rows
set_option maxRecDepth 100000
set_option maxHeartbeats 8000000
set_option Elab.async false
namespace BL
local macro_rules | `(tactic| ktr_room) => `(tactic| ((try simp only [tc_depth, tc_units, depth_under_make, depth_under_kw, depth_in1, depth_deeper, units_in1, units_deeper, Around.mark_units, depth_mark]); (try dsimp only [ktrTop]); omega))
local macro_rules | `(tactic| k_room) => `(tactic| ktr_room)
local macro_rules | `(tactic| k_enter) => `(tactic| (refine' code_defG ?ke1 ?ke2 ?ke3 ?ke4 ?ke5 ?keA ?keF ?keK ?ke6 ?ke7 ?ke8 ?ke9 ?keB ?_ ?ked2 ?ked3 ?ked4 ?ked5; (case keA => exact rfl); (case keF => exact rfl); (case keK => first | exact rfl | assumption); (case ke1 => k_asm); (case ke2 => k_asm); (case ke3 => k_asm); (case ke4 => k_asm); (case ke5 => k_asm); (case ke6 => k_is); (case ke7 => k_is); (case ke8 => ktr_room); (case ke9 => first | exact BindsTo.of_eq rfl | exact binds_K (by k_in) rfl (by k_is) rfl rfl rfl); (case ked5 => decide); (case keB => exact locs rfl); (case ked2 => exact rfl); (case ked3 => exact rfl); (case ked4 => exact rfl); intro g' L' h' FG' F' N' B' X' T' kG'; (try dsimp only); (try k_lift B'); (try k_fold)))
local macro_rules | `(tactic| walk_at "pad 0") => `(tactic| fail)
local macro_rules | `(tactic| walk_at "pad 1") => `(tactic| fail)
local macro_rules | `(tactic| walk_at "pad 2") => `(tactic| fail)
local macro_rules | `(tactic| walk_at "pad 3") => `(tactic| fail)
local macro_rules | `(tactic| walk_at "pad 4") => `(tactic| fail)
local macro_rules | `(tactic| walk_at "pad 5") => `(tactic| fail)
local macro_rules | `(tactic| walk_at "call ref") => `(tactic| (k_here; (with_reducible show wpAny _ _ (call (Value.ref 563) _) _ _ _); k_dflt (refine' vn_make _ _ _ ?mn1 ?mn2 ?mn3 ?mn4 ?mn5 ?mn6 ?mn7 ?mn8 (by assumption) (by assumption) (by assumption) (by assumption) (by assumption) (by assumption) ?_; (case mn1 => k_asm); (case mn2 => k_asm); (case mn3 => k_asm); (case mn4 => k_asm); (case mn5 => exact rfl); (case mn6 => ktr_room); (case mn7 => ktr_room); (case mn8 => k_asm)); intro x8 dx8 e18 e28 n8 fx8 dfx8 px8 opx8 ps8 h8 tk8 gs8 F8 N8 b8; (try k_sweep)))
local macro_rules | `(tactic| walk_at "call ref") => `(tactic| (k_here; (with_reducible show wpAny _ _ (call (Value.ref 744) _) _ _ _); k_dflt (refine' va_make _ _ _ ?ma1 ?ma2 ?ma3 ?ma4 ?ma5 ?ma6 ?ma7 ?ma8 (by assumption) (by assumption) (by assumption) (by assumption) (by assumption) (by assumption) ?_; (case ma1 => k_asm); (case ma2 => k_asm); (case ma3 => k_asm); (case ma4 => k_asm); (case ma5 => exact rfl); (case ma6 => ktr_room); (case ma7 => ktr_room); (case ma8 => k_asm)); intro x8 dx8 e18 e28 n8 fx8 dfx8 px8 opx8 ps8 h8 tk8 gs8 F8 N8 b8; (try k_sweep)))
local macro_rules | `(tactic| walk_at "call ref") => `(tactic| (k_here; (with_reducible show wpAny _ _ (call (Value.ref 869) _) _ _ _); k_dflt (refine' vo_make _ _ _ ?mo1 ?mo2 ?mo3 ?mo4 ?mo5 ?mo6 ?mo7 ?mo8 (by assumption) (by assumption) (by assumption) (by assumption) (by assumption) (by assumption) (by assumption) ?_; (case mo1 => k_asm); (case mo2 => k_asm); (case mo3 => k_asm); (case mo4 => k_asm); (case mo5 => exact rfl); (case mo6 => ktr_room); (case mo7 => ktr_room); (case mo8 => k_asm)); intro x8 dx8 e18 e28 n8 fx8 px8 opx8 ps8 h8 tk8 gs8 F8 N8 b8; (try k_sweep)))
local macro_rules | `(tactic| walk_at "call ref") => `(tactic| (k_here; (with_reducible show wpAny _ _ (call (Value.ref 801) _) _ _ _); k_dflt (refine' vc_make _ _ _ ?mc1 ?mc2 ?mc3 ?mc4 ?mc5 ?mc6 ?mc7 ?mc8 (by assumption) (by assumption) (by assumption) (by assumption) (by assumption) (by omega) ?_; (case mc1 => k_asm); (case mc2 => k_asm); (case mc3 => k_asm); (case mc4 => k_asm); (case mc5 => exact rfl); (case mc6 => ktr_room); (case mc7 => ktr_room); (case mc8 => k_asm)); intro x8 dx8 e18 e28 n8 fx8 zs8 ts8 px8 opx8 h8 tk8 hc8 F8 N8; (try k_sweep)))
local macro_rules | `(tactic| walk_at "call ref") => `(tactic| (k_here; (with_reducible show wpAny _ _ (call (Value.ref 535) _) _ _ _); k_dflt ((refine' nt_call _ _ _ _ _ _ _ _ _ _ ?in1 ?in2 ?in3 ?in4 ?in5 ?in6 ?in7 (news_sub (by k_asm) ?in8) (by assumption) (by assumption) (by omega) ?_; (case in8 => lcg_sub); (case in1 => k_asm); (case in2 => k_asm); (case in3 => k_asm); (case in4 => k_asm); (case in5 => exact rfl); (case in6 => ktr_room); (case in7 => ktr_room)); intro t7 h7 tk7 k7; (have Nq := News.grown (by k_asm) k7); (have Fq := Fr.keeps (by k_asm) k7)); (try k_sweep)))
local macro_rules | `(tactic| walk_at "call ref") => `(tactic| (k_here; (with_reducible show wpAny _ _ (call (Value.ref 716) _) _ _ _); k_dflt ((refine' at_call _ _ _ _ _ _ _ _ _ _ ?ia1 ?ia2 ?ia3 ?ia4 ?ia5 ?ia6 ?ia7 (news_sub (by k_asm) ?ia8) (by assumption) (by assumption) (by omega) ?_; (case ia8 => lcg_sub); (case ia1 => k_asm); (case ia2 => k_asm); (case ia3 => k_asm); (case ia4 => k_asm); (case ia5 => exact rfl); (case ia6 => ktr_room); (case ia7 => ktr_room)); intro t7 h7 tk7 k7; (have Nq := News.grown (by k_asm) k7); (have Fq := Fr.keeps (by k_asm) k7)); (try k_sweep)))
local macro_rules | `(tactic| walk_at "call ref") => `(tactic| (k_here; (with_reducible show wpAny _ _ (call (Value.ref 825) _) _ _ _); k_dflt ((refine' ot_call _ _ _ _ _ _ _ _ _ ?io1 ?io2 ?io3 ?io4 ?io5 ?io6 ?io7 (news_sub (by k_asm) ?io8) (by assumption) (by assumption) (by omega) ?_; (case io8 => lcg_sub); (case io1 => k_asm); (case io2 => k_asm); (case io3 => k_asm); (case io4 => k_asm); (case io5 => exact rfl); (case io6 => ktr_room); (case io7 => ktr_room)); intro t7 h7 tk7 k7; (have Nq := News.grown (by k_asm) k7); (have Fq := Fr.keeps (by k_asm) k7)); (try k_sweep)))
local macro_rules | `(tactic| walk_at "call ref") => `(tactic| (k_here; (with_reducible show wpAny _ _ (call (Value.ref 773) _) _ _ _); k_dflt ((refine' ct_call _ _ _ _ _ _ _ _ _ _ ?ic1 ?ic2 ?ic3 ?ic4 ?ic5 ?ic6 ?ic7 (news_cat (by k_asm)) (by assumption) (by assumption) (by omega) (by omega) ?_; (case ic1 => k_asm); (case ic2 => k_asm); (case ic3 => k_asm); (case ic4 => k_asm); (case ic5 => exact rfl); (case ic6 => ktr_room); (case ic7 => ktr_room)); intro t7 h7 tk7 k7; (have Nq := News.grown (by k_asm) k7); (have Fq := Fr.keeps (by k_asm) k7)); (try k_sweep)))
theorem oct_call {w : World} {dp un : Nat} {gd : Option (List Code)} {cn : Str} {cs : Scope} {L a : Addr} {ccd : Value} {cl : List (Str × Addr)} {outer : List Env} {A₀ : Around} {base h₀ : Heap} {m : Str → Option Value} {s : Shared} {Q E : Value → Shared → Prop}
    {p : Program} {loose : List Str} {mean : ExcName → Option Value} {mg mb : Str → Option Value} (lf : Addr) (fvs : List Value) (css : List (List Nat)) (kind : Int) (tk0 : Tok)
    (B : Below A₀ base outer h₀) (F : Fr h₀ L s.heap m) (X : (K w.params).In h₀) (T : Top p loose mean mg mb h₀) (hk : cs.kind = .function) (hd : dp + 100 < recursionLimit) (hu : un + 900 < cLine)
    (N : News h₀ L s.heap [(lf, LCg.lst fvs), (525, tabObj #[]), (706, tabObj #[]), (815, tabObj #[])]) (n1 : lf ≠ 525) (n2 : lf ≠ 706) (n3 : lf ≠ 815) (hS : StrsAre fvs (css.map ofL)) (hsg : Sg css) (hb : AllBare s.gens)
    (k0 : 0 ≤ kind) (k3 : kind ≤ 3) (h0 : kind = 0 → css.length = 5) (h2 : kind = 2 → css.length = 7) (h13 : kind = 1 ∨ kind = 3 → 1 ≤ css.length ∧ css.length ≤ 3)
    (ret : ∀ pt t' h' tk' gs, (pt = if kind = 3 then 44 else 59) → (∀ b o, b ∉ [525, 706, 815] → s.heap.get? b = some o → h'.get? b = some o) → GrownAt 525 h' → GrownAt 706 h' → GrownAt 815 h' → AllBare gs → Q (.bytes (encB (joinL pt (css.map fun cs => (escT (ofL cs)).cps.toList))).toArray t') ⟨h', gs, s.drawn, tk', s.os⟩) :
    wpAny (model PySem.Challenge.rw_bl0008_01.row.prog w) (ktrTop dp un gd cn cs L a ccd cl outer) (call (.ref 902) [.int kind tk0, .ref lf]) Q E s := by
  revert X
  w_top off
  k_fill
  intro X
  have hyl := strsAre_len hS
  rw [List.length_map] at hyl
  have hlf := (N _ (.head _)).1
  refine wpAny_call ?_
  k_dflt (refine' code_defG ?ke1 ?ke2 ?ke3 ?ke4 ?ke5 ?keA ?keF ?keK ?ke6 ?ke7 ?ke8 ?ke9 ?keB ?_ ?ked2 ?ked3 ?ked4 ?ked5; (case keA => exact rfl); (case keF => exact rfl); (case keK => first | exact rfl | assumption); (case ke1 => k_asm); (case ke2 => k_asm); (case ke3 => k_asm); (case ke4 => k_asm); (case ke5 => k_asm); (case ke6 => k_is); (case ke7 => k_is); (case ke8 => ktr_room); (case ke9 => first | exact BindsTo.of_eq rfl | exact binds_K (by k_in) rfl (by k_is) rfl rfl rfl); (case ked5 => decide); (case keB => exact locs rfl); (case ked2 => exact rfl); (case ked3 => exact rfl); (case ked4 => exact rfl))
  intro g' L' h' FG' F' N' B' X' T' kG'
  (try dsimp only)
  have hk03 : kind = 0 ∨ kind = 1 ∨ kind = 2 ∨ kind = 3 := by omega
  rcases hk03 with e | e | e | e
  · have h5 : fvs.length = 5 := by rw [hyl]; exact h0 e
    have hc8 : css.length ≤ 8 := by rw [h0 e]; decide
    subst e
    k_steps
    rename Fr g' L' _ _ => F5
    rename News g' L' _ _ => N5
    refine ret 59 _ _ _ _ (by decide) (oct_keep kG' F5 hlf N5 (by k_mem)) (GrownAt.of N5 (by k_mem)) (GrownAt.of N5 (by k_mem)) (GrownAt.of N5 (by k_mem)) (by assumption)
  · have h5 : 1 ≤ fvs.length := by rw [hyl]; exact (h13 (.inl e)).1
    have h6 : fvs.length ≤ 3 := by rw [hyl]; exact (h13 (.inl e)).2
    have hc8 : css.length ≤ 8 := by rw [← hyl]; omega
    subst e
    k_steps
    rename Fr g' L' _ _ => F5
    rename News g' L' _ _ => N5
    refine ret 59 _ _ _ _ (by decide) (oct_keep kG' F5 hlf N5 (by k_mem)) (GrownAt.of N5 (by k_mem)) (GrownAt.of N5 (by k_mem)) (GrownAt.of N5 (by k_mem)) (by assumption)
  · have h5 : fvs.length = 7 := by rw [hyl]; exact h2 e
    have hc8 : css.length ≤ 8 := by rw [h2 e]; decide
    subst e
    k_steps
    rename Fr g' L' _ _ => F5
    rename News g' L' _ _ => N5
    refine ret 59 _ _ _ _ (by decide) (oct_keep kG' F5 hlf N5 (by k_mem)) (GrownAt.of N5 (by k_mem)) (GrownAt.of N5 (by k_mem)) (GrownAt.of N5 (by k_mem)) (by assumption)
  · obtain ⟨h5, h6⟩ := h13 (.inr e)
    have hc8 : css.length ≤ 8 := by omega
    subst e
    k_steps
    rename Fr g' L' _ _ => F5
    rename News g' L' _ _ => N5
    refine ret 44 _ _ _ _ (by decide) (oct_keep kG' F5 hlf N5 (by k_mem)) (GrownAt.of N5 (by k_mem)) (GrownAt.of N5 (by k_mem)) (GrownAt.of N5 (by k_mem)) (by assumption)
end BL
namespace BL
end BL
end
-- part OR
section
set_option linter.unusedVariables false
open PySem PySem.W PySem.Spec PySem.Calls PyProof.Rows
set_option maxRecDepth 100000
set_option maxHeartbeats 8000000
set_option Elab.async false
namespace BL
theorem oct_rule {w : World} {dp un : Nat} {gd : Option (List Code)} {cn : Str} {cs : Scope} {L a : Addr} {ccd : Value} {cl : List (Str × Addr)} {outer : List Env} {A₀ : Around} {base h₀ : Heap} {m : Str → Option Value} {s : Shared} {Q E : Value → Shared → Prop}
    {p : Program} {loose : List Str} {mean : ExcName → Option Value} {mg mb : Str → Option Value} {Dd c2 : Addr} {oD o2 : Obj} (lf : Addr) (fvs : List Value) (css : List (List Nat)) (kind : Int) (tk0 : Tok)
    (B : Below A₀ base outer h₀) (F : Fr h₀ L s.heap m) (X : (K w.params).In h₀) (T : Top p loose mean mg mb h₀) (hk : cs.kind = .function) (hd : dp + 100 < recursionLimit) (hu : un + 900 < cLine)
    (N : News h₀ L s.heap ((Dd, oD) :: (lf, LCg.lst fvs) :: (c2, o2) :: [(525, tabObj #[]), (706, tabObj #[]), (815, tabObj #[])])) (n1 : lf ≠ 525) (n2 : lf ≠ 706) (n3 : lf ≠ 815) (d3 : ∀ x ∈ [525, 706, 815], Dd ≠ x ∧ c2 ≠ x) (hS : StrsAre fvs (css.map ofL)) (hsg : Sg css) (hb : AllBare s.gens)
    (hk03 : 0 ≤ kind ∧ kind ≤ 3) (h0 : kind = 0 → css.length = 5) (h2 : kind = 2 → css.length = 7) (h13 : kind = 1 ∨ kind = 3 → 1 ≤ css.length ∧ css.length ≤ 3)
    (ret : ∀ pt t' h' tk' gs q1 q2 q3, (pt = if kind = 3 then 44 else 59) → Fr h₀ L h' m → News h₀ L h' ((Dd, oD) :: (lf, LCg.lst fvs) :: (c2, o2) :: [(525, tabObj q1), (706, tabObj q2), (815, tabObj q3)]) → AllBare gs → Q (.bytes (encB (joinL pt (css.map fun cs => (escT (ofL cs)).cps.toList))).toArray t') ⟨h', gs, s.drawn, tk', s.os⟩) :
    wpAny (model PySem.Challenge.rw_bl0008_01.row.prog w) (ktrTop dp un gd cn cs L a ccd cl outer) (call (.ref 902) [.int kind tk0, .ref lf]) Q E s := by
  have f1 := N (525, _) (.tail _ (.tail _ (.tail _ (.head _))))
  have f2 := N (706, _) (.tail _ (.tail _ (.tail _ (.tail _ (.head _)))))
  have f3 := N (815, _) (.tail _ (.tail _ (.tail _ (.tail _ (.tail _ (.head _))))))
  have z1 := d3 525 (by simp)
  have z2 := d3 706 (by simp)
  have z3 := d3 815 (by simp)
  refine oct_call lf fvs css kind tk0 B F X T hk hd hu (news_sub N (by intro p hp; rcases List.mem_cons.mp hp with rfl | hp; exact .tail _ (.head _); exact .tail _ (.tail _ (.tail _ hp)))) n1 n2 n3 hS hsg hb hk03.1 hk03.2 h0 h2 h13 fun pt t' h' tk' gs hpt keep g1 g2 g3 hb' => ?_
  obtain ⟨q1, g1⟩ := g1
  obtain ⟨q2, g2⟩ := g2
  obtain ⟨q3, g3⟩ := g3
  have nb : ∀ b, b ≠ 525 → b ≠ 706 → b ≠ 815 → b ∉ [525, 706, 815] := fun b x y z hb => by
    simp only [List.mem_cons, List.not_mem_nil, or_false] at hb
    rcases hb with e | e | e
    · exact x e
    · exact y e
    · exact z e
  refine ret pt t' h' tk' gs q1 q2 q3 hpt ⟨F.ns.at' fun o e => keep L o (nb L (Ne.symm f1.2.1) (Ne.symm f2.2.1) (Ne.symm f3.2.1)) e, fun b o e => keep b o (nb b (fun q => by rw [q, f1.2.2] at e; cases e) (fun q => by rw [q, f2.2.2] at e; cases e) (fun q => by rw [q, f3.2.2] at e; cases e)) (F.keep b o e), F.above⟩ ?_ hb'
  intro p hp
  rcases List.mem_cons.mp hp with rfl | hp
  · have f := N _ (.head _)
    exact ⟨keep _ _ (nb _ z1.1 z2.1 z3.1) f.1, f.2⟩
  · rcases List.mem_cons.mp hp with rfl | hp
    · have f := N _ (.tail _ (.head _))
      exact ⟨keep _ _ (nb _ n1 n2 n3) f.1, f.2⟩
    · rcases List.mem_cons.mp hp with rfl | hp
      · have f := N _ (.tail _ (.tail _ (.head _)))
        exact ⟨keep _ _ (nb _ z1.2 z2.2 z3.2) f.1, f.2⟩
      · rcases List.mem_cons.mp hp with rfl | hp
        · exact ⟨g1, f1.2⟩
        · rcases List.mem_cons.mp hp with rfl | hp
          · exact ⟨g2, f2.2⟩
          · rcases List.mem_cons.mp hp with rfl | hp
            · exact ⟨g3, f3.2⟩
            · cases hp
end BL
end
-- part LT9
section
set_option linter.unusedVariables false
open PySem PySem.W PySem.Spec PySem.Calls PyProof.Rows
set_option maxRecDepth 100000
set_option maxHeartbeats 8000000
set_option Elab.async false
namespace BL
local macro_rules | `(tactic| ktr_room) => `(tactic| ((try simp only [tc_depth, tc_units, depth_under_make, depth_under_kw, depth_in1, depth_deeper, units_in1, units_deeper, Around.mark_units, depth_mark]); (try dsimp only [ktrTop]); omega))
local macro_rules | `(tactic| k_room) => `(tactic| ktr_room)
local macro_rules | `(tactic| k_enter) => `(tactic| (refine' code_defG ?ke1 ?ke2 ?ke3 ?ke4 ?ke5 ?keA ?keF ?keK ?ke6 ?ke7 ?ke8 ?ke9 ?keB ?_ ?ked2 ?ked3 ?ked4 ?ked5; (case keA => exact rfl); (case keF => exact rfl); (case keK => first | exact rfl | assumption); (case ke1 => k_asm); (case ke2 => k_asm); (case ke3 => k_asm); (case ke4 => k_asm); (case ke5 => k_asm); (case ke6 => k_is); (case ke7 => k_is); (case ke8 => ktr_room); (case ke9 => first | exact BindsTo.of_eq rfl | exact binds_K (by k_in) rfl (by k_is) rfl rfl rfl); (case ked5 => decide); (case keB => exact locs rfl); (case ked2 => exact rfl); (case ked3 => exact rfl); (case ked4 => exact rfl); intro g' L' h' FG' F' N' B' X' T' kG'; (try dsimp only); (try k_lift B'); (try k_fold)))
local macro_rules | `(tactic| walk_at "pad 0") => `(tactic| fail)
local macro_rules | `(tactic| walk_at "pad 1") => `(tactic| fail)
local macro_rules | `(tactic| walk_at "pad 2") => `(tactic| fail)
local macro_rules | `(tactic| walk_at "pad 3") => `(tactic| fail)
local macro_rules | `(tactic| walk_at "pad 4") => `(tactic| fail)
local macro_rules | `(tactic| walk_at "pad 5") => `(tactic| fail)
local macro_rules | `(tactic| walk_at "call ref") => `(tactic| (k_here; (with_reducible show wpAny _ _ (call (Value.ref 902) _) _ _ _); k_dflt ((refine' oct_rule _ _ _ _ _ ?oc1 ?oc2 ?oc3 ?oc4 ?oc5 ?oc6 ?oc7 ?oc8 (by assumption) (by assumption) (by assumption) (by assumption) (by assumption) (by assumption) (by assumption) (by assumption) (by assumption) (by assumption) (by assumption) ?_; (case oc1 => k_asm); (case oc2 => k_asm); (case oc3 => k_asm); (case oc4 => k_asm); (case oc5 => exact rfl); (case oc6 => ktr_room); (case oc7 => ktr_room); (case oc8 => k_asm)); intro pt9 t9 h9 tk9 gs9 q1 q2 q3 hp9 F9 N9 b9); (try k_sweep)))
local macro_rules | `(tactic| walk_at "call builtin:str.join") => `(tactic| (k_here; (with_reducible show wpAny _ _ (call (Value.builtin _) [Value.str _ _, Value.ref _]) _ _ _); k_dflt (refine join_J (by k_asm) (by assumption) (by first | (with_reducible assumption) | decide +kernel) (by with_reducible assumption) ?_); intro tj kj))
local macro_rules | `(tactic| walk_at "getMethod str") => `(tactic| ((with_reducible show wpAny _ _ (getMethod (Value.str _ _) (Str.ofString "encode") _) _ _ _); k_dflt (refine enc_method ?_)))
local macro_rules | `(tactic| walk_at "call builtin:str.encode") => `(tactic| (k_dflt (refine' enc_W ?ex ?_; (case ex => with_reducible assumption)); intro t9 k9))
theorem law_t9 {w : World} {dp un : Nat} {gd : Option (List Code)} {L a : Addr} {ccd : Value} {A₀ : Around} {h₀ : Heap} {s : Shared} {Q : Flow → Shared → Prop} {E : Value → Shared → Prop}
    {p : Program} {loose : List Str} {mean : ExcName → Option Value} {mg mb : Str → Option Value} {outer : List Env} (c1 c2 l0 D Df Dd lt : Addr) (o2 : Obj) (fvs dvs : List Value) (css : List (List Nat)) (kind more many : Int) (tk1 tk2 tk3 : Tok) (out : Str) (to : Tok) (pt : Nat) (tp : Tok)
    (B : Below A₀ h₀ outer h₀) (X : (K w.params).In h₀) (T : Top p loose mean mg mb h₀) (hd : dp + 200 < recursionLimit) (hu : un + 2000 < cLine)
    (F : Fr h₀ L s.heap (fun y => if y = S "due" then some (.ref Dd) else if y = S "told" then some (.ref lt) else if y = S "out" then some (.str out to) else if y = S "fields" then some (.ref Df) else if y = S "texts" then some (.ref D) else if y = S "many" then some (.int many tk3) else if y = S "more" then some (.int more tk2) else if y = S "kind" then some (.int kind tk1) else if y = S "script" then some (.ref l0) else none))
    (N : News h₀ L s.heap ((Dd, LCg.lst dvs) :: (Df, LCg.lst fvs) :: (c2, o2) :: [(525, tabObj #[]), (706, tabObj #[]), (815, tabObj #[])])) (n1 : Df ≠ 525) (n2 : Df ≠ 706) (n3 : Df ≠ 815) (d3 : ∀ x ∈ [525, 706, 815], Dd ≠ x ∧ c2 ≠ x) (ho2 : o2.data = .cell (some (.str (one pt) tp))) (hpt : pt = if kind = 3 then 44 else 59)
    (hfv : StrsAre fvs (css.map ofL)) (hdv : StrsAre dvs (css.map fun cs => escT (ofL cs))) (hsg : Sg css) (hb : AllBare s.gens) (hn8 : css.length ≤ 8)
    (hk03 : 0 ≤ kind ∧ kind ≤ 3) (h0 : kind = 0 → css.length = 5) (h2 : kind = 2 → css.length = 7) (h13 : kind = 1 ∨ kind = 3 → 1 ≤ css.length ∧ css.length ≤ 3)
    (ret : ∀ h' tk' gs, (∀ b o, h₀.get? b = some o → h'.get? b = some o) → GrownAt 525 h' → GrownAt 706 h' → GrownAt 815 h' → AllBare gs → Q (.ret (.bool true)) ⟨h', gs, s.drawn, tk', s.os⟩) :
    wpAny (model PySem.Challenge.rw_bl0008_01.row.prog w) (ktrTop dp un gd "law" lawScope L a ccd [(S "part", c2), (S "state", c1)] outer) (execs (lawBody.drop 11) (envX "law" lawScope L a ccd [(S "part", c2), (S "state", c1)])) Q E s := by
  revert X
  w_top off
  k_fill
  intro X
  conv in (occs := *) lawScope => all_goals whnf
  conv in (List.drop 11 lawBody) => whnf
  have hone : (one pt).length ≤ 16 := by show 1 ≤ 16; omega
  have e1 : (Txt.join (one pt) (css.map fun cs => escT (ofL cs))).cps.toList = joinL pt (css.map fun cs => (escT (ofL cs)).cps.toList) :=
    (join_cps pt _).trans (by rw [cpsL, List.map_map]; rfl)
  have hlen2 := esc_lens hsg
  have hw : JoinW (css.map fun cs => escT (ofL cs)) := by
    unfold JoinW
    have := sum_le hlen2
    rw [List.length_map] at this ⊢
    omega
  have hp7 : Plain7 pt := by rw [hpt]; unfold Plain7; split <;> omega
  have hS7 := sur_plain (join_plain hp7 (esc_plains hsg))
  rw [← e1] at hS7
  have hL7 : (Txt.join (one pt) (css.map fun cs => escT (ofL cs))).length ≤ 1000 := by
    show (Txt.join (one pt) (css.map fun cs => escT (ofL cs))).cps.size ≤ 1000
    rw [← Array.length_toList, e1]
    have := joinL_len pt (css.map fun cs => (escT (ofL cs)).cps.toList) (n := 48) (fun x hx => by
      obtain ⟨cs, hc, rfl⟩ := List.mem_map.mp hx
      exact hlen2 _ (List.mem_map_of_mem (f := fun cs => escT (ofL cs)) hc))
    rw [List.length_map] at this
    omega
  have hEW : EncW (Txt.join (one pt) (css.map fun cs => escT (ofL cs))) := ⟨hS7, hL7⟩
  clear hS7 hL7 hlen2
  k_steps
  rename Fr h₀ L _ _ => F9
  rename News h₀ L _ _ => N9
  rename _ = ite _ _ _ => hq
  have e9 := hq.trans hpt.symm
  subst e9
  rw [e1]
  simp only [beq_self_eq_true]
  exact ret _ _ _ F9.keep (GrownAt.of N9 (by k_mem)) (GrownAt.of N9 (by k_mem)) (GrownAt.of N9 (by k_mem)) (by assumption)
end BL
namespace BL
end BL
end
-- part LR
section
set_option linter.unusedVariables false
open PySem PySem.W PySem.Spec PySem.Calls PyProof.Rows
set_option maxRecDepth 100000
set_option maxHeartbeats 8000000
set_option Elab.async false
namespace BL
theorem ne_fresh {h₀ h : Heap} {L a x : Addr} {o ob : Obj} {news : List (Addr × Obj)} (N : News h₀ L h news) (hm : (a, o) ∈ news) (hx : h₀.get? x = some ob) : a ≠ x := fun e => by
  have z := (N _ hm).2.2
  rw [e, hx] at z
  cases z
theorem law_run {w : World} {dp un : Nat} {gd : Option (List Code)} {L a : Addr} {ccd : Value} {h₀ : Heap} {s : Shared} {Q : Flow → Shared → Prop} {E : Value → Shared → Prop}
    {p : Program} {loose : List Str} {mean : ExcName → Option Value} {mg mb : Str → Option Value} (c1 c2 l0 : Addr) (o1 o2 : Obj) (vs0 : List Value) (ns0 : List Int)
    (B : Below callerA h₀ [] h₀) (X : (K w.params).In h₀) (XP : KP.In h₀) (T : Top p loose mean mg mb h₀) (hd : dp + 200 < recursionLimit) (hu : un + 2000 < cLine)
    (F : Fr h₀ L s.heap (fun y => if y = S "script" then some (.ref l0) else none))
    (N : News h₀ L s.heap [(c2, o2), (c1, o1)]) (ho2 : o2.data = .cell none) (ho1 : o1.data = .cell none) (hc2 : @LT.lt Nat _ c1 c2)
    (hl : h₀.IsList l0 vs0.toArray) (hI : IntsAre vs0 ns0) (hvl : vs0.length ≤ 63) (hb : AllBare s.gens)
    (ret : ∀ h' tk' gs, (∀ b o, (ghostOf h₀ tabs).get? b = some o → h'.get? b = some o) → GrownAll tabs h' → AllBare gs → Q (.ret (.bool true)) ⟨h', gs, s.drawn, tk', s.os⟩) :
    wpAny (model PySem.Challenge.rw_bl0008_01.row.prog w) (ktrTop dp un gd "law" lawScope L a ccd [(S "part", c2), (S "state", c1)] []) (execs lawBody (envX "law" lawScope L a ccd [(S "part", c2), (S "state", c1)])) Q E s := by
  have hT9 : TabsAt tabs h₀ := tabs_at X XP
  have hd1 : dp + 100 < recursionLimit := by omega
  have hu1 : un + 1000 < cLine := by omega
  have k525 : h₀.get? 525 = some (tabObj #[]) := XP _ _ rfl
  have k706 : h₀.get? 706 = some (tabObj #[]) := XP _ _ rfl
  have k815 : h₀.get? 815 = some (tabObj #[]) := XP _ _ rfl
  refine law_t0 c1 c2 l0 o1 o2 vs0 ns0 B X T hd1 hu1 F N ho2 ho1 hc2 hl hI hvl ?_
  intro l st o1' vs ns t1 t2 ep el h1 tk1 ho1' hl1 hst hI' hvl' F1 N1
  refine law_t1 c1 c2 l0 l st o1' o2 vs ns t1 t2 ep el B X T hd1 hu1 F1 N1 ho2 ho1' hc2 hl1 hst hI' hvl' ?_
  intro c hh kind more many t1 t2 ta tb tc h2 tk2 hc hh1 hh2 hkm F2 N2
  have hkm' := hkm
  unfold KM at hkm'
  refine law_t2 c1 c2 l0 l st o1' o2 vs ns t1 t2 ep el c hh kind more many ta tb tc B X T hd1 hu1 F2 N2 ho2 ho1' hc2 hl1 hst hI' hvl' hc hh1 hh2 (by omega) (by omega) ?_
  intro D ys ts css c' hh' t1' t2' h3 tk3 hT hlen a1 a2 a3 hD hDt F3 N3
  have hn8 : css.length ≤ 8 := by omega
  refine law_t3 c1 c2 l0 l st D o1' o2 vs ns t1' t2' ep el c' hh' kind more many ta tb tc ys ts css B X T hd1 hu1 F3 N3 ho2 ho1' hc2 hl1 hst hI' hvl' hT hn8 hD hDt ?_
  intro pt tp o2' h4 tk4 ho2' hpt F4 N4
  refine law_t4 c1 c2 l0 l st D o1' o2' vs ns t1' t2' ep el c' hh' kind more many ta tb tc ys ts css pt tp B X T hd1 hu1 F4 N4 ho2' ho1' hc2 hl1 hst hI' hvl' hT hn8 hD hDt ?_
  intro Df fvs h5 tk5 hfv hDf hDft F5 N5
  refine law_t5 c1 c2 l0 l st D o1' o2' vs ns t1' t2' ep el c' hh' kind more many ta tb tc ys ts css pt tp Df fvs B X T hd1 hu1 F5 N5 ho2' (by rw [hpt]; split; exact .inr rfl; exact .inl rfl) a1 a2 a3 ho1' hc2 hl1 hst hI' hvl' hT hn8 hD hDt hDf hDft ?_
  intro out to os h6 tk6 hW hout hol F6 N6
  have hsg := hT.sg
  refine law_t6 c1 c2 l0 st D Df o2' fvs css kind more many ta tb tc pt out to os B X T hd1 hu1 F6 N6 hkm hpt hW hout hol hlen ?_ ?bad
  case bad =>
    intro h' tk' keep
    exact ret _ _ _ (fun b o e => keep b o (of_hideAll _ e)) ⟨⟨_, keep _ _ k525⟩, ⟨_, keep _ _ k706⟩, ⟨_, keep _ _ k815⟩, trivial⟩ hb
  intro lt vt et ys' h7 tk7 hS hys m6 m8 F7 N7
  refine law_t7 c1 c2 l0 D Df lt o2' fvs vt et ys' css kind more many ta tb tc out to B X T hd1 hu1 F7 N7 hfv hS hys hsg m6 m8 ?_
  intro h8 tk8 F8 N8
  refine law_t8 c1 c2 l0 D Df lt o2' fvs vt et ys' css kind more many ta tb tc out to B X T hd1 hu1 F8 N8 hfv hsg hn8 ?_
  intro Dd dvs h9 tk9 hdv F9 N9
  have z1 := ne_fresh N9 (.tail _ (.head _)) k525
  have z2 := ne_fresh N9 (.tail _ (.head _)) k706
  have z3 := ne_fresh N9 (.tail _ (.head _)) k815
  have d1 := ne_fresh N9 (.head _) k525
  have d2 := ne_fresh N9 (.head _) k706
  have d3 := ne_fresh N9 (.head _) k815
  have e1 := ne_fresh N9 (.tail _ (.tail _ (.head _))) k525
  have e2 := ne_fresh N9 (.tail _ (.tail _ (.head _))) k706
  have e3 := ne_fresh N9 (.tail _ (.tail _ (.head _))) k815
  refine law_t9 (h₀ := ghostOf h₀ tabs) c1 c2 l0 D Df Dd lt o2' fvs dvs css kind more many ta tb tc out to pt tp (ghost_below hT9) (ghost_K hT9 X (by kernel_rfl)) (ghost_top hT9 T) hd hu (ghost_fr hT9 F9) (ghost_news hT9 F9 N9) z1 z2 z3 (fun x hx => ?dd) ho2' hpt hfv hdv hsg hb hn8 (by omega) (by omega) (by omega) (by omega) ?_
  case dd =>
    simp only [List.mem_cons, List.not_mem_nil, or_false] at hx
    rcases hx with rfl | rfl | rfl
    · exact ⟨d1, e1⟩
    · exact ⟨d2, e2⟩
    · exact ⟨d3, e3⟩
  intro h10 tk10 gs keep g1 g2 g3 hb'
  exact ret h10 tk10 gs keep ⟨g1, g2, g3, trivial⟩ hb'
end BL
namespace BL
end BL
end
-- part FIN
section
set_option linter.unusedVariables false
open PySem PySem.W PyProof.Rows PySem.Spec PySem.Calls
set_option maxRecDepth 100000
set_option maxHeartbeats 8000000
set_option Elab.async false
theorem PySem.Challenge.cw_bl0008_01_holds : PySem.Challenge.rw_bl0008_01.Holds := by
  refine BL.hd2 rfl rfl rfl ?_
  w_top off
  k_fill
  intro w s₀ s₁ mg mb G Y fa o pm cd doc dV kV ho hd hcd hD hmg hg args vals as hpre hlay hrd hwl hlo
  have hT9 : TabsAt BL.tabs s₁.heap := BL.tabs_at Y.1 Y.2
  have X := (Ground.X G).1
  have V := (Ground.X G).2
  refine Ground.open G ?_
  intro T B D TE TW
  try (refine guard_noD D (by decide +kernel) ?_; clear D)
  clear hmg
  wrow_args hpre hlay hrd hwl hlo
  all_goals (
    first | refine callC_kw (enter_call ?_) | refine enter_call ?_
    w_top on
    refine BL.law_post hT9 (fun _ => rfl) ?hp ?_
    case hp => first | kernel_rfl | exact postW_of (by wrow_shape) (by wtm_val) (by str_meet; first | done | w_fin)
    w_call any ho hd hcd hD T F
    clear hd X V)
  rename News _ _ _ _ => N0
  rename Heap.IsList _ _ _ => hl
  rename IntsAre _ _ => hI
  rename ¬ _ < _ => hc
  rename _ = Data.cell (bindC _ _ _ (Str.ofString "part")) => c2
  rename _ = Data.cell (bindC _ _ _ (Str.ofString "state")) => c1
  have hlen := hI.length
  refine BL.law_run _ _ _ _ _ _ _ (below_caller _) Y.1 Y.2 T (by decide) (by decide) F N0 c2 c1 (Nat.lt_succ_self _) hl hI (by omega) (AllBare.of_eq hg) ?_
  intro h' tk' gs keep hgr hb
  exact ⟨rfl, keep, hgr, rfl, hb⟩
end
