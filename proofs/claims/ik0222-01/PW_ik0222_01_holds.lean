import PyProof.Rows.All
import Wide.All
import OpenK.AllK
import Wide.FinOn
import PySem.Challenge.RW_ik0222_01
open PySem PySem.W PyProof.Rows
set_option Elab.async false
set_option maxRecDepth 100000
set_option maxHeartbeats 8000000
set_option linter.unusedVariables false
local macro_rules | `(tactic| walk_at $s:str) => `(tactic| k_extra $s)
section
open PySem.Calls PySem.Spec
namespace Mine
/-- the parts of the def _law_keeps, taken from the row -/
def bodyOf : Stmt → List Stmt
  | Stmt.FunctionDef _ _ b _ _ _ _ _ _ _ => b
  | _ => []
def scopeOf : Stmt → Scope
  | Stmt.FunctionDef _ _ _ _ _ _ sc _ _ _ => sc
  | _ => { kind := .function, names := [], isGenerator := false, isCoroutine := false, more := [] }
def topAt (n : Nat) : Stmt := ((PySem.Challenge.pw_ik0222_01.main.body : List Stmt)[n]?).getD (Stmt.Pass ⟨0, 0, 0, 0⟩)
def kBody : List Stmt := bodyOf (topAt 62)
def kScope : Scope := scopeOf (topAt 62)
end Mine
end
section
open PySem.Calls PySem.Spec
namespace Mine
noncomputable def argsOf : Stmt → Arguments
  | Stmt.FunctionDef _ a _ _ _ _ _ _ _ _ => a
  | _ => { posonlyargs := [], args := [], vararg := none, kwonlyargs := [], kw_defaults := [], kwarg := none, defaults := [] }
/-- what the text's run leaves on the heap, as far as the law comes to it; the defs' bodies are named, not written -/
noncomputable def fragOf (a17 : Arguments) (b17 : List Stmt) (c17 : Scope) (a18 : Arguments) (b18 : List Stmt) (c18 : Scope) (a19 : Arguments) (b19 : List Stmt) (c19 : Scope) (a28 : Arguments) (b28 : List Stmt) (c28 : Scope) (a32 : Arguments) (b32 : List Stmt) (c32 : Scope) (a33 : Arguments) (b33 : List Stmt) (c33 : Scope) (a34 : Arguments) (b34 : List Stmt) (c34 : Scope) (a36 : Arguments) (b36 : List Stmt) (c36 : Scope) (a57 : Arguments) (b57 : List Stmt) (c57 : Scope) (a59 : Arguments) (b59 : List Stmt) (c59 : Scope) (a60 : Arguments) (b60 : List Stmt) (c60 : Scope) (a61 : Arguments) (b61 : List Stmt) (c61 : Scope) (a62 : Arguments) (b62 : List Stmt) (c62 : Scope) (a63 : Arguments) (b63 : List Stmt) (c63 : Scope) (P : Params) : Frag :=
  (nat_lit 2, (PySem.Obj.mk PySem.Value.none (Option.none) (PySem.Data.dict #[(PySem.DictEntry.mk (PySem.PyData.keyHash P (PySem.Str.ofString "\x69mport.loaded.math")) (PySem.Value.str (PySem.Str.ofString "\x69mport.loaded.math") 189) (PySem.Value.bool Bool.true)), (PySem.DictEntry.mk (PySem.PyData.keyHash P (PySem.Str.ofString "class._frozen_importlib_external._LoaderBasics")) (PySem.Value.str (PySem.Str.ofString "class._frozen_importlib_external._LoaderBasics") 194) (PySem.Value.ref 16)), (PySem.DictEntry.mk (PySem.PyData.keyHash P (PySem.Str.ofString "watched.\x69mport")) (PySem.Value.str (PySem.Str.ofString "watched.\x69mport") 210) (PySem.Value.ref 20)), (PySem.DictEntry.mk (PySem.PyData.keyHash P (PySem.Str.ofString "class._frozen_importlib_external.FileLoader")) (PySem.Value.str (PySem.Str.ofString "class._frozen_importlib_external.FileLoader") 211) (PySem.Value.ref 22)), (PySem.DictEntry.mk (PySem.PyData.keyHash P (PySem.Str.ofString "class._frozen_importlib_external.ExtensionFileLoader")) (PySem.Value.str (PySem.Str.ofString "class._frozen_importlib_external.ExtensionFileLoader") 232) (PySem.Value.ref 27)), (PySem.DictEntry.mk (PySem.PyData.keyHash P (PySem.Str.ofString "class._frozen_importlib.ModuleSpec")) (PySem.Value.str (PySem.Str.ofString "class._frozen_importlib.ModuleSpec") 260) (PySem.Value.ref 33)), (PySem.DictEntry.mk (PySem.PyData.keyHash P (PySem.Str.ofString "sys.modules.booked-epoch")) (PySem.Value.str (PySem.Str.ofString "sys.modules.booked-epoch") 289) (PySem.Value.int 3 0)), (PySem.DictEntry.mk (PySem.PyData.keyHash P (PySem.Str.ofString "\x69mport.later-laid.math")) (PySem.Value.str (PySem.Str.ofString "\x69mport.later-laid.math") 365) (PySem.Value.bool Bool.true)), (PySem.DictEntry.mk (PySem.PyData.keyHash P (PySem.Str.ofString "watched.library")) (PySem.Value.str (PySem.Str.ofString "watched.library") 367) (PySem.Value.ref 38)), (PySem.DictEntry.mk (PySem.PyData.keyHash P (PySem.Str.ofString "watched.library-objects")) (PySem.Value.str (PySem.Str.ofString "watched.library-objects") 0) (PySem.Value.str (PySem.Str.ofString "\x0d") 0))] 10) #[])) ::
  (nat_lit 3, (PySem.Obj.mk (PySem.Value.type "dict") (Option.none) (PySem.Data.dict #[(PySem.DictEntry.mk (PySem.PyData.keyHash P (PySem.Str.ofString "__name__")) (PySem.Value.str (PySem.Str.ofString "__name__") 165) (PySem.Value.str (PySem.Str.ofString "law_ik0222_01") 1011)), (PySem.DictEntry.mk (PySem.PyData.keyHash P (PySem.Str.ofString "__doc__")) (PySem.Value.str (PySem.Str.ofString "__doc__") 166) PySem.Value.none), (PySem.DictEntry.mk (PySem.PyData.keyHash P (PySem.Str.ofString "__package__")) (PySem.Value.str (PySem.Str.ofString "__package__") 167) PySem.Value.none), (PySem.DictEntry.mk (PySem.PyData.keyHash P (PySem.Str.ofString "__loader__")) (PySem.Value.str (PySem.Str.ofString "__loader__") 168) (PySem.Value.builtin "__main__.__loader__#opaque")), (PySem.DictEntry.mk (PySem.PyData.keyHash P (PySem.Str.ofString "__spec__")) (PySem.Value.str (PySem.Str.ofString "__spec__") 169) PySem.Value.none), (PySem.DictEntry.mk (PySem.PyData.keyHash P (PySem.Str.ofString "__annotations__")) (PySem.Value.str (PySem.Str.ofString "__annotations__") 170) (PySem.Value.ref 6)), (PySem.DictEntry.mk (PySem.PyData.keyHash P (PySem.Str.ofString "__builtins__")) (PySem.Value.str (PySem.Str.ofString "__builtins__") 171) (PySem.Value.ref 4)), (PySem.DictEntry.mk (PySem.PyData.keyHash P (PySem.Str.ofString "__file__")) (PySem.Value.str (PySem.Str.ofString "__file__") 173) (PySem.Value.str (PySem.Str.ofString "/claim/cut.py") 172)), (PySem.DictEntry.mk (PySem.PyData.keyHash P (PySem.Str.ofString "__cached__")) (PySem.Value.str (PySem.Str.ofString "__cached__") 174) PySem.Value.none), (PySem.DictEntry.mk (PySem.PyData.keyHash P (PySem.Str.ofString "fsum")) (PySem.Value.str (PySem.Str.ofString "fsum") 373) (PySem.Value.builtin "math.fsum")), (PySem.DictEntry.mk (PySem.PyData.keyHash P (PySem.Str.ofString "isfinite")) (PySem.Value.str (PySem.Str.ofString "isfinite") 376) (PySem.Value.builtin "math.isfinite")), (PySem.DictEntry.mk (PySem.PyData.keyHash P (PySem.Str.ofString "isinf")) (PySem.Value.str (PySem.Str.ofString "isinf") 379) (PySem.Value.builtin "math.isinf")), (PySem.DictEntry.mk (PySem.PyData.keyHash P (PySem.Str.ofString "sqrt")) (PySem.Value.str (PySem.Str.ofString "sqrt") 382) (PySem.Value.builtin "math.sqrt")), (PySem.DictEntry.mk (PySem.PyData.keyHash P (PySem.Str.ofString "sumprod")) (PySem.Value.str (PySem.Str.ofString "sumprod") 385) (PySem.Value.builtin "math.sumprod")), (PySem.DictEntry.mk (PySem.PyData.keyHash P (PySem.Str.ofString "_wall")) (PySem.Value.str (PySem.Str.ofString "_wall") 398) (PySem.Value.ref 49)), (PySem.DictEntry.mk (PySem.PyData.keyHash P (PySem.Str.ofString "StatisticsError")) (PySem.Value.str (PySem.Str.ofString "StatisticsError") 418) (PySem.Value.ref 59)), (PySem.DictEntry.mk (PySem.PyData.keyHash P (PySem.Str.ofString "_MAXSIZE")) (PySem.Value.str (PySem.Str.ofString "_MAXSIZE") 422) (PySem.Value.int 9223372036854775807 421)), (PySem.DictEntry.mk (PySem.PyData.keyHash P (PySem.Str.ofString "_is_int")) (PySem.Value.str (PySem.Str.ofString "_is_int") 430) (PySem.Value.ref 69)), (PySem.DictEntry.mk (PySem.PyData.keyHash P (PySem.Str.ofString "_pull")) (PySem.Value.str (PySem.Str.ofString "_pull") 437) (PySem.Value.ref 76)), (PySem.DictEntry.mk (PySem.PyData.keyHash P (PySem.Str.ofString "_same")) (PySem.Value.str (PySem.Str.ofString "_same") 445) (PySem.Value.ref 83)), (PySem.DictEntry.mk (PySem.PyData.keyHash P (PySem.Str.ofString "groupby")) (PySem.Value.str (PySem.Str.ofString "groupby") 536) (PySem.Value.ref 124)), (PySem.DictEntry.mk (PySem.PyData.keyHash P (PySem.Str.ofString "_grouper")) (PySem.Value.str (PySem.Str.ofString "_grouper") 590) (PySem.Value.ref 169)), (PySem.DictEntry.mk (PySem.PyData.keyHash P (PySem.Str.ofString "_count_kind")) (PySem.Value.str (PySem.Str.ofString "_count_kind") 598) (PySem.Value.ref 181)), (PySem.DictEntry.mk (PySem.PyData.keyHash P (PySem.Str.ofString "count")) (PySem.Value.str (PySem.Str.ofString "count") 663) (PySem.Value.ref 222)), (PySem.DictEntry.mk (PySem.PyData.keyHash P (PySem.Str.ofString "itemgetter")) (PySem.Value.str (PySem.Str.ofString "itemgetter") 721) (PySem.Value.ref 267)), (PySem.DictEntry.mk (PySem.PyData.keyHash P (PySem.Str.ofString "_rank")) (PySem.Value.str (PySem.Str.ofString "_rank") 750) (PySem.Value.ref 278)), (PySem.DictEntry.mk (PySem.PyData.keyHash P (PySem.Str.ofString "_sqrtprod")) (PySem.Value.str (PySem.Str.ofString "_sqrtprod") 761) (PySem.Value.ref 285)), (PySem.DictEntry.mk (PySem.PyData.keyHash P (PySem.Str.ofString "covariance")) (PySem.Value.str (PySem.Str.ofString "covariance") 773) (PySem.Value.ref 292)), (PySem.DictEntry.mk (PySem.PyData.keyHash P (PySem.Str.ofString "correlation")) (PySem.Value.str (PySem.Str.ofString "correlation") 781) (PySem.Value.ref 298)), (PySem.DictEntry.mk (PySem.PyData.keyHash P (PySem.Str.ofString "_plain_name")) (PySem.Value.str (PySem.Str.ofString "_plain_name") 792) (PySem.Value.ref 305)), (PySem.DictEntry.mk (PySem.PyData.keyHash P (PySem.Str.ofString "ABCMeta")) (PySem.Value.str (PySem.Str.ofString "ABCMeta") 818) (PySem.Value.ref 322)), (PySem.DictEntry.mk (PySem.PyData.keyHash P (PySem.Str.ofString "_ABCLike")) (PySem.Value.str (PySem.Str.ofString "_ABCLike") 861) (PySem.Value.ref 355)), (PySem.DictEntry.mk (PySem.PyData.keyHash P (PySem.Str.ofString "_abc_plain_meta")) (PySem.Value.str (PySem.Str.ofString "_abc_plain_meta") 868) (PySem.Value.ref 364)), (PySem.DictEntry.mk (PySem.PyData.keyHash P (PySem.Str.ofString "fspath")) (PySem.Value.str (PySem.Str.ofString "fspath") 880) (PySem.Value.ref 371)), (PySem.DictEntry.mk (PySem.PyData.keyHash P (PySem.Str.ofString "_check_arg_types")) (PySem.Value.str (PySem.Str.ofString "_check_arg_types") 893) (PySem.Value.ref 378)), (PySem.DictEntry.mk (PySem.PyData.keyHash P (PySem.Str.ofString "splitroot")) (PySem.Value.str (PySem.Str.ofString "splitroot") 904) (PySem.Value.ref 385)), (PySem.DictEntry.mk (PySem.PyData.keyHash P (PySem.Str.ofString "normpath")) (PySem.Value.str (PySem.Str.ofString "normpath") 919) (PySem.Value.ref 392)), (PySem.DictEntry.mk (PySem.PyData.keyHash P (PySem.Str.ofString "commonpath")) (PySem.Value.str (PySem.Str.ofString "commonpath") 925) (PySem.Value.ref 397)), (PySem.DictEntry.mk (PySem.PyData.keyHash P (PySem.Str.ofString "S_IFMT")) (PySem.Value.str (PySem.Str.ofString "S_IFMT") 934) (PySem.Value.ref 404)), (PySem.DictEntry.mk (PySem.PyData.keyHash P (PySem.Str.ofString "S_IFDIR")) (PySem.Value.str (PySem.Str.ofString "S_IFDIR") 936) (PySem.Value.int 16384 935)), (PySem.DictEntry.mk (PySem.PyData.keyHash P (PySem.Str.ofString "S_IFCHR")) (PySem.Value.str (PySem.Str.ofString "S_IFCHR") 938) (PySem.Value.int 8192 937)), (PySem.DictEntry.mk (PySem.PyData.keyHash P (PySem.Str.ofString "S_IFBLK")) (PySem.Value.str (PySem.Str.ofString "S_IFBLK") 940) (PySem.Value.int 24576 939)), (PySem.DictEntry.mk (PySem.PyData.keyHash P (PySem.Str.ofString "S_IFREG")) (PySem.Value.str (PySem.Str.ofString "S_IFREG") 942) (PySem.Value.int 32768 941)), (PySem.DictEntry.mk (PySem.PyData.keyHash P (PySem.Str.ofString "S_IFIFO")) (PySem.Value.str (PySem.Str.ofString "S_IFIFO") 944) (PySem.Value.int 4096 943)), (PySem.DictEntry.mk (PySem.PyData.keyHash P (PySem.Str.ofString "S_IFLNK")) (PySem.Value.str (PySem.Str.ofString "S_IFLNK") 946) (PySem.Value.int 40960 945)), (PySem.DictEntry.mk (PySem.PyData.keyHash P (PySem.Str.ofString "S_IFSOCK")) (PySem.Value.str (PySem.Str.ofString "S_IFSOCK") 948) (PySem.Value.int 49152 947)), (PySem.DictEntry.mk (PySem.PyData.keyHash P (PySem.Str.ofString "S_ISUID")) (PySem.Value.str (PySem.Str.ofString "S_ISUID") 950) (PySem.Value.int 2048 949)), (PySem.DictEntry.mk (PySem.PyData.keyHash P (PySem.Str.ofString "S_ISGID")) (PySem.Value.str (PySem.Str.ofString "S_ISGID") 952) (PySem.Value.int 1024 951)), (PySem.DictEntry.mk (PySem.PyData.keyHash P (PySem.Str.ofString "S_ISVTX")) (PySem.Value.str (PySem.Str.ofString "S_ISVTX") 954) (PySem.Value.int 512 953)), (PySem.DictEntry.mk (PySem.PyData.keyHash P (PySem.Str.ofString "S_IRUSR")) (PySem.Value.str (PySem.Str.ofString "S_IRUSR") 956) (PySem.Value.int 256 955)), (PySem.DictEntry.mk (PySem.PyData.keyHash P (PySem.Str.ofString "S_IWUSR")) (PySem.Value.str (PySem.Str.ofString "S_IWUSR") 958) (PySem.Value.int 128 957)), (PySem.DictEntry.mk (PySem.PyData.keyHash P (PySem.Str.ofString "S_IXUSR")) (PySem.Value.str (PySem.Str.ofString "S_IXUSR") 960) (PySem.Value.int 64 959)), (PySem.DictEntry.mk (PySem.PyData.keyHash P (PySem.Str.ofString "S_IRGRP")) (PySem.Value.str (PySem.Str.ofString "S_IRGRP") 962) (PySem.Value.int 32 961)), (PySem.DictEntry.mk (PySem.PyData.keyHash P (PySem.Str.ofString "S_IWGRP")) (PySem.Value.str (PySem.Str.ofString "S_IWGRP") 964) (PySem.Value.int 16 963)), (PySem.DictEntry.mk (PySem.PyData.keyHash P (PySem.Str.ofString "S_IXGRP")) (PySem.Value.str (PySem.Str.ofString "S_IXGRP") 966) (PySem.Value.int 8 965)), (PySem.DictEntry.mk (PySem.PyData.keyHash P (PySem.Str.ofString "S_IROTH")) (PySem.Value.str (PySem.Str.ofString "S_IROTH") 968) (PySem.Value.int 4 967)), (PySem.DictEntry.mk (PySem.PyData.keyHash P (PySem.Str.ofString "S_IWOTH")) (PySem.Value.str (PySem.Str.ofString "S_IWOTH") 970) (PySem.Value.int 2 969)), (PySem.DictEntry.mk (PySem.PyData.keyHash P (PySem.Str.ofString "S_IXOTH")) (PySem.Value.str (PySem.Str.ofString "S_IXOTH") 972) (PySem.Value.int 1 971)), (PySem.DictEntry.mk (PySem.PyData.keyHash P (PySem.Str.ofString "_filemode_table")) (PySem.Value.str (PySem.Str.ofString "_filemode_table") 998) (PySem.Value.ref 437)), (PySem.DictEntry.mk (PySem.PyData.keyHash P (PySem.Str.ofString "filemode")) (PySem.Value.str (PySem.Str.ofString "filemode") 1010) (PySem.Value.ref 444)), (PySem.DictEntry.mk (PySem.PyData.keyHash P (PySem.Str.ofString "_law_draws")) (PySem.Value.str (PySem.Str.ofString "_law_draws") 1018) (PySem.Value.ref 449)), (PySem.DictEntry.mk (PySem.PyData.keyHash P (PySem.Str.ofString "_law_file")) (PySem.Value.str (PySem.Str.ofString "_law_file") 1029) (PySem.Value.ref 456)), (PySem.DictEntry.mk (PySem.PyData.keyHash P (PySem.Str.ofString "_law_shared")) (PySem.Value.str (PySem.Str.ofString "_law_shared") 1035) (PySem.Value.ref 461)), (PySem.DictEntry.mk (PySem.PyData.keyHash P (PySem.Str.ofString "_law_keeps")) (PySem.Value.str (PySem.Str.ofString "_law_keeps") 1041) (PySem.Value.ref 466)), (PySem.DictEntry.mk (PySem.PyData.keyHash P (PySem.Str.ofString "law")) (PySem.Value.str (PySem.Str.ofString "law") 1047) (PySem.Value.ref 471))] 65) #[])) ::
  (nat_lit 50, (PySem.Obj.mk (PySem.Value.type "tuple") (Option.none) (PySem.Data.seq #[(PySem.Value.type "ValueError")] 0) #[])) ::
  (nat_lit 57, (PySem.Obj.mk (PySem.Value.type "tuple") (Option.none) (PySem.Data.seq #[] 0) #[])) ::
  (nat_lit 58, (PySem.Obj.mk (PySem.Value.type "dict") (Option.none) (PySem.Data.dict #[(PySem.DictEntry.mk (PySem.PyData.keyHash P (PySem.Str.ofString "__module__")) (PySem.Value.str (PySem.Str.ofString "__module__") 408) (PySem.Value.str (PySem.Str.ofString "cpy313.statistics") 399)), (PySem.DictEntry.mk (PySem.PyData.keyHash P (PySem.Str.ofString "__firstlineno__")) (PySem.Value.str (PySem.Str.ofString "__firstlineno__") 412) (PySem.Value.int 6 411)), (PySem.DictEntry.mk (PySem.PyData.keyHash P (PySem.Str.ofString "__static_attributes__")) (PySem.Value.str (PySem.Str.ofString "__static_attributes__") 413) (PySem.Value.ref 57)), (PySem.DictEntry.mk (PySem.PyData.keyHash P (PySem.Str.ofString "__weakref__")) (PySem.Value.str (PySem.Str.ofString "__weakref__") 415) (PySem.Value.ref 60)), (PySem.DictEntry.mk (PySem.PyData.keyHash P (PySem.Str.ofString "__doc__")) (PySem.Value.str (PySem.Str.ofString "__doc__") 416) PySem.Value.none)] 3) #[])) ::
  (nat_lit 59, (PySem.Obj.mk (PySem.Value.type "type") (Option.none) (PySem.Data.cls (PySem.ClassData.mk (PySem.Str.ofString "StatisticsError") [(PySem.Value.type "ValueError")] [(PySem.Value.ref 59), (PySem.Value.type "ValueError"), (PySem.Value.type "Exception"), (PySem.Value.type "BaseException"), (PySem.Value.type "object")] 58 (PySem.Str.ofString "StatisticsError") Bool.true [] [] Bool.false (Option.none) Bool.false)) #[(Option.some (PySem.Value.ref 50)), (Option.none), (Option.some (PySem.Value.str (PySem.Str.ofString "StatisticsError") 401)), (Option.some (PySem.Value.str (PySem.Str.ofString "StatisticsError") 409)), (Option.some (PySem.Value.builtin "ValueError.__new__")), (Option.some (PySem.Value.bool Bool.true))])) ::
  (nat_lit 60, (PySem.Obj.mk (PySem.Value.type "getset_descriptor") (Option.none) (PySem.Data.fields #[(PySem.Value.str (PySem.Str.ofString "__weakref__") 414), (PySem.Value.ref 59), (PySem.Value.builtin "ExceptionGroup.__weakref__"), PySem.Value.none]) #[])) ::
  (nat_lit 63, (PySem.Obj.mk (PySem.Value.type "tuple") (Option.none) (PySem.Data.seq #[] 0) #[])) ::
  (nat_lit 284, (PySem.Obj.mk (PySem.Value.type "code") (Option.none) (PySem.Data.fields #[(PySem.Value.str (PySem.Str.ofString "_sqrtprod") 751), (PySem.Value.str (PySem.Str.ofString "_sqrtprod") 752), (PySem.Value.str (PySem.Str.ofString "/claim/cut.py") 753), (PySem.Value.int 176 0), (PySem.Value.int 2 0), (PySem.Value.int 0 0), (PySem.Value.int 0 0), (PySem.Value.int 3 0), (PySem.Value.ref 279), (PySem.Value.bool Bool.true), (PySem.Value.int 386 0), (PySem.Value.ref 280), PySem.Value.none, (PySem.Value.ref 281), (PySem.Value.ref 282), (PySem.Value.ref 283), (PySem.Value.int 759 0), (PySem.Value.int 176 0), (PySem.Value.str (PySem.Str.ofString "/claim/cut.py") 760)]) #[])) ::
  (nat_lit 285, (PySem.Obj.mk (PySem.Value.type "function") (Option.none) (PySem.Data.func (PySem.FuncData.mk (PySem.Str.ofString "_sqrtprod") (PySem.Str.ofString "_sqrtprod") a17 (PySem.FuncBody.stmts b17) c17 3 [] PySem.Value.none PySem.Value.none PySem.Value.none (PySem.Value.str (PySem.Str.ofString "cpy313.statistics") 722) (Option.none) (PySem.Value.ref 284) PySem.Value.none 0)) #[])) ::
  (nat_lit 286, (PySem.Obj.mk (PySem.Value.type "tuple") (Option.none) (PySem.Data.seq #[] 0) #[])) ::
  (nat_lit 288, (PySem.Obj.mk (PySem.Value.type "tuple") (Option.none) (PySem.Data.seq #[(PySem.Value.str (PySem.Str.ofString "x") 765), (PySem.Value.str (PySem.Str.ofString "y") 766), (PySem.Value.str (PySem.Str.ofString "n") 767), (PySem.Value.str (PySem.Str.ofString "sxy") 768)] 0) #[])) ::
  (nat_lit 289, (PySem.Obj.mk (PySem.Value.type "tuple") (Option.none) (PySem.Data.seq #[(PySem.Value.str (PySem.Str.ofString "xbar") 769), (PySem.Value.str (PySem.Str.ofString "ybar") 770)] 0) #[])) ::
  (nat_lit 291, (PySem.Obj.mk (PySem.Value.type "code") (Option.none) (PySem.Data.fields #[(PySem.Value.str (PySem.Str.ofString "covariance") 762), (PySem.Value.str (PySem.Str.ofString "covariance") 763), (PySem.Value.str (PySem.Str.ofString "/claim/cut.py") 764), (PySem.Value.int 190 0), (PySem.Value.int 2 0), (PySem.Value.int 2 0), (PySem.Value.int 0 0), (PySem.Value.int 3 0), (PySem.Value.ref 286), (PySem.Value.bool Bool.true), (PySem.Value.int 386 0), (PySem.Value.ref 287), PySem.Value.none, (PySem.Value.ref 288), (PySem.Value.ref 289), (PySem.Value.ref 290), (PySem.Value.int 771 0), (PySem.Value.int 190 0), (PySem.Value.str (PySem.Str.ofString "/claim/cut.py") 772)]) #[])) ::
  (nat_lit 292, (PySem.Obj.mk (PySem.Value.type "function") (Option.none) (PySem.Data.func (PySem.FuncData.mk (PySem.Str.ofString "covariance") (PySem.Str.ofString "covariance") a18 (PySem.FuncBody.stmts b18) c18 3 [] PySem.Value.none PySem.Value.none PySem.Value.none (PySem.Value.str (PySem.Str.ofString "cpy313.statistics") 722) (Option.none) (PySem.Value.ref 291) PySem.Value.none 0)) #[])) ::
  (nat_lit 293, (PySem.Obj.mk (PySem.Value.type "dict") (Option.none) (PySem.Data.dict #[(PySem.DictEntry.mk (PySem.PyData.keyHash P (PySem.Str.ofString "method")) (PySem.Value.str (PySem.Str.ofString "method") 775) (PySem.Value.str (PySem.Str.ofString "linear") 774))] 1) #[])) ::
  (nat_lit 294, (PySem.Obj.mk (PySem.Value.type "tuple") (Option.none) (PySem.Data.seq #[] 0) #[])) ::
  (nat_lit 297, (PySem.Obj.mk (PySem.Value.type "code") (Option.none) (PySem.Data.fields #[(PySem.Value.str (PySem.Str.ofString "correlation") 776), (PySem.Value.str (PySem.Str.ofString "correlation") 777), (PySem.Value.str (PySem.Str.ofString "/claim/cut.py") 778), (PySem.Value.int 200 0), (PySem.Value.int 2 0), (PySem.Value.int 2 0), (PySem.Value.int 1 0), (PySem.Value.int 3 0), (PySem.Value.ref 294), (PySem.Value.bool Bool.true), (PySem.Value.int 386 0), (PySem.Value.ref 295), PySem.Value.none, PySem.Value.none, PySem.Value.none, (PySem.Value.ref 296), (PySem.Value.int 779 0), (PySem.Value.int 200 0), (PySem.Value.str (PySem.Str.ofString "/claim/cut.py") 780)]) #[])) ::
  (nat_lit 298, (PySem.Obj.mk (PySem.Value.type "function") (Option.none) (PySem.Data.func (PySem.FuncData.mk (PySem.Str.ofString "correlation") (PySem.Str.ofString "correlation") a19 (PySem.FuncBody.stmts b19) c19 3 [] PySem.Value.none (PySem.Value.ref 293) PySem.Value.none (PySem.Value.str (PySem.Str.ofString "cpy313.statistics") 722) (Option.none) (PySem.Value.ref 297) PySem.Value.none 0)) #[])) ::
  (nat_lit 299, (PySem.Obj.mk (PySem.Value.type "tuple") (Option.none) (PySem.Data.seq #[] 0) #[])) ::
  (nat_lit 301, (PySem.Obj.mk (PySem.Value.type "tuple") (Option.none) (PySem.Data.seq #[(PySem.Value.str (PySem.Str.ofString "x") 787), (PySem.Value.str (PySem.Str.ofString "what") 788), (PySem.Value.str (PySem.Str.ofString "kind") 789)] 0) #[])) ::
  (nat_lit 302, (PySem.Obj.mk (PySem.Value.type "tuple") (Option.none) (PySem.Data.seq #[] 0) #[])) ::
  (nat_lit 370, (PySem.Obj.mk (PySem.Value.type "code") (Option.none) (PySem.Data.fields #[(PySem.Value.str (PySem.Str.ofString "fspath") 871), (PySem.Value.str (PySem.Str.ofString "fspath") 872), (PySem.Value.str (PySem.Str.ofString "/claim/cut.py") 873), (PySem.Value.int 255 0), (PySem.Value.int 1 0), (PySem.Value.int 0 0), (PySem.Value.int 0 0), (PySem.Value.int 3 0), (PySem.Value.ref 365), (PySem.Value.bool Bool.true), (PySem.Value.int 386 0), (PySem.Value.ref 366), PySem.Value.none, (PySem.Value.ref 367), (PySem.Value.ref 368), (PySem.Value.ref 369), (PySem.Value.int 878 0), (PySem.Value.int 255 0), (PySem.Value.str (PySem.Str.ofString "/claim/cut.py") 879)]) #[])) ::
  (nat_lit 371, (PySem.Obj.mk (PySem.Value.type "function") (Option.none) (PySem.Data.func (PySem.FuncData.mk (PySem.Str.ofString "fspath") (PySem.Str.ofString "fspath") a28 (PySem.FuncBody.stmts b28) c28 3 [] PySem.Value.none PySem.Value.none PySem.Value.none (PySem.Value.str (PySem.Str.ofString "os") 869) (Option.none) (PySem.Value.ref 370) PySem.Value.none 0)) #[])) ::
  (nat_lit 372, (PySem.Obj.mk (PySem.Value.type "tuple") (Option.none) (PySem.Data.seq #[] 0) #[])) ::
  (nat_lit 384, (PySem.Obj.mk (PySem.Value.type "code") (Option.none) (PySem.Data.fields #[(PySem.Value.str (PySem.Str.ofString "splitroot") 896), (PySem.Value.str (PySem.Str.ofString "splitroot") 897), (PySem.Value.str (PySem.Str.ofString "/claim/cut.py") 898), (PySem.Value.int 284 0), (PySem.Value.int 1 0), (PySem.Value.int 0 0), (PySem.Value.int 0 0), (PySem.Value.int 3 0), (PySem.Value.ref 379), (PySem.Value.bool Bool.true), (PySem.Value.int 386 0), (PySem.Value.ref 380), PySem.Value.none, (PySem.Value.ref 381), (PySem.Value.ref 382), (PySem.Value.ref 383), (PySem.Value.int 902 0), (PySem.Value.int 284 0), (PySem.Value.str (PySem.Str.ofString "/claim/cut.py") 903)]) #[])) ::
  (nat_lit 385, (PySem.Obj.mk (PySem.Value.type "function") (Option.none) (PySem.Data.func (PySem.FuncData.mk (PySem.Str.ofString "splitroot") (PySem.Str.ofString "splitroot") a32 (PySem.FuncBody.stmts b32) c32 3 [] PySem.Value.none PySem.Value.none PySem.Value.none (PySem.Value.str (PySem.Str.ofString "cpy313.posixpath") 894) (Option.none) (PySem.Value.ref 384) PySem.Value.none 0)) #[])) ::
  (nat_lit 391, (PySem.Obj.mk (PySem.Value.type "code") (Option.none) (PySem.Data.fields #[(PySem.Value.str (PySem.Str.ofString "normpath") 905), (PySem.Value.str (PySem.Str.ofString "normpath") 906), (PySem.Value.str (PySem.Str.ofString "/claim/cut.py") 907), (PySem.Value.int 298 0), (PySem.Value.int 1 0), (PySem.Value.int 0 0), (PySem.Value.int 0 0), (PySem.Value.int 3 0), (PySem.Value.ref 386), (PySem.Value.bool Bool.true), (PySem.Value.int 386 0), (PySem.Value.ref 387), PySem.Value.none, (PySem.Value.ref 388), (PySem.Value.ref 389), (PySem.Value.ref 390), (PySem.Value.int 917 0), (PySem.Value.int 298 0), (PySem.Value.str (PySem.Str.ofString "/claim/cut.py") 918)]) #[])) ::
  (nat_lit 392, (PySem.Obj.mk (PySem.Value.type "function") (Option.none) (PySem.Data.func (PySem.FuncData.mk (PySem.Str.ofString "normpath") (PySem.Str.ofString "normpath") a33 (PySem.FuncBody.stmts b33) c33 3 [] PySem.Value.none PySem.Value.none PySem.Value.none (PySem.Value.str (PySem.Str.ofString "cpy313.posixpath") 894) (Option.none) (PySem.Value.ref 391) PySem.Value.none 0)) #[])) ::
  (nat_lit 396, (PySem.Obj.mk (PySem.Value.type "code") (Option.none) (PySem.Data.fields #[(PySem.Value.str (PySem.Str.ofString "commonpath") 920), (PySem.Value.str (PySem.Str.ofString "commonpath") 921), (PySem.Value.str (PySem.Str.ofString "/claim/cut.py") 922), (PySem.Value.int 323 0), (PySem.Value.int 1 0), (PySem.Value.int 0 0), (PySem.Value.int 0 0), (PySem.Value.int 3 0), (PySem.Value.ref 393), (PySem.Value.bool Bool.true), (PySem.Value.int 386 0), (PySem.Value.ref 394), PySem.Value.none, PySem.Value.none, PySem.Value.none, (PySem.Value.ref 395), (PySem.Value.int 923 0), (PySem.Value.int 323 0), (PySem.Value.str (PySem.Str.ofString "/claim/cut.py") 924)]) #[])) ::
  (nat_lit 397, (PySem.Obj.mk (PySem.Value.type "function") (Option.none) (PySem.Data.func (PySem.FuncData.mk (PySem.Str.ofString "commonpath") (PySem.Str.ofString "commonpath") a34 (PySem.FuncBody.stmts b34) c34 3 [] PySem.Value.none PySem.Value.none PySem.Value.none (PySem.Value.str (PySem.Str.ofString "cpy313.posixpath") 894) (Option.none) (PySem.Value.ref 396) PySem.Value.none 0)) #[])) ::
  (nat_lit 403, (PySem.Obj.mk (PySem.Value.type "code") (Option.none) (PySem.Data.fields #[(PySem.Value.str (PySem.Str.ofString "S_IFMT") 928), (PySem.Value.str (PySem.Str.ofString "S_IFMT") 929), (PySem.Value.str (PySem.Str.ofString "/claim/cut.py") 930), (PySem.Value.int 353 0), (PySem.Value.int 1 0), (PySem.Value.int 0 0), (PySem.Value.int 0 0), (PySem.Value.int 3 0), (PySem.Value.ref 398), (PySem.Value.bool Bool.true), (PySem.Value.int 386 0), (PySem.Value.ref 399), PySem.Value.none, (PySem.Value.ref 400), (PySem.Value.ref 401), (PySem.Value.ref 402), (PySem.Value.int 932 0), (PySem.Value.int 353 0), (PySem.Value.str (PySem.Str.ofString "/claim/cut.py") 933)]) #[])) ::
  (nat_lit 404, (PySem.Obj.mk (PySem.Value.type "function") (Option.none) (PySem.Data.func (PySem.FuncData.mk (PySem.Str.ofString "S_IFMT") (PySem.Str.ofString "S_IFMT") a36 (PySem.FuncBody.stmts b36) c36 3 [] PySem.Value.none PySem.Value.none PySem.Value.none (PySem.Value.str (PySem.Str.ofString "cpy313.stat") 926) (Option.none) (PySem.Value.ref 403) PySem.Value.none 0)) #[])) ::
  (nat_lit 405, (PySem.Obj.mk (PySem.Value.type "tuple") (Option.none) (PySem.Data.seq #[(PySem.Value.int 40960 945), (PySem.Value.str (PySem.Str.ofString "l") 973)] 0) #[])) ::
  (nat_lit 406, (PySem.Obj.mk (PySem.Value.type "tuple") (Option.none) (PySem.Data.seq #[(PySem.Value.int 49152 947), (PySem.Value.str (PySem.Str.ofString "s") 974)] 0) #[])) ::
  (nat_lit 407, (PySem.Obj.mk (PySem.Value.type "tuple") (Option.none) (PySem.Data.seq #[(PySem.Value.int 32768 941), (PySem.Value.str (PySem.Str.ofString "-") 975)] 0) #[])) ::
  (nat_lit 408, (PySem.Obj.mk (PySem.Value.type "tuple") (Option.none) (PySem.Data.seq #[(PySem.Value.int 24576 939), (PySem.Value.str (PySem.Str.ofString "b") 976)] 0) #[])) ::
  (nat_lit 409, (PySem.Obj.mk (PySem.Value.type "tuple") (Option.none) (PySem.Data.seq #[(PySem.Value.int 16384 935), (PySem.Value.str (PySem.Str.ofString "d") 977)] 0) #[])) ::
  (nat_lit 410, (PySem.Obj.mk (PySem.Value.type "tuple") (Option.none) (PySem.Data.seq #[(PySem.Value.int 8192 937), (PySem.Value.str (PySem.Str.ofString "c") 978)] 0) #[])) ::
  (nat_lit 411, (PySem.Obj.mk (PySem.Value.type "tuple") (Option.none) (PySem.Data.seq #[(PySem.Value.int 4096 943), (PySem.Value.str (PySem.Str.ofString "p") 979)] 0) #[])) ::
  (nat_lit 412, (PySem.Obj.mk (PySem.Value.type "tuple") (Option.none) (PySem.Data.seq #[(PySem.Value.ref 405), (PySem.Value.ref 406), (PySem.Value.ref 407), (PySem.Value.ref 408), (PySem.Value.ref 409), (PySem.Value.ref 410), (PySem.Value.ref 411)] 0) #[])) ::
  (nat_lit 413, (PySem.Obj.mk (PySem.Value.type "tuple") (Option.none) (PySem.Data.seq #[(PySem.Value.int 256 955), (PySem.Value.str (PySem.Str.ofString "r") 980)] 0) #[])) ::
  (nat_lit 414, (PySem.Obj.mk (PySem.Value.type "tuple") (Option.none) (PySem.Data.seq #[(PySem.Value.ref 413)] 0) #[])) ::
  (nat_lit 415, (PySem.Obj.mk (PySem.Value.type "tuple") (Option.none) (PySem.Data.seq #[(PySem.Value.int 128 957), (PySem.Value.str (PySem.Str.ofString "w") 981)] 0) #[])) ::
  (nat_lit 416, (PySem.Obj.mk (PySem.Value.type "tuple") (Option.none) (PySem.Data.seq #[(PySem.Value.ref 415)] 0) #[])) ::
  (nat_lit 417, (PySem.Obj.mk (PySem.Value.type "tuple") (Option.none) (PySem.Data.seq #[(PySem.Value.int 2112 982), (PySem.Value.str (PySem.Str.ofString "s") 983)] 0) #[])) ::
  (nat_lit 418, (PySem.Obj.mk (PySem.Value.type "tuple") (Option.none) (PySem.Data.seq #[(PySem.Value.int 2048 949), (PySem.Value.str (PySem.Str.ofString "S") 984)] 0) #[])) ::
  (nat_lit 419, (PySem.Obj.mk (PySem.Value.type "tuple") (Option.none) (PySem.Data.seq #[(PySem.Value.int 64 959), (PySem.Value.str (PySem.Str.ofString "x") 985)] 0) #[])) ::
  (nat_lit 420, (PySem.Obj.mk (PySem.Value.type "tuple") (Option.none) (PySem.Data.seq #[(PySem.Value.ref 417), (PySem.Value.ref 418), (PySem.Value.ref 419)] 0) #[])) ::
  (nat_lit 421, (PySem.Obj.mk (PySem.Value.type "tuple") (Option.none) (PySem.Data.seq #[(PySem.Value.int 32 961), (PySem.Value.str (PySem.Str.ofString "r") 986)] 0) #[])) ::
  (nat_lit 422, (PySem.Obj.mk (PySem.Value.type "tuple") (Option.none) (PySem.Data.seq #[(PySem.Value.ref 421)] 0) #[])) ::
  (nat_lit 423, (PySem.Obj.mk (PySem.Value.type "tuple") (Option.none) (PySem.Data.seq #[(PySem.Value.int 16 963), (PySem.Value.str (PySem.Str.ofString "w") 987)] 0) #[])) ::
  (nat_lit 424, (PySem.Obj.mk (PySem.Value.type "tuple") (Option.none) (PySem.Data.seq #[(PySem.Value.ref 423)] 0) #[])) ::
  (nat_lit 425, (PySem.Obj.mk (PySem.Value.type "tuple") (Option.none) (PySem.Data.seq #[(PySem.Value.int 1032 988), (PySem.Value.str (PySem.Str.ofString "s") 989)] 0) #[])) ::
  (nat_lit 426, (PySem.Obj.mk (PySem.Value.type "tuple") (Option.none) (PySem.Data.seq #[(PySem.Value.int 1024 951), (PySem.Value.str (PySem.Str.ofString "S") 990)] 0) #[])) ::
  (nat_lit 427, (PySem.Obj.mk (PySem.Value.type "tuple") (Option.none) (PySem.Data.seq #[(PySem.Value.int 8 965), (PySem.Value.str (PySem.Str.ofString "x") 991)] 0) #[])) ::
  (nat_lit 428, (PySem.Obj.mk (PySem.Value.type "tuple") (Option.none) (PySem.Data.seq #[(PySem.Value.ref 425), (PySem.Value.ref 426), (PySem.Value.ref 427)] 0) #[])) ::
  (nat_lit 429, (PySem.Obj.mk (PySem.Value.type "tuple") (Option.none) (PySem.Data.seq #[(PySem.Value.int 4 967), (PySem.Value.str (PySem.Str.ofString "r") 992)] 0) #[])) ::
  (nat_lit 430, (PySem.Obj.mk (PySem.Value.type "tuple") (Option.none) (PySem.Data.seq #[(PySem.Value.ref 429)] 0) #[])) ::
  (nat_lit 431, (PySem.Obj.mk (PySem.Value.type "tuple") (Option.none) (PySem.Data.seq #[(PySem.Value.int 2 969), (PySem.Value.str (PySem.Str.ofString "w") 993)] 0) #[])) ::
  (nat_lit 432, (PySem.Obj.mk (PySem.Value.type "tuple") (Option.none) (PySem.Data.seq #[(PySem.Value.ref 431)] 0) #[])) ::
  (nat_lit 433, (PySem.Obj.mk (PySem.Value.type "tuple") (Option.none) (PySem.Data.seq #[(PySem.Value.int 513 994), (PySem.Value.str (PySem.Str.ofString "t") 995)] 0) #[])) ::
  (nat_lit 434, (PySem.Obj.mk (PySem.Value.type "tuple") (Option.none) (PySem.Data.seq #[(PySem.Value.int 512 953), (PySem.Value.str (PySem.Str.ofString "T") 996)] 0) #[])) ::
  (nat_lit 435, (PySem.Obj.mk (PySem.Value.type "tuple") (Option.none) (PySem.Data.seq #[(PySem.Value.int 1 971), (PySem.Value.str (PySem.Str.ofString "x") 997)] 0) #[])) ::
  (nat_lit 436, (PySem.Obj.mk (PySem.Value.type "tuple") (Option.none) (PySem.Data.seq #[(PySem.Value.ref 433), (PySem.Value.ref 434), (PySem.Value.ref 435)] 0) #[])) ::
  (nat_lit 437, (PySem.Obj.mk (PySem.Value.type "tuple") (Option.none) (PySem.Data.seq #[(PySem.Value.ref 412), (PySem.Value.ref 414), (PySem.Value.ref 416), (PySem.Value.ref 420), (PySem.Value.ref 422), (PySem.Value.ref 424), (PySem.Value.ref 428), (PySem.Value.ref 430), (PySem.Value.ref 432), (PySem.Value.ref 436)] 0) #[])) ::
  (nat_lit 443, (PySem.Obj.mk (PySem.Value.type "code") (Option.none) (PySem.Data.fields #[(PySem.Value.str (PySem.Str.ofString "filemode") 999), (PySem.Value.str (PySem.Str.ofString "filemode") 1000), (PySem.Value.str (PySem.Str.ofString "/claim/cut.py") 1001), (PySem.Value.int 375 0), (PySem.Value.int 1 0), (PySem.Value.int 0 0), (PySem.Value.int 0 0), (PySem.Value.int 3 0), (PySem.Value.ref 438), (PySem.Value.bool Bool.true), (PySem.Value.int 386 0), (PySem.Value.ref 439), PySem.Value.none, (PySem.Value.ref 440), (PySem.Value.ref 441), (PySem.Value.ref 442), (PySem.Value.int 1008 0), (PySem.Value.int 375 0), (PySem.Value.str (PySem.Str.ofString "/claim/cut.py") 1009)]) #[])) ::
  (nat_lit 444, (PySem.Obj.mk (PySem.Value.type "function") (Option.none) (PySem.Data.func (PySem.FuncData.mk (PySem.Str.ofString "filemode") (PySem.Str.ofString "filemode") a57 (PySem.FuncBody.stmts b57) c57 3 [] PySem.Value.none PySem.Value.none PySem.Value.none (PySem.Value.str (PySem.Str.ofString "cpy313.stat") 926) (Option.none) (PySem.Value.ref 443) PySem.Value.none 0)) #[])) ::
  (nat_lit 448, (PySem.Obj.mk (PySem.Value.type "code") (Option.none) (PySem.Data.fields #[(PySem.Value.str (PySem.Str.ofString "_law_draws") 1013), (PySem.Value.str (PySem.Str.ofString "_law_draws") 1014), (PySem.Value.str (PySem.Str.ofString "/claim/cut.py") 1015), (PySem.Value.int 393 0), (PySem.Value.int 1 0), (PySem.Value.int 0 0), (PySem.Value.int 0 0), (PySem.Value.int 3 0), (PySem.Value.ref 445), (PySem.Value.bool Bool.true), (PySem.Value.int 386 0), (PySem.Value.ref 446), PySem.Value.none, PySem.Value.none, PySem.Value.none, (PySem.Value.ref 447), (PySem.Value.int 1016 0), (PySem.Value.int 393 0), (PySem.Value.str (PySem.Str.ofString "/claim/cut.py") 1017)]) #[])) ::
  (nat_lit 449, (PySem.Obj.mk (PySem.Value.type "function") (Option.none) (PySem.Data.func (PySem.FuncData.mk (PySem.Str.ofString "_law_draws") (PySem.Str.ofString "_law_draws") a59 (PySem.FuncBody.stmts b59) c59 3 [] PySem.Value.none PySem.Value.none PySem.Value.none (PySem.Value.str (PySem.Str.ofString "law_ik0222_01") 1011) (Option.none) (PySem.Value.ref 448) PySem.Value.none 0)) #[])) ::
  (nat_lit 455, (PySem.Obj.mk (PySem.Value.type "code") (Option.none) (PySem.Data.fields #[(PySem.Value.str (PySem.Str.ofString "_law_file") 1019), (PySem.Value.str (PySem.Str.ofString "_law_file") 1020), (PySem.Value.str (PySem.Str.ofString "/claim/cut.py") 1021), (PySem.Value.int 397 0), (PySem.Value.int 1 0), (PySem.Value.int 0 0), (PySem.Value.int 0 0), (PySem.Value.int 3 0), (PySem.Value.ref 450), (PySem.Value.bool Bool.true), (PySem.Value.int 386 0), (PySem.Value.ref 451), PySem.Value.none, (PySem.Value.ref 452), (PySem.Value.ref 453), (PySem.Value.ref 454), (PySem.Value.int 1027 0), (PySem.Value.int 397 0), (PySem.Value.str (PySem.Str.ofString "/claim/cut.py") 1028)]) #[])) ::
  (nat_lit 456, (PySem.Obj.mk (PySem.Value.type "function") (Option.none) (PySem.Data.func (PySem.FuncData.mk (PySem.Str.ofString "_law_file") (PySem.Str.ofString "_law_file") a60 (PySem.FuncBody.stmts b60) c60 3 [] PySem.Value.none PySem.Value.none PySem.Value.none (PySem.Value.str (PySem.Str.ofString "law_ik0222_01") 1011) (Option.none) (PySem.Value.ref 455) PySem.Value.none 0)) #[])) ::
  (nat_lit 460, (PySem.Obj.mk (PySem.Value.type "code") (Option.none) (PySem.Data.fields #[(PySem.Value.str (PySem.Str.ofString "_law_shared") 1030), (PySem.Value.str (PySem.Str.ofString "_law_shared") 1031), (PySem.Value.str (PySem.Str.ofString "/claim/cut.py") 1032), (PySem.Value.int 408 0), (PySem.Value.int 1 0), (PySem.Value.int 0 0), (PySem.Value.int 0 0), (PySem.Value.int 3 0), (PySem.Value.ref 457), (PySem.Value.bool Bool.true), (PySem.Value.int 386 0), (PySem.Value.ref 458), PySem.Value.none, PySem.Value.none, PySem.Value.none, (PySem.Value.ref 459), (PySem.Value.int 1033 0), (PySem.Value.int 408 0), (PySem.Value.str (PySem.Str.ofString "/claim/cut.py") 1034)]) #[])) ::
  (nat_lit 461, (PySem.Obj.mk (PySem.Value.type "function") (Option.none) (PySem.Data.func (PySem.FuncData.mk (PySem.Str.ofString "_law_shared") (PySem.Str.ofString "_law_shared") a61 (PySem.FuncBody.stmts b61) c61 3 [] PySem.Value.none PySem.Value.none PySem.Value.none (PySem.Value.str (PySem.Str.ofString "law_ik0222_01") 1011) (Option.none) (PySem.Value.ref 460) PySem.Value.none 0)) #[])) ::
  (nat_lit 465, (PySem.Obj.mk (PySem.Value.type "code") (Option.none) (PySem.Data.fields #[(PySem.Value.str (PySem.Str.ofString "_law_keeps") 1036), (PySem.Value.str (PySem.Str.ofString "_law_keeps") 1037), (PySem.Value.str (PySem.Str.ofString "/claim/cut.py") 1038), (PySem.Value.int 413 0), (PySem.Value.int 2 0), (PySem.Value.int 0 0), (PySem.Value.int 0 0), (PySem.Value.int 3 0), (PySem.Value.ref 462), (PySem.Value.bool Bool.true), (PySem.Value.int 386 0), (PySem.Value.ref 463), PySem.Value.none, PySem.Value.none, PySem.Value.none, (PySem.Value.ref 464), (PySem.Value.int 1039 0), (PySem.Value.int 413 0), (PySem.Value.str (PySem.Str.ofString "/claim/cut.py") 1040)]) #[])) ::
  (nat_lit 466, (PySem.Obj.mk (PySem.Value.type "function") (Option.none) (PySem.Data.func (PySem.FuncData.mk (PySem.Str.ofString "_law_keeps") (PySem.Str.ofString "_law_keeps") a62 (PySem.FuncBody.stmts b62) c62 3 [] PySem.Value.none PySem.Value.none PySem.Value.none (PySem.Value.str (PySem.Str.ofString "law_ik0222_01") 1011) (Option.none) (PySem.Value.ref 465) PySem.Value.none 0)) #[])) ::
  (nat_lit 470, (PySem.Obj.mk (PySem.Value.type "code") (Option.none) (PySem.Data.fields #[(PySem.Value.str (PySem.Str.ofString "law") 1042), (PySem.Value.str (PySem.Str.ofString "law") 1043), (PySem.Value.str (PySem.Str.ofString "/claim/cut.py") 1044), (PySem.Value.int 443 0), (PySem.Value.int 1 0), (PySem.Value.int 0 0), (PySem.Value.int 0 0), (PySem.Value.int 3 0), (PySem.Value.ref 467), (PySem.Value.bool Bool.true), (PySem.Value.int 386 0), (PySem.Value.ref 468), PySem.Value.none, PySem.Value.none, PySem.Value.none, (PySem.Value.ref 469), (PySem.Value.int 1045 0), (PySem.Value.int 443 0), (PySem.Value.str (PySem.Str.ofString "/claim/cut.py") 1046)]) #[])) ::
  (nat_lit 471, (PySem.Obj.mk (PySem.Value.type "function") (Option.none) (PySem.Data.func (PySem.FuncData.mk (PySem.Str.ofString "law") (PySem.Str.ofString "law") a63 (PySem.FuncBody.stmts b63) c63 3 [] PySem.Value.none PySem.Value.none PySem.Value.none (PySem.Value.str (PySem.Str.ofString "law_ik0222_01") 1011) (Option.none) (PySem.Value.ref 470) PySem.Value.none 0)) #[])) :: []
/-- the same, the bodies read off the row once for all -/
noncomputable def frag : Params → Frag := fun P => by
  refine (fun (x : Frag) (_ : x = fragOf (argsOf (topAt 17)) (bodyOf (topAt 17)) (scopeOf (topAt 17)) (argsOf (topAt 18)) (bodyOf (topAt 18)) (scopeOf (topAt 18)) (argsOf (topAt 19)) (bodyOf (topAt 19)) (scopeOf (topAt 19)) (argsOf (topAt 28)) (bodyOf (topAt 28)) (scopeOf (topAt 28)) (argsOf (topAt 32)) (bodyOf (topAt 32)) (scopeOf (topAt 32)) (argsOf (topAt 33)) (bodyOf (topAt 33)) (scopeOf (topAt 33)) (argsOf (topAt 34)) (bodyOf (topAt 34)) (scopeOf (topAt 34)) (argsOf (topAt 36)) (bodyOf (topAt 36)) (scopeOf (topAt 36)) (argsOf (topAt 57)) (bodyOf (topAt 57)) (scopeOf (topAt 57)) (argsOf (topAt 59)) (bodyOf (topAt 59)) (scopeOf (topAt 59)) (argsOf (topAt 60)) (bodyOf (topAt 60)) (scopeOf (topAt 60)) (argsOf (topAt 61)) (bodyOf (topAt 61)) (scopeOf (topAt 61)) (argsOf (topAt 62)) (bodyOf (topAt 62)) (scopeOf (topAt 62)) (argsOf (topAt 63)) (bodyOf (topAt 63)) (scopeOf (topAt 63)) P) => x) ?x ?h
  case h =>
    conv =>
      rhs
      conv => arg 1; whnf
      conv => arg 2; whnf
      conv => arg 3; whnf
      conv => arg 4; whnf
      conv => arg 5; whnf
      conv => arg 6; whnf
      conv => arg 7; whnf
      conv => arg 8; whnf
      conv => arg 9; whnf
      conv => arg 10; whnf
      conv => arg 11; whnf
      conv => arg 12; whnf
      conv => arg 13; whnf
      conv => arg 14; whnf
      conv => arg 15; whnf
      conv => arg 16; whnf
      conv => arg 17; whnf
      conv => arg 18; whnf
      conv => arg 19; whnf
      conv => arg 20; whnf
      conv => arg 21; whnf
      conv => arg 22; whnf
      conv => arg 23; whnf
      conv => arg 24; whnf
      conv => arg 25; whnf
      conv => arg 26; whnf
      conv => arg 27; whnf
      conv => arg 28; whnf
      conv => arg 29; whnf
      conv => arg 30; whnf
      conv => arg 31; whnf
      conv => arg 32; whnf
      conv => arg 33; whnf
      conv => arg 34; whnf
      conv => arg 35; whnf
      conv => arg 36; whnf
      conv => arg 37; whnf
      conv => arg 38; whnf
      conv => arg 39; whnf
      conv => arg 40; whnf
      conv => arg 41; whnf
      conv => arg 42; whnf
      whnf
noncomputable def fragAt : List Addr := [2, 3, 50, 57, 58, 59, 60, 63, 284, 285, 286, 288, 289, 291, 292, 293, 294, 297, 298, 299, 301, 302, 370, 371, 372, 384, 385, 391, 392, 396, 397, 403, 404, 405, 406, 407, 408, 409, 410, 411, 412, 413, 414, 415, 416, 417, 418, 419, 420, 421, 422, 423, 424, 425, 426, 427, 428, 429, 430, 431, 432, 433, 434, 435, 436, 437, 443, 444, 448, 449, 455, 456, 460, 461, 465, 466, 470, 471]
theorem frag_at : ∀ P, fragAt = (frag P).map (·.1) := fun _ => by kernel_rfl
end Mine
end
section
open PySem.Calls PySem.Spec
namespace Mine
/-- the top's run, its heap kept as a tree -/
def topT (den : Code → Sem Fin) (p : Program) (w : World) (n₀ : Nat) (ann : Option Value) (st : (Code → Sem Fin) → Program → World → SharedT → Thread → Option (SharedT × Thread)) : Nat → SharedT → Thread → Option SharedT
  | 0, _, _ => none
  | n + 1, s, t => match through t with
    | true => some s
    | false => match stepOk n₀ ann t with
      | false => none
      | true => match st den p w s t with
        | some (s', t') => topT den p w n₀ ann st n s' t'
        | none => none
theorem topT_of {tb : String → Option Builtin} {p : Program} {w : World} {n₀ : Nat} {ann : Option Value} : ∀ {n : Nat} {s s' : SharedT} {t : Thread}, topT (denote tb) p w n₀ ann stepT n s t = some s' → topRun tb p w n₀ ann n s.abs t = some s'.abs
  | 0, _, _, _, h => by cases h
  | n + 1, s, s', t, h => by
    unfold topT at h
    unfold topRun
    cases ht : through t with
    | true => rw [ht] at h; cases h; rfl
    | false =>
      rw [ht] at h
      cases hk : stepOk n₀ ann t with
      | false => rw [hk] at h; cases h
      | true =>
        rw [hk] at h
        cases hs : stepT (denote tb) p w s t with
        | none => rw [hs] at h; cases h
        | some r =>
          obtain ⟨s₂, t₂⟩ := r
          rw [hs] at h
          dsimp only
          rw [stepT_spec hs]
          exact topT_of h
def impT (den : Code → Sem Fin) (p : Program) (w : World) (st : (Code → Sem Fin) → Program → World → SharedT → Thread → Option (SharedT × Thread)) : Nat → SharedT → Thread → Option SharedT
  | 0, _, _ => none
  | n + 1, s, t => match t.atExitBegin with
    | some [] => some s
    | some (_ :: _) => none
    | none => match st den p w s t with
      | some (s', t') => impT den p w st n s' t'
      | none => none
theorem impT_of {tb : String → Option Builtin} {p : Program} {w : World} : ∀ {n : Nat} {s s' : SharedT} {t : Thread}, impT (denote tb) p w stepT n s t = some s' → importEnds tb p w n s.abs t = some s'.abs
  | 0, _, _, _, h => by cases h
  | n + 1, s, s', t, h => by
    unfold impT at h
    unfold importEnds
    cases ht : t.atExitBegin with
    | some l =>
      rw [ht] at h
      cases l with
      | nil => cases h; rfl
      | cons a b => cases h
    | none =>
      rw [ht] at h
      cases hs : stepT (denote tb) p w s t with
      | none => rw [hs] at h; cases h
      | some r =>
        obtain ⟨s₂, t₂⟩ := r
        rw [hs] at h
        dsimp only
        rw [stepT_spec hs]
        exact impT_of h
/-- a list of objects as a tree -/
def treeOf : List Obj → BT → Nat → Option (BT × Nat)
  | [], t, n => some (t, n)
  | o :: l, t, n => match ((t.ins n o).get n).isSome with
    | true => treeOf l (t.ins n o) (n + 1)
    | false => none
theorem treeOf_spec (life : Life) : ∀ {l : List Obj} {t t' : BT} {n n' : Nat} {h : Heap}, treeOf l t n = some (t', n') → absHeap t n life = h → absHeap t' n' life = ⟨(h.objs.toList ++ l).toArray, life⟩
  | [], t, t', n, n', h, e, k => by
    cases e
    rw [k, List.append_nil, Array.toArray_toList]
    subst k
    rfl
  | o :: l, t, t', n, n', h, e, k => by
    unfold treeOf at e
    cases g : ((t.ins n o).get n).isSome with
    | false => rw [g] at e; cases e
    | true =>
      rw [g] at e
      have := treeOf_spec life (h := h.push o) e (by rw [absHeap_ins g, k])
      rw [this]
      congr 2
      show (h.objs.push o).toList ++ l = _
      rw [Array.toList_push, List.append_assoc]; rfl
def toT (s : Shared) : Option SharedT := match treeOf s.heap.objs.toList .nil 0 with
  | some (t, n) => some ⟨t, n, s.heap.life, s.gens, s.drawn, s.toks, s.os⟩
  | none => none
theorem toT_spec {s : Shared} {T : SharedT} (h : toT s = some T) : T.abs = s := by
  unfold toT at h
  cases e : treeOf s.heap.objs.toList .nil 0 with
  | none => rw [e] at h; cases h
  | some r =>
    obtain ⟨t, n⟩ := r
    rw [e] at h
    cases h
    have := treeOf_spec s.heap.life (h := ⟨#[], s.heap.life⟩) e rfl
    show Shared.mk (absHeap t n s.heap.life) _ _ _ _ = s
    rw [this]
    obtain ⟨⟨objs, life⟩, g, d, k, os⟩ := s
    rfl
def leftB {α : Type} (den : Code → Sem Fin) (st : (Code → Sem Fin) → Program → World → SharedT → Thread → Option (SharedT × Thread)) (fence : Program → Shared → Option Shared) (s0 : Shared × Thread) (seen : Shared → α) (p : Program) (N : Nat) (w : World) : Option α :=
  match toT s0.1 with
  | none => none
  | some T0 => match impT den (opening p) w st N T0 s0.2 with
    | none => none
    | some T1 => match fence p T1.abs with
      | none => none
      | some S1 => match S1.heap.isNs mainGlobals && S1.gens.size == 0 with
        | false => none
        | true => match toT S1 with
          | none => none
          | some T2 => match topT den p w S1.heap.objs.size (S1.heap.nsMap mainGlobals "__annotations__") st N T2 (topStub p) with
            | none => none
            | some T3 => match staticsOk (importedModules p.main.body) S1.heap T3.abs.heap && namesBound p T3.abs.heap && gensDone T3.abs && laidKept S1.heap T3.abs.heap with
              | false => none
              | true => some (seen T3.abs)
theorem leftB_spec {α : Type} {seen : Shared → α} {p : Program} {N : Nat} {w : World} {r : α} (h : leftB (denote treeTable) stepT fenceModules? (start (opening p)) seen p N w = some r) : (openEnds treeTable p w N).map seen = some r := by
  unfold leftB at h
  cases e0 : toT (start (opening p)).1 with
  | none => rw [e0] at h; cases h
  | some T0 =>
  rw [e0] at h; dsimp only at h
  cases e1 : impT (denote treeTable) (opening p) w stepT N T0 (start (opening p)).2 with
  | none => rw [e1] at h; cases h
  | some T1 =>
  rw [e1] at h; dsimp only at h
  cases e2 : fenceModules? p T1.abs with
  | none => rw [e2] at h; cases h
  | some S1 =>
  rw [e2] at h; dsimp only at h
  cases e3 : (S1.heap.isNs mainGlobals && S1.gens.size == 0) with
  | false => rw [e3] at h; cases h
  | true =>
  rw [e3] at h; dsimp only at h
  cases e4 : toT S1 with
  | none => rw [e4] at h; cases h
  | some T2 =>
  rw [e4] at h; dsimp only at h
  cases e5 : topT (denote treeTable) p w S1.heap.objs.size (S1.heap.nsMap mainGlobals "__annotations__") stepT N T2 (topStub p) with
  | none => rw [e5] at h; cases h
  | some T3 =>
  rw [e5] at h; dsimp only at h
  cases e6 : (staticsOk (importedModules p.main.body) S1.heap T3.abs.heap && namesBound p T3.abs.heap && gensDone T3.abs && laidKept S1.heap T3.abs.heap) with
  | false => rw [e6] at h; cases h
  | true =>
  rw [e6] at h; dsimp only at h
  have i1 := impT_of e1
  rw [toT_spec e0] at i1
  have i5 := topT_of e5
  rw [toT_spec e4] at i5
  have q : openEnds treeTable p w N = some T3.abs := by
    unfold openEnds fencedOpening
    rw [i1]
    show (fenceModules? p T1.abs).bind _ = _
    rw [e2]
    show topFrom treeTable p w N S1 = _
    unfold topFrom
    rw [e3]
    dsimp only
    rw [i5]
    show (match staticsOk (importedModules p.main.body) S1.heap T3.abs.heap && namesBound p T3.abs.heap && gensDone T3.abs && laidKept S1.heap T3.abs.heap with | true => _ | false => _) = _
    rw [e6]
  rw [q]
  exact h
noncomputable def vwOf (t0 t1 t3 t5 t6 t7 t8 t9 t10 t11 t12 t14 t17 t18 t21 t23 t25 t26 t28 t30 t32 t33 t34 t36 t37 t38 t39 t40 t41 t42 t43 t44 t45 t46 t47 t48 t49 t50 t51 t52 t53 t54 t55 t56 t57 t59 t60 t61 t62 t63 : Stmt) : Program := { PySem.Challenge.pw_ik0222_01 with main := { PySem.Challenge.pw_ik0222_01.main with body := t0 :: t1 :: t3 :: t5 :: t6 :: t7 :: t8 :: t9 :: t10 :: t11 :: t12 :: t14 :: t17 :: t18 :: t21 :: t23 :: t25 :: t26 :: t28 :: t30 :: t32 :: t33 :: t34 :: t36 :: t37 :: t38 :: t39 :: t40 :: t41 :: t42 :: t43 :: t44 :: t45 :: t46 :: t47 :: t48 :: t49 :: t50 :: t51 :: t52 :: t53 :: t54 :: t55 :: t56 :: t57 :: t59 :: t60 :: t61 :: t62 :: t63 :: [] } }
/-- the text without the statements that the look leaves loose -/
noncomputable def vw : Program := by
  refine (fun (x : Program) (_ : x = vwOf (topAt 0) (topAt 1) (topAt 3) (topAt 5) (topAt 6) (topAt 7) (topAt 8) (topAt 9) (topAt 10) (topAt 11) (topAt 12) (topAt 14) (topAt 17) (topAt 18) (topAt 21) (topAt 23) (topAt 25) (topAt 26) (topAt 28) (topAt 30) (topAt 32) (topAt 33) (topAt 34) (topAt 36) (topAt 37) (topAt 38) (topAt 39) (topAt 40) (topAt 41) (topAt 42) (topAt 43) (topAt 44) (topAt 45) (topAt 46) (topAt 47) (topAt 48) (topAt 49) (topAt 50) (topAt 51) (topAt 52) (topAt 53) (topAt 54) (topAt 55) (topAt 56) (topAt 57) (topAt 59) (topAt 60) (topAt 61) (topAt 62) (topAt 63)) => x) ?x ?h
  case h =>
    conv =>
      rhs
      conv => arg 1; whnf
      conv => arg 2; whnf
      conv => arg 3; whnf
      conv => arg 4; whnf
      conv => arg 5; whnf
      conv => arg 6; whnf
      conv => arg 7; whnf
      conv => arg 8; whnf
      conv => arg 9; whnf
      conv => arg 10; whnf
      conv => arg 11; whnf
      conv => arg 12; whnf
      conv => arg 13; whnf
      conv => arg 14; whnf
      conv => arg 15; whnf
      conv => arg 16; whnf
      conv => arg 17; whnf
      conv => arg 18; whnf
      conv => arg 19; whnf
      conv => arg 20; whnf
      conv => arg 21; whnf
      conv => arg 22; whnf
      conv => arg 23; whnf
      conv => arg 24; whnf
      conv => arg 25; whnf
      conv => arg 26; whnf
      conv => arg 27; whnf
      conv => arg 28; whnf
      conv => arg 29; whnf
      conv => arg 30; whnf
      conv => arg 31; whnf
      conv => arg 32; whnf
      conv => arg 33; whnf
      conv => arg 34; whnf
      conv => arg 35; whnf
      conv => arg 36; whnf
      conv => arg 37; whnf
      conv => arg 38; whnf
      conv => arg 39; whnf
      conv => arg 40; whnf
      conv => arg 41; whnf
      conv => arg 42; whnf
      conv => arg 43; whnf
      conv => arg 44; whnf
      conv => arg 45; whnf
      conv => arg 46; whnf
      conv => arg 47; whnf
      conv => arg 48; whnf
      conv => arg 49; whnf
      conv => arg 50; whnf
      whnf
def lse : List Str := [Str.ofString "groupby", Str.ofString "_grouper", Str.ofString "count", Str.ofString "itemgetter", Str.ofString "_rank", Str.ofString "correlation", Str.ofString "_filemode_table"]
noncomputable abbrev hook : Hook := kHook frag fragAt frag_at
theorem left : LeftO PySem.Challenge.pw_ik0222_01 vw lse (fun s => xlAt vw [] s && recOk [] s) (Hook.obs hook) (Hook.val hook) 6830 := fun w => by
  refine leftB_spec ?_
  rw [PySem.W.Fast.te10156331382660048174, PySem.W.Fast.te11892475500146522536, PySem.W.Fast.te14289696077712309145, PySem.W.Fast.te4187177175401517315, PySem.W.Fast.te1435165496053646825, PySem.W.Fast.te14364793385576792824, PySem.W.Fast.te5923862056798008813]
  kernel_rfl
theorem said : PySem.Challenge.rw_ik0222_01.wellSaid = true := by
  rw [PySem.W.Fast.te9446332074065402090]
  unfold PySem.W.Fast.tw9446332074065402090
  repeat' (with_reducible refine look_both ?_ ?_)
  all_goals (try unfold PySem.W.Fast.tw17960256430627541270)
  repeat' (with_reducible refine look_both ?_ ?_)
  all_goals (try unfold PySem.W.Fast.tw2436336058641802641)
  repeat' (with_reducible refine look_both ?_ ?_)
  all_goals (try unfold PySem.W.Fast.tw12908688711261696721)
  repeat' (with_reducible refine look_both ?_ ?_)
  all_goals decide +kernel
end Mine
end
section
open PySem.Calls PySem.Spec
set_option maxHeartbeats 4000000
namespace Mine
section
variable {prog : Program} {w : World} {A : Around} {E : Value → Shared → Prop} {s : Shared} {env : Env} {h₀ : Heap} {x : Str} {body : List Stmt} {Q : Flow → Shared → Prop}
/-- the end of a turn: the object at D and the frame's map may have changed, nothing else -/
def TurnEnd (h₀ : Heap) (L : Addr) (rest : List (Addr × Obj)) (D : Addr) (J : (Str → Option Value) → Obj → Prop) (s : Shared) (Q : Flow → Shared → Prop) (f : Flow) (s₂ : Shared) : Prop :=
  match f with
  | .ret v => Q (.ret v) s₂
  | .brk => Q .next s₂
  | _ => ∃ h' tk' m' o', s₂ = { s with heap := h', toks := tk' } ∧ Fr h₀ L h' m' ∧ News h₀ L h' ((D, o') :: rest) ∧ J m' o'
theorem TurnEnd.next {L : Addr} {rest : List (Addr × Obj)} {D : Addr} {J : (Str → Option Value) → Obj → Prop} {h' : Heap} {tk' : Nat} {m' : Str → Option Value} {o' : Obj}
    (F : Fr h₀ L h' m') (N : News h₀ L h' ((D, o') :: rest)) (j : J m' o') : TurnEnd h₀ L rest D J s Q .next { s with heap := h', toks := tk' } := ⟨h', tk', m', o', rfl, F, N, j⟩
theorem TurnEnd.cont {L : Addr} {rest : List (Addr × Obj)} {D : Addr} {J : (Str → Option Value) → Obj → Prop} {h' : Heap} {tk' : Nat} {m' : Str → Option Value} {o' : Obj}
    (F : Fr h₀ L h' m') (N : News h₀ L h' ((D, o') :: rest)) (j : J m' o') : TurnEnd h₀ L rest D J s Q .cont { s with heap := h', toks := tk' } := ⟨h', tk', m', o', rfl, F, N, j⟩

theorem iter_led {ax D : Addr} {vs : List Value} {o₀ oa : Obj} {k : Nat} {rest : List (Addr × Obj)} {m₀ : Str → Option Value} (J : Nat → (Str → Option Value) → Obj → Prop)
    (hh : A.handled = none) (F : Fr h₀ env.locals s.heap m₀) (N : News h₀ env.locals s.heap ((D, o₀) :: rest)) (hax : (ax, oa) ∈ rest) (hoc : oa.cls = .type "list") (hod : oa.data = .seq vs.toArray k)
    (off : ∀ p ∈ rest, p.1 ≠ D) (hj : J 0 m₀ o₀)
    (turn : ∀ i v m₁ o I oI h tk, vs[i]? = some v → J i m₁ o → I ≠ D → (∀ p ∈ rest, p.1 ≠ I) → Fr h₀ env.locals h (fun y => if y = x then some v else m₁ y) → News h₀ env.locals h ((D, o) :: (I, oI) :: rest) →
      wpAny (model prog w) A (execs body env) (TurnEnd h₀ env.locals ((I, oI) :: rest) D (J (i + 1)) { s with heap := h, toks := tk } Q) E { s with heap := h, toks := tk })
    (done : ∀ m₁ o h tk, J vs.length m₁ o → Fr h₀ env.locals h m₁ → News h₀ env.locals h ((D, o) :: rest) → Q .next { s with heap := h, toks := tk }) :
    wpAny (model prog w) A (pyIter (.ref ax)) (fun it s₂ => LoopAtV prog w A h₀ env x body Q E it s₂) E s := by
  have ha := N _ (List.mem_cons_of_mem _ hax)
  have hls : s.heap.IsList ax vs.toArray := ⟨oa, ha.1, hoc, k, hod⟩
  have hlt : ax < s.heap.objs.size := Heap.lt_size ha.1
  have hne : ax ≠ s.heap.objs.size := Nat.ne_of_lt hlt
  refine wpAny_pyIter_list hls ?_
  have W := Walks.list (prog := prog) (w := w) hh s.heap.objs.size ax hne vs.toArray
  have hsz : vs.toArray.size = vs.length := List.size_toArray
  let J' : Nat → (Str → Option Value) → List (Addr × Obj) → Prop := fun i m₁ news₁ => ∃ o, news₁ = (D, o) :: rest ∧ J i m₁ o
  have up : ∀ b o, s.heap.get? b = some o → (s.heap.push { cls := .type "list_iterator", data := .fields #[.ref ax, .int 0 0] }).get? b = some o := fun b o e => Heap.get?_push_of_some _ e
  refine ⟨s.heap.objs.size, [s.heap.objs.size, ax], [s.heap.objs.size], vs.toArray.size, _, _, m₀, (D, o₀) :: rest, J', rfl, W, ?_, ?_, ?_, ⟨⟨_, Heap.get?_push_size _ rfl, rfl, rfl⟩, hls.at fun o e => Heap.get?_push_of_some _ e⟩, F.push _, (fun p hp => ⟨Heap.get?_push_of_some _ (N p hp).1, (N p hp).2⟩), ⟨o₀, rfl, hj⟩, ?_, ?_⟩
  · intro hm
    rcases List.mem_cons.mp hm with e | hm
    · exact absurd F.ns.lt (e ▸ Nat.lt_irrefl _)
    · exact absurd (List.mem_singleton.mp hm).symm ha.2.1
  · intro b hb
    rw [List.mem_singleton.mp hb]
    exact next_is_new F
  · intro p hp hI
    exact absurd (Heap.lt_size (N p hp).1) ((List.mem_singleton.mp hI) ▸ Nat.lt_irrefl _)
  · rintro i v m₁ news₁ s₁ own ⟨hh', tk', rfl⟩ hin hP ⟨o, rfl, hJ⟩ hoff hown hown2 hown3 st F₁ N₁
    obtain ⟨oI, heI, _⟩ := st.1
    have hI : ((s.heap.objs.size, oI) : Addr × Obj) ∈ own := hown3 _ List.mem_cons_self (next_is_new F) oI heI
    have hrI : ∀ p ∈ rest, p.1 ≠ s.heap.objs.size := fun p hp => Nat.ne_of_lt (Heap.lt_size (N p (List.mem_cons_of_mem _ hp)).1)
    have N₂ : News h₀ env.locals hh' ((D, o) :: (s.heap.objs.size, oI) :: rest) := fun p hp => by
      rcases List.mem_cons.mp hp with rfl | hp
      · exact N₁ _ (List.mem_append_right _ List.mem_cons_self)
      · rcases List.mem_cons.mp hp with rfl | hp
        · exact N₁ _ (List.mem_append_left _ hI)
        · exact N₁ _ (List.mem_append_right _ (List.mem_cons_of_mem _ hp))
    have hv : vs[i]? = some v := by simpa using hP
    have hID : s.heap.objs.size ≠ D := Ne.symm (Nat.ne_of_lt (Heap.lt_size (N (D, o₀) List.mem_cons_self).1))
    refine wpAny_mono (turn i v m₁ o s.heap.objs.size oI hh' tk' hv hJ hID hrI F₁ N₂) (fun f s₂ p => ?_) fun _ _ e => e
    have fin : (∃ h' tk'' m' o', s₂ = { s with heap := h', toks := tk'' } ∧ Fr h₀ env.locals h' m' ∧ News h₀ env.locals h' ((D, o') :: (s.heap.objs.size, oI) :: rest) ∧ J (i + 1) m' o') →
        LoopStepU h₀ env.locals [s.heap.objs.size] own (J' (i + 1)) { s with heap := hh', toks := tk' } .next s₂ := by
      rintro ⟨h', tk, m', o', e, F', N', hj'⟩
      refine ⟨rfl, h', tk, m', (D, o') :: rest, e, F', fun p hp => ?_, ?_, ⟨o', rfl, hj'⟩⟩
      · rcases List.mem_append.mp hp with hp | hp
        · have e1 := hown2 p hp
          rcases List.mem_cons.mp (hown p hp) with h1 | h1
          · have : p = (s.heap.objs.size, oI) := by
              obtain ⟨p1, p2⟩ := p
              simp only at h1 e1
              subst h1
              rw [show hh'.get? s.heap.objs.size = some oI from heI] at e1
              cases e1; rfl
            rw [this]; exact N' _ (List.mem_cons_of_mem _ List.mem_cons_self)
          · have h2 := List.mem_singleton.mp h1
            have : p = (ax, oa) := by
              obtain ⟨p1, p2⟩ := p
              simp only at h2 e1
              subst h2
              have := (N₂ _ (List.mem_cons_of_mem _ (List.mem_cons_of_mem _ hax))).1
              rw [show hh'.get? p1 = some oa from this] at e1
              cases e1; rfl
            rw [this]; exact N' _ (List.mem_cons_of_mem _ (List.mem_cons_of_mem _ hax))
        · rcases List.mem_cons.mp hp with rfl | hp
          · exact N' _ List.mem_cons_self
          · exact N' _ (List.mem_cons_of_mem _ (List.mem_cons_of_mem _ hp))
      · intro p hp hm
        rcases List.mem_cons.mp hp with rfl | hp
        · exact hID (List.mem_singleton.mp hm).symm
        · exact hrI p hp (List.mem_singleton.mp hm)
    cases f with
    | ret v => exact .ret p
    | brk => exact .brk p
    | next => exact .next (fin p)
    | cont => exact .cont (fin p)
  · rintro h' tk m' news' F' N' _ ⟨o, rfl, hJ⟩
    rw [hsz] at hJ
    exact done m' o h' tk hJ F' N'
/-- as iter_led, where the frame's map changes at the loop's own name alone -/
def TurnEnd1 (h₀ : Heap) (L : Addr) (m₀ : Str → Option Value) (x : Str) (rest : List (Addr × Obj)) (D : Addr) (J : Obj → Prop) (s : Shared) (Q : Flow → Shared → Prop) (f : Flow) (s₂ : Shared) : Prop :=
  match f with
  | .ret v => Q (.ret v) s₂
  | .brk => Q .next s₂
  | _ => ∃ h' tk' m' o', s₂ = { s with heap := h', toks := tk' } ∧ Fr h₀ L h' m' ∧ News h₀ L h' ((D, o') :: rest) ∧ (∀ z, z ≠ x → m' z = m₀ z) ∧ J o'
theorem TurnEnd1.next {L : Addr} {m₀ : Str → Option Value} {rest : List (Addr × Obj)} {D : Addr} {J : Obj → Prop} {h' : Heap} {tk' : Nat} {v : Option Value} {o' : Obj}
    (F : Fr h₀ L h' (fun y => if y = x then v else m₀ y)) (N : News h₀ L h' ((D, o') :: rest)) (j : J o') : TurnEnd1 h₀ L m₀ x rest D J s Q .next { s with heap := h', toks := tk' } := ⟨h', tk', _, o', rfl, F, N, fun z hz => by simp [hz], j⟩
theorem TurnEnd1.cont {L : Addr} {m₀ : Str → Option Value} {rest : List (Addr × Obj)} {D : Addr} {J : Obj → Prop} {h' : Heap} {tk' : Nat} {v : Option Value} {o' : Obj}
    (F : Fr h₀ L h' (fun y => if y = x then v else m₀ y)) (N : News h₀ L h' ((D, o') :: rest)) (j : J o') : TurnEnd1 h₀ L m₀ x rest D J s Q .cont { s with heap := h', toks := tk' } := ⟨h', tk', _, o', rfl, F, N, fun z hz => by simp [hz], j⟩

theorem iter_led1 {ax D : Addr} {vs : List Value} {o₀ oa : Obj} {k : Nat} {rest : List (Addr × Obj)} {m₀ : Str → Option Value} (J : Nat → Obj → Prop)
    (hh : A.handled = none) (F : Fr h₀ env.locals s.heap m₀) (N : News h₀ env.locals s.heap ((D, o₀) :: rest)) (hax : (ax, oa) ∈ rest) (hoc : oa.cls = .type "list") (hod : oa.data = .seq vs.toArray k)
    (off : ∀ p ∈ rest, p.1 ≠ D) (hj : J 0 o₀)
    (turn : ∀ i v o I oI h tk, vs[i]? = some v → J i o → I ≠ D → (∀ p ∈ rest, p.1 ≠ I) → Fr h₀ env.locals h (fun y => if y = x then some v else m₀ y) → News h₀ env.locals h ((D, o) :: (I, oI) :: rest) →
      wpAny (model prog w) A (execs body env) (TurnEnd1 h₀ env.locals m₀ x ((I, oI) :: rest) D (J (i + 1)) { s with heap := h, toks := tk } Q) E { s with heap := h, toks := tk })
    (done : ∀ (u : Str → Option Value) o h tk, J vs.length o → Fr h₀ env.locals h (fun y => if y = x then u y else m₀ y) → News h₀ env.locals h ((D, o) :: rest) → Q .next { s with heap := h, toks := tk }) :
    wpAny (model prog w) A (pyIter (.ref ax)) (fun it s₂ => LoopAtV prog w A h₀ env x body Q E it s₂) E s := by
  refine iter_led (fun i m₁ o => (∀ z, z ≠ x → m₁ z = m₀ z) ∧ J i o) hh F N hax hoc hod off ⟨fun _ _ => rfl, hj⟩ ?_ ?_
  · rintro i v m₁ o I oI h tk hv ⟨hm, hJ⟩ hID hrI F₁ N₁
    have e : (fun y => if y = x then some v else m₁ y) = fun y => if y = x then some v else m₀ y := by
      funext y
      by_cases hy : y = x
      · simp [hy]
      · simp only [if_neg hy]; exact hm y hy
    rw [e] at F₁
    refine wpAny_mono (turn i v o I oI h tk hv hJ hID hrI F₁ N₁) (fun f s₂ p => ?_) fun _ _ e => e
    cases f with
    | ret v => exact p
    | brk => exact p
    | next => obtain ⟨h', tk', m', o', e, F', N', z, j⟩ := p; exact ⟨h', tk', m', o', e, F', N', z, j⟩
    | cont => obtain ⟨h', tk', m', o', e, F', N', z, j⟩ := p; exact ⟨h', tk', m', o', e, F', N', z, j⟩
  · rintro m₁ o h tk ⟨hm, hJ⟩ F₁ N₁
    refine done m₁ o h tk hJ ?_ N₁
    have e : (fun z => if z = x then m₁ z else m₀ z) = m₁ := by
      funext z
      by_cases h1 : z = x
      · simp [h1]
      · simp only [if_neg h1]; exact (hm z h1).symm
    rw [e]; exact F₁
theorem iter_ledL {L ax D : Addr} {vs : List Value} {o₀ oa : Obj} {k : Nat} {rest : List (Addr × Obj)} {m₀ : Str → Option Value} (J : Nat → Obj → Prop) (hLe : env.locals = L)
    (hh : A.handled = none) (F : Fr h₀ L s.heap m₀) (N : News h₀ L s.heap ((D, o₀) :: rest)) (hax : (ax, oa) ∈ rest) (hoc : oa.cls = .type "list") (hod : oa.data = .seq vs.toArray k)
    (off : ∀ p ∈ rest, p.1 ≠ D) (hj : J 0 o₀)
    (turn : ∀ i v o I oI h tk, vs[i]? = some v → J i o → (∀ p ∈ (I, oI) :: rest, p.1 ≠ D) → (∀ p ∈ rest, p.1 ≠ I) → Fr h₀ L h (fun y => if y = x then some v else m₀ y) → News h₀ L h ((D, o) :: (I, oI) :: rest) →
      wpAny (model prog w) A (execs body env) (TurnEnd1 h₀ L m₀ x ((I, oI) :: rest) D (J (i + 1)) { s with heap := h, toks := tk } Q) E { s with heap := h, toks := tk })
    (done : ∀ (u : Str → Option Value) o h tk, J vs.length o → Fr h₀ L h (fun y => if y = x then u y else m₀ y) → News h₀ L h ((D, o) :: rest) → Q .next { s with heap := h, toks := tk }) :
    wpAny (model prog w) A (pyIter (.ref ax)) (fun it s₂ => LoopAtV prog w A h₀ env x body Q E it s₂) E s := by
  subst hLe
  exact iter_led1 J hh F N hax hoc hod off hj (fun i v o I oI h tk hv hJ hI hr => turn i v o I oI h tk hv hJ (fun p hp => by
    rcases List.mem_cons.mp hp with rfl | hp
    · exact hI
    · exact off p hp) hr) done
end
end Mine
end
section
open PySem.Calls PySem.Spec
namespace Mine
/-- normpath's turn, behind one leading slash -/
def nStep (acc : List Str) (c : Str) : List Str :=
  if c = Str.ofString "" ∨ c = Str.ofString "." then acc else if c = Str.ofString ".." then acc.dropLast else acc ++ [c]
def weigh (l : List Str) : Nat := (l.map (·.length)).sum + l.length
/-- what the proof asks of the parts -/
def nOk (cs : List Str) : Prop := ∀ i, weigh ((cs.take i).foldl nStep []) ≤ 1000 ∧ (cs[i]? = some (Str.ofString "..") → (cs.take i).foldl nStep [] = [Str.ofString "x"]) ∧ ∀ c, cs[i]? = some c → c.length ≤ 1000
def npJ (cs : List Str) (i : Nat) (o : Obj) : Prop := ∃ its n, o = listOf its n ∧ StrsAre its.toList ((cs.take i).foldl nStep [])
theorem sa_at : ∀ {vs : List Value} {ys : List Str} {i : Nat} {v : Value}, StrsAre vs ys → vs[i]? = some v → ∃ y t, ys[i]? = some y ∧ v = .str y t
  | _, _, 0, v, .cons y t r, h => by cases h; exact ⟨y, t, rfl, rfl⟩
  | _, _, i + 1, v, .cons y t r, h => by obtain ⟨y', t', h1, h2⟩ := sa_at (i := i) r (by simpa using h); exact ⟨y', t', by simpa using h1, h2⟩
theorem sa_len : ∀ {vs : List Value} {ys : List Str}, StrsAre vs ys → vs.length = ys.length
  | _, _, .nil => rfl
  | _, _, .cons y t r => by simp [sa_len r]
theorem sa_snoc {y : Str} {t : Tok} : ∀ {vs : List Value} {ys : List Str}, StrsAre vs ys → StrsAre (vs ++ [.str y t]) (ys ++ [y])
  | _, _, .nil => .cons y t .nil
  | _, _, .cons z u r => .cons z u (sa_snoc r)
theorem take_snoc {α : Type} {l : List α} {i : Nat} {v : α} (h : l[i]? = some v) : l.take (i + 1) = l.take i ++ [v] := by
  rw [List.take_add_one, h]; rfl
theorem nStep_app {acc : List Str} {c : Str} (h1 : c ≠ Str.ofString "") (h2 : c ≠ Str.ofString ".") (h3 : c ≠ Str.ofString "..") : nStep acc c = acc ++ [c] := by
  unfold nStep; rw [if_neg (by simp [h1, h2]), if_neg h3]
theorem allLt_mem {d : Nat} {l : List (Addr × Obj)} (h : AllLt d l) : ∀ p ∈ l, p.1 < d := by
  induction l with
  | nil => intro p hp; cases hp
  | cons q r ih =>
    intro p hp
    have h' : @LT.lt Nat _ q.1 d ∧ AllLt d r := h
    rcases List.mem_cons.mp hp with rfl | hp
    · exact h'.1
    · exact ih h'.2 p hp
theorem offs_of {D : Nat} {l : List (Addr × Obj)} (h : ∀ p ∈ l, p.1 < D) : ∀ p ∈ l, p.1 ≠ D := fun p hp => Nat.ne_of_lt (h p hp)
theorem offs_cons {D a : Nat} {o : Obj} {l : List (Addr × Obj)} (h : a < D) (r : ∀ p ∈ l, p.1 ≠ D) : ∀ p ∈ ((a, o) : Addr × Obj) :: l, p.1 ≠ D := fun p hp => by
  rcases List.mem_cons.mp hp with rfl | hp
  · exact Nat.ne_of_lt h
  · exact r p hp
theorem offs_cons' {D a : Addr} {o : Obj} {l : List (Addr × Obj)} (h : a ≠ D) (r : ∀ p ∈ l, p.1 ≠ D) : ∀ p ∈ ((a, o) : Addr × Obj) :: l, p.1 ≠ D := fun p hp => by
  rcases List.mem_cons.mp hp with rfl | hp
  · exact h
  · exact r p hp
theorem sa_one {y : Str} {vs : List Value} (h : StrsAre vs [y]) : ∃ t, vs = [.str y t] := by
  cases h with
  | cons y t r => cases r; exact ⟨t, rfl⟩
theorem npJ_skip {cs : List Str} {i : Nat} {c : Str} {its : Array Value} {n : Nat} (hc : cs[i]? = some c) (h : c = Str.ofString "" ∨ c = Str.ofString ".") (hA : StrsAre its.toList ((cs.take i).foldl nStep [])) : npJ cs (i + 1) (listOf its n) := by
  refine ⟨its, n, rfl, ?_⟩
  rw [take_snoc hc, List.foldl_append, List.foldl_cons, List.foldl_nil]
  unfold nStep
  rw [if_pos h]; exact hA
theorem npJ_app {cs : List Str} {i : Nat} {c : Str} {t : Tok} {its : Array Value} {n : Nat} (hc : cs[i]? = some c) (h1 : c ≠ Str.ofString "") (h2 : c ≠ Str.ofString ".") (h3 : c ≠ Str.ofString "..") (hA : StrsAre its.toList ((cs.take i).foldl nStep [])) : npJ cs (i + 1) (listOf (its.push (.str c t)) n) := by
  refine ⟨_, n, rfl, ?_⟩
  rw [take_snoc hc, List.foldl_append, List.foldl_cons, List.foldl_nil, nStep_app h1 h2 h3, Array.toList_push]
  exact sa_snoc hA
theorem npJ_dd {cs : List Str} {i : Nat} {n : Nat} (hc : cs[i]? = some (Str.ofString "..")) (h : (cs.take i).foldl nStep [] = [Str.ofString "x"]) : npJ cs (i + 1) (listOf #[] n) := by
  refine ⟨_, n, rfl, ?_⟩
  rw [take_snoc hc, List.foldl_append, List.foldl_cons, List.foldl_nil, h]
  have : nStep [Str.ofString "x"] (Str.ofString "..") = [] := by
    unfold nStep; rw [if_neg (by decide), if_pos rfl]; rfl
  rw [this]; exact .nil
theorem len_ne {c : Str} (h : (c.length : Int) ≠ 0) : c ≠ Str.ofString "" := fun e => h (by subst e; decide)
theorem len_eq {c : Str} (h : (c.length : Int) = 0) : c = Str.ofString "" := by
  have h' : c.length = 0 := by omega
  obtain ⟨⟨l⟩⟩ := c
  have : l = [] := List.length_eq_zero_iff.mp (by simpa [Str.length] using h')
  subst this; decide
end Mine
namespace Mine
section
variable {prog : Program} {w : World} {A : Around} {E : Value → Shared → Prop} {s : Shared} {h₀ : Heap} {L : Addr} {news : List (Addr × Obj)}
theorem join_led {x : Str} {t : Tok} {D : Addr} {its : Array Value} {n : Nat} {ys : List Str} {Q : Value → Shared → Prop} (N : News h₀ L s.heap news) (hm : (D, ({ cls := .type "list", data := .seq its n } : Obj)) ∈ news)
    (hi : StrsAre its.toList ys) (hw : weigh ys ≤ 1000) (hx : x.length ≤ 4) (h : ∀ t' k, (Txt.join x ys).length ≤ 4004 → Q (.str (Txt.join x ys) t') { s with toks := k }) :
    wpAny (model prog w) A (call (.builtin "str.join") [.str x t, .ref D]) Q E s := by
  unfold weigh at hw
  refine join_listW ⟨_, (N _ hm).1, rfl, n, rfl⟩ hi (by omega) (by omega) fun t' k => h t' k ?_
  have := len_join_le (sep := x) (ys := ys) (n := 1000) (by unfold Weighs; omega) hx
  omega
end
end Mine
end
section
open PySem.Calls PySem.Spec
namespace Mine
section
variable {prog : Program} {w : World} {A : Around} {E : Value → Shared → Prop} {s : Shared}
/-- one step of a tuple's iterator, as enumerate asks it -/
theorem nextOf_tuple {it l : Addr} {i : Nat} {items : Array Value} {x : Value} {Q : Value → Shared → Prop} (hit : s.heap.IsTupleIter it l i)
    (hl : s.heap.IsTuple l items) (hx : items[i]? = some x)
    (hQ : ∀ h', h'.IsTupleIter it l (i + 1) → Heap.SameBut it s.heap h' → Q x { s with heap := h' }) :
    wpAny (model prog w) A (Builtin.SmallTypes.nextOf (.ref it)) Q E s := by
  obtain ⟨o, ho, hc, hd⟩ := id hit
  obtain ⟨ol, hol, _, nl, hdl⟩ := hl
  unfold Builtin.SmallTypes.nextOf
  refine wpAny_bind (wpAny_callSpecial?_slot (name := Str.ofString "__next__") hit.typeIs F.slot_tuple_iterator_next
    (wpAny_call_entry F.slot_tuple_iterator_next hit.typeIs F.entry_tuple_iterator_next ?_ (F.args_tuple_iterator_next_1 _)))
  show wpAny _ _ (field (.ref it) 0 >>= _) _ _ s
  refine wpAny_bind (wpAny_field ho hd (x := .ref l) rfl ?_)
  show wpAny _ _ (if (Value.ref l == Value.none) = true then _ else _) _ _ s
  rw [if_neg (show ¬ ((Value.ref l == Value.none) = true) from Bool.false_ne_true)]
  show wpAny _ _ (field (.ref it) 1 >>= _) _ _ s
  refine wpAny_bind (wpAny_field ho hd (x := .int i 0) rfl ?_)
  show wpAny _ _ (seqItems? (.ref l) >>= _) _ _ s
  refine wpAny_bind (wpAny_seqItems hol hdl ?_)
  simp only [Int.toNat_natCast, hx]
  refine wpAny_bind (wpAny_setField ho hd (by simp) (wpAny_pure ⟨x, rfl, wpAny_pure (hQ _ ?_ (Heap.SameBut.update ..))⟩))
  exact ⟨_, Heap.get?_update_self _ ho (Obj.isFreed_of_fields (Obj.data_mapFields hd _)), (Obj.cls_mapFields ..).trans hc, by
    rw [Obj.data_mapFields hd]; simp [rawInt]⟩
theorem nextOf_tuple_end {it l : Addr} {i : Nat} {items : Array Value} {Q : Value → Shared → Prop} (hh : A.handled = none)
    (hit : s.heap.IsTupleIter it l i) (hl : s.heap.IsTuple l items) (hx : items[i]? = none)
    (hE : ∀ h' e, Heap.ExtBut it s.heap h' → (∃ o, h'.get? e = some o ∧ o.cls = .type "StopIteration") → E (.ref e) { s with heap := h' }) :
    wpAny (model prog w) A (Builtin.SmallTypes.nextOf (.ref it)) Q E s := by
  obtain ⟨o, ho, hc, hd⟩ := id hit
  obtain ⟨ol, hol, _, nl, hdl⟩ := hl
  unfold Builtin.SmallTypes.nextOf
  refine wpAny_bind (wpAny_callSpecial?_slot (name := Str.ofString "__next__") hit.typeIs F.slot_tuple_iterator_next
    (wpAny_call_entry F.slot_tuple_iterator_next hit.typeIs F.entry_tuple_iterator_next ?_ (F.args_tuple_iterator_next_1 _)))
  show wpAny _ _ (field (.ref it) 0 >>= _) _ _ s
  refine wpAny_bind (wpAny_field ho hd (x := .ref l) rfl ?_)
  show wpAny _ _ (if (Value.ref l == Value.none) = true then _ else _) _ _ s
  rw [if_neg (show ¬ ((Value.ref l == Value.none) = true) from Bool.false_ne_true)]
  show wpAny _ _ (field (.ref it) 1 >>= _) _ _ s
  refine wpAny_bind (wpAny_field ho hd (x := .int i 0) rfl ?_)
  show wpAny _ _ (seqItems? (.ref l) >>= _) _ _ s
  refine wpAny_bind (wpAny_seqItems hol hdl ?_)
  simp only [Int.toNat_natCast, hx]
  refine wpAny_bind (wpAny_rule (wpAny_bind (wpAny_setField ho hd (by simp) ?_)))
  show wpAny _ _ (newExc (.type "StopIteration") [] >>= _) _ _ _
  refine wpAny_bind ?_
  simp only [newExc, newTuple]
  refine wpAny_bind (wpAny_newObj_type ?_ (by size_fits))
  refine wpAny_bind (m := firstArgMember _ _) (wpAny_of_eq (a := Value.none) (by first | rfl | (simp only [firstArgMember]; rfl)) ?_)
  refine wpAny_newObj_type ?_ (by size_fits)
  simp only [raiseNew]
  refine wpAny_bind (wpAny_handled ?_)
  first | rw [show A.in1.handled = none from hh] | rw [hh]
  refine wpAny_bind (wpAny_pure (wpAny_throw ?_))
  exact hE _ _ (((Heap.SameBut.update ..).extBut.push _).push _) ⟨_, Heap.get?_push_size _ rfl, rfl⟩
end
end Mine
namespace Mine
section
variable {prog : Program} {w : World} {A : Around} {E : Value → Shared → Prop} {s : Shared}
theorem IsTupleIter.push {h : Heap} {a t : Addr} {i : Nat} (x : h.IsTupleIter a t i) (o : Obj) : (h.push o).IsTupleIter a t i :=
  let ⟨o', ho, r⟩ := x; ⟨o', Heap.get?_push_of_some o ho, r⟩
/-- what a step of enumerate over a tuple leaves -/
structure EnumMoved (h h' : Heap) (e it l : Addr) (i : Nat) (tk : Tok) (x : Value) : Prop where
  out : IsEnumOut h' e it ((i : Int) + 1) x h.objs.size
  iter : h'.IsTupleIter it l (i + 1)
  pair : h'.get? h.objs.size = some { cls := .type "tuple", data := .seq #[.int i tk, x] }
  size : h'.objs.size = h.objs.size + 1
  keep : ∀ b o, b ≠ e → b ≠ it → h.get? b = some o → h'.get? b = some o
theorem enumT_next {e it l : Addr} {i : Nat} {items : Array Value} {x old : Value} {Q : Option Value → Shared → Prop}
    (he : IsEnum s.heap e it i old) (hit : s.heap.IsTupleIter it l i) (hl : s.heap.IsTuple l items) (hx : items[i]? = some x) (hne : e ≠ it)
    (hQ : ∀ h', EnumMoved s.heap h' e it l i s.toks x → Q (some (.ref s.heap.objs.size)) { s with heap := h', toks := s.toks + 1 }) :
    wpAny (model prog w) A (pyNext (.ref e)) Q E s := by
  have hT : s.TypeIs (.ref e) "enumerate" := ⟨_, he, rfl⟩
  unfold pyNext
  refine wpAny_bind (wpAny_attempt (wpAny_callSpecial?_slot (name := Str.ofString "__next__") hT F.slot_enumerate_next
    (wpAny_call_entry F.slot_enumerate_next hT F.entry_enumerate_next ?_ (F.args_enumerate_next_1 _))))
  obtain ⟨hp, g, d, tk, os⟩ := s
  refine wpAny_mono (Q := fun fin s' => fin = .done (.ret (.ref hp.objs.size)) ∧ ∃ h', s' = ⟨h', g, d, tk + 1, os⟩ ∧ EnumMoved hp h' e it l i tk x) ?_ (fun fin s' hf => ?_) fun _ _ h => h
  · show wpAny _ _ (field (.ref e) 2 >>= _) _ _ _
    refine wpAny_bind (wpAny_field he rfl (x := .ref it) rfl ?_)
    refine wpAny_bind (nextOf_tuple hit hl hx fun h₁ hit₁ hs₁ => ?_)
    replace hs₁ : Heap.SameBut it hp h₁ := hs₁
    have he₁ : IsEnum h₁ e it i old := (hs₁.2 e hne).trans he
    show wpAny _ _ (field (.ref e) 3 >>= _) _ _ ⟨h₁, g, d, tk, os⟩
    refine wpAny_bind (wpAny_field he₁ rfl (x := rawInt i) rfl ?_)
    show wpAny _ _ (field (.ref e) 4 >>= _) _ _ ⟨h₁, g, d, tk, os⟩
    refine wpAny_bind (wpAny_field he₁ rfl (x := .none) rfl ?_)
    show wpAny _ _ (mkInt i >>= _) _ _ ⟨h₁, g, d, tk, os⟩
    refine wpAny_bind (wpAny_mkInt ?_)
    show wpAny _ _ (setField (.ref e) 3 (rawInt ((i : Int) + 1)) >>= _) _ _ ⟨h₁, g, d, tk + 1, os⟩
    refine wpAny_bind (wpAny_setField_rec he₁ (by simp) fun h₂ he₂ hs₂ => ?_)
    replace hs₂ : Heap.SameBut e h₁ h₂ := hs₂
    replace he₂ : IsEnum h₂ e it ((i : Int) + 1) old := he₂
    show wpAny _ _ (setField (.ref e) 4 .none >>= _) _ _ ⟨h₂, g, d, tk + 1, os⟩
    refine wpAny_bind (wpAny_setField_rec he₂ (by simp) fun h₃ he₃ hs₃ => ?_)
    replace hs₃ : Heap.SameBut e h₂ h₃ := hs₃
    replace he₃ : IsEnum h₃ e it ((i : Int) + 1) old := he₃
    show wpAny _ _ (newTuple [.int i tk, x] >>= _) _ _ ⟨h₃, g, d, tk + 1, os⟩
    refine wpAny_bind (wpAny_newTuple ?_)
    have he₄ : IsEnum (h₃.push { cls := .type "tuple", data := .seq #[.int i tk, x] }) e it ((i : Int) + 1) old := Heap.get?_push_of_some _ he₃
    have hit₄ : (h₃.push { cls := .type "tuple", data := .seq #[.int i tk, x] }).IsTupleIter it l (i + 1) :=
      IsTupleIter.push ((hit₁.extBut hs₂.extBut (Ne.symm hne)).extBut hs₃.extBut (Ne.symm hne)) _
    generalize hh₄ : h₃.push { cls := .type "tuple", data := .seq #[.int i tk, x] } = h₄ at he₄ hit₄
    have hsz : h₃.objs.size = hp.objs.size := by rw [hs₃.1, hs₂.1, hs₁.1]
    have hel : e < hp.objs.size := Heap.lt_size he
    have ht₄ : h₄.get? hp.objs.size = some { cls := .type "tuple", data := .seq #[.int i tk, x] } := by rw [← hh₄, ← hsz]; exact Heap.get?_push_size _ rfl
    have hz₄ : h₄.objs.size = hp.objs.size + 1 := by rw [← hh₄, Heap.size_push, hsz]
    have hk₄ : ∀ b o, b ≠ e → b ≠ it → hp.get? b = some o → h₄.get? b = some o := fun b o hbe hbi hb => by
      rw [← hh₄]; exact Heap.get?_push_of_some _ (hs₃.extBut b o hbe (hs₂.extBut b o hbe (hs₁.extBut b o hbi hb)))
    show wpAny _ _ (Builtin.SmallTypes.ownedTupleIsFree (.ref e) >>= _) _ _ ⟨h₄, g, d, tk + 1, os⟩
    rw [hsz]
    refine wpAny_bind ?_
    unfold Builtin.SmallTypes.ownedTupleIsFree
    refine wpAny_bind (wpAny_field he₄ rfl (x := .none) rfl (wpAny_pure ?_))
    simp only [if_true]
    refine wpAny_bind (wpAny_rule ?_)
    refine wpAny_bind (wpAny_field he₄ rfl (x := old) rfl ?_)
    refine wpAny_bind (wpAny_setField_rec he₄ (by simp) fun h₅ he₅ hs₅ => ?_)
    replace hs₅ : Heap.SameBut e h₄ h₅ := hs₅
    replace he₅ : IsEnum h₅ e it ((i : Int) + 1) x := he₅
    show wpAny _ _ (Builtin.SmallTypes.ownedTupleHandOut (.ref e) (.ref hp.objs.size) >>= _) _ _ ⟨h₅, g, d, tk + 1, os⟩
    refine wpAny_bind ?_
    unfold Builtin.SmallTypes.ownedTupleHandOut
    refine wpAny_bind (wpAny_setField_rec he₅ (by simp) fun h₆ he₆ hs₆ => ?_)
    replace hs₆ : Heap.SameBut e h₅ h₆ := hs₆
    replace he₆ : IsEnumOut h₆ e it ((i : Int) + 1) x hp.objs.size := he₆
    refine wpAny_setField_rec he₆ (by simp) fun h₇ he₇ hs₇ => ?_
    replace hs₇ : Heap.SameBut e h₆ h₇ := hs₇
    replace he₇ : IsEnumOut h₇ e it ((i : Int) + 1) x hp.objs.size := he₇
    refine wpAny_bind (wpAny_letGo (wpAny_pure ⟨rfl, h₇, rfl, he₇, ?_, ?_, ?_, ?_⟩))
    · exact ((hit₄.extBut hs₅.extBut (Ne.symm hne)).extBut hs₆.extBut (Ne.symm hne)).extBut hs₇.extBut (Ne.symm hne)
    · exact hs₇.extBut _ _ (Nat.ne_of_gt hel) (hs₆.extBut _ _ (Nat.ne_of_gt hel) (hs₅.extBut _ _ (Nat.ne_of_gt hel) ht₄))
    · rw [hs₇.1, hs₆.1, hs₅.1, hz₄]
    · exact fun b o hbe hbi hb => hs₇.extBut b o hbe (hs₆.extBut b o hbe (hs₅.extBut b o hbe (hk₄ b o hbe hbi hb)))
  · obtain ⟨rfl, h', rfl, M⟩ := hf
    exact ⟨_, rfl, wpAny_pure (hQ h' M)⟩
theorem enumT_end {e it l : Addr} {i : Nat} {items : Array Value} {old : Value} {Q : Option Value → Shared → Prop} (hh : A.handled = none)
    (he : IsEnum s.heap e it i old) (hit : s.heap.IsTupleIter it l i) (hl : s.heap.IsTuple l items) (hx : items[i]? = none)
    (hQ : ∀ h', Heap.ExtBut it s.heap h' → Q none { s with heap := h' }) : wpAny (model prog w) A (pyNext (.ref e)) Q E s := by
  have hT : s.TypeIs (.ref e) "enumerate" := ⟨_, he, rfl⟩
  unfold pyNext
  refine wpAny_bind (wpAny_attempt (wpAny_callSpecial?_slot (name := Str.ofString "__next__") hT F.slot_enumerate_next
    (wpAny_call_entry F.slot_enumerate_next hT F.entry_enumerate_next ?_ (F.args_enumerate_next_1 _))))
  show wpAny _ _ (field (.ref e) 2 >>= _) _ _ _
  refine wpAny_bind (wpAny_field he rfl (x := .ref it) rfl ?_)
  refine wpAny_bind (nextOf_tuple_end hh hit hl hx fun h' x he' hx' => ?_)
  obtain ⟨o, ho, hc⟩ := hx'
  refine wpAny_bind (wpAny_isInstance (T := "StopIteration") (b := true) ⟨o, ho, hc⟩ isSubtype_stop ?_)
  exact wpAny_pure (hQ _ he')

theorem meets_enumT (l : Addr) (items : Array Value) : Meets (Builtin.«enumerate.__new__» ⟨[.type "enumerate", .ref l], []⟩)
    (fun _ R s => s.heap.IsTuple l items ∧ R (.ok (.ret (.ref (s.heap.push { cls := .type "tuple_iterator", data := .fields #[.ref l, .int 0 0] }).objs.size)))
        { s with heap := (s.heap.push { cls := .type "tuple_iterator", data := .fields #[.ref l, .int 0 0] }).push { cls := .type "enumerate", data := .fields #[.none, .bool false, .ref s.heap.objs.size, rawInt 0, .none, .none] } }) :=
  .of_wp fun prog w A R s h => by
    obtain ⟨hp, g, d, tk, os⟩ := s; obtain ⟨hL, h⟩ := h
    have hsub := sub_enumerate
    replace hL : Heap.IsTuple (Shared.heap ⟨hp, g, d, tk, os⟩) l items := hL
    wp_walk using wpAny_pyIter_tuple hL
    refine wpAny_stack_any fun st => wpAny_pure ?_
    split
    · rename_i c _ _ _ _ _
      cases (c == Value.type "enumerate")
      · wp_walk using wpAny_pyIter_tuple hL
        exact ⟨_, rfl, h⟩
      · wp_walk using wpAny_pyIter_tuple hL
        exact ⟨_, rfl, h⟩
    · wp_walk using wpAny_pyIter_tuple hL
      exact ⟨_, rfl, h⟩
theorem call_enumT {l : Addr} {items : Array Value} {Q : Value → Shared → Prop} (hl : s.heap.IsTuple l items)
    (h : ∀ h', IsEnum h' (s.heap.objs.size + 1) s.heap.objs.size 0 .none → h'.IsTupleIter s.heap.objs.size l 0 → h'.objs.size = s.heap.objs.size + 2 →
      (∀ b o, s.heap.get? b = some o → h'.get? b = some o) → Q (.ref (s.heap.objs.size + 1)) { s with heap := h' }) :
    wpAny (model prog w) A (call (.type "enumerate") [.ref l]) Q E s := by
  refine callType_new F.called_enumerate (by decide) (F.typeCall_enumerate_1 _) (F.newCall_enumerate_1 _) (fun obj => F.args_object_init_2 obj _) F.entry_enumerate_new
    (meets_enumT l items) ⟨hl, ?_⟩
  have hz : (s.heap.push { cls := .type "tuple_iterator", data := .fields #[.ref l, .int 0 0] }).objs.size = s.heap.objs.size + 1 := Heap.size_push ..
  show _ ∧ _
  rw [hz]
  have he : IsEnum ((s.heap.push { cls := .type "tuple_iterator", data := .fields #[.ref l, .int 0 0] }).push
      { cls := .type "enumerate", data := .fields #[.none, .bool false, .ref s.heap.objs.size, rawInt 0, .none, .none] }) (s.heap.objs.size + 1) s.heap.objs.size 0 .none := by
    have := Heap.get?_push_size (s.heap.push { cls := .type "tuple_iterator", data := .fields #[.ref l, .int 0 0] })
      (o := { cls := .type "enumerate", data := .fields #[.none, .bool false, .ref s.heap.objs.size, rawInt 0, .none, .none] }) rfl
    rw [hz] at this; exact this
  refine ⟨⟨_, he, rfl⟩, h _ he ⟨_, Heap.get?_push_of_some _ (Heap.get?_push_size _ rfl), rfl, rfl⟩ (by rw [Heap.size_push, hz]) fun b o x => Heap.get?_push_of_some _ (Heap.get?_push_of_some _ x)⟩
end
end Mine
end
section
open PySem.Calls PySem.Spec
namespace Mine
section
variable {prog : Program} {w : World} {A : Around} {E : Value → Shared → Prop} {s : Shared} {env : Env} {h₀ : Heap} {Q : Flow → Shared → Prop}
/-- two names of the frame that a loop stores -/
def two (xa xb : Str) (u v : Option Value) (m : Str → Option Value) : Str → Option Value := fun y => if y = xb then v else if y = xa then u else m y
theorem Fr.ext {h₀ h h' : Heap} {L I : Addr} {m : Str → Option Value} (F : Fr h₀ L h m) (hx : Heap.ExtBut I h h') (hL : L ≠ I) (hI : h₀.get? I = none) : Fr h₀ L h' m :=
  ⟨F.ns.extBut hx hL, fun b o e => hx b o (fun q => by rw [q, hI] at e; cases e) (F.keep b o e), F.above⟩
theorem News.ext {h₀ h h' : Heap} {L I : Addr} {led : List (Addr × Obj)} (N : News h₀ L h led) (hx : Heap.ExtBut I h h') (off : ∀ p ∈ led, p.1 ≠ I) : News h₀ L h' led :=
  fun p hp => ⟨hx _ _ (off p hp) (N p hp).1, (N p hp).2⟩
theorem go_tupleIter {I l a : Addr} {i : Nat} {elts : List Expr} {k : Nat} {pt : Pos} {Q : Unit → Shared → Prop} (hI : s.heap.IsTupleIter I l i) (h : Q () s) :
    wpAny (model prog w) A (letOwnedTupleGo (.Tuple elts k pt) (.ref I) (.ref a)) Q E s := by
  obtain ⟨o, ho, hc, hd⟩ := hI
  unfold letOwnedTupleGo
  refine wpAny_bind (wpAny_load ho ?_)
  rw [hc, hd]
  exact wpAny_pure h
theorem store_two {xa xb : Str} {pa pb pt : Pos} {k : Nat} {L a : Addr} {va vb : Value} {m : Str → Option Value} {led : List (Addr × Obj)} {Q : Unit → Shared → Prop} (hLe : env.locals = L)
    (hxa : env.kindOf xa = some .local) (hxb : env.kindOf xb = some .local) (hp : (env.scope.kind == .class || (env.scope.kind == .module && env.locals != env.globals)) = false) (hh : A.handled = none)
    (F : Fr h₀ L s.heap m) (N : News h₀ L s.heap led) (ha : s.heap.IsTuple a #[va, vb])
    (h : ∀ h' tk', Fr h₀ L h' (fun y => if y = xb then some vb else if y = xa then some va else m y) → News h₀ L h' led → (∀ b o, b ≠ L → s.heap.get? b = some o → h'.get? b = some o) → Q () { s with heap := h', toks := tk' }) :
    wpAny (model prog w) A (assign (.Tuple [.Name xa pa, .Name xb pb] k pt) env (.ref a)) Q E s := by
  subst hLe
  refine wpAny_assign_Tuple hh ha rfl rfl fun h₁ hx₁ => ?_
  have hne : env.locals ≠ s.heap.objs.size := Nat.ne_of_lt F.ns.lt
  have F₁ : Fr h₀ env.locals h₁ m := Fr.ext F hx₁ hne (next_is_new F)
  have N₁ : News h₀ env.locals h₁ led := News.ext N hx₁ fun p hp => Nat.ne_of_lt (Heap.lt_size (N p hp).1)
  refine assignInOrder_cons (wpAny_assign_Name (wpAny_storeName_local hxa F₁.ns (fun h₂ hn₂ hs₂ => ?_) hp))
  refine assignInOrder_cons (wpAny_assign_Name (wpAny_storeName_local hxb hn₂ (fun h₃ hn₃ hs₃ => ?_) hp))
  refine assignInOrder_nil (h h₃ _ ((F₁.set hn₂ hs₂).set hn₃ hs₃) ((N₁.set hs₂).set hs₃) fun b o hb e => ?_)
  exact hs₃.extBut b o hb (hs₂.extBut b o hb (hx₁ b o (Nat.ne_of_lt (Heap.lt_size e)) e))
end
end Mine
namespace Mine
section
variable {prog : Program} {w : World} {A : Around} {E : Value → Shared → Prop} {s : Shared} {env : Env} {h₀ : Heap} {Q : Flow → Shared → Prop}
/-- the end of a turn of a loop that stores two names and changes nothing else but what J says -/
def PairEnd (h₀ : Heap) (L : Addr) (xa xb : Str) (m : Str → Option Value) (led : List (Addr × Obj)) (J : Prop) (s : Shared) (Q : Flow → Shared → Prop) (f : Flow) (s₂ : Shared) : Prop :=
  match f with
  | .ret v => Q (.ret v) s₂
  | .brk => Q .next s₂
  | _ => J ∧ ∃ h' tk' u v, s₂ = { s with heap := h', toks := tk' } ∧ Fr h₀ L h' (fun y => if y = xb then u else if y = xa then v else m y) ∧ News h₀ L h' led
theorem forPairs {L l : Addr} {xa xb : Str} {pa pb pt pos : Pos} {k : Nat} {iter : Expr} {body orelse : List Stmt} {refs : List Value} {row : List (Int × Str)} {m : Str → Option Value} {led : List (Addr × Obj)} (hLe : env.locals = L)
    (hxa : env.kindOf xa = some .local) (hxb : env.kindOf xb = some .local) (hp : (env.scope.kind == .class || (env.scope.kind == .module && env.locals != env.globals)) = false) (hh : A.handled = none)
    (hl : h₀.IsTuple l refs.toArray) (hr : ∀ (j : Nat) (v : Value), refs[j]? = some v → ∃ (a : Addr) (b : Int) (c : Str) (tb tc : Tok), row[j]? = some (b, c) ∧ v = Value.ref a ∧ h₀.IsTuple a #[.int b tb, .str c tc]) (hlen : refs.length = row.length)
    (F : Fr h₀ L s.heap m) (N : News h₀ L s.heap led)
    (hiter : wpAny (model prog w) A (eval iter env) (fun xv s₁ => xv = .ref l ∧ s₁ = s) E s)
    (hs : ∀ x, foldedSetIterable iter env x = pure x)
    (J : Nat → Prop) (j0 : J 0)
    (turn : ∀ j b c tb tc I oI h tk (E' : Value → Shared → Prop), row[j]? = some (b, c) → J j → (∀ p ∈ led, p.1 ≠ I) → Fr h₀ L h (fun y => if y = xb then some (.str c tc) else if y = xa then some (.int b tb) else m y) → News h₀ L h ((I, oI) :: led) →
      wpAny (model prog w) A (execs body env) (PairEnd h₀ L xa xb m ((I, oI) :: led) (J (j + 1)) { s with heap := h, toks := tk } Q) E' { s with heap := h, toks := tk })
    (done : ∀ u v h tk (E' : Value → Shared → Prop), J row.length → Fr h₀ L h (fun y => if y = xb then u else if y = xa then v else m y) → News h₀ L h led →
      wpAny (model prog w) A (execs orelse env) Q E' { s with heap := h, toks := tk }) :
    wpAny (model prog w) A (exec (.For (.Tuple [.Name xa pa, .Name xb pb] k pt) iter body orelse pos) env) Q E s := by
  subst hLe
  refine wpAny_For (wpAny_mono hiter (fun xv s₁ h₁ => ?_) fun _ _ e => e) hs
  obtain ⟨rfl, rfl⟩ := h₁
  have keep : ∀ {h : Heap} {m' : Str → Option Value} {a : Addr} {its : Array Value}, Fr h₀ env.locals h m' → h₀.IsTuple a its → h.IsTuple a its := by
    intro h m' a its F' hx
    obtain ⟨o, e, r⟩ := hx
    exact ⟨o, F'.keep _ _ e, r⟩
  refine wpAny_pyIter_tuple (keep F hl) ?_
  generalize hI : s₁.heap.objs.size = I
  have hI₀ : h₀.get? I = none := hI ▸ next_is_new F
  have hIL : env.locals ≠ I := hI ▸ Nat.ne_of_lt F.ns.lt
  have offI : ∀ p ∈ led, p.1 ≠ I := fun p hp => hI ▸ Nat.ne_of_lt (Heap.lt_size (N p hp).1)
  have mm : m = fun y => if y = xb then m xb else if y = xa then m xa else m y := by
    funext y
    by_cases h1 : y = xb
    · subst h1; simp
    · by_cases h2 : y = xa
      · subst h2; simp [h1]
      · simp [h1, h2]
  refine codeAny_forLoop_any (fun n s' => ∃ h tk j u v, s' = { s₁ with heap := h, toks := tk } ∧ j ≤ refs.length ∧ n = refs.length + 1 - j ∧ h.IsTupleIter I l j ∧
      Fr h₀ env.locals h (fun y => if y = xb then u else if y = xa then v else m y) ∧ News h₀ env.locals h led ∧ J j) ?_ (refs.length + 1) ?_
  · rintro n s' ⟨h, tk, j, u, v, rfl, hj, rfl, hit, F', N', hJ⟩
    cases hv : refs.toArray[j]? with
    | none =>
      have hje : j = refs.length := by
        have : refs[j]? = none := by simpa using hv
        have := List.getElem?_eq_none_iff.mp this
        omega
      refine wpAny_pyNext_tuple_end hh hit (keep F' hl) hv fun h' hx => ?_
      refine done u v h' tk _ (by rw [← hlen, ← hje]; exact hJ) (Fr.ext F' hx hIL hI₀) (News.ext N' hx offI)
    | some x =>
      have hv' : refs[j]? = some x := by simpa using hv
      obtain ⟨a, b, c, tb, tc, hrow, rfl, ha⟩ := hr j x hv'
      have hjl : j < refs.length := (List.getElem?_eq_some_iff.mp hv').1
      refine wpAny_pyNext_tuple_item hit (keep F' hl) hv fun h' hit' hs' => ?_
      have F₁ : Fr h₀ env.locals h' _ := Fr.ext F' hs'.extBut hIL hI₀
      have N₁ : News h₀ env.locals h' led := News.ext N' hs'.extBut offI
      refine go_tupleIter hit' ?_
      refine store_two rfl hxa hxb hp hh F₁ N₁ (keep F₁ ha) fun h₂ tk₂ F₂ N₂ k₂ => ?_
      have e2 : (fun y => if y = xb then some (Value.str c tc) else if y = xa then some (Value.int b tb) else (fun y => if y = xb then u else if y = xa then v else m y) y) = fun y => if y = xb then some (Value.str c tc) else if y = xa then some (Value.int b tb) else m y := by
        funext y
        by_cases h1 : y = xb
        · simp [h1]
        · by_cases h2 : y = xa
          · simp [h2]
          · simp [h1, h2]
      rw [e2] at F₂
      obtain ⟨oI, heI, r⟩ := hit'
      have heI₂ := k₂ I oI (Ne.symm hIL) heI
      have N₃ : News h₀ env.locals h₂ ((I, oI) :: led) := fun p hp => by
        rcases List.mem_cons.mp hp with rfl | hp
        · exact ⟨heI₂, Ne.symm hIL, hI₀⟩
        · exact N₂ p hp
      refine wpAny_mono (turn j b c tb tc I oI h₂ tk₂ _ hrow hJ offI F₂ N₃) (fun f s₃ p => ?_) fun _ _ e => e
      have fin : (J (j + 1) ∧ ∃ h' tk' u v, s₃ = { s₁ with heap := h', toks := tk' } ∧ Fr h₀ env.locals h' (fun y => if y = xb then u else if y = xa then v else m y) ∧ News h₀ env.locals h' ((I, oI) :: led)) →
          ∃ n', n' < refs.length + 1 - j ∧ ∃ h tk j u v, s₃ = { s₁ with heap := h, toks := tk } ∧ j ≤ refs.length ∧ n' = refs.length + 1 - j ∧ h.IsTupleIter I l j ∧
            Fr h₀ env.locals h (fun y => if y = xb then u else if y = xa then v else m y) ∧ News h₀ env.locals h led ∧ J j := by
        rintro ⟨hJ', h₄, tk₄, u', v', e, F₄, N₄⟩
        exact ⟨refs.length + 1 - (j + 1), by omega, h₄, tk₄, j + 1, u', v', e, hjl, rfl, ⟨oI, (N₄ _ List.mem_cons_self).1, r⟩, F₄, fun p hp => N₄ p (List.mem_cons_of_mem _ hp), hJ'⟩
      cases f with
      | ret v => exact p
      | brk => exact p
      | next => exact fin p
      | cont => exact fin p
  · refine ⟨_, s₁.toks, 0, m xb, m xa, rfl, Nat.zero_le _, rfl, ⟨_, hI ▸ Heap.get?_push_size _ rfl, rfl, rfl⟩, ?_, fun p hp => ⟨Heap.get?_push_of_some _ (N p hp).1, (N p hp).2⟩, j0⟩
    rw [← mm]; exact F.push _
end
end Mine
namespace Mine
section
variable {prog : Program} {w : World} {A : Around} {E : Value → Shared → Prop} {s : Shared} {env : Env} {h₀ : Heap} {Q : Flow → Shared → Prop}
def enumObj (it : Addr) (i : Int) (x : Value) : Obj := { cls := .type "enumerate", dict := none, data := .fields #[.none, .bool false, .ref it, rawInt i, .none, x], slots := #[] }
def Agree (S : List Str) (m m' : Str → Option Value) : Prop := ∀ z, z ∉ S → m' z = m z
/-- four names over a map -/
theorem agree4 {xa xb xc xd : Str} {va vb : Option Value} {m m₁ : Str → Option Value} (h : Agree [xa, xb, xc, xd] m m₁) :
    (fun y => if y = xb then vb else if y = xa then va else m₁ y) = fun y => if y = xb then vb else if y = xa then va else if y = xd then m₁ xd else if y = xc then m₁ xc else m y := by
  funext y
  by_cases h1 : y = xb
  · simp [h1]
  · by_cases h2 : y = xa
    · simp [h2]
    · by_cases h3 : y = xd
      · subst h3; simp [h1, h2]
      · by_cases h4 : y = xc
        · subst h4; simp [h1, h2, h3]
        · simp only [h1, h2, h3, h4, if_false]; exact h y (by simp [h1, h2, h3, h4])
def EnumEnd (h₀ : Heap) (L : Addr) (S : List Str) (m : Str → Option Value) (rest : List (Addr × Obj)) (D : Addr) (J : Obj → Prop) (s : Shared) (Q : Flow → Shared → Prop) (f : Flow) (s₂ : Shared) : Prop :=
  match f with
  | .ret v => Q (.ret v) s₂
  | .brk => Q .next s₂
  | _ => ∃ h' tk' m' o', s₂ = { s with heap := h', toks := tk' } ∧ Fr h₀ L h' m' ∧ News h₀ L h' ((D, o') :: rest) ∧ Agree S m m' ∧ J o'
theorem loopEnumT {L l e it D : Addr} {xa xb xc xd : Str} {pa pb pt : Pos} {k : Nat} {body : List Stmt} {refs : List Value} {m : Str → Option Value} {o₀ : Obj} {rest : List (Addr × Obj)} (hLe : env.locals = L)
    (hxa : env.kindOf xa = some .local) (hxb : env.kindOf xb = some .local) (hp : (env.scope.kind == .class || (env.scope.kind == .module && env.locals != env.globals)) = false) (hh : A.handled = none)
    (hl : h₀.IsTuple l refs.toArray) (F : Fr h₀ L s.heap m) (N : News h₀ L s.heap ((D, o₀) :: rest))
    (he : IsEnum s.heap e it 0 .none) (hit : s.heap.IsTupleIter it l 0) (hei : e ≠ it) (he₀ : h₀.get? e = none) (hi₀ : h₀.get? it = none) (heL : e ≠ L) (hiL : it ≠ L)
    (off : ∀ p ∈ (D, o₀) :: rest, p.1 ≠ e ∧ p.1 ≠ it) (offD : ∀ p ∈ rest, p.1 ≠ D)
    (J : Nat → Obj → Prop) (j0 : J 0 o₀)
    (turn : ∀ j v o oe oi u₁ u₂ t₁ h tk (E' : Value → Shared → Prop), refs[j]? = some v → J j o → (∀ p ∈ (e, oe) :: (it, oi) :: rest, p.1 ≠ D) →
      Fr h₀ L h (fun y => if y = xb then some v else if y = xa then some (.int j t₁) else if y = xd then u₁ else if y = xc then u₂ else m y) → News h₀ L h ((D, o) :: (e, oe) :: (it, oi) :: rest) →
      wpAny (model prog w) A (execs body env) (EnumEnd h₀ L [xa, xb, xc, xd] m ((e, oe) :: (it, oi) :: rest) D (J (j + 1)) { s with heap := h, toks := tk } Q) E' { s with heap := h, toks := tk })
    (done : ∀ m' o h tk, J refs.length o → Fr h₀ L h m' → Agree [xa, xb, xc, xd] m m' → News h₀ L h ((D, o) :: rest) → Q .next { s with heap := h, toks := tk }) :
    codeAny (model prog w) A (.forLoop (.Tuple [.Name xa pa, .Name xb pb] k pt) (.ref e) body [] env) (fun r s' => match r with | .ok f => Q f s' | .error e => cameBackBy (model prog w) A env E e s') s := by
  subst hLe
  have keep : ∀ {h : Heap} {m' : Str → Option Value} {a : Addr} {its : Array Value}, Fr h₀ env.locals h m' → h₀.IsTuple a its → h.IsTuple a its := by
    intro h m' a its F' hx
    obtain ⟨o, e, r⟩ := hx
    exact ⟨o, F'.keep _ _ e, r⟩
  have hDe : D ≠ e := (off _ List.mem_cons_self).1
  have hDi : D ≠ it := (off _ List.mem_cons_self).2
  refine codeAny_forLoop_any (fun n s' => ∃ h tk j m₁ o old, s' = { s with heap := h, toks := tk } ∧ j ≤ refs.length ∧ n = refs.length + 1 - j ∧ IsEnum h e it ((j : Nat) : Int) old ∧ h.IsTupleIter it l j ∧
      Fr h₀ env.locals h m₁ ∧ Agree [xa, xb, xc, xd] m m₁ ∧ News h₀ env.locals h ((D, o) :: rest) ∧ J j o) ?_ (refs.length + 1)
      ⟨s.heap, s.toks, 0, m, o₀, .none, rfl, Nat.zero_le _, rfl, he, hit, F, fun _ _ => rfl, N, j0⟩
  rintro n s' ⟨h, tk, j, m₁, o, old, rfl, hj, rfl, he', hit', F', ag, N', hJ⟩
  have off' : ∀ p ∈ (D, o) :: rest, p.1 ≠ e ∧ p.1 ≠ it := fun p hp => by
    rcases List.mem_cons.mp hp with rfl | hp
    · exact ⟨hDe, hDi⟩
    · exact off p (List.mem_cons_of_mem _ hp)
  cases hv : refs.toArray[j]? with
  | none =>
    have hje : j = refs.length := by
      have : refs[j]? = none := by simpa using hv
      have := List.getElem?_eq_none_iff.mp this
      omega
    refine enumT_end hh he' hit' (keep F' hl) hv fun h' hx => wpAny_execs_nil ?_
    exact done m₁ o h' tk (hje ▸ hJ) (Fr.ext F' hx (Ne.symm hiL) hi₀) ag (News.ext N' hx fun p hp => (off' p hp).2)
  | some x =>
    have hv' : refs[j]? = some x := by simpa using hv
    have hjl : j < refs.length := (List.getElem?_eq_some_iff.mp hv').1
    refine enumT_next he' hit' (keep F' hl) hv hei fun h₁ M => ?_
    have F₁ : Fr h₀ env.locals h₁ m₁ := by
      refine ⟨F'.ns.at' fun o e' => M.keep _ o (Ne.symm heL) (Ne.symm hiL) e', fun b o e' => M.keep b o (fun q => ?_) (fun q => ?_) (F'.keep b o e'), F'.above⟩
      · rw [q, he₀] at e'; cases e'
      · rw [q, hi₀] at e'; cases e'
    have N₁ : News h₀ env.locals h₁ ((D, o) :: rest) := fun p hp => ⟨M.keep _ _ (off' p hp).1 (off' p hp).2 (N' p hp).1, (N' p hp).2⟩
    refine wpAny_letOwnedTupleGo_enum M.out fun h₂ he₂ hs₂ => ?_
    replace hs₂ : Heap.SameBut e h₁ h₂ := hs₂
    have F₂ : Fr h₀ env.locals h₂ m₁ := Fr.ext F₁ hs₂.extBut (Ne.symm heL) he₀
    have N₂ : News h₀ env.locals h₂ ((D, o) :: rest) := News.ext N₁ hs₂.extBut fun p hp => (off' p hp).1
    have hep : h.objs.size ≠ e := Nat.ne_of_gt (Heap.lt_size he')
    have pair₂ : h₂.IsTuple h.objs.size #[.int j tk, x] := ⟨_, hs₂.extBut _ _ hep M.pair, rfl, _, rfl⟩
    have iter₂ : h₂.IsTupleIter it l (j + 1) := M.iter.extBut hs₂.extBut (Ne.symm hei)
    refine store_two rfl hxa hxb hp hh F₂ N₂ pair₂ fun h₃ tk₃ F₃ N₃ k₃ => ?_
    rw [agree4 ag] at F₃
    obtain ⟨oi, hoi, ri⟩ := iter₂
    have hoi₃ := k₃ it oi hiL hoi
    have he₃ : h₃.get? e = some (enumObj it ((j : Int) + 1) x) := k₃ e _ heL he₂
    have N₄ : News h₀ env.locals h₃ ((D, o) :: (e, enumObj it ((j : Int) + 1) x) :: (it, oi) :: rest) := fun p hp => by
      rcases List.mem_cons.mp hp with rfl | hp
      · exact N₃ _ List.mem_cons_self
      · rcases List.mem_cons.mp hp with rfl | hp
        · exact ⟨he₃, heL, he₀⟩
        · rcases List.mem_cons.mp hp with rfl | hp
          · exact ⟨hoi₃, hiL, hi₀⟩
          · exact N₃ _ (List.mem_cons_of_mem _ hp)
    refine wpAny_mono (turn j x o _ oi _ _ tk h₃ tk₃ _ hv' hJ (fun p hp => ?_) F₃ N₄) (fun f s₃ p => ?_) fun _ _ e => e
    · rcases List.mem_cons.mp hp with rfl | hp
      · exact Ne.symm hDe
      · rcases List.mem_cons.mp hp with rfl | hp
        · exact Ne.symm hDi
        · exact offD p hp
    · have fin : (∃ h' tk' m' o', s₃ = { s with heap := h', toks := tk' } ∧ Fr h₀ env.locals h' m' ∧ News h₀ env.locals h' ((D, o') :: (e, enumObj it ((j : Int) + 1) x) :: (it, oi) :: rest) ∧ Agree [xa, xb, xc, xd] m m' ∧ J (j + 1) o') →
          ∃ n', n' < refs.length + 1 - j ∧ ∃ h tk j m₁ o old, s₃ = { s with heap := h, toks := tk } ∧ j ≤ refs.length ∧ n' = refs.length + 1 - j ∧ IsEnum h e it ((j : Nat) : Int) old ∧ h.IsTupleIter it l j ∧
            Fr h₀ env.locals h m₁ ∧ Agree [xa, xb, xc, xd] m m₁ ∧ News h₀ env.locals h ((D, o) :: rest) ∧ J j o := by
        rintro ⟨h₅, tk₅, m', o', e', F₅, N₅, ag', hJ'⟩
        exact ⟨refs.length + 1 - (j + 1), by omega, h₅, tk₅, j + 1, m', o', x, e', hjl, rfl, (N₅ _ (List.mem_cons_of_mem _ List.mem_cons_self)).1, ⟨oi, (N₅ _ (List.mem_cons_of_mem _ (List.mem_cons_of_mem _ List.mem_cons_self))).1, ri⟩, F₅, ag',
          fun p hp => by
            rcases List.mem_cons.mp hp with rfl | hp
            · exact N₅ _ List.mem_cons_self
            · exact N₅ _ (List.mem_cons_of_mem _ (List.mem_cons_of_mem _ (List.mem_cons_of_mem _ hp))), hJ'⟩
      cases f with
      | ret v => exact p
      | brk => exact p
      | next => exact fin p
      | cont => exact fin p
end
end Mine
end
section
open PySem.Calls PySem.Spec
namespace Mine
section
variable {prog : Program} {w : World} {A : Around} {E : Value → Shared → Prop} {s : Shared} {h₀ : Heap} {L : Addr} {m : Str → Option Value} {news : List (Addr × Obj)}
theorem tail_tmp {value slice : Expr} {o i : Value} {T id : String} {ops : List Value} {Q : Value → Shared → Prop} (hT : s.TypeIs o T)
    (hl : typeLookup (.type T) "__getitem__" = pure (some (.builtin id))) (h : wpAny (model prog w) A (getItem o i) Q E s)
    (hs : subscripted slice false o i = operate ops (getItem o i)) :
    wpAny (model prog w) A (subscriptTail value slice o i) Q E s := by
  unfold subscriptTail
  refine wpAny_bind ?_
  rw [getitemInPython_of_ne hT.not_modules]
  refine wpAny_bind (wpAny_specialOf hT hl ?_)
  have fin : wpAny (model prog w) A (subscripted slice false o i) (fun r s₃ => wpAny (model prog w) A (letTemporaryGo value o r >>= fun _ => pure r) Q E s₃) E s := by
    rw [hs]
    exact wpAny_operating (wpAny_mono h (fun r s₃ h₃ => wpAny_bind (wpAny_letTemporaryGo (wpAny_pure h₃))) fun _ _ x => x)
  first
    | exact wpAny_pure (wpAny_bind fin)
    | exact wpAny_bind (wpAny_pure (wpAny_bind fin))
    | exact wpAny_bind fin
/-- a slice of a list, whatever stands in it and however it was come by -/
theorem slice_tmp {value slice : Expr} {l : Addr} {items : Array Value} {vl vu : Value} {lo hi : Option Int} {Q : Value → Shared → Prop}
    (F : Fr h₀ L s.heap m) (N : News h₀ L s.heap news) (hl : s.heap.IsList l items) (pl : IsPart vl lo) (pu : IsPart vu hi) (hsz : items.size ≤ sizeLine)
    (h : ∀ D h', (∀ p ∈ news, p.1 < D) → Fr h₀ L h' m → News h₀ L h' ((D, { cls := .type "list", data := .seq (slicePick items lo hi none) }) :: news) → Q (.ref D) { s with heap := h' })
    (hs : subscripted slice false (.ref l) (.ref s.heap.objs.size) = operate [.ref s.heap.objs.size, .ref l] (getItem (.ref l) (.ref s.heap.objs.size))) :
    wpAny (model prog w) A (subscriptTail value slice (.ref l) (.ref s.heap.objs.size)) Q E { s with heap := s.heap.push { cls := .type "slice", data := .fields #[vl, vu, .none] } } := by
  refine tail_tmp (Heap.IsList.typeIs (s := { s with heap := s.heap.push { cls := .type "slice", data := .fields #[vl, vu, .none] } }) (hl.push _)) list_getitem_lookup
    (wpAny_getItem_list_slice (hl.push _) (Heap.IsSliceOf.new ..) pl pu .none (by simp) ?_ hsz) hs
  have N1 := News.push (F.push { cls := .type "slice", data := .fields #[vl, vu, .none] }) (N.grown fun _ _ e => Heap.get?_push_of_some _ e) { cls := .type "list", data := .seq (slicePick items lo hi none) }
  rw [Heap.size_push] at N1
  have := h (s.heap.objs.size + 1) _ (fun p hp => Nat.lt_succ_of_lt (Heap.lt_size (N p hp).1)) ((F.push { cls := .type "slice", data := .fields #[vl, vu, .none] }).push { cls := .type "list", data := .seq (slicePick items lo hi none) }) N1
  show Q (.ref (s.heap.push _).objs.size) _
  rw [Heap.size_push]
  exact this
theorem slice_tmp_from {value slice : Expr} {l : Addr} {vs : List Value} {ns : List Int} {vl vu : Value} {x : Int} {Q : Value → Shared → Prop}
    (F : Fr h₀ L s.heap m) (N : News h₀ L s.heap news) (hl : s.heap.IsList l vs.toArray) (hi : IntsAre vs ns) (pl : IsPart vl (some x)) (pu : IsPart vu none) (hx : 0 ≤ x) (hsz : vs.toArray.size ≤ sizeLine)
    (h : ∀ D ws h', (∀ p ∈ news, p.1 < D) → IntsAre ws (ns.drop x.toNat) → Fr h₀ L h' m → News h₀ L h' ((D, { cls := .type "list", data := .seq ws.toArray }) :: news) → Q (.ref D) { s with heap := h' })
    (hs : subscripted slice false (.ref l) (.ref s.heap.objs.size) = operate [.ref s.heap.objs.size, .ref l] (getItem (.ref l) (.ref s.heap.objs.size))) :
    wpAny (model prog w) A (subscriptTail value slice (.ref l) (.ref s.heap.objs.size)) Q E { s with heap := s.heap.push { cls := .type "slice", data := .fields #[vl, vu, .none] } } :=
  slice_tmp F N hl pl pu hsz (fun D h' l1 F' N' => h D (slicePick vs.toArray (some x) none none).toList h' l1 (kmk_from hi hx) F' (by rw [Array.toArray_toList]; exact N')) hs
end
end Mine
namespace Mine
theorem draws_fit {ns : List Int} {x : Nat} {f : Int → Int} {l : List Int} (hl : l.length ≤ 8) : (List.map f (List.filter (fun _ => true) (List.take 8 ns))).length + (List.drop x l).length ≤ sizeLine := by
  have h1 : (List.filter (fun _ => true) (List.take 8 ns)).length ≤ (List.take 8 ns).length := List.length_filter_le ..
  have h2 : (List.take 8 ns).length ≤ 8 := by rw [List.length_take]; omega
  rw [List.length_map, List.length_drop, PySem.sizeLine_eq]
  omega
end Mine
namespace Mine
section
variable {prog : Program} {w : World} {A : Around} {E : Value → Shared → Prop} {s : Shared} {h₀ : Heap} {L : Addr} {m : Str → Option Value} {news : List (Addr × Obj)}
theorem slice_tmp_upto {value slice : Expr} {l : Addr} {vs : List Value} {ns : List Int} {vl vu : Value} {x : Int} {Q : Value → Shared → Prop}
    (F : Fr h₀ L s.heap m) (N : News h₀ L s.heap news) (hl : s.heap.IsList l vs.toArray) (hi : IntsAre vs ns) (pl : IsPart vl none) (pu : IsPart vu (some x)) (hx : 0 ≤ x) (hsz : vs.toArray.size ≤ sizeLine)
    (h : ∀ D ws h', (∀ p ∈ news, p.1 < D) → IntsAre ws (ns.take x.toNat) → Fr h₀ L h' m → News h₀ L h' ((D, { cls := .type "list", data := .seq ws.toArray }) :: news) → Q (.ref D) { s with heap := h' })
    (hs : subscripted slice false (.ref l) (.ref s.heap.objs.size) = operate [.ref s.heap.objs.size, .ref l] (getItem (.ref l) (.ref s.heap.objs.size))) :
    wpAny (model prog w) A (subscriptTail value slice (.ref l) (.ref s.heap.objs.size)) Q E { s with heap := s.heap.push { cls := .type "slice", data := .fields #[vl, vu, .none] } } :=
  slice_tmp F N hl pl pu hsz (fun D h' l1 F' N' => h D (slicePick vs.toArray none (some x) none).toList h' l1 (kmk_upto hi hx) F' (by rw [Array.toArray_toList]; exact N')) hs
end
theorem draws_fit2 {ns : List Int} {x : Nat} {f : Int → Int} {l : List Int} {vs : List Value} (hi : IntsAre vs (List.map f (List.filter (fun _ => true) (List.take 8 ns)) ++ List.drop x l)) (hl : l.length ≤ 8) : vs.toArray.size ≤ sizeLine :=
  kmk_sz hi (by rw [List.length_append]; exact draws_fit hl)
/-- the law's draws, as its text reckons them -/
def toldOf (ns : List Int) : List Int := List.map (fun a => a.fmod 60) (List.filter (fun _ => true) (List.take 8 ns)) ++ List.drop ((List.take 8 ns).length : Int).toNat [12, 16, 1, 23, 3, 27, 50, 38]
def drawsOf (ns : List Int) : List Int := if ((List.take 8 ns).length : Int) < 4 then (toldOf ns).take (4 : Int).toNat else toldOf ns
theorem toldOf_len (ns : List Int) : (toldOf ns).length = 8 := by
  unfold toldOf
  have e : List.filter (fun _ => true) (List.take 8 ns) = List.take 8 ns := List.filter_eq_self.mpr fun _ _ => rfl
  rw [e, List.length_append, List.length_map, List.length_drop, List.length_take]
  simp only [List.length_cons, List.length_nil]
  omega
theorem drawsOf_len (ns : List Int) : (drawsOf ns).length = 4 ∨ (drawsOf ns).length = 8 := by
  unfold drawsOf
  split
  · left; rw [List.length_take, toldOf_len]; rfl
  · right; exact toldOf_len ns
theorem toldOf_bound (ns : List Int) : ∀ d ∈ toldOf ns, 0 ≤ d ∧ d < 60 := by
  intro d hd
  unfold toldOf at hd
  rcases List.mem_append.mp hd with h | h
  · obtain ⟨a, _, rfl⟩ := List.mem_map.mp h
    exact ⟨Int.fmod_nonneg_of_pos a (by decide), Int.fmod_lt_of_pos a (by decide)⟩
  · have h' := List.mem_of_mem_drop h
    have : ∀ d ∈ ([12, 16, 1, 23, 3, 27, 50, 38] : List Int), 0 ≤ d ∧ d < 60 := by decide
    exact this d h'
theorem drawsOf_bound (ns : List Int) : ∀ d ∈ drawsOf ns, 0 ≤ d ∧ d < 60 := by
  intro d hd
  unfold drawsOf at hd
  split at hd
  · exact toldOf_bound ns d (List.mem_of_mem_take hd)
  · exact toldOf_bound ns d hd
end Mine
namespace Mine
section
variable {prog : Program} {w : World} {A : Around} {E : Value → Shared → Prop} {s : Shared} {h₀ : Heap} {L : Addr} {m : Str → Option Value} {news : List (Addr × Obj)}
theorem add_led {l b : Addr} {vs ws : List Value} {ns ms : List Int} {Q : Value → Shared → Prop} (F : Fr h₀ L s.heap m) (N : News h₀ L s.heap news) (hl : s.heap.IsList l vs.toArray) (hb : s.heap.IsList b ws.toArray)
    (hi : IntsAre vs ns) (hj : IntsAre ws ms) (hsz : ns.length + ms.length ≤ sizeLine)
    (h : ∀ D h', (∀ p ∈ news, p.1 < D) → Fr h₀ L h' m → News h₀ L h' ((D, { cls := .type "list", data := .seq (vs ++ ws).toArray }) :: news) → IntsAre (vs ++ ws) (ns ++ ms) → Q (.ref D) { s with heap := h' }) :
    wpAny (model prog w) A (binaryOp .Add (.ref l) (.ref b)) Q E s :=
  add_arrays_ints (hsz := hsz) F N hl hb hi hj fun h' F' N' hI => h _ h' (fun p hp => Heap.lt_size (N p hp).1) F' N' hI
end
end Mine
end
section
open PySem.Calls PySem.Spec
namespace Mine
/-- a tuple of pairs of an int and a text -/
inductive PairsAt (h : Heap) : List Value → List (Int × Str) → Prop
  | nil : PairsAt h [] []
  | cons {a : Addr} {b : Int} {c : Str} {tb tc : Tok} {vs : List Value} {row : List (Int × Str)} : h.IsTuple a #[.int b tb, .str c tc] → PairsAt h vs row → PairsAt h (.ref a :: vs) ((b, c) :: row)
theorem PairsAt.len {h : Heap} : ∀ {vs : List Value} {row : List (Int × Str)}, PairsAt h vs row → vs.length = row.length
  | _, _, .nil => rfl
  | _, _, .cons _ r => by simp [PairsAt.len r]
theorem PairsAt.get {h : Heap} : ∀ {vs : List Value} {row : List (Int × Str)}, PairsAt h vs row → ∀ (j : Nat) (v : Value), vs[j]? = some v → ∃ (a : Addr) (b : Int) (c : Str) (tb tc : Tok), row[j]? = some (b, c) ∧ v = Value.ref a ∧ h.IsTuple a #[.int b tb, .str c tc]
  | _, _, .nil, j, v, hv => by simp at hv
  | _, _, .cons x r, 0, v, hv => by cases hv; exact ⟨_, _, _, _, _, rfl, rfl, x⟩
  | _, _, .cons x r, j + 1, v, hv => by
    obtain ⟨a, b, c, tb, tc, e, r'⟩ := PairsAt.get r j v (by simpa using hv)
    exact ⟨a, b, c, tb, tc, by simpa using e, r'⟩
def RowIs (h : Heap) (l : Addr) (row : List (Int × Str)) : Prop := ∃ refs, h.IsTuple l (List.toArray refs) ∧ PairsAt h refs row
inductive RowsAt (h : Heap) : List Value → List (List (Int × Str)) → Prop
  | nil : RowsAt h [] []
  | cons {a : Addr} {row : List (Int × Str)} {vs : List Value} {rows : List (List (Int × Str))} : RowIs h a row → RowsAt h vs rows → RowsAt h (.ref a :: vs) (row :: rows)
theorem RowsAt.len {h : Heap} : ∀ {vs : List Value} {rows : List (List (Int × Str))}, RowsAt h vs rows → vs.length = rows.length
  | _, _, .nil => rfl
  | _, _, .cons _ r => by simp [RowsAt.len r]
theorem RowsAt.get {h : Heap} : ∀ {vs : List Value} {rows : List (List (Int × Str))}, RowsAt h vs rows → ∀ (j : Nat) (v : Value), vs[j]? = some v → ∃ (a : Addr) (row : List (Int × Str)), rows[j]? = some row ∧ v = Value.ref a ∧ RowIs h a row
  | _, _, .nil, j, v, hv => by simp at hv
  | _, _, .cons x r, 0, v, hv => by cases hv; exact ⟨_, _, rfl, rfl, x⟩
  | _, _, .cons x r, j + 1, v, hv => by
    obtain ⟨a, row, e, r'⟩ := RowsAt.get r j v (by simpa using hv)
    exact ⟨a, row, by simpa using e, r'⟩
def fmTab : List (List (Int × Str)) := [
  [(40960, Str.ofString "l"), (49152, Str.ofString "s"), (32768, Str.ofString "-"), (24576, Str.ofString "b"), (16384, Str.ofString "d"), (8192, Str.ofString "c"), (4096, Str.ofString "p")],
  [(256, Str.ofString "r")], [(128, Str.ofString "w")],
  [(2112, Str.ofString "s"), (2048, Str.ofString "S"), (64, Str.ofString "x")],
  [(32, Str.ofString "r")], [(16, Str.ofString "w")],
  [(1032, Str.ofString "s"), (1024, Str.ofString "S"), (8, Str.ofString "x")],
  [(4, Str.ofString "r")], [(2, Str.ofString "w")],
  [(513, Str.ofString "t"), (512, Str.ofString "T"), (1, Str.ofString "x")]]
theorem tupK1 {w : World} {h₀ : Heap} {a : Addr} {l : List Value} {d : Option Addr} {n : Nat} {sl : Array (Option Value)} (X : (Mine.frag w.params).In h₀) (e : (Mine.frag w.params).lookup a = some ⟨.type "tuple", d, .seq l.toArray n, sl⟩) : h₀.IsTuple a l.toArray := ⟨_, X _ _ e, rfl, n, rfl⟩
theorem pairK1 {w : World} {h₀ : Heap} {a : Addr} {b : Int} {c : Str} {tb tc : Tok} {d : Option Addr} {n : Nat} {sl : Array (Option Value)} (X : (Mine.frag w.params).In h₀) (e : (Mine.frag w.params).lookup a = some ⟨.type "tuple", d, .seq #[.int b tb, .str c tc] n, sl⟩) : h₀.IsTuple a #[.int b tb, .str c tc] := ⟨_, X _ _ e, rfl, n, rfl⟩
set_option maxHeartbeats 4000000 in
theorem fm_rows {w : World} {h₀ : Heap} : (Mine.frag w.params).In h₀ → ∃ refs, h₀.IsTuple 437 (List.toArray refs) ∧ RowsAt h₀ refs fmTab := by
  intro X
  refine ⟨[.ref 412, .ref 414, .ref 416, .ref 420, .ref 422, .ref 424, .ref 428, .ref 430, .ref 432, .ref 436], tupK1 X rfl, ?_⟩
  refine .cons ⟨[.ref 405, .ref 406, .ref 407, .ref 408, .ref 409, .ref 410, .ref 411], tupK1 X rfl, ?_⟩ (.cons ⟨[.ref 413], tupK1 X rfl, ?_⟩ (.cons ⟨[.ref 415], tupK1 X rfl, ?_⟩ (.cons ⟨[.ref 417, .ref 418, .ref 419], tupK1 X rfl, ?_⟩
    (.cons ⟨[.ref 421], tupK1 X rfl, ?_⟩ (.cons ⟨[.ref 423], tupK1 X rfl, ?_⟩ (.cons ⟨[.ref 425, .ref 426, .ref 427], tupK1 X rfl, ?_⟩ (.cons ⟨[.ref 429], tupK1 X rfl, ?_⟩ (.cons ⟨[.ref 431], tupK1 X rfl, ?_⟩
    (.cons ⟨[.ref 433, .ref 434, .ref 435], tupK1 X rfl, ?_⟩ .nil)))))))))
  · exact .cons (pairK1 X rfl) (.cons (pairK1 X rfl) (.cons (pairK1 X rfl) (.cons (pairK1 X rfl) (.cons (pairK1 X rfl) (.cons (pairK1 X rfl) (.cons (pairK1 X rfl) .nil))))))
  · exact .cons (pairK1 X rfl) .nil
  · exact .cons (pairK1 X rfl) .nil
  · exact .cons (pairK1 X rfl) (.cons (pairK1 X rfl) (.cons (pairK1 X rfl) .nil))
  · exact .cons (pairK1 X rfl) .nil
  · exact .cons (pairK1 X rfl) .nil
  · exact .cons (pairK1 X rfl) (.cons (pairK1 X rfl) (.cons (pairK1 X rfl) .nil))
  · exact .cons (pairK1 X rfl) .nil
  · exact .cons (pairK1 X rfl) .nil
  · exact .cons (pairK1 X rfl) (.cons (pairK1 X rfl) (.cons (pairK1 X rfl) .nil))
end Mine
end
section
open PySem.Calls PySem.Spec
namespace Mine
theorem tuple_keep {h₀ h : Heap} {L : Addr} {m : Str → Option Value} {a : Addr} {its : Array Value} (F : Fr h₀ L h m) (x : h₀.IsTuple a its) : h.IsTuple a its := let ⟨o, e, r⟩ := x; ⟨o, F.keep _ _ e, r⟩
theorem Fr.stays {h₀ h h' : Heap} {L : Addr} {m : Str → Option Value} (F : Fr h₀ L h m) (k : ∀ b o, h.get? b = some o → h'.get? b = some o) : Fr h₀ L h' m :=
  ⟨F.ns.keeps k, fun b o e => k b o (F.keep b o e), F.above⟩
theorem News.stays {h₀ h h' : Heap} {L : Addr} {led : List (Addr × Obj)} (N : News h₀ L h led) (k : ∀ b o, h.get? b = some o → h'.get? b = some o) : News h₀ L h' led := fun p hp => ⟨k _ _ (N p hp).1, (N p hp).2⟩
/-- does a row's bit stand in the number -/
def fmTest (k : Int) (i : Nat) (b : Int) : Bool := if i = 0 then Builtin.bitAnd k 61440 == b else Builtin.bitAnd k b == b
/-- the sign that one row of the table gives -/
def fmPick (k : Int) (i : Nat) (row : List (Int × Str)) : Str := match row.find? (fun p => fmTest k i p.1) with
  | some p => p.2
  | none => if i = 0 then Str.ofString "?" else Str.ofString "-"
def fmChars (k : Int) : List Str := (fmTab.zipIdx).map fun p => fmPick k p.2 p.1
def fmJ (k : Int) (j : Nat) (o : Obj) : Prop := ∃ its n, o = listOf its n ∧ StrsAre its.toList ((fmChars k).take j)
theorem fmChars_get {k : Int} {j : Nat} {row : List (Int × Str)} (h : fmTab[j]? = some row) : (fmChars k)[j]? = some (fmPick k j row) := by
  unfold fmChars
  rw [List.getElem?_map, List.getElem?_zipIdx, h]
  simp
theorem fmJ_snoc {k : Int} {j : Nat} {row : List (Int × Str)} {its : Array Value} {n : Nat} {c : Str} {t : Tok} (h : fmTab[j]? = some row) (e : fmPick k j row = c) (hA : StrsAre its.toList ((fmChars k).take j)) : fmJ k (j + 1) (listOf (its.push (.str c t)) n) := by
  refine ⟨_, n, rfl, ?_⟩
  rw [take_snoc (fmChars_get h), e, Array.toList_push]
  exact sa_snoc hA
def Before (k : Int) (i : Nat) (row : List (Int × Str)) (j : Nat) : Prop := ∀ j' p, j' < j → row[j']? = some p → fmTest k i p.1 = false
theorem before_find {k : Int} {i j : Nat} {row : List (Int × Str)} {b : Int} {c : Str} (h : Before k i row j) (hr : row[j]? = some (b, c)) (ht : fmTest k i b = true) : fmPick k i row = c := by
  have : row.find? (fun p => fmTest k i p.1) = some (b, c) := by
    rw [List.find?_eq_some_iff_getElem]
    obtain ⟨hj, e⟩ := List.getElem?_eq_some_iff.mp hr
    exact ⟨ht, j, hj, e, fun j' hj' => by simp [h j' _ hj' (List.getElem?_eq_getElem (by omega))]⟩
  unfold fmPick
  rw [this]
theorem before_none {k : Int} {i : Nat} {row : List (Int × Str)} (h : Before k i row row.length) : fmPick k i row = if i = 0 then Str.ofString "?" else Str.ofString "-" := by
  have : row.find? (fun p => fmTest k i p.1) = none := by
    rw [List.find?_eq_none]
    intro p hp
    obtain ⟨j, hj, e⟩ := List.getElem_of_mem hp
    simp [h j p hj (by rw [List.getElem?_eq_getElem hj, e])]
  unfold fmPick
  rw [this]
theorem before_next {k : Int} {i j : Nat} {row : List (Int × Str)} {b : Int} {c : Str} (h : Before k i row j) (hr : row[j]? = some (b, c)) (ht : fmTest k i b = false) : Before k i row (j + 1) := by
  intro j' p hj' hp
  by_cases e : j' = j
  · subst e; rw [hr] at hp; cases hp; exact ht
  · exact h j' p (by omega) hp
theorem fmTest_0 {k b : Int} : fmTest k 0 b = (Builtin.bitAnd k 61440 == b) := rfl
theorem fmTest_s {k b : Int} {i : Nat} (h : i ≠ 0) : fmTest k i b = (Builtin.bitAnd k b == b) := by unfold fmTest; rw [if_neg h]
theorem agree_of4 {xa xb xc xd : Str} {u v : Option Value} {va vb u₁ u₂ : Option Value} {m : Str → Option Value} :
    Agree [xa, xb, xc, xd] m (fun y => if y = xd then u else if y = xc then v else if y = xb then vb else if y = xa then va else if y = xd then u₁ else if y = xc then u₂ else m y) := by
  intro z hz
  simp at hz
  simp [hz]
end Mine
namespace Mine
theorem Fr.fresh {h₀ h : Heap} {L : Addr} {m : Str → Option Value} (F : Fr h₀ L h m) {a : Addr} (ha : h.objs.size ≤ a) : h₀.get? a = none :=
  Heap.get?_none_of_le (Nat.le_trans (Nat.le_of_lt (Nat.lt_of_le_of_lt F.above F.ns.lt)) ha)
theorem Fr.neL {h₀ h : Heap} {L : Addr} {m : Str → Option Value} (F : Fr h₀ L h m) {a : Addr} (ha : h.objs.size ≤ a) : a ≠ L := Nat.ne_of_gt (Nat.lt_of_lt_of_le F.ns.lt ha)
theorem News.off {h₀ h : Heap} {L : Addr} {led : List (Addr × Obj)} (N : News h₀ L h led) {a : Addr} (ha : h.objs.size ≤ a) : ∀ p ∈ led, p.1 ≠ a := fun p hp => Nat.ne_of_lt (Nat.lt_of_lt_of_le (Heap.lt_size (N p hp).1) ha)
end Mine
namespace Mine
theorem ft_t0 {k b : Int} {j : Nat} (h : (j : Int) = 0) (e : Builtin.bitAnd k 61440 = b) : fmTest k j b = true := by
  have : j = 0 := by omega
  subst this; unfold fmTest; simp [e]
theorem ft_f0 {k b : Int} {j : Nat} (h : (j : Int) = 0) (e : Builtin.bitAnd k 61440 ≠ b) : fmTest k j b = false := by
  have : j = 0 := by omega
  subst this; unfold fmTest; simp [e]
theorem ft_ts {k b : Int} {j : Nat} (h : (j : Int) ≠ 0) (e : Builtin.bitAnd k b = b) : fmTest k j b = true := by
  have : j ≠ 0 := by omega
  unfold fmTest; simp [this, e]
theorem ft_fs {k b : Int} {j : Nat} (h : (j : Int) ≠ 0) (e : Builtin.bitAnd k b ≠ b) : fmTest k j b = false := by
  have : j ≠ 0 := by omega
  unfold fmTest; simp [this, e]
theorem bn_0 {k : Int} {j : Nat} {row : List (Int × Str)} (h : (j : Int) = 0) (b : Before k j row row.length) : fmPick k j row = Str.ofString "?" := by
  have : j = 0 := by omega
  rw [before_none b, if_pos this]
theorem bn_s {k : Int} {j : Nat} {row : List (Int × Str)} (h : (j : Int) ≠ 0) (b : Before k j row row.length) : fmPick k j row = Str.ofString "-" := by
  have : j ≠ 0 := by omega
  rw [before_none b, if_neg this]
end Mine
namespace Mine
theorem agree4_eq {xa xb xc xd : Str} {m m₁ : Str → Option Value} (h : Agree [xa, xb, xc, xd] m m₁) :
    m₁ = fun y => if y = xb then m₁ xb else if y = xa then m₁ xa else if y = xd then m₁ xd else if y = xc then m₁ xc else m y := by
  funext y
  by_cases h1 : y = xb
  · simp [h1]
  · by_cases h2 : y = xa
    · subst h2; simp [h1]
    · by_cases h3 : y = xd
      · subst h3; simp [h1, h2]
      · by_cases h4 : y = xc
        · subst h4; simp [h1, h2, h3]
        · simp only [h1, h2, h3, h4, if_false]; exact h y (by simp [h1, h2, h3, h4])
theorem fr_agree4 {h₀ h : Heap} {L : Addr} {xa xb xc xd : Str} {m m₁ : Str → Option Value} (F : Fr h₀ L h m₁) (ag : Agree [xa, xb, xc, xd] m m₁) :
    ∃ va vb vc vd, Fr h₀ L h (fun y => if y = xb then vb else if y = xa then va else if y = xd then vd else if y = xc then vc else m y) := ⟨_, _, _, _, agree4_eq ag ▸ F⟩
theorem fm_weigh {k : Int} : weigh (fmChars k) ≤ 1000 := by
  have hp : ∀ i (row : List (Int × Str)), (∀ p ∈ row, p.2.length = 1) → (fmPick k i row).length = 1 := by
    intro i row hr
    unfold fmPick
    split
    · rename_i p e; exact hr _ (List.mem_of_find?_eq_some e)
    · split <;> decide
  have h1 : ∀ s ∈ fmChars k, s.length = 1 := by
    intro s hs
    unfold fmChars at hs
    obtain ⟨⟨row, i⟩, hm, rfl⟩ := List.mem_map.mp hs
    refine hp i row ?_
    have hrow : row ∈ fmTab := by
      obtain ⟨j, hj⟩ := List.mem_iff_getElem?.mp hm
      rw [List.getElem?_zipIdx] at hj
      cases e : fmTab[j]? with
      | none => rw [e] at hj; cases hj
      | some r => rw [e] at hj; cases hj; exact List.mem_of_getElem? e
    have all : ∀ r ∈ fmTab, ∀ p ∈ r, p.2.length = 1 := by decide +kernel
    exact all row hrow
  have h2 : (fmChars k).length = 10 := by unfold fmChars; rw [List.length_map, List.length_zipIdx]; rfl
  unfold weigh
  have h3 : ((fmChars k).map (·.length)).sum = (fmChars k).length := by
    have : (fmChars k).map (·.length) = (fmChars k).map fun _ => 1 := List.map_congr_left fun s hs => h1 s hs
    rw [this, List.map_const', List.sum_replicate_nat, Nat.mul_one]
  omega
end Mine
end
section
open PySem.Calls PySem.Spec
namespace Mine
section
variable {prog : Program} {w : World} {A : Around} {E : Value → Shared → Prop} {s : Shared} {h₀ : Heap} {L : Addr} {m : Str → Option Value} {news : List (Addr × Obj)}
theorem split_led {x y : Str} {t u : Tok} {Q : Value → Shared → Prop} (hF : Fr h₀ L s.heap m) (hN : News h₀ L s.heap news) (hx : x.length ≤ 5000) (hy : (y.length == 0) = false)
    (h : ∀ ns vs D h' k, ns = Txt.split x y → StrsAre vs ns → (∀ p ∈ news, p.1 < D) → Fr h₀ L h' m → News h₀ L h' ((D, { cls := .type "list", data := .seq vs.toArray }) :: news) → Q (.ref D) { s with heap := h', toks := k }) :
    wpAny (model prog w) A (call (.builtin "str.split") [.str x t, .str y u]) Q E s :=
  splitN1A hF hN hy (fun l h' k e hS _ _ F N => h _ _ _ h' k e hS (fun p hp => Heap.lt_size (hN p hp).1) F N) (by rw [PySem.sizeLine_eq]; omega)
end
def rowTab : List Str := [Str.ofString "a", Str.ofString "a b", Str.ofString "a b c", Str.ofString "a c", Str.ofString "b", Str.ofString "a b c d", Str.ofString "a b d", Str.ofString "b a", Str.ofString "ab c", Str.ofString "a b a"]
def numTab : List Int := [420, 493, 2464, 1481, 1023, 3092]
def rowOf (d : Int) : Str := rowTab.getD (d.fmod 10).toNat Str.empty
def namesOf (d : Int) : List Str := Txt.split (rowOf d) (Str.ofString " ")
def pathOf (d : Int) : Str := Str.ofString "/" ++ Txt.join (Str.ofString "/") (namesOf d)
def numOf (d : Int) : Int := 32768 + numTab.getD (d.fdiv 10).toNat 0
def modeOf (d : Int) : Str := Txt.join (Str.ofString "") (fmChars (numOf d))
def text0 (ns : List Str) : Str := Str.ofString "/" ++ Txt.join (Str.ofString "/") ns
def text1 (ns : List Str) : Str := Str.ofString "/x/../" ++ Txt.join (Str.ofString "//") ns
def text2 (ns : List Str) : Str := Str.ofString "/./" ++ Txt.join (Str.ofString "/./") ns ++ Str.ofString "/"
def nOkB (cs : List Str) : Bool := (List.range (cs.length + 1)).all fun i => decide (weigh ((cs.take i).foldl nStep []) ≤ 1000) && (match cs[i]? with
  | some c => (c != Str.ofString ".." || (cs.take i).foldl nStep [] == [Str.ofString "x"]) && decide (c.length ≤ 1000)
  | none => true)
theorem nOk_of {cs : List Str} (h : nOkB cs = true) : nOk cs := by
  unfold nOkB at h
  rw [List.all_eq_true] at h
  intro i
  by_cases hi : i < cs.length + 1
  · have q := h i (List.mem_range.mpr hi)
    rw [Bool.and_eq_true] at q
    refine ⟨of_decide_eq_true q.1, fun e => ?_, fun c e => ?_⟩
    · have q2 := q.2
      rw [e] at q2
      simpa using (Bool.and_eq_true_iff.mp q2).1
    · have q2 := q.2
      rw [e] at q2
      exact of_decide_eq_true (Bool.and_eq_true_iff.mp q2).2
  · have hn : cs[i]? = none := List.getElem?_eq_none_iff.mpr (by omega)
    have q := h cs.length (List.mem_range.mpr (Nat.lt_succ_self _))
    rw [Bool.and_eq_true] at q
    have e : cs.take i = cs.take cs.length := by rw [List.take_of_length_le (by omega), List.take_length]
    refine ⟨e ▸ of_decide_eq_true q.1, fun e' => ?_, fun c e' => ?_⟩
    · rw [hn] at e'; cases e'
    · rw [hn] at e'; cases e'
/-- all that normpath asks of a text, and what it gives back -/
def goodText (x y : Str) : Bool := decide (x.length ≤ 1000) && decide (0 < x.length) && decide (Txt.slice x none (some 1) = Str.ofString "/") && decide (Txt.slice x (some 1) (some 2) ≠ Str.ofString "/") &&
  nOkB (Txt.split (Txt.slice x (some 1) none) (Str.ofString "/")) && decide (Str.ofString "/" ++ Txt.join (Str.ofString "/") ((Txt.split (Txt.slice x (some 1) none) (Str.ofString "/")).foldl nStep []) = y)
structure GoodText (x y : Str) : Prop where
  short : x.length ≤ 1000
  some : 0 < x.length
  one : Txt.slice x none (Option.some 1) = Str.ofString "/"
  two : Txt.slice x (Option.some 1) (Option.some 2) ≠ Str.ofString "/"
  parts : nOk (Txt.split (Txt.slice x (Option.some 1) none) (Str.ofString "/"))
  back : Str.ofString "/" ++ Txt.join (Str.ofString "/") ((Txt.split (Txt.slice x (Option.some 1) none) (Str.ofString "/")).foldl nStep []) = y
theorem goodText_of {x y : Str} (h : goodText x y = true) : GoodText x y := by
  unfold goodText at h
  simp only [Bool.and_eq_true] at h
  obtain ⟨⟨⟨⟨⟨h1, h2⟩, h3⟩, h4⟩, h5⟩, h6⟩ := h
  exact ⟨of_decide_eq_true h1, of_decide_eq_true h2, of_decide_eq_true h3, of_decide_eq_true h4, nOk_of h5, of_decide_eq_true h6⟩
def sixty (f : Int → Bool) : Bool := (List.range 60).all fun n => f (n : Int)
theorem sixty_of {f : Int → Bool} (h : sixty f = true) {d : Int} (h0 : 0 ≤ d) (h1 : d < 60) : f d = true := by
  unfold sixty at h
  rw [List.all_eq_true] at h
  have := h d.toNat (List.mem_range.mpr (by omega))
  rwa [show ((d.toNat : Nat) : Int) = d by omega] at this
theorem good0 {d : Int} (h0 : 0 ≤ d) (h1 : d < 60) : GoodText (text0 (namesOf d)) (pathOf d) := goodText_of (sixty_of (f := fun d => goodText (text0 (namesOf d)) (pathOf d)) (by decide +kernel) h0 h1)
theorem good1 {d : Int} (h0 : 0 ≤ d) (h1 : d < 60) : GoodText (text1 (namesOf d)) (pathOf d) := goodText_of (sixty_of (f := fun d => goodText (text1 (namesOf d)) (pathOf d)) (by decide +kernel) h0 h1)
theorem good2 {d : Int} (h0 : 0 ≤ d) (h1 : d < 60) : GoodText (text2 (namesOf d)) (pathOf d) := goodText_of (sixty_of (f := fun d => goodText (text2 (namesOf d)) (pathOf d)) (by decide +kernel) h0 h1)
theorem row_short {d : Int} (h0 : 0 ≤ d) (h1 : d < 60) : (rowOf d).length ≤ 7 := of_decide_eq_true (sixty_of (f := fun d => decide ((rowOf d).length ≤ 7)) (by decide +kernel) h0 h1)
theorem names_weigh {d : Int} (h0 : 0 ≤ d) (h1 : d < 60) : weigh (namesOf d) ≤ 1000 := of_decide_eq_true (sixty_of (f := fun d => decide (weigh (namesOf d) ≤ 1000)) (by decide +kernel) h0 h1)
theorem num_bounds {d : Int} (h0 : 0 ≤ d) (h1 : d < 60) : 0 ≤ numOf d ∧ numOf d < 65536 := of_decide_eq_true (sixty_of (f := fun d => decide (0 ≤ numOf d ∧ numOf d < 65536)) (by decide +kernel) h0 h1)
end Mine
namespace Mine
/-- a list object, its stamp left open -/
abbrev lstO (vs : List Value) (n : Nat) : Obj := { cls := .type "list", data := .seq vs.toArray n }
/-- one file of the law, on the ledger -/
def FileIn (led : List (Addr × Obj)) (v : Value) (d : Int) : Prop :=
  ∃ (a an : Addr) (vs : List Value) (t₁ t₂ t₃ : Tok) (n₁ n₂ : Nat), v = .ref a ∧ (a, lstO [.str (pathOf d) t₁, .str (modeOf d) t₂, .ref an, .int (numOf d) t₃] n₁) ∈ led ∧ (an, lstO vs n₂) ∈ led ∧ StrsAre vs (namesOf d)
theorem FileIn.mono {led led' : List (Addr × Obj)} {v : Value} {d : Int} (h : FileIn led v d) (hs : ∀ p ∈ led, p ∈ led') : FileIn led' v d :=
  let ⟨a, an, vs, t₁, t₂, t₃, n₁, n₂, e, h1, h2, h3⟩ := h
  ⟨a, an, vs, t₁, t₂, t₃, n₁, n₂, e, hs _ h1, hs _ h2, h3⟩
end Mine
namespace Mine
theorem file_end {h₀ h : Heap} {L Df D : Addr} {d : Int} {vs : List Value} {t₁ t₂ t₃ : Tok} {n₁ n₂ : Nat} {x y : Addr × Obj} {news : List (Addr × Obj)}
    (N : News h₀ L h ((Df, lstO [.str (pathOf d) t₁, .str (modeOf d) t₂, .ref D, .int (numOf d) t₃] n₁) :: x :: (D, lstO vs n₂) :: y :: news)) (l9 : ∀ p ∈ news, p.1 < Df) (l1 : ∀ p ∈ y :: news, p.1 < D) (hS : StrsAre vs (namesOf d)) :
    ∃ new, News h₀ L h (new ++ news) ∧ (∀ p ∈ new, ∀ q ∈ news, p.1 ≠ q.1) ∧ FileIn new (.ref Df) d := by
  refine ⟨[(Df, lstO [.str (pathOf d) t₁, .str (modeOf d) t₂, .ref D, .int (numOf d) t₃] n₁), (D, lstO vs n₂)], fun p hp => N p ?_, fun p hp q hq => ?_, Df, D, vs, t₁, t₂, t₃, n₁, n₂, rfl, List.mem_cons_self, List.mem_cons_of_mem _ List.mem_cons_self, hS⟩
  · rcases List.mem_cons.mp hp with rfl | hp
    · exact List.mem_cons_self
    · rcases List.mem_cons.mp hp with rfl | hp
      · exact List.mem_cons_of_mem _ (List.mem_cons_of_mem _ List.mem_cons_self)
      · exact List.mem_cons_of_mem _ (List.mem_cons_of_mem _ (List.mem_cons_of_mem _ (List.mem_cons_of_mem _ hp)))
  · rcases List.mem_cons.mp hp with rfl | hp
    · exact Nat.ne_of_gt (l9 q hq)
    · rcases List.mem_cons.mp hp with rfl | hp
      · exact Nat.ne_of_gt (l1 q (List.mem_cons_of_mem _ hq))
      · cases hp
end Mine
namespace Mine
theorem end_led0 {h₀ h : Heap} {L D : Addr} {ws : List Value} {n : Nat} {news : List (Addr × Obj)} (N : News h₀ L h ((D, lstO ws n) :: news)) (l : ∀ p ∈ news, p.1 < D) :
    News h₀ L h ((D, lstO ws n) :: news) ∧ ∀ p ∈ news, p.1 < D :=
  ⟨fun p hp => N p (by
    rcases List.mem_cons.mp hp with rfl | hp
    · exact List.mem_cons_self
    · exact List.mem_cons_of_mem _ (hp)), fun p hp => l p (hp)⟩
end Mine
namespace Mine
theorem end_led1 {h₀ h : Heap} {L D : Addr} {ws : List Value} {n : Nat} {x0 : Addr × Obj} {news : List (Addr × Obj)} (N : News h₀ L h ((D, lstO ws n) :: x0 :: news)) (l : ∀ p ∈ x0 :: news, p.1 < D) :
    News h₀ L h ((D, lstO ws n) :: news) ∧ ∀ p ∈ news, p.1 < D :=
  ⟨fun p hp => N p (by
    rcases List.mem_cons.mp hp with rfl | hp
    · exact List.mem_cons_self
    · exact List.mem_cons_of_mem _ (List.mem_cons_of_mem _ (hp))), fun p hp => l p (List.mem_cons_of_mem _ (hp))⟩
end Mine
namespace Mine
theorem end_led2 {h₀ h : Heap} {L D : Addr} {ws : List Value} {n : Nat} {x0 x1 : Addr × Obj} {news : List (Addr × Obj)} (N : News h₀ L h ((D, lstO ws n) :: x0 :: x1 :: news)) (l : ∀ p ∈ x0 :: x1 :: news, p.1 < D) :
    News h₀ L h ((D, lstO ws n) :: news) ∧ ∀ p ∈ news, p.1 < D :=
  ⟨fun p hp => N p (by
    rcases List.mem_cons.mp hp with rfl | hp
    · exact List.mem_cons_self
    · exact List.mem_cons_of_mem _ (List.mem_cons_of_mem _ (List.mem_cons_of_mem _ (hp)))), fun p hp => l p (List.mem_cons_of_mem _ (List.mem_cons_of_mem _ (hp)))⟩
end Mine
namespace Mine
theorem end_led3 {h₀ h : Heap} {L D : Addr} {ws : List Value} {n : Nat} {x0 x1 x2 : Addr × Obj} {news : List (Addr × Obj)} (N : News h₀ L h ((D, lstO ws n) :: x0 :: x1 :: x2 :: news)) (l : ∀ p ∈ x0 :: x1 :: x2 :: news, p.1 < D) :
    News h₀ L h ((D, lstO ws n) :: news) ∧ ∀ p ∈ news, p.1 < D :=
  ⟨fun p hp => N p (by
    rcases List.mem_cons.mp hp with rfl | hp
    · exact List.mem_cons_self
    · exact List.mem_cons_of_mem _ (List.mem_cons_of_mem _ (List.mem_cons_of_mem _ (List.mem_cons_of_mem _ (hp))))), fun p hp => l p (List.mem_cons_of_mem _ (List.mem_cons_of_mem _ (List.mem_cons_of_mem _ (hp))))⟩
end Mine
namespace Mine
theorem end_led4 {h₀ h : Heap} {L D : Addr} {ws : List Value} {n : Nat} {x0 x1 x2 x3 : Addr × Obj} {news : List (Addr × Obj)} (N : News h₀ L h ((D, lstO ws n) :: x0 :: x1 :: x2 :: x3 :: news)) (l : ∀ p ∈ x0 :: x1 :: x2 :: x3 :: news, p.1 < D) :
    News h₀ L h ((D, lstO ws n) :: news) ∧ ∀ p ∈ news, p.1 < D :=
  ⟨fun p hp => N p (by
    rcases List.mem_cons.mp hp with rfl | hp
    · exact List.mem_cons_self
    · exact List.mem_cons_of_mem _ (List.mem_cons_of_mem _ (List.mem_cons_of_mem _ (List.mem_cons_of_mem _ (List.mem_cons_of_mem _ (hp)))))), fun p hp => l p (List.mem_cons_of_mem _ (List.mem_cons_of_mem _ (List.mem_cons_of_mem _ (List.mem_cons_of_mem _ (hp)))))⟩
end Mine
namespace Mine
theorem end_led5 {h₀ h : Heap} {L D : Addr} {ws : List Value} {n : Nat} {x0 x1 x2 x3 x4 : Addr × Obj} {news : List (Addr × Obj)} (N : News h₀ L h ((D, lstO ws n) :: x0 :: x1 :: x2 :: x3 :: x4 :: news)) (l : ∀ p ∈ x0 :: x1 :: x2 :: x3 :: x4 :: news, p.1 < D) :
    News h₀ L h ((D, lstO ws n) :: news) ∧ ∀ p ∈ news, p.1 < D :=
  ⟨fun p hp => N p (by
    rcases List.mem_cons.mp hp with rfl | hp
    · exact List.mem_cons_self
    · exact List.mem_cons_of_mem _ (List.mem_cons_of_mem _ (List.mem_cons_of_mem _ (List.mem_cons_of_mem _ (List.mem_cons_of_mem _ (List.mem_cons_of_mem _ (hp))))))), fun p hp => l p (List.mem_cons_of_mem _ (List.mem_cons_of_mem _ (List.mem_cons_of_mem _ (List.mem_cons_of_mem _ (List.mem_cons_of_mem _ (hp))))))⟩
end Mine
namespace Mine
theorem end_led6 {h₀ h : Heap} {L D : Addr} {ws : List Value} {n : Nat} {x0 x1 x2 x3 x4 x5 : Addr × Obj} {news : List (Addr × Obj)} (N : News h₀ L h ((D, lstO ws n) :: x0 :: x1 :: x2 :: x3 :: x4 :: x5 :: news)) (l : ∀ p ∈ x0 :: x1 :: x2 :: x3 :: x4 :: x5 :: news, p.1 < D) :
    News h₀ L h ((D, lstO ws n) :: news) ∧ ∀ p ∈ news, p.1 < D :=
  ⟨fun p hp => N p (by
    rcases List.mem_cons.mp hp with rfl | hp
    · exact List.mem_cons_self
    · exact List.mem_cons_of_mem _ (List.mem_cons_of_mem _ (List.mem_cons_of_mem _ (List.mem_cons_of_mem _ (List.mem_cons_of_mem _ (List.mem_cons_of_mem _ (List.mem_cons_of_mem _ (hp)))))))), fun p hp => l p (List.mem_cons_of_mem _ (List.mem_cons_of_mem _ (List.mem_cons_of_mem _ (List.mem_cons_of_mem _ (List.mem_cons_of_mem _ (List.mem_cons_of_mem _ (hp)))))))⟩
end Mine
namespace Mine
theorem end_led7 {h₀ h : Heap} {L D : Addr} {ws : List Value} {n : Nat} {x0 x1 x2 x3 x4 x5 x6 : Addr × Obj} {news : List (Addr × Obj)} (N : News h₀ L h ((D, lstO ws n) :: x0 :: x1 :: x2 :: x3 :: x4 :: x5 :: x6 :: news)) (l : ∀ p ∈ x0 :: x1 :: x2 :: x3 :: x4 :: x5 :: x6 :: news, p.1 < D) :
    News h₀ L h ((D, lstO ws n) :: news) ∧ ∀ p ∈ news, p.1 < D :=
  ⟨fun p hp => N p (by
    rcases List.mem_cons.mp hp with rfl | hp
    · exact List.mem_cons_self
    · exact List.mem_cons_of_mem _ (List.mem_cons_of_mem _ (List.mem_cons_of_mem _ (List.mem_cons_of_mem _ (List.mem_cons_of_mem _ (List.mem_cons_of_mem _ (List.mem_cons_of_mem _ (List.mem_cons_of_mem _ (hp))))))))), fun p hp => l p (List.mem_cons_of_mem _ (List.mem_cons_of_mem _ (List.mem_cons_of_mem _ (List.mem_cons_of_mem _ (List.mem_cons_of_mem _ (List.mem_cons_of_mem _ (List.mem_cons_of_mem _ (hp))))))))⟩
end Mine
namespace Mine
theorem offs_lt {b D : Nat} {l : List (Addr × Obj)} (h : ∀ p ∈ l, p.1 < b) (hb : b ≤ D) : ∀ p ∈ l, p.1 ≠ D := fun p hp => Nat.ne_of_lt (Nat.lt_of_lt_of_le (h p hp) hb)
end Mine
namespace Mine
/-- a list of texts, on the ledger -/
def RowRel (led : List (Addr × Obj)) (v : Value) (r : List Str) : Prop := ∃ (a : Addr) (vs : List Value) (n : Nat), v = .ref a ∧ (a, lstO vs n) ∈ led ∧ StrsAre vs r
theorem RowRel.mono {l l' : List (Addr × Obj)} {v : Value} {r : List Str} (hs : ∀ p ∈ l, p ∈ l') (h : RowRel l v r) : RowRel l' v r :=
  let ⟨a, vs, n, e, h1, h2⟩ := h
  ⟨a, vs, n, e, hs _ h1, h2⟩
/-- how far all rows begin as the first one does -/
def IsShared (nss : List (List Str)) (n0 : List Str) (k : Nat) : Prop := k ≤ n0.length ∧ (∀ r ∈ nss, r.take k = n0.take k) ∧ (k = n0.length ∨ ∃ r ∈ nss, r.take (k + 1) ≠ n0.take (k + 1))
end Mine
end
section
open PySem.Calls PySem.Spec
namespace Mine
section
theorem draws_spec
 {w : World} {dp un : Nat} {gd : Option (List Code)} {cn : Str} {cs : Scope} {a : Addr} {ccd : Value} {cl : List (Str × Addr)} {outer : List Env} {A₀ : Around} {base h₀ : Heap} {L : Addr} {m : Str → Option Value} {news : List (Addr × Obj)} {s : Shared}
    {Q E : Value → Shared → Prop} {p : Program} {loose : List Str} {mean : ExcName → Option Value} {mg mb : Str → Option Value}
    (B : Below A₀ base outer h₀) (F : Fr h₀ L s.heap m) (X : (Mine.frag w.params).In h₀) (N : News h₀ L s.heap news) (T : Top p loose mean mg mb h₀) (hk : cs.kind = .function)
    (hdp : dp + 2 < recursionLimit) (hun : un + 20 < cLine)
    {l : Addr} {vs : List Value} {ns : List Int} (hl : base.IsList l vs.toArray) (hi : IntsAre vs ns) (hlen : ns.length ≤ 63)
    (ret : ∀ D h' tk' ws n, Fr h₀ L h' m → News h₀ L h' ((D, lstO ws n) :: news) → (∀ p ∈ news, p.1 < D) → IntsAre ws (drawsOf ns) → Q (.ref D) { s with heap := h', toks := tk' }) :
    wpAny (model PySem.Challenge.rw_ik0222_01.row.prog w) (ktrTop dp un gd cn cs L a ccd cl outer) (call (.ref 449) [.ref l]) Q E s := by
  k_with_none
  k_with "subscriptTail" => w_strict (k_here; (with_reducible show wpAny _ _ (subscriptTail (PySem.Expr.List _ _) (PySem.Expr.Slice (some _) none none _) (Value.ref _) (Value.ref _)) _ _ _); k_dflt (refine' slice_tmp_from (s := ⟨_, _, _, _, _⟩) ?Fw1 ?Nw1 ?lw1 ?iw1 ?pw1 ?qw1 ?xw1 ?zw1 ?_ ?sw1; (case Fw1 => k_asm); (case Nw1 => k_asm); (case lw1 => kmk_list); (case pw1 => kmk_part); (case qw1 => kmk_part); (case iw1 => first | l_ints | (repeat constructor)); (case xw1 => omega); (case zw1 => exact Nat.le_of_ble_eq_true rfl); (case sw1 => with_unfolding_all rfl)); intro _ _ _ _ _ _ _; (try k_sweep))
  k_with "binaryOp Add ref ref" => w_strict (k_here; k_dflt (refine' add_led (s := ⟨_, _, _, _, _⟩) ?Fw2 ?Nw2 ?lw2 ?bw2 ?iw2 ?jw2 ?zw2 ?_; (case Fw2 => k_asm); (case Nw2 => k_asm); (case lw2 => kmk_list); (case bw2 => kmk_list); (case iw2 => assumption); (case jw2 => assumption); (case zw2 => exact draws_fit (by decide))); intro _ _ _ _ _ _; (try k_sweep))
  k_with "subscriptTail" => w_strict (k_here; (with_reducible show wpAny _ _ (subscriptTail _ (PySem.Expr.Slice none (some _) none _) (Value.ref _) (Value.ref _)) _ _ _); k_dflt (refine' slice_tmp_upto (s := ⟨_, _, _, _, _⟩) ?Fw3 ?Nw3 ?lw3 ?iw3 ?pw3 ?qw3 ?xw3 ?zw3 ?_ ?sw3; (case Fw3 => k_asm); (case Nw3 => k_asm); (case lw3 => kmk_list); (case pw3 => kmk_part); (case qw3 => kmk_part); (case iw3 => assumption); (case xw3 => decide); (case zw3 => exact draws_fit2 (by assumption) (by decide)); (case sw3 => with_unfolding_all rfl)); intro _ _ _ _ _ _ _; (try k_sweep))
  revert X; k_fill; intro X
  refine wpAny_call ?_
  k_dflt cell_enter
  k_steps
  · have z := end_led5 (by assumption : News h₀ L _ _) (by assumption)
    exact ret _ _ _ _ _ (by assumption) z.1 z.2 (by unfold drawsOf toldOf; rw [if_pos (by assumption)]; assumption)
  · have z := end_led4 (by assumption : News h₀ L _ _) (by assumption)
    exact ret _ _ _ _ _ (by assumption) z.1 z.2 (by unfold drawsOf toldOf; rw [if_neg (by assumption)]; assumption)
end
end Mine
end
section
open PySem.Calls PySem.Spec
set_option maxHeartbeats 4000000
namespace Mine
section
variable {prog : Program} {w : World} {A : Around} {E : Value → Shared → Prop}
theorem kind_issubn : builtinKind "issubclass.nested" = none := by decide +kernel
theorem plain_issubn : plainId "issubclass.nested" = true := by decide +kernel
theorem args_issubn (a b c : Value) : argsOk "issubclass.nested" ⟨[a, b, c], []⟩ := by unfold argsOk; kernel_rfl
theorem sub_str_str : isSubtype (.type "str") (.type "str") = pure true := by rw [isSubtype_type]; kernel_rfl
theorem issubn_str {k : Value} {dep : Int} {tk : Tok} {s : Shared} {Q : Fin → Shared → Prop} (hk : k = .int dep tk) (hq : Q (.done (.ret (.bool true))) s) :
    wpAny (model prog w) A (Builtin.«issubclass.nested» ⟨[.type "str", .type "str", k], []⟩) Q E s := by
  subst hk
  have hself := sub_str_str
  repeat (any_goals (first | assumption | (rw [hself]) | wp_step))
theorem meets_issubn : Meets (Builtin.«issubclass.nested» ⟨[.type "str", .type "str", rawInt (0 + 1)], []⟩) (fun _ R s => R (.ok (.ret (.bool true))) s) :=
  fun _ _ _ _ _ hs => issubn_str rfl hs
theorem issub_nested_tup {tp : Addr} {r cs : List Value} {tk : Tok} {s : Shared} {Q : Fin → Shared → Prop} (hcs : cs = Value.type "str" :: r)
    (htp : s.heap.get? tp = some { cls := .type "tuple", data := .seq cs.toArray })
    (hq : Q (.done (.ret (.bool true))) s) : wpAny (model prog w) A (Builtin.«issubclass.nested» ⟨[.type "str", .ref tp, .int 0 tk], []⟩) Q E s := by
  obtain ⟨h, g, d, t, os⟩ := s
  have hT2 : (⟨h, g, d, t, os⟩ : Shared).TypeIs (.ref tp) "tuple" := ⟨_, htp, rfl⟩
  have f1 := F.isi_sub_tuple
  repeat (any_goals (first | assumption | wp_step))
  refine wpAny_arrayLoop ?_
  simp only [Option.getD_some, List.toList_toArray]
  subst hcs
  rw [List.forIn_cons]
  refine wpAny_bind (wpAny_bind (call_function_meets kind_issubn plain_issubn F.entry_issubclass_nested (args_issubn _ _ _) meets_issubn ?_))
  show wpAny _ _ (truthy (.bool true) >>= _) _ _ _
  refine wpAny_bind (m := truthy (.bool true)) (wpAny_pure ?_)
  refine wpAny_bind (wpAny_pure (wpAny_pure (wpAny_pure ?_)))
  repeat (any_goals (first | assumption | wp_step))
theorem issub_tup {tp : Addr} {r : List Value} : Meets (Builtin.«issubclass» ⟨[.type "str", .ref tp], []⟩)
    (fun _ R s => s.heap.get? tp = some { cls := .type "tuple", data := .seq (Value.type "str" :: r).toArray } ∧ R (.ok (.ret (.bool true))) s) :=
  fun _ _ _ _ _ hs => issubclass_outer (issub_nested_tup rfl hs.1 hs.2)
theorem call_issub {s : Shared} {h₀ : Heap} {L : Addr} {news : List (Addr × Obj)} {tp : Addr} {r : List Value} {Q : Value → Shared → Prop} (N : News h₀ L s.heap news)
    (hm : (tp, ({ cls := .type "tuple", data := .seq (Value.type "str" :: r).toArray } : Obj)) ∈ news) (h : Q (.bool true) s) :
    wpAny (model prog w) A (call (.builtin "issubclass") [.type "str", .ref tp]) Q E s :=
  call_issubclass (S := fun _ R s => s.heap.get? tp = some { cls := .type "tuple", data := .seq (Value.type "str" :: r).toArray } ∧ R (.ok (.ret (.bool true))) s) issub_tup ⟨(N _ hm).1, h⟩
end
end Mine
end
section
open PySem.Calls PySem.Spec
namespace Mine
section
theorem fspath_spec
 {w : World} {dp un : Nat} {gd : Option (List Code)} {cn : Str} {cs : Scope} {a : Addr} {ccd : Value} {cl : List (Str × Addr)} {outer : List Env} {A₀ : Around} {base h₀ : Heap} {L : Addr} {m : Str → Option Value} {news : List (Addr × Obj)} {s : Shared}
    {Q E : Value → Shared → Prop} {p : Program} {loose : List Str} {mean : ExcName → Option Value} {mg mb : Str → Option Value}
    (B : Below A₀ base outer h₀) (F : Fr h₀ L s.heap m) (X : (Mine.frag w.params).In h₀) (N : News h₀ L s.heap news) (T : Top p loose mean mg mb h₀) (hk : cs.kind = .function)
    (hdp : dp + 2 < recursionLimit) (hun : un + 20 < cLine)
    {x : Str} {t : Tok} (ret : ∀ h' tk', Fr h₀ L h' m → News h₀ L h' news → Q (.str x t) { s with heap := h', toks := tk' }) :
    wpAny (model PySem.Challenge.rw_ik0222_01.row.prog w) (ktrTop dp un gd cn cs L a ccd cl outer) (call (.ref 371) [.str x t]) Q E s := by
  k_with_none
  k_with "call builtin:issubclass" => w_strict (k_here; k_dflt (refine' call_issub ?k1w4 ?k2w4 ?_; (case k1w4 => k_asm); (case k2w4 => k_mem); k_whole))
  revert X; k_fill; intro X
  refine wpAny_call ?_
  k_dflt cell_enter
  k_steps
  exact ret _ _ (by k_asm) (fun p hp => (by assumption : News h₀ L _ _) p (List.mem_cons_of_mem _ hp))
end
end Mine
end
section
open PySem.Calls PySem.Spec
namespace Mine
section
theorem splitroot_spec
 {w : World} {dp un : Nat} {gd : Option (List Code)} {cn : Str} {cs : Scope} {a : Addr} {ccd : Value} {cl : List (Str × Addr)} {outer : List Env} {A₀ : Around} {base h₀ : Heap} {L : Addr} {m : Str → Option Value} {news : List (Addr × Obj)} {s : Shared}
    {Q E : Value → Shared → Prop} {p : Program} {loose : List Str} {mean : ExcName → Option Value} {mg mb : Str → Option Value}
    (B : Below A₀ base outer h₀) (F : Fr h₀ L s.heap m) (X : (Mine.frag w.params).In h₀) (N : News h₀ L s.heap news) (T : Top p loose mean mg mb h₀) (hk : cs.kind = .function)
    (hdp : dp + 4 < recursionLimit) (hun : un + 40 < cLine)
    {x : Str} {t : Tok} (hxl : x.length ≤ 1000) (h1 : Txt.slice x none (some 1) = Str.ofString "/") (h2 : Txt.slice x (some 1) (some 2) ≠ Str.ofString "/")
    (ret : ∀ D h' tk' t₁ t₂ t₃, Fr h₀ L h' m → News h₀ L h' ((D, { cls := .type "tuple", data := .seq #[.str "" t₁, .str "/" t₂, .str (Txt.slice x (some 1) none) t₃] }) :: news) → Q (.ref D) { s with heap := h', toks := tk' }) :
    wpAny (model PySem.Challenge.rw_ik0222_01.row.prog w) (ktrTop dp un gd cn cs L a ccd cl outer) (call (.ref 385) [.str x t]) Q E s := by
  k_with_none
  k_with "call ref" => w_strict (k_here; (with_reducible show wpAny _ _ (call (Value.ref 371) [Value.str _ _]) _ _ _); k_dflt (refine' fspath_spec ?k1w5 ?k2w5 ?k3w5 ?k4w5 ?k5w5 ?k6w5 ?k7w5 ?k8w5 ?_; (case k1w5 => k_asm); (case k2w5 => k_asm); (case k3w5 => k_asm); (case k4w5 => k_asm); (case k5w5 => k_asm); (case k6w5 => first | exact rfl | assumption); (case k7w5 => ktr_room); (case k8w5 => ktr_units); k_whole); intro _ _ _ _; (try dsimp only); (try k_sweep))
  revert X; k_fill; intro X
  refine wpAny_call ?_
  k_dflt cell_enter
  k_steps
  all_goals first
    | exact ret _ _ _ _ _ _ (by k_asm) (by k_asm)
    | ((rename ((Txt.slice x none (some 1) != _) = true) => hc); rw [h1] at hc; exact absurd hc (by decide))
    | ((rename ((Txt.slice x (some 1) (some 2) != _) = false) => hc); exact absurd (by simpa using hc) h2)
end
end Mine
end
section
open PySem.Calls PySem.Spec
namespace Mine
section
local macro_rules | `(tactic| k_all) => `(tactic| with_reducible assumption)
theorem normpath_spec
 {w : World} {dp un : Nat} {gd : Option (List Code)} {cn : Str} {cs : Scope} {a : Addr} {ccd : Value} {cl : List (Str × Addr)} {outer : List Env} {A₀ : Around} {base h₀ : Heap} {L : Addr} {m : Str → Option Value} {news : List (Addr × Obj)} {s : Shared}
    {Q E : Value → Shared → Prop} {p : Program} {loose : List Str} {mean : ExcName → Option Value} {mg mb : Str → Option Value}
    (B : Below A₀ base outer h₀) (F : Fr h₀ L s.heap m) (X : (Mine.frag w.params).In h₀) (N : News h₀ L s.heap news) (T : Top p loose mean mg mb h₀) (hk : cs.kind = .function)
    (hdp : dp + 6 < recursionLimit) (hun : un + 60 < cLine)
    {x : Str} {t : Tok} (hxl : x.length ≤ 1000) (hx0 : 0 < x.length) (h1 : Txt.slice x none (some 1) = Str.ofString "/") (h2 : Txt.slice x (some 1) (some 2) ≠ Str.ofString "/")
    (hok : nOk (Txt.split (Txt.slice x (some 1) none) (Str.ofString "/")))
    (ret : ∀ h' tk' t', Fr h₀ L h' m → News h₀ L h' news → Q (.str (Str.ofString "/" ++ Txt.join (Str.ofString "/") ((Txt.split (Txt.slice x (some 1) none) (Str.ofString "/")).foldl nStep [])) t') { s with heap := h', toks := tk' }) :
    wpAny (model PySem.Challenge.rw_ik0222_01.row.prog w) (ktrTop dp un gd cn cs L a ccd cl outer) (call (.ref 392) [.str x t]) Q E s := by
  k_with_none
  k_with "call ref" => w_strict (k_here; (with_reducible show wpAny _ _ (call (Value.ref 371) [Value.str _ _]) _ _ _); k_dflt (refine' fspath_spec ?k1w6 ?k2w6 ?k3w6 ?k4w6 ?k5w6 ?k6w6 ?k7w6 ?k8w6 ?_; (case k1w6 => k_asm); (case k2w6 => k_asm); (case k3w6 => k_asm); (case k4w6 => k_asm); (case k5w6 => k_asm); (case k6w6 => first | exact rfl | assumption); (case k7w6 => ktr_room); (case k8w6 => ktr_units); k_whole); intro _ _ _ _; (try dsimp only); (try k_sweep))
  k_with "call ref" => w_strict (k_here; (with_reducible show wpAny _ _ (call (Value.ref 385) [Value.str _ _]) _ _ _); k_dflt (refine' splitroot_spec ?k1w7 ?k2w7 ?k3w7 ?k4w7 ?k5w7 ?k6w7 ?k7w7 ?k8w7 ?a1w7 ?a2w7 ?a3w7 ?_; (case k1w7 => k_asm); (case k2w7 => k_asm); (case k3w7 => k_asm); (case k4w7 => k_asm); (case k5w7 => k_asm); (case k6w7 => first | exact rfl | assumption); (case k7w7 => ktr_room); (case k8w7 => ktr_units); (case a1w7 => assumption); (case a2w7 => assumption); (case a3w7 => assumption); k_whole); intro _ _ _ _ _ _ _ _; (try dsimp only); (try k_sweep))
  k_with "call builtin:str.join" => w_strict (k_here; (with_reducible show wpAny _ _ (call (Value.builtin "str.join") [Value.str _ _, Value.ref _]) _ _ _); k_dflt (refine' join_led ?k1w8 ?k2w8 ?k3w8 ?k4w8 ?k5w8 ?_; (case k1w8 => k_asm); (case k2w8 => k_mem); (case k3w8 => assumption); (case k4w8 => assumption); (case k5w8 => decide); k_whole); intro _ _ _)
  revert X; k_fill; intro X
  refine wpAny_call ?_
  k_dflt cell_enter
  k_steps
  rotate_left
  · exfalso; omega
  rename_i l _ _ hl hS hle hL _ _ _ l1 _ _ _
  clear hL
  (rename Fr _ _ _ _ => lF')
  with_unfolding_all refine' For_invVF lF' ?k1 ?k2 ?_
  (case k1 => exact rfl)
  (case k2 => exact rfl)
  k_whole
  k_steps
  (rename Fr _ _ _ _ => lF'')
  (rename News _ _ _ _ => lN'')
  obtain ⟨l2, l3, l4⟩ := l1
  have l5 := allLt_mem l4
  k_dflt (refine' iter_ledL (npJ (Txt.split (Txt.slice x (some 1) none) (Str.ofString "/"))) ?k0 ?k1 ?k2 ?k3 ?k4 ?k5 ?k6 ?k7 ?k8 ?turn ?done)
  (case k2 => exact lF'')
  (case k0 => exact rfl)
  (case k1 => first | exact rfl | assumption)
  (case k3 => exact lN'')
  (case k4 => exact List.Mem.head _)
  (case k5 => exact rfl)
  (case k6 => exact rfl)
  (case k7 => exact offs_cons l2 (offs_cons l3 (offs_of l5)))
  (case k8 => exact ⟨#[], 0, rfl, .nil⟩)
  (case turn =>
    intro i v o I oI h tk hv hJ offD hrI F' N'
    obtain ⟨its, n, rfl, hA⟩ := hJ
    obtain ⟨c, tc, hc, rfl⟩ := sa_at hS hv
    rw [hl] at hc
    obtain ⟨hw, hdd, hcl⟩ := hok i
    have hcl := hcl c hc
    by_cases hcd : c = Str.ofString ".."
    · subst hcd
      have hdx := hdd hc
      rw [hdx] at hA
      obtain ⟨its⟩ := its
      dsimp only at hA
      obtain ⟨tx, rfl⟩ := sa_one hA
      k_steps
      all_goals exact TurnEnd1.next (by k_asm) (by k_asm) (npJ_dd hc hdx)
    · have hsz : its.size ≤ 1000 := by
        have := sa_len hA
        rw [Array.length_toList] at this
        rw [this]; unfold weigh at hw; omega
      k_steps
      all_goals first
        | exact TurnEnd1.cont (by k_asm) (by k_asm) (npJ_skip hc (.inl (len_eq (by assumption))) hA)
        | exact TurnEnd1.cont (by k_asm) (by k_asm) (npJ_skip hc (.inr (beq_iff_eq.mp (by assumption))) hA)
        | exact TurnEnd1.next (by k_asm) (by k_asm) (npJ_app hc (len_ne (by assumption)) (ne_of_beq_false (by assumption)) hcd hA)
        | ((rename ((_ != Str.ofString "..") = false) => hc'); exact absurd (by simpa using hc') hcd))
  · intro u o h tk hJ F' N'
    obtain ⟨its, n, rfl, hA⟩ := hJ
    have hln : (strValues l).length = (Txt.split (Txt.slice x (some 1) none) (Str.ofString "/")).length := by rw [← hl]; exact sa_len hS
    rw [hln, List.take_length] at hA
    have hw := (hok (Txt.split (Txt.slice x (some 1) none) (Str.ofString "/")).length).1
    rw [List.take_length] at hw
    k_steps
    exact ret _ _ _ (by k_asm) (fun p hp => (by assumption : News h₀ L _ _) p (List.mem_cons_of_mem _ (List.mem_cons_of_mem _ (List.mem_cons_of_mem _ hp))))
end
end Mine
end
section
open PySem.Calls PySem.Spec
namespace Mine
section
local macro_rules | `(tactic| k_all) => `(tactic| with_reducible assumption)
theorem filemode_spec
 {w : World} {dp un : Nat} {gd : Option (List Code)} {cn : Str} {cs : Scope} {a : Addr} {ccd : Value} {cl : List (Str × Addr)} {outer : List Env} {A₀ : Around} {base h₀ : Heap} {L : Addr} {m : Str → Option Value} {news : List (Addr × Obj)} {s : Shared}
    {Q E : Value → Shared → Prop} {p : Program} {loose : List Str} {mean : ExcName → Option Value} {mg mb : Str → Option Value}
    (B : Below A₀ base outer h₀) (F : Fr h₀ L s.heap m) (X : (Mine.frag w.params).In h₀) (N : News h₀ L s.heap news) (T : Top p loose mean mg mb h₀) (hk : cs.kind = .function)
    (hdp : dp + 6 < recursionLimit) (hun : un + 60 < cLine)
    {k : Int} {t : Tok} (h0 : 0 ≤ k) (h1 : k < 65536)
    (ret : ∀ h' tk' t', Fr h₀ L h' m → News h₀ L h' news → Q (.str (Txt.join (Str.ofString "") (fmChars k)) t') { s with heap := h', toks := tk' }) :
    wpAny (model PySem.Challenge.rw_ik0222_01.row.prog w) (ktrTop dp un gd cn cs L a ccd cl outer) (call (.ref 444) [.int k t]) Q E s := by
  k_with_none
  k_with "call ref" => w_strict (k_here; (refine wpAny_call ?_); k_dflt (refine' code_def ?k1w9 ?k2w9 ?k3w9 ?k4w9 ?k5w9 ?kAw9 ?kFw9 ?kKw9 ?k6w9 ?k7w9 ?k8w9 ?k9w9 ?kBw9 ?_ ?c2w9 ?c3w9 ?c4w9 ?c5w9; (case kAw9 => exact rfl); (case kFw9 => exact rfl); (case kKw9 => first | exact rfl | assumption); (case k1w9 => k_asm); (case k2w9 => k_asm); (case k3w9 => k_asm); (case k4w9 => k_asm); (case k5w9 => k_asm); (case k6w9 => k_is); (case k7w9 => k_is); (case k8w9 => ktr_room); (case k9w9 => exact BindsTo.of_eq rfl); (case c5w9 => decide); (case kBw9 => exact locs rfl); (case c2w9 => exact rfl); (case c3w9 => exact rfl); (case c4w9 => exact rfl); k_whole; intro _ _ _ _ _ _ _ _ _; (try dsimp only); (try k_fold)))
  k_with "call builtin:str.join" => w_strict (k_here; (with_reducible show wpAny _ _ (call (Value.builtin "str.join") [Value.str _ _, Value.ref _]) _ _ _); k_dflt (refine' join_led ?k1w10 ?k2w10 ?k3w10 ?k4w10 ?k5w10 ?_; (case k1w10 => k_asm); (case k2w10 => k_mem); (case k3w10 => assumption); (case k4w10 => assumption); (case k5w10 => decide); k_whole); intro _ _ _)
  revert X; k_fill; intro X
  refine wpAny_call ?_
  k_dflt cell_enter
  iterate 9 walk1
  refine wpAny_For ?_ (by intro _; rfl)
  iterate 6 walk1
  (rename Fr _ _ _ _ => lF)
  (rename News _ _ _ _ => lN)
  (rename (∀ p ∈ news, p.1 < _) => l1)
  (rename Frag.In _ _ => lX)
  obtain ⟨refs, hT, hrows⟩ := fm_rows (by assumption)
  have hTs : Heap.IsTuple _ 437 refs.toArray := tuple_keep lF hT
  refine call_enumT (s := ⟨_, _, _, _, _⟩) hTs ?_
  intro h' he hit hsz hk9
  refine wpAny_pyIter_enum he ?_
  have lF' := Fr.stays lF hk9
  have lN' := News.stays lN hk9
  have hsz' : _ = _ := hsz
  refine loopEnumT (s := ⟨_, _, _, _, _⟩) (xc := Str.ofString "bit") (xd := Str.ofString "char") (J := fmJ k) (by rfl) rfl rfl rfl rfl hT lF' lN' he hit (Nat.succ_ne_self _) (Fr.fresh lF (Nat.le_succ _)) (Fr.fresh lF (Nat.le_refl _)) (Fr.neL lF (Nat.le_succ _)) (Fr.neL lF (Nat.le_refl _)) (fun p hp => ⟨News.off lN (Nat.le_succ _) p hp, News.off lN (Nat.le_refl _) p hp⟩) (offs_of l1) ⟨#[], 0, rfl, .nil⟩ ?_ ?_
  · intro j v o oe oi u₁ u₂ t₁ h tk E' hv hJ offD F' N'
    obtain ⟨its, n, rfl, hA⟩ := hJ
    obtain ⟨rl, row, hrow, rfl, prefs, hpt, hpairs⟩ := hrows.get j v hv
    walk1
    have hsz : its.size ≤ 1000 := by
      have := sa_len hA
      rw [Array.length_toList] at this
      rw [this, List.length_take]
      have : (fmChars k).length = 10 := by simp [fmChars, fmTab]
      omega
    refine forPairs (s := ⟨_, _, _, _, _⟩) (by rfl) rfl rfl rfl rfl hpt (fun j v e => hpairs.get j v e) hpairs.len F' N' ?_ (by intro _; rfl) (Before k j row) (fun j' p h => absurd h (Nat.not_lt_zero _)) ?_ ?_
    · walk1
      exact ⟨rfl, rfl⟩
    · intro j' b c tb tc I oI h tk E' hr hJ' offI F' N'
      have hIl := offI _ List.mem_cons_self
      replace hIl := neN hIl
      dsimp only at hIl
      k_steps
      all_goals first
        | exact ⟨before_next hJ' hr ((ft_f0 (by assumption) (by assumption))), _, _, _, _, rfl, by assumption, by assumption⟩
        | exact ⟨before_next hJ' hr ((ft_fs (by assumption) (by assumption))), _, _, _, _, rfl, by assumption, by assumption⟩
        | ((show wpAny _ _ (execs [] _) _ _ _); (refine wpAny_execs_nil ?_); exact ⟨_, _, _, _, rfl, (by assumption), (fun p hp => (by assumption : News _ _ _ ((I, oI) :: _)) p (List.mem_cons_of_mem _ hp)), agree_of4, fmJ_snoc hrow (before_find hJ' hr (ft_t0 (by assumption) (by assumption))) hA⟩)
        | ((show wpAny _ _ (execs [] _) _ _ _); (refine wpAny_execs_nil ?_); exact ⟨_, _, _, _, rfl, (by assumption), (fun p hp => (by assumption : News _ _ _ ((I, oI) :: _)) p (List.mem_cons_of_mem _ hp)), agree_of4, fmJ_snoc hrow (before_find hJ' hr (ft_ts (by assumption) (by assumption))) hA⟩)
    · intro u v h tk E' hJ' F' N'
      k_steps
      all_goals first
        | ((show EnumEnd _ _ _ _ _ _ _ _ _ _ _); exact ⟨_, _, _, _, rfl, (by assumption), (by assumption), agree_of4, fmJ_snoc hrow (bn_0 (by assumption) hJ') hA⟩)
        | ((show EnumEnd _ _ _ _ _ _ _ _ _ _ _); exact ⟨_, _, _, _, rfl, (by assumption), (by assumption), agree_of4, fmJ_snoc hrow (bn_s (by assumption) hJ') hA⟩)
  · intro m' o h tk hJ F' ag N'
    obtain ⟨its, n, rfl, hA⟩ := hJ
    obtain ⟨va, vb, vc, vd, F''⟩ := fr_agree4 F' ag
    clear F'
    have hlen : refs.length = (fmChars k).length := by rw [hrows.len]; simp [fmChars]
    rw [hlen, List.take_length] at hA
    have hw := fm_weigh (k := k)
    dsimp only
    k_steps
    all_goals first
      | exact ret _ _ _ (by assumption) (fun p hp => (by assumption : News h₀ L _ _) p (List.mem_cons_of_mem _ hp))
end
end Mine
end
section
open PySem.Calls PySem.Spec
namespace Mine
section
theorem normpath_good
 {w : World} {dp un : Nat} {gd : Option (List Code)} {cn : Str} {cs : Scope} {a : Addr} {ccd : Value} {cl : List (Str × Addr)} {outer : List Env} {A₀ : Around} {base h₀ : Heap} {L : Addr} {m : Str → Option Value} {news : List (Addr × Obj)} {s : Shared}
    {Q E : Value → Shared → Prop} {p : Program} {loose : List Str} {mean : ExcName → Option Value} {mg mb : Str → Option Value}
    (B : Below A₀ base outer h₀) (F : Fr h₀ L s.heap m) (X : (Mine.frag w.params).In h₀) (N : News h₀ L s.heap news) (T : Top p loose mean mg mb h₀) (hk : cs.kind = .function)
    (hdp : dp + 6 < recursionLimit) (hun : un + 60 < cLine)
    {x y : Str} {t : Tok} (G : GoodText x y)
    (ret : ∀ h' tk' t', Fr h₀ L h' m → News h₀ L h' news → Q (.str y t') { s with heap := h', toks := tk' }) :
    wpAny (model PySem.Challenge.rw_ik0222_01.row.prog w) (ktrTop dp un gd cn cs L a ccd cl outer) (call (.ref 392) [.str x t]) Q E s :=
  normpath_spec B F X N T hk hdp hun G.short G.some G.one G.two G.parts (fun h' tk' t' F' N' => by rw [G.back]; exact ret h' tk' t' F' N')
local macro_rules | `(tactic| k_all) => `(tactic| with_reducible assumption)
theorem file_spec
 {w : World} {dp un : Nat} {gd : Option (List Code)} {cn : Str} {cs : Scope} {a : Addr} {ccd : Value} {cl : List (Str × Addr)} {outer : List Env} {A₀ : Around} {base h₀ : Heap} {L : Addr} {m : Str → Option Value} {news : List (Addr × Obj)} {s : Shared}
    {Q E : Value → Shared → Prop} {p : Program} {loose : List Str} {mean : ExcName → Option Value} {mg mb : Str → Option Value}
    (B : Below A₀ base outer h₀) (F : Fr h₀ L s.heap m) (X : (Mine.frag w.params).In h₀) (N : News h₀ L s.heap news) (T : Top p loose mean mg mb h₀) (hk : cs.kind = .function)
    (hdp : dp + 8 < recursionLimit) (hun : un + 80 < cLine)
    {d : Int} {t : Tok} (h0 : 0 ≤ d) (h1 : d < 60)
    (ret : ∀ Df h' tk' new, Fr h₀ L h' m → News h₀ L h' (new ++ news) → (∀ p ∈ new, ∀ q ∈ news, p.1 ≠ q.1) → FileIn new (.ref Df) d → Q (.ref Df) { s with heap := h', toks := tk' }) :
    wpAny (model PySem.Challenge.rw_ik0222_01.row.prog w) (ktrTop dp un gd cn cs L a ccd cl outer) (call (.ref 456) [.int d t]) Q E s := by
  k_with_none
  k_with "call ref" => w_strict (k_here; (with_reducible show wpAny _ _ (call (Value.ref 392) [Value.str _ _]) _ _ _); k_dflt (refine' normpath_good ?k1w11 ?k2w11 ?k3w11 ?k4w11 ?k5w11 ?k6w11 ?k7w11 ?k8w11 ?a1w11 ?_; (case k1w11 => k_asm); (case k2w11 => k_asm); (case k3w11 => k_asm); (case k4w11 => k_asm); (case k5w11 => k_asm); (case k6w11 => first | exact rfl | assumption); (case k7w11 => ktr_room); (case k8w11 => ktr_units); (case a1w11 => with_reducible assumption); k_whole); intro _ _ _ _ _; (try dsimp only); (try k_sweep))
  k_with "call ref" => w_strict (k_here; (with_reducible show wpAny _ _ (call (Value.ref 444) [Value.int _ _]) _ _ _); k_dflt (refine' filemode_spec ?k1w12 ?k2w12 ?k3w12 ?k4w12 ?k5w12 ?k6w12 ?k7w12 ?k8w12 ?a1w12 ?a2w12 ?_; (case k1w12 => k_asm); (case k2w12 => k_asm); (case k3w12 => k_asm); (case k4w12 => k_asm); (case k5w12 => k_asm); (case k6w12 => first | exact rfl | assumption); (case k7w12 => ktr_room); (case k8w12 => ktr_units); (case a1w12 => exact (num_bounds (by with_reducible assumption) (by with_reducible assumption)).1); (case a2w12 => exact (num_bounds (by with_reducible assumption) (by with_reducible assumption)).2); k_whole); intro _ _ _ _ _; (try dsimp only); (try k_sweep))
  k_with "call builtin:str.join" => w_strict (k_here; (with_reducible show wpAny _ _ (call (Value.builtin "str.join") [Value.str _ _, Value.ref _]) _ _ _); k_dflt (refine' join_led ?k1w13 ?k2w13 ?k3w13 ?k4w13 ?k5w13 ?_; (case k1w13 => k_asm); (case k2w13 => k_mem); (case k3w13 => with_reducible assumption); (case k4w13 => with_reducible assumption); (case k5w13 => decide); k_whole); intro _ _ _)
  k_with "call builtin:str.split" => w_strict (k_here; (with_reducible show wpAny _ _ (call (Value.builtin "str.split") [Value.str _ _, Value.str _ _]) _ _ _); k_dflt (refine' split_led ?k1w14 ?k2w14 ?k3w14 ?k4w14 ?_; (case k1w14 => k_asm); (case k2w14 => k_asm); (case k3w14 => first | with_reducible assumption | omega); (case k4w14 => first | rfl | decide); k_whole); intro _ _ _ _ _ _ _ _ _ _; (try k_sweep))
  revert X; k_fill; intro X
  refine wpAny_call ?_
  k_dflt cell_enter
  k_steps
  generalize hrow : ([Str.ofString "a", Str.ofString "a b", Str.ofString "a b c", Str.ofString "a c", Str.ofString "b", Str.ofString "a b c d", Str.ofString "a b d", Str.ofString "b a", Str.ofString "ab c", Str.ofString "a b a"] : List Str).getD (d.fmod 10).toNat Str.empty = row at *
  have hro : row = rowOf d := hrow.symm
  clear hrow
  have hrs : row.length ≤ 5000 := hro ▸ Nat.le_trans (row_short h0 h1) (by decide)
  walk1
  (rename (StrsAre _ _) => hS)
  (rename (_ = Txt.split row _) => hns)
  rename_i ns vs D _ _ l1 _ _
  have hnd : ns = namesOf d := by rw [hns, hro]; rfl
  have hw : weigh ns ≤ 1000 := hnd ▸ names_weigh h0 h1
  have g0 : GoodText (Str.ofString "/" ++ Txt.join (Str.ofString "/") ns) (pathOf d) := by rw [hnd]; exact good0 h0 h1
  have g1 : GoodText (Str.ofString "/x/../" ++ Txt.join (Str.ofString "//") ns) (pathOf d) := by rw [hnd]; exact good1 h0 h1
  have g2 : GoodText (Str.ofString "/./" ++ Txt.join (Str.ofString "/./") ns ++ Str.ofString "/") (pathOf d) := by rw [hnd]; exact good2 h0 h1
  clear hns hro hrs
  k_steps
  all_goals
    have l9 := allLt_mem (by assumption : _ ∧ _ ∧ _ ∧ AllLt _ news).2.2.2
    obtain ⟨new, Nn, fr, hF⟩ := file_end (by assumption : News h₀ L _ _) l9 l1 (hnd ▸ hS)
    exact ret _ _ _ new (by assumption) Nn fr hF
end
end Mine
end
section
open PySem.Calls PySem.Spec
namespace Mine
/-- two lists, place by place -/
inductive All2 {α β : Type} (R : α → β → Prop) : List α → List β → Prop
  | nil : All2 R [] []
  | cons {a : α} {b : β} {as : List α} {bs : List β} : R a b → All2 R as bs → All2 R (a :: as) (b :: bs)
namespace All2
variable {α β γ : Type} {R S : α → β → Prop}
theorem len : ∀ {as : List α} {bs : List β}, All2 R as bs → as.length = bs.length
  | _, _, .nil => rfl
  | _, _, .cons _ r => by simp [len r]
theorem snoc {a : α} {b : β} (h : R a b) : ∀ {as : List α} {bs : List β}, All2 R as bs → All2 R (as ++ [a]) (bs ++ [b])
  | _, _, .nil => .cons h .nil
  | _, _, .cons x r => .cons x (snoc h r)
theorem mono (h : ∀ a b, R a b → S a b) : ∀ {as : List α} {bs : List β}, All2 R as bs → All2 S as bs
  | _, _, .nil => .nil
  | _, _, .cons x r => .cons (h _ _ x) (mono h r)
theorem at' : ∀ {as : List α} {bs : List β}, All2 R as bs → ∀ {i : Nat} {a : α}, as[i]? = some a → ∃ b, bs[i]? = some b ∧ R a b
  | _, _, .nil, i, a, h => by simp at h
  | _, _, .cons x r, 0, a, h => by cases h; exact ⟨_, rfl, x⟩
  | _, _, .cons x r, i + 1, a, h => by
    obtain ⟨b, hb, hr⟩ := at' r (i := i) (a := a) (by simpa using h)
    exact ⟨b, by simpa using hb, hr⟩
end All2
open LCg LCt
section
variable {prog : Program} {w : World} {A : Around} {h₀ : Heap} {L : Addr} {m : Str → Option Value} {env : Env} {ct elt : Expr} {x : Str} {scope : Scope} {cl : List (Str × Addr)} {s : Shared} {S : List (Addr × Obj) → Prop} {P : Nat → Value → Prop} {Fin : List Value → List (Addr × Obj) → Prop} {news : List (Addr × Obj)} {α β : Type}
/-- what an element's reckoning leaves where it makes nothing that stays -/
def Pure1 (h₀ : Heap) (L : Addr) (m : Str → Option Value) (s : Shared) (led : List (Addr × Obj)) (R : Value → Prop) (y : Value) (s₂ : Shared) : Prop :=
  ∃ h' tk', s₂ = { s with heap := h', toks := tk' } ∧ Fr h₀ L h' m ∧ News h₀ L h' led ∧ R y
/-- a list comprehension without a test over values that stand for data -/
theorem rest_map {vs : List Value} {as : List α} {Rel : Value → α → Prop} {Rel' : Value → β → Prop} (f : α → β) (hR : All2 Rel vs as) (hP : ∀ i v, P i v → vs[i]? = some v) (hS : S news)
    (turn : ∀ v a I oI C oC D m₂ ys h tk (E' : Value → Shared → Prop), a ∈ as → Rel v a → NsObj oC m₂ → m₂ x = some v → Fr h₀ L h m → News h₀ L h ((I, oI) :: (C, oC) :: (D, lst ys) :: news) → Off3 I C D news → ((@Ne Nat I C) ∧ (@Ne Nat I D) ∧ (@Ne Nat C D)) →
      wpAny (model prog w) A (eval elt (compEnvC scope cl C env)) (Pure1 h₀ L m { s with heap := h, toks := tk } ((I, oI) :: (C, oC) :: (D, lst ys) :: news) (fun y => Rel' y (f a))) E' { s with heap := h, toks := tk })
    (fin : ∀ ys, All2 Rel' ys (as.map f) → Fin ys news) : CompRest prog w A h₀ L m env elt x scope cl s S P Fin vs.length 0 [] news := by
  have key : ∀ (j i : Nat) (ys : List Value), i + j = vs.length → All2 Rel' ys ((as.take i).map f) → CompRest prog w A h₀ L m env elt x scope cl s S P Fin j i ys news := by
    intro j
    induction j with
    | zero =>
      intro i ys hi hy
      have e : i = as.length := by rw [← hR.len]; omega
      subst e
      rw [List.take_length] at hy
      exact CompRest.zero (fin ys hy)
    | succ j ih =>
      intro i ys hi hy
      refine CompRest.succ ?_
      intro v I oI C oC D m₂ h tk E' hv hC hx F N off ne
      obtain ⟨a, ha, hr⟩ := hR.at' (hP i v hv)
      refine wpAny_mono (turn v a I oI C oC D m₂ ys h tk E' (List.mem_of_getElem? ha) hr hC hx F N off ne) (fun y s₂ hq => ?_) fun _ _ e => e
      obtain ⟨h', tk', e, F', N', hy'⟩ := hq
      refine ⟨h', tk', news, e, F', N', off, hS, ih (i + 1) _ (by omega) ?_⟩
      rw [List.take_add_one, ha, List.map_append]
      exact hy.snoc hy'
  exact key vs.length 0 [] (by omega) (by rw [List.take_zero]; exact .nil)
/-- a list comprehension with one test over values that stand for data -/
theorem restT_filter {vs : List Value} {as : List α} {Rel : Value → α → Prop} {Rel' : Value → β → Prop} (q : α → Bool) (f : α → β) (hR : All2 Rel vs as) (hP : ∀ i v, P i v → vs[i]? = some v) (hS : S news)
    (turn : ∀ v a I oI C oC D m₂ ys h tk (E' : Value → Shared → Prop), a ∈ as → Rel v a → NsObj oC m₂ → m₂ x = some v → Fr h₀ L h m → News h₀ L h ((I, oI) :: (C, oC) :: (D, lst ys) :: news) → Off3 I C D news → ((@Ne Nat I C) ∧ (@Ne Nat I D) ∧ (@Ne Nat C D)) →
      wpAny (model prog w) A (isTrue ct (compEnvC scope cl C env) (eval ct (compEnvC scope cl C env))) (fun ok s' => (∃ h' tk', s' = { s with heap := h', toks := tk' } ∧ Fr h₀ L h' m ∧ News h₀ L h' ((I, oI) :: (C, oC) :: (D, lst ys) :: news)) ∧ ok = q a ∧
        (q a = true → wpAny (model prog w) A (eval elt (compEnvC scope cl C env)) (Pure1 h₀ L m { s with heap := h, toks := tk } ((I, oI) :: (C, oC) :: (D, lst ys) :: news) (fun y => Rel' y (f a))) E' s')) E' { s with heap := h, toks := tk })
    (fin : ∀ ys, All2 Rel' ys ((as.filter q).map f) → Fin ys news) : CompRestT prog w A h₀ L m env ct elt x scope cl s S P Fin vs.length 0 [] news := by
  have key : ∀ (j i : Nat) (ys : List Value), i + j = vs.length → All2 Rel' ys (((as.take i).filter q).map f) → CompRestT prog w A h₀ L m env ct elt x scope cl s S P Fin j i ys news := by
    intro j
    induction j with
    | zero =>
      intro i ys hi hy
      have e : i = as.length := by rw [← hR.len]; omega
      subst e
      rw [List.take_length] at hy
      exact CompRestT.zero (fin ys hy)
    | succ j ih =>
      intro i ys hi hy
      refine CompRestT.succ ?_
      intro v I oI C oC D m₂ h tk E' hv hC hx F N off ne
      obtain ⟨a, ha, hr⟩ := hR.at' (hP i v hv)
      refine wpAny_mono (turn v a I oI C oC D m₂ ys h tk E' (List.mem_of_getElem? ha) hr hC hx F N off ne) (fun ok s₂ hq => ?_) fun _ _ e => e
      obtain ⟨⟨h', tk', e, F', N'⟩, hok, hel⟩ := hq
      cases hqa : q a with
      | true =>
        rw [hok, hqa, if_pos rfl]
        refine wpAny_mono (hel hqa) (fun y s₃ hz => ?_) fun _ _ e => e
        obtain ⟨h₃, tk₃, e₃, F₃, N₃, hy'⟩ := hz
        refine ⟨h₃, tk₃, news, e₃, F₃, N₃, off, hS, ih (i + 1) _ (by omega) ?_⟩
        rw [List.take_add_one, ha, List.filter_append, List.map_append]
        have e1 : List.map f (List.filter q (some a).toList) = [f a] := by simp [hqa]
        rw [e1]
        exact hy.snoc hy'
      | false =>
        rw [hok, hqa, if_neg (by decide)]
        refine ⟨h', tk', news, e, F', N', off, hS, ih (i + 1) _ (by omega) ?_⟩
        rw [List.take_add_one, ha, List.filter_append, List.map_append]
        have e1 : List.map f (List.filter q (some a).toList) = [] := by simp [hqa]
        rw [e1, List.append_nil]
        exact hy
  exact key vs.length 0 [] (by omega) (by rw [List.take_zero]; exact .nil)
/-- a list comprehension whose elements make objects that stay -/
theorem rest_grow {vs : List Value} {as : List α} {Rel : List (Addr × Obj) → Value → α → Prop} {Rel' : List (Addr × Obj) → Value → β → Prop} (f : α → β) (hR : All2 (Rel news) vs as) (hP : ∀ i v, P i v → vs[i]? = some v)
    (mono : ∀ l l' v a, (∀ p ∈ l, p ∈ l') → Rel l v a → Rel l' v a) (mono' : ∀ l l' v b, (∀ p ∈ l, p ∈ l') → Rel' l v b → Rel' l' v b) (hS : ∀ l, (∀ p ∈ news, p ∈ l) → S l)
    (turn : ∀ led v a I oI C oC D m₂ ys h tk (E' : Value → Shared → Prop), (∀ p ∈ news, p ∈ led) → a ∈ as → Rel led v a → NsObj oC m₂ → m₂ x = some v → Fr h₀ L h m → News h₀ L h ((I, oI) :: (C, oC) :: (D, lst ys) :: led) → Off3 I C D led → ((@Ne Nat I C) ∧ (@Ne Nat I D) ∧ (@Ne Nat C D)) →
      wpAny (model prog w) A (eval elt (compEnvC scope cl C env)) (fun y s₂ => ∃ h' tk' nw, s₂ = { s with heap := h', toks := tk' } ∧ Fr h₀ L h' m ∧ News h₀ L h' (nw ++ (I, oI) :: (C, oC) :: (D, lst ys) :: led) ∧ (∀ p ∈ nw, ∀ q ∈ (I, oI) :: (C, oC) :: (D, lst ys) :: led, p.1 ≠ q.1) ∧ Rel' nw y (f a)) E' { s with heap := h, toks := tk })
    (fin : ∀ ys led, (∀ p ∈ news, p ∈ led) → All2 (Rel' led) ys (as.map f) → Fin ys led) : CompRest prog w A h₀ L m env elt x scope cl s S P Fin vs.length 0 [] news := by
  have key : ∀ (j i : Nat) (ys : List Value) (led : List (Addr × Obj)), i + j = vs.length → (∀ p ∈ news, p ∈ led) → All2 (Rel' led) ys ((as.take i).map f) → CompRest prog w A h₀ L m env elt x scope cl s S P Fin j i ys led := by
    intro j
    induction j with
    | zero =>
      intro i ys led hi hl hy
      have e : i = as.length := by rw [← hR.len]; omega
      subst e
      rw [List.take_length] at hy
      exact CompRest.zero (fin ys led hl hy)
    | succ j ih =>
      intro i ys led hi hl hy
      refine CompRest.succ ?_
      intro v I oI C oC D m₂ h tk E' hv hC hx F N off ne
      obtain ⟨a, ha, hr⟩ := hR.at' (hP i v hv)
      refine wpAny_mono (turn led v a I oI C oC D m₂ ys h tk E' hl (List.mem_of_getElem? ha) (mono _ _ _ _ hl hr) hC hx F N off ne) (fun y s₂ hq => ?_) fun _ _ e => e
      obtain ⟨h', tk', nw, e, F', N', fr, hy'⟩ := hq
      have hl' : ∀ p ∈ news, p ∈ nw ++ led := fun p hp => List.mem_append_right _ (hl p hp)
      refine ⟨h', tk', nw ++ led, e, F', fun p hp => N' p ?_, Off3.of fun p hp => ?_, hS _ hl', ih (i + 1) _ _ (by omega) hl' ?_⟩
      · rcases List.mem_cons.mp hp with rfl | hp
        · exact List.mem_append_right _ List.mem_cons_self
        · rcases List.mem_cons.mp hp with rfl | hp
          · exact List.mem_append_right _ (List.mem_cons_of_mem _ List.mem_cons_self)
          · rcases List.mem_cons.mp hp with rfl | hp
            · exact List.mem_append_right _ (List.mem_cons_of_mem _ (List.mem_cons_of_mem _ List.mem_cons_self))
            · rcases List.mem_append.mp hp with hp | hp
              · exact List.mem_append_left _ hp
              · exact List.mem_append_right _ (List.mem_cons_of_mem _ (List.mem_cons_of_mem _ (List.mem_cons_of_mem _ hp)))
      · rcases List.mem_append.mp hp with hp | hp
        · exact ⟨fr p hp _ List.mem_cons_self, fr p hp _ (List.mem_cons_of_mem _ List.mem_cons_self), fr p hp _ (List.mem_cons_of_mem _ (List.mem_cons_of_mem _ List.mem_cons_self))⟩
        · exact Off3.mem off p hp
      · rw [List.take_add_one, ha, List.map_append]
        exact (hy.mono fun v b r => mono' _ _ _ _ (fun p hp => List.mem_append_right _ hp) r).snoc (mono' _ _ _ _ (fun p hp => List.mem_append_left _ hp) hy')
  exact key vs.length 0 [] news (by omega) (fun _ h => h) (by rw [List.take_zero]; exact .nil)
end
end Mine
end
section
open PySem.Calls PySem.Spec
namespace Mine
open LCg LCt
/-- what an element's reckoning leaves where it makes objects that stay -/
def Grow1 (h₀ : Heap) (L : Addr) (m : Str → Option Value) (s : Shared) (led : List (Addr × Obj)) (R : List (Addr × Obj) → Value → Prop) (y : Value) (s₂ : Shared) : Prop :=
  ∃ h' tk' nw, s₂ = { s with heap := h', toks := tk' } ∧ Fr h₀ L h' m ∧ News h₀ L h' (nw ++ led) ∧ (∀ p ∈ nw, ∀ q ∈ led, p.1 ≠ q.1) ∧ R nw y
theorem Grow1.one {h₀ h' : Heap} {L D : Addr} {m : Str → Option Value} {s : Shared} {tk' : Nat} {led : List (Addr × Obj)} {R : List (Addr × Obj) → Value → Prop} {y : Value} {o : Obj}
    (F : Fr h₀ L h' m) (N : News h₀ L h' ((D, o) :: led)) (l : ∀ p ∈ led, p.1 < D) (r : R [(D, o)] y) : Grow1 h₀ L m s led R y { s with heap := h', toks := tk' } :=
  ⟨h', tk', [(D, o)], rfl, F, N, fun p hp q hq => by rw [List.mem_singleton.mp hp]; exact Nat.ne_of_gt (l q hq), r⟩
theorem Grow1.many {h₀ h' : Heap} {L : Addr} {m : Str → Option Value} {s : Shared} {tk' : Nat} {led nw : List (Addr × Obj)} {R : List (Addr × Obj) → Value → Prop} {y : Value}
    (F : Fr h₀ L h' m) (N : News h₀ L h' (nw ++ led)) (fr : ∀ p ∈ nw, ∀ q ∈ led, p.1 ≠ q.1) (r : R nw y) : Grow1 h₀ L m s led R y { s with heap := h', toks := tk' } := ⟨h', tk', nw, rfl, F, N, fr, r⟩
section
variable {prog : Program} {w : World} {A : Around} {h₀ : Heap} {L : Addr} {m : Str → Option Value} {env : Env} {elt : Expr} {x : Str} {scope : Scope} {cl : List (Str × Addr)} {s : Shared} {S : List (Addr × Obj) → Prop} {P : Nat → Value → Prop} {Fin : List Value → List (Addr × Obj) → Prop} {news : List (Addr × Obj)} {α β : Type}
theorem rest_grow1 {vs : List Value} {as : List α} {Rel : List (Addr × Obj) → Value → α → Prop} {Rel' : List (Addr × Obj) → Value → β → Prop} (f : α → β) (hR : All2 (Rel news) vs as) (hP : ∀ i v, P i v → vs[i]? = some v)
    (mono : ∀ l l' v a, (∀ p ∈ l, p ∈ l') → Rel l v a → Rel l' v a) (mono' : ∀ l l' v b, (∀ p ∈ l, p ∈ l') → Rel' l v b → Rel' l' v b) (hS : ∀ l, (∀ p ∈ news, p ∈ l) → S l)
    (turn : ∀ led v a I oI C oC D m₂ ys h tk (E' : Value → Shared → Prop), (∀ p ∈ news, p ∈ led) → a ∈ as → Rel led v a → NsObj oC m₂ → m₂ x = some v → Fr h₀ L h m → News h₀ L h ((I, oI) :: (C, oC) :: (D, lst ys) :: led) → Off3 I C D led → ((@Ne Nat I C) ∧ (@Ne Nat I D) ∧ (@Ne Nat C D)) →
      wpAny (model prog w) A (eval elt (compEnvC scope cl C env)) (Grow1 h₀ L m { s with heap := h, toks := tk } ((I, oI) :: (C, oC) :: (D, lst ys) :: led) (fun nw y => Rel' nw y (f a))) E' { s with heap := h, toks := tk })
    (fin : ∀ ys led, (∀ p ∈ news, p ∈ led) → All2 (Rel' led) ys (as.map f) → Fin ys led) : CompRest prog w A h₀ L m env elt x scope cl s S P Fin vs.length 0 [] news :=
  rest_grow f hR hP mono mono' hS (fun led v a I oI C oC D m₂ ys h tk E' hl ha hr hC hx F N off ne => turn led v a I oI C oC D m₂ ys h tk E' hl ha hr hC hx F N off ne) fin
end
end Mine
namespace Mine
open LCg LCt
theorem off1_mem {D : Addr} : ∀ {l : List (Addr × Obj)}, Off1 D l → ∀ p ∈ l, p.1 ≠ D
  | [], _, _, h => nomatch h
  | _ :: _, x, p, h => by
    rcases List.mem_cons.mp h with rfl | h
    · exact x.1
    · exact off1_mem x.2 p h
theorem Grow1.off {h₀ h' : Heap} {L D : Addr} {m : Str → Option Value} {s : Shared} {tk' : Nat} {led : List (Addr × Obj)} {R : List (Addr × Obj) → Value → Prop} {y : Value} {o : Obj}
    (F : Fr h₀ L h' m) (N : News h₀ L h' ((D, o) :: led)) (l : Off1 D led) (r : R [(D, o)] y) : Grow1 h₀ L m s led R y { s with heap := h', toks := tk' } :=
  ⟨h', tk', [(D, o)], rfl, F, N, fun p hp q hq => by rw [List.mem_singleton.mp hp]; exact Ne.symm (off1_mem l q hq), r⟩
end Mine
namespace Mine
/-- a place where the walk stands still -/
structure Halt (P : Prop) : Prop where
  on ::
  go : P
end Mine
end
section
open PySem.Calls PySem.Spec
namespace Mine
open SeqAt
section
variable {prog : Program} {w : World} {A : Around} {E : Value → Shared → Prop} {s : Shared} {Q : Value → Shared → Prop}
theorem sa_get {vs : List Value} {xs : List Str} (h : StrsAre vs xs) {j : Nat} (hj : j < vs.length) : ∃ t, vs[j] = .str (xs[j]'(by rw [← sa_len h]; exact hj)) t := by
  obtain ⟨y, t, e1, e2⟩ := sa_at h (List.getElem?_eq_getElem hj)
  refine ⟨t, ?_⟩
  rw [e2]
  obtain ⟨hj', e⟩ := List.getElem?_eq_some_iff.mp e1
  rw [e]
def eqAtS (xs ys : List Str) (j : Nat) : Bool := xs[j]? == ys[j]?
theorem all_eqAtS {xs ys : List Str} (h : xs.length = ys.length) : (List.range xs.length).all (eqAtS xs ys) = decide (xs = ys) := by
  by_cases e : xs = ys
  · subst e
    rw [decide_eq_true rfl, List.all_eq_true]
    intro j _
    exact beq_self_eq_true _
  · rw [decide_eq_false e]
    cases q : (List.range xs.length).all (eqAtS xs ys) with
    | false => rfl
    | true =>
      refine absurd (List.ext_getElem? fun j => ?_) e
      by_cases hj : j < xs.length
      · exact beq_iff_eq.mp (List.all_eq_true.mp q j (List.mem_range.mpr hj))
      · rw [List.getElem?_eq_none_iff.mpr (by omega), List.getElem?_eq_none_iff.mpr (by omega)]
theorem eqAt_strs {B : Around} {vs ws : List Value} {xs ys : List Str} (hx : StrsAre vs xs) (hy : StrsAre ws ys) : ∀ j (h1 : j < vs.toArray.size) (h2 : j < ws.toArray.size), EqAt B s vs.toArray[j] ws.toArray[j] (eqAtS xs ys j) := by
  intro j h1 h2
  rw [List.size_toArray] at h1 h2
  obtain ⟨t, e1⟩ := sa_get hx h1
  obtain ⟨u, e2⟩ := sa_get hy h2
  rw [List.getElem_toArray, List.getElem_toArray, e1, e2]
  have hjx : j < xs.length := by rw [← sa_len hx]; exact h1
  have hjy : j < ys.length := by rw [← sa_len hy]; exact h2
  have : eqAtS xs ys j = (xs[j] == ys[j]) := by
    unfold eqAtS
    rw [List.getElem?_eq_getElem hjx, List.getElem?_eq_getElem hjy]
    rfl
  rw [this]
  exact EqAt.str_str _ _ _ _
theorem eq_strs {l b : Addr} {vs ws : List Value} {xs ys : List Str} (hl : s.heap.IsList l vs.toArray) (hb : s.heap.IsList b ws.toArray) (hx : StrsAre vs xs) (hy : StrsAre ws ys) (hu : A.units < cLine)
    (h : Q (.bool (decide (xs = ys))) s) : wpAny (model prog w) A (compareOp .Eq (.ref l) (.ref b)) Q E s := by
  by_cases e : vs.length = ws.length
  · refine eq_listAt hl hb (by simpa using e) hu (eqAt_strs hx hy) ?_
    rw [List.size_toArray, sa_len hx, all_eqAtS (by rw [← sa_len hx, ← sa_len hy]; exact e)]
    exact h
  · refine eq_list_lengthsAt hl hb (by simpa using e) hu ?_
    rw [decide_eq_false (fun q => e (by rw [sa_len hx, sa_len hy, q]))] at h
    exact h
theorem ne_strs {l b : Addr} {vs ws : List Value} {xs ys : List Str} (hl : s.heap.IsList l vs.toArray) (hb : s.heap.IsList b ws.toArray) (hx : StrsAre vs xs) (hy : StrsAre ws ys) (hu : A.units < cLine)
    (h : Q (.bool (decide (xs ≠ ys))) s) : wpAny (model prog w) A (compareOp .NotEq (.ref l) (.ref b)) Q E s := by
  by_cases e : vs.length = ws.length
  · refine RcNeAt.lists hl hb (by simpa using e) hu (eqAt_strs hx hy) prog w E Q ?_
    rw [List.size_toArray, sa_len hx, all_eqAtS (by rw [← sa_len hx, ← sa_len hy]; exact e)]
    have : (!decide (xs = ys)) = decide (xs ≠ ys) := by simp
    rw [this]; exact h
  · refine RcNeAt.lists_lengths hl hb (by simpa using e) hu prog w E Q ?_
    have e1 : decide (xs ≠ ys) = true := by
      simp only [ne_eq, decide_not, Bool.not_eq_true', decide_eq_false_iff_not]
      exact fun q => e (by rw [sa_len hx, sa_len hy, q])
    rw [e1] at h
    exact h
theorem eq_nil {l b : Addr} {vs : List Value} (hl : s.heap.IsList l vs.toArray) (hb : s.heap.IsList b #[]) (hu : A.units < cLine)
    (h : Q (.bool vs.isEmpty) s) : wpAny (model prog w) A (compareOp .Eq (.ref l) (.ref b)) Q E s := by
  cases vs with
  | nil => exact eq_listAt (e := fun _ => true) hl hb rfl hu (fun j h1 _ => absurd h1 (Nat.not_lt_zero _)) h
  | cons v r => exact eq_list_lengthsAt hl hb (by simp) hu h
end
end Mine
namespace Mine
section
variable {prog : Program} {w : World} {A : Around} {E : Value → Shared → Prop} {s : Shared} {env : Env} {h₀ : Heap} {L : Addr} {m : Str → Option Value}
/-- the end of a turn that changes one object of the ledger -/
def WEnd (h₀ : Heap) (L : Addr) (m : Str → Option Value) (rest : List (Addr × Obj)) (D : Addr) (J : Nat → Obj → Prop) (n : Nat) (s : Shared) (Q : Flow → Shared → Prop) (f : Flow) (s₂ : Shared) : Prop :=
  match f with
  | .ret v => Q (.ret v) s₂
  | .brk => Q .next s₂
  | _ => ∃ h' tk' o' n', n' < n ∧ s₂ = { s with heap := h', toks := tk' } ∧ Fr h₀ L h' m ∧ News h₀ L h' ((D, o') :: rest) ∧ J n' o'
theorem while_one {test : Expr} {body orelse : List Stmt} {pos : Pos} {D : Addr} {o₀ : Obj} {rest : List (Addr × Obj)} {Q : Flow → Shared → Prop} (J : Nat → Obj → Prop) (n₀ : Nat) (F : Fr h₀ L s.heap m) (N : News h₀ L s.heap ((D, o₀) :: rest)) (j0 : J n₀ o₀)
    (turn : ∀ n o h tk (E' : Value → Shared → Prop), J n o → Fr h₀ L h m → News h₀ L h ((D, o) :: rest) →
      wpAny (model prog w) A (isTrue test env (eval test env)) (fun b s₂ => if b = true then wpAny (model prog w) A (execs body env) (WEnd h₀ L m rest D J n { s with heap := h, toks := tk } Q) E' s₂
        else wpAny (model prog w) A (execs orelse env) Q E' s₂) E' { s with heap := h, toks := tk }) :
    wpAny (model prog w) A (exec (.While test body orelse pos) env) Q E s := by
  refine wpAny_While (codeAny_whileLoop (fun n s' => ∃ h tk o, s' = { s with heap := h, toks := tk } ∧ Fr h₀ L h m ∧ News h₀ L h ((D, o) :: rest) ∧ J n o) ?_ n₀ ⟨s.heap, s.toks, o₀, rfl, F, N, j0⟩)
  rintro n s' ⟨h, tk, o, rfl, F', N', hJ⟩
  refine wpAny_mono (turn n o h tk _ hJ F' N') (fun b s₂ hb => ?_) fun _ _ e => e
  cases b with
  | true =>
    rw [if_pos rfl] at hb ⊢
    refine wpAny_mono hb (fun f s₃ hf => ?_) fun _ _ e => e
    have fin : (∃ h' tk' o' n', n' < n ∧ s₃ = { s with heap := h', toks := tk' } ∧ Fr h₀ L h' m ∧ News h₀ L h' ((D, o') :: rest) ∧ J n' o') → ∃ k, k < n ∧ ∃ h tk o, s₃ = { s with heap := h, toks := tk } ∧ Fr h₀ L h m ∧ News h₀ L h ((D, o) :: rest) ∧ J k o := by
      rintro ⟨h', tk', o', n', hn, e, F₃, N₃, j⟩
      exact ⟨n', hn, h', tk', o', e, F₃, N₃, j⟩
    cases f with
    | ret v => exact hf
    | brk => exact hf
    | next => exact fin hf
    | cont => exact fin hf
  | false =>
    rw [if_neg (by decide)] at hb ⊢
    exact hb
end
end Mine
namespace Mine
section
variable {prog : Program} {w : World} {A : Around} {E : Value → Shared → Prop} {s : Shared} {h₀ : Heap} {L : Addr} {led : List (Addr × Obj)}
theorem item_led {value slice : Expr} {a : Addr} {vs : List Value} {n : Nat} {k : Int} {u : Tok} {v : Value} {Q : Value → Shared → Prop} (N : News h₀ L s.heap led) (hm : (a, ({ cls := .type "list", data := .seq vs.toArray n } : Obj)) ∈ led)
    (h0 : 0 ≤ k) (hhi : k < 2 ^ 63) (hx : vs[k.toNat]? = some v) (h : Q v s)
    (hs : subscripted slice false (.ref a) (.int k u) = operate [.ref a, .int k u] (getItem (.ref a) (.int k u))) :
    wpAny (model prog w) A (subscriptTail value slice (.ref a) (.int k u)) Q E s :=
  have hl : s.heap.IsList a vs.toArray := ⟨_, (N _ hm).1, rfl, n, rfl⟩
  tail_tmp hl.typeIs slot_list_getitem.lookup (wpAny_getItem_list hl h0 hhi (by simpa using hx) h) hs
end
end Mine
namespace Mine
section
variable {prog : Program} {w : World} {A : Around} {E : Value → Shared → Prop} {s : Shared} {h₀ : Heap} {L : Addr} {led : List (Addr × Obj)}
theorem len_strs {a : Addr} {vs : List Value} {xs : List Str} {n : Nat} {Q : Value → Shared → Prop} (N : News h₀ L s.heap led) (hm : (a, ({ cls := .type "list", data := .seq vs.toArray n } : Obj)) ∈ led) (hs : StrsAre vs xs) (hx : xs.length ≤ 1000)
    (h : ∀ t k, Q (.int (xs.length : Nat) t) { s with toks := k }) : wpAny (model prog w) A (call (.builtin "len") [.ref a]) Q E s := by
  have hz : vs.toArray.size = xs.length := by rw [List.size_toArray, sa_len hs]
  refine Calls.call_len_list (items := vs.toArray) ⟨_, (N _ hm).1, rfl, n, rfl⟩ (by rw [hz]; omega) ?_
  rw [hz]
  exact h _ _
end
end Mine
namespace Mine
theorem sa_take : ∀ {vs : List Value} {xs : List Str}, StrsAre vs xs → ∀ n : Nat, StrsAre (vs.take n) (xs.take n)
  | _, _, _, 0 => by rw [List.take_zero, List.take_zero]; exact .nil
  | _, _, .nil, n + 1 => by rw [List.take_nil, List.take_nil]; exact .nil
  | _, _, .cons y t r, n + 1 => by rw [List.take_succ_cons, List.take_succ_cons]; exact .cons y t (sa_take r n)
theorem pick_upto (vs : List Value) {y : Int} (h : 0 ≤ y) : (slicePick vs.toArray none (some y) none).toList = vs.take y.toNat := by
  have e : sliceBounds none (some y) none vs.toArray.size = (((0 : Nat) : Int), ((min y.toNat vs.toArray.size : Nat) : Int), 1) := by
    simp only [sliceBounds, Option.getD_none, show (1 : Int) > 0 by decide, if_true, if_neg (show ¬ (y < 0) by omega)]
    congr 1
    congr 1
    omega
  rw [kmk_pick_nat _ e]
  show (vs.drop 0).take (min y.toNat vs.toArray.size - 0) = _
  rw [List.drop_zero, Nat.sub_zero, List.size_toArray, kmk_take_min]
section
variable {prog : Program} {w : World} {A : Around} {E : Value → Shared → Prop} {s : Shared} {h₀ : Heap} {L : Addr} {m : Str → Option Value} {news : List (Addr × Obj)}
theorem slice_strs {value slice : Expr} {l : Addr} {vs : List Value} {xs : List Str} {nc : Nat} {vl vu : Value} {x : Int} {k : Nat} {Q : Value → Shared → Prop}
    (F : Fr h₀ L s.heap m) (N : News h₀ L s.heap news) (hm : (l, ({ cls := .type "list", data := .seq vs.toArray nc } : Obj)) ∈ news) (hs' : StrsAre vs xs) (hsz : xs.length ≤ 1000) (pl : IsPart vl none) (pu : IsPart vu (some x)) (hx : x = (k : Nat))
    (h : ∀ D ws h', (∀ p ∈ news, p.1 < D) → StrsAre ws (xs.take k) → (xs.take k).length ≤ 1000 → Fr h₀ L h' m → News h₀ L h' ((D, { cls := .type "list", data := .seq ws.toArray }) :: news) → Q (.ref D) { s with heap := h' })
    (hs : subscripted slice false (.ref l) (.ref s.heap.objs.size) = operate [.ref s.heap.objs.size, .ref l] (getItem (.ref l) (.ref s.heap.objs.size))) :
    wpAny (model prog w) A (subscriptTail value slice (.ref l) (.ref s.heap.objs.size)) Q E { s with heap := s.heap.push { cls := .type "slice", data := .fields #[vl, vu, .none] } } := by
  subst hx
  refine slice_tmp F N ⟨_, (N _ hm).1, rfl, nc, rfl⟩ pl pu (by rw [List.size_toArray, sa_len hs', PySem.sizeLine_eq]; omega) (fun D h' l1 F' N' => h D (vs.take k) h' l1 (sa_take hs' k) (by rw [List.length_take]; omega) F' ?_) hs
  have e := pick_upto vs (y := (k : Int)) (Int.natCast_nonneg k)
  rw [Int.toNat_natCast] at e
  rw [← e, Array.toArray_toList]
  exact N'
end
end Mine
end
section
open PySem.Calls PySem.Spec
namespace Mine
open PySem.SeqAt
open AutoSeq1 (wpAny_loadPart')
open MeetsSeq MeetsSeq2 MeetsSeq3 SeqRoads2
/-- the order of lists of texts: `up` for `<`, else `>` -/
def ordS (up : Bool) (x y : Str) : Bool := if up then decide (x.cps.toList < y.cps.toList) else decide (y.cps.toList < x.cps.toList)
def ordL (up : Bool) : List Str → List Str → Bool
  | x :: xs, y :: ys => if x = y then ordL up xs ys else ordS up x y
  | [], _ :: _ => up
  | _ :: _, [] => !up
  | [], [] => false
theorem rc_str_lt {prog : Program} {w : World} {A : Around} {E : Value → Shared → Prop} {s : Shared} {x y : Str} {t u : Tok} {Q : Value → Shared → Prop} (h : Q (.bool (ordS true x y)) s) : wpAny (model prog w) A (richCompare .Lt (.str x t) (.str y u)) Q E s :=
  richCompare_gives (op := .Lt) (typeIs_str s x t) (typeIs_str s y u) PySem.F.slot_str_lt PySem.F.entry_str_lt (PySem.F.args_str_lt_2 _ _) (gives_str_lt _ _ t u) (fun x => nomatch x) h
theorem rc_str_gt {prog : Program} {w : World} {A : Around} {E : Value → Shared → Prop} {s : Shared} {x y : Str} {t u : Tok} {Q : Value → Shared → Prop} (h : Q (.bool (ordS false x y)) s) : wpAny (model prog w) A (richCompare .Gt (.str x t) (.str y u)) Q E s :=
  richCompare_gives (op := .Gt) (typeIs_str s x t) (typeIs_str s y u) PySem.F.slot_str_gt PySem.F.entry_str_gt (PySem.F.args_str_gt_2 _ _) (gives_str_gt _ _ t u) (fun x => nomatch x) h
theorem ord_endL (up : Bool) {xs ys : List Str} {i : Nat} (h1 : i ≤ xs.length) (h2 : i ≤ ys.length) (h : i = xs.length ∨ i = ys.length) : ordL up (xs.drop i) (ys.drop i) = if up then decide (xs.length < ys.length) else decide (ys.length < xs.length) := by
  cases ex : xs.drop i with
  | nil =>
    have a : xs.length ≤ i := List.drop_eq_nil_iff.mp ex
    cases ey : ys.drop i with
    | nil =>
      have b : ys.length ≤ i := List.drop_eq_nil_iff.mp ey
      cases up <;> simp [ordL] <;> omega
    | cons y r =>
      have b : ¬ ys.length ≤ i := fun q => by rw [List.drop_eq_nil_iff.mpr q] at ey; cases ey
      cases up <;> simp [ordL] <;> omega
  | cons x r =>
    have a : ¬ xs.length ≤ i := fun q => by rw [List.drop_eq_nil_iff.mpr q] at ex; cases ex
    have e : i = ys.length := by rcases h with h | h <;> omega
    rw [List.drop_eq_nil_iff.mpr (by omega : ys.length ≤ i)]
    cases up <;> simp [ordL] <;> omega
theorem ord_step (up : Bool) {xs ys : List Str} {i : Nat} (h1 : i < xs.length) (h2 : i < ys.length) : ordL up (xs.drop i) (ys.drop i) = if xs[i] = ys[i] then ordL up (xs.drop (i + 1)) (ys.drop (i + 1)) else ordS up xs[i] ys[i] := by
  rw [List.drop_eq_getElem_cons h1, List.drop_eq_getElem_cons h2]; rfl
theorem ord_loop_lt (l b : Addr) (vs ws : List Value) (xs ys : List Str) (hx : StrsAre vs xs) (hy : StrsAre ws ys) (n n2 : Nat) (dd dd2 : Option Addr) (sl sl2 : Array (Option Value)) (k : Nat) :
    ∀ i : Nat, vs.length - i = k → Meets (Builtin.«list.__eq__.loop» ⟨[.ref l, .ref b, rawInt i, rawInt 0], []⟩)
      (fun A R s => s.heap.get? l = some { cls := .type "list", dict := dd, data := .seq vs.toArray n, slots := sl } ∧ s.heap.get? b = some { cls := .type "list", dict := dd2, data := .seq ws.toArray n2, slots := sl2 } ∧ i ≤ ws.length ∧ i ≤ vs.length ∧
        R (.ok (.ret (.bool (ordL true (xs.drop i) (ys.drop i))))) s) := by
  induction k with
  | zero =>
    intro i hk prog w A R s h
    obtain ⟨hp, g, d, tk, os⟩ := s; obtain ⟨hl, hb, hi, hi', h⟩ := h
    wp_walk using wpAny_loadPart' hl, wpAny_loadPart' hb
    have hin : i = vs.length := by omega
    have hi1 : vs.toArray[((i : Nat) : Int).toNat]? = none := by simp; omega
    rw [hi1]
    wp_walk using wpAny_loadPart' hl, wpAny_loadPart' hb
    show R (.ok (.ret (.bool (decide (vs.toArray.size < ws.toArray.size))))) _
    rw [ord_endL true (by rw [← sa_len hx]; exact hi') (by rw [← sa_len hy]; exact hi) (.inl (by rw [← sa_len hx]; exact hin))] at h
    simpa [sa_len hx, sa_len hy] using h
  | succ k ih =>
    intro i hk prog w A R s h
    obtain ⟨hp, g, d, tk, os⟩ := s; obtain ⟨hl, hb, hi, hi', h⟩ := h
    wp_walk using wpAny_loadPart' hl, wpAny_loadPart' hb
    have hlt : i < vs.length := by omega
    have hi1 : vs.toArray[((i : Nat) : Int).toNat]? = some vs[i] := by simp [hlt]
    rw [hi1]
    by_cases hlt2 : i < ws.length
    · have hi2 : ws.toArray[((i : Nat) : Int).toNat]? = some ws[i] := by simp [hlt2]
      rw [hi2]
      obtain ⟨t, e1⟩ := sa_get hx hlt
      obtain ⟨u, e2⟩ := sa_get hy hlt2
      have h1 : i < xs.length := by rw [← sa_len hx]; exact hlt
      have h2 : i < ys.length := by rw [← sa_len hy]; exact hlt2
      rw [ord_step true h1 h2] at h
      have hc : ((i : Int) + 1) = ((i + 1 : Nat) : Int) := by push_cast; rfl
      rw [e1, e2]
      refine wpAny_bind (EqAt.str_str _ _ _ _ prog w _ _ ?_)
      by_cases q : xs[i] = ys[i]
      · rw [if_pos q] at h
        rw [beq_iff_eq.mpr q]
        wp_walk
        rw [hc]
        exact ⟨plainId_quiet plain_eq_loop _, codeAny_builtin entry_eq_loop (by
          rw [Around.under_plainId plain_eq_loop _]
          exact ih (i + 1) (by omega) prog w A R _ ⟨hl, hb, by omega, by omega, h⟩)⟩
      · rw [if_neg q] at h
        rw [beq_eq_false_iff_ne.mpr q]
        wp_walk using wpAny_loadPart' hl, wpAny_loadPart' hb
        rw [hi1, hi2, e1, e2]
        exact wpAny_bind (rc_str_lt (wpAny_pure h))
    · have hi2 : ws.toArray[((i : Nat) : Int).toNat]? = none := by simp; omega
      rw [hi2]
      wp_walk using wpAny_loadPart' hl, wpAny_loadPart' hb
      show R (.ok (.ret (.bool (decide (vs.toArray.size < ws.toArray.size))))) _
      rw [ord_endL true (by rw [← sa_len hx]; exact hi') (by rw [← sa_len hy]; exact hi) (.inr (by rw [← sa_len hy]; omega))] at h
      simpa [sa_len hx, sa_len hy] using h
theorem ord_loop_gt (l b : Addr) (vs ws : List Value) (xs ys : List Str) (hx : StrsAre vs xs) (hy : StrsAre ws ys) (n n2 : Nat) (dd dd2 : Option Addr) (sl sl2 : Array (Option Value)) (k : Nat) :
    ∀ i : Nat, vs.length - i = k → Meets (Builtin.«list.__eq__.loop» ⟨[.ref l, .ref b, rawInt i, rawInt 4], []⟩)
      (fun A R s => s.heap.get? l = some { cls := .type "list", dict := dd, data := .seq vs.toArray n, slots := sl } ∧ s.heap.get? b = some { cls := .type "list", dict := dd2, data := .seq ws.toArray n2, slots := sl2 } ∧ i ≤ ws.length ∧ i ≤ vs.length ∧
        R (.ok (.ret (.bool (ordL false (xs.drop i) (ys.drop i))))) s) := by
  induction k with
  | zero =>
    intro i hk prog w A R s h
    obtain ⟨hp, g, d, tk, os⟩ := s; obtain ⟨hl, hb, hi, hi', h⟩ := h
    wp_walk using wpAny_loadPart' hl, wpAny_loadPart' hb
    have hin : i = vs.length := by omega
    have hi1 : vs.toArray[((i : Nat) : Int).toNat]? = none := by simp; omega
    rw [hi1]
    wp_walk using wpAny_loadPart' hl, wpAny_loadPart' hb
    show R (.ok (.ret (.bool (decide (vs.toArray.size > ws.toArray.size))))) _
    rw [ord_endL false (by rw [← sa_len hx]; exact hi') (by rw [← sa_len hy]; exact hi) (.inl (by rw [← sa_len hx]; exact hin))] at h
    simpa [sa_len hx, sa_len hy] using h
  | succ k ih =>
    intro i hk prog w A R s h
    obtain ⟨hp, g, d, tk, os⟩ := s; obtain ⟨hl, hb, hi, hi', h⟩ := h
    wp_walk using wpAny_loadPart' hl, wpAny_loadPart' hb
    have hlt : i < vs.length := by omega
    have hi1 : vs.toArray[((i : Nat) : Int).toNat]? = some vs[i] := by simp [hlt]
    rw [hi1]
    by_cases hlt2 : i < ws.length
    · have hi2 : ws.toArray[((i : Nat) : Int).toNat]? = some ws[i] := by simp [hlt2]
      rw [hi2]
      obtain ⟨t, e1⟩ := sa_get hx hlt
      obtain ⟨u, e2⟩ := sa_get hy hlt2
      have h1 : i < xs.length := by rw [← sa_len hx]; exact hlt
      have h2 : i < ys.length := by rw [← sa_len hy]; exact hlt2
      rw [ord_step false h1 h2] at h
      have hc : ((i : Int) + 1) = ((i + 1 : Nat) : Int) := by push_cast; rfl
      rw [e1, e2]
      refine wpAny_bind (EqAt.str_str _ _ _ _ prog w _ _ ?_)
      by_cases q : xs[i] = ys[i]
      · rw [if_pos q] at h
        rw [beq_iff_eq.mpr q]
        wp_walk
        rw [hc]
        exact ⟨plainId_quiet plain_eq_loop _, codeAny_builtin entry_eq_loop (by
          rw [Around.under_plainId plain_eq_loop _]
          exact ih (i + 1) (by omega) prog w A R _ ⟨hl, hb, by omega, by omega, h⟩)⟩
      · rw [if_neg q] at h
        rw [beq_eq_false_iff_ne.mpr q]
        wp_walk using wpAny_loadPart' hl, wpAny_loadPart' hb
        rw [hi1, hi2, e1, e2]
        exact wpAny_bind (rc_str_gt (wpAny_pure h))
    · have hi2 : ws.toArray[((i : Nat) : Int).toNat]? = none := by simp; omega
      rw [hi2]
      wp_walk using wpAny_loadPart' hl, wpAny_loadPart' hb
      show R (.ok (.ret (.bool (decide (vs.toArray.size > ws.toArray.size))))) _
      rw [ord_endL false (by rw [← sa_len hx]; exact hi') (by rw [← sa_len hy]; exact hi) (.inr (by rw [← sa_len hy]; omega))] at h
      simpa [sa_len hx, sa_len hy] using h
end Mine
end
section
open PySem.Calls PySem.Spec
namespace Mine
open PySem.SeqAt
open AutoSeq1 (wpAny_loadPart')
open MeetsSeq MeetsSeq2 MeetsSeq3 SeqRoads2
theorem list_lt_meets (l b : Addr) (vs ws : List Value) (xs ys : List Str) (hx : StrsAre vs xs) (hy : StrsAre ws ys) (n n2 : Nat) (dd dd2 : Option Addr) (sl sl2 : Array (Option Value)) :
    Meets (Builtin.«list.__lt__» ⟨[.ref l, .ref b], []⟩)
      (fun A R s => s.heap.get? l = some { cls := .type "list", dict := dd, data := .seq vs.toArray n, slots := sl } ∧ s.heap.get? b = some { cls := .type "list", dict := dd2, data := .seq ws.toArray n2, slots := sl2 } ∧
        R (.ok (.ret (.bool (ordL true xs ys)))) s) := by
  intro prog w A R s h
  obtain ⟨hp, g, d, tk, os⟩ := s; obtain ⟨hl, hb, h⟩ := h
  have f3 := AutoSeq1.sub_list_list
  wp_walk using wpAny_loadPart' hl, wpAny_loadPart' hb
  exact ⟨plainId_quiet plain_eq_loop _, codeAny_builtin entry_eq_loop (by
    rw [Around.under_plainId plain_eq_loop _]
    exact ord_loop_lt l b vs ws xs ys hx hy n n2 dd dd2 sl sl2 _ 0 rfl prog w A R _ ⟨hl, hb, Nat.zero_le _, Nat.zero_le _, by simpa using h⟩)⟩
theorem list_gt_meets (l b : Addr) (vs ws : List Value) (xs ys : List Str) (hx : StrsAre vs xs) (hy : StrsAre ws ys) (n n2 : Nat) (dd dd2 : Option Addr) (sl sl2 : Array (Option Value)) :
    Meets (Builtin.«list.__gt__» ⟨[.ref l, .ref b], []⟩)
      (fun A R s => s.heap.get? l = some { cls := .type "list", dict := dd, data := .seq vs.toArray n, slots := sl } ∧ s.heap.get? b = some { cls := .type "list", dict := dd2, data := .seq ws.toArray n2, slots := sl2 } ∧
        R (.ok (.ret (.bool (ordL false xs ys)))) s) := by
  intro prog w A R s h
  obtain ⟨hp, g, d, tk, os⟩ := s; obtain ⟨hl, hb, h⟩ := h
  have f3 := AutoSeq1.sub_list_list
  wp_walk using wpAny_loadPart' hl, wpAny_loadPart' hb
  exact ⟨plainId_quiet plain_eq_loop _, codeAny_builtin entry_eq_loop (by
    rw [Around.under_plainId plain_eq_loop _]
    exact ord_loop_gt l b vs ws xs ys hx hy n n2 dd dd2 sl sl2 _ 0 rfl prog w A R _ ⟨hl, hb, Nat.zero_le _, Nat.zero_le _, by simpa using h⟩)⟩
section
variable {prog : Program} {w : World} {A : Around} {E : Value → Shared → Prop} {s : Shared}
theorem rc_list_lt {l b : Addr} {vs ws : List Value} {xs ys : List Str} {Q : Value → Shared → Prop} (hl : s.heap.IsList l vs.toArray) (hb : s.heap.IsList b ws.toArray) (hx : StrsAre vs xs) (hy : StrsAre ws ys) (hu : A.units < cLine)
    (h : Q (.bool (ordL true xs ys)) s) : wpAny (model prog w) A (richCompare .Lt (.ref l) (.ref b)) Q E s := by
  obtain ⟨⟨cls, dd, data, sl⟩, ho, hc, n, hd⟩ := id hl
  obtain ⟨⟨cls2, dd2, data2, sl2⟩, ho2, hc2, n2, hd2⟩ := id hb
  simp only at hc hd hc2 hd2
  subst hc hd hc2 hd2
  exact richCompare_meets_room (op := .Lt) ⟨_, ho, rfl⟩ ⟨_, ho2, rfl⟩ PySem.F.slot_list_lt PySem.F.entry_list_lt (PySem.F.args_list_lt_2 _ _) (list_lt_meets l b vs ws xs ys hx hy n n2 dd dd2 sl sl2)
    ⟨ho, ho2, show Value.bool (ordL true xs ys) ≠ Value.notImplemented ∧ Q (.bool (ordL true xs ys)) s from ⟨(fun x => nomatch x), h⟩⟩ hu
theorem rc_list_gt {l b : Addr} {vs ws : List Value} {xs ys : List Str} {Q : Value → Shared → Prop} (hl : s.heap.IsList l vs.toArray) (hb : s.heap.IsList b ws.toArray) (hx : StrsAre vs xs) (hy : StrsAre ws ys) (hu : A.units < cLine)
    (h : Q (.bool (ordL false xs ys)) s) : wpAny (model prog w) A (richCompare .Gt (.ref l) (.ref b)) Q E s := by
  obtain ⟨⟨cls, dd, data, sl⟩, ho, hc, n, hd⟩ := id hl
  obtain ⟨⟨cls2, dd2, data2, sl2⟩, ho2, hc2, n2, hd2⟩ := id hb
  simp only at hc hd hc2 hd2
  subst hc hd hc2 hd2
  exact richCompare_meets_room (op := .Gt) ⟨_, ho, rfl⟩ ⟨_, ho2, rfl⟩ PySem.F.slot_list_gt PySem.F.entry_list_gt (PySem.F.args_list_gt_2 _ _) (list_gt_meets l b vs ws xs ys hx hy n n2 dd dd2 sl sl2)
    ⟨ho, ho2, show Value.bool (ordL false xs ys) ≠ Value.notImplemented ∧ Q (.bool (ordL false xs ys)) s from ⟨(fun x => nomatch x), h⟩⟩ hu
end
end Mine
end
section
open PySem.Calls PySem.Spec
namespace Mine
namespace MF
theorem owner_map : Manifest.owners.lookup (String.ofList ['p', 'a', 'm'].reverse) = some Manifest.sig_map := by kernel_rfl
theorem slot_map_init : Slot "map" "__init__" "object.__init__" :=
  .of (owner := "object") (n := "__init__") (by rw [typeLookup_type, builtinLookup_eq_fast]; kernel_rfl) (by decide +kernel) (by decide +kernel) (by decide +kernel)
    (by first | exact .inl (by decide +kernel) | exact .inr (by decide +kernel)) (by rw [isSubtype_type]; kernel_rfl)
theorem slot_map_iter : Slot "map" "__iter__" "map.__iter__" :=
  .of (owner := "map") (n := "__iter__") (by rw [typeLookup_type, builtinLookup_eq_fast]; kernel_rfl) (by decide +kernel) (by decide +kernel) (by decide +kernel)
    (by first | exact .inl (by decide +kernel) | exact .inr (by decide +kernel)) (by rw [isSubtype_type]; kernel_rfl)
theorem args_map_iter_1 (a : Value) : argsOk "map.__iter__" ⟨[a], []⟩ := by
  unfold argsOk; rw [signature?_of (id := "map.__iter__") (n := ['_', '_', 'r', 'e', 't', 'i', '_', '_']) (o := ['p', 'a', 'm']) (by kernel_rfl) owner_map]; kernel_rfl
theorem slot_map_next : Slot "map" "__next__" "map.__next__" :=
  .of (owner := "map") (n := "__next__") (by rw [typeLookup_type, builtinLookup_eq_fast]; kernel_rfl) (by decide +kernel) (by decide +kernel) (by decide +kernel)
    (by first | exact .inl (by decide +kernel) | exact .inr (by decide +kernel)) (by rw [isSubtype_type]; kernel_rfl)
theorem entry_map_next : entryFor table "map.__next__" = some Builtin.«map.__next__» := entryFor_of_tree (by kernel_rfl)
theorem args_map_next_1 (a : Value) : argsOk "map.__next__" ⟨[a], []⟩ := by
  unfold argsOk; rw [signature?_of (id := "map.__next__") (n := ['_', '_', 't', 'x', 'e', 'n', '_', '_']) (o := ['p', 'a', 'm']) (by kernel_rfl) owner_map]; kernel_rfl
theorem entry_map_iter : entryFor table "map.__iter__" = some Builtin.«dict_keyiterator.__iter__» :=
  entryFor_alias (id' := "dict_keyiterator.__iter__") (by kernel_rfl) (by first | rfl | decide +kernel | (unfold String.splitOn; simp +decide [String.splitOnAux])) (by decide +kernel) (by kernel_rfl)
theorem mro_map : mroOf (.type "map") = pure [.type "map", .type "object"] := by rw [mroOf_type]; kernel_rfl
theorem lookup_map_new : typeLookup (.type "map") "__new__" = pure (some (.builtin "map.__new__")) := by rw [typeLookup_type, builtinLookup_eq_fast]; kernel_rfl
theorem called_map : TypeCalled "map" "map.__new__" "object.__init__" :=
  ⟨by decide +kernel, by decide +kernel, ⟨_, _, mro_map⟩, madeBy_type mro_map lookup_map_new (by decide +kernel), by decide +kernel, by rw [isSubtype_type]; kernel_rfl, slot_map_init⟩
theorem typeCall_map_2 (a b : Value) : checkTypeCall "map" ⟨[a, b], []⟩ = pure () := by kernel_rfl
theorem newCall_map_2 (a b : Value) : checkBuiltinCall "map.__new__" ⟨[.type "map", a, b], []⟩ = pure () := by kernel_rfl
theorem entry_map_new : entryFor table "map.__new__" = some Builtin.«map.__new__» := entryFor_of_tree (by kernel_rfl)
theorem map_no_len : typeLookup (.type "map") "__len__" = pure none := by rw [typeLookup_type, builtinLookup_eq_fast]; kernel_rfl
theorem map_no_hint : typeLookup (.type "map") "__length_hint__" = pure none := by rw [typeLookup_type, builtinLookup_eq_fast]; kernel_rfl
theorem sub_map : isSubtype (.type "map") (.type "map") = pure true := by rw [isSubtype_type]; kernel_rfl
end MF
abbrev IsMap (h : Heap) (z TI : Addr) (f : Value) : Prop :=
  h.get? z = some { cls := .type "map", dict := none, data := .fields #[.ref TI, f], slots := #[] }
abbrev IsOne (h : Heap) (T : Addr) (a : Value) : Prop := h.get? T = some { cls := .type "tuple", data := .seq #[a] }
theorem meets_map_new (f : Value) (l1 : Addr) (xs : Array Value) :
    Meets (Builtin.«map.__new__» ⟨[.type "map", f, .ref l1], []⟩) (fun _ R s => s.heap.IsList l1 xs ∧
      R (.ok (.ret (.ref (s.heap.objs.size + 2)))) { s with heap := ((s.heap.push { cls := .type "list_iterator", data := .fields #[.ref l1, .int 0 0] }).push { cls := .type "tuple", data := .seq #[.ref s.heap.objs.size] }).push { cls := .type "map", data := .fields #[.ref (s.heap.objs.size + 1), f] } }) :=
  .of_wp fun prog w A R s h => by
    obtain ⟨hp, g, d, tk, os⟩ := s; obtain ⟨hl1, h⟩ := h
    have hsub := MF.sub_map
    have hL1 : Heap.IsList (Shared.heap ⟨hp, g, d, tk, os⟩) l1 xs := hl1
    wp_walk using wpAny_pyIter_list hL1
    simp only [Heap.size_push]
    exact ⟨_, rfl, h⟩
end Mine
end
section
open PySem.Calls PySem.Spec
namespace Mine
section
variable {prog : Program} {w : World} {A : Around} {E : Value → Shared → Prop} {s : Shared} {h₀ : Heap} {L : Addr} {m : Str → Option Value} {led : List (Addr × Obj)}
theorem map_next_item {z TI it l : Addr} {i : Nat} {xs : Array Value} {x f : Value} {Q : Value → Shared → Prop} (hz : IsMap s.heap z TI f) (hTI : IsOne s.heap TI (.ref it)) (hit : s.heap.IsListIter it l i) (hl : s.heap.IsList l xs) (hx : xs[i]? = some x) (hzi : z ≠ it)
    (hcall : ∀ h', h'.IsListIter it l (i + 1) → Heap.SameBut it s.heap h' → wpAny (model prog w) A (call f [x]) Q E { s with heap := h' }) :
    wpAny (model prog w) A (Builtin.«map.__next__» ⟨[.ref z], []⟩) (fun fin s' => ∃ v, fin = .done (.ret v) ∧ Q v s') E s := by
  show wpAny _ _ (field (.ref z) 0 >>= _) _ _ _
  refine wpAny_bind (wpAny_field hz rfl (x := .ref TI) rfl ?_)
  refine wpAny_bind (wpAny_seqItems hTI rfl ?_)
  simp only [List.forIn_toArray, List.forIn_cons, List.forIn_nil]
  refine wpAny_bind (wpAny_bind (wpAny_bind (wpAny_holding ?_)))
  refine wpAny_nextOf_list_item hit hl hx fun h' hit' hs' => ?_
  refine wpAny_pure (wpAny_pure ?_)
  refine wpAny_bind (wpAny_field (hs'.extBut _ _ hzi hz) rfl (x := f) rfl ?_)
  refine wpAny_bind (wpAny_holding (wpAny_mono (hcall h' hit' hs') (fun v s₂ hq => ?_) fun _ _ e => e))
  refine wpAny_bind (wpAny_letGo ?_)
  exact wpAny_pure ⟨v, rfl, hq⟩
theorem map_next_end {z TI it l : Addr} {i : Nat} {xs : Array Value} {f : Value} {Q : Fin → Shared → Prop} (hh : A.handled = none) (hz : IsMap s.heap z TI f) (hTI : IsOne s.heap TI (.ref it)) (hit : s.heap.IsListIter it l i) (hl : s.heap.IsList l xs) (hx : xs[i]? = none)
    (hE : ∀ h' e, Heap.ExtBut it s.heap h' → (∃ o, h'.get? e = some o ∧ o.cls = .type "StopIteration") → E (.ref e) { s with heap := h' }) :
    wpAny (model prog w) A (Builtin.«map.__next__» ⟨[.ref z], []⟩) Q E s := by
  show wpAny _ _ (field (.ref z) 0 >>= _) _ _ _
  refine wpAny_bind (wpAny_field hz rfl (x := .ref TI) rfl ?_)
  refine wpAny_bind (wpAny_seqItems hTI rfl ?_)
  simp only [List.forIn_toArray, List.forIn_cons, List.forIn_nil]
  refine wpAny_bind (wpAny_bind (wpAny_bind (wpAny_holding ?_)))
  exact wpAny_nextOf_list_end hh hit hl hx fun h' e a b => hE h' e a b
theorem pyNext_map_item {z TI it l : Addr} {i : Nat} {xs : Array Value} {x f : Value} {Q : Option Value → Shared → Prop} (hz : IsMap s.heap z TI f) (hTI : IsOne s.heap TI (.ref it)) (hit : s.heap.IsListIter it l i) (hl : s.heap.IsList l xs) (hx : xs[i]? = some x) (hzi : z ≠ it)
    (hcall : ∀ h' E', h'.IsListIter it l (i + 1) → Heap.SameBut it s.heap h' → wpAny (model prog w) A.in1 (call f [x]) (fun v => Q (some v)) E' { s with heap := h' }) :
    wpAny (model prog w) A (pyNext (.ref z)) Q E s := by
  have hT : s.TypeIs (.ref z) "map" := ⟨_, hz, rfl⟩
  unfold pyNext
  exact wpAny_bind (wpAny_attempt (wpAny_callSpecial?_slot (name := Str.ofString "__next__") hT MF.slot_map_next
    (wpAny_call_entry MF.slot_map_next hT MF.entry_map_next
      (map_next_item hz hTI hit hl hx hzi fun h' a b => wpAny_mono (hcall h' _ a b) (fun v s₂ hq => wpAny_pure hq) fun _ _ e => e) (MF.args_map_next_1 _))))
theorem pyNext_map_end {z TI it l : Addr} {i : Nat} {xs : Array Value} {f : Value} {Q : Option Value → Shared → Prop} (hh : A.handled = none) (hz : IsMap s.heap z TI f) (hTI : IsOne s.heap TI (.ref it)) (hit : s.heap.IsListIter it l i) (hl : s.heap.IsList l xs) (hx : xs[i]? = none)
    (hQ : ∀ h', Heap.ExtBut it s.heap h' → Q none { s with heap := h' }) : wpAny (model prog w) A (pyNext (.ref z)) Q E s := by
  have hT : s.TypeIs (.ref z) "map" := ⟨_, hz, rfl⟩
  unfold pyNext
  refine wpAny_bind (wpAny_attempt (wpAny_callSpecial?_slot (name := Str.ofString "__next__") hT MF.slot_map_next
    (wpAny_call_entry MF.slot_map_next hT MF.entry_map_next (map_next_end hh hz hTI hit hl hx fun h' e hk he => ?_) (MF.args_map_next_1 _))))
  obtain ⟨o, ho, hc⟩ := he
  refine wpAny_bind (wpAny_isInstance (T := "StopIteration") (b := true) ⟨o, ho, hc⟩ isSubtype_stop ?_)
  exact wpAny_pure (hQ _ hk)
theorem pyIter_map {z TI : Addr} {f : Value} {Q : Value → Shared → Prop} (hz : IsMap s.heap z TI f) (h : Q (.ref z) s) : wpAny (model prog w) A (pyIter (.ref z)) Q E s := by
  have hT : s.TypeIs (.ref z) "map" := ⟨_, hz, rfl⟩
  refine wpAny_pyIter_slot hT MF.slot_map_iter (wpAny_call_entry MF.slot_map_iter hT MF.entry_map_iter ?_ (MF.args_map_iter_1 _))
  show wpAny _ _ (ret (.ref z)) _ _ s
  exact wpAny_pure ⟨_, rfl, "map", _, hT, MF.slot_map_next.lookup, h⟩
end
end Mine
end
section
open PySem.Calls PySem.Spec
namespace Mine
theorem item_fresh {h₀ h : Heap} {L : Addr} {led : List (Addr × Obj)} (N : News h₀ L h led) : ∀ p ∈ led, p.1 ≠ h.objs.size := fun p hp => Nat.ne_of_lt (Heap.lt_size (N p hp).1)
section
variable {prog : Program} {w : World} {A : Around} {E : Value → Shared → Prop} {s : Shared} {h₀ : Heap} {L : Addr} {m : Str → Option Value} {led : List (Addr × Obj)}
abbrev mapO (TI : Addr) (f : Value) : Obj := { cls := .type "map", dict := none, data := .fields #[.ref TI, f], slots := #[] }
abbrev oneO (a : Value) : Obj := { cls := .type "tuple", data := .seq #[a] }
abbrev seqO (xs : Array Value) (n : Nat) : Obj := { cls := .type "list", dict := none, data := .seq xs n, slots := #[] }
/-- the call of a map's function on one element: any ledger stays -/
def MapCall (prog : Program) (w : World) (A : Around) (h₀ : Heap) (L : Addr) (m : Str → Option Value) (f : Value) (xs : List Value) (P : Nat → Value → Prop) (s : Shared) : Prop :=
  ∀ i x h tk led (Q E : Value → Shared → Prop), xs[i]? = some x → Fr h₀ L h m → News h₀ L h led → (∀ h' tk' v, P i v → Fr h₀ L h' m → News h₀ L h' led → Q v { s with heap := h', toks := tk' }) →
    wpAny (model prog w) A (call f [x]) Q E { s with heap := h, toks := tk }
theorem map_loop {R : Result → Shared → Prop} {z TI it S l : Addr} {xs : List Value} {nl : Nat} {f : Value} {P : Nat → Value → Prop} (res : Value) (hh : A.handled = none) (hn : xs.length ≤ sizeLine)
    (hl : (l, lstO xs nl) ∈ led) (hSz : S ≠ z) (hST : S ≠ TI) (hSi : S ≠ it) (hzi : z ≠ it) (hTi : TI ≠ it) (offS : ∀ p ∈ led, p.1 ≠ S) (offI : ∀ p ∈ led, p.1 ≠ it)
    (hcall : MapCall prog w A.in1.in1 h₀ L m f xs P s)
    (hR : ∀ h' tk' acc' c', Fr h₀ L h' m → News h₀ L h' ((S, seqO acc' c') :: led) → ItemsOf P acc' xs.length → R (.ok (.ret res)) { s with heap := h', toks := tk' }) :
    ∀ (k i : Nat) (h : Heap) (tk : Nat) (acc : Array Value) (c : Nat) (oI : Obj), xs.length - i = k → i ≤ xs.length → Fr h₀ L h m → News h₀ L h ((S, seqO acc c) :: (z, mapO TI f) :: (TI, oneO (.ref it)) :: (it, oI) :: led) → h.IsListIter it l i → ItemsOf P acc i →
    codeAny (model prog w) A (.builtin "list.extend.loop" ⟨[.ref S, .ref z, res], []⟩) R { s with heap := h, toks := tk } := by
  intro k
  induction k with
  | zero =>
    intro i h tk acc c oI hk hi Fh N hit hacc
    have hin : i = xs.length := by omega
    subst hin
    have hI := N (it, oI) (List.mem_cons_of_mem _ (List.mem_cons_of_mem _ (List.mem_cons_of_mem _ List.mem_cons_self)))
    refine codeAny_builtin PySem.F.entry_extend_loop ?_
    rw [Around.under_plainId PySem.F.plain_extend_loop _]
    show wpAny _ A.in1 (pyNext (.ref z) >>= _) _ _ _
    refine wpAny_bind (pyNext_map_end (xs := xs.toArray) (l := l) hh (N.get (List.mem_cons_of_mem _ List.mem_cons_self)) (N.get (List.mem_cons_of_mem _ (List.mem_cons_of_mem _ List.mem_cons_self))) hit
      ⟨_, N.get (List.mem_cons_of_mem _ (List.mem_cons_of_mem _ (List.mem_cons_of_mem _ (List.mem_cons_of_mem _ hl)))), rfl, _, rfl⟩ (by simp) fun h' hx => ?_)
    refine wpAny_pure (hR h' tk acc c (Mine.Fr.ext Fh hx hI.2.1.symm hI.2.2) (Mine.News.ext (fun p hp => ?_) hx ?_) hacc)
    · rcases List.mem_cons.mp hp with rfl | hp
      · exact N _ List.mem_cons_self
      · exact N _ (List.mem_cons_of_mem _ (List.mem_cons_of_mem _ (List.mem_cons_of_mem _ (List.mem_cons_of_mem _ hp))))
    · intro p hp
      rcases List.mem_cons.mp hp with rfl | hp
      · exact hSi
      · exact offI p hp
  | succ k ih =>
    intro i h tk acc c oI hk hi Fh N hit hacc
    have hI := N (it, oI) (List.mem_cons_of_mem _ (List.mem_cons_of_mem _ (List.mem_cons_of_mem _ List.mem_cons_self)))
    have hlt : i < xs.length := by omega
    refine codeAny_builtin PySem.F.entry_extend_loop ?_
    rw [Around.under_plainId PySem.F.plain_extend_loop _]
    show wpAny _ A.in1 (pyNext (.ref z) >>= _) _ _ _
    refine wpAny_bind (pyNext_map_item (xs := xs.toArray) (l := l) (x := xs[i]) (N.get (List.mem_cons_of_mem _ List.mem_cons_self)) (N.get (List.mem_cons_of_mem _ (List.mem_cons_of_mem _ List.mem_cons_self))) hit
      ⟨_, N.get (List.mem_cons_of_mem _ (List.mem_cons_of_mem _ (List.mem_cons_of_mem _ (List.mem_cons_of_mem _ hl)))), rfl, _, rfl⟩ (by simp [hlt]) hzi fun h' E' hit' hs' => ?_)
    obtain ⟨oI', ho', hc', hd'⟩ := hit'
    have N' : News h₀ L h' ((S, seqO acc c) :: (z, mapO TI f) :: (TI, oneO (.ref it)) :: (it, oI') :: led) := by
      intro p hp
      rcases List.mem_cons.mp hp with rfl | hp
      · have a := N _ List.mem_cons_self
        exact ⟨hs'.extBut _ _ hSi a.1, a.2⟩
      rcases List.mem_cons.mp hp with rfl | hp
      · have a := N _ (List.mem_cons_of_mem _ List.mem_cons_self)
        exact ⟨hs'.extBut _ _ hzi a.1, a.2⟩
      rcases List.mem_cons.mp hp with rfl | hp
      · have a := N _ (List.mem_cons_of_mem _ (List.mem_cons_of_mem _ List.mem_cons_self))
        exact ⟨hs'.extBut _ _ hTi a.1, a.2⟩
      rcases List.mem_cons.mp hp with rfl | hp
      · exact ⟨ho', hI.2⟩
      · have a := N p (List.mem_cons_of_mem _ (List.mem_cons_of_mem _ (List.mem_cons_of_mem _ (List.mem_cons_of_mem _ hp))))
        exact ⟨hs'.extBut _ _ (offI p hp) a.1, a.2⟩
    refine hcall i xs[i] h' tk _ _ _ (by simp [hlt]) (Mine.Fr.ext Fh hs'.extBut hI.2.1.symm hI.2.2) N' fun h2 tk2 v hP F2 N2 => ?_
    have hS := N2 _ List.mem_cons_self
    have hsb : Heap.SameBut S h2 (h2.update S (Obj.mapSeq (·.push v))) := Heap.SameBut.update ..
    show wpAny _ A.in1 (updateSeq S (·.push v) >>= _) _ _ _
    refine wpAny_bind (wpAny_updateSeq hS.1 rfl (wpAny_pure ⟨plainId_quiet PySem.F.plain_extend_loop _, ih (i + 1) _ tk2 (acc.push v) _ oI' (by omega) (by omega) (F2.change hsb hS.2.1 hS.2.2)
      (News.setHead N2 ?_ hsb (Heap.get?_update_self _ hS.1 rfl)) ⟨oI', ?_, hc', hd'⟩ (hacc.push hP)⟩) (by rw [hacc.1]; omega) (by show (acc.push v).size ≤ sizeLine + 1; rw [Array.size_push, hacc.1]; omega))
    · intro p hp
      rcases List.mem_cons.mp hp with rfl | hp
      · exact hSz.symm
      rcases List.mem_cons.mp hp with rfl | hp
      · exact hST.symm
      rcases List.mem_cons.mp hp with rfl | hp
      · exact hSi.symm
      · exact offS p hp
    · exact (hsb.2 it hSi.symm).trans (N2 (it, oI') (List.mem_cons_of_mem _ (List.mem_cons_of_mem _ (List.mem_cons_of_mem _ List.mem_cons_self)))).1
end
end Mine
end
section
open PySem.Calls PySem.Spec
namespace Mine
section
variable {prog : Program} {w : World} {A : Around} {E : Value → Shared → Prop} {s : Shared} {h₀ : Heap} {L : Addr} {m : Str → Option Value} {led : List (Addr × Obj)}
theorem collect_map {z TI it l : Addr} {xs : List Value} {nl : Nat} {f : Value} {P : Nat → Value → Prop} {oI : Obj} {Q : List Value → Shared → Prop} (hh : A.handled = none) (hn : xs.length ≤ sizeLine)
    (hl : (l, lstO xs nl) ∈ led) (hzi : z ≠ it) (hTi : TI ≠ it) (offI : ∀ p ∈ led, p.1 ≠ it)
    (hcall : MapCall prog w A.in1.in1 h₀ L m f xs P s) (Fh : Fr h₀ L s.heap m) (N : News h₀ L s.heap ((z, mapO TI f) :: (TI, oneO (.ref it)) :: (it, oI) :: led)) (hit : s.heap.IsListIter it l 0)
    (hQ : ∀ h' tk' acc', Fr h₀ L h' m → News h₀ L h' led → ItemsOf P acc' xs.length → Q acc'.toList { s with heap := h', toks := tk' }) :
    wpAny (model prog w) A (collect (.ref z)) Q E s := by
  have fr := item_fresh N
  have hSz : s.heap.objs.size ≠ z := (fr _ List.mem_cons_self).symm
  have hST : s.heap.objs.size ≠ TI := (fr _ (List.mem_cons_of_mem _ List.mem_cons_self)).symm
  have hSi : s.heap.objs.size ≠ it := (fr _ (List.mem_cons_of_mem _ (List.mem_cons_of_mem _ List.mem_cons_self))).symm
  have hz := N.get List.mem_cons_self
  have hSL : s.heap.objs.size ≠ L := Nat.ne_of_gt Fh.ns.lt
  unfold collect
  refine wpAny_bind (wpAny_runValue (codeAny_builtin PySem.F.entry_proto_collect ?_))
  rw [Around.under_plainId PySem.F.plain_proto_collect _]
  show wpAny _ A.in1 (newList [] >>= fun l => again (.builtin "list.__iadd__" ⟨[l, .ref z], []⟩)) _ _ s
  refine wpAny_bind (wpAny_newObj_type ?_)
  refine wpAny_pure ⟨plainId_quiet PySem.F.plain_list_iadd _, codeAny_builtin PySem.F.entry_list_iadd ?_⟩
  rw [Around.under_plainId PySem.F.plain_list_iadd _]
  have hz₁ : IsMap (s.heap.push { cls := .type "list", data := .seq ([] : List Value).toArray }) z TI f := Heap.get?_push_of_some _ hz
  have hT : Shared.TypeIs { s with heap := s.heap.push { cls := .type "list", data := .seq ([] : List Value).toArray } } (.ref z) "map" := ⟨_, hz₁, rfl⟩
  show wpAny _ A.in1 (Builtin.List.listExtendWith (.ref s.heap.objs.size) (.ref z) (.ref s.heap.objs.size)) _ _ _
  unfold Builtin.List.listExtendWith
  refine wpAny_bind (wpAny_typeOf hT ?_)
  have h1 : Builtin.List.listSameRef (.ref s.heap.objs.size) (.ref z) = false := by simp [Builtin.List.listSameRef, hSz]
  have h2 : (Value.type "map" == Value.type "list") = false := by decide
  have h3 : (Value.type "map" == Value.type "tuple") = false := by decide
  simp only [h1, h2, h3, Bool.or_false, Bool.false_eq_true, if_false]
  refine wpAny_bind (pyIter_map hz₁ ?_)
  refine wpAny_bind (wpAny_holding ?_)
  unfold Builtin.List.listLengthHint
  refine wpAny_bind (wpAny_specialOf hT MF.map_no_len ?_)
  show wpAny _ A.in1 (specialOf (Value.ref z) (Str.ofString "__length_hint__") >>= _) _ _ _
  refine wpAny_bind (wpAny_specialOf hT MF.map_no_hint ?_)
  refine wpAny_pure ?_
  show wpAny _ A.in1 (rule "list.extend.makes-room" >>= fun _ => Builtin.List.listTouch (.ref s.heap.objs.size) >>= fun _ =>
    again (.builtin "list.extend.loop" ⟨[.ref s.heap.objs.size, .ref z, .ref s.heap.objs.size], []⟩)) _ _ _
  refine wpAny_bind (wpAny_rule ?_)
  have hS₁ : (s.heap.push { cls := .type "list", data := .seq ([] : List Value).toArray }).get? s.heap.objs.size = some { cls := .type "list", data := .seq ([] : List Value).toArray } := Heap.get?_push_size _ rfl
  refine wpAny_bind ?_
  show wpAny _ A.in1 (updateSeq s.heap.objs.size (·.push .none) >>= fun _ => updateSeq s.heap.objs.size (·.pop)) _ _ _
  refine wpAny_bind (wpAny_updateSeq hS₁ rfl ?_)
  have hS₂ := Heap.get?_update_self (Obj.mapSeq (·.push Value.none)) hS₁ rfl
  refine wpAny_updateSeq hS₂ rfl ?_
  have hS₃ := Heap.get?_update_self (Obj.mapSeq (·.pop)) hS₂ rfl
  have oth : ∀ b o, s.heap.get? b = some o →
      (((s.heap.push { cls := .type "list", data := .seq ([] : List Value).toArray }).update s.heap.objs.size (Obj.mapSeq (·.push Value.none))).update s.heap.objs.size (Obj.mapSeq (·.pop))).get? b = some o :=
    fun b o e => (Heap.get?_update_other _ _ (Nat.ne_of_gt (Heap.lt_size e))).trans ((Heap.get?_update_other _ _ (Nat.ne_of_gt (Heap.lt_size e))).trans (Heap.get?_push_of_some _ e))
  obtain ⟨c₃, hS₄⟩ : ∃ c, (((s.heap.push { cls := .type "list", data := .seq ([] : List Value).toArray }).update s.heap.objs.size (Obj.mapSeq (·.push Value.none))).update s.heap.objs.size (Obj.mapSeq (·.pop))).get? s.heap.objs.size = some (seqO #[] c) := ⟨_, hS₃⟩
  have N₄ : News h₀ L (((s.heap.push { cls := .type "list", data := .seq ([] : List Value).toArray }).update s.heap.objs.size (Obj.mapSeq (·.push Value.none))).update s.heap.objs.size (Obj.mapSeq (·.pop))) ((s.heap.objs.size, seqO #[] c₃) :: (z, mapO TI f) :: (TI, oneO (.ref it)) :: (it, oI) :: led) := by
    intro p hp
    rcases List.mem_cons.mp hp with rfl | hp
    · exact ⟨hS₄, hSL, Fh.fresh⟩
    · exact ⟨oth _ _ (N p hp).1, (N p hp).2⟩
  refine wpAny_pure ⟨plainId_quiet PySem.F.plain_extend_loop _, map_loop (s := s) (.ref s.heap.objs.size) hh hn hl hSz hST hSi hzi hTi (fun p hp => fr p (List.mem_cons_of_mem _ (List.mem_cons_of_mem _ (List.mem_cons_of_mem _ hp)))) offI hcall
    (fun h' tk' acc' c' F' N' hacc => ?_) _ 0 _ s.toks #[] c₃ oI rfl (Nat.zero_le _) (Fh.after oth) N₄ ?_ (ItemsOf.nil P)⟩
  · show wpAny _ A (load s.heap.objs.size >>= _) _ _ _
    refine wpAny_bind (wpAny_load (N'.get List.mem_cons_self) ?_)
    exact wpAny_pure (hQ h' tk' acc' F' (fun p hp => N' p (List.mem_cons_of_mem _ hp)) hacc)
  · obtain ⟨o, ho, a, b⟩ := hit
    exact ⟨o, oth _ _ ho, a, b⟩
end
end Mine
end
section
open PySem.Calls PySem.Spec
namespace Mine
section
variable {prog : Program} {w : World} {A : Around} {E : Value → Shared → Prop} {s : Shared} {h₀ : Heap} {L : Addr} {m : Str → Option Value} {led : List (Addr × Obj)}
abbrev tupO (xs : Array Value) : Obj := { cls := .type "tuple", data := .seq xs }
theorem code_tuple_map {z TI it l : Addr} {xs : List Value} {nl : Nat} {f : Value} {P : Nat → Value → Prop} {oI : Obj} {Q₁ : Value → Shared → Prop} (hh : A.handled = none) (hn : xs.length ≤ sizeLine)
    (hl : (l, lstO xs nl) ∈ led) (hzi : z ≠ it) (hTi : TI ≠ it) (offI : ∀ p ∈ led, p.1 ≠ it)
    (hcall : MapCall prog w A.in1.in1.in1 h₀ L m f xs P s) (Fh : Fr h₀ L s.heap m) (N : News h₀ L s.heap ((z, mapO TI f) :: (TI, oneO (.ref it)) :: (it, oI) :: led)) (hit : s.heap.IsListIter it l 0)
    (hQ : ∀ T h' tk' acc', Fr h₀ L h' m → News h₀ L h' ((T, tupO acc') :: led) → (∀ p ∈ led, p.1 < T) → ItemsOf P acc' xs.length → Q₁ (.ref T) { s with heap := h', toks := tk' }) :
    codeAny (model prog w) A (.call (.builtin "tuple.__new__") ⟨[.type "tuple", .ref z], []⟩) (wants Q₁ E) s := by
  refine codeAny_of_tree ?_
  show wpAny _ A.in1 (do checkBuiltinCall "tuple.__new__" ⟨[.type "tuple", .ref z], []⟩; again (.builtin "tuple.__new__" ⟨[.type "tuple", .ref z], []⟩)) _ _ s
  refine wpAny_bind (wpAny_of_eq (PySem.F.newCall_tuple_1 _) (wpAny_pure ⟨plainId_quiet PySem.F.plain_tuple_new _, codeAny_builtin PySem.F.entry_tuple_new ?_⟩))
  rw [Around.under_plainId PySem.F.plain_tuple_new _]
  have hsub := sub_tuple_self
  have hinit := init_tuple_lookup
  have hmh := madeHere_tuple
  have hz := N.get List.mem_cons_self
  have hTI : s.TypeIs (.ref z) "map" := ⟨_, hz, rfl⟩
  wp_walk using wpAny_typeOf hTI, collect_map (A := A.in1) hh hn hl hzi hTi offI hcall Fh N hit
  intro h' tk' acc hF hN hacc
  show wpAny _ _ (Builtin.Tuple.tupleExact acc.toList.toArray >>= fun v => ret v) _ _ _
  unfold Builtin.Tuple.tupleExact
  refine wpAny_bind (wpAny_newObj_type ?_ (by show acc.toList.toArray.size ≤ sizeLine; simp only [Array.toArray_toList]; rw [hacc.1]; exact hn))
  refine wpAny_pure ?_
  have e : acc.toList.toArray = acc := by simp
  rw [e]
  refine hQ h'.objs.size (h'.push (tupO acc)) tk' acc (hF.push _) (fun p hp => ?_) (fun p hp => Heap.lt_size (hN p hp).1) hacc
  rcases List.mem_cons.mp hp with rfl | hp
  · exact ⟨Heap.get?_push_size _ rfl, Nat.ne_of_gt hF.ns.lt, hF.fresh⟩
  · exact ⟨Heap.get?_push_of_some _ (hN p hp).1, (hN p hp).2⟩
theorem call_tuple_map {z TI it l : Addr} {xs : List Value} {nl : Nat} {f : Value} {P : Nat → Value → Prop} {oI : Obj} {Q : Value → Shared → Prop} (hh : A.handled = none) (hn : xs.length ≤ sizeLine)
    (hl : (l, lstO xs nl) ∈ led) (hzi : z ≠ it) (hTi : TI ≠ it) (offI : ∀ p ∈ led, p.1 ≠ it)
    (hcall : MapCall prog w A.in1.in1.in1.in1 h₀ L m f xs P s) (Fh : Fr h₀ L s.heap m) (N : News h₀ L s.heap ((z, mapO TI f) :: (TI, oneO (.ref it)) :: (it, oI) :: led)) (hit : s.heap.IsListIter it l 0)
    (hQ : ∀ T h' tk' acc', Fr h₀ L h' m → News h₀ L h' ((T, tupO acc') :: led) → (∀ p ∈ led, p.1 < T) → ItemsOf P acc' xs.length → Q (.ref T) { s with heap := h', toks := tk' }) :
    wpAny (model prog w) A (call (.type "tuple") [.ref z]) Q E s := by
  refine callType_codes (Q₁ := fun obj s₁ => s₁.TypeIs obj "tuple" ∧ Q obj s₁) PySem.F.called_tuple (PySem.F.typeCall_tuple_1 _) PySem.F.entry_object_init
    (code_tuple_map (A := A.in1) hh hn hl hzi hTi offI hcall Fh N hit fun T h' tk' acc hF hN hlt hacc => ⟨⟨_, hN.get List.mem_cons_self, rfl⟩, hQ T h' tk' acc hF hN hlt hacc⟩) fun obj s₁ h₁ => ?_
  exact ⟨h₁.1, PySem.F.args_object_init_2 obj _, object_init_meets PySem.F.called_tuple.init.lookup PySem.F.called_tuple.made (by decide) prog w A.in1 _ s₁ ⟨h₁.1, rfl, h₁.2⟩⟩
theorem call_map {l : Addr} {xs : List Value} {nl : Nat} {f : Value} {Q : Value → Shared → Prop} (Fh : Fr h₀ L s.heap m) (N : News h₀ L s.heap led) (hl : (l, lstO xs nl) ∈ led)
    (hQ : ∀ z TI it oI h', z ≠ it → TI ≠ it → (∀ p ∈ led, p.1 ≠ it) → h'.IsListIter it l 0 → Fr h₀ L h' m → News h₀ L h' ((z, mapO TI f) :: (TI, oneO (.ref it)) :: (it, oI) :: led) → Q (.ref z) { s with heap := h' }) :
    wpAny (model prog w) A (call (.type "map") [f, .ref l]) Q E s := by
  have hls : s.heap.IsList l xs.toArray := ⟨_, N.get hl, rfl, _, rfl⟩
  refine callType_new MF.called_map (by decide) (MF.typeCall_map_2 _ _) (MF.newCall_map_2 _ _) (fun obj => PySem.F.args_object_init_3 obj _ _) MF.entry_map_new
    (meets_map_new f l xs.toArray) ⟨hls, ?_⟩
  have g0 := Heap.get?_push_size s.heap (o := { cls := .type "list_iterator", data := .fields #[.ref l, .int 0 0] }) rfl
  have g1 := Heap.get?_push_size (s.heap.push { cls := .type "list_iterator", data := .fields #[.ref l, .int 0 0] }) (o := { cls := .type "tuple", data := .seq #[.ref s.heap.objs.size] }) rfl
  have g2 := Heap.get?_push_size ((s.heap.push { cls := .type "list_iterator", data := .fields #[.ref l, .int 0 0] }).push { cls := .type "tuple", data := .seq #[.ref s.heap.objs.size] }) (o := { cls := .type "map", data := .fields #[.ref (s.heap.objs.size + 1), f] }) rfl
  simp only [Heap.size_push] at g1 g2
  have a1 := Heap.get?_push_of_some { cls := .type "map", data := .fields #[.ref (s.heap.objs.size + 1), f] } g1
  have a0 := Heap.get?_push_of_some { cls := .type "map", data := .fields #[.ref (s.heap.objs.size + 1), f] } (Heap.get?_push_of_some { cls := .type "tuple", data := .seq #[.ref s.heap.objs.size] } g0)
  have hL := Fh.ns.lt
  have none : ∀ k, s.heap.objs.size ≤ k → h₀.get? k = Option.none := fun k hk => by
    cases e : h₀.get? k with
    | none => rfl
    | some o => exact absurd (Nat.lt_of_lt_of_le (Heap.lt_size (Fh.keep _ _ e)) hk) (Nat.lt_irrefl _)
  refine ⟨⟨_, g2, rfl⟩, hQ (s.heap.objs.size + 2) (s.heap.objs.size + 1) s.heap.objs.size { cls := .type "list_iterator", data := .fields #[.ref l, .int 0 0] } _ (show @Ne Nat _ _ from by omega) (show @Ne Nat _ _ from by omega) (fun p hp => item_fresh N p hp) ⟨_, a0, rfl, rfl⟩ (((Fh.push _).push _).push _) fun p hp => ?_⟩
  rcases List.mem_cons.mp hp with rfl | hp
  · exact ⟨g2, Nat.ne_of_gt (Nat.lt_of_lt_of_le hL (Nat.le_add_right _ 2)), none _ (Nat.le_add_right _ 2)⟩
  rcases List.mem_cons.mp hp with rfl | hp
  · exact ⟨a1, Nat.ne_of_gt (Nat.lt_of_lt_of_le hL (Nat.le_add_right _ 1)), none _ (Nat.le_add_right _ 1)⟩
  rcases List.mem_cons.mp hp with rfl | hp
  · exact ⟨a0, Nat.ne_of_gt hL, none _ (Nat.le_refl _)⟩
  · exact ⟨Heap.get?_push_of_some _ (Heap.get?_push_of_some _ (Heap.get?_push_of_some _ (N p hp).1)), (N p hp).2⟩
end
end Mine
end
section
open PySem.Calls PySem.Spec
namespace Mine
/-- which of two rows comes ahead (`up`: the lesser) -/
def btL (up : Bool) (nss : List (List Str)) (i j : Nat) : Bool := ordL up (nss.getD i []) (nss.getD j [])
theorem btL_at {up : Bool} {nss : List (List Str)} {i j : Nat} {x y : List Str} (hx : nss[i]? = some x) (hy : nss[j]? = some y) : btL up nss i j = ordL up x y := by
  unfold btL; rw [List.getD_eq_getElem?_getD, List.getD_eq_getElem?_getD, hx, hy]; rfl
section
variable {prog : Program} {w : World} {A : Around} {E : Value → Shared → Prop} {s : Shared} {h₀ : Heap} {L : Addr} {m : Str → Option Value} {led : List (Addr × Obj)}
theorem min_rows_loop {R : Result → Shared → Prop} {I S l : Addr} {refs : List Value} {nl : Nat} {nss : List (List Str)} (hh : A.handled = none) (hl : (l, lstO refs nl) ∈ led) (hR : All2 (RowRel led) refs nss)
    (hSI : S ≠ I) (offS : ∀ p ∈ led, p.1 ≠ S) (offI : ∀ p ∈ led, p.1 ≠ I) (hu : A.in1.units < cLine)
    (hRes : ∀ h' tk' v, refs[argBest (btL true nss) (refs.length - 1)]? = some v → Fr h₀ L h' m → News h₀ L h' led → R (.ok (.ret v)) { s with heap := h', toks := tk' }) :
    ∀ (k j : Nat) (h : Heap) (tk : Nat) (vb : Value) (c : Nat) (oI : Obj), refs.length - (j + 1) = k → j + 1 ≤ refs.length → Fr h₀ L h m → News h₀ L h ((S, seqO #[vb, vb] c) :: (I, oI) :: led) → h.IsListIter I l (j + 1) → refs[argBest (btL true nss) j]? = some vb →
    codeAny (model prog w) A (.builtin "min.loop" ⟨[.ref I, .none, .ref S], []⟩) R { s with heap := h, toks := tk } := by
  have hname : (toString "min" ++ toString ".loop" : String) = "min.loop" := by decide
  intro k
  induction k with
  | zero =>
    intro j h tk vb c oI hk hj Fh N hit hb
    have hjn : j + 1 = refs.length := by omega
    have hI := N (I, oI) (List.mem_cons_of_mem _ List.mem_cons_self)
    have hS := N _ List.mem_cons_self
    refine codeAny_builtin PySem.F.entry_min_loop ?_
    rw [Around.under_plainId PySem.F.plain_min_loop _]
    show wpAny _ A.in1 (seqItems? (.ref S) >>= _) _ _ _
    refine wpAny_bind (wpAny_seqItems hS.1 rfl ?_)
    show wpAny _ A.in1 (tryCatch (pyNext (.ref I)) _ >>= _) _ _ _
    refine wpAny_bind (wpAny_tryCatch (wpAny_pyNext_list_end (l := l) (items := refs.toArray) hh hit ⟨_, N.get (List.mem_cons_of_mem _ (List.mem_cons_of_mem _ hl)), rfl, _, rfl⟩ (by simp; omega) fun h' hx => ?_))
    have hS' := hx S _ hSI hS.1
    show wpAny _ A.in1 (updateSeq S (fun _ => #[]) >>= _) _ _ _
    refine wpAny_bind (wpAny_updateSeq hS' rfl (wpAny_bind (wpAny_letGo (wpAny_pure ?_))))
    have hsb : Heap.SameBut S h' (h'.update S (Obj.mapSeq (fun _ => #[]))) := Heap.SameBut.update ..
    have F1 := Mine.Fr.ext Fh hx hI.2.1.symm hI.2.2
    have N1 : News h₀ L h' led := Mine.News.ext (fun p hp => N p (List.mem_cons_of_mem _ (List.mem_cons_of_mem _ hp))) hx offI
    exact hRes _ tk vb (by rw [← hjn]; exact hb) (F1.change hsb hS.2.1 hS.2.2) fun p hp => ⟨(hsb.2 p.1 (offS p hp)).trans (N1 p hp).1, (N1 p hp).2⟩
  | succ k ih =>
    intro j h tk vb c oI hk hj Fh N hit hb
    have hlt : j + 1 < refs.length := by omega
    have hI := N (I, oI) (List.mem_cons_of_mem _ List.mem_cons_self)
    have hS := N _ List.mem_cons_self
    refine codeAny_builtin PySem.F.entry_min_loop ?_
    rw [Around.under_plainId PySem.F.plain_min_loop _]
    show wpAny _ A.in1 (seqItems? (.ref S) >>= _) _ _ _
    refine wpAny_bind (wpAny_seqItems hS.1 rfl ?_)
    show wpAny _ A.in1 (tryCatch (pyNext (.ref I)) _ >>= _) _ _ _
    refine wpAny_bind (wpAny_tryCatch (wpAny_pyNext_list_item (l := l) (items := refs.toArray) (x := refs[j + 1]) hit ⟨_, N.get (List.mem_cons_of_mem _ (List.mem_cons_of_mem _ hl)), rfl, _, rfl⟩ (by simp [hlt]) fun h' hit' hs' => ?_))
    obtain ⟨oI', ho', hc', hd'⟩ := hit'
    have F1 := Mine.Fr.ext Fh hs'.extBut hI.2.1.symm hI.2.2
    have hS' := hs'.extBut S _ hSI hS.1
    have NL : News h₀ L h' led := Mine.News.ext (fun p hp => N p (List.mem_cons_of_mem _ (List.mem_cons_of_mem _ hp))) hs'.extBut offI
    have N1 : ∀ x c', h'.get? S = some (seqO x c') → News h₀ L h' ((S, seqO x c') :: (I, oI') :: led) := fun x c' e p hp => by
      rcases List.mem_cons.mp hp with rfl | hp
      · exact ⟨e, hS.2⟩
      rcases List.mem_cons.mp hp with rfl | hp
      · exact ⟨ho', hI.2⟩
      · exact NL p hp
    obtain ⟨x, hx1, hx2⟩ := hR.at' (List.getElem?_eq_getElem hlt)
    obtain ⟨y, hy1, hy2⟩ := hR.at' hb
    generalize hvx : refs[j + 1] = vx at hx2 ⊢
    obtain ⟨ax, vsx, nx, rfl, hax, hsx⟩ := hx2
    obtain ⟨ay, vsy, ny, rfl, hay, hsy⟩ := hy2
    show wpAny _ A.in1 (tryCatch (holding [.ref ax, .ref ax] (richCompare .Lt (.ref ax) (.ref ay) >>= _)) _ >>= _) _ _ _
    refine wpAny_bind (wpAny_tryCatch (wpAny_holding (wpAny_bind (rc_list_lt ⟨_, (NL _ hax).1, rfl, _, rfl⟩ ⟨_, (NL _ hay).1, rfl, _, rfl⟩ hsx hsy hu ?_))))
    refine wpAny_bind (wpAny_holding (wpAny_truthy_bool ?_))
    refine wpAny_bind (wpAny_letGo (wpAny_pure ?_))
    have hbt : btL true nss (j + 1) (argBest (btL true nss) j) = ordL true x y := btL_at hx1 hy1
    cases hb' : ordL true x y with
    | true =>
      simp only [if_true]
      refine wpAny_bind (wpAny_updateSeq hS' rfl (wpAny_bind (wpAny_letGo ?_)))
      rw [hname]
      have hsb : Heap.SameBut S h' (h'.update S (Obj.mapSeq (fun _ => #[.ref ax, .ref ax]))) := Heap.SameBut.update ..
      refine wpAny_pure ⟨plainId_quiet PySem.F.plain_min_loop _, ih (j + 1) _ tk (.ref ax) _ oI' (by omega) (by omega) (F1.change hsb hS.2.1 hS.2.2) (News.setHead (N1 _ _ hS') ?_ hsb (Heap.get?_update_self _ hS' rfl)) ⟨oI', ?_, hc', hd'⟩ ?_⟩
      · intro p hp
        rcases List.mem_cons.mp hp with rfl | hp
        · exact hSI.symm
        · exact offS p hp
      · exact (hsb.2 I hSI.symm).trans ho'
      · show refs[if btL true nss (j + 1) (argBest (btL true nss) j) = true then j + 1 else argBest (btL true nss) j]? = _
        rw [hbt, hb', if_pos rfl, ← hvx]; exact List.getElem?_eq_getElem hlt
    | false =>
      simp only [Bool.false_eq_true, if_false]
      refine wpAny_bind (wpAny_letGo ?_)
      rw [hname]
      refine wpAny_pure ⟨plainId_quiet PySem.F.plain_min_loop _, ih (j + 1) _ tk (.ref ay) c oI' (by omega) (by omega) F1 (N1 _ _ hS') ⟨oI', ho', hc', hd'⟩ ?_⟩
      show refs[if btL true nss (j + 1) (argBest (btL true nss) j) = true then j + 1 else argBest (btL true nss) j]? = _
      rw [hbt, hb', if_neg (by decide)]; exact hb
theorem min_rows {l : Addr} {refs : List Value} {nl : Nat} {nss : List (List Str)} {Q : Value → Shared → Prop} (hh : A.handled = none) (Fh : Fr h₀ L s.heap m) (N : News h₀ L s.heap led) (hl : (l, lstO refs nl) ∈ led) (hR : All2 (RowRel led) refs nss) (hne : 0 < refs.length)
    (hu : A.in1.units < cLine)
    (hQ : ∀ h' tk' v, refs[argBest (btL true nss) (refs.length - 1)]? = some v → Fr h₀ L h' m → News h₀ L h' led → Q v { s with heap := h', toks := tk' }) :
    wpAny (model prog w) A (call (.builtin "min") [.ref l]) Q E s := by
  have hname : (toString "min" ++ toString ".loop" : String) = "min.loop" := by decide
  refine call_function_tree PySem.F.kind_min PySem.F.plain_min PySem.F.entry_min (PySem.F.args_min1 _) ?_
  show wpAny _ A.in1 (Builtin.Builtins.bindParams "min" ["key", "default"] 0 ⟨[], []⟩ >>= _) _ _ s
  refine wpAny_bind (wpAny_of_eq (show Builtin.Builtins.bindParams "min" ["key", "default"] 0 ⟨[], []⟩ = pure [none, none] from rfl) ?_)
  refine wpAny_bind (wpAny_pure ?_)
  refine wpAny_bind (wpAny_pyIter_list (items := refs.toArray) ⟨_, (N _ hl).1, rfl, _, rfl⟩ ?_)
  refine wpAny_bind (wpAny_newObj_type ?_)
  rw [hname]
  simp only [Heap.size_push]
  have gI := Heap.get?_push_size s.heap (o := { cls := .type "list_iterator", data := .fields #[.ref l, .int 0 0] }) rfl
  have gS := Heap.get?_push_size (s.heap.push { cls := .type "list_iterator", data := .fields #[.ref l, .int 0 0] }) (o := { cls := .type "list", data := .seq ([] : List Value).toArray }) rfl
  simp only [Heap.size_push] at gS
  have gI' := Heap.get?_push_of_some { cls := .type "list", data := .seq ([] : List Value).toArray } gI
  have F2 := (Fh.push { cls := .type "list_iterator", data := .fields #[.ref l, .int 0 0] }).push { cls := .type "list", data := .seq ([] : List Value).toArray }
  have NL : News h₀ L _ led := (N.grown fun _ _ e => Heap.get?_push_of_some { cls := .type "list", data := .seq ([] : List Value).toArray } (Heap.get?_push_of_some { cls := .type "list_iterator", data := .fields #[.ref l, .int 0 0] } e))
  have hLs := Fh.ns.lt
  have nI : h₀.get? s.heap.objs.size = none := Fh.fresh
  have nS : h₀.get? (s.heap.objs.size + 1) = none := Heap.get?_none_of_le (Nat.le_trans Fh.above (Nat.le_of_lt (Nat.lt_succ_of_lt hLs)))
  have offI : ∀ p ∈ led, p.1 ≠ s.heap.objs.size := item_fresh N
  have offS : ∀ p ∈ led, p.1 ≠ s.heap.objs.size + 1 := fun p hp => Nat.ne_of_lt (Nat.lt_succ_of_lt (Heap.lt_size (N p hp).1))
  have hSI : @Ne Nat (s.heap.objs.size + 1) s.heap.objs.size := by omega
  generalize hH : (s.heap.push { cls := .type "list_iterator", data := .fields #[.ref l, .int 0 0] }).push { cls := .type "list", data := .seq ([] : List Value).toArray } = H at F2 NL gS gI' ⊢
  have hit : H.IsListIter s.heap.objs.size l 0 := ⟨_, gI', rfl, rfl⟩
  refine wpAny_pure ⟨plainId_quiet PySem.F.plain_min_loop _, ?_⟩
  -- the first turn
  refine codeAny_builtin PySem.F.entry_min_loop ?_
  rw [Around.under_plainId PySem.F.plain_min_loop _]
  show wpAny _ A.in1 (seqItems? (.ref (s.heap.objs.size + 1)) >>= _) _ _ _
  refine wpAny_bind (wpAny_seqItems gS rfl ?_)
  show wpAny _ A.in1 (tryCatch (pyNext (.ref s.heap.objs.size)) _ >>= _) _ _ _
  refine wpAny_bind (wpAny_tryCatch (wpAny_pyNext_list_item (l := l) (items := refs.toArray) (x := refs[0]) hit ⟨_, NL.get hl, rfl, _, rfl⟩ (by simp [hne]) fun h' hit' hs' => ?_))
  obtain ⟨oI', ho', hc', hd'⟩ := hit'
  have hS' := hs'.extBut (s.heap.objs.size + 1) _ hSI gS
  have F3 := Mine.Fr.ext F2 hs'.extBut (Nat.ne_of_lt hLs) nI
  have NL3 : News h₀ L h' led := Mine.News.ext NL hs'.extBut offI
  show wpAny _ A.in1 (updateSeq (s.heap.objs.size + 1) (fun _ => #[refs[0], refs[0]]) >>= _) _ _ _
  refine wpAny_bind (wpAny_updateSeq hS' rfl ?_)
  rw [hname]
  have hsb : Heap.SameBut (s.heap.objs.size + 1) h' (h'.update (s.heap.objs.size + 1) (Obj.mapSeq (fun _ => #[refs[0], refs[0]]))) := Heap.SameBut.update ..
  obtain ⟨c0, hc0⟩ : ∃ c, (h'.update (s.heap.objs.size + 1) (Obj.mapSeq (fun _ => #[refs[0], refs[0]]))).get? (s.heap.objs.size + 1) = some (seqO #[refs[0], refs[0]] c) := ⟨_, Heap.get?_update_self _ hS' rfl⟩
  refine wpAny_pure ⟨plainId_quiet PySem.F.plain_min_loop _, min_rows_loop (s := s) (A := A) hh hl hR hSI offS offI hu (fun h' tk' v hv F' N' => hQ h' tk' v hv F' N') _ 0 _ s.toks refs[0] c0 oI' rfl hne (F3.change hsb (Nat.ne_of_gt (Nat.lt_succ_of_lt hLs)) nS) (fun p hp => ?_) ⟨oI', (hsb.2 _ hSI.symm).trans ho', hc', hd'⟩ (List.getElem?_eq_getElem hne)⟩
  rcases List.mem_cons.mp hp with rfl | hp
  · exact ⟨hc0, Nat.ne_of_gt (Nat.lt_succ_of_lt hLs), nS⟩
  rcases List.mem_cons.mp hp with rfl | hp
  · exact ⟨(hsb.2 _ hSI.symm).trans ho', Nat.ne_of_gt hLs, nI⟩
  · exact ⟨(hsb.2 p.1 (offS p hp)).trans (NL3 p hp).1, (NL3 p hp).2⟩
theorem max_rows_loop {R : Result → Shared → Prop} {I S l : Addr} {refs : List Value} {nl : Nat} {nss : List (List Str)} (hh : A.handled = none) (hl : (l, lstO refs nl) ∈ led) (hR : All2 (RowRel led) refs nss)
    (hSI : S ≠ I) (offS : ∀ p ∈ led, p.1 ≠ S) (offI : ∀ p ∈ led, p.1 ≠ I) (hu : A.in1.units < cLine)
    (hRes : ∀ h' tk' v, refs[argBest (btL false nss) (refs.length - 1)]? = some v → Fr h₀ L h' m → News h₀ L h' led → R (.ok (.ret v)) { s with heap := h', toks := tk' }) :
    ∀ (k j : Nat) (h : Heap) (tk : Nat) (vb : Value) (c : Nat) (oI : Obj), refs.length - (j + 1) = k → j + 1 ≤ refs.length → Fr h₀ L h m → News h₀ L h ((S, seqO #[vb, vb] c) :: (I, oI) :: led) → h.IsListIter I l (j + 1) → refs[argBest (btL false nss) j]? = some vb →
    codeAny (model prog w) A (.builtin "max.loop" ⟨[.ref I, .none, .ref S], []⟩) R { s with heap := h, toks := tk } := by
  have hname : (toString "max" ++ toString ".loop" : String) = "max.loop" := by decide
  intro k
  induction k with
  | zero =>
    intro j h tk vb c oI hk hj Fh N hit hb
    have hjn : j + 1 = refs.length := by omega
    have hI := N (I, oI) (List.mem_cons_of_mem _ List.mem_cons_self)
    have hS := N _ List.mem_cons_self
    refine codeAny_builtin PySem.F.entry_max_loop ?_
    rw [Around.under_plainId PySem.F.plain_max_loop _]
    show wpAny _ A.in1 (seqItems? (.ref S) >>= _) _ _ _
    refine wpAny_bind (wpAny_seqItems hS.1 rfl ?_)
    show wpAny _ A.in1 (tryCatch (pyNext (.ref I)) _ >>= _) _ _ _
    refine wpAny_bind (wpAny_tryCatch (wpAny_pyNext_list_end (l := l) (items := refs.toArray) hh hit ⟨_, N.get (List.mem_cons_of_mem _ (List.mem_cons_of_mem _ hl)), rfl, _, rfl⟩ (by simp; omega) fun h' hx => ?_))
    have hS' := hx S _ hSI hS.1
    show wpAny _ A.in1 (updateSeq S (fun _ => #[]) >>= _) _ _ _
    refine wpAny_bind (wpAny_updateSeq hS' rfl (wpAny_bind (wpAny_letGo (wpAny_pure ?_))))
    have hsb : Heap.SameBut S h' (h'.update S (Obj.mapSeq (fun _ => #[]))) := Heap.SameBut.update ..
    have F1 := Mine.Fr.ext Fh hx hI.2.1.symm hI.2.2
    have N1 : News h₀ L h' led := Mine.News.ext (fun p hp => N p (List.mem_cons_of_mem _ (List.mem_cons_of_mem _ hp))) hx offI
    exact hRes _ tk vb (by rw [← hjn]; exact hb) (F1.change hsb hS.2.1 hS.2.2) fun p hp => ⟨(hsb.2 p.1 (offS p hp)).trans (N1 p hp).1, (N1 p hp).2⟩
  | succ k ih =>
    intro j h tk vb c oI hk hj Fh N hit hb
    have hlt : j + 1 < refs.length := by omega
    have hI := N (I, oI) (List.mem_cons_of_mem _ List.mem_cons_self)
    have hS := N _ List.mem_cons_self
    refine codeAny_builtin PySem.F.entry_max_loop ?_
    rw [Around.under_plainId PySem.F.plain_max_loop _]
    show wpAny _ A.in1 (seqItems? (.ref S) >>= _) _ _ _
    refine wpAny_bind (wpAny_seqItems hS.1 rfl ?_)
    show wpAny _ A.in1 (tryCatch (pyNext (.ref I)) _ >>= _) _ _ _
    refine wpAny_bind (wpAny_tryCatch (wpAny_pyNext_list_item (l := l) (items := refs.toArray) (x := refs[j + 1]) hit ⟨_, N.get (List.mem_cons_of_mem _ (List.mem_cons_of_mem _ hl)), rfl, _, rfl⟩ (by simp [hlt]) fun h' hit' hs' => ?_))
    obtain ⟨oI', ho', hc', hd'⟩ := hit'
    have F1 := Mine.Fr.ext Fh hs'.extBut hI.2.1.symm hI.2.2
    have hS' := hs'.extBut S _ hSI hS.1
    have NL : News h₀ L h' led := Mine.News.ext (fun p hp => N p (List.mem_cons_of_mem _ (List.mem_cons_of_mem _ hp))) hs'.extBut offI
    have N1 : ∀ x c', h'.get? S = some (seqO x c') → News h₀ L h' ((S, seqO x c') :: (I, oI') :: led) := fun x c' e p hp => by
      rcases List.mem_cons.mp hp with rfl | hp
      · exact ⟨e, hS.2⟩
      rcases List.mem_cons.mp hp with rfl | hp
      · exact ⟨ho', hI.2⟩
      · exact NL p hp
    obtain ⟨x, hx1, hx2⟩ := hR.at' (List.getElem?_eq_getElem hlt)
    obtain ⟨y, hy1, hy2⟩ := hR.at' hb
    generalize hvx : refs[j + 1] = vx at hx2 ⊢
    obtain ⟨ax, vsx, nx, rfl, hax, hsx⟩ := hx2
    obtain ⟨ay, vsy, ny, rfl, hay, hsy⟩ := hy2
    show wpAny _ A.in1 (tryCatch (holding [.ref ax, .ref ax] (richCompare .Gt (.ref ax) (.ref ay) >>= _)) _ >>= _) _ _ _
    refine wpAny_bind (wpAny_tryCatch (wpAny_holding (wpAny_bind (rc_list_gt ⟨_, (NL _ hax).1, rfl, _, rfl⟩ ⟨_, (NL _ hay).1, rfl, _, rfl⟩ hsx hsy hu ?_))))
    refine wpAny_bind (wpAny_holding (wpAny_truthy_bool ?_))
    refine wpAny_bind (wpAny_letGo (wpAny_pure ?_))
    have hbt : btL false nss (j + 1) (argBest (btL false nss) j) = ordL false x y := btL_at hx1 hy1
    cases hb' : ordL false x y with
    | true =>
      simp only [if_true]
      refine wpAny_bind (wpAny_updateSeq hS' rfl (wpAny_bind (wpAny_letGo ?_)))
      rw [hname]
      have hsb : Heap.SameBut S h' (h'.update S (Obj.mapSeq (fun _ => #[.ref ax, .ref ax]))) := Heap.SameBut.update ..
      refine wpAny_pure ⟨plainId_quiet PySem.F.plain_max_loop _, ih (j + 1) _ tk (.ref ax) _ oI' (by omega) (by omega) (F1.change hsb hS.2.1 hS.2.2) (News.setHead (N1 _ _ hS') ?_ hsb (Heap.get?_update_self _ hS' rfl)) ⟨oI', ?_, hc', hd'⟩ ?_⟩
      · intro p hp
        rcases List.mem_cons.mp hp with rfl | hp
        · exact hSI.symm
        · exact offS p hp
      · exact (hsb.2 I hSI.symm).trans ho'
      · show refs[if btL false nss (j + 1) (argBest (btL false nss) j) = true then j + 1 else argBest (btL false nss) j]? = _
        rw [hbt, hb', if_pos rfl, ← hvx]; exact List.getElem?_eq_getElem hlt
    | false =>
      simp only [Bool.false_eq_true, if_false]
      refine wpAny_bind (wpAny_letGo ?_)
      rw [hname]
      refine wpAny_pure ⟨plainId_quiet PySem.F.plain_max_loop _, ih (j + 1) _ tk (.ref ay) c oI' (by omega) (by omega) F1 (N1 _ _ hS') ⟨oI', ho', hc', hd'⟩ ?_⟩
      show refs[if btL false nss (j + 1) (argBest (btL false nss) j) = true then j + 1 else argBest (btL false nss) j]? = _
      rw [hbt, hb', if_neg (by decide)]; exact hb
theorem max_rows {l : Addr} {refs : List Value} {nl : Nat} {nss : List (List Str)} {Q : Value → Shared → Prop} (hh : A.handled = none) (Fh : Fr h₀ L s.heap m) (N : News h₀ L s.heap led) (hl : (l, lstO refs nl) ∈ led) (hR : All2 (RowRel led) refs nss) (hne : 0 < refs.length)
    (hu : A.in1.units < cLine)
    (hQ : ∀ h' tk' v, refs[argBest (btL false nss) (refs.length - 1)]? = some v → Fr h₀ L h' m → News h₀ L h' led → Q v { s with heap := h', toks := tk' }) :
    wpAny (model prog w) A (call (.builtin "max") [.ref l]) Q E s := by
  have hname : (toString "max" ++ toString ".loop" : String) = "max.loop" := by decide
  refine call_function_tree PySem.F.kind_max PySem.F.plain_max PySem.F.entry_max (PySem.F.args_max1 _) ?_
  show wpAny _ A.in1 (Builtin.Builtins.bindParams "max" ["key", "default"] 0 ⟨[], []⟩ >>= _) _ _ s
  refine wpAny_bind (wpAny_of_eq (show Builtin.Builtins.bindParams "max" ["key", "default"] 0 ⟨[], []⟩ = pure [none, none] from rfl) ?_)
  refine wpAny_bind (wpAny_pure ?_)
  refine wpAny_bind (wpAny_pyIter_list (items := refs.toArray) ⟨_, (N _ hl).1, rfl, _, rfl⟩ ?_)
  refine wpAny_bind (wpAny_newObj_type ?_)
  rw [hname]
  simp only [Heap.size_push]
  have gI := Heap.get?_push_size s.heap (o := { cls := .type "list_iterator", data := .fields #[.ref l, .int 0 0] }) rfl
  have gS := Heap.get?_push_size (s.heap.push { cls := .type "list_iterator", data := .fields #[.ref l, .int 0 0] }) (o := { cls := .type "list", data := .seq ([] : List Value).toArray }) rfl
  simp only [Heap.size_push] at gS
  have gI' := Heap.get?_push_of_some { cls := .type "list", data := .seq ([] : List Value).toArray } gI
  have F2 := (Fh.push { cls := .type "list_iterator", data := .fields #[.ref l, .int 0 0] }).push { cls := .type "list", data := .seq ([] : List Value).toArray }
  have NL : News h₀ L _ led := (N.grown fun _ _ e => Heap.get?_push_of_some { cls := .type "list", data := .seq ([] : List Value).toArray } (Heap.get?_push_of_some { cls := .type "list_iterator", data := .fields #[.ref l, .int 0 0] } e))
  have hLs := Fh.ns.lt
  have nI : h₀.get? s.heap.objs.size = none := Fh.fresh
  have nS : h₀.get? (s.heap.objs.size + 1) = none := Heap.get?_none_of_le (Nat.le_trans Fh.above (Nat.le_of_lt (Nat.lt_succ_of_lt hLs)))
  have offI : ∀ p ∈ led, p.1 ≠ s.heap.objs.size := item_fresh N
  have offS : ∀ p ∈ led, p.1 ≠ s.heap.objs.size + 1 := fun p hp => Nat.ne_of_lt (Nat.lt_succ_of_lt (Heap.lt_size (N p hp).1))
  have hSI : @Ne Nat (s.heap.objs.size + 1) s.heap.objs.size := by omega
  generalize hH : (s.heap.push { cls := .type "list_iterator", data := .fields #[.ref l, .int 0 0] }).push { cls := .type "list", data := .seq ([] : List Value).toArray } = H at F2 NL gS gI' ⊢
  have hit : H.IsListIter s.heap.objs.size l 0 := ⟨_, gI', rfl, rfl⟩
  refine wpAny_pure ⟨plainId_quiet PySem.F.plain_max_loop _, ?_⟩
  -- the first turn
  refine codeAny_builtin PySem.F.entry_max_loop ?_
  rw [Around.under_plainId PySem.F.plain_max_loop _]
  show wpAny _ A.in1 (seqItems? (.ref (s.heap.objs.size + 1)) >>= _) _ _ _
  refine wpAny_bind (wpAny_seqItems gS rfl ?_)
  show wpAny _ A.in1 (tryCatch (pyNext (.ref s.heap.objs.size)) _ >>= _) _ _ _
  refine wpAny_bind (wpAny_tryCatch (wpAny_pyNext_list_item (l := l) (items := refs.toArray) (x := refs[0]) hit ⟨_, NL.get hl, rfl, _, rfl⟩ (by simp [hne]) fun h' hit' hs' => ?_))
  obtain ⟨oI', ho', hc', hd'⟩ := hit'
  have hS' := hs'.extBut (s.heap.objs.size + 1) _ hSI gS
  have F3 := Mine.Fr.ext F2 hs'.extBut (Nat.ne_of_lt hLs) nI
  have NL3 : News h₀ L h' led := Mine.News.ext NL hs'.extBut offI
  show wpAny _ A.in1 (updateSeq (s.heap.objs.size + 1) (fun _ => #[refs[0], refs[0]]) >>= _) _ _ _
  refine wpAny_bind (wpAny_updateSeq hS' rfl ?_)
  rw [hname]
  have hsb : Heap.SameBut (s.heap.objs.size + 1) h' (h'.update (s.heap.objs.size + 1) (Obj.mapSeq (fun _ => #[refs[0], refs[0]]))) := Heap.SameBut.update ..
  obtain ⟨c0, hc0⟩ : ∃ c, (h'.update (s.heap.objs.size + 1) (Obj.mapSeq (fun _ => #[refs[0], refs[0]]))).get? (s.heap.objs.size + 1) = some (seqO #[refs[0], refs[0]] c) := ⟨_, Heap.get?_update_self _ hS' rfl⟩
  refine wpAny_pure ⟨plainId_quiet PySem.F.plain_max_loop _, max_rows_loop (s := s) (A := A) hh hl hR hSI offS offI hu (fun h' tk' v hv F' N' => hQ h' tk' v hv F' N') _ 0 _ s.toks refs[0] c0 oI' rfl hne (F3.change hsb (Nat.ne_of_gt (Nat.lt_succ_of_lt hLs)) nS) (fun p hp => ?_) ⟨oI', (hsb.2 _ hSI.symm).trans ho', hc', hd'⟩ (List.getElem?_eq_getElem hne)⟩
  rcases List.mem_cons.mp hp with rfl | hp
  · exact ⟨hc0, Nat.ne_of_gt (Nat.lt_succ_of_lt hLs), nS⟩
  rcases List.mem_cons.mp hp with rfl | hp
  · exact ⟨(hsb.2 _ hSI.symm).trans ho', Nat.ne_of_gt hLs, nI⟩
  · exact ⟨(hsb.2 p.1 (offS p hp)).trans (NL3 p hp).1, (NL3 p hp).2⟩
end
end Mine
end
section
open PySem.Calls PySem.Spec
namespace Mine
theorem str_eq_of {x y : Str} (h : x.cps.toList = y.cps.toList) : x = y := by
  obtain ⟨⟨x⟩⟩ := x; obtain ⟨⟨y⟩⟩ := y
  simp only at h; subst h; rfl
theorem ordS_irrefl (x : Str) : ordS true x x = false := by
  show decide (x.cps.toList < x.cps.toList) = false
  exact decide_eq_false (List.lt_irrefl _)
theorem ordS_trans {x y z : Str} (h1 : ordS true x y = true) (h2 : ordS true y z = true) : ordS true x z = true := by
  have a : x.cps.toList < y.cps.toList := of_decide_eq_true h1
  have b : y.cps.toList < z.cps.toList := of_decide_eq_true h2
  exact decide_eq_true (List.lt_trans a b)
theorem ordS_tri {x y : Str} (h1 : ordS true x y = false) (h2 : ordS true y x = false) : x = y := by
  have a : ¬ x.cps.toList < y.cps.toList := of_decide_eq_false h1
  have b : ¬ y.cps.toList < x.cps.toList := of_decide_eq_false h2
  exact str_eq_of (List.le_antisymm (List.not_lt.mp b) (List.not_lt.mp a))
theorem ordL_swap : ∀ xs ys : List Str, ordL false xs ys = ordL true ys xs
  | [], [] => rfl
  | [], _ :: _ => rfl
  | _ :: _, [] => rfl
  | x :: xs, y :: ys => by
    unfold ordL
    by_cases h : x = y
    · rw [if_pos h, if_pos h.symm]; exact ordL_swap xs ys
    · rw [if_neg h, if_neg (Ne.symm h)]; rfl
theorem ordL_irrefl : ∀ xs : List Str, ordL true xs xs = false
  | [] => rfl
  | x :: xs => by unfold ordL; rw [if_pos rfl]; exact ordL_irrefl xs
theorem ordL_trans : ∀ {xs ys zs : List Str}, ordL true xs ys = true → ordL true ys zs = true → ordL true xs zs = true
  | [], [], _, h, _ => by cases h
  | [], _ :: _, [], _, h => by cases h
  | [], _ :: _, _ :: _, _, _ => rfl
  | _ :: _, [], _, h, _ => by cases h
  | _ :: _, _ :: _, [], _, h => by cases h
  | x :: xs, y :: ys, z :: zs, h1, h2 => by
    unfold ordL at h1 h2 ⊢
    by_cases e1 : x = y
    · subst e1
      rw [if_pos rfl] at h1
      by_cases e2 : x = z
      · rw [if_pos e2] at h2 ⊢; exact ordL_trans h1 h2
      · rw [if_neg e2] at h2 ⊢; exact h2
    · rw [if_neg e1] at h1
      by_cases e2 : y = z
      · subst e2
        rw [if_neg e1]; exact h1
      · rw [if_neg e2] at h2
        have h3 := ordS_trans h1 h2
        by_cases e3 : x = z
        · subst e3; rw [ordS_irrefl] at h3; cases h3
        · rw [if_neg e3]; exact h3
theorem argBest_le' (bt : Nat → Nat → Bool) : ∀ k, argBest bt k ≤ k
  | 0 => Nat.le_refl _
  | k + 1 => by
    unfold argBest
    split
    · exact Nat.le_refl _
    · exact Nat.le_succ_of_le (argBest_le' bt k)
theorem argBest_ok {bt : Nat → Nat → Bool} (ir : ∀ i, bt i i = false) (tr : ∀ i j k, bt i j = true → bt j k = true → bt i k = true) : ∀ k i, i ≤ k → bt i (argBest bt k) = false
  | 0, i, h => by obtain rfl : i = 0 := by omega
                  exact ir 0
  | k + 1, i, h => by
    unfold argBest
    cases hb : bt (k + 1) (argBest bt k) with
    | true =>
      rw [if_pos rfl]
      by_cases e : i = k + 1
      · subst e; exact ir _
      · cases hi : bt i (k + 1) with
        | false => rfl
        | true =>
          have := argBest_ok ir tr k i (by omega)
          rw [tr _ _ _ hi hb] at this; cases this
    | false =>
      rw [if_neg (by decide)]
      by_cases e : i = k + 1
      · subst e; exact hb
      · exact argBest_ok ir tr k i (by omega)
theorem btL_ir (up : Bool) (nss : List (List Str)) (i : Nat) : btL up nss i i = false := by
  unfold btL
  cases up with
  | true => exact ordL_irrefl _
  | false => rw [ordL_swap]; exact ordL_irrefl _
theorem btL_tr (up : Bool) (nss : List (List Str)) (i j k : Nat) (h1 : btL up nss i j = true) (h2 : btL up nss j k = true) : btL up nss i k = true := by
  unfold btL at *
  cases up with
  | true => exact ordL_trans h1 h2
  | false =>
    rw [ordL_swap] at h1 h2 ⊢
    exact ordL_trans h2 h1
/-- the best row: it is one of them, and none comes ahead of it -/
theorem best_row {up : Bool} {nss : List (List Str)} {n : Nat} (hn : n = nss.length) (h0 : 0 < n) : ∃ r, nss[argBest (btL up nss) (n - 1)]? = some r ∧ r ∈ nss ∧ ∀ q ∈ nss, ordL up q r = false := by
  subst hn
  have hlt : argBest (btL up nss) (nss.length - 1) < nss.length := Nat.lt_of_le_of_lt (argBest_le' _ _) (by omega)
  refine ⟨_, List.getElem?_eq_getElem hlt, List.getElem_mem hlt, fun q hq => ?_⟩
  obtain ⟨i, hi, rfl⟩ := List.getElem_of_mem hq
  have := argBest_ok (btL_ir up nss) (btL_tr up nss) (nss.length - 1) i (by omega)
  rwa [btL_at (List.getElem?_eq_getElem hi) (List.getElem?_eq_getElem hlt)] at this
theorem squeeze : ∀ {k : Nat} {lo hi r : List Str}, lo.take k = hi.take k → ordL true r lo = false → ordL true hi r = false → r.take k = lo.take k
  | 0, _, _, _, _, _, _ => by rw [List.take_zero, List.take_zero]
  | k + 1, [], hi, r, h, _, h2 => by
    cases hi with
    | cons b hi => simp at h
    | nil => cases r with
      | nil => rfl
      | cons c r => cases h2
  | k + 1, a :: lo, [], r, h, _, _ => by simp at h
  | k + 1, a :: lo, b :: hi, [], h, h1, _ => by cases h1
  | k + 1, a :: lo, b :: hi, c :: r, h, h1, h2 => by
    rw [List.take_succ_cons, List.take_succ_cons] at h
    injection h with hab h
    subst hab
    unfold ordL at h1 h2
    by_cases e : c = a
    · subst e
      rw [if_pos rfl] at h1 h2
      rw [List.take_succ_cons, List.take_succ_cons, squeeze h h1 h2]
    · rw [if_neg e] at h1
      rw [if_neg (Ne.symm e)] at h2
      exact absurd (ordS_tri h1 h2) e
/-- as far as the least row goes with the greatest, the greatest does not end -/
theorem goes_on {i : Nat} {lo hi : List Str} (h : lo.take i = hi.take i) (h1 : i < lo.length) (h2 : ordL false lo hi = false) : i < hi.length := by
  rw [ordL_swap] at h2
  revert lo hi
  induction i with
  | zero =>
    intro lo hi _ h1 h2
    cases hi with
    | nil => cases lo with
      | nil => simp at h1
      | cons a lo => cases h2
    | cons b hi => simp
  | succ i ih =>
    intro lo hi h h1 h2
    cases lo with
    | nil => simp at h1
    | cons a lo =>
      cases hi with
      | nil => simp at h
      | cons b hi =>
        rw [List.take_succ_cons, List.take_succ_cons] at h
        injection h with hab h
        subst hab
        unfold ordL at h2
        rw [if_pos rfl] at h2
        have := ih h (by simpa using h1) h2
        simpa using this
theorem shared_of_ends {nss : List (List Str)} {lo hi : List Str} {k : Nat} (hhi : hi ∈ nss) (h1 : ∀ q ∈ nss, ordL true q lo = false) (h2 : ∀ q ∈ nss, ordL false q hi = false) (hk : k ≤ lo.length) (ht : lo.take k = hi.take k)
    (he : k = lo.length ∨ lo.take (k + 1) ≠ hi.take (k + 1)) : IsShared nss lo k :=
  ⟨hk, fun r hr => squeeze ht (h1 r hr) (by have := h2 r hr; rwa [ordL_swap] at this), he.elim .inl fun e => .inr ⟨hi, hhi, Ne.symm e⟩⟩
theorem shared_le {nss : List (List Str)} {a b : List Str} {k j : Nat} (ha : a ∈ nss) (hb : b ∈ nss) (h1 : IsShared nss a k) (h2 : IsShared nss b j) : j ≤ k := by
  obtain ⟨k1, k2, k3⟩ := h1
  obtain ⟨j1, j2, j3⟩ := h2
  rcases Nat.lt_or_ge k j with hlt | hge
  · exfalso
    have eb := j2 a ha
    rcases k3 with rfl | ⟨r, hr, hne⟩
    · have := congrArg List.length eb
      rw [List.length_take, List.length_take] at this
      omega
    · refine hne ?_
      have er := j2 r hr
      have e1 : r.take (k + 1) = (r.take j).take (k + 1) := by rw [List.take_take]; congr 1; omega
      have e2 : a.take (k + 1) = (a.take j).take (k + 1) := by rw [List.take_take]; congr 1; omega
      rw [e1, e2, er, eb]
  · exact hge
/-- what all rows share is one list -/
theorem shared_one {nss : List (List Str)} {a b : List Str} {k j : Nat} (ha : a ∈ nss) (hb : b ∈ nss) (h1 : IsShared nss a k) (h2 : IsShared nss b j) : a.take k = b.take j := by
  have e : k = j := Nat.le_antisymm (shared_le hb ha h2 h1) (shared_le ha hb h1 h2)
  subst e
  exact (h2.2.1 a ha)
end Mine
end
section
open PySem.Calls PySem.Spec
namespace Mine
def nonDot (c : Str) : Bool := decide (c ≠ Str.ofString "") && decide (c ≠ Str.ofString ".")
/-- all that commonpath asks of a text that stands for names -/
structure GoodPath (x : Str) (ns : List Str) : Prop where
  short : x.length ≤ 1000
  starts : Txt.startswith x (Str.ofString "/") = true
  parts : (Txt.split x (Str.ofString "/")).filter nonDot = ns
  nparts : (Txt.split x (Str.ofString "/")).length ≤ 1000
  weighs : weigh ns ≤ 1000
  plens : ∀ c ∈ Txt.split x (Str.ofString "/"), c.length ≤ 1000
def goodPath (x : Str) (ns : List Str) : Bool := decide (x.length ≤ 1000) && Txt.startswith x (Str.ofString "/") && decide ((Txt.split x (Str.ofString "/")).filter nonDot = ns) && decide ((Txt.split x (Str.ofString "/")).length ≤ 1000) && decide (weigh ns ≤ 1000) && (Txt.split x (Str.ofString "/")).all fun c => decide (c.length ≤ 1000)
theorem goodPath_of {x : Str} {ns : List Str} (h : goodPath x ns = true) : GoodPath x ns := by
  unfold goodPath at h
  simp only [Bool.and_eq_true] at h
  obtain ⟨⟨⟨⟨⟨h1, h2⟩, h3⟩, h4⟩, h5⟩, h6⟩ := h
  exact ⟨of_decide_eq_true h1, h2, of_decide_eq_true h3, of_decide_eq_true h4, of_decide_eq_true h5, fun c hc => of_decide_eq_true (List.all_eq_true.mp h6 c hc)⟩
def StrRel (v : Value) (x : Str) : Prop := ∃ t, v = .str x t
theorem all2_strs : ∀ {vs : List Value} {xs : List Str}, StrsAre vs xs → All2 StrRel vs xs
  | _, _, .nil => .nil
  | _, _, .cons y t r => .cons ⟨t, rfl⟩ (all2_strs r)
theorem strs_all2 : ∀ {vs : List Value} {xs : List Str}, All2 StrRel vs xs → StrsAre vs xs
  | _, _, .nil => .nil
  | _, _, .cons h r => by obtain ⟨t, rfl⟩ := h; exact .cons _ t (strs_all2 r)
theorem good_short {x : Str} {ns : List Str} (h : GoodPath x ns) : x.length ≤ 5000 := Nat.le_trans h.short (by decide)
theorem all2_mem {α β : Type} {R : α → β → Prop} : ∀ {as : List α} {bs : List β}, All2 R as bs → ∀ a ∈ as, ∃ b ∈ bs, R a b
  | _, _, .nil, a, h => by cases h
  | _, _, .cons x r, a, h => by
    rcases List.mem_cons.mp h with rfl | h
    · exact ⟨_, List.mem_cons_self, x⟩
    · obtain ⟨b, hb, hr⟩ := all2_mem r a h
      exact ⟨b, List.mem_cons_of_mem _ hb, hr⟩
theorem all2_mem' {α β : Type} {R : α → β → Prop} : ∀ {as : List α} {bs : List β}, All2 R as bs → ∀ b ∈ bs, ∃ a ∈ as, R a b
  | _, _, .nil, a, h => by cases h
  | _, _, .cons x r, b, h => by
    rcases List.mem_cons.mp h with rfl | h
    · exact ⟨_, List.mem_cons_self, x⟩
    · obtain ⟨a, ha, hr⟩ := all2_mem' r b h
      exact ⟨a, List.mem_cons_of_mem _ ha, hr⟩
theorem all2_map {α β γ : Type} {R : α → β → Prop} {S : γ → β → Prop} {f : α → γ} (h : ∀ a b, R a b → S (f a) b) : ∀ {as : List α} {bs : List β}, All2 R as bs → All2 S (as.map f) bs
  | _, _, .nil => .nil
  | _, _, .cons x r => .cons (h _ _ x) (all2_map h r)
/-- a row of the parts of a path -/
def partsOf (x : Str) : List Str := Txt.split x (Str.ofString "/")
/-- parts that a path is cut into, before the empty ones go -/
def PartsRel (led : List (Addr × Obj)) (v : Value) (x : Str) : Prop := RowRel led v (partsOf x)
end Mine
end
section
open PySem.Calls PySem.Spec
namespace Mine
section
variable {prog : Program} {w : World} {A : Around} {E : Value → Shared → Prop} {s : Shared} {env : Env} {h₀ : Heap} {Q : Flow → Shared → Prop}
theorem agree2 {xa xb : Str} {va vb : Option Value} {m m₁ : Str → Option Value} (h : Agree [xa, xb] m m₁) :
    (fun y => if y = xb then vb else if y = xa then va else m₁ y) = fun y => if y = xb then vb else if y = xa then va else m y := by
  funext y
  by_cases h1 : y = xb
  · simp [h1]
  · by_cases h2 : y = xa
    · simp [h2]
    · simp only [h1, h2, if_false]; exact h y (by simp [h1, h2])
theorem agree2_of {xa xb : Str} {va vb : Option Value} {m : Str → Option Value} : Agree [xa, xb] m (fun y => if y = xb then vb else if y = xa then va else m y) := fun z hz => by
  have h1 : z ≠ xb := fun e => hz (by simp [e])
  have h2 : z ≠ xa := fun e => hz (by simp [e])
  simp [h1, h2]
/-- the end of a turn of enumerate over a list of the ledger: the ledger and the map stay -/
def EnumEndL (h₀ : Heap) (L : Addr) (S : List Str) (m : Str → Option Value) (led : List (Addr × Obj)) (J : Prop) (s : Shared) (Q : Flow → Shared → Prop) (f : Flow) (s₂ : Shared) : Prop :=
  match f with
  | .ret v => Q (.ret v) s₂
  | .brk => Q .next s₂
  | _ => ∃ h' tk' m', s₂ = { s with heap := h', toks := tk' } ∧ Fr h₀ L h' m' ∧ News h₀ L h' led ∧ Agree S m m' ∧ J
theorem loopEnumL {L l e it : Addr} {xa xb : Str} {pa pb pt : Pos} {k nl : Nat} {body : List Stmt} {refs : List Value} {m : Str → Option Value} {rest : List (Addr × Obj)} (hLe : env.locals = L)
    (hxa : env.kindOf xa = some .local) (hxb : env.kindOf xb = some .local) (hp : (env.scope.kind == .class || (env.scope.kind == .module && env.locals != env.globals)) = false) (hh : A.handled = none)
    (hl : (l, lstO refs nl) ∈ rest) (F : Fr h₀ L s.heap m) (N : News h₀ L s.heap rest)
    (he : IsEnum s.heap e it 0 .none) (hit : s.heap.IsListIter it l 0) (hei : e ≠ it) (he₀ : h₀.get? e = none) (hi₀ : h₀.get? it = none) (heL : e ≠ L) (hiL : it ≠ L)
    (off : ∀ p ∈ rest, p.1 ≠ e ∧ p.1 ≠ it)
    (J : Nat → Prop) (j0 : J 0)
    (turn : ∀ j v oe oi t₁ h tk (E' : Value → Shared → Prop), refs[j]? = some v → J j →
      Fr h₀ L h (fun y => if y = xb then some v else if y = xa then some (.int j t₁) else m y) → News h₀ L h ((e, oe) :: (it, oi) :: rest) →
      wpAny (model prog w) A (execs body env) (EnumEndL h₀ L [xa, xb] m ((e, oe) :: (it, oi) :: rest) (J (j + 1)) { s with heap := h, toks := tk } Q) E' { s with heap := h, toks := tk })
    (done : ∀ m' h tk, J refs.length → Fr h₀ L h m' → Agree [xa, xb] m m' → News h₀ L h rest → Q .next { s with heap := h, toks := tk }) :
    codeAny (model prog w) A (.forLoop (.Tuple [.Name xa pa, .Name xb pb] k pt) (.ref e) body [] env) (fun r s' => match r with | .ok f => Q f s' | .error e => cameBackBy (model prog w) A env E e s') s := by
  subst hLe
  refine codeAny_forLoop_any (fun n s' => ∃ h tk j m₁ old, s' = { s with heap := h, toks := tk } ∧ j ≤ refs.length ∧ n = refs.length + 1 - j ∧ IsEnum h e it ((j : Nat) : Int) old ∧ h.IsListIter it l j ∧
      Fr h₀ env.locals h m₁ ∧ Agree [xa, xb] m m₁ ∧ News h₀ env.locals h rest ∧ J j) ?_ (refs.length + 1)
      ⟨s.heap, s.toks, 0, m, .none, rfl, Nat.zero_le _, rfl, he, hit, F, fun _ _ => rfl, N, j0⟩
  rintro n s' ⟨h, tk, j, m₁, old, rfl, hj, rfl, he', hit', F', ag, N', hJ⟩
  have hlist : h.IsList l refs.toArray := ⟨_, (N' _ hl).1, rfl, _, rfl⟩
  cases hv : refs.toArray[j]? with
  | none =>
    have hje : j = refs.length := by
      have : refs[j]? = none := by simpa using hv
      have := List.getElem?_eq_none_iff.mp this
      omega
    refine wpAny_pyNext_enum_end hh he' hit' hlist hv fun h' hx => wpAny_execs_nil ?_
    exact done m₁ h' tk (hje ▸ hJ) (Fr.ext F' hx (Ne.symm hiL) hi₀) ag (News.ext N' hx fun p hp => (off p hp).2)
  | some x =>
    have hv' : refs[j]? = some x := by simpa using hv
    have hjl : j < refs.length := (List.getElem?_eq_some_iff.mp hv').1
    refine wpAny_pyNext_enum_item he' hit' hlist hv hei fun h₁ heo hit₁ hpair hsz hkeep => ?_
    have F₁ : Fr h₀ env.locals h₁ m₁ := by
      refine ⟨F'.ns.at' fun o e' => hkeep _ o (Ne.symm heL) (Ne.symm hiL) e', fun b o e' => hkeep b o (fun q => ?_) (fun q => ?_) (F'.keep b o e'), F'.above⟩
      · rw [q, he₀] at e'; cases e'
      · rw [q, hi₀] at e'; cases e'
    have N₁ : News h₀ env.locals h₁ rest := fun p hp => ⟨hkeep _ _ (off p hp).1 (off p hp).2 (N' p hp).1, (N' p hp).2⟩
    refine wpAny_letOwnedTupleGo_enum heo fun h₂ he₂ hs₂ => ?_
    replace hs₂ : Heap.SameBut e h₁ h₂ := hs₂
    have F₂ : Fr h₀ env.locals h₂ m₁ := Fr.ext F₁ hs₂.extBut (Ne.symm heL) he₀
    have N₂ : News h₀ env.locals h₂ rest := News.ext N₁ hs₂.extBut fun p hp => (off p hp).1
    have hep : h.objs.size ≠ e := Nat.ne_of_gt (Heap.lt_size he')
    have pair₂ : h₂.IsTuple h.objs.size #[.int j tk, x] := ⟨_, hs₂.extBut _ _ hep hpair, rfl, _, rfl⟩
    have iter₂ : h₂.IsListIter it l (j + 1) := hit₁.extBut hs₂.extBut (Ne.symm hei)
    refine store_two rfl hxa hxb hp hh F₂ N₂ pair₂ fun h₃ tk₃ F₃ N₃ k₃ => ?_
    rw [agree2 ag] at F₃
    obtain ⟨oi, hoi, ri⟩ := iter₂
    have hoi₃ := k₃ it oi hiL hoi
    have he₃ : h₃.get? e = some (enumObj it ((j : Int) + 1) x) := k₃ e _ heL he₂
    have N₄ : News h₀ env.locals h₃ ((e, enumObj it ((j : Int) + 1) x) :: (it, oi) :: rest) := fun p hp => by
      rcases List.mem_cons.mp hp with rfl | hp
      · exact ⟨he₃, heL, he₀⟩
      · rcases List.mem_cons.mp hp with rfl | hp
        · exact ⟨hoi₃, hiL, hi₀⟩
        · exact N₃ _ hp
    refine wpAny_mono (turn j x _ oi tk h₃ tk₃ _ hv' hJ F₃ N₄) (fun f s₃ p => ?_) fun _ _ e => e
    have fin : (∃ h' tk' m', s₃ = { s with heap := h', toks := tk' } ∧ Fr h₀ env.locals h' m' ∧ News h₀ env.locals h' ((e, enumObj it ((j : Int) + 1) x) :: (it, oi) :: rest) ∧ Agree [xa, xb] m m' ∧ J (j + 1)) →
        ∃ n', n' < refs.length + 1 - j ∧ ∃ h tk j m₁ old, s₃ = { s with heap := h, toks := tk } ∧ j ≤ refs.length ∧ n' = refs.length + 1 - j ∧ IsEnum h e it ((j : Nat) : Int) old ∧ h.IsListIter it l j ∧
          Fr h₀ env.locals h m₁ ∧ Agree [xa, xb] m m₁ ∧ News h₀ env.locals h rest ∧ J j := by
      rintro ⟨h₅, tk₅, m', e', F₅, N₅, ag', hJ'⟩
      exact ⟨refs.length + 1 - (j + 1), by omega, h₅, tk₅, j + 1, m', x, e', hjl, rfl, (N₅ _ List.mem_cons_self).1, ⟨oi, (N₅ _ (List.mem_cons_of_mem _ List.mem_cons_self)).1, ri⟩, F₅, ag',
        fun p hp => N₅ _ (List.mem_cons_of_mem _ (List.mem_cons_of_mem _ hp)), hJ'⟩
    cases f with
    | ret v => exact p
    | brk => exact p
    | next => exact fin p
    | cont => exact fin p
end
section
variable {prog : Program} {w : World} {A : Around} {E : Value → Shared → Prop} {s : Shared} {h₀ : Heap} {L : Addr} {m : Str → Option Value} {led : List (Addr × Obj)}
theorem min_led {l : Addr} {refs : List Value} {nl : Nat} {nss : List (List Str)} {Q : Value → Shared → Prop} (hh : A.handled = none) (Fh : Fr h₀ L s.heap m) (N : News h₀ L s.heap led) (hl : (l, lstO refs nl) ∈ led) (hR : All2 (RowRel led) refs nss) (hne : 0 < refs.length)
    (hu : A.in1.units < cLine)
    (hQ : ∀ a vs n r h' tk', (a, lstO vs n) ∈ led → StrsAre vs r → r ∈ nss → (∀ q ∈ nss, ordL true q r = false) → Fr h₀ L h' m → News h₀ L h' led → Q (.ref a) { s with heap := h', toks := tk' }) :
    wpAny (model prog w) A (call (.builtin "min") [.ref l]) Q E s :=
  min_rows hh Fh N hl hR hne hu fun h' tk' v hv F' N' => by
    obtain ⟨r, hr1, hr2, hr3⟩ := best_row (up := true) hR.len hne
    obtain ⟨r', e, a, vs, n, rfl, hm, hs⟩ := hR.at' hv
    rw [hr1] at e; cases e
    exact hQ a vs n r h' tk' hm hs hr2 hr3 F' N'
theorem max_led {l : Addr} {refs : List Value} {nl : Nat} {nss : List (List Str)} {Q : Value → Shared → Prop} (hh : A.handled = none) (Fh : Fr h₀ L s.heap m) (N : News h₀ L s.heap led) (hl : (l, lstO refs nl) ∈ led) (hR : All2 (RowRel led) refs nss) (hne : 0 < refs.length)
    (hu : A.in1.units < cLine)
    (hQ : ∀ a vs n r h' tk', (a, lstO vs n) ∈ led → StrsAre vs r → r ∈ nss → (∀ q ∈ nss, ordL false q r = false) → Fr h₀ L h' m → News h₀ L h' led → Q (.ref a) { s with heap := h', toks := tk' }) :
    wpAny (model prog w) A (call (.builtin "max") [.ref l]) Q E s :=
  max_rows hh Fh N hl hR hne hu fun h' tk' v hv F' N' => by
    obtain ⟨r, hr1, hr2, hr3⟩ := best_row (up := false) hR.len hne
    obtain ⟨r', e, a, vs, n, rfl, hm, hs⟩ := hR.at' hv
    rw [hr1] at e; cases e
    exact hQ a vs n r h' tk' hm hs hr2 hr3 F' N'
end
end Mine
namespace Mine
theorem nd_true {c : Str} (h1 : (c.length : Int) ≠ 0) (h2 : (c != Str.ofString ".") = true) : true = nonDot c := by
  unfold nonDot
  rw [decide_eq_true (len_ne h1), decide_eq_true (by simpa using h2)]; rfl
theorem nd_dot {c : Str} (h2 : (c != Str.ofString ".") = false) : false = nonDot c := by
  unfold nonDot
  rw [decide_eq_false (p := c ≠ Str.ofString ".") (by simpa using h2), Bool.and_false]
theorem nd_len {c : Str} (h : (c.length : Int) = 0) : false = nonDot c := by
  unfold nonDot
  rw [decide_eq_false (p := c ≠ Str.ofString "") (fun q => q (len_eq h))]; rfl
theorem parts_eq : ∀ {xs : List Str} {nss : List (List Str)}, All2 GoodPath xs nss → (xs.map partsOf).map (fun r => r.filter nonDot) = nss
  | _, _, .nil => rfl
  | _, _, .cons g r => by
    rw [List.map_cons, List.map_cons, parts_eq r]
    exact congrArg (· :: _) g.parts
end Mine
namespace Mine
theorem weigh_take : ∀ (l : List Str) (n : Nat), weigh (l.take n) ≤ weigh l
  | [], n => by rw [List.take_nil]; exact Nat.le_refl _
  | a :: l, 0 => by rw [List.take_zero]; exact Nat.zero_le _
  | a :: l, n + 1 => by
    have ih := weigh_take l n
    rw [List.take_succ_cons]
    unfold weigh at *
    simp only [List.map_cons, List.sum_cons, List.length_cons]
    omega
theorem len_le_weigh (l : List Str) : l.length ≤ weigh l := by unfold weigh; omega
theorem take_ne {a b : List Str} {j : Nat} {c d : Str} (h1 : a[j]? = some c) (h2 : b[j]? = some d) (hne : c ≠ d) : a.take (j + 1) ≠ b.take (j + 1) := fun e => by
  have := congrArg (fun l => l[j]?) e
  simp only [List.getElem?_take, Nat.lt_succ_self, if_true] at this
  rw [h1, h2] at this
  exact hne (Option.some.inj this)
theorem take_eq {a b : List Str} {j : Nat} {c : Str} (h : a.take j = b.take j) (h1 : a[j]? = some c) (h2 : b[j]? = some c) : a.take (j + 1) = b.take (j + 1) := by
  rw [take_snoc h1, take_snoc h2, h]
end Mine
namespace Mine
theorem EnumEndL.brk {h₀ : Heap} {L : Addr} {S : List Str} {m : Str → Option Value} {led : List (Addr × Obj)} {J : Prop} {s s₂ : Shared} {Q : Flow → Shared → Prop} (h : Q .next s₂) : EnumEndL h₀ L S m led J s Q .brk s₂ := h
theorem EnumEndL.next {h₀ h' : Heap} {L : Addr} {tk' : Nat} {S : List Str} {m m' : Str → Option Value} {led : List (Addr × Obj)} {J : Prop} {s : Shared} {Q : Flow → Shared → Prop} (F : Fr h₀ L h' m') (N : News h₀ L h' led) (a : Agree S m m') (j : J) :
    EnumEndL h₀ L S m led J s Q .next { s with heap := h', toks := tk' } := ⟨h', tk', m', rfl, F, N, a, j⟩
end Mine
namespace Mine
theorem fr_agree2 {h₀ h : Heap} {L : Addr} {xa xb : Str} {m m' : Str → Option Value} (F : Fr h₀ L h m') (ag : Agree [xa, xb] m m') : ∃ va vb, Fr h₀ L h (fun y => if y = xb then vb else if y = xa then va else m y) := by
  refine ⟨m' xa, m' xb, ?_⟩
  have e : (fun y => if y = xb then m' xb else if y = xa then m' xa else m y) = m' := by
    funext y
    by_cases h1 : y = xb
    · simp [h1]
    · by_cases h2 : y = xa
      · simp only [h1, h2, if_false, if_true]; split
        · rename_i e; rw [e]
        · rfl
      · simp only [h1, h2, if_false]; exact (ag y (by simp [h1, h2])).symm
  rw [e]; exact F
end Mine
end
section
open PySem.Calls PySem.Spec
namespace Mine
section
variable {prog : Program} {w : World} {A : Around} {E : Value → Shared → Prop} {s : Shared} {h₀ : Heap} {L : Addr} {m : Str → Option Value} {led : List (Addr × Obj)}
theorem len_ints {a : Addr} {vs : List Value} {xs : List Int} {n : Nat} {Q : Value → Shared → Prop} (N : News h₀ L s.heap led) (hm : (a, ({ cls := .type "list", data := .seq vs.toArray n } : Obj)) ∈ led) (hs : IntsAre vs xs) (hx : xs.length ≤ 1000)
    (h : ∀ t k, Q (.int (xs.length : Nat) t) { s with toks := k }) : wpAny (model prog w) A (call (.builtin "len") [.ref a]) Q E s := by
  have e := hs.length
  have hz : vs.toArray.size = xs.length := by rw [List.size_toArray]; omega
  refine Calls.call_len_list (items := vs.toArray) ⟨_, (N _ hm).1, rfl, n, rfl⟩ (by rw [hz]; omega) ?_
  rw [hz]
  exact h _ _
theorem len_intsN {a : Addr} {vs : List Value} {xs : List Int} {n : Nat} {c : Int} {Q : Value → Shared → Prop} (N : News h₀ L s.heap led) (hm : (a, ({ cls := .type "list", data := .seq vs.toArray n } : Obj)) ∈ led) (hs : IntsAre vs xs) (hc : (xs.length : Int) = c) (hx : c ≤ 1000)
    (h : ∀ t k, Q (.int c t) { s with toks := k }) : wpAny (model prog w) A (call (.builtin "len") [.ref a]) Q E s :=
  len_ints N hm hs (by omega) fun t k => by rw [hc]; exact h t k
theorem len_all2 {α : Type} {a : Addr} {vs : List Value} {xs : List α} {R : Value → α → Prop} {n : Nat} {Q : Value → Shared → Prop} (N : News h₀ L s.heap led) (hm : (a, ({ cls := .type "list", data := .seq vs.toArray n } : Obj)) ∈ led) (hs : All2 R vs xs) (hx : xs.length ≤ 1000)
    (h : ∀ t k, Q (.int (xs.length : Nat) t) { s with toks := k }) : wpAny (model prog w) A (call (.builtin "len") [.ref a]) Q E s := by
  have e := hs.len
  have hz : vs.toArray.size = xs.length := by rw [List.size_toArray]; omega
  refine Calls.call_len_list (items := vs.toArray) ⟨_, (N _ hm).1, rfl, n, rfl⟩ (by rw [hz]; omega) ?_
  rw [hz]
  exact h _ _
end
def IntRel (v : Value) (x : Int) : Prop := ∃ t, v = .int x t
theorem all2_ints : ∀ {vs : List Value} {xs : List Int}, IntsAre vs xs → All2 IntRel vs xs
  | _, _, .nil => .nil
  | _, _, .cons x t r => .cons ⟨t, rfl⟩ (all2_ints r)
theorem ints_all2 : ∀ {vs : List Value} {xs : List Int}, All2 IntRel vs xs → IntsAre vs xs
  | _, _, .nil => .nil
  | _, _, .cons h r => by obtain ⟨t, rfl⟩ := h; exact .cons _ t (ints_all2 r)
end Mine
end
section
open PySem.Calls PySem.Spec
namespace Mine
open PySem.Builtin.Math
theorem kind_fsum : builtinKind "math.fsum" = none := by decide +kernel
theorem plain_fsum : plainId "math.fsum" = true := by decide +kernel
theorem entry_fsum : entryFor table "math.fsum" = some Builtin.«math.fsum» := entryFor_of_fast (by kernel_rfl)
theorem args_fsum (a : Value) : argsOk "math.fsum" ⟨[a], []⟩ := by unfold argsOk; kernel_rfl
theorem plain_fsum_loop : plainId "math.fsum.loop" = true := by decide +kernel
theorem entry_fsum_loop : entryFor table "math.fsum.loop" = some Builtin.«math.fsum.loop» := entryFor_of_fast (by kernel_rfl)
/-- the partials behind c ones -/
def psOf (c : Nat) : List UInt64 := if c = 0 then [] else [Float64.ofInt c]
def packed (xs : List UInt64) : Array Value := (xs.map fun x => rawInt x.toNat).toArray
def unpacked (vs : Array Value) : List UInt64 := vs.toList.map fun | .int i _ => i.toNat.toUInt64 | _ => 0
theorem unpacked_packed (xs : List UInt64) : unpacked (packed xs) = xs := by
  unfold unpacked packed
  rw [List.map_map]
  conv => rhs; rw [← List.map_id xs]
  refine List.map_congr_left fun x _ => ?_
  show ((x.toNat : Int).toNat).toUInt64 = x
  rw [Int.toNat_natCast]
  exact UInt64.ofNat_toNat
/-- one turn of fsum -/
def fsumNext (ps : List UInt64) (x : UInt64) : List UInt64 := let r := Float64.fsumAdd ps x; if Float64.isZero r.2 then r.1 else r.1 ++ [r.2]
def fsumRow : Bool := (List.range 9).all fun c => (List.range 2).all fun b => decide (fsumNext (psOf c) (Float64.ofInt b) = psOf (c + b)) && Float64.isFinite (Float64.fsumAdd (psOf c) (Float64.ofInt b)).2
theorem fsumRow_ok : fsumRow = true := by decide +kernel
theorem fsum_turn {c : Nat} {b : Int} (hc : c ≤ 8) (hb : b = 0 ∨ b = 1) : fsumNext (psOf c) (Float64.ofInt b) = psOf (c + b.toNat) ∧ Float64.isFinite (Float64.fsumAdd (psOf c) (Float64.ofInt b)).2 = true := by
  have h1 := List.all_eq_true.mp fsumRow_ok c (List.mem_range.mpr (by omega))
  have h2 := List.all_eq_true.mp h1 b.toNat (List.mem_range.mpr (by omega))
  have e : ((b.toNat : Nat) : Int) = b := by omega
  simp only [e] at h2
  rw [Bool.and_eq_true] at h2
  exact ⟨of_decide_eq_true h2.1, h2.2⟩
def fsumLast : Bool := (List.range 9).all fun c => decide (Float64.fsumEnd (psOf c) = Float64.ofInt c)
theorem fsumLast_ok : fsumLast = true := by decide +kernel
theorem fsum_last {c : Nat} (hc : c ≤ 8) : Float64.fsumEnd (psOf c) = Float64.ofInt c := of_decide_eq_true (List.all_eq_true.mp fsumLast_ok c (List.mem_range.mpr (by omega)))
theorem not_over {b : Int} (hb : b = 0 ∨ b = 1) : ¬ PySem.Flt.Over b := by rcases hb with rfl | rfl <;> decide +kernel
def Bits (xs : List Int) : Prop := ∀ x ∈ xs, x = 0 ∨ x = 1
theorem ia_at : ∀ {vs : List Value} {xs : List Int}, IntsAre vs xs → ∀ {i : Nat} {v : Value}, vs[i]? = some v → ∃ x t, xs[i]? = some x ∧ v = .int x t
  | _, _, .nil, i, v, h => by simp at h
  | _, _, .cons x t r, 0, v, h => by cases h; exact ⟨x, t, rfl, rfl⟩
  | _, _, .cons x t r, i + 1, v, h => by
    obtain ⟨y, u, h1, h2⟩ := ia_at r (i := i) (by simpa using h)
    exact ⟨y, u, by simpa using h1, h2⟩
theorem bits_sum_le : ∀ {xs : List Int}, Bits xs → 0 ≤ xs.sum ∧ xs.sum ≤ xs.length
  | [], _ => by simp
  | x :: xs, h => by
    have ih := bits_sum_le (xs := xs) fun y hy => h y (List.mem_cons_of_mem _ hy)
    have := h x List.mem_cons_self
    simp only [List.sum_cons, List.length_cons]
    omega
theorem bits_take {xs : List Int} (h : Bits xs) (n : Nat) : Bits (xs.take n) := fun x hx => h x (List.mem_of_mem_take hx)
section
variable {prog : Program} {w : World} {A : Around} {E : Value → Shared → Prop} {s : Shared} {h₀ : Heap} {L : Addr} {m : Str → Option Value} {led : List (Addr × Obj)}
theorem fsum_loop {R : Result → Shared → Prop} {I l : Addr} {vs : List Value} {nl : Nat} {xs : List Int} (hh : A.handled = none) (hl : (l, lstO vs nl) ∈ led) (hx : IntsAre vs xs) (hb : Bits xs) (hn : xs.length ≤ 8) (offI : ∀ p ∈ led, p.1 ≠ I)
    (hRes : ∀ h' tk' t, Fr h₀ L h' m → News h₀ L h' led → R (.ok (.ret (.float (Float64.ofInt xs.sum) t))) { s with heap := h', toks := tk' }) :
    ∀ (k i : Nat) (h : Heap) (tk : Nat) (T S : Addr) (oI : Obj), vs.length - i = k → i ≤ vs.length → Fr h₀ L h m → News h₀ L h ((T, tupO (packed (psOf (xs.take i).sum.toNat))) :: (S, tupO (packed [Float64.zero false, Float64.zero false])) :: (I, oI) :: led) →
      T ≠ I → S ≠ I → h.IsListIter I l i →
      codeAny (model prog w) A (.builtin "math.fsum.loop" ⟨[.ref I, .ref T, .ref S], []⟩) R { s with heap := h, toks := tk } := by
  have hlen : vs.length = xs.length := by
    have := hx.length
    omega
  intro k
  induction k with
  | zero =>
    intro i h tk T S oI hk hi Fh N hTI hSI hit
    have hie : i = vs.length := by omega
    have hI := N (I, oI) (List.mem_cons_of_mem _ (List.mem_cons_of_mem _ List.mem_cons_self))
    refine codeAny_builtin entry_fsum_loop ?_
    rw [Around.under_plainId plain_fsum_loop _]
    show wpAny _ A.in1 ((seqItems? (.ref T) >>= fun r => pure (unpacked (r.getD #[]))) >>= fun ps => (seqItems? (.ref S) >>= fun r => pure (unpacked (r.getD #[]))) >>= _) _ _ _
    refine wpAny_bind (wpAny_bind (wpAny_seqItems (N _ List.mem_cons_self).1 rfl (wpAny_pure ?_)))
    refine wpAny_bind (wpAny_bind (wpAny_seqItems (N _ (List.mem_cons_of_mem _ List.mem_cons_self)).1 rfl (wpAny_pure ?_)))
    simp only [Option.getD_some, unpacked_packed]
    refine wpAny_bind (wpAny_pyNext_list_end (l := l) (items := vs.toArray) hh hit ⟨_, N.get (List.mem_cons_of_mem _ (List.mem_cons_of_mem _ (List.mem_cons_of_mem _ hl))), rfl, _, rfl⟩ (by simp; omega) fun h' hx' => ?_)
    dsimp only
    rw [if_neg (by decide +kernel)]
    have e : (xs.take i).sum = xs.sum := by rw [List.take_of_length_le (by omega)]
    have hsum := bits_sum_le hb
    rw [e, fsum_last (by omega), show ((xs.sum.toNat : Nat) : Int) = xs.sum by omega]
    refine wpAny_bind (wpAny_mkFloat ?_)
    exact wpAny_pure (hRes h' _ _ (Mine.Fr.ext Fh hx' hI.2.1.symm hI.2.2) (Mine.News.ext (fun p hp => N p (List.mem_cons_of_mem _ (List.mem_cons_of_mem _ (List.mem_cons_of_mem _ hp)))) hx' offI))
  | succ k ih =>
    intro i h tk T S oI hk hi Fh N hTI hSI hit
    have hlt : i < vs.length := by omega
    have hI := N (I, oI) (List.mem_cons_of_mem _ (List.mem_cons_of_mem _ List.mem_cons_self))
    obtain ⟨x, t, hxi, hv⟩ := ia_at hx (List.getElem?_eq_getElem hlt)
    have hbx := hb x (List.mem_of_getElem? hxi)
    have hpre := bits_sum_le (bits_take hb i)
    have hpl : (xs.take i).length ≤ 8 := by rw [List.length_take]; omega
    obtain ⟨f1, f2⟩ := fsum_turn (c := (xs.take i).sum.toNat) (b := x) (by omega) hbx
    refine codeAny_builtin entry_fsum_loop ?_
    rw [Around.under_plainId plain_fsum_loop _]
    show wpAny _ A.in1 ((seqItems? (.ref T) >>= fun r => pure (unpacked (r.getD #[]))) >>= fun ps => (seqItems? (.ref S) >>= fun r => pure (unpacked (r.getD #[]))) >>= _) _ _ _
    refine wpAny_bind (wpAny_bind (wpAny_seqItems (N _ List.mem_cons_self).1 rfl (wpAny_pure ?_)))
    refine wpAny_bind (wpAny_bind (wpAny_seqItems (N _ (List.mem_cons_of_mem _ List.mem_cons_self)).1 rfl (wpAny_pure ?_)))
    simp only [Option.getD_some, unpacked_packed]
    refine wpAny_bind (wpAny_pyNext_list_item (l := l) (items := vs.toArray) (x := .int x t) hit ⟨_, N.get (List.mem_cons_of_mem _ (List.mem_cons_of_mem _ (List.mem_cons_of_mem _ hl))), rfl, _, rfl⟩ (by simp [hlt, hv]) fun h' hit' hs' => ?_)
    obtain ⟨oI', ho', hc', hd'⟩ := hit'
    dsimp only
    refine wpAny_bind (wpAny_holding (PySem.Flt.realArg_int hh (fun c => absurd c (not_over hbx)) fun _ => ?_))
    rw [if_pos f2]
    refine wpAny_bind ?_
    show wpAny _ A.in1 (newTuple ((fsumNext (psOf (xs.take i).sum.toNat) (Float64.ofInt x)).map fun x => rawInt x.toNat)) _ _ _
    rw [f1]
    have hps : (psOf ((xs.take i).sum.toNat + x.toNat)).length ≤ 1 := by unfold psOf; split <;> simp
    refine wpAny_newTuple ?_ (by rw [List.length_map, PySem.sizeLine_eq]; omega)
    have hsum : (xs.take (i + 1)).sum.toNat = (xs.take i).sum.toNat + x.toNat := by
      rw [List.take_add_one, hxi, List.sum_append]
      simp only [Option.toList_some, List.sum_cons, List.sum_nil]
      omega
    have F1 := Mine.Fr.ext Fh hs'.extBut hI.2.1.symm hI.2.2
    have NL : News h₀ L h' led := Mine.News.ext (fun p hp => N p (List.mem_cons_of_mem _ (List.mem_cons_of_mem _ (List.mem_cons_of_mem _ hp)))) hs'.extBut offI
    have hS := N _ (List.mem_cons_of_mem _ List.mem_cons_self)
    have hS' := hs'.extBut S _ hSI hS.1
    have hIs : I ≠ h'.objs.size := Nat.ne_of_lt (Heap.lt_size ho')
    refine wpAny_pure ⟨plainId_quiet plain_fsum_loop _, ih (i + 1) _ _ h'.objs.size S oI' (by omega) (by omega) (F1.push _) (fun p hp => ?_) (Ne.symm hIs) hSI ⟨oI', Heap.get?_push_of_some _ ho', hc', hd'⟩⟩
    rcases List.mem_cons.mp hp with rfl | hp
    · refine ⟨?_, Nat.ne_of_gt F1.ns.lt, F1.fresh⟩
      rw [hsum]
      exact Heap.get?_push_size _ rfl
    rcases List.mem_cons.mp hp with rfl | hp
    · exact ⟨Heap.get?_push_of_some _ hS', hS.2⟩
    rcases List.mem_cons.mp hp with rfl | hp
    · exact ⟨Heap.get?_push_of_some _ ho', hI.2⟩
    · exact ⟨Heap.get?_push_of_some _ (NL p hp).1, (NL p hp).2⟩
theorem fsum_led {l : Addr} {vs : List Value} {nl : Nat} {xs : List Int} {Q : Value → Shared → Prop} (hh : A.handled = none) (Fh : Fr h₀ L s.heap m) (N : News h₀ L s.heap led) (hl : (l, lstO vs nl) ∈ led) (hx : IntsAre vs xs) (hb : Bits xs) (hn : xs.length ≤ 8)
    (hQ : ∀ h' tk' t, Fr h₀ L h' m → News h₀ L h' led → Q (.float (Float64.ofInt xs.sum) t) { s with heap := h', toks := tk' }) :
    wpAny (model prog w) A (call (.builtin "math.fsum") [.ref l]) Q E s := by
  refine call_function_tree kind_fsum plain_fsum entry_fsum (args_fsum _) ?_
  show wpAny _ A.in1 (mathOne "fsum" ⟨[.ref l], []⟩ >>= _) _ _ s
  refine wpAny_bind (wpAny_of_eq (a := .ref l) rfl ?_)
  refine wpAny_bind (wpAny_pyIter_list (items := vs.toArray) ⟨_, (N _ hl).1, rfl, _, rfl⟩ ?_)
  refine wpAny_bind ?_
  show wpAny _ A.in1 (newTuple (([] : List UInt64).map fun x => rawInt x.toNat)) _ _ _
  refine wpAny_newTuple ?_ (by rw [PySem.sizeLine_eq]; decide)
  refine wpAny_bind ?_
  show wpAny _ A.in1 (newTuple (([Float64.zero false, Float64.zero false] : List UInt64).map fun x => rawInt x.toNat)) _ _ _
  refine wpAny_newTuple ?_ (by rw [PySem.sizeLine_eq]; decide)
  simp only [Heap.size_push]
  have g0 := Heap.get?_push_size s.heap (o := { cls := .type "list_iterator", data := .fields #[.ref l, .int 0 0] }) rfl
  have g1 := Heap.get?_push_size (s.heap.push { cls := .type "list_iterator", data := .fields #[.ref l, .int 0 0] }) (o := tupO (packed [])) rfl
  have g2 := Heap.get?_push_size ((s.heap.push { cls := .type "list_iterator", data := .fields #[.ref l, .int 0 0] }).push (tupO (packed []))) (o := tupO (packed [Float64.zero false, Float64.zero false])) rfl
  simp only [Heap.size_push] at g1 g2
  have a1 := Heap.get?_push_of_some (tupO (packed [Float64.zero false, Float64.zero false])) g1
  have a0 := Heap.get?_push_of_some (tupO (packed [Float64.zero false, Float64.zero false])) (Heap.get?_push_of_some (tupO (packed [])) g0)
  have hL := Fh.ns.lt
  have none : ∀ k, s.heap.objs.size ≤ k → h₀.get? k = Option.none := fun k hk => by
    cases e : h₀.get? k with
    | none => rfl
    | some o => exact absurd (Nat.lt_of_lt_of_le (Heap.lt_size (Fh.keep _ _ e)) hk) (Nat.lt_irrefl _)
  refine wpAny_pure ⟨plainId_quiet plain_fsum_loop _, fsum_loop (s := s) hh hl hx hb hn (item_fresh N) hQ _ 0 _ s.toks (s.heap.objs.size + 1) (s.heap.objs.size + 2) { cls := .type "list_iterator", data := .fields #[.ref l, .int 0 0] } rfl (Nat.zero_le _) (((Fh.push _).push _).push _) (fun p hp => ?_) (Nat.ne_of_gt (Nat.lt_succ_self _)) (show @Ne Nat _ _ from by omega) ⟨_, a0, rfl, rfl⟩⟩
  rcases List.mem_cons.mp hp with rfl | hp
  · exact ⟨a1, Nat.ne_of_gt (Nat.lt_of_lt_of_le hL (Nat.le_add_right _ 1)), none _ (Nat.le_add_right _ 1)⟩
  rcases List.mem_cons.mp hp with rfl | hp
  · exact ⟨g2, Nat.ne_of_gt (Nat.lt_of_lt_of_le hL (Nat.le_add_right _ 2)), none _ (Nat.le_add_right _ 2)⟩
  rcases List.mem_cons.mp hp with rfl | hp
  · exact ⟨a0, Nat.ne_of_gt hL, none _ (Nat.le_refl _)⟩
  · exact ⟨Heap.get?_push_of_some _ (Heap.get?_push_of_some _ (Heap.get?_push_of_some _ (N p hp).1)), (N p hp).2⟩
end
end Mine
end
section
open PySem.Calls PySem.Spec
namespace Mine
open PySem.Builtin.Math
theorem kind_sumprod : builtinKind "math.sumprod" = none := by decide +kernel
theorem plain_sumprod : plainId "math.sumprod" = true := by decide +kernel
theorem entry_sumprod : entryFor table "math.sumprod" = some Builtin.«math.sumprod» := entryFor_of_fast (by kernel_rfl)
theorem args_sumprod (a b : Value) : argsOk "math.sumprod" ⟨[a, b], []⟩ := by unfold argsOk; kernel_rfl
theorem plain_sumprod_loop : plainId "math.sumprod.loop" = true := by decide +kernel
theorem entry_sumprod_loop : entryFor table "math.sumprod.loop" = some Builtin.«math.sumprod.loop» := entryFor_of_fast (by kernel_rfl)
abbrev Tl := UInt64 × UInt64 × UInt64
def tlZero : Tl := (Float64.zero false, Float64.zero false, Float64.zero false)
/-- sumprod's lengths behind i pairs -/
def tlAt (x y : Nat → UInt64) : Nat → Tl
  | 0 => tlZero
  | i + 1 => tlFma (x i) (y i) (tlAt x y i)
abbrev tlVals (t : Tl) : List Value := [rawInt t.1.toNat, rawInt t.2.1.toNat, rawInt t.2.2.toNat]
abbrev tlObj (t : Tl) : Obj := tupO (tlVals t).toArray
theorem tl_back (x : UInt64) : ((x.toNat : Int).toNat).toUInt64 = x := by
  rw [Int.toNat_natCast]
  exact UInt64.ofNat_toNat
/-- two sources of floats that sumprod asks in turn, and objects that stay beside them -/
structure TwoSrc (prog : Program) (w : World) (A : Around) (I J : Addr) (n : Nat) (x y : Nat → UInt64) (St : Nat → Nat → Addr → Obj → Shared → Prop) (Fin : Shared → Prop) : Prop where
  first : ∀ i a o (s : Shared) (Q : Option Value → Shared → Prop) (E : Value → Shared → Prop), i < n → St i i a o s → (∀ s' t, St (i + 1) i a o s' → Q (some (.float (x i) t)) s') → wpAny (model prog w) A (pyNext (.ref I)) Q E s
  second : ∀ i a o (s : Shared) (Q : Option Value → Shared → Prop) (E : Value → Shared → Prop), i < n → St (i + 1) i a o s → (∀ s' t, St (i + 1) (i + 1) a o s' → Q (some (.float (y i) t)) s') → wpAny (model prog w) A (pyNext (.ref J)) Q E s
  ends : ∀ a o (s : Shared) (Q : Option Value → Shared → Prop) (E : Value → Shared → Prop), St n n a o s → (∀ s', (∀ (Q' : Option Value → Shared → Prop) (E' : Value → Shared → Prop), (∀ s'', Fin s'' → Q' none s'') → wpAny (model prog w) A (pyNext (.ref J)) Q' E' s') → Q none s') → wpAny (model prog w) A (pyNext (.ref I)) Q E s
  get : ∀ i j a o s, St i j a o s → s.heap.get? a = some o
  push : ∀ i a o (v : Tl) (s : Shared) k, St i i a o s → St i i s.heap.objs.size (tlObj v) { s with heap := s.heap.push (tlObj v), toks := k }
  toks : ∀ (s : Shared) k, Fin s → Fin { s with toks := k }
section
variable {prog : Program} {w : World} {A : Around} {E : Value → Shared → Prop}
theorem sumprod_loop {R : Result → Shared → Prop} {I J : Addr} {n : Nat} {x y : Nat → UInt64} {St : Nat → Nat → Addr → Obj → Shared → Prop} {Fin : Shared → Prop} (W : TwoSrc prog w A.in1 I J n x y St Fin) (hn : 0 < n)
    (hfin : ∀ i, i < n → Float64.isFinite (tlAt x y (i + 1)).1 = true)
    (hRes : ∀ s' t, Fin s' → R (.ok (.ret (.float (Float64.add (Float64.ofInt 0) (tlToFloat (tlAt x y n))) t))) s') :
    ∀ (k i : Nat) (T : Addr) (s : Shared) (b u : Bool) (t0 : Tok), n - i = k → i ≤ n → (u = true ∨ i = 0) → St i i T (tlObj (tlAt x y i)) s →
      codeAny (model prog w) A (.builtin "math.sumprod.loop" ⟨[.ref I, .ref J, .int 0 t0, .bool b, rawInt 0, .bool false, .bool true, .ref T, .bool u], []⟩) R s := by
  intro k
  induction k with
  | zero =>
    intro i T s b u t0 hk hi hu hst
    have hin : i = n := by omega
    subst hin
    have hu' : u = true := hu.resolve_right (by omega)
    subst hu'
    refine codeAny_builtin entry_sumprod_loop ?_
    rw [Around.under_plainId plain_sumprod_loop _]
    show wpAny _ A.in1 (seqItems? (.ref T) >>= _) _ _ s
    refine wpAny_bind (wpAny_seqItems (W.get _ _ _ _ _ hst) rfl ?_)
    simp only [Option.getD_some, List.toList_toArray, tlVals, rawInt, tl_back]
    refine wpAny_bind (W.ends _ _ _ _ _ hst fun s1 h1 => ?_)
    refine wpAny_bind (wpAny_holding (h1 _ _ fun s2 h2 => ?_))
    rw [if_neg (by decide)]
    cases b with
    | false =>
      rw [if_neg Bool.false_ne_true]
      simp only [if_true]
      refine wpAny_bind (wpAny_rule ?_)
      refine wpAny_bind (wpAny_mkFloat ?_)
      refine wpAny_bind (wpAny_holding (PyProof.Rows.add_if_fits (by decide) ?_))
      exact wpAny_pure (hRes _ _ (W.toks _ _ (W.toks _ _ h2)))
    | true =>
      rw [if_pos rfl]
      dsimp only
      refine wpAny_bind (wpAny_rule ?_)
      rw [if_neg Bool.false_ne_true]
      simp only [if_true]
      refine wpAny_bind (wpAny_rule ?_)
      refine wpAny_bind (wpAny_mkFloat ?_)
      refine wpAny_bind (wpAny_holding (PyProof.Rows.add_if_fits (by decide) ?_))
      exact wpAny_pure (hRes _ _ (W.toks _ _ (W.toks _ _ h2)))
  | succ k ih =>
    intro i T s b u t0 hk hi hu hst
    have hlt : i < n := by omega
    refine codeAny_builtin entry_sumprod_loop ?_
    rw [Around.under_plainId plain_sumprod_loop _]
    show wpAny _ A.in1 (seqItems? (.ref T) >>= _) _ _ s
    refine wpAny_bind (wpAny_seqItems (W.get _ _ _ _ _ hst) rfl ?_)
    simp only [Option.getD_some, List.toList_toArray, tlVals, rawInt, tl_back]
    refine wpAny_bind (W.first _ _ _ _ _ _ hlt hst fun s1 t1 h1 => ?_)
    refine wpAny_bind (wpAny_holding (W.second _ _ _ _ _ _ hlt h1 fun s2 t2 h2 => ?_))
    rw [if_neg (show ¬ ((some (Value.float (x i) t1)).isSome != (some (Value.float (y i) t2)).isSome) = true from Bool.false_ne_true)]
    have hf : Float64.isFinite (tlFma (x i) (y i) ((tlAt x y i).fst, (tlAt x y i).snd.fst, (tlAt x y i).snd.snd)).fst = true := hfin i hlt
    have go : wpAny (model prog w) A.in1 (newTuple (tlVals (tlAt x y (i + 1))) >>= fun t => again (.builtin "math.sumprod.loop" ⟨[.ref I, .ref J, .int 0 t0, .bool false, rawInt 0, .bool false, .bool true, t, .bool true], []⟩))
        (fun fin s' => match fin with | .done f => R (.ok f) s' | .again c' => c'.quiet = true ∧ codeAny (model prog w) A c' R s') (fun e s' => R (.error e) s') s2 := by
      refine wpAny_bind (wpAny_newTuple ?_ (by show 3 ≤ sizeLine; rw [PySem.sizeLine_eq]; decide))
      exact wpAny_pure ⟨plainId_quiet plain_sumprod_loop _, ih (i + 1) _ _ false true t0 (by omega) hlt (.inl rfl) (W.push _ _ _ _ _ s2.toks h2)⟩
    cases b with
    | false =>
      rw [if_neg Bool.false_ne_true]
      simp only [if_true, Bool.true_or]
      rw [if_pos hf]
      exact go
    | true =>
      rw [if_pos rfl]
      dsimp only
      refine wpAny_bind (wpAny_rule ?_)
      rw [if_neg Bool.false_ne_true]
      simp only [if_true, Bool.true_or]
      rw [if_pos hf]
      exact go
theorem call_sumprod {a b : Value} {s : Shared} {n : Nat} {x y : Nat → UInt64} {Q : Value → Shared → Prop} (hn : 0 < n) (hfin : ∀ i, i < n → Float64.isFinite (tlAt x y (i + 1)).1 = true)
    (h : wpAny (model prog w) A.in1 (pyIter a) (fun p s₁ => wpAny (model prog w) A.in1 (pyIter b) (fun q s₂ => ∃ I J St Fin, p = .ref I ∧ q = .ref J ∧ TwoSrc prog w A.in1 I J n x y St Fin ∧
      (∀ k, St 0 0 s₂.heap.objs.size (tlObj tlZero) { s₂ with heap := s₂.heap.push (tlObj tlZero), toks := k }) ∧
      ∀ s' t, Fin s' → Q (.float (Float64.add (Float64.ofInt 0) (tlToFloat (tlAt x y n))) t) s') E s₁) E s) :
    wpAny (model prog w) A (call (.builtin "math.sumprod") [a, b]) Q E s := by
  refine call_function_tree kind_sumprod plain_sumprod entry_sumprod (args_sumprod _ _) ?_
  show wpAny _ A.in1 (mathSome "sumprod" 2 2 ⟨[a, b], []⟩ >>= _) _ _ s
  refine wpAny_bind (wpAny_of_eq (a := [a, b]) rfl ?_)
  refine wpAny_bind (wpAny_mono h (fun p s₁ h₁ => ?_) fun _ _ e => e)
  refine wpAny_bind (wpAny_holding (wpAny_mono h₁ (fun q s₂ h₂ => ?_) fun _ _ e => e))
  obtain ⟨I, J, St, Fin, rfl, rfl, W, hst, hQ⟩ := h₂
  refine wpAny_bind (wpAny_mkInt ?_)
  refine wpAny_bind (wpAny_newTuple ?_ (by show 3 ≤ sizeLine; rw [PySem.sizeLine_eq]; decide))
  exact wpAny_pure ⟨plainId_quiet plain_sumprod_loop _, sumprod_loop W hn hfin hQ n 0 _ _ true false _ rfl (Nat.zero_le _) (.inr rfl) (hst _)⟩
end
end Mine
end
section
open PySem.Calls PySem.Spec
namespace Mine
open PySem.Builtin.Math
def FloRel (v : Value) (x : UInt64) : Prop := ∃ t, v = .float x t
section
variable {prog : Program} {w : World} {A : Around} {E : Value → Shared → Prop} {h₀ : Heap} {L : Addr} {m : Str → Option Value} {led : List (Addr × Obj)}
theorem sumprod_lists {a b : Addr} {vs ws : List Value} {n₁ n₂ : Nat} {xs ys : List UInt64} {s : Shared} {Q : Value → Shared → Prop} (hh : A.handled = none) (Fh : Fr h₀ L s.heap m) (N : News h₀ L s.heap led)
    (ha : (a, lstO vs n₁) ∈ led) (hb : (b, lstO ws n₂) ∈ led) (hx : All2 FloRel vs xs) (hy : All2 FloRel ws ys) (hl : xs.length = ys.length) (hn : 0 < xs.length)
    (hfin : ∀ i, i < xs.length → Float64.isFinite (tlAt (fun i => xs.getD i 0) (fun i => ys.getD i 0) (i + 1)).1 = true)
    (hQ : ∀ h' tk' t, Fr h₀ L h' m → News h₀ L h' led → Q (.float (Float64.add (Float64.ofInt 0) (tlToFloat (tlAt (fun i => xs.getD i 0) (fun i => ys.getD i 0) xs.length))) t) { s with heap := h', toks := tk' }) :
    wpAny (model prog w) A (call (.builtin "math.sumprod") [.ref a, .ref b]) Q E s := by
  have lx := hx.len
  have ly := hy.len
  refine call_sumprod (n := xs.length) hn hfin ?_
  refine wpAny_pyIter_list (items := vs.toArray) ⟨_, (N _ ha).1, rfl, _, rfl⟩ ?_
  refine wpAny_pyIter_list (items := ws.toArray) ⟨_, Heap.get?_push_of_some _ (N _ hb).1, rfl, _, rfl⟩ ?_
  have hI : s.heap.objs.size ≠ L := Nat.ne_of_gt Fh.ns.lt
  have hI₀ : h₀.get? s.heap.objs.size = none := Fh.fresh
  have F1 := Fh.push { cls := .type "list_iterator", data := .fields #[.ref a, .int 0 0] }
  have hJL := Nat.ne_of_gt F1.ns.lt
  have hJ₀ := F1.fresh
  have F2 := F1.push { cls := .type "list_iterator", data := .fields #[.ref b, .int 0 0] }
  have gI := Heap.get?_push_of_some { cls := .type "list_iterator", data := .fields #[.ref b, .int 0 0] } (Heap.get?_push_size s.heap (o := { cls := .type "list_iterator", data := .fields #[.ref a, .int 0 0] }) rfl)
  have gJ := Heap.get?_push_size (s.heap.push { cls := .type "list_iterator", data := .fields #[.ref a, .int 0 0] }) (o := { cls := .type "list_iterator", data := .fields #[.ref b, .int 0 0] }) rfl
  have hJe : (s.heap.push { cls := .type "list_iterator", data := .fields #[.ref a, .int 0 0] }).objs.size = s.heap.objs.size + 1 := Heap.size_push ..
  have NL : News h₀ L ((s.heap.push { cls := .type "list_iterator", data := .fields #[.ref a, .int 0 0] }).push { cls := .type "list_iterator", data := .fields #[.ref b, .int 0 0] }) led := N.grown fun _ _ e => Heap.get?_push_of_some _ (Heap.get?_push_of_some _ e)
  have offI : ∀ p ∈ led, p.1 ≠ s.heap.objs.size := item_fresh N
  have offJ : ∀ p ∈ led, p.1 ≠ s.heap.objs.size + 1 := fun p hp => Nat.ne_of_lt (Nat.lt_succ_of_lt (Heap.lt_size (N p hp).1))
  rw [hJe] at hJL hJ₀ gJ
  show ∃ I J St Fin, _ = Value.ref I ∧ Value.ref (s.heap.push { cls := .type "list_iterator", data := .fields #[.ref a, .int 0 0] }).objs.size = Value.ref J ∧ _
  rw [hJe]
  dsimp only
  generalize hH : (s.heap.push { cls := .type "list_iterator", data := .fields #[.ref a, .int 0 0] }).push { cls := .type "list_iterator", data := .fields #[.ref b, .int 0 0] } = H at F2 gI gJ NL ⊢
  have hIJ : @Ne Nat s.heap.objs.size (s.heap.objs.size + 1) := by omega
  generalize hIe : s.heap.objs.size = I at hI hI₀ gI offI offJ hJL hJ₀ gJ hIJ ⊢
  generalize hJJ : I + 1 = J at hJL hJ₀ gJ offJ hIJ ⊢
  have hsz : H.objs.size = J + 1 := by rw [← hH, Heap.size_push, hJe, hIe, hJJ]
  clear hH hJe hIe hJJ F1
  refine ⟨I, J, fun i j T o s' => ∃ h tk oI oJ, s' = { s with heap := h, toks := tk } ∧ Fr h₀ L h m ∧ News h₀ L h ((T, o) :: (I, oI) :: (J, oJ) :: led) ∧ h.IsListIter I a i ∧ h.IsListIter J b j ∧ T ≠ I ∧ T ≠ J,
    fun s' => ∃ h tk, s' = { s with heap := h, toks := tk } ∧ Fr h₀ L h m ∧ News h₀ L h led, rfl, rfl, ⟨?_, ?_, ?_, ?_, ?_, ?_⟩, ?_, ?_⟩
  · rintro i T o s' Q E hi ⟨h, tk, oI, oJ, rfl, F', N', itI, itJ, hTI, hTJ⟩ hq
    obtain ⟨x, hxi, t, hv⟩ := hx.at' (List.getElem?_eq_getElem (show i < vs.length by omega))
    refine wpAny_pyNext_list_item (l := a) (items := vs.toArray) (x := .float x t) itI ⟨_, N'.get (List.mem_cons_of_mem _ (List.mem_cons_of_mem _ (List.mem_cons_of_mem _ ha))), rfl, _, rfl⟩ (by simp [← hv, show i < vs.length by omega]) fun h' it' hs' => ?_
    obtain ⟨oI', e1, e2⟩ := it'
    have N2 : News h₀ L h' ((T, o) :: (I, oI') :: (J, oJ) :: led) := fun p hp => by
      rcases List.mem_cons.mp hp with rfl | hp
      · exact ⟨hs'.extBut _ _ hTI (N' _ List.mem_cons_self).1, (N' _ List.mem_cons_self).2⟩
      rcases List.mem_cons.mp hp with rfl | hp
      · exact ⟨e1, hI, hI₀⟩
      rcases List.mem_cons.mp hp with rfl | hp
      · exact ⟨hs'.extBut _ _ hIJ.symm (N' _ (List.mem_cons_of_mem _ (List.mem_cons_of_mem _ List.mem_cons_self))).1, hJL, hJ₀⟩
      · have z := N' p (List.mem_cons_of_mem _ (List.mem_cons_of_mem _ (List.mem_cons_of_mem _ hp)))
        exact ⟨hs'.extBut _ _ (offI p hp) z.1, z.2⟩
    have e : xs.getD i 0 = x := by rw [List.getD_eq_getElem?_getD, hxi]; rfl
    have := hq { s with heap := h', toks := tk } t ⟨h', tk, oI', oJ, rfl, Mine.Fr.ext F' hs'.extBut hI.symm hI₀, N2, ⟨oI', e1, e2⟩, itJ.extBut hs'.extBut hIJ.symm, hTI, hTJ⟩
    rw [e] at this
    exact this
  · rintro i T o s' Q E hi ⟨h, tk, oI, oJ, rfl, F', N', itI, itJ, hTI, hTJ⟩ hq
    obtain ⟨x, hxi, t, hv⟩ := hy.at' (List.getElem?_eq_getElem (show i < ws.length by omega))
    refine wpAny_pyNext_list_item (l := b) (items := ws.toArray) (x := .float x t) itJ ⟨_, N'.get (List.mem_cons_of_mem _ (List.mem_cons_of_mem _ (List.mem_cons_of_mem _ hb))), rfl, _, rfl⟩ (by simp [← hv, show i < ws.length by omega]) fun h' it' hs' => ?_
    obtain ⟨oJ', e1, e2⟩ := it'
    have N2 : News h₀ L h' ((T, o) :: (I, oI) :: (J, oJ') :: led) := fun p hp => by
      rcases List.mem_cons.mp hp with rfl | hp
      · exact ⟨hs'.extBut _ _ hTJ (N' _ List.mem_cons_self).1, (N' _ List.mem_cons_self).2⟩
      rcases List.mem_cons.mp hp with rfl | hp
      · exact ⟨hs'.extBut _ _ hIJ (N' _ (List.mem_cons_of_mem _ List.mem_cons_self)).1, hI, hI₀⟩
      rcases List.mem_cons.mp hp with rfl | hp
      · exact ⟨e1, hJL, hJ₀⟩
      · have z := N' p (List.mem_cons_of_mem _ (List.mem_cons_of_mem _ (List.mem_cons_of_mem _ hp)))
        exact ⟨hs'.extBut _ _ (offJ p hp) z.1, z.2⟩
    have e : ys.getD i 0 = x := by rw [List.getD_eq_getElem?_getD, hxi]; rfl
    have := hq { s with heap := h', toks := tk } t ⟨h', tk, oI, oJ', rfl, Mine.Fr.ext F' hs'.extBut hJL.symm hJ₀, N2, itI.extBut hs'.extBut hIJ, ⟨oJ', e1, e2⟩, hTI, hTJ⟩
    rw [e] at this
    exact this
  · rintro T o s' Q E ⟨h, tk, oI, oJ, rfl, F', N', itI, itJ, hTI, hTJ⟩ hq
    have NL' : News h₀ L h led := fun p hp => N' p (List.mem_cons_of_mem _ (List.mem_cons_of_mem _ (List.mem_cons_of_mem _ hp)))
    refine wpAny_pyNext_list_end (l := a) (items := vs.toArray) hh itI ⟨_, NL'.get ha, rfl, _, rfl⟩ (by simp; omega) fun h' hx' => ?_
    have F2' := Mine.Fr.ext F' hx' hI.symm hI₀
    have NL2 : News h₀ L h' led := Mine.News.ext NL' hx' offI
    refine hq _ fun Q' E' hq' => ?_
    refine wpAny_pyNext_list_end (l := b) (items := ws.toArray) hh (itJ.extBut hx' hIJ.symm) ⟨_, NL2.get hb, rfl, _, rfl⟩ (by simp; omega) fun h'' hx'' => ?_
    exact hq' _ ⟨h'', tk, rfl, Mine.Fr.ext F2' hx'' hJL.symm hJ₀, Mine.News.ext NL2 hx'' offJ⟩
  · rintro i j T o s' ⟨h, tk, oI, oJ, rfl, F', N', r⟩
    exact (N' _ List.mem_cons_self).1
  · rintro i T o v s' k ⟨h, tk, oI, oJ, rfl, F', N', itI, itJ, hTI, hTJ⟩
    have zI := N' (I, oI) (List.mem_cons_of_mem _ List.mem_cons_self)
    have zJ := N' (J, oJ) (List.mem_cons_of_mem _ (List.mem_cons_of_mem _ List.mem_cons_self))
    refine ⟨h.push (tlObj v), k, oI, oJ, rfl, F'.push _, fun p hp => ?_, ?_, ?_, Nat.ne_of_gt (Heap.lt_size zI.1), Nat.ne_of_gt (Heap.lt_size zJ.1)⟩
    · rcases List.mem_cons.mp hp with rfl | hp
      · exact ⟨Heap.get?_push_size _ rfl, Nat.ne_of_gt F'.ns.lt, F'.fresh⟩
      · have z := N' p (List.mem_cons_of_mem _ hp)
        exact ⟨Heap.get?_push_of_some _ z.1, z.2⟩
    · obtain ⟨o1, e1, r1⟩ := itI; exact ⟨o1, Heap.get?_push_of_some _ e1, r1⟩
    · obtain ⟨o1, e1, r1⟩ := itJ; exact ⟨o1, Heap.get?_push_of_some _ e1, r1⟩
  · rintro s' k ⟨h, tk, rfl, F', N'⟩
    exact ⟨h, k, rfl, F', N'⟩
  · intro k
    refine ⟨H.push (tlObj tlZero), k, { cls := .type "list_iterator", data := .fields #[.ref a, .int 0 0] }, { cls := .type "list_iterator", data := .fields #[.ref b, .int 0 0] }, rfl, F2.push _, fun p hp => ?_, ⟨_, Heap.get?_push_of_some _ gI, rfl, rfl⟩, ⟨_, Heap.get?_push_of_some _ gJ, rfl, rfl⟩, Nat.ne_of_gt (Heap.lt_size gI), Nat.ne_of_gt (Heap.lt_size gJ)⟩
    rcases List.mem_cons.mp hp with rfl | hp
    · exact ⟨Heap.get?_push_size _ rfl, Nat.ne_of_gt F2.ns.lt, F2.fresh⟩
    rcases List.mem_cons.mp hp with rfl | hp
    · exact ⟨Heap.get?_push_of_some _ gI, hI, hI₀⟩
    rcases List.mem_cons.mp hp with rfl | hp
    · exact ⟨Heap.get?_push_of_some _ gJ, hJL, hJ₀⟩
    · exact ⟨Heap.get?_push_of_some _ (NL p hp).1, (NL p hp).2⟩
  · rintro s' t ⟨h, tk, rfl, F', N'⟩
    exact hQ h tk t F' N'
theorem sumprod_tuples {a b : Addr} {vs ws : List Value} {xs ys : List UInt64} {s : Shared} {Q : Value → Shared → Prop} (hh : A.handled = none) (Fh : Fr h₀ L s.heap m) (N : News h₀ L s.heap led)
    (ha : (a, tupO vs.toArray) ∈ led) (hb : (b, tupO ws.toArray) ∈ led) (hx : All2 FloRel vs xs) (hy : All2 FloRel ws ys) (hl : xs.length = ys.length) (hn : 0 < xs.length)
    (hfin : ∀ i, i < xs.length → Float64.isFinite (tlAt (fun i => xs.getD i 0) (fun i => ys.getD i 0) (i + 1)).1 = true)
    (hQ : ∀ h' tk' t, Fr h₀ L h' m → News h₀ L h' led → Q (.float (Float64.add (Float64.ofInt 0) (tlToFloat (tlAt (fun i => xs.getD i 0) (fun i => ys.getD i 0) xs.length))) t) { s with heap := h', toks := tk' }) :
    wpAny (model prog w) A (call (.builtin "math.sumprod") [.ref a, .ref b]) Q E s := by
  have lx := hx.len
  have ly := hy.len
  refine call_sumprod (n := xs.length) hn hfin ?_
  refine wpAny_pyIter_tuple (items := vs.toArray) ⟨_, (N _ ha).1, rfl, _, rfl⟩ ?_
  refine wpAny_pyIter_tuple (items := ws.toArray) ⟨_, Heap.get?_push_of_some _ (N _ hb).1, rfl, _, rfl⟩ ?_
  have hI : s.heap.objs.size ≠ L := Nat.ne_of_gt Fh.ns.lt
  have hI₀ : h₀.get? s.heap.objs.size = none := Fh.fresh
  have F1 := Fh.push { cls := .type "tuple_iterator", data := .fields #[.ref a, .int 0 0] }
  have hJL := Nat.ne_of_gt F1.ns.lt
  have hJ₀ := F1.fresh
  have F2 := F1.push { cls := .type "tuple_iterator", data := .fields #[.ref b, .int 0 0] }
  have gI := Heap.get?_push_of_some { cls := .type "tuple_iterator", data := .fields #[.ref b, .int 0 0] } (Heap.get?_push_size s.heap (o := { cls := .type "tuple_iterator", data := .fields #[.ref a, .int 0 0] }) rfl)
  have gJ := Heap.get?_push_size (s.heap.push { cls := .type "tuple_iterator", data := .fields #[.ref a, .int 0 0] }) (o := { cls := .type "tuple_iterator", data := .fields #[.ref b, .int 0 0] }) rfl
  have hJe : (s.heap.push { cls := .type "tuple_iterator", data := .fields #[.ref a, .int 0 0] }).objs.size = s.heap.objs.size + 1 := Heap.size_push ..
  have NL : News h₀ L ((s.heap.push { cls := .type "tuple_iterator", data := .fields #[.ref a, .int 0 0] }).push { cls := .type "tuple_iterator", data := .fields #[.ref b, .int 0 0] }) led := N.grown fun _ _ e => Heap.get?_push_of_some _ (Heap.get?_push_of_some _ e)
  have offI : ∀ p ∈ led, p.1 ≠ s.heap.objs.size := item_fresh N
  have offJ : ∀ p ∈ led, p.1 ≠ s.heap.objs.size + 1 := fun p hp => Nat.ne_of_lt (Nat.lt_succ_of_lt (Heap.lt_size (N p hp).1))
  rw [hJe] at hJL hJ₀ gJ
  show ∃ I J St Fin, _ = Value.ref I ∧ Value.ref (s.heap.push { cls := .type "tuple_iterator", data := .fields #[.ref a, .int 0 0] }).objs.size = Value.ref J ∧ _
  rw [hJe]
  dsimp only
  generalize hH : (s.heap.push { cls := .type "tuple_iterator", data := .fields #[.ref a, .int 0 0] }).push { cls := .type "tuple_iterator", data := .fields #[.ref b, .int 0 0] } = H at F2 gI gJ NL ⊢
  have hIJ : @Ne Nat s.heap.objs.size (s.heap.objs.size + 1) := by omega
  generalize hIe : s.heap.objs.size = I at hI hI₀ gI offI offJ hJL hJ₀ gJ hIJ ⊢
  generalize hJJ : I + 1 = J at hJL hJ₀ gJ offJ hIJ ⊢
  have hsz : H.objs.size = J + 1 := by rw [← hH, Heap.size_push, hJe, hIe, hJJ]
  clear hH hJe hIe hJJ F1
  refine ⟨I, J, fun i j T o s' => ∃ h tk oI oJ, s' = { s with heap := h, toks := tk } ∧ Fr h₀ L h m ∧ News h₀ L h ((T, o) :: (I, oI) :: (J, oJ) :: led) ∧ h.IsTupleIter I a i ∧ h.IsTupleIter J b j ∧ T ≠ I ∧ T ≠ J,
    fun s' => ∃ h tk, s' = { s with heap := h, toks := tk } ∧ Fr h₀ L h m ∧ News h₀ L h led, rfl, rfl, ⟨?_, ?_, ?_, ?_, ?_, ?_⟩, ?_, ?_⟩
  · rintro i T o s' Q E hi ⟨h, tk, oI, oJ, rfl, F', N', itI, itJ, hTI, hTJ⟩ hq
    obtain ⟨x, hxi, t, hv⟩ := hx.at' (List.getElem?_eq_getElem (show i < vs.length by omega))
    refine wpAny_pyNext_tuple_item (t := a) (items := vs.toArray) (x := .float x t) itI ⟨_, N'.get (List.mem_cons_of_mem _ (List.mem_cons_of_mem _ (List.mem_cons_of_mem _ ha))), rfl, _, rfl⟩ (by simp [← hv, show i < vs.length by omega]) fun h' it' hs' => ?_
    obtain ⟨oI', e1, e2⟩ := it'
    have N2 : News h₀ L h' ((T, o) :: (I, oI') :: (J, oJ) :: led) := fun p hp => by
      rcases List.mem_cons.mp hp with rfl | hp
      · exact ⟨hs'.extBut _ _ hTI (N' _ List.mem_cons_self).1, (N' _ List.mem_cons_self).2⟩
      rcases List.mem_cons.mp hp with rfl | hp
      · exact ⟨e1, hI, hI₀⟩
      rcases List.mem_cons.mp hp with rfl | hp
      · exact ⟨hs'.extBut _ _ hIJ.symm (N' _ (List.mem_cons_of_mem _ (List.mem_cons_of_mem _ List.mem_cons_self))).1, hJL, hJ₀⟩
      · have z := N' p (List.mem_cons_of_mem _ (List.mem_cons_of_mem _ (List.mem_cons_of_mem _ hp)))
        exact ⟨hs'.extBut _ _ (offI p hp) z.1, z.2⟩
    have e : xs.getD i 0 = x := by rw [List.getD_eq_getElem?_getD, hxi]; rfl
    have := hq { s with heap := h', toks := tk } t ⟨h', tk, oI', oJ, rfl, Mine.Fr.ext F' hs'.extBut hI.symm hI₀, N2, ⟨oI', e1, e2⟩, itJ.extBut hs'.extBut hIJ.symm, hTI, hTJ⟩
    rw [e] at this
    exact this
  · rintro i T o s' Q E hi ⟨h, tk, oI, oJ, rfl, F', N', itI, itJ, hTI, hTJ⟩ hq
    obtain ⟨x, hxi, t, hv⟩ := hy.at' (List.getElem?_eq_getElem (show i < ws.length by omega))
    refine wpAny_pyNext_tuple_item (t := b) (items := ws.toArray) (x := .float x t) itJ ⟨_, N'.get (List.mem_cons_of_mem _ (List.mem_cons_of_mem _ (List.mem_cons_of_mem _ hb))), rfl, _, rfl⟩ (by simp [← hv, show i < ws.length by omega]) fun h' it' hs' => ?_
    obtain ⟨oJ', e1, e2⟩ := it'
    have N2 : News h₀ L h' ((T, o) :: (I, oI) :: (J, oJ') :: led) := fun p hp => by
      rcases List.mem_cons.mp hp with rfl | hp
      · exact ⟨hs'.extBut _ _ hTJ (N' _ List.mem_cons_self).1, (N' _ List.mem_cons_self).2⟩
      rcases List.mem_cons.mp hp with rfl | hp
      · exact ⟨hs'.extBut _ _ hIJ (N' _ (List.mem_cons_of_mem _ List.mem_cons_self)).1, hI, hI₀⟩
      rcases List.mem_cons.mp hp with rfl | hp
      · exact ⟨e1, hJL, hJ₀⟩
      · have z := N' p (List.mem_cons_of_mem _ (List.mem_cons_of_mem _ (List.mem_cons_of_mem _ hp)))
        exact ⟨hs'.extBut _ _ (offJ p hp) z.1, z.2⟩
    have e : ys.getD i 0 = x := by rw [List.getD_eq_getElem?_getD, hxi]; rfl
    have := hq { s with heap := h', toks := tk } t ⟨h', tk, oI, oJ', rfl, Mine.Fr.ext F' hs'.extBut hJL.symm hJ₀, N2, itI.extBut hs'.extBut hIJ, ⟨oJ', e1, e2⟩, hTI, hTJ⟩
    rw [e] at this
    exact this
  · rintro T o s' Q E ⟨h, tk, oI, oJ, rfl, F', N', itI, itJ, hTI, hTJ⟩ hq
    have NL' : News h₀ L h led := fun p hp => N' p (List.mem_cons_of_mem _ (List.mem_cons_of_mem _ (List.mem_cons_of_mem _ hp)))
    refine wpAny_pyNext_tuple_end (t := a) (items := vs.toArray) hh itI ⟨_, NL'.get ha, rfl, _, rfl⟩ (by simp; omega) fun h' hx' => ?_
    have F2' := Mine.Fr.ext F' hx' hI.symm hI₀
    have NL2 : News h₀ L h' led := Mine.News.ext NL' hx' offI
    refine hq _ fun Q' E' hq' => ?_
    refine wpAny_pyNext_tuple_end (t := b) (items := ws.toArray) hh (itJ.extBut hx' hIJ.symm) ⟨_, NL2.get hb, rfl, _, rfl⟩ (by simp; omega) fun h'' hx'' => ?_
    exact hq' _ ⟨h'', tk, rfl, Mine.Fr.ext F2' hx'' hJL.symm hJ₀, Mine.News.ext NL2 hx'' offJ⟩
  · rintro i j T o s' ⟨h, tk, oI, oJ, rfl, F', N', r⟩
    exact (N' _ List.mem_cons_self).1
  · rintro i T o v s' k ⟨h, tk, oI, oJ, rfl, F', N', itI, itJ, hTI, hTJ⟩
    have zI := N' (I, oI) (List.mem_cons_of_mem _ List.mem_cons_self)
    have zJ := N' (J, oJ) (List.mem_cons_of_mem _ (List.mem_cons_of_mem _ List.mem_cons_self))
    refine ⟨h.push (tlObj v), k, oI, oJ, rfl, F'.push _, fun p hp => ?_, ?_, ?_, Nat.ne_of_gt (Heap.lt_size zI.1), Nat.ne_of_gt (Heap.lt_size zJ.1)⟩
    · rcases List.mem_cons.mp hp with rfl | hp
      · exact ⟨Heap.get?_push_size _ rfl, Nat.ne_of_gt F'.ns.lt, F'.fresh⟩
      · have z := N' p (List.mem_cons_of_mem _ hp)
        exact ⟨Heap.get?_push_of_some _ z.1, z.2⟩
    · obtain ⟨o1, e1, r1⟩ := itI; exact ⟨o1, Heap.get?_push_of_some _ e1, r1⟩
    · obtain ⟨o1, e1, r1⟩ := itJ; exact ⟨o1, Heap.get?_push_of_some _ e1, r1⟩
  · rintro s' k ⟨h, tk, rfl, F', N'⟩
    exact ⟨h, k, rfl, F', N'⟩
  · intro k
    refine ⟨H.push (tlObj tlZero), k, { cls := .type "tuple_iterator", data := .fields #[.ref a, .int 0 0] }, { cls := .type "tuple_iterator", data := .fields #[.ref b, .int 0 0] }, rfl, F2.push _, fun p hp => ?_, ⟨_, Heap.get?_push_of_some _ gI, rfl, rfl⟩, ⟨_, Heap.get?_push_of_some _ gJ, rfl, rfl⟩, Nat.ne_of_gt (Heap.lt_size gI), Nat.ne_of_gt (Heap.lt_size gJ)⟩
    rcases List.mem_cons.mp hp with rfl | hp
    · exact ⟨Heap.get?_push_size _ rfl, Nat.ne_of_gt F2.ns.lt, F2.fresh⟩
    rcases List.mem_cons.mp hp with rfl | hp
    · exact ⟨Heap.get?_push_of_some _ gI, hI, hI₀⟩
    rcases List.mem_cons.mp hp with rfl | hp
    · exact ⟨Heap.get?_push_of_some _ gJ, hJL, hJ₀⟩
    · exact ⟨Heap.get?_push_of_some _ (NL p hp).1, (NL p hp).2⟩
  · rintro s' t ⟨h, tk, rfl, F', N'⟩
    exact hQ h tk t F' N'
end
end Mine
end
section
open PySem.Calls PySem.Spec
namespace Mine
open PySem.Float64 PySem.Builtin.Math
/-- k / 64 as a double -/
def DK (k : Int) : UInt64 := ofFrac (decide (k < 0)) k.natAbs 64
def dkRow : Bool := (List.range 1025).all fun n => decide (V (roundMag n 64) = n * 2 ^ 1068) && decide (roundMag n 64 < infMag)
theorem dkRow_ok : dkRow = true := by decide +kernel
theorem dk_V {n : Nat} (h : n ≤ 1024) : V (roundMag n 64) = n * 2 ^ 1068 ∧ roundMag n 64 < infMag := by
  have := List.all_eq_true.mp dkRow_ok n (List.mem_range.mpr (by omega))
  rw [Bool.and_eq_true] at this
  exact ⟨of_decide_eq_true this.1, of_decide_eq_true this.2⟩
theorem dk_decode {k : Int} (h : k.natAbs ≤ 1024) : ∃ m e, decode (DK k) = .fin (decide (k < 0)) m e := by
  obtain ⟨m, e, h1, _⟩ := decode_pack (decide (k < 0)) (dk_V h).2
  exact ⟨m, e, by unfold DK ofFrac; exact h1⟩
theorem sgn_abs (k : Int) (c : Nat) : sgn (decide (k < 0)) (k.natAbs * c) = k * (c : Int) := by
  unfold sgn
  by_cases h : k < 0
  · rw [decide_eq_true h, if_pos rfl, Int.natCast_mul, ← Int.neg_mul]
    congr 1
    omega
  · rw [decide_eq_false h, if_neg (by decide), Int.natCast_mul]
    congr 1
    omega
theorem dk_val {k : Int} (h : k.natAbs ≤ 1024) : val (DK k) = k * ((2 ^ 1068 : Nat) : Int) := by
  unfold DK ofFrac
  rw [val_pack _ (dk_V h).2, (dk_V h).1, sgn_abs]
theorem dk_finite {k : Int} (h : k.natAbs ≤ 1024) : isFinite (DK k) = true := by
  obtain ⟨m, e, h1⟩ := dk_decode h
  unfold isFinite; rw [h1]
theorem dist_self (a : Nat) : dist a a = 0 := by unfold dist; omega
theorem V_inj {t u : Nat} (h : V t = V u) : t = u := by
  rcases Nat.lt_trichotomy t u with h1 | h1 | h1
  · have := V_lt h1; omega
  · exact h1
  · have := V_lt h1; omega
theorem right_exact {r : UInt64} {neg : Bool} {W t0 : Nat} (h : Right r neg W 1) (hV : V t0 = W) (hs : 2 * W < (2 ^ 54 - 1) * 2 ^ 2045) : r = pack neg t0 := by
  obtain ⟨t, rfl, h1, h2, h3⟩ := h
  have ht : t < infMag := by
    rcases Nat.lt_or_ge t infMag with h | h
    · exact h
    · exfalso
      have := h2.mp (Nat.le_antisymm h1 h)
      rw [Nat.one_mul] at this
      omega
  have := (h3 ht t0).1
  rw [Nat.one_mul, Nat.one_mul, hV, dist_self] at this
  have e : V t = W := by unfold dist at this; omega
  rw [V_inj (e.trans hV.symm)]
theorem small_ok {n : Nat} (h : n ≤ 1024) : 2 * (n * 2 ^ 1068) < (2 ^ 54 - 1) * 2 ^ 2045 := by
  have h1 : 2 * (n * 2 ^ 1068) ≤ 2 * (1024 * 2 ^ 1068) := Nat.mul_le_mul_left 2 (Nat.mul_le_mul_right _ h)
  have h2 : 2 * (1024 * 2 ^ 1068) < (2 ^ 54 - 1) * 2 ^ 2045 := by decide +kernel
  omega
theorem zero_dk : zero false = DK 0 := by decide +kernel
theorem gen_add {x y : UInt64} {a b : Bool} {m k : Nat} {e f : Int} {s : Int} (hx : decode x = .fin a m e) (hy : decode y = .fin b k f) (hv : val x + val y = s * ((2 ^ 1068 : Nat) : Int)) (hs : s.natAbs ≤ 1024) (hz : s = 0 → (a && b) = false) : PySem.Float64.add x y = DK s := by
  obtain ⟨a1, a2⟩ := add_right hx hy
  rw [hv] at a1 a2
  have hp : (0 : Int) < ((2 ^ 1068 : Nat) : Int) := Int.ofNat_lt.mpr (Nat.two_pow_pos _)
  by_cases h0 : s = 0
  · rw [a1 (by rw [h0, Int.zero_mul]), hz h0, h0]
    exact zero_dk
  · have hne : s * ((2 ^ 1068 : Nat) : Int) ≠ 0 := fun e => by
      rcases Int.mul_eq_zero.mp e with h | h
      · exact h0 h
      · omega
    have r := a2 hne
    have hd : decide (s * ((2 ^ 1068 : Nat) : Int) < 0) = decide (s < 0) := by
      apply decide_eq_decide.mpr
      constructor
      · intro h
        rcases Int.lt_or_le s 0 with h' | h'
        · exact h'
        · have := Int.mul_nonneg h' (Int.le_of_lt hp); omega
      · intro h; exact Int.mul_neg_of_neg_of_pos h hp
    rw [hd, Int.natAbs_mul, Int.natAbs_natCast] at r
    unfold DK ofFrac
    exact right_exact r (dk_V hs).1 (small_ok hs)
theorem dk_add {j k : Int} (hj : j.natAbs ≤ 1024) (hk : k.natAbs ≤ 1024) (hs : (j + k).natAbs ≤ 1024) : PySem.Float64.add (DK j) (DK k) = DK (j + k) := by
  obtain ⟨m, e, h1⟩ := dk_decode hj
  obtain ⟨m', e', h2⟩ := dk_decode hk
  refine gen_add h1 h2 (by rw [dk_val hj, dk_val hk, Int.add_mul]) hs fun h0 => ?_
  by_cases hj0 : j < 0
  · rw [decide_eq_false (p := k < 0) (by omega), Bool.and_false]
  · rw [decide_eq_false hj0, Bool.false_and]
theorem dk_sub {j k : Int} (hj : j.natAbs ≤ 1024) (hk : k.natAbs ≤ 1024) (hs : (j - k).natAbs ≤ 1024) : PySem.Float64.sub (DK j) (DK k) = DK (j - k) := by
  obtain ⟨m, e, h1⟩ := dk_decode hj
  obtain ⟨m', e', h2⟩ := dk_decode hk
  unfold PySem.Float64.sub
  refine gen_add h1 (neg_decode h2) (by rw [neg_val h2, dk_val hj, dk_val hk, Int.sub_mul]; rfl) hs fun h0 => ?_
  have : j = k := by omega
  subst this
  cases decide (j < 0) <;> rfl
theorem mz_decode : ∃ m e, decode (zero true) = .fin true m e := by
  obtain ⟨m, e, h, _⟩ := decode_pack true (t := 0) (by decide +kernel)
  exact ⟨m, e, h⟩
theorem mz_val : val (zero true) = 0 := by
  unfold zero
  rw [val_pack true (t := 0) (by decide +kernel), V_zero]; rfl
theorem dk_addz {j : Int} (hj : j.natAbs ≤ 1024) : PySem.Float64.add (DK j) (zero true) = DK j := by
  obtain ⟨m, e, h1⟩ := dk_decode hj
  obtain ⟨m', e', h2⟩ := mz_decode
  refine gen_add h1 h2 (by rw [dk_val hj, mz_val, Int.add_zero]) hj fun h0 => ?_
  subst h0; rfl
/-- what the product of two eighths is: a sign may stay on nought -/
def mulRow : Bool := (List.range 17).all fun p => (List.range 17).all fun q => let P : Int := (p : Int) - 8; let Q : Int := (q : Int) - 8
  let r := dlMul (DK (8 * P)) (DK (8 * Q)); decide (r.2 = DK 0) && (decide (r.1 = DK (P * Q)) || (decide (P * Q = 0) && decide (r.1 = zero true)))
theorem mulRow_ok : mulRow = true := by decide +kernel
theorem dk_mul {P Q : Int} (hP : P.natAbs ≤ 8) (hQ : Q.natAbs ≤ 8) : (dlMul (DK (8 * P)) (DK (8 * Q))).2 = DK 0 ∧ ((dlMul (DK (8 * P)) (DK (8 * Q))).1 = DK (P * Q) ∨ (P * Q = 0 ∧ (dlMul (DK (8 * P)) (DK (8 * Q))).1 = zero true)) := by
  have h1 := List.all_eq_true.mp mulRow_ok (P + 8).toNat (List.mem_range.mpr (by omega))
  have h2 := List.all_eq_true.mp h1 (Q + 8).toNat (List.mem_range.mpr (by omega))
  have e1 : (((P + 8).toNat : Nat) : Int) - 8 = P := by omega
  have e2 : (((Q + 8).toNat : Nat) : Int) - 8 = Q := by omega
  simp only [e1, e2] at h2
  rw [Bool.and_eq_true, Bool.or_eq_true, Bool.and_eq_true] at h2
  exact ⟨of_decide_eq_true h2.1, h2.2.elim (fun h => .inl (of_decide_eq_true h)) fun h => .inr ⟨of_decide_eq_true h.1, of_decide_eq_true h.2⟩⟩
theorem dk_sum {j k : Int} (hj : j.natAbs ≤ 512) (hk : k.natAbs ≤ 512) : dlSum (DK j) (DK k) = (DK (j + k), DK 0) := by
  unfold dlSum
  simp only [dk_add (j := j) (k := k) (by omega) (by omega) (by omega)]
  rw [dk_sub (j := j + k) (k := j) (by omega) (by omega) (by omega), show j + k - j = k by omega, dk_sub (j := j + k) (k := k) (by omega) (by omega) (by omega), show j + k - k = j by omega,
    dk_sub (j := j) (k := j) (by omega) (by omega) (by omega), dk_sub (j := k) (k := k) (by omega) (by omega) (by omega), Int.sub_self, Int.sub_self, dk_add (by decide) (by decide) (by decide)]
  rfl
theorem mz1 : PySem.Float64.sub (zero true) (DK 0) = zero true := by decide +kernel
theorem dk_sumz {j : Int} (hj : j.natAbs ≤ 512) : dlSum (DK j) (zero true) = (DK j, DK 0) := by
  unfold dlSum
  simp only [dk_addz (j := j) (by omega)]
  rw [dk_sub (j := j) (k := j) (by omega) (by omega) (by omega), Int.sub_self, dk_sub (j := j) (k := 0) (by omega) (by decide) (by omega), Int.sub_zero, dk_sub (j := j) (k := j) (by omega) (by omega) (by omega), Int.sub_self, mz1, dk_addz (by decide)]
/-- one turn of sumprod's lengths -/
theorem dk_fma {k P Q : Int} (hk : k.natAbs ≤ 512) (hP : P.natAbs ≤ 8) (hQ : Q.natAbs ≤ 8) : tlFma (DK (8 * P)) (DK (8 * Q)) (DK k, DK 0, DK 0) = (DK (k + P * Q), DK 0, DK 0) := by
  have hm : (P * Q).natAbs ≤ 512 := by
    rw [Int.natAbs_mul]
    have := Nat.mul_le_mul hP hQ
    omega
  obtain ⟨h2, h1⟩ := dk_mul hP hQ
  unfold tlFma
  simp only [h2]
  have h0 : dlSum (DK 0) (DK 0) = (DK 0, DK 0) := dk_sum (j := 0) (k := 0) (by decide) (by decide)
  have ha : PySem.Float64.add (DK 0) (DK 0) = DK 0 := dk_add (j := 0) (k := 0) (by decide) (by decide) (by decide)
  rcases h1 with h1 | ⟨hz, h1⟩
  · rw [h1, dk_sum hk hm, h0]
    simp only [h0, ha]
  · rw [h1, dk_sumz hk, h0, hz, Int.add_zero]
    simp only [h0, ha]
theorem dk_out {k : Int} (hk : k.natAbs ≤ 512) : tlToFloat (DK k, DK 0, DK 0) = DK k := by
  unfold tlToFloat
  simp only [dk_sum (j := 0) (k := k) (by decide) hk, Int.zero_add]
  rw [dk_add (j := 0) (k := 0) (by decide) (by decide) (by decide), Int.add_zero, dk_add (j := 0) (k := k) (by decide) (by omega) (by omega), Int.zero_add]
end Mine
end
section
open PySem.Calls PySem.Spec
namespace Mine
open PySem.Builtin.Math
section
local macro_rules | `(tactic| k_all) => `(tactic| first | with_reducible assumption | exact offs_lt (by with_reducible assumption) (by omega))
local macro_rules | `(tactic| k_mem) => `(tactic| first | with_reducible assumption | exact List.mem_cons_self | (refine' List.mem_cons_of_mem _ ?_; k_mem))
/-- _sqrtprod's number -/
def sqTwo (x y : UInt64) : List UInt64 := [x, Float64.sqrt (Float64.mul x y)]
def sqTwo' (x y : UInt64) : List UInt64 := [y, Float64.neg (Float64.sqrt (Float64.mul x y))]
def sqTl (x y : UInt64) (i : Nat) : Tl := tlAt (fun i => (sqTwo x y).getD i 0) (fun i => (sqTwo' x y).getD i 0) i
def sqD (x y : UInt64) : UInt64 := Float64.add (Float64.ofInt 0) (tlToFloat (sqTl x y 2))
def sqF (x y : UInt64) : UInt64 := if Float64.isZero (Float64.sqrt (Float64.mul x y)) = true then Float64.sqrt (Float64.mul x y) else
  Float64.add (Float64.sqrt (Float64.mul x y)) (Float64.div (sqD x y) (Float64.mul 4611686018427387904 (Float64.sqrt (Float64.mul x y))))
structure SqOk (x y : UInt64) : Prop where
  fin : Float64.isFinite (Float64.sqrt (Float64.mul x y)) = true
  zero : Float64.isZero (Float64.sqrt (Float64.mul x y)) = true → Float64.isZero x = true
  some : Float64.isZero (Float64.sqrt (Float64.mul x y)) = false → (∀ i, i < 2 → Float64.isFinite (sqTl x y (i + 1)).1 = true) ∧ Float64.isZero (Float64.mul 4611686018427387904 (Float64.sqrt (Float64.mul x y))) = false
theorem sq_nan {h : UInt64} {b : Bool} (hf : Float64.isFinite h = true) (hn : (Float64.isNaN h && b) = true) : False := by
  have := PySem.Flt.not_nan_of_finite hf
  rw [this, Bool.false_and] at hn; cases hn
theorem bool_clash {b : Bool} (h1 : b = true) (h2 : b = false) : False := by rw [h1] at h2; cases h2
theorem sqF_zero {x y : UInt64} (h : Float64.isZero (Float64.sqrt (Float64.mul x y)) = true) : sqF x y = Float64.sqrt (Float64.mul x y) := by unfold sqF; rw [if_pos h]
theorem sqF_some {x y : UInt64} (h : Float64.isZero (Float64.sqrt (Float64.mul x y)) = false) : sqF x y = Float64.add (Float64.sqrt (Float64.mul x y)) (Float64.div (sqD x y) (Float64.mul 4611686018427387904 (Float64.sqrt (Float64.mul x y)))) := by unfold sqF; rw [h, if_neg Bool.false_ne_true]
theorem sqrtprod_spec
 {w : World} {dp un : Nat} {gd : Option (List Code)} {cn : Str} {cs : Scope} {a : Addr} {ccd : Value} {cl : List (Str × Addr)} {outer : List Env} {A₀ : Around} {base h₀ : Heap} {L : Addr} {m : Str → Option Value} {news : List (Addr × Obj)} {s : Shared}
    {Q E : Value → Shared → Prop} {p : Program} {loose : List Str} {mean : ExcName → Option Value} {mg mb : Str → Option Value}
    (B : Below A₀ base outer h₀) (F : Fr h₀ L s.heap m) (X : (Mine.frag w.params).In h₀) (N : News h₀ L s.heap news) (T : Top p loose mean mg mb h₀) (hk : cs.kind = .function)
    (hdp : dp + 2 < recursionLimit) (hun : un + 20 < cLine)
    {x y : UInt64} {tx ty : Tok}  (hok : SqOk x y)
    (ret : ∀ h' tk' t, Fr h₀ L h' m → News h₀ L h' news → Q (.float (sqF x y) t) { s with heap := h', toks := tk' }) :
    wpAny (model PySem.Challenge.rw_ik0222_01.row.prog w) (ktrTop dp un gd cn cs L a ccd cl outer) (call (.ref 285) [.float x tx, .float y ty]) Q E s := by
  k_with_none
  k_with "call builtin:math.sumprod" => w_strict (k_here; (with_reducible show wpAny _ _ (call (Value.builtin "math.sumprod") [Value.ref _, Value.ref _]) _ _ _); k_dflt (refine' sumprod_tuples (s := ⟨_, _, _, _, _⟩) (vs := [_, _]) (ws := [_, _]) ?hw15 ?Fw15 ?Nw15 ?aw15 ?bw15 ?xw15 ?yw15 ?lw15 ?nw15 ?finw15 ?_; (case hw15 => first | exact rfl | assumption); (case Fw15 => k_asm); (case Nw15 => k_asm); (case aw15 => k_mem); (case bw15 => k_mem); (case xw15 => exact .cons ⟨_, rfl⟩ (.cons ⟨_, rfl⟩ .nil)); (case yw15 => exact .cons ⟨_, rfl⟩ (.cons ⟨_, rfl⟩ .nil)); (case lw15 => exact rfl); (case nw15 => exact Nat.zero_lt_succ _); (case finw15 => exact (SqOk.some (by assumption) (by assumption)).1); k_whole); intro _ _ _ _ _; (try k_sweep))
  revert X; k_fill; intro X
  refine wpAny_call ?_
  k_dflt cell_enter
  k_steps
  all_goals first
    | exact (sq_nan hok.fin (by with_reducible assumption)).elim
    | exact (bool_clash hok.fin (by with_reducible assumption)).elim
    | exact (bool_clash (hok.zero (by with_reducible assumption)) (by with_reducible assumption)).elim
    | exact (bool_clash (by with_reducible assumption) (hok.some (by with_reducible assumption)).2).elim
    | (have hq := ret; rw [sqF_zero (by with_reducible assumption)] at hq; exact hq _ _ _ (by with_reducible assumption) (by with_reducible assumption))
    | (have hq := ret; rw [sqF_some (by with_reducible assumption)] at hq; exact hq _ _ _ (by with_reducible assumption) (by with_reducible assumption))
    | (have hq := ret; rw [sqF_some (by with_reducible assumption)] at hq; exact hq _ _ _ (by with_reducible assumption) (fun p hp => (by assumption : News h₀ L _ _) p (List.mem_cons_of_mem _ (List.mem_cons_of_mem _ hp))))
end
end Mine
end
section
open PySem.Calls PySem.Spec
namespace Mine
open PySem.Float64 PySem.Builtin.Math
theorem ofInt0 : Float64.ofInt 0 = DK 0 := by decide +kernel
def devRow : Bool := [4, 8].all fun (c : Nat) => (List.range (c + 1)).all fun a => (List.range 2).all fun x =>
  decide (Float64.sub (Float64.ofInt (x : Int)) (Float64.div (Float64.ofInt (a : Int)) (Float64.ofInt (c : Int))) = DK (8 * (8 * (x : Int) - (8 / (c : Int)) * (a : Int))))
theorem devRow_ok : devRow = true := by decide +kernel
theorem dev_is {c a x : Int} (hc : c = 4 ∨ c = 8) (ha : 0 ≤ a ∧ a ≤ c) (hx : x = 0 ∨ x = 1) :
    Float64.sub (Float64.ofInt x) (Float64.div (Float64.ofInt a) (Float64.ofInt c)) = DK (8 * (8 * x - (8 / c) * a)) := by
  have h0 : c.toNat ∈ [4, 8] := by rcases hc with rfl | rfl <;> decide
  have h1 := List.all_eq_true.mp devRow_ok c.toNat h0
  have h2 := List.all_eq_true.mp h1 a.toNat (List.mem_range.mpr (by omega))
  have h3 := List.all_eq_true.mp h2 x.toNat (List.mem_range.mpr (by omega))
  have e1 : ((c.toNat : Nat) : Int) = c := by omega
  have e2 : ((a.toNat : Nat) : Int) = a := by omega
  have e3 : ((x.toNat : Nat) : Int) = x := by omega
  simp only [e1, e2, e3] at h3
  exact of_decide_eq_true h3
/-- eights of the rests of a column -/
def devs (c : Int) (xs : List Int) : List Int := xs.map fun x => 8 * x - (8 / c) * xs.sum
def Small8 (ps : List Int) : Prop := ∀ p ∈ ps, p.natAbs ≤ 8
theorem devs_small {c : Int} {xs : List Int} (hc : c = 4 ∨ c = 8) (hb : Bits xs) (hl : (xs.length : Int) = c) : Small8 (devs c xs) := by
  intro p hp
  obtain ⟨x, hx, rfl⟩ := List.mem_map.mp hp
  have h1 := bits_sum_le hb
  have h2 := hb x hx
  rcases hc with rfl | rfl
  · simp only [show (8 / 4 : Int) = 2 by decide]; omega
  · simp only [show (8 / 8 : Int) = 1 by decide]; omega
def dot (ps qs : List Int) : Int := (List.zipWith (· * ·) ps qs).sum
theorem mul_small {p q : Int} (hp : p.natAbs ≤ 8) (hq : q.natAbs ≤ 8) : (p * q).natAbs ≤ 64 := by
  rw [Int.natAbs_mul]
  exact Nat.mul_le_mul hp hq
theorem dot_small : ∀ {ps qs : List Int}, Small8 ps → Small8 qs → (dot ps qs).natAbs ≤ 64 * ps.length
  | [], qs, _, _ => by simp [dot]
  | p :: ps, [], _, _ => by simp [dot]
  | p :: ps, q :: qs, h1, h2 => by
    have ih := dot_small (ps := ps) (qs := qs) (fun x hx => h1 x (List.mem_cons_of_mem _ hx)) fun x hx => h2 x (List.mem_cons_of_mem _ hx)
    have hm := mul_small (h1 p List.mem_cons_self) (h2 q List.mem_cons_self)
    unfold dot at *
    rw [List.zipWith_cons_cons, List.sum_cons, List.length_cons]
    omega
abbrev dk8 (ps : List Int) : List UInt64 := ps.map fun p => DK (8 * p)
theorem tl_dk {ps qs : List Int} (h1 : Small8 ps) (h2 : Small8 qs) (hl : ps.length = qs.length) (hn : ps.length ≤ 8) : ∀ i, i ≤ ps.length →
    tlAt (fun i => (dk8 ps).getD i 0) (fun i => (dk8 qs).getD i 0) i = (DK (dot (ps.take i) (qs.take i)), DK 0, DK 0)
  | 0, _ => by
    show tlZero = _
    simp only [List.take_zero, dot, List.zipWith_nil_left, List.sum_nil, tlZero, zero_dk]
  | i + 1, hi => by
    have ih := tl_dk h1 h2 hl hn i (by omega)
    have hi' : i < ps.length := hi
    have hi2 : i < qs.length := by omega
    unfold tlAt
    rw [ih]
    have e1 : (dk8 ps).getD i 0 = DK (8 * ps[i]) := by rw [List.getD_eq_getElem?_getD, List.getElem?_map, List.getElem?_eq_getElem hi']; rfl
    have e2 : (dk8 qs).getD i 0 = DK (8 * qs[i]) := by rw [List.getD_eq_getElem?_getD, List.getElem?_map, List.getElem?_eq_getElem hi2]; rfl
    simp only [e1, e2]
    have hs : (dot (ps.take i) (qs.take i)).natAbs ≤ 512 := by
      have := dot_small (ps := ps.take i) (qs := qs.take i) (fun x hx => h1 x (List.mem_of_mem_take hx)) fun x hx => h2 x (List.mem_of_mem_take hx)
      rw [List.length_take] at this
      omega
    rw [dk_fma hs (h1 _ (List.getElem_mem hi')) (h2 _ (List.getElem_mem hi2))]
    congr 2
    unfold dot
    rw [List.take_succ_eq_append_getElem hi', List.take_succ_eq_append_getElem hi2, List.zipWith_append (by rw [List.length_take, List.length_take]; omega), List.sum_append]
    simp
theorem tl_finite {ps qs : List Int} (h1 : Small8 ps) (h2 : Small8 qs) (hl : ps.length = qs.length) (hn : ps.length ≤ 8) (i : Nat) (hi : i < (dk8 ps).length) : Float64.isFinite (tlAt (fun i => (dk8 ps).getD i 0) (fun i => (dk8 qs).getD i 0) (i + 1)).1 = true := by
  rw [List.length_map] at hi
  rw [tl_dk h1 h2 hl hn (i + 1) hi]
  refine dk_finite ?_
  have := dot_small (ps := ps.take (i + 1)) (qs := qs.take (i + 1)) (fun x hx => h1 x (List.mem_of_mem_take hx)) fun x hx => h2 x (List.mem_of_mem_take hx)
  rw [List.length_take] at this
  omega
theorem tl_value {ps qs : List Int} (h1 : Small8 ps) (h2 : Small8 qs) (hl : ps.length = qs.length) (hn : ps.length ≤ 8) :
    Float64.add (Float64.ofInt 0) (tlToFloat (tlAt (fun i => (dk8 ps).getD i 0) (fun i => (dk8 qs).getD i 0) (dk8 ps).length)) = DK (dot ps qs) := by
  rw [List.length_map, tl_dk h1 h2 hl hn ps.length (Nat.le_refl _), List.take_length, hl, List.take_length]
  have hs : (dot ps qs).natAbs ≤ 512 := by have := dot_small h1 h2; omega
  rw [dk_out hs, ofInt0, dk_add (by decide) (by omega) (by omega), Int.zero_add]
section
variable {prog : Program} {w : World} {A : Around} {E : Value → Shared → Prop} {h₀ : Heap} {L : Addr} {m : Str → Option Value} {led : List (Addr × Obj)}
theorem sumprod_dk {a b : Addr} {vs ws : List Value} {n₁ n₂ : Nat} {ps qs : List Int} {s : Shared} {Q : Value → Shared → Prop} (hh : A.handled = none) (Fh : Fr h₀ L s.heap m) (N : News h₀ L s.heap led)
    (ha : (a, lstO vs n₁) ∈ led) (hb : (b, lstO ws n₂) ∈ led) (hx : All2 FloRel vs (dk8 ps)) (hy : All2 FloRel ws (dk8 qs)) (h1 : Small8 ps) (h2 : Small8 qs) (hl : ps.length = qs.length) (hn : ps.length ≤ 8) (h0 : 0 < ps.length)
    (hQ : ∀ h' tk' t, Fr h₀ L h' m → News h₀ L h' led → Q (.float (DK (dot ps qs)) t) { s with heap := h', toks := tk' }) :
    wpAny (model prog w) A (call (.builtin "math.sumprod") [.ref a, .ref b]) Q E s :=
  sumprod_lists hh Fh N ha hb hx hy (by rw [List.length_map, List.length_map, hl]) (by rw [List.length_map]; exact h0) (tl_finite h1 h2 hl hn) fun h' tk' t F' N' => by
    rw [tl_value h1 h2 hl hn]; exact hQ h' tk' t F' N'
end
/-- the products of the rests, by their sums -/
theorem dot_devs (A B : Int) : ∀ (xs ys : List Int), xs.length = ys.length → dot (xs.map fun x => 8 * x - A) (ys.map fun y => 8 * y - B) = 64 * dot xs ys - 8 * B * xs.sum - 8 * A * ys.sum + xs.length * (A * B)
  | [], [], _ => by simp [dot]
  | [], _ :: _, h => by simp at h
  | _ :: _, [], h => by simp at h
  | x :: xs, y :: ys, h => by
    have ih := dot_devs A B xs ys (by simpa using h)
    unfold dot at *
    simp only [List.map_cons, List.zipWith_cons_cons, List.sum_cons, List.length_cons]
    rw [ih]
    push_cast
    have e : (8 * x - A) * (8 * y - B) = 64 * (x * y) - 8 * B * x - 8 * A * y + A * B := by
      rw [Int.sub_mul, Int.mul_sub, Int.mul_sub]
      have e1 : 8 * x * (8 * y) = 64 * (x * y) := by rw [Int.mul_assoc, Int.mul_left_comm x 8 y, ← Int.mul_assoc]; rfl
      have e2 : 8 * x * B = 8 * B * x := by rw [Int.mul_assoc, Int.mul_comm x B, ← Int.mul_assoc]
      have e3 : A * (8 * y) = 8 * A * y := by rw [Int.mul_left_comm, ← Int.mul_assoc]
      rw [e1, e2, e3]; omega
    rw [e, Int.mul_add, Int.mul_add (8 * B), Int.mul_add (8 * A), Int.add_mul]
    omega
theorem dot_devs' {c : Int} {xs ys : List Int} (hc : c = 4 ∨ c = 8) (hl : (xs.length : Int) = c) (hl' : xs.length = ys.length) : dot (devs c xs) (devs c ys) = 64 * dot xs ys - 8 * (8 / c) * (xs.sum * ys.sum) := by
  unfold devs
  rw [dot_devs _ _ _ _ hl', hl]
  rcases hc with rfl | rfl
  · simp only [show (8 / 4 : Int) = 2 by decide]
    have e1 : 8 * (2 * ys.sum) * xs.sum = 16 * (xs.sum * ys.sum) := by rw [← Int.mul_assoc 8 2, Int.mul_assoc, Int.mul_comm ys.sum]; rfl
    have e2 : 8 * (2 * xs.sum) * ys.sum = 16 * (xs.sum * ys.sum) := by rw [← Int.mul_assoc 8 2, Int.mul_assoc]; rfl
    have e3 : 2 * xs.sum * (2 * ys.sum) = 4 * (xs.sum * ys.sum) := by rw [Int.mul_assoc, Int.mul_left_comm xs.sum 2, ← Int.mul_assoc]; rfl
    rw [e1, e2, e3]; omega
  · simp only [show (8 / 8 : Int) = 1 by decide, Int.one_mul]
    have e1 : 8 * ys.sum * xs.sum = 8 * (xs.sum * ys.sum) := by rw [Int.mul_assoc, Int.mul_comm ys.sum]
    have e2 : 8 * xs.sum * ys.sum = 8 * (xs.sum * ys.sum) := by rw [Int.mul_assoc]
    rw [e1, e2]; omega
end Mine
end
section
open PySem.Calls PySem.Spec
namespace Mine
open PySem.Float64 PySem.Builtin.Math
theorem dk8_devs {c : Int} {xs : List Int} : (xs.map fun x => DK (8 * (8 * x - (8 / c) * xs.sum))) = dk8 (devs c xs) := by
  unfold dk8 devs
  rw [List.map_map]; rfl
theorem devs_len (c : Int) (xs : List Int) : (devs c xs).length = xs.length := by unfold devs; rw [List.length_map]
end Mine
end
section
open PySem.Calls PySem.Spec
namespace Mine
/-- an exception made anew, of any class -/
structure NewX (h h' : Heap) (e : Addr) (cls : Value) : Prop where
  keeps : ∀ b o, h.get? b = some o → h'.get? b = some o
  new : h.get? e = none
  there : ∃ ob vs a0, h'.get? e = some ob ∧ ob.cls = cls ∧ ob.data = .fields vs ∧ vs[1]? = some .none ∧ vs[0]? = some a0
theorem NewX.ofNew {h h' : Heap} {e : Addr} {c : String} (x : Heap.NewExc h h' e c) : NewX h h' e (.type c) :=
  ⟨x.keeps, x.new, let ⟨ob, t, he, hc, hd⟩ := x.there; ⟨ob, _, t, he, hc, hd, rfl, rfl⟩⟩
theorem NewX.ofMade {h h' : Heap} {e : Addr} {c : Value} {vs : List Value} (x : Heap.MadeExcOf h h' e c vs) : NewX h h' e c :=
  ⟨x.keeps, x.new, let ⟨t, he, _, _⟩ := x.there; ⟨_, _, .ref t, he, rfl, rfl, rfl, rfl⟩⟩
section
variable {prog : Program} {w : World} {A A₀ : Around} {E : Value → Shared → Prop} {s' : Shared} {base g g₂ G h : Heap} {outer : List Env} {L a e : Addr} {m : Str → Option Value} {env : Env} {news : List (Addr × Obj)} {cls : Value}

theorem frs_mem {b : Addr} (hf : env.frame = some L) (hm : b ∈ (env :: outer).filterMap (·.frame)) : b = L ∨ b ∈ outer.filterMap (·.frame) := by
  rw [List.filterMap_cons_some hf] at hm
  exact List.mem_cons.mp hm
theorem mem_frs {b : Addr} (hf : env.frame = some L) (hm : b = L ∨ b ∈ outer.filterMap (·.frame)) : b ∈ (env :: outer).filterMap (·.frame) := by
  rw [List.filterMap_cons_some hf]
  exact List.mem_cons.mpr hm
theorem back_ground {B h₅ : Heap} (hf : env.frame = some L) (K : Below A₀ base outer g) (F : Fr g L G m) (hBG : ∀ b o, G.get? b = some o → b ∉ (env :: outer).filterMap (·.frame) → B.get? b = some o) (hBh : B.StaysIn h₅) (hsm : G.UpToSlots h₅) :
    ∃ g', KtsTurn (outer.filterMap (·.frame)) g g' ∧ Fr g' L h₅ m ∧ Below A₀ base outer g' :=
  kts_ground (name := Str.ofString "") (scope := env.scope) (a := 0) (cd := .none) K F (fun b o q n => hBG b o q fun hm => n (mem_frs (outer := outer) (env := envOf (Str.ofString "") env.scope L 0 .none) rfl (frs_mem hf hm))) hBh hsm

/-- what a new exception meets: a base that hides the frames -/
theorem hid_facts (hf : env.frame = some L) (hke : env.scope.kind = .function) (K : Below A base outer g) (F : Fr g L h m) (N : News g L h news) (hx : NewX h s'.heap e cls) :
    ∃ B, base.StaysIn B ∧ B.StaysIn s'.heap ∧ B.get? e = none ∧ s'.heap.FunFrames B (env :: outer) ∧ (∀ b o, h.get? b = some o → b ∉ (env :: outer).filterMap (·.frame) → B.get? b = some o) ∧
      (∀ q ∈ news, B.get? q.1 = some q.2 ∧ g.get? q.1 = none ∧ base.get? q.1 = none) := by
  have K' := pushX K F hf hke
  refine ⟨hideAll h ((env :: outer).filterMap (·.frame)), fun b o q => hideAll_get _ (K'.stays b o q) fun hm => ?_, fun b o hb => hx.keeps b o (of_hideAll _ hb), ?_, ?_, fun b o q n => hideAll_get _ q n, fun q hq => ⟨hideAll_get _ (N q hq).1 fun hm => ?_, (N q hq).2.2, fresh_of_stays K.stays (N q hq).2.2⟩⟩
  · rw [(K'.frames.mem hm).1] at q; cases q
  · cases q : (hideAll h ((env :: outer).filterMap (·.frame))).get? e with
    | none => rfl
    | some o => have := of_hideAll _ q; rw [hx.new] at this; cases this
  · exact (funFrames_hide K'.frames fun env' he b hb => List.mem_filterMap.mpr ⟨env', he, hb⟩).of_keeps fun b o hb _ => ⟨o, hx.keeps b o hb, rfl⟩
  · rcases frs_mem hf hm with z | z
    · exact (N q hq).2.1 z
    · obtain ⟨o, ho, _⟩ := (K.frames.mem z).2
      rw [(N q hq).2.2] at ho; cases ho

theorem leave_new {Q : Unit → Shared → Prop} (hf : env.frame = some L) (hke : env.scope.kind = .function) (K : Below A base outer g) (hx : NewX h s'.heap e cls) (F : Fr g L h m) (N : News g L h news)
    (hQ : ∀ h', RaisedSN base g outer e cls news h' → g.UpToSlots h' → Q () { s' with heap := h' }) :
    wpAny (model prog w) (A.deeper env) (leaving env (.ref e)) Q E s' := by
  have K' := pushX K F hf hke
  obtain ⟨B, b1, b2, b3, b4, b5, b6⟩ := hid_facts hf hke K F N hx
  obtain ⟨ob, vs, a0, he, rfl, hd, h1, h0⟩ := hx.there
  refine wpAny_leaving_firstW K'.stack b4 hf he b2 b3 hd h1 h0 fun h' hL => ?_
  obtain ⟨k1, ⟨_, _, k2⟩, k3, k4⟩ := hL
  refine hQ h' ⟨B, a0, b1, fun b o q n => b5 b o (F.keep b o q) fun hm => ?_, b6, k1, b3, k2, k3⟩ (((Heap.UpToSlots.of_keeps F.keep).trans (Heap.UpToSlots.of_keeps hx.keeps)).trans k4)
  rcases frs_mem hf hm with z | z
  · rw [z, kts_self F] at q; cases q
  · exact n z

theorem note_new {Q : Unit → Shared → Prop} (hf : env.frame = some L) (hke : env.scope.kind = .function) (K : Below A base outer g) (hx : NewX h s'.heap e cls) (F : Fr g L h m) (N : News g L h news)
    (hQ : ∀ G h', Fr g L G m → RaisedSN base G (env :: outer) e cls news h' → G.UpToSlots h' → Q () { s' with heap := h' }) :
    wpAny (model prog w) (A.deeper env) (noteFrame (.ref e) env) (fun _ s₂ => wpAny (model prog w) (A.deeper env) (setFlight (.ref e) none) Q E s₂) E s' := by
  have K' := pushX K F hf hke
  obtain ⟨B, b1, b2, b3, b4, b5, b6⟩ := hid_facts hf hke K F N hx
  obtain ⟨ob, vs, a0, he, rfl, hd, h1, h0⟩ := hx.there
  have nm : ∀ b o, g.get? b = some o → b ∉ news.map (·.1) := fun b o q z => by
    obtain ⟨p, hp, rfl⟩ := List.mem_map.mp z
    rw [(N p hp).2.2] at q; cases q
  obtain ⟨oL, es, ep, hL, hLd, hLk, hLf⟩ := F.ns
  have nL : L ∉ news.map (·.1) := fun q => by
    obtain ⟨p, hp, z⟩ := List.mem_map.mp q
    exact (N p hp).2.1 z
  have FG : Fr g L (hideAll h (news.map (·.1))) m := ⟨⟨oL, es, ep, hideAll_get _ hL nL, hLd, hLk, hLf⟩, fun b o q => hideAll_get _ (F.keep b o q) (nm b o q), F.above⟩
  unfold noteFrame
  simp only [hf]
  refine wpAny_bind (wpAny_field he hd h1 ?_)
  rw [if_neg (by decide)]
  refine wpAny_entryW K'.stack b4 hf he b2 b3 hd (Array.getElem?_eq_some_iff.mp h1).1 h0 fun h₁ hN => ?_
  obtain ⟨k1, k2, k3, k4⟩ := hN
  refine wpAny_landsW (s := { s' with heap := h₁ }) (l := env :: outer) (base := B) ⟨k1, b3, k2, k3⟩ fun h₂ hfl hsm => ?_
  exact hQ _ h₂ FG ⟨B, a0, b1, fun b o q n => b5 b o (of_hideAll _ q) n, fun q hq => ⟨(b6 q hq).1, hideAll_none _ (List.mem_map_of_mem hq), (b6 q hq).2.2⟩, hfl⟩
    (((Heap.UpToSlots.of_keeps fun b o q => of_hideAll _ q).trans (Heap.UpToSlots.of_keeps hx.keeps)).trans ((show Heap.UpToSlots s'.heap h₁ from k4).trans hsm))

theorem note_on {Q : Unit → Shared → Prop} (hf : env.frame = some L) (K : Below A base outer g) (R : RaisedSN base G (env :: outer) e cls news s'.heap) (hsm : G.UpToSlots s'.heap)
    (hQ : ∀ h', RaisedSN base G (env :: outer) e cls news h' → G.UpToSlots h' → Q () { s' with heap := h' }) :
    wpAny (model prog w) (A.deeper env) (noteFrame (.ref e) env) (fun _ s₂ => wpAny (model prog w) (A.deeper env) (setFlight (.ref e) none) Q E s₂) E s' := by
  obtain ⟨B, a0, hB, hBG, hl, hfl⟩ := R
  refine wpAny_looks_onW (Around.frames_deeper K.stack) hf hfl fun h₄ hheld₄ hsm₄ => ?_
  exact wpAny_landsW hheld₄ fun h₅ hheld hsm₅ => hQ h₅ ⟨B, a0, hB, hBG, hl, hheld⟩ (hsm.trans (hsm₄.trans hsm₅))

theorem fly_ground {KF : Frag} {p : Program} {loose : List Str} {mean : ExcName → Option Value} {mg mb : Str → Option Value} (hf : env.frame = some L) (R : RaisedSN base G (env :: outer) e cls news h) (F : Fr g L G m) (K : Below A₀ base outer g) (hsm : G.UpToSlots h) (XB : KF.In base) (TB : Top p loose mean mg mb base)
    (D : KtsDicts (outer.filterMap (·.frame)) g) :
    ∃ g', KtsTurn (outer.filterMap (·.frame)) g g' ∧ Fr g' L h m ∧ News g' L h news ∧ Below A₀ base outer g' ∧ KF.In g' ∧ Top p loose mean mg mb g' ∧ KtsDicts (outer.filterMap (·.frame)) g' := by
  obtain ⟨B, a0, hB, hBG, hl, hfl⟩ := R
  have hL : B.get? L = none := by
    obtain ⟨_, ⟨L', _, hf', hn', _⟩, _⟩ := hfl.2.2.1
    obtain rfl : L = L' := Option.some.inj (hf.symm.trans hf')
    exact hn'
  obtain ⟨g₅, T₅, F₅, K₅⟩ := back_ground hf K F hBG hfl.1 hsm
  exact ⟨g₅, T₅, F₅, fun q hq => ⟨hfl.1 _ _ (hl q hq).1, (fun z => by have := (hl q hq).1; rw [z, hL] at this; cases this), T₅.none_ _ (kts_none F.keep (hl q hq).2.1)⟩, K₅, XB.keeps K₅.stays, TB.keeps K₅.stays, D.turn T₅⟩
end

section
variable {prog : Program} {w : World} {A₀ : Around} {E : Value → Shared → Prop} {s' : Shared} {base g G : Heap} {outer : List Env} {L a e : Addr} {m : Str → Option Value} {name : Str} {scope : Scope} {cd : Value} {cl : List (Str × Addr)}
  {b₀ : Stmt} {suite : List Stmt} {pos np : Pos} {rest : List ExceptHandler} {Q : Flow → Shared → Prop} {news : List (Addr × Obj)} {KF : Frag}
  {p : Program} {loose : List Str} {mean : ExcName → Option Value} {mg mb : Str → Option Value} {x : Str} {X T' : String} {C : Addr}

theorem handle_B (R : RaisedSN base G (envX name scope L a cd cl :: outer) e (.type X) news s'.heap) (F : Fr g L G m) (K : Below A₀ base outer g) (hsm : G.UpToSlots s'.heap) (XB : KF.In base) (TB : Top p loose mean mg mb base)
    (D : KtsDicts (outer.filterMap (·.frame)) g)
    (ex : nsIn KF mainGlobals x = some none) (hv : bootBuiltins x = some (.type T')) (hn' : x ≠ "__name__")
    (hexc : isSubtype (.type T') (.type "BaseException") = pure true) (hnt : isSubtype (.type ((Manifest.find? T').elim "type" fun y => y.metatype)) (.type "tuple") = pure false) (hsub : isSubtype (.type X) (.type T') = pure true)
    (k : ∀ h' g', KtsTurn (outer.filterMap (·.frame)) g g' → Fr g' L h' m → News g' L h' news → Below A₀ base outer g' → KF.In g' → Top p loose mean mg mb g' → KtsDicts (outer.filterMap (·.frame)) g' →
      wpAny (model prog w) ((A₀.deeper (envX name scope L a cd cl)).mark (some (.ref e))) (execs (b₀ :: suite) (envX name scope L a cd cl)) Q E { s' with heap := h' })
    (hk : scope.kind = .function := by rfl) (hx : (envX name scope L a cd cl).kindOf x = some .globalImplicit := by rfl) (hd : (x == ("__debug__" : Str)) = false := by decide)
    (hE : PassesOwnAt (model prog w) ((A₀.deeper (envX name scope L a cd cl)).mark (some (.ref e))) (A₀.deeper (envX name scope L a cd cl)) (envX name scope L a cd cl) E := by passes_own) :
    wpAny (model prog w) (A₀.deeper (envX name scope L a cd cl)) (handleBy (.ref e) (envX name scope L a cd cl) (.ExceptHandler (some (.Name x np)) none (b₀ :: suite) pos :: rest)) Q E s' := by
  obtain ⟨g₅, T₅, F₅, N₅, K₅, X₅, P₅, D₅⟩ := fly_ground rfl R F K hsm XB TB D
  obtain ⟨B, a0, hB, hBG, hl, hheld⟩ := R
  obtain ⟨ob, hob, hobc⟩ := hheld.there
  refine wpAny_handleBy_builtin (X := X) (T := T') (b := true) hexc hnt hsub (nameX_B F₅ X₅ (topRead_of P₅) ex hv hn' ⟨rfl, ⟨ob, hob, hobc⟩, ?_⟩ hk hx hd)
  refine lands_againW hheld fun h₆ hfl₆ hsm₆ => ?_
  obtain ⟨g₆, T₆, F₆, N₆, K₆, X₆, P₆, D₆⟩ := fly_ground (h := h₆) rfl ⟨B, a0, hB, hBG, hl, hfl₆⟩ F K (hsm.trans hsm₆) XB TB D
  exact wpAny_passesOwnAt hE (k h₆ g₆ T₆ F₆ N₆ K₆ X₆ P₆ D₆)

theorem handle_own (R : RaisedSN base G (envX name scope L a cd cl :: outer) e (.ref C) news s'.heap) (F : Fr g L G m) (K : Below A₀ base outer g) (hsm : G.UpToSlots s'.heap) (XB : KF.In base) (TB : Top p loose mean mg mb base)
    (D : KtsDicts (outer.filterMap (·.frame)) g)
    (ex : nsIn KF mainGlobals x = some (some (.ref C))) (q : ktsIn KF C "BaseException" = true)
    (k : ∀ h' g', KtsTurn (outer.filterMap (·.frame)) g g' → Fr g' L h' m → News g' L h' news → Below A₀ base outer g' → KF.In g' → Top p loose mean mg mb g' → KtsDicts (outer.filterMap (·.frame)) g' →
      wpAny (model prog w) ((A₀.deeper (envX name scope L a cd cl)).mark (some (.ref e))) (execs (b₀ :: suite) (envX name scope L a cd cl)) Q E { s' with heap := h' })
    (hk : scope.kind = .function := by rfl) (hx : (envX name scope L a cd cl).kindOf x = some .globalImplicit := by rfl) (hd : (x == ("__debug__" : Str)) = false := by decide)
    (hE : PassesOwnAt (model prog w) ((A₀.deeper (envX name scope L a cd cl)).mark (some (.ref e))) (A₀.deeper (envX name scope L a cd cl)) (envX name scope L a cd cl) E := by passes_own) :
    wpAny (model prog w) (A₀.deeper (envX name scope L a cd cl)) (handleBy (.ref e) (envX name scope L a cd cl) (.ExceptHandler (some (.Name x np)) none (b₀ :: suite) pos :: rest)) Q E s' := by
  obtain ⟨g₅, T₅, F₅, N₅, K₅, X₅, P₅, D₅⟩ := fly_ground rfl R F K hsm XB TB D
  obtain ⟨B, a0, hB, hBG, hl, hheld⟩ := R
  obtain ⟨ob, hob, hobc⟩ := hheld.there
  obtain ⟨nm, q', N, bs, bm, hdct, sn, sub, ab, col, dd, k0, k1, k2, k3, k5, newId, hC, hbase, hbT⟩ := kts_cls X₅ q
  have hC₅ := F₅.keep _ _ hC
  refine wpAny_handleBy_cons (codeAny_handlers_test (nameX_K F₅ X₅ (topRead_of P₅) ex ?_ hk hx hd)) (by intro q; cases q)
  refine wpAny_excMatches_sub_self hC₅ hob hobc hbase (codeAny_handlers_suite ?_)
  refine lands_againW hheld fun h₆ hfl₆ hsm₆ => ?_
  obtain ⟨g₆, T₆, F₆, N₆, K₆, X₆, P₆, D₆⟩ := fly_ground (h := h₆) rfl ⟨B, a0, hB, hBG, hl, hfl₆⟩ F K (hsm.trans hsm₆) XB TB D
  exact wpAny_passesOwnAt hE (k h₆ g₆ T₆ F₆ N₆ K₆ X₆ P₆ D₆)
end

section
variable {prog : Program} {w : World} {A₀ A : Around} {s : Shared} {base h₀ : Heap} {L : Addr} {m : Str → Option Value} {news : List (Addr × Obj)} {K : Frag} {p : Program} {loose : List Str} {mean : ExcName → Option Value} {mg mb : Str → Option Value} {env : Env}
  {R : Result → Shared → Prop} {name qual : Str} {params : Arguments} {body : List Stmt} {scope : Scope} {dV kV doc pm cdv ct oc : Value} {an od : Option Addr} {osl : Array (Option Value)} {f : Addr} {args : Args} {binds : List (Str × Value)}

/-- a call from the first frame, of a def that may catch: the frame of its caller may come back with other slots -/
theorem code_defT (B : Below A₀ base [] h₀) (F : Fr h₀ L s.heap m) (X₀ : K.In h₀) (N : News h₀ L s.heap news) (T : Top p loose mean mg mb h₀) (hA : A.frames = some [env]) (hf : env.frame = some L) (hke : env.scope.kind = .function)
    (ho : K.lookup f = some ⟨oc, od, .func (fnOf name qual params body scope dV kV doc pm an cdv ct), osl⟩) (hcd : codeIn K cdv qual = true) (hroom : A.depth < recursionLimit)
    (hbind : BindsTo s (fnOf name qual params body scope dV kV doc pm an cdv ct) args binds) (hkind : (binds.all fun y => scope.names.lookup y.1 == some .local || scope.names.lookup y.1 == some .cell) = true)
    (hnd : ((cellsFrom 0 scope.names []).map (·.1)).Nodup)
    (h : ∀ g L' h₁ tk cells, Fr h₀ L g m → Fr g L' h₁ (bindL (envOfC qual scope L' f cdv).kindOf binds fun _ => none) → News g L' h₁ (cells ++ news) →
      CellsAre (bindC (envOfC qual scope L' f cdv).kindOf binds fun _ => none) (cellsFrom (L' + 1) scope.names []) cells → Below A base [env] g → K.In g → Top p loose mean mg mb g → (∀ p ∈ news, p.1 < L') → KtsDicts ([env].filterMap (·.frame)) g →
      wpAny (model prog w) (A.deeper (envOfC qual scope L' f cdv)) (execs body (envOfC qual scope L' f cdv))
        (fun fl s' => LeaveS0 ([env].filterMap (·.frame)) h₀ L m g R (match fl with | .ret v => v | _ => .none) s')
        (fun e s' => wpAny (model prog w) (A.deeper (envOfC qual scope L' f cdv)) (leaving (envOfC qual scope L' f cdv) e) (fun _ s'' => R (.error e) s'') (fun e' s'' => R (.error e') s'') s')
        { s with heap := h₁, toks := tk })
    (hco : scope.isCoroutine = false) (hgen : scope.isGenerator = false) (hk : scope.kind = .function) : codeAny (model prog w) A (.call (.ref f) args) R s := by
  obtain ⟨FG, BG, st, _⟩ := groundX (R := R) B F N hA hf hke
  obtain ⟨oL, es, ep, hL, hLd, hLk, hLf⟩ := F.ns
  have nL : L ∉ news.map (·.1) := fun q => by
    obtain ⟨p, hp, e⟩ := List.mem_map.mp q
    exact (N p hp).2.1 e
  have hLg := hideAll_get (news.map (·.1)) hL nL
  have nL₀ : h₀.get? L = none := kts_self F
  have X := X₀.keeps F.keep
  refine codeAny_call_function hroom (X _ _ ho) rfl hco hgen rfl (codeRec_of X hcd) (hbind _ _ _ _ ?_)
  refine wpAny_newFunctionEnv_cells hk (kindsX hkind _) fun env' he s' x => ?_
  subst he
  refine ⟨(T.nolimit.keeps F.keep).keeps x.toInCall.keep, codeAny_func ?_⟩
  obtain ⟨h₁, tk, rfl, _⟩ := x.done
  have hk₁ := x.toInCall.keep
  obtain ⟨cells, NC, Y⟩ := Cl.news (h₀ := s.heap) (Nat.le_refl _) fun n c hm => ⟨x.cell n c (lookup_of_mem_nodup (cellsFrom_names scope.names 0 (s.heap.objs.size + 1) [] [] rfl ▸ hnd) hm), x.above n c hm⟩
  refine wpAny_mono (h _ s.heap.objs.size h₁ tk cells FG ⟨x.toInCall.ns, fun b o e => hk₁ b o (of_hideAll _ e), Nat.le_of_eq (hideAll_size _ _)⟩ (fun p hp => ?_) Y BG (X₀.keeps st) (T.keeps st) (fun p hp => Heap.lt_size (N p hp).1) (fun b hb => ?_)) (fun fl s' hl => ?_) fun _ _ y => y
  · rcases List.mem_append.mp hp with hp | hp
    · refine ⟨(NC p hp).1, (NC p hp).2.1, ?_⟩
      cases q : (hideAll s.heap (news.map (·.1))).get? p.1 with
      | none => rfl
      | some o => have := of_hideAll _ q; rw [(NC p hp).2.2] at this; cases this
    · exact ⟨hk₁ _ _ (N p hp).1, Nat.ne_of_lt (Heap.lt_size (N p hp).1), hideAll_none _ (List.mem_map_of_mem hp)⟩
  · rcases frs_mem hf hb with rfl | z
    · exact ⟨oL, es, ep, hLg, hLd⟩
    · simp at z
  obtain ⟨g', L', m', news', T', F', N', k⟩ := hl
  obtain ⟨sl, hs⟩ := T'.up hLg
  refine k ⟨⟨_, es, ep, F'.keep _ _ hs, hLd, hLk, hLf⟩, fun b o e => F'.keep b o (T'.other b o (st b o e) (fun q => by
    rcases frs_mem hf q with z | z
    · rw [z, nL₀] at e
      cases e
    · simp at z)), F.above⟩ fun p hp => ⟨(N' p hp).1, fun q => ?_, ?_⟩
  · have := (N' p hp).2.2; rw [q, hs] at this; cases this
  · cases q : h₀.get? p.1 with
    | none => rfl
    | some o =>
      obtain ⟨sl', hs'⟩ := T'.up (st _ _ q)
      have := (N' p hp).2.2
      rw [hs'] at this
      cases this
end
end Mine
end
section
open PySem.Calls PySem.Spec
namespace Mine
section
variable {A A₀ : Around} {base h₀ g g₁ G h : Heap} {outer : List Env} {L e : Addr} {m : Str → Option Value} {env : Env} {news news' : List (Addr × Obj)} {cls : Value}
theorem dicts_push (hf : env.frame = some L) (F : Fr h₀ L g m) (D : KtsDicts (outer.filterMap (·.frame)) h₀) : KtsDicts ((env :: outer).filterMap (·.frame)) g := fun b hb => by
  rcases frs_mem hf hb with rfl | z
  · obtain ⟨oL, es, ep, hL, hLd, _⟩ := F.ns
    exact ⟨oL, es, ep, hL, hLd⟩
  · obtain ⟨o, es, n, ho, hd⟩ := D b z
    exact ⟨o, es, n, F.keep _ _ ho, hd⟩
theorem turn_back (hf : env.frame = some L) (K : Below A₀ base outer h₀) (F : Fr h₀ L g m) (T : KtsTurn ((env :: outer).filterMap (·.frame)) g g₁) :
    ∃ h₁, KtsTurn (outer.filterMap (·.frame)) h₀ h₁ ∧ Fr h₁ L g₁ m ∧ Below A₀ base outer h₁ :=
  back_ground (B := hideAll g ((env :: outer).filterMap (·.frame))) hf K F (fun b o q n => hideAll_get _ q n)
    (fun b o q => T.other b o (of_hideAll _ q) fun hm => by rw [hideAll_none _ hm] at q; cases q) (fun b o q _ => T.up q)
theorem RaisedSN.sub {l : List Env} (R : RaisedSN base G l e cls news h) (hs : ∀ q ∈ news', q ∈ news) : RaisedSN base G l e cls news' h := by
  obtain ⟨B, a0, b1, b2, b3, b4⟩ := R
  exact ⟨B, a0, b1, b2, fun q hq => b3 q (hs q hq), b4⟩
theorem ktsTurn_nil {g g' : Heap} (T : KtsTurn [] g g') : ∀ b, g'.get? b = g.get? b := fun b => by
  cases q : g.get? b with
  | none => exact T.none_ b q
  | some o => exact T.other b o q (List.not_mem_nil)
end
end Mine
end
section
open PySem.Calls PySem.Spec
namespace Mine
/-- an exception that has no context yet -/
def Free2 (h : Heap) (e : Addr) : Prop := ∃ oe vs, h.get? e = some oe ∧ oe.data = .fields vs ∧ vs[2]? = some .none
theorem Free2.keeps {h h' : Heap} {e : Addr} (x : Free2 h e) (k : ∀ b o, h.get? b = some o → h'.get? b = some o) : Free2 h' e :=
  let ⟨oe, vs, a, b, c⟩ := x; ⟨oe, vs, k _ _ a, b, c⟩
section
variable {M : Model} {A A₀ : Around} {E : Value → Shared → Prop} {s s' : Shared} {base g g₂ G h : Heap} {outer : List Env} {L a e : Addr} {m : Str → Option Value} {env : Env} {news : List (Addr × Obj)} {cls : Value}

theorem land2 {l : List Env} {a0 fl : Value} {Q : Unit → Shared → Prop} (hkb : base.StaysIn s.heap) (hen : base.get? e = none) (hl : s.heap.FunFrames base l) (ht : s.heap.TracedAtW base e cls a0 fl) (fr : Free2 s.heap e)
    (h : ∀ h', Heap.FlyingW base l e cls a0 h' → Free2 h' e → s.heap.UpToSlots h' → Q () { s with heap := h' }) : wpAny M A (setFlight (.ref e) none) Q E s := by
  obtain ⟨oe, vs, T, oT, ts, he, hcls, hd, h1, hnT, hTe, hT, hdT, h3⟩ := ht
  obtain ⟨oe', vs', q1, q2, q3⟩ := fr
  have s3 : 3 < ts.size := (Array.getElem?_eq_some_iff.mp h3).1
  have oth : ∀ b, b ≠ T → (s.heap.update T (Obj.mapFields (·.setIfInBounds 3 Value.none))).get? b = s.heap.get? b := fun b hb => Heap.get?_update_other _ _ (Ne.symm hb)
  have nr : ∀ b o, s.heap.get? b = some o → (∀ vs, o.data ≠ .fields vs) → b ≠ T := fun b o hb hnf q => by
    rw [q, hT] at hb; injection hb with hb; subst hb; exact hnf ts hdT
  unfold setFlight
  refine wpAny_bind (wpAny_field he hd h1 ?_)
  rw [if_pos (show (Value.ref T != Value.none) = true from by simp)]
  refine wpAny_setField hT hdT s3 (h _ ⟨fun b o hbo => (oth b fun q => by rw [q, hnT] at hbo; cases hbo).trans (hkb b o hbo), hen, hl.of_keeps fun b o hb hnf => ⟨o, (oth b (nr b o hb hnf)).trans hb, rfl⟩, ?_⟩ ⟨oe', vs', (oth e (Ne.symm hTe)).trans q1, q2, q3⟩ fun b o hb hn => ⟨o.slots, (oth b (nr b o hb hn)).trans hb⟩)
  exact ⟨oe, vs, T, _, _, (oth e (Ne.symm hTe)).trans he, hcls, hd, h1, hnT, hTe, Heap.get?_update_self _ hT (Obj.isFreed_of_fields (Obj.data_mapFields hdT _)), Obj.data_mapFields hdT _, by simp [s3]⟩

theorem entry2 {oe : Obj} {vs : Array Value} {head a0 : Value} {hadNext : Bool} {Q : Unit → Shared → Prop}
    (hfr : A.frames = some (env :: outer)) (hl : s.heap.FunFrames base (env :: outer)) (hf : env.frame = some L)
    (he : s.heap.get? e = some oe) (hkb : base.StaysIn s.heap) (hen : base.get? e = none) (hd : oe.data = .fields vs) (hsz : 1 < vs.size) (h0 : vs[0]? = some a0) (h2 : vs[2]? = some .none)
    (h : ∀ h', Heap.NotedW base (env :: outer) e oe.cls a0 (rawInt L) s.heap h' → Free2 h' e → Q () { s with heap := h' }) :
    wpAny M A (do let a ← frameOf env; let pl ← entryPlaceOf L hadNext; let b ← EntryCells.newEntry head a .none (rawInt L) .none pl; setField (.ref e) 1 b) Q E s := by
  have out : e ∉ (env :: outer).filterMap (·.frame) := fun hm => by
    obtain ⟨_, o, ho, hnf⟩ := hl.mem hm
    rw [he] at ho; injection ho with ho; subst ho; exact hnf vs hd
  refine wpAny_bind (wpAny_frameOf_fun hfr hl hf fun h₁ hs₁ => ?_)
  refine wpAny_bind (wpAny_entryPlaceOf fun pl hpl => ?_)
  unfold EntryCells.newEntry newFields
  refine wpAny_bind (wpAny_newObj_type ?_ (hpl.sizeOk5 _ _ _ _ _))
  have e1 : h₁.get? e = some oe := (hs₁.2.1 e out).trans he
  have k1 : base.StaysIn h₁ := fun b o hbo => (hs₁.2.1 b fun hm => by rw [(hl.mem hm).1] at hbo; cases hbo).trans (hkb b o hbo)
  have e2 := Heap.get?_push_of_some (h := h₁) { cls := .type "traceback", dict := none, data := .fields ([head, .ref L, .none, rawInt L, .none] ++ (if pl.isEmpty then List.replicate 6 Value.none else pl)).toArray } e1
  refine wpAny_setField e2 hd hsz ?_
  have ne : h₁.objs.size ≠ e := Nat.ne_of_gt (Heap.lt_size e1)
  have hd₃ := Obj.data_mapFields hd (·.setIfInBounds 1 (Value.ref h₁.objs.size))
  have e3 := Heap.get?_update_self (Obj.mapFields (·.setIfInBounds 1 (Value.ref h₁.objs.size))) e2 (Obj.isFreed_of_fields hd₃)
  have t3 := (Heap.get?_update_other (h₁.push { cls := .type "traceback", dict := none, data := .fields ([head, .ref L, .none, rawInt L, .none] ++ (if pl.isEmpty then List.replicate 6 Value.none else pl)).toArray })
    (Obj.mapFields (·.setIfInBounds 1 (Value.ref h₁.objs.size))) (Ne.symm ne)).trans (Heap.get?_push_size h₁ rfl)
  have keep : ∀ b o, b ≠ e → h₁.get? b = some o →
      ((h₁.push { cls := .type "traceback", dict := none, data := .fields ([head, .ref L, .none, rawInt L, .none] ++ (if pl.isEmpty then List.replicate 6 Value.none else pl)).toArray }).update e (Obj.mapFields (·.setIfInBounds 1 (Value.ref h₁.objs.size)))).get? b = some o :=
    fun b o hbe hb => by
      rw [Heap.get?_update_other _ _ (Ne.symm hbe)]
      exact Heap.get?_push_of_some _ hb
  have nr : ∀ b o, s.heap.get? b = some o → (∀ vs, o.data ≠ .fields vs) → b ≠ e := fun b o hb hnf q => by
    rw [q, he] at hb; injection hb with hb; subst hb; exact hnf vs hd
  refine h _ ⟨fun b o hbo => keep b o (fun q => by rw [q, hen] at hbo; cases hbo) (k1 b o hbo), hl.of_keeps fun b o hb hnf => ?_, ?_, fun b o hb hnf => ?_⟩ ⟨_, _, e3, hd₃, by rw [Array.getElem?_setIfInBounds_ne (by decide)]; exact h2⟩
  · obtain ⟨sl, hs⟩ := hs₁.2.2 b o hb
    exact ⟨_, keep b _ (nr b o hb hnf) hs, rfl⟩
  · exact ⟨_, _, h₁.objs.size, _, _, e3, ⟨Obj.cls_mapFields _ _, by rw [Array.getElem?_setIfInBounds_ne (by decide)]; exact h0⟩, hd₃, by simp [hsz], k1.fresh, ne, t3, rfl, by first | (simp; done) | (rcases hpl with rfl | ⟨_, _, _, _, _, _, _, rfl⟩ <;> simp)⟩
  · obtain ⟨sl, hs⟩ := hs₁.2.2 b o hb
    exact ⟨sl, keep b _ (nr b o hb hnf) hs⟩
end

section
variable {prog : Program} {w : World} {A A₀ : Around} {E : Value → Shared → Prop} {s s' : Shared} {base g g₂ G h : Heap} {outer : List Env} {L a e : Addr} {m : Str → Option Value} {env : Env} {news : List (Addr × Obj)} {X : String}
theorem note_new2 {Q : Unit → Shared → Prop} (hf : env.frame = some L) (hke : env.scope.kind = .function) (K : Below A base outer g) (hx : Heap.NewExc h s'.heap e X) (F : Fr g L h m) (N : News g L h news)
    (hQ : ∀ G h', Fr g L G m → RaisedSN base G (env :: outer) e (.type X) news h' → Free2 h' e → G.UpToSlots h' → Q () { s' with heap := h' }) :
    wpAny (model prog w) (A.deeper env) (noteFrame (.ref e) env) (fun _ s₂ => wpAny (model prog w) (A.deeper env) (setFlight (.ref e) none) Q E s₂) E s' := by
  have K' := pushX K F hf hke
  obtain ⟨B, b1, b2, b3, b4, b5, b6⟩ := hid_facts hf hke K F N (.ofNew hx)
  obtain ⟨ob, t, he, hc, hd⟩ := hx.there
  have nm : ∀ b o, g.get? b = some o → b ∉ news.map (·.1) := fun b o q z => by
    obtain ⟨p, hp, rfl⟩ := List.mem_map.mp z
    rw [(N p hp).2.2] at q; cases q
  obtain ⟨oL, es, ep, hL, hLd, hLk, hLf⟩ := F.ns
  have nL : L ∉ news.map (·.1) := fun q => by
    obtain ⟨p, hp, z⟩ := List.mem_map.mp q
    exact (N p hp).2.1 z
  have FG : Fr g L (hideAll h (news.map (·.1))) m := ⟨⟨oL, es, ep, hideAll_get _ hL nL, hLd, hLk, hLf⟩, fun b o q => hideAll_get _ (F.keep b o q) (nm b o q), F.above⟩
  unfold noteFrame
  simp only [hf]
  refine wpAny_bind (wpAny_field he hd (x := .none) rfl ?_)
  rw [if_neg (by decide)]
  refine entry2 (a0 := t) K'.stack b4 hf he b2 b3 hd (by show 1 < 6; decide) rfl rfl fun h₁ hN fr => ?_
  obtain ⟨k1, k2, k3, k4⟩ := hN
  rw [hc] at k3
  refine land2 (s := { s' with heap := h₁ }) (l := env :: outer) (base := B) k1 b3 k2 k3 fr fun h₂ hfl fr₂ hsm => ?_
  exact hQ _ h₂ FG ⟨B, t, b1, fun b o q n => b5 b o (of_hideAll _ q) n, fun q hq => ⟨(b6 q hq).1, hideAll_none _ (List.mem_map_of_mem hq), (b6 q hq).2.2⟩, hfl⟩ fr₂
    (((Heap.UpToSlots.of_keeps fun b o q => of_hideAll _ q).trans (Heap.UpToSlots.of_keeps hx.keeps)).trans ((show Heap.UpToSlots s'.heap h₁ from k4).trans hsm))
end

section
variable {prog : Program} {w : World} {A₀ : Around} {E : Value → Shared → Prop} {s' : Shared} {base g G : Heap} {outer : List Env} {L a e : Addr} {m : Str → Option Value} {name : Str} {scope : Scope} {cd : Value} {cl : List (Str × Addr)}
  {b₀ : Stmt} {suite : List Stmt} {pos np : Pos} {rest : List ExceptHandler} {Q : Flow → Shared → Prop} {news : List (Addr × Obj)} {KF : Frag}
  {p : Program} {loose : List Str} {mean : ExcName → Option Value} {mg mb : Str → Option Value} {x : Str} {X T' : String} {C : Addr}
theorem handle_B2 (R : RaisedSN base G (envX name scope L a cd cl :: outer) e (.type X) news s'.heap) (fr : Free2 s'.heap e) (F : Fr g L G m) (K : Below A₀ base outer g) (hsm : G.UpToSlots s'.heap) (XB : KF.In base) (TB : Top p loose mean mg mb base)
    (D : KtsDicts (outer.filterMap (·.frame)) g)
    (ex : nsIn KF mainGlobals x = some none) (hv : bootBuiltins x = some (.type T')) (hn' : x ≠ "__name__")
    (hexc : isSubtype (.type T') (.type "BaseException") = pure true) (hnt : isSubtype (.type ((Manifest.find? T').elim "type" fun y => y.metatype)) (.type "tuple") = pure false) (hsub : isSubtype (.type X) (.type T') = pure true)
    (k : ∀ h' g', Free2 h' e → KtsTurn (outer.filterMap (·.frame)) g g' → Fr g' L h' m → News g' L h' news → Below A₀ base outer g' → KF.In g' → Top p loose mean mg mb g' → KtsDicts (outer.filterMap (·.frame)) g' →
      wpAny (model prog w) ((A₀.deeper (envX name scope L a cd cl)).mark (some (.ref e))) (execs (b₀ :: suite) (envX name scope L a cd cl)) Q E { s' with heap := h' })
    (hk : scope.kind = .function := by rfl) (hx : (envX name scope L a cd cl).kindOf x = some .globalImplicit := by rfl) (hd : (x == ("__debug__" : Str)) = false := by decide)
    (hE : PassesOwnAt (model prog w) ((A₀.deeper (envX name scope L a cd cl)).mark (some (.ref e))) (A₀.deeper (envX name scope L a cd cl)) (envX name scope L a cd cl) E := by passes_own) :
    wpAny (model prog w) (A₀.deeper (envX name scope L a cd cl)) (handleBy (.ref e) (envX name scope L a cd cl) (.ExceptHandler (some (.Name x np)) none (b₀ :: suite) pos :: rest)) Q E s' := by
  obtain ⟨g₅, T₅, F₅, N₅, K₅, X₅, P₅, D₅⟩ := fly_ground rfl R F K hsm XB TB D
  obtain ⟨B, a0, hB, hBG, hl, hheld⟩ := R
  obtain ⟨ob, hob, hobc⟩ := hheld.there
  refine wpAny_handleBy_builtin (X := X) (T := T') (b := true) hexc hnt hsub (nameX_B F₅ X₅ (topRead_of P₅) ex hv hn' ⟨rfl, ⟨ob, hob, hobc⟩, ?_⟩ hk hx hd)
  obtain ⟨f1, f2, f3, f4⟩ := hheld
  refine land2 f1 f2 f3 f4.at fr fun h₆ hfl₆ fr₆ hsm₆ => ?_
  obtain ⟨g₆, T₆, F₆, N₆, K₆, X₆, P₆, D₆⟩ := fly_ground (h := h₆) rfl ⟨B, a0, hB, hBG, hl, hfl₆⟩ F K (hsm.trans hsm₆) XB TB D
  exact wpAny_passesOwnAt hE (k h₆ g₆ fr₆ T₆ F₆ N₆ K₆ X₆ P₆ D₆)
end

theorem entry_unchain : entryFor table "proto.unchain" = some Builtin.«proto.unchain» := entryFor_of_tree (by kernel_rfl)
section
variable {prog : Program} {w : World} {A : Around} {E : Value → Shared → Prop} {s : Shared} {env : Env}
theorem raiseNew_in {α : Type} {e c : Addr} {Q : α → Shared → Prop} {ob : Obj} {vs : Array Value} (hh : A.handled = some (.ref c)) (hne : c ≠ e) (he : s.heap.get? e = some ob) (hd : ob.data = .fields vs) (hsz : 2 < vs.size) (fr : Free2 s.heap c)
    (h : E (.ref e) { s with heap := s.heap.update e (Obj.mapFields (·.setIfInBounds 2 (.ref c))) }) : wpAny (model prog w) A (raiseNew (.ref e) : Sem α) Q E s := by
  obtain ⟨oc, ws, q1, q2, q3⟩ := fr
  unfold raiseNew
  refine wpAny_bind (wpAny_handled ?_)
  rw [hh]
  dsimp only
  rw [if_pos (show (Value.ref c != Value.ref e) = true by simp [hne])]
  refine wpAny_bind (wpAny_holding (wpAny_runValue (codeAny_builtin entry_unchain ?_)))
  unfold Builtin.«proto.unchain»
  dsimp only
  refine wpAny_bind (wpAny_field q1 q2 q3 ?_)
  rw [if_pos (show (Value.none == Value.none) = true from rfl)]
  refine wpAny_pure ?_
  dsimp only
  unfold updateField
  refine wpAny_bind (wpAny_bind (wpAny_load he ?_))
  rw [hd]
  dsimp only
  rw [if_pos hsz]
  exact wpAny_update he (wpAny_throw h)
end
end Mine
end
section
open PySem.Calls PySem.Spec
namespace Mine
section
variable {M : Model} {A : Around} {E : Value → Shared → Prop} {env : Env}
variable {nm q : Str} {C N : Addr} {bs bm : List Value} {hdct : Bool} {sn : List Str} {sub : List Value} {ab : Bool} {col : Option Bool} {dd : Option Addr} {k0 k1 k2 k3 k5 : Option Value} {newId : String}
theorem raiseStmt_any {s : Shared} {x : Sem Value} {Q : Flow → Shared → Prop} (hbase : bm.contains (.type "BaseException") = true)
    (h : wpAny M A x (fun v s₁ => ∃ e t, v = .ref e ∧ s₁.heap.get? C = some (excClassObj nm q C N bs bm hdct sn sub ab col dd k0 k1 k2 k3 k5 newId) ∧
      s₁.heap.get? e = some { cls := .ref C, data := .fields #[.ref t, .none, .none, .none, .bool false, .none] } ∧ wpAny M A (raiseNew (.ref e) : Sem Flow) Q E s₁) E s) :
    wpAny M A (raiseStmt env (some x) none) Q E s := by
  have hcB : (Value.ref C :: bm).contains (.type "BaseException") = true := by rw [List.contains_cons, hbase, Bool.or_true]
  unfold raiseStmt
  refine wpAny_bind (wpAny_mono h (fun v s₁ h₁ => ?_) fun _ _ x => x)
  obtain ⟨e, t, rfl, hC, he, hE⟩ := h₁
  obtain ⟨hp, g, d, tk, os⟩ := s₁
  repeat (first | with_reducible refine wpAny_loadPart_at he ?_ | with_reducible refine wpAny_loadPart_at hC ?_ | (with_reducible refine wpAny_isSubtype_exc hC ?_; rw [hcB]) | exact hE | wp_step)
end
section
variable {prog : Program} {w : World} {A : Around} {E : Value → Shared → Prop} {s : Shared} {env : Env}
variable {nm q : Str} {C N ec : Addr} {bs bm bmB : List Value} {hdct : Bool} {sn : List Str} {sub : List Value} {ab : Bool} {col : Option Bool} {dd : Option Addr} {k0 k1 k2 k3 k5 : Option Value} {B newId initId : String}
theorem NewX.ofIn {h h' : Heap} {e : Addr} {c ctx : Value} {vs : List Value} (x : Heap.MadeExcOf h h' e c vs) : NewX h (h'.update e (Obj.mapFields (·.setIfInBounds 2 ctx))) e c := by
  obtain ⟨t, he, _, _⟩ := x.there
  refine ⟨fun b o hb => ?_, x.new, _, _, .ref t, Heap.get?_update_self _ he (Obj.isFreed_of_fields (Obj.data_mapFields rfl _)), rfl, Obj.data_mapFields rfl _, rfl, rfl⟩
  rw [Heap.get?_update_other _ _ fun q => by rw [← q, x.new] at hb; cases hb]
  exact x.keeps b o hb

theorem Raise_call_in (F : ExcBaseFacts B newId initId bmB) {mN : Str → Option Value} {x : Str} {np cpos pos : Pos} {args : List Expr} {Q : Flow → Shared → Prop}
    (hbase : bm.contains (.type "BaseException") = true) (hh : A.handled = some (.ref ec)) (hplain : (backTo cpos (starEach args env)).any (·.1) = false) (hni : mN "__init__" = none)
    (h : wpAny (model prog w) A (eval (.Name x np) env) (fun f s₁ => f = .ref C ∧ wpAny (model prog w) A (evalArgs (.ref C) true (backTo cpos (starEach args env)) [])
      (fun a s₂ => a.kw = [] ∧ a.pos.length ≤ sizeLine ∧ s₂.heap.get? C = some (excClassObj nm q C N bs bm hdct sn sub ab col dd k0 k1 k2 k3 k5 newId) ∧ s₂.heap.Ns N mN ∧ OwnTail s₂.heap bmB bm ∧ Free2 s₂.heap ec ∧
        ∀ h' e, NewX s₂.heap h' e (.ref C) → E (.ref e) { s₂ with heap := h' }) E s₁) E s) :
    wpAny (model prog w) A (exec (.Raise (some (.Call (.Name x np) args [] cpos)) none pos) env) Q E s := by
  rw [arm_exec_Raise]
  refine wpAny_bind (wpAny_standAt (raiseStmt_any (C := C) (nm := nm) (q := q) (N := N) (bs := bs) (bm := bm) (hdct := hdct) (sn := sn) (sub := sub) (ab := ab) (col := col) (dd := dd) (k0 := k0) (k1 := k1) (k2 := k2) (k3 := k3) (k5 := k5) (newId := newId) hbase (wpAny_bind (wpAny_mono (wpAny_Call_ofName (wpAny_mono h (fun f s₁ h₁ => ?_) fun _ _ x => x)) (fun v s₃ h₃ => wpAny_bind (wpAny_standAt (wpAny_pure h₃))) fun _ _ x => x))))
  obtain ⟨rfl, h₁⟩ := h₁
  unfold callWith
  refine wpAny_bind (wpAny_holding (wpAny_mono h₁ (fun a s₂ h₂ => wpAny_bind (wpAny_standAt ?_)) fun _ _ x => x))
  obtain ⟨apos, akw⟩ := a
  obtain ⟨hkw, hlen, hC, hn, T, fr, h₂⟩ := h₂
  obtain rfl : akw = [] := hkw
  obtain ⟨hp, g, d, tk, os⟩ := s₂
  simp only [hplain]
  refine wpAny_bind (wpAny_keeperOf_exc hC ?_)
  refine wpAny_bind (wpAny_call_exc_subT (hrest := hlen) F T hC hn hni fun h' e hm => wpAny_bind (wpAny_holding (wpAny_point (wpAny_pure ?_))))
  obtain ⟨t, ht, _, _⟩ := hm.there
  refine ⟨e, t, rfl, hm.keeps _ _ hC, ht, raiseNew_in hh (fun z => ?_) ht rfl (by show 2 < 6; decide) (fr.keeps hm.keeps) (h₂ _ e (.ofIn hm))⟩
  obtain ⟨oe, vs, h1, _⟩ := fr
  have h0 := hm.new
  rw [← z] at h0
  exact absurd (h0.symm.trans h1) (by intro q; cases q)
end
section
variable {prog : Program} {w : World} {A : Around} {E : Value → Shared → Prop} {s : Shared} {name : Str} {scope : Scope} {L a ec : Addr} {cd : Value} {cl : List (Str × Addr)} {h₀ : Heap} {m mg mb : Str → Option Value} {KF : Frag} {p : Program} {loose : List Str} {mean : ExcName → Option Value}
  {x : Str} {C : Addr} {B newId initId : String} {bm : List Value} {np cpos pos : Pos} {Q : Flow → Shared → Prop}
theorem Raise_own_in {e₀ : Expr} {rest : List Expr} (F : Fr h₀ L s.heap m) (X : KF.In h₀) (T : Top p loose mean mg mb h₀) (ex : nsIn KF mainGlobals x = some (some (.ref C))) (O : OwnCls x C bm newId mg h₀) (FB : ExcBaseFacts B newId initId bm) (hh : A.handled = some (.ref ec)) (fr : Free2 s.heap ec)
    (h : wpAny (model prog w) A (spliced (backTo cpos (starEach (e₀ :: rest) (envX name scope L a cd cl)))) (fun vs s₂ => vs.length ≤ sizeLine ∧ (∀ b o, s.heap.get? b = some o → s₂.heap.get? b = some o) ∧
      ∀ h' e, NewX s₂.heap h' e (.ref C) → E (.ref e) { s₂ with heap := h' }) E s)
    (he : starEach (e₀ :: rest) (envX name scope L a cd cl) = (false, eval e₀ (envX name scope L a cd cl)) :: starEach rest (envX name scope L a cd cl) := by rfl)
    (hplain : (backTo cpos (starEach rest (envX name scope L a cd cl))).any (·.1) = false := by rfl)
    (hk : scope.kind = .function := by rfl) (hx : (envX name scope L a cd cl).kindOf x = some .globalImplicit := by rfl) (hd : (x == ("__debug__" : Str)) = false := by decide) :
    wpAny (model prog w) A (exec (.Raise (some (.Call (.Name x np) (e₀ :: rest) [] cpos)) none pos) (envX name scope L a cd cl)) Q E s := by
  obtain ⟨tl, N, nm, q, bs, hdct, sn, sub, ab, col, dd, k0, k1, k2, k3, k5, mN, hC, hN, hni, T'⟩ := O.obj
  refine Raise_call_in (C := C) (nm := nm) (q := q) (N := N) (bs := bs) (bm := tl) (hdct := hdct) (sn := sn) (sub := sub) (ab := ab) (col := col) (dd := dd) (k0 := k0) (k1 := k1) (k2 := k2) (k3 := k3) (k5 := k5)
    FB (mN := mN) (T'.hasType FB.hasBase) hh (by rw [he]; show (false || (backTo cpos (starEach rest (envX name scope L a cd cl))).any (·.1)) = false; rw [hplain]; rfl) hni (nameX_K F X (topRead_of T) ex ⟨rfl, ?_⟩ hk hx hd)
  rw [he] at h ⊢
  exact Calls.evalArgs_plain (wpAny_mono h (fun vs s₂ h₂ => ⟨rfl, h₂.1, h₂.2.1 _ _ (F.keep _ _ hC), (hN.keeps F.keep).keeps h₂.2.1, (T'.keeps F.keep).keeps h₂.2.1, fr.keeps h₂.2.1, h₂.2.2⟩) fun _ _ y => y)
end
end Mine
end
section
open PySem.Calls PySem.Spec
namespace Mine
open PySem.Builtin.Math
section
local macro_rules | `(tactic| k_all) => `(tactic| first | with_reducible assumption | exact offs_lt (by with_reducible assumption) (by omega))
local macro_rules | `(tactic| k_mem) => `(tactic| first | with_reducible assumption | exact List.mem_cons_self | (refine' List.mem_cons_of_mem _ ?_; k_mem))
theorem keys_one {e : DictEntry} {x : Str} {t : Tok} (h : e.key = .str x t) : StrKeys #[e] := fun e' he => by
  have : e' = e := by simpa using he
  subst this; exact ⟨x, t, h⟩
theorem corr_binds {s : Shared} {fd : FuncData} {a b v : Value} {o : Obj} {es : Array DictEntry} {ep : Nat} (h : s.heap.get? 293 = some o) (hd : o.data = .dict es ep) (hk : StrKeys es) (hv : nsFind es (Str.ofString "method") = some v)
    (hpos : fd.params.posonlyargs.map (·.arg) = [Str.ofString "x", Str.ofString "y"]) (hargs : fd.params.args = []) (hkw : fd.params.kwonlyargs.map (·.arg) = [Str.ofString "method"]) (hva : fd.params.vararg = none) (hka : fd.params.kwarg = none)
    (hdd : fd.defaults = .none) (hkd : fd.kwdefaults = .ref 293) : BindsTo s fd ⟨[a, b], []⟩ [(Str.ofString "x", a), (Str.ofString "y", b), (Str.ofString "method", v)] := fun M A E Q hq => by
  unfold bindArgs
  simp only [hpos, hargs, hkw, hva, hka, hdd, hkd]
  have hn : s.heap.Ns 293 (nsFind es) := ⟨o, es, ep, h, hd, hk, fun _ => rfl⟩
  obtain ⟨hp, g, d, tk, os⟩ := s
  replace hn : (⟨hp, g, d, tk, os⟩ : Shared).heap.Ns 293 (nsFind es) := hn
  wp_walk using wpAny_nsGet hn
  rw [hv]
  wp_walk
  exact hq
theorem corr_spec4
 {w : World} {dp un : Nat} {gd : Option (List Code)} {cn : Str} {cs : Scope} {a : Addr} {ccd : Value} {cl : List (Str × Addr)} {outer : List Env} {A₀ : Around} {base h₀ : Heap} {L : Addr} {m : Str → Option Value} {news : List (Addr × Obj)} {s : Shared}
    {Q E : Value → Shared → Prop} {p : Program} {loose : List Str} {mean : ExcName → Option Value} {mg mb : Str → Option Value}
    (B : Below A₀ base outer h₀) (F : Fr h₀ L s.heap m) (X : (Mine.frag w.params).In h₀) (N : News h₀ L s.heap news) (T : Top p loose mean mg mb h₀) (hk : cs.kind = .function)
    (hdp : dp + 4 < recursionLimit) (hun : un + 40 < cLine)
    {xa ya : Addr} {vx vy : List Value} {nx ny : Nat} {xs ys : List Int} (hxa : (xa, lstO vx nx) ∈ news) (hya : (ya, lstO vy ny) ∈ news) (hx : IntsAre vx xs) (hy : IntsAre vy ys) (hbx : Bits xs) (hby : Bits ys) (hlx : xs.length = 4 ∨ xs.length = 8) (hly : ys.length = xs.length)
    (XB : (Mine.frag w.params).In base) (TB : Top p loose mean mg mb base) (D : KtsDicts (outer.filterMap (·.frame)) h₀)
    (hnx : (xs.length : Int) = 4) (hny : (ys.length : Int) = 4) (hok : SqOk (DK (dot (devs 4 xs) (devs 4 xs))) (DK (dot (devs 4 ys) (devs 4 ys))))
    (ret : Float64.isZero (sqF (DK (dot (devs 4 xs) (devs 4 xs))) (DK (dot (devs 4 ys) (devs 4 ys)))) = false → ∀ h' tk' t, Fr h₀ L h' m → News h₀ L h' news → Q (.float (Float64.div (DK (dot (devs 4 xs) (devs 4 ys))) (sqF (DK (dot (devs 4 xs) (devs 4 xs))) (DK (dot (devs 4 ys) (devs 4 ys))))) t) { s with heap := h', toks := tk' })
    (fail : Float64.isZero (sqF (DK (dot (devs 4 xs) (devs 4 xs))) (DK (dot (devs 4 ys) (devs 4 ys)))) = true → ∀ e h' tk' G h₁, KtsTurn (outer.filterMap (·.frame)) h₀ h₁ → Below A₀ base outer h₁ → Fr h₁ L G m → RaisedSN base G (envX cn cs L a ccd cl :: outer) e (.ref 59) news h' → G.UpToSlots h' → E (.ref e) { s with heap := h', toks := tk' }) :
    wpAny (model PySem.Challenge.rw_ik0222_01.row.prog w) (ktrTop dp un gd cn cs L a ccd cl outer) (call (.ref 298) [.ref xa, .ref ya]) Q E s := by
  k_with_none
  k_with "call ref" => w_strict (k_here; (with_reducible show wpAny _ _ (call (Value.ref 285) [Value.float _ _, Value.float _ _]) _ _ _); k_dflt (refine' sqrtprod_spec ?k1w16 ?k2w16 ?k3w16 ?k4w16 ?k5w16 ?k6w16 ?k7w16 ?k8w16 ?a1w16 ?_; (case k1w16 => k_asm); (case k2w16 => k_asm); (case k3w16 => k_asm); (case k4w16 => k_asm); (case k5w16 => k_asm); (case k6w16 => first | exact rfl | assumption); (case k7w16 => ktr_room); (case k8w16 => ktr_units); (case a1w16 => with_reducible assumption); k_whole); intro _ _ _ _ _; (try dsimp only); (try k_sweep))
  k_with "call builtin:math.fsum" => w_strict (k_here; (with_reducible show wpAny _ _ (call (Value.builtin "math.fsum") [Value.ref _]) _ _ _); k_dflt (refine' fsum_led (s := ⟨_, _, _, _, _⟩) ?hw17 ?Fw17 ?Nw17 ?lw17 ?xw17 ?bw17 ?nw17 ?_; (case hw17 => first | exact rfl | assumption); (case Fw17 => k_asm); (case Nw17 => k_asm); (case lw17 => k_mem); (case xw17 => with_reducible assumption); (case bw17 => with_reducible assumption); (case nw17 => first | with_reducible assumption | omega); k_whole); intro _ _ _ _ _; (try k_sweep))
  k_with "call builtin:len" => w_strict (k_here; (with_reducible show wpAny _ _ (call (Value.builtin "len") [Value.ref _]) _ _ _); k_dflt (refine' len_ints ?Nw18 ?mw18 ?aw18 ?bw18 ?_; (case Nw18 => k_asm); (case mw18 => k_mem); (case aw18 => with_reducible assumption); (case bw18 => first | assumption | omega); k_whole); intro _ _)
  k_with "call builtin:len" => w_strict (k_here; (with_reducible show wpAny _ _ (call (Value.builtin "len") [Value.ref _]) _ _ _); k_dflt (refine' len_intsN ?Nw19 ?mw19 ?aw19 ?cw19 ?bw19 ?_; (case Nw19 => k_asm); (case mw19 => k_mem); (case aw19 => with_reducible assumption); (case cw19 => with_reducible assumption); (case bw19 => decide); k_whole); intro _ _)
  k_with "exec Assign cons ListComp" => w_strict (k_here; k_dflt (refine LCg.Assign_ListComp_U (F₀ := by k_asm) (by rfl) (by with_unfolding_all rfl) (by with_unfolding_all rfl) (by decide) (by rfl) (by decide) (by rfl) (by rfl) (by rfl) ?_); walk1; k_dflt (refine LCg.CompSrc.ledger (by rfl) (by k_asm) (by k_asm) (by k_mem) (by rw [PySem.sizeLine_eq, List.size_toArray]; omega) ?_))
  k_with "call builtin:math.sumprod" => w_strict (k_here; (with_reducible show wpAny _ _ (call (Value.builtin "math.sumprod") [Value.ref _, Value.ref _]) _ _ _); k_dflt (refine' sumprod_dk (s := ⟨_, _, _, _, _⟩) ?hw21 ?Fw21 ?Nw21 ?aw21 ?bw21 ?xw21 ?yw21 ?s1w21 ?s2w21 ?lw21 ?nw21 ?zw21 ?_; (case hw21 => first | exact rfl | assumption); (case Fw21 => k_asm); (case Nw21 => k_asm); (case aw21 => k_mem); (case bw21 => k_mem); (case xw21 => with_reducible assumption); (case yw21 => with_reducible assumption); (case s1w21 => with_reducible assumption); (case s2w21 => with_reducible assumption); (case lw21 => omega); (case nw21 => omega); (case zw21 => omega); k_whole); intro _ _ _ _ _; (try k_sweep))
  k_with "exec Try" => w_strict (k_here; refine wpAny_Try_except ?_)
  k_with "exec Raise some none" => w_strict (k_here; (rename Free2 _ _ => fr9); k_dflt (refine' Raise_own_in ?Fw23 ?Xw23 ?Tw23 ?exw23 ?Ow23 PySem.F.excBase_ValueError ?hhw23 ?frw23 ?_ ?aw23 ?bw23 ?cw23 ?dw23 ?ew23; (case hhw23 => rfl); (case Fw23 => k_asm); (case Xw23 => k_asm); (case Tw23 => k_asm); (case frw23 => exact fr9); (case aw23 => rfl); (case bw23 => rfl); (case cw23 => rfl); (case dw23 => rfl); (case ew23 => decide); (case exw23 => k_is); (case Ow23 => exact own_of_in (by k_asm) (by k_asm) (by k_is) (by k_exc)); k_whole))
  k_with "leaving ref" => w_strict (k_here; refine Halt.go ?_)
  revert X; k_fill; intro X
  refine wpAny_call ?_
  have hvx : vx.length ≤ 8 := by have := hx.length; omega
  have hvy : vy.length ≤ 8 := by have := hy.length; omega
  have hsx := bits_sum_le hbx
  have hsy := bits_sum_le hby
  have hdx : Small8 (devs 4 xs) := devs_small (.inl rfl) hbx hnx
  have hdy : Small8 (devs 4 ys) := devs_small (.inl rfl) hby hny
  have hldx := devs_len 4 xs
  have hldy := devs_len 4 ys
  k_dflt (refine' code_defC (binds := [(Str.ofString "x", .ref xa), (Str.ofString "y", .ref ya), (Str.ofString "method", .str (Str.ofString "linear") 774)]) ?k1 ?k2 ?k3 ?k4 ?k5 ?kA ?kF ?kK ?k6 ?k7 ?k8 ?k9 ?kB ?kD ?_ ?c2 ?c3 ?c4; (case kA => exact rfl); (case kF => exact rfl); (case kK => first | exact rfl | assumption); (case k1 => k_asm); (case k2 => k_asm); (case k3 => k_asm); (case k4 => k_asm); (case k5 => k_asm); (case k6 => k_is); (case k7 => k_is); (case k8 => ktr_room); (case k9 => exact corr_binds ((X.keeps F.keep) 293 _ rfl) rfl (keys_one rfl) (by rfl) rfl rfl rfl rfl rfl rfl rfl); (case kB => exact rfl); (case kD => decide +kernel); (case c2 => exact rfl); (case c3 => exact rfl); (case c4 => exact rfl); k_whole; intro g' L' h' tk' cells' FG' F' N' Y' B' X' T' l1; (try k_lt l1); k_cells Y'; (try simp only [List.cons_append, List.nil_append] at N'); (try dsimp only); (try k_fold))
  k_steps
  (rename Fr _ _ _ _ => lF)
  (rename News _ _ _ _ => lN)
  refine rest_map (news := _) (Rel := IntRel) (Rel' := FloRel) (fun x => DK (8 * (8 * x - (8 / 4) * xs.sum))) (all2_ints hx) (fun i v e => by simpa using e) (.inr ⟨_, by k_mem, rfl, _, rfl⟩) ?_ ?_
  · intro v x I oI C oC D m₂ ys1 h tk E' hxm hr hC hx' F' N' off ne
    obtain ⟨t, rfl⟩ := hr
    have hbit := hbx x hxm
    clear lF lN
    k_steps
    (rename Fr _ _ _ _ => F9)
    (rename News _ _ _ _ => N9)
    exact ⟨_, _, rfl, F9, N9, _, congrArg (fun z => Value.float z _) (dev_is (.inl rfl) (by omega) hbit)⟩
  · intro zs hzs
    rw [dk8_devs] at hzs
    have hzl : zs.length ≤ 8 := by have := hzs.len; rw [List.length_map] at this; omega
    intro D h tk F' N' off
    clear lF lN
    k_steps
    (rename Fr _ _ _ _ => lF)
    (rename News _ _ _ _ => lN)
    refine rest_map (news := _) (Rel := IntRel) (Rel' := FloRel) (fun x => DK (8 * (8 * x - (8 / 4) * ys.sum))) (all2_ints hy) (fun i v e => by simpa using e) (.inr ⟨_, by k_mem, rfl, _, rfl⟩) ?_ ?_
    · intro v x I oI C oC D m₂ ys1 h tk E' hxm hr hC hx' F' N' off ne
      obtain ⟨t, rfl⟩ := hr
      have hbit := hby x hxm
      clear lF lN
      k_steps
      (rename Fr _ _ _ _ => F9)
      (rename News _ _ _ _ => N9)
      exact ⟨_, _, rfl, F9, N9, _, congrArg (fun z => Value.float z _) (dev_is (.inl rfl) (by omega) hbit)⟩
    · intro ws hws
      rw [dk8_devs] at hws
      have hwl : ws.length ≤ 8 := by have := hws.len; rw [List.length_map] at this; omega
      intro D h tk F' N' off
      clear lF lN
      k_steps
      k_steps
      · (rename Heap.NewExc _ _ _ _ => hN)
        (rename News g' _ _ _ => N9)
        (rename Fr g' _ _ _ => F9)
        (rename KtsDicts _ _ => kD)
        have D' := dicts_push (env := envX cn cs L a ccd cl) rfl FG' kD
        refine note_new2 rfl rfl B' hN F9 N9 ?_
        intro G h9 F8 R8 fr8 U8
        k_dflt (refine' handle_B2 (T' := "ZeroDivisionError") R8 fr8 F8 B' U8 XB TB D' ?ex PyProof.Rows.Boot.«ZeroDivisionError» ?hn PySem.F.isExc_ZeroDivisionError PySem.F.notTuple_ZeroDivisionError ?hs ?_; (case ex => k_is); (case hn => decide); (case hs => kts_sub); k_whole)
        clear F8 R8 U8 N9 F9 hN fr8
        intro h7 g7 fr7 T7 F7 N7 B7 X7 P7 D7
        k_steps
        (rename NewX _ _ _ _ => nx)
        refine Halt.on (leave_new rfl rfl B7 nx F7 N7 ?_)
        intro h5 R5 U5
        obtain ⟨h₁, T1, F1, B1⟩ := turn_back (env := envX cn cs L a ccd cl) rfl B FG' T7
        exact fail (by assumption) _ _ _ _ h₁ T1 B1 F1 (Mine.RaisedSN.sub R5 fun p hp => List.mem_cons_of_mem _ (List.mem_cons_of_mem _ (List.mem_cons_of_mem _ (List.mem_cons_of_mem _ (List.mem_cons_of_mem _ hp))))) U5
      · exact ret (Bool.eq_false_iff.mpr (by assumption)) _ _ _ (by with_reducible assumption) (fun p hp => (by assumption : News h₀ L _ _) p (List.mem_cons_of_mem _ (List.mem_cons_of_mem _ (List.mem_cons_of_mem _ (List.mem_cons_of_mem _ (List.mem_cons_of_mem _ hp))))))

theorem corr_spec8
 {w : World} {dp un : Nat} {gd : Option (List Code)} {cn : Str} {cs : Scope} {a : Addr} {ccd : Value} {cl : List (Str × Addr)} {outer : List Env} {A₀ : Around} {base h₀ : Heap} {L : Addr} {m : Str → Option Value} {news : List (Addr × Obj)} {s : Shared}
    {Q E : Value → Shared → Prop} {p : Program} {loose : List Str} {mean : ExcName → Option Value} {mg mb : Str → Option Value}
    (B : Below A₀ base outer h₀) (F : Fr h₀ L s.heap m) (X : (Mine.frag w.params).In h₀) (N : News h₀ L s.heap news) (T : Top p loose mean mg mb h₀) (hk : cs.kind = .function)
    (hdp : dp + 4 < recursionLimit) (hun : un + 40 < cLine)
    {xa ya : Addr} {vx vy : List Value} {nx ny : Nat} {xs ys : List Int} (hxa : (xa, lstO vx nx) ∈ news) (hya : (ya, lstO vy ny) ∈ news) (hx : IntsAre vx xs) (hy : IntsAre vy ys) (hbx : Bits xs) (hby : Bits ys) (hlx : xs.length = 4 ∨ xs.length = 8) (hly : ys.length = xs.length)
    (XB : (Mine.frag w.params).In base) (TB : Top p loose mean mg mb base) (D : KtsDicts (outer.filterMap (·.frame)) h₀)
    (hnx : (xs.length : Int) = 8) (hny : (ys.length : Int) = 8) (hok : SqOk (DK (dot (devs 8 xs) (devs 8 xs))) (DK (dot (devs 8 ys) (devs 8 ys))))
    (ret : Float64.isZero (sqF (DK (dot (devs 8 xs) (devs 8 xs))) (DK (dot (devs 8 ys) (devs 8 ys)))) = false → ∀ h' tk' t, Fr h₀ L h' m → News h₀ L h' news → Q (.float (Float64.div (DK (dot (devs 8 xs) (devs 8 ys))) (sqF (DK (dot (devs 8 xs) (devs 8 xs))) (DK (dot (devs 8 ys) (devs 8 ys))))) t) { s with heap := h', toks := tk' })
    (fail : Float64.isZero (sqF (DK (dot (devs 8 xs) (devs 8 xs))) (DK (dot (devs 8 ys) (devs 8 ys)))) = true → ∀ e h' tk' G h₁, KtsTurn (outer.filterMap (·.frame)) h₀ h₁ → Below A₀ base outer h₁ → Fr h₁ L G m → RaisedSN base G (envX cn cs L a ccd cl :: outer) e (.ref 59) news h' → G.UpToSlots h' → E (.ref e) { s with heap := h', toks := tk' }) :
    wpAny (model PySem.Challenge.rw_ik0222_01.row.prog w) (ktrTop dp un gd cn cs L a ccd cl outer) (call (.ref 298) [.ref xa, .ref ya]) Q E s := by
  k_with_none
  k_with "call ref" => w_strict (k_here; (with_reducible show wpAny _ _ (call (Value.ref 285) [Value.float _ _, Value.float _ _]) _ _ _); k_dflt (refine' sqrtprod_spec ?k1w25 ?k2w25 ?k3w25 ?k4w25 ?k5w25 ?k6w25 ?k7w25 ?k8w25 ?a1w25 ?_; (case k1w25 => k_asm); (case k2w25 => k_asm); (case k3w25 => k_asm); (case k4w25 => k_asm); (case k5w25 => k_asm); (case k6w25 => first | exact rfl | assumption); (case k7w25 => ktr_room); (case k8w25 => ktr_units); (case a1w25 => with_reducible assumption); k_whole); intro _ _ _ _ _; (try dsimp only); (try k_sweep))
  k_with "call builtin:math.fsum" => w_strict (k_here; (with_reducible show wpAny _ _ (call (Value.builtin "math.fsum") [Value.ref _]) _ _ _); k_dflt (refine' fsum_led (s := ⟨_, _, _, _, _⟩) ?hw26 ?Fw26 ?Nw26 ?lw26 ?xw26 ?bw26 ?nw26 ?_; (case hw26 => first | exact rfl | assumption); (case Fw26 => k_asm); (case Nw26 => k_asm); (case lw26 => k_mem); (case xw26 => with_reducible assumption); (case bw26 => with_reducible assumption); (case nw26 => first | with_reducible assumption | omega); k_whole); intro _ _ _ _ _; (try k_sweep))
  k_with "call builtin:len" => w_strict (k_here; (with_reducible show wpAny _ _ (call (Value.builtin "len") [Value.ref _]) _ _ _); k_dflt (refine' len_ints ?Nw27 ?mw27 ?aw27 ?bw27 ?_; (case Nw27 => k_asm); (case mw27 => k_mem); (case aw27 => with_reducible assumption); (case bw27 => first | assumption | omega); k_whole); intro _ _)
  k_with "call builtin:len" => w_strict (k_here; (with_reducible show wpAny _ _ (call (Value.builtin "len") [Value.ref _]) _ _ _); k_dflt (refine' len_intsN ?Nw28 ?mw28 ?aw28 ?cw28 ?bw28 ?_; (case Nw28 => k_asm); (case mw28 => k_mem); (case aw28 => with_reducible assumption); (case cw28 => with_reducible assumption); (case bw28 => decide); k_whole); intro _ _)
  k_with "exec Assign cons ListComp" => w_strict (k_here; k_dflt (refine LCg.Assign_ListComp_U (F₀ := by k_asm) (by rfl) (by with_unfolding_all rfl) (by with_unfolding_all rfl) (by decide) (by rfl) (by decide) (by rfl) (by rfl) (by rfl) ?_); walk1; k_dflt (refine LCg.CompSrc.ledger (by rfl) (by k_asm) (by k_asm) (by k_mem) (by rw [PySem.sizeLine_eq, List.size_toArray]; omega) ?_))
  k_with "call builtin:math.sumprod" => w_strict (k_here; (with_reducible show wpAny _ _ (call (Value.builtin "math.sumprod") [Value.ref _, Value.ref _]) _ _ _); k_dflt (refine' sumprod_dk (s := ⟨_, _, _, _, _⟩) ?hw30 ?Fw30 ?Nw30 ?aw30 ?bw30 ?xw30 ?yw30 ?s1w30 ?s2w30 ?lw30 ?nw30 ?zw30 ?_; (case hw30 => first | exact rfl | assumption); (case Fw30 => k_asm); (case Nw30 => k_asm); (case aw30 => k_mem); (case bw30 => k_mem); (case xw30 => with_reducible assumption); (case yw30 => with_reducible assumption); (case s1w30 => with_reducible assumption); (case s2w30 => with_reducible assumption); (case lw30 => omega); (case nw30 => omega); (case zw30 => omega); k_whole); intro _ _ _ _ _; (try k_sweep))
  k_with "exec Try" => w_strict (k_here; refine wpAny_Try_except ?_)
  k_with "exec Raise some none" => w_strict (k_here; (rename Free2 _ _ => fr9); k_dflt (refine' Raise_own_in ?Fw32 ?Xw32 ?Tw32 ?exw32 ?Ow32 PySem.F.excBase_ValueError ?hhw32 ?frw32 ?_ ?aw32 ?bw32 ?cw32 ?dw32 ?ew32; (case hhw32 => rfl); (case Fw32 => k_asm); (case Xw32 => k_asm); (case Tw32 => k_asm); (case frw32 => exact fr9); (case aw32 => rfl); (case bw32 => rfl); (case cw32 => rfl); (case dw32 => rfl); (case ew32 => decide); (case exw32 => k_is); (case Ow32 => exact own_of_in (by k_asm) (by k_asm) (by k_is) (by k_exc)); k_whole))
  k_with "leaving ref" => w_strict (k_here; refine Halt.go ?_)
  revert X; k_fill; intro X
  refine wpAny_call ?_
  have hvx : vx.length ≤ 8 := by have := hx.length; omega
  have hvy : vy.length ≤ 8 := by have := hy.length; omega
  have hsx := bits_sum_le hbx
  have hsy := bits_sum_le hby
  have hdx : Small8 (devs 8 xs) := devs_small (.inr rfl) hbx hnx
  have hdy : Small8 (devs 8 ys) := devs_small (.inr rfl) hby hny
  have hldx := devs_len 8 xs
  have hldy := devs_len 8 ys
  k_dflt (refine' code_defC (binds := [(Str.ofString "x", .ref xa), (Str.ofString "y", .ref ya), (Str.ofString "method", .str (Str.ofString "linear") 774)]) ?k1 ?k2 ?k3 ?k4 ?k5 ?kA ?kF ?kK ?k6 ?k7 ?k8 ?k9 ?kB ?kD ?_ ?c2 ?c3 ?c4; (case kA => exact rfl); (case kF => exact rfl); (case kK => first | exact rfl | assumption); (case k1 => k_asm); (case k2 => k_asm); (case k3 => k_asm); (case k4 => k_asm); (case k5 => k_asm); (case k6 => k_is); (case k7 => k_is); (case k8 => ktr_room); (case k9 => exact corr_binds ((X.keeps F.keep) 293 _ rfl) rfl (keys_one rfl) (by rfl) rfl rfl rfl rfl rfl rfl rfl); (case kB => exact rfl); (case kD => decide +kernel); (case c2 => exact rfl); (case c3 => exact rfl); (case c4 => exact rfl); k_whole; intro g' L' h' tk' cells' FG' F' N' Y' B' X' T' l1; (try k_lt l1); k_cells Y'; (try simp only [List.cons_append, List.nil_append] at N'); (try dsimp only); (try k_fold))
  k_steps
  (rename Fr _ _ _ _ => lF)
  (rename News _ _ _ _ => lN)
  refine rest_map (news := _) (Rel := IntRel) (Rel' := FloRel) (fun x => DK (8 * (8 * x - (8 / 8) * xs.sum))) (all2_ints hx) (fun i v e => by simpa using e) (.inr ⟨_, by k_mem, rfl, _, rfl⟩) ?_ ?_
  · intro v x I oI C oC D m₂ ys1 h tk E' hxm hr hC hx' F' N' off ne
    obtain ⟨t, rfl⟩ := hr
    have hbit := hbx x hxm
    clear lF lN
    k_steps
    (rename Fr _ _ _ _ => F9)
    (rename News _ _ _ _ => N9)
    exact ⟨_, _, rfl, F9, N9, _, congrArg (fun z => Value.float z _) (dev_is (.inr rfl) (by omega) hbit)⟩
  · intro zs hzs
    rw [dk8_devs] at hzs
    have hzl : zs.length ≤ 8 := by have := hzs.len; rw [List.length_map] at this; omega
    intro D h tk F' N' off
    clear lF lN
    k_steps
    (rename Fr _ _ _ _ => lF)
    (rename News _ _ _ _ => lN)
    refine rest_map (news := _) (Rel := IntRel) (Rel' := FloRel) (fun x => DK (8 * (8 * x - (8 / 8) * ys.sum))) (all2_ints hy) (fun i v e => by simpa using e) (.inr ⟨_, by k_mem, rfl, _, rfl⟩) ?_ ?_
    · intro v x I oI C oC D m₂ ys1 h tk E' hxm hr hC hx' F' N' off ne
      obtain ⟨t, rfl⟩ := hr
      have hbit := hby x hxm
      clear lF lN
      k_steps
      (rename Fr _ _ _ _ => F9)
      (rename News _ _ _ _ => N9)
      exact ⟨_, _, rfl, F9, N9, _, congrArg (fun z => Value.float z _) (dev_is (.inr rfl) (by omega) hbit)⟩
    · intro ws hws
      rw [dk8_devs] at hws
      have hwl : ws.length ≤ 8 := by have := hws.len; rw [List.length_map] at this; omega
      intro D h tk F' N' off
      clear lF lN
      k_steps
      k_steps
      · (rename Heap.NewExc _ _ _ _ => hN)
        (rename News g' _ _ _ => N9)
        (rename Fr g' _ _ _ => F9)
        (rename KtsDicts _ _ => kD)
        have D' := dicts_push (env := envX cn cs L a ccd cl) rfl FG' kD
        refine note_new2 rfl rfl B' hN F9 N9 ?_
        intro G h9 F8 R8 fr8 U8
        k_dflt (refine' handle_B2 (T' := "ZeroDivisionError") R8 fr8 F8 B' U8 XB TB D' ?ex PyProof.Rows.Boot.«ZeroDivisionError» ?hn PySem.F.isExc_ZeroDivisionError PySem.F.notTuple_ZeroDivisionError ?hs ?_; (case ex => k_is); (case hn => decide); (case hs => kts_sub); k_whole)
        clear F8 R8 U8 N9 F9 hN fr8
        intro h7 g7 fr7 T7 F7 N7 B7 X7 P7 D7
        k_steps
        (rename NewX _ _ _ _ => nx)
        refine Halt.on (leave_new rfl rfl B7 nx F7 N7 ?_)
        intro h5 R5 U5
        obtain ⟨h₁, T1, F1, B1⟩ := turn_back (env := envX cn cs L a ccd cl) rfl B FG' T7
        exact fail (by assumption) _ _ _ _ h₁ T1 B1 F1 (Mine.RaisedSN.sub R5 fun p hp => List.mem_cons_of_mem _ (List.mem_cons_of_mem _ (List.mem_cons_of_mem _ (List.mem_cons_of_mem _ (List.mem_cons_of_mem _ hp))))) U5
      · exact ret (Bool.eq_false_iff.mpr (by assumption)) _ _ _ (by with_reducible assumption) (fun p hp => (by assumption : News h₀ L _ _) p (List.mem_cons_of_mem _ (List.mem_cons_of_mem _ (List.mem_cons_of_mem _ (List.mem_cons_of_mem _ (List.mem_cons_of_mem _ hp))))))

end
end Mine
end
section
open PySem.Calls PySem.Spec
namespace Mine
section
variable {M : Model} {A : Around} {E : Value → Shared → Prop} {s : Shared}
theorem genexprCode_hit {env : Env} {c P : Addr} {ps : Array Value} {pos : Pos} {q : Str} {scope : Scope} {cv : Value} {Q : Value → Shared → Prop} (hc : env.code = .ref c) (hok : s.heap.IsCode c P ps) (hf : codeAmong pos ps.toList = some cv) (hQ : Q cv s) :
    wpAny M A (genexprCode env pos q scope) Q E s := by
  obtain ⟨o, vs, file, tf, flags, tg, inF, text, tt, op, ho, hd, h11, h2, h7, h9, h10, hop, hpd, htr, hne⟩ := id hok
  unfold genexprCode codeAt
  rw [hc, if_neg (show ¬ ((Value.ref c == Value.none) = true) from Bool.false_ne_true)]
  refine wpAny_bind (wpAny_fieldsOf ho hd ?_)
  rw [h11]
  refine wpAny_bind (wpAny_fieldsOf hop hpd ?_)
  rw [hf]
  exact wpAny_pure hQ
theorem genexprCode_any {env : Env} {c P : Addr} {ps : Array Value} {pos : Pos} {q : Str} {scope : Scope} {Q : Value → Shared → Prop} (hc : env.code = .ref c) (Cd : CodeHd s.heap c P) (hP : s.heap.get? P = some (tabObj ps)) (ht : TriplesOk ps.toList)
    (hQ : ∀ code h' tk ps', Heap.ExtBut P s.heap h' → s.heap.objs.size ≤ h'.objs.size → h'.get? P = some (tabObj ps') → TriplesOk ps'.toList → Q code { s with heap := h', toks := tk }) :
    wpAny M A (genexprCode env pos q scope) Q E s := by
  cases hf : codeAmong pos ps.toList with
  | some cv => exact genexprCode_hit hc (Cd.code hP ht) hf (hQ cv s.heap s.toks ps (Heap.ExtBut.refl _ _) (Nat.le_refl _) hP ht)
  | none =>
    refine wpAny_genexprCodeX hc (Cd.code hP ht) (Cd.tab hP) hf fun c' h' tk hx hge hlt hcode _ htab _ => ?_
    refine hQ (.ref c') h' tk _ hx (Nat.le_trans hge (Nat.le_of_lt hlt)) htab.2 ?_
    obtain ⟨_, _, _, _, _, _, _, _, _, op, _, _, _, _, _, _, _, hop, hpd, htr, _⟩ := hcode
    exact htr
end
/-- one value of a generator of differences -/
def GenF (xs : List Int) (xb : UInt64) (i : Nat) (v : Value) : Prop := ∃ t, v = .float (Float64.sub (Float64.ofInt (xs.getD i 0)) xb) t
section
variable {prog : Program} {w : World} {A : Around} {E : Value → Shared → Prop} {s : Shared} {g₀ : Heap} {L a c P la cb : Addr} {m mg mb : Str → Option Value} {led : List (Addr × Obj)} {ps : Array Value} {p : Program} {loose : List Str} {mean : ExcName → Option Value}
  {cn : Str} {cs : Scope} {cd : Value} {cl : List (Str × Addr)} {x y ix : Str} {px pe pe1 pe2 pi pos : Pos} {scope : Scope} {vs : List Value} {xs : List Int} {nl : Nat} {xb : UInt64} {tb : Tok} {oc : Obj}

theorem quiet_dev {cenv : Env} {fp wr : List Addr} {href : Heap} {Dp U : Nat} (hk : cenv.scope.kind = .function) (hx : cenv.kindOf x = some .local) (hy : cenv.kindOf y = some .free) (hc : cenv.cells.lookup y = some cb) (hyc : (y == ("__classdict__" : Str)) = false)
    (hxd : (x == ("__debug__" : Str)) = false) (hyd : (y == ("__debug__" : Str)) = false)
    (hcf : cb ∈ fp) (hcw : cb ∉ wr) (ho : href.get? cb = some oc) (hd : oc.data = .cell (some (.float xb tb))) (hv : IntsAre vs xs) (hb : Bits xs) :
    QuietGenD prog w cenv x [] (.BinOp (.Name x pe1) .Sub (.Name y pe2) pe) fp wr (fun i v => vs.toArray[i]? = some v) (fun _ => true) (GenF xs xb) href Dp U where
  tests := fun A' E' i v s₂ m₂ _ _ _ hv' hn hm hkp => wpAny_pure ⟨rfl, s₂.heap, s₂.toks, rfl, fun _ _ e => e⟩
  elt := fun A' E' i v s₂ m₂ _ _ _ hv' _ hn hm hkp => by
    have hv'' : vs[i]? = some v := by rw [← List.getElem?_toArray]; exact hv'
    obtain ⟨n, t, hn', rfl⟩ := ia_at hv hv''
    refine wpAny_BinOp (wpAny_Name (wpAny_loadName_local hk hx hn hm ?_) hxd)
    refine wpAny_Name (wpAny_loadName_free hk hy hc ⟨oc, hkp _ hcf hcw _ ho, hd⟩ ?_ hyc) hyd
    have hbit : n = 0 ∨ n = 1 := hb n (List.mem_of_getElem? hn')
    refine PyProof.Rows.sub_if_fits (by rcases hbit with rfl | rfl <;> decide) ?_
    exact ⟨⟨_, by rw [List.getD_eq_getElem?_getD, hn']; rfl⟩, s₂.heap, _, rfl, fun _ _ e => e⟩
end
end Mine
end
section
open PySem.Calls PySem.Spec
namespace Mine
abbrev GenOf (prog : Program) (w : World) (A : Around) (ga g C I la cb n : Nat) (xs : List Int) (xb : UInt64) (j : Nat) (s : Shared) : Prop :=
  GenAt prog w A ga g C [I, la, cb, cStatics] [I] (fun _ => true) n (GenF xs xb) j s
theorem GenOf.move {prog : Program} {w : World} {A : Around} {ga g C I la cb n : Nat} {xs : List Int} {xb : UInt64} {j : Nat} {s s' : Shared} (x : GenOf prog w A ga g C I la cb n xs xb j s) (hg : s'.gens[g]? = s.gens[g]?)
    (hk : ∀ b ∈ [ga, C, I, la, cb, cStatics], ∀ o, s.heap.get? b = some o → s'.heap.get? b = some o) : GenOf prog w A ga g C I la cb n xs xb j s' := by
  obtain ⟨⟨o, nm, qn, ho, r⟩, ⟨mc, hns, hnn⟩, gs, hgs, hgo⟩ := x
  exact ⟨⟨o, nm, qn, hk ga (by simp) o ho, r⟩, ⟨mc, hns.at' fun o e => hk cStatics (by simp) o e, hnn⟩, gs, hg.trans hgs, fun s'' hal => hgo s'' fun b hb o e => hal b hb o (hk b (by
    rcases List.mem_cons.mp hb with rfl | hb
    · simp
    · exact List.mem_cons_of_mem _ (List.mem_cons_of_mem _ hb)) o e)⟩
section
variable {prog : Program} {w : World} {A : Around} {E : Value → Shared → Prop} {s : Shared} {g₀ : Heap} {L a c P la cb : Addr} {m mg mb : Str → Option Value} {led : List (Addr × Obj)} {ps : Array Value} {p : Program} {loose : List Str} {mean : ExcName → Option Value}
  {cn : Str} {cs : Scope} {cd : Value} {cl : List (Str × Addr)} {x y ix : Str} {px pe pe1 pe2 pi pos : Pos} {scope : Scope} {vs : List Value} {xs : List Int} {nl : Nat} {xb : UInt64} {tb : Tok} {oc : Obj} {Q : Value → Shared → Prop}

theorem gen_make (hh : A.handled = none) (hroom : A.depth < recursionLimit) (F : Fr g₀ L s.heap m) (N : News g₀ L s.heap ((P, tabObj ps) :: led)) (hPl : ∀ q ∈ led, q.1 ≠ P) (T : Top p loose mean mg mb g₀) (Cd : CodeHd g₀ c P) (hcd : cd = .ref c) (ht : TriplesOk ps.toList) (GB : AllBare s.gens)
    (hl : (la, lstO vs nl) ∈ led) (hxb : (cb, oc) ∈ led) (hoc : oc.data = .cell (some (.float xb tb))) (hm : m ix = some (.ref la)) (hv : IntsAre vs xs) (hb : Bits xs)
    (hQ : ∀ ga C I h' tk' ps' gs, TriplesOk ps'.toList → Fr g₀ L h' m → News g₀ L h' ((P, tabObj ps') :: led) → AllBare (s.gens.push gs) → (∀ b o, b ≠ P → s.heap.get? b = some o → h'.get? b = some o) →
      s.heap.objs.size ≤ I → I < C → C < ga → ga < h'.objs.size →
      GenOf prog w A.in1 ga s.gens.size C I la cb vs.length xs xb 0 { s with gens := s.gens.push gs, toks := tk', heap := h' } → Q (.ref ga) { s with gens := s.gens.push gs, toks := tk', heap := h' })
    (hk : cs.kind = .function) (hix : (envX cn cs L a cd cl).kindOf ix = some .local) (hixd : (ix == ("__debug__" : Str)) = false)
    (hclos : closureFor scope (envX cn cs L a cd cl) = pure [(y, cb)]) (hco : scope.isCoroutine = false) (hcell : ∀ y ∈ scope.names, y.2 ≠ .cell) (h0 : scope.names.lookup (".0" : Str) = some NameKind.local)
    (hx : scope.names.lookup x = some .local) (hy : scope.names.lookup y = some .free) (hkind : scope.kind = .function) (hyc : (y == ("__classdict__" : Str)) = false) (hxd : (x == ("__debug__" : Str)) = false) (hyd : (y == ("__debug__" : Str)) = false) :
    wpAny (model prog w) A (eval (.GeneratorExp (.BinOp (.Name x pe1) .Sub (.Name y pe2) pe) [⟨.Name x px, .Name ix pi, [], 0⟩] scope pos) (envX cn cs L a cd cl)) Q E s := by
  have hP := N (P, tabObj ps) (.head _)
  have hL := N (la, lstO vs nl) (.tail _ hl)
  have hC := N (cb, oc) (.tail _ hxb)
  have hlP : la ≠ P := hPl _ hl
  have hcP : cb ≠ P := hPl _ hxb
  have hlim : s.heap.NoLimit := T.nolimit.keeps F.keep
  have hcSP : cStatics ≠ P := fun q => by
    obtain ⟨_, hns, _⟩ := T.nolimit
    obtain ⟨o, es, ep, ho, _⟩ := hns
    rw [q, hP.2.2] at ho; cases ho
  obtain ⟨bm, ob, b1, b2, b3, b4, b5, b6⟩ := T.bmain
  have old : ∀ b o, g₀.get? b = some o → b ≠ P := fun b o e q => by rw [q, hP.2.2] at e; cases e
  have hIL : s.heap.IsList la vs.toArray := ⟨_, hL.1, rfl, nl, rfl⟩
  refine wpAny_GeneratorExp_make hco hclos hcell h0 hkind hroom (nameX_L F hm ?_ hk hix hixd) (fun _ => rfl)
  refine wpAny_pyIter_list hIL ?_
  have k1 : ∀ b o, s.heap.get? b = some o → (s.heap.push { cls := .type "list_iterator", data := .fields #[.ref la, .int 0 0] }).get? b = some o := fun b o e => Heap.get?_push_of_some _ e
  refine ⟨hlim.keeps k1, ?_⟩
  refine genexprCode_any hcd (Cd.keeps fun b o e => k1 _ _ (F.keep b o e)) (k1 _ _ hP.1) ht fun code h₃ tk₃ ps' hx₃ hsz₃ hP₃ ht' => ?_
  have hge : s.heap.objs.size + 1 ≤ h₃.objs.size := by
    have : (s.heap.push { cls := .type "list_iterator", data := .fields #[.ref la, .int 0 0] }).objs.size ≤ h₃.objs.size := hsz₃
    rwa [Heap.size_push] at this
  have k3 : ∀ b o, b ≠ P → s.heap.get? b = some o → h₃.get? b = some o := fun b o hb e => hx₃ b o hb (k1 b o e)
  have g3 : ∀ b o, g₀.get? b = some o → h₃.get? b = some o := fun b o e => k3 b o (old b o e) (F.keep b o e)
  refine wpAny_builtinsFor (T.g.keeps g3) b1 b2 (g3 _ _ b3) b4 b5 b6 ?_
  intro h' hn' hs'
  have hsz' : h'.objs.size = h₃.objs.size + 1 := by rw [hs'.1, Heap.size_push]
  have k4 : ∀ b o, h₃.get? b = some o → h'.get? b = some o := fun b o e => hs'.extBut b o (Nat.ne_of_lt (Heap.lt_size e)) (Heap.get?_push_of_some _ e)
  have k5 : ∀ b o, h₃.get? b = some o → (h'.push { cls := .type "generator", data := .fields #[.int s.gens.size 0, .str "<genexpr>" (tk₃ + 1), .str ((envX cn cs L a cd cl).qual ++ "<genexpr>") (tk₃ + 1 + 1)] }).get? b = some o :=
    fun b o e => Heap.get?_push_of_some _ (k4 b o e)
  have hIt : (s.heap.push { cls := .type "list_iterator", data := .fields #[.ref la, .int 0 0] }).get? s.heap.objs.size = some { cls := .type "list_iterator", data := .fields #[.ref la, .int 0 0] } := Heap.get?_push_size _ rfl
  have hIP : s.heap.objs.size ≠ P := Nat.ne_of_gt (Heap.lt_size hP.1)
  have hlt : ∀ q ∈ ((P, tabObj ps) :: led), q.1 < s.heap.objs.size := fun q hq => Heap.lt_size (N q hq).1
  have hne : la ≠ s.heap.objs.size := Nat.ne_of_lt (Heap.lt_size hL.1)
  refine hQ h'.objs.size h₃.objs.size s.heap.objs.size _ _ ps' _ ht' ?_ ?_ ?_ (fun b o hb e => k5 _ _ (k3 b o hb e)) (Nat.le_refl _) (by omega) (by omega) (by rw [Heap.size_push]; exact Nat.lt_succ_self _) ?_
  · exact ⟨F.ns.at' fun o e => k5 _ _ (k3 _ _ hP.2.1.symm e), fun b o e => k5 _ _ (g3 b o e), F.above⟩
  · intro q hq
    rcases List.mem_cons.mp hq with rfl | hq
    · exact ⟨k5 _ _ hP₃, hP.2.1, hP.2.2⟩
    · have n := N q (.tail _ hq)
      exact ⟨k5 _ _ (k3 _ _ (hPl q hq) n.1), n.2.1, n.2.2⟩
  · exact GB.push rfl
  · have hclt : cStatics < s.heap.objs.size := let ⟨_, hn, _⟩ := hlim; hn.lt
    refine GenAt.freshD (A := A.in1) (cenv := genEnv scope [(y, cb)] h₃.objs.size code builtinsNs (envX cn cs L a cd cl)) (m := fun z => if z = ".0" then some (.ref s.heap.objs.size) else none) (n₀ := vs.length) (P := fun i v => vs.toArray[i]? = some v) (St₀ := fun i h => h.IsListIter s.heap.objs.size la i ∧ h.IsList la vs.toArray) hh
      (fun A' hA => ?_) _ (GenF xs xb) hx (by simp [genEnv, hkind]) hco ?_ (quiet_dev (cb := cb) (oc := oc) (tb := tb) hkind hx hy (List.lookup_cons_self) hyc hxd hyd (by simp) ?_ ?_ hoc hv hb) ?_ (Array.getElem?_push_size ..) ?_ ?_ ?_
    · have W := Walks.list (prog := prog) (w := w) hA s.heap.objs.size la hne vs.toArray
      rw [List.size_toArray] at W
      exact W.mono_fp fun b hb => by
        rcases List.mem_cons.mp hb with rfl | hb
        · simp
        · rcases List.mem_cons.mp hb with rfl | hb
          · simp
          · cases hb
    · intro hm'
      have hcb := Heap.lt_size hC.1
      have hla := Heap.lt_size hL.1
      have hm' : h₃.objs.size ∈ [s.heap.objs.size, la, cb, cStatics] := hm'
      simp only [List.mem_cons, List.not_mem_nil, or_false] at hm'
      have e1 : ∀ b : Nat, b < h₃.objs.size → h₃.objs.size ≠ b := fun b hb => Nat.ne_of_gt hb
      rcases hm' with q | q | q | q
      · exact e1 _ (by omega) q
      · exact e1 _ (Nat.lt_of_lt_of_le hla (by omega)) q
      · exact e1 _ (Nat.lt_of_lt_of_le hcb (by omega)) q
      · exact e1 _ (Nat.lt_of_lt_of_le hclt (by omega)) q
    · intro hm'
      exact absurd (List.mem_singleton.mp hm') (Nat.ne_of_lt (Heap.lt_size hC.1))
    · exact k5 _ _ (k3 _ _ hcP hC.1)
    · exact ⟨_, _, _, Heap.get?_push_size _ rfl, rfl, rfl, rfl⟩
    · exact ⟨⟨_, k5 _ _ (hx₃ _ _ hIP hIt), rfl, rfl⟩, ⟨_, k5 _ _ (k3 _ _ hlP hL.1), rfl, nl, rfl⟩⟩
    · exact hn'.push _
    · exact let ⟨mc, hns, hnn⟩ := hlim; ⟨mc, hns.at' fun o e => k5 _ _ (k3 _ _ hcSP e), hnn⟩
end

theorem GenOf.push {prog : Program} {w : World} {A : Around} {ga g C I la cb n : Nat} {xs : List Int} {xb : UInt64} {j : Nat} {s s' : Shared} {P : Addr} {gs : GenState} (x : GenOf prog w A ga g C I la cb n xs xb j s) (hg : s'.gens = s.gens.push gs)
    (hk : ∀ b o, b ≠ P → s.heap.get? b = some o → s'.heap.get? b = some o) (h1 : ∀ b ∈ [ga, C, I, la, cb, cStatics], b ≠ P) : GenOf prog w A ga g C I la cb n xs xb j s' ∧ g < s.gens.size := by
  have hlt : g < s.gens.size := by
    obtain ⟨_, _, g', hg', _⟩ := x
    rcases Nat.lt_or_ge g s.gens.size with h | h
    · exact h
    · rw [Array.getElem?_eq_none h] at hg'; cases hg'
  refine ⟨x.move ?_ fun b hb o e => hk b o (h1 b hb) e, hlt⟩
  rw [hg, Array.getElem?_push, if_neg (Nat.ne_of_lt hlt)]
end Mine
end
section
open PySem.Calls PySem.Spec
namespace Mine
open PySem.Builtin.Math
theorem passing_all (n : Nat) : passing (fun _ => true) n 0 = List.range n := by simp [passing]
theorem gensQ_other {g g' : Nat} {a b : Array GenState} (x : GenOnlyQ g a b) (hne : g' ≠ g) : b[g']? = a[g']? := by
  rcases x with rfl | ⟨⟨_, ho⟩, _⟩
  · rfl
  · exact ho g' hne
/-- what stays beside two generators that are asked in turn -/
structure Beside (g₀ : Heap) (L : Addr) (m : Str → Option Value) (led : List (Addr × Obj)) (os : OsState) (dr : Drawn) (s : Shared) : Prop where
  fr : Fr g₀ L s.heap m
  news : News g₀ L s.heap led
  bare : AllBare s.gens
  os : s.os = os
  drawn : s.drawn = dr
section
variable {prog : Program} {w : World} {A : Around} {E : Value → Shared → Prop} {s s' : Shared} {g₀ : Heap} {L : Addr} {m : Str → Option Value} {led : List (Addr × Obj)} {os : OsState} {dr : Drawn} {g C I ga : Nat}
theorem Beside.moved (x : Beside g₀ L m led os dr s) (mv : Moved (C :: [I]) (GenOnlyQ g) s s') (hLI : L < I) (hIC : I < C) (hl : ∀ q ∈ led, q.1 < I) : Beside g₀ L m led os dr s' where
  fr := x.fr.moved mv fun b hb => by
    rcases List.mem_cons.mp hb with rfl | hb
    · exact Nat.lt_trans hLI hIC
    · rw [List.mem_singleton.mp hb]; exact hLI
  news := fun q hq => by
    have n := x.news q hq
    refine ⟨mv.heap _ _ (fun hb => ?_) n.1, n.2.1, n.2.2⟩
    have hlt := hl q hq
    rcases List.mem_cons.mp hb with e | hb
    · rw [e] at hlt; exact Nat.lt_irrefl _ (Nat.lt_trans hIC hlt)
    · rw [List.mem_singleton.mp hb] at hlt; exact Nat.lt_irrefl _ hlt
  bare := x.bare.movedS mv
  os := mv.os.trans x.os
  drawn := mv.drawn.trans x.drawn
theorem GenOf.walks {n la cb : Nat} {xs : List Int} {xb : UInt64} (hh : A.handled = none) (hroom : A.depth < recursionLimit) (hLI : L < I) (hIC : I < C) (hCa : C < ga) (hla : la < I) (hcb : cb < I) (hcs : cStatics < I) :
    WalksS prog w A ga (ga :: C :: [I, la, cb, cStatics]) (C :: [I]) (GenOnlyQ g) (passing (fun _ => true) n 0).length (fun j v => ∃ i, (passing (fun _ => true) n 0)[j]? = some i ∧ GenF xs xb i v) (GenOf prog w A ga g C I la cb n xs xb) :=
  WalksS.genexpQ hh ga g C [I, la, cb, cStatics] [I] (fun _ => true) n (GenF xs xb) (Nat.ne_of_gt hCa) (fun hm => by
    simp only [List.mem_cons, List.not_mem_nil, or_false] at hm
    have e1 : ∀ b : Nat, b < ga → ga ≠ b := fun b hb => Nat.ne_of_gt hb
    rcases hm with q | q | q | q
    · exact e1 _ (by omega) q
    · exact e1 _ (by omega) q
    · exact e1 _ (by omega) q
    · exact e1 _ (Nat.lt_trans hcs (by omega)) q) (fun b hb => by rw [List.mem_singleton.mp hb]; simp) hroom (by simp) (Nat.ne_of_lt (Nat.lt_trans hcs hIC)) (fun hm => by
    have q := List.mem_singleton.mp hm
    exact absurd q (Nat.ne_of_lt hcs))
theorem GenOf.next {n la cb j : Nat} {xs : List Int} {xb : UInt64} {Q : Option Value → Shared → Prop} (hh : A.handled = none) (hroom : A.depth < recursionLimit) (hLI : L < I) (hIC : I < C) (hCa : C < ga) (hla : la < I) (hcb : cb < I) (hcs : cStatics < I)
    (x : GenOf prog w A ga g C I la cb n xs xb j s) (hj : j < n)
    (hQ : ∀ s' t, GenOf prog w A ga g C I la cb n xs xb (j + 1) s' → Moved (C :: [I]) (GenOnlyQ g) s s' → Q (some (.float (Float64.sub (Float64.ofInt (xs.getD j 0)) xb) t)) s') : wpAny (model prog w) A (pyNext (.ref ga)) Q E s := by
  refine (GenOf.walks (L := L) (g := g) (n := n) (xs := xs) (xb := xb) hh hroom hLI hIC hCa hla hcb hcs).item j s Q E (by rw [passing_all, List.length_range]; exact hj) x fun v s' hv st mv => ?_
  obtain ⟨i, hi, t, rfl⟩ := hv
  rw [passing_all, List.getElem?_range hj] at hi
  cases hi
  exact hQ s' t st mv
theorem GenOf.stop {n la cb : Nat} {xs : List Int} {xb : UInt64} {Q : Option Value → Shared → Prop} (hh : A.handled = none) (hroom : A.depth < recursionLimit) (hLI : L < I) (hIC : I < C) (hCa : C < ga) (hla : la < I) (hcb : cb < I) (hcs : cStatics < I)
    (x : GenOf prog w A ga g C I la cb n xs xb n s) (hQ : ∀ s', Moved (C :: [I]) (GenOnlyQ g) s s' → Q none s') : wpAny (model prog w) A (pyNext (.ref ga)) Q E s := by
  have W := GenOf.walks (prog := prog) (w := w) (L := L) (g := g) (n := n) (xs := xs) (xb := xb) hh hroom hLI hIC hCa hla hcb hcs
  have e : (passing (fun _ => true) n 0).length = n := by rw [passing_all, List.length_range]
  rw [e] at W
  exact W.done s Q E x hQ

variable {g1 C1 I1 a1 l1 c1 g2 C2 I2 a2 l2 c2 n : Nat} {xs ys : List Int} {xb yb : UInt64} {Q : Value → Shared → Prop}
theorem GenOf.other {n la cb j : Nat} {xs : List Int} {xb : UInt64} (x : GenOf prog w A ga g C I la cb n xs xb j s) (mv : Moved (C1 :: [I1]) (GenOnlyQ g1) s s') (hg : g ≠ g1) (hk : ∀ b ∈ [ga, C, I, la, cb, cStatics], b ≠ C1 ∧ b ≠ I1) : GenOf prog w A ga g C I la cb n xs xb j s' :=
  x.move (gensQ_other mv.gens hg) fun b hb o e => mv.heap b o (fun hm => by
    rcases List.mem_cons.mp hm with q | hm
    · exact (hk b hb).1 q
    · exact (hk b hb).2 (List.mem_singleton.mp hm)) e

theorem sumprod_gens (hh : A.handled = none) (hroom : A.depth < recursionLimit) (G1 : GenOf prog w A.in1 a1 g1 C1 I1 l1 c1 n xs xb 0 s) (G2 : GenOf prog w A.in1 a2 g2 C2 I2 l2 c2 n ys yb 0 s) (B : Beside g₀ L m led s.os s.drawn s)
    (hg : g1 ≠ g2) (h1 : L < I1) (h2 : I1 < C1) (h3 : C1 < a1) (h4 : a1 < I2) (h5 : I2 < C2) (h6 : C2 < a2) (hl : ∀ q ∈ led, q.1 < I1) (b1 : l1 < I1) (b2 : c1 < I1) (b3 : l2 < I1) (b4 : c2 < I1) (b5 : cStatics < I1)
    (hn : 0 < n) (hfin : ∀ i, i < n → Float64.isFinite (tlAt (fun i => Float64.sub (Float64.ofInt (xs.getD i 0)) xb) (fun i => Float64.sub (Float64.ofInt (ys.getD i 0)) yb) (i + 1)).1 = true)
    (hQ : ∀ s' t, Beside g₀ L m led s.os s.drawn s' → Q (.float (Float64.add (Float64.ofInt 0) (tlToFloat (tlAt (fun i => Float64.sub (Float64.ofInt (xs.getD i 0)) xb) (fun i => Float64.sub (Float64.ofInt (ys.getD i 0)) yb) n))) t) s') :
    wpAny (model prog w) A (call (.builtin "math.sumprod") [.ref a1, .ref a2]) Q E s := by
  have c5 : cStatics < I2 := Nat.lt_trans b5 (by omega)
  have hh' : A.in1.handled = none := hh
  have hroom' : A.in1.depth < recursionLimit := hroom
  have mem1 : ∀ b ∈ [a1, C1, I1, l1, c1, cStatics], b ≠ C2 ∧ b ≠ I2 := fun b hb => by
    have e : ∀ z : Nat, z < I2 → z ≠ C2 ∧ z ≠ I2 := fun z hz => ⟨by omega, by omega⟩
    simp only [List.mem_cons, List.not_mem_nil, or_false] at hb
    rcases hb with rfl | rfl | rfl | rfl | rfl | rfl
    · exact e _ h4
    · exact e _ (by omega)
    · exact e _ (by omega)
    · exact e _ (by omega)
    · exact e _ (by omega)
    · exact e _ c5
  have mem2 : ∀ b ∈ [a2, C2, I2, l2, c2, cStatics], b ≠ C1 ∧ b ≠ I1 := fun b hb => by
    have e : ∀ z : Nat, C1 < z → z ≠ C1 ∧ z ≠ I1 := fun z hz => ⟨by omega, by omega⟩
    have e' : ∀ z : Nat, z < I1 → z ≠ C1 ∧ z ≠ I1 := fun z hz => ⟨by omega, by omega⟩
    simp only [List.mem_cons, List.not_mem_nil, or_false] at hb
    rcases hb with rfl | rfl | rfl | rfl | rfl | rfl
    · exact e _ (by omega)
    · exact e _ (by omega)
    · exact e _ (by omega)
    · exact e' _ b3
    · exact e' _ b4
    · exact e' _ b5
  have hl2 : ∀ q ∈ led, q.1 < I2 := fun q hq => Nat.lt_trans (hl q hq) (by omega)
  have W : TwoSrc prog w A.in1 a1 a2 n (fun i => Float64.sub (Float64.ofInt (xs.getD i 0)) xb) (fun i => Float64.sub (Float64.ofInt (ys.getD i 0)) yb)
      (fun i j a o s₁ => GenOf prog w A.in1 a1 g1 C1 I1 l1 c1 n xs xb i s₁ ∧ GenOf prog w A.in1 a2 g2 C2 I2 l2 c2 n ys yb j s₁ ∧ s₁.heap.get? a = some o ∧ a2 < a ∧ Beside g₀ L m led s.os s.drawn s₁) (Beside g₀ L m led s.os s.drawn) := by
    refine ⟨?_, ?_, ?_, ?_, ?_, ?_⟩
    · intro i a o s₁ Q₁ E₁ hi ⟨x1, x2, x3, x4, x5⟩ hk
      refine GenOf.next (L := L) hh' hroom' h1 h2 h3 b1 b2 b5 x1 hi fun s' t y mv => hk s' t ⟨y, x2.other mv (Ne.symm hg) mem2, mv.heap _ _ (fun hm => ?_) x3, x4, x5.moved mv h1 h2 hl⟩
      rcases List.mem_cons.mp hm with q | hm
      · rw [q] at x4; exact absurd x4 (by omega)
      · rw [List.mem_singleton.mp hm] at x4; exact absurd x4 (by omega)
    · intro i a o s₁ Q₁ E₁ hi ⟨x1, x2, x3, x4, x5⟩ hk
      refine GenOf.next (L := L) hh' hroom' (Nat.lt_trans h1 (by omega)) h5 h6 (by omega) (by omega) c5 x2 hi fun s' t y mv => hk s' t ⟨x1.other mv hg mem1, y, mv.heap _ _ (fun hm => ?_) x3, x4, x5.moved mv (Nat.lt_trans h1 (by omega)) h5 hl2⟩
      rcases List.mem_cons.mp hm with q | hm
      · rw [q] at x4; exact absurd x4 (by omega)
      · rw [List.mem_singleton.mp hm] at x4; exact absurd x4 (by omega)
    · intro a o s₁ Q₁ E₁ ⟨x1, x2, x3, x4, x5⟩ hk
      refine GenOf.stop (L := L) hh' hroom' h1 h2 h3 b1 b2 b5 x1 fun s' mv => hk s' fun Q' E' hQ' => ?_
      exact GenOf.stop (L := L) hh' hroom' (Nat.lt_trans h1 (by omega)) h5 h6 (by omega) (by omega) c5 (x2.other mv (Ne.symm hg) mem2) fun s'' mv' => hQ' s'' ((x5.moved mv h1 h2 hl).moved mv' (Nat.lt_trans h1 (by omega)) h5 hl2)
    · intro i j a o s₁ x
      exact x.2.2.1
    · intro i a o v s₁ k ⟨x1, x2, x3, x4, x5⟩
      have kp : ∀ b o', s₁.heap.get? b = some o' → (s₁.heap.push (tlObj v)).get? b = some o' := fun b o' e => Heap.get?_push_of_some _ e
      refine ⟨x1.move rfl fun b _ o' e => kp b o' e, x2.move rfl fun b _ o' e => kp b o' e, Heap.get?_push_size _ rfl, ?_, ⟨x5.fr.keeps kp, fun q hq => ⟨kp _ _ (x5.news q hq).1, (x5.news q hq).2⟩, x5.bare, x5.os, x5.drawn⟩⟩
      obtain ⟨⟨og, nm, qn, hog, _⟩, _⟩ := x2
      exact Heap.lt_size hog
    · intro s₁ k x
      exact ⟨x.fr, x.news, x.bare, x.os, x.drawn⟩
  refine call_sumprod hn hfin ?_
  refine (GenOf.walks (g := g1) (n := n) (xs := xs) (xb := xb) hh' hroom' h1 h2 h3 b1 b2 b5).self 0 _ _ _ G1 ?_
  refine (GenOf.walks (g := g2) (n := n) (xs := ys) (xb := yb) (L := L) hh' hroom' (Nat.lt_trans h1 (by omega)) h5 h6 (by omega) (by omega) c5).self 0 _ _ _ G2 ?_
  refine ⟨a1, a2, _, _, rfl, rfl, W, fun k => ?_, fun s' t hF => hQ s' t hF⟩
  have kp : ∀ b o', s.heap.get? b = some o' → (s.heap.push (tlObj tlZero)).get? b = some o' := fun b o' e => Heap.get?_push_of_some _ e
  refine ⟨G1.move rfl fun b _ o' e => kp b o' e, G2.move rfl fun b _ o' e => kp b o' e, Heap.get?_push_size _ rfl, ?_, ⟨B.fr.keeps kp, fun q hq => ⟨kp _ _ (B.news q hq).1, (B.news q hq).2⟩, B.bare, B.os, B.drawn⟩⟩
  obtain ⟨⟨og, nm, qn, hog, _⟩, _⟩ := G2
  exact Heap.lt_size hog
end
end Mine
end
section
open PySem.Calls PySem.Spec
namespace Mine
open PySem.Builtin.Math
theorem tl_congr {x y x' y' : Nat → UInt64} {n : Nat} (hx : ∀ i, i < n → x i = x' i) (hy : ∀ i, i < n → y i = y' i) : ∀ i, i ≤ n → tlAt x y i = tlAt x' y' i
  | 0, _ => rfl
  | i + 1, hi => by
    unfold tlAt
    rw [tl_congr hx hy i (by omega), hx i (by omega), hy i (by omega)]
theorem dev_at {c : Int} {xs : List Int} (hc : c = 4 ∨ c = 8) (hb : Bits xs) (hl : (xs.length : Int) = c) (i : Nat) (hi : i < xs.length) :
    Float64.sub (Float64.ofInt (xs.getD i 0)) (Float64.div (Float64.ofInt xs.sum) (Float64.ofInt c)) = (dk8 (devs c xs)).getD i 0 := by
  have h1 := bits_sum_le hb
  have e : xs.getD i 0 = xs[i] := by rw [List.getD_eq_getElem?_getD, List.getElem?_eq_getElem hi]; rfl
  rw [e, dev_is hc (by omega) (hb _ (List.getElem_mem hi))]
  unfold devs
  rw [List.getD_eq_getElem?_getD, List.getElem?_map, List.getElem?_map, List.getElem?_eq_getElem hi]
  rfl
section
variable {prog : Program} {w : World} {A : Around} {E : Value → Shared → Prop} {s : Shared} {g₀ : Heap} {L : Addr} {m : Str → Option Value} {led : List (Addr × Obj)} {Q : Value → Shared → Prop}
  {g1 C1 I1 a1 l1 c1 g2 C2 I2 a2 l2 c2 n : Nat} {xs ys : List Int} {c : Int}
theorem sumprod_gens_dk (hc : c = 4 ∨ c = 8) (hbx : Bits xs) (hby : Bits ys) (hlx : (xs.length : Int) = c) (hly : (ys.length : Int) = c) (hh : A.handled = none) (hroom : A.depth < recursionLimit)
    (G1 : GenOf prog w A.in1 a1 g1 C1 I1 l1 c1 n xs (Float64.div (Float64.ofInt xs.sum) (Float64.ofInt c)) 0 s) (G2 : GenOf prog w A.in1 a2 g2 C2 I2 l2 c2 n ys (Float64.div (Float64.ofInt ys.sum) (Float64.ofInt c)) 0 s) (B : Beside g₀ L m led s.os s.drawn s)
    (hg : g1 ≠ g2) (h1 : L < I1) (h2 : I1 < C1) (h3 : C1 < a1) (h4 : a1 < I2) (h5 : I2 < C2) (h6 : C2 < a2) (hl : ∀ q ∈ led, q.1 < I1) (b1 : l1 < I1) (b2 : c1 < I1) (b3 : l2 < I1) (b4 : c2 < I1) (b5 : cStatics < I1) (hn : (n : Int) = c)
    (hQ : ∀ s' t, Beside g₀ L m led s.os s.drawn s' → Q (.float (DK (dot (devs c xs) (devs c ys))) t) s') :
    wpAny (model prog w) A (call (.builtin "math.sumprod") [.ref a1, .ref a2]) Q E s := by
  have s1 := devs_small hc hbx hlx
  have s2 := devs_small hc hby hly
  have n1 : n = xs.length := by omega
  have n2 : n = ys.length := by omega
  have hl' : (devs c xs).length = (devs c ys).length := by rw [devs_len, devs_len]; omega
  have hn8 : (devs c xs).length ≤ 8 := by rw [devs_len]; omega
  have dl : (dk8 (devs c xs)).length = n := by rw [List.length_map, devs_len]; exact n1.symm
  have cg : ∀ i, i ≤ n → tlAt (fun i => Float64.sub (Float64.ofInt (xs.getD i 0)) (Float64.div (Float64.ofInt xs.sum) (Float64.ofInt c))) (fun i => Float64.sub (Float64.ofInt (ys.getD i 0)) (Float64.div (Float64.ofInt ys.sum) (Float64.ofInt c))) i
      = tlAt (fun i => (dk8 (devs c xs)).getD i 0) (fun i => (dk8 (devs c ys)).getD i 0) i := fun i hi =>
    tl_congr (n := n) (fun j hj => dev_at hc hbx hlx j (by omega)) (fun j hj => dev_at hc hby hly j (by omega)) i hi
  refine sumprod_gens hh hroom G1 G2 B hg h1 h2 h3 h4 h5 h6 hl b1 b2 b3 b4 b5 (by omega) (fun i hi => ?_) fun s' t hB => ?_
  · rw [cg (i + 1) hi]
    exact tl_finite s1 s2 hl' hn8 i (by rw [dl]; exact hi)
  · rw [cg n (Nat.le_refl _)]
    have v := tl_value s1 s2 hl' hn8
    rw [dl] at v
    rw [v]
    exact hQ s' t hB
end
end Mine
end
section
open PySem.Calls PySem.Spec
namespace Mine
open PySem.Builtin.Math
section
local macro_rules | `(tactic| k_all) => `(tactic| first | with_reducible assumption | exact offs_lt (by with_reducible assumption) (by omega))
local macro_rules | `(tactic| k_mem) => `(tactic| first | with_reducible assumption | exact List.mem_cons_self | (refine' List.mem_cons_of_mem _ ?_; k_mem))

theorem allLt_all {d : Addr} (l : List (Addr × Obj)) : AllLt d l → ∀ q ∈ l, q.1 < d := by
  induction l with
  | nil => intro _ q hq; cases hq
  | cons x r ih =>
    intro h q hq
    rcases List.mem_cons.mp hq with e | hq
    · rw [e]; exact h.1
    · exact ih h.2 q hq
theorem cov_spec4
 {w : World} {dp un : Nat} {gd : Option (List Code)} {cn : Str} {cs : Scope} {a : Addr} {ccd : Value} {cl : List (Str × Addr)} {outer : List Env} {A₀ : Around} {base h₀ : Heap} {L : Addr} {m : Str → Option Value} {rest : List (Addr × Obj)} {ps : Array Value} {s : Shared}
    {Q E : Value → Shared → Prop} {p : Program} {loose : List Str} {mean : ExcName → Option Value} {mg mb : Str → Option Value}
    (B : Below A₀ base outer h₀) (F : Fr h₀ L s.heap m) (X : (Mine.frag w.params).In h₀) (N : News h₀ L s.heap ((287, tabObj ps) :: rest)) (T : Top p loose mean mg mb h₀) (hk : cs.kind = .function)
    (hdp : dp + 4 < recursionLimit) (hun : un + 40 < cLine)
    {xa ya : Addr} {vx vy : List Value} {nx ny : Nat} {xs ys : List Int} (hxa : (xa, lstO vx nx) ∈ rest) (hya : (ya, lstO vy ny) ∈ rest) (hx : IntsAre vx xs) (hy : IntsAre vy ys) (hbx : Bits xs) (hby : Bits ys)
    (hnx : (xs.length : Int) = 4) (hny : (ys.length : Int) = 4) (hPr : ∀ q ∈ rest, q.1 ≠ 287) (ht : TriplesOk ps.toList) (GB : AllBare s.gens)
    (ret : ∀ s' t ps', TriplesOk ps'.toList → AllBare s'.gens → s'.os = s.os → s'.drawn = s.drawn → Fr h₀ L s'.heap m → News h₀ L s'.heap ((287, tabObj ps') :: rest) → Q (.float (Float64.div (DK (dot (devs 4 xs) (devs 4 ys))) (Float64.ofInt 3)) t) s') :
    wpAny (model PySem.Challenge.rw_ik0222_01.row.prog w) (ktrTop dp un gd cn cs L a ccd cl outer) (call (.ref 292) [.ref xa, .ref ya]) Q E s := by
  k_with_none
  k_with "call builtin:math.fsum" => w_strict (k_here; (with_reducible show wpAny _ _ (call (Value.builtin "math.fsum") [Value.ref _]) _ _ _); k_dflt (refine' fsum_led (s := ⟨_, _, _, _, _⟩) ?hw34 ?Fw34 ?Nw34 ?lw34 ?xw34 ?bw34 ?nw34 ?_; (case hw34 => first | exact rfl | assumption); (case Fw34 => k_asm); (case Nw34 => k_asm); (case lw34 => k_mem); (case xw34 => with_reducible assumption); (case bw34 => with_reducible assumption); (case nw34 => first | with_reducible assumption | omega); k_whole); intro _ _ _ _ _; (try k_sweep))
  k_with "call builtin:len" => w_strict (k_here; (with_reducible show wpAny _ _ (call (Value.builtin "len") [Value.ref _]) _ _ _); k_dflt (refine' len_ints ?Nw35 ?mw35 ?aw35 ?bw35 ?_; (case Nw35 => k_asm); (case mw35 => k_mem); (case aw35 => with_reducible assumption); (case bw35 => first | assumption | omega); k_whole); intro _ _)
  k_with "call builtin:len" => w_strict (k_here; (with_reducible show wpAny _ _ (call (Value.builtin "len") [Value.ref _]) _ _ _); k_dflt (refine' len_intsN ?Nw36 ?mw36 ?aw36 ?cw36 ?bw36 ?_; (case Nw36 => k_asm); (case mw36 => k_mem); (case aw36 => with_reducible assumption); (case cw36 => with_reducible assumption); (case bw36 => decide); k_whole); intro _ _)
  k_with "eval GeneratorExp" => w_strict (k_here; refine Halt.go ?_)
  k_with "call builtin:math.sumprod" => w_strict (k_here; refine Halt.go ?_)
  revert X; k_fill; intro X
  refine wpAny_call ?_
  have hvx : vx.length ≤ 8 := by have := hx.length; omega
  have hvy : vy.length ≤ 8 := by have := hy.length; omega
  have hsx := bits_sum_le hbx
  have hsy := bits_sum_le hby
  k_dflt (refine' code_defC ?k1 ?k2 ?k3 ?k4 ?k5 ?kA ?kF ?kK ?k6 ?k7 ?k8 ?k9 ?kB ?kD ?_ ?c2 ?c3 ?c4; (case kA => exact rfl); (case kF => exact rfl); (case kK => first | exact rfl | assumption); (case k1 => k_asm); (case k2 => k_asm); (case k3 => k_asm); (case k4 => k_asm); (case k5 => k_asm); (case k6 => k_is); (case k7 => k_is); (case k8 => ktr_room); (case k9 => exact BindsTo.of_eq rfl); (case kB => exact rfl); (case kD => decide +kernel); (case c2 => exact rfl); (case c3 => exact rfl); (case c4 => exact rfl); k_whole; intro g' L' h' tk' cells' FG' F' N' Y' B' X' T' l1; (try k_lt l1); k_cells Y'; (try simp only [List.cons_append, List.nil_append] at N'); (try dsimp only); (try k_fold))
  obtain ⟨l3, l4⟩ := l1
  have l2 : ∀ q ∈ rest, q.1 < L' := allLt_all _ l4
  clear l4
  have l3' : @LT.lt Nat _ 287 L' := l3
  k_steps
  refine Halt.on ?_
  (rename Fr _ _ _ _ => F1)
  (rename News _ _ _ _ => N1)
  (rename (_ = Data.cell (some (Value.float (Float64.div (Float64.ofInt xs.sum) _) _))) => dX)
  (rename (_ = Data.cell (some (Value.float (Float64.div (Float64.ofInt ys.sum) _) _))) => dY)
  have Cd : CodeHd g' 291 287 := ⟨_, _, _, _, _, _, _, _, _, X' 291 _ rfl, rfl, rfl, rfl, rfl, rfl, rfl, rfl, rfl, by decide⟩
  rename_i oX _ _ _ _ _ _ _ oY
  have N2 : News g' L' _ ((287, tabObj ps) :: (L' + 1 + 1, oY) :: (L' + 1, oX) :: rest) := fun q hq => N1 q (by
    simp only [List.mem_cons] at hq ⊢
    rcases hq with h | h | h | h
    · exact .inr (.inr (.inl h))
    · exact .inl h
    · exact .inr (.inl h)
    · exact .inr (.inr (.inr h)))
  have hPl : ∀ q ∈ (L' + 1 + 1, oY) :: (L' + 1, oX) :: rest, q.1 ≠ 287 := List.forall_mem_cons.mpr ⟨Nat.ne_of_gt (Nat.lt_succ_of_lt (Nat.lt_succ_of_lt l3')), List.forall_mem_cons.mpr ⟨Nat.ne_of_gt (Nat.lt_succ_of_lt l3'), hPr⟩⟩
  k_dflt (refine' gen_make (s := ⟨_, _, _, _, _⟩) ?hh ?room F1 N2 hPl T' Cd rfl ht GB (.tail _ (.tail _ hxa)) (.tail _ (.head _)) dX ?hm hx hbx ?_ ?hk ?hix ?hixd ?hclos ?hco ?hcell ?h0 ?hx ?hy ?hkind ?hyc ?hxd ?hyd; (case hh => rfl); (case room => ktr_room); (case hm => rfl); (case hk => rfl); (case hix => rfl); (case hixd => decide); (case hclos => with_unfolding_all rfl); (case hco => rfl); (case hcell => decide); (case h0 => rfl); (case hx => rfl); (case hy => rfl); (case hkind => rfl); (case hyc => decide); (case hxd => decide); (case hyd => decide); k_whole)
  intro a1 C1 I1 h1 tk1 ps1 gs1 ht1 F3 N3 GB1 K1 b1 b2 b3 b4 G1
  k_steps
  refine Halt.on ?_
  k_dflt (refine' gen_make (s := ⟨_, _, _, _, _⟩) ?hh ?room F3 N3 hPl T' Cd rfl ht1 GB1 (.tail _ (.tail _ hya)) (.head _) dY ?hm hy hby ?_ ?hk ?hix ?hixd ?hclos ?hco ?hcell ?h0 ?hx ?hy ?hkind ?hyc ?hxd ?hyd; (case hh => rfl); (case room => ktr_room); (case hm => rfl); (case hk => rfl); (case hix => rfl); (case hixd => decide); (case hclos => with_unfolding_all rfl); (case hco => rfl); (case hcell => decide); (case h0 => rfl); (case hx => rfl); (case hy => rfl); (case hkind => rfl); (case hyc => decide); (case hxd => decide); (case hyd => decide); k_whole)
  intro a2 C2 I2 h2 tk2 ps2 gs2 ht2 F4 N4 GB2 K2 e1 e2 e3 e4 G2
  k_steps
  refine Halt.on ?_
  have e0 : vy.length = vx.length := by have := hx.length; have := hy.length; omega
  rw [e0] at G2
  dsimp only at b1 e1
  have low : ∀ q ∈ ((287, tabObj ps) :: (L' + 1 + 1, oY) :: (L' + 1, oX) :: rest), q.1 < I1 := fun q hq => Nat.lt_of_lt_of_le (Heap.lt_size (N2 q hq).1) b1
  have hLI : L' < I1 := Nat.lt_of_lt_of_le F1.ns.lt b1
  have hcs : cStatics < I1 := Nat.lt_of_lt_of_le (show cStatics < _ from let ⟨_, hn, _⟩ := T'.nolimit.keeps F1.keep; hn.lt) b1
  have hxI : xa < I1 := low _ (.tail _ (.tail _ (.tail _ hxa)))
  have hyI : ya < I1 := low _ (.tail _ (.tail _ (.tail _ hya)))
  have h287 : (287 : Nat) < I1 := low _ (.head _)
  have hne : ∀ b ∈ [a1, C1, I1, xa, L' + 1, cStatics], b ≠ 287 := fun b hb => by
    have z : ∀ b : Nat, I1 ≤ b → b ≠ 287 := fun b hb => by omega
    simp only [List.mem_cons, List.not_mem_nil, or_false] at hb
    rcases hb with h | h | h | h | h | h
    · rw [h]; exact z _ (by omega)
    · rw [h]; exact z _ (by omega)
    · rw [h]; exact z _ (by omega)
    · rw [h]; exact hPr _ hxa
    · rw [h]; exact Nat.ne_of_gt (Nat.lt_succ_of_lt l3')
    · rw [h]; decide
  obtain ⟨G1', hgl⟩ := GenOf.push (P := 287) (gs := gs2) (s' := ⟨h2, _, s.drawn, tk2, s.os⟩) G1 rfl K2 hne
  k_dflt (refine' sumprod_gens_dk (s := ⟨_, _, _, _, _⟩) (.inl rfl) hbx hby hnx hny ?hh ?room G1' G2 ⟨F4, N4, GB2, rfl, rfl⟩ (Nat.ne_of_lt hgl) hLI b2 b3 (Nat.lt_of_lt_of_le b4 e1) e2 e3 (List.forall_mem_cons.mpr ⟨h287, fun q hq => low q (.tail _ hq)⟩) hxI (low _ (.tail _ (.tail _ (.head _)))) hyI (low _ (.tail _ (.head _))) hcs ?hn ?_; (case hh => rfl); (case room => ktr_room); (case hn => have := hx.length; omega); k_whole)
  intro s5 t5 hB
  obtain ⟨F5, N5, GB5, os5, dr5⟩ := hB
  clear F1 N1 N2 F3 N3 F4 N4 GB1 GB2 G1 G1' G2 K1 K2 low hne hgl
  k_steps
  exact ret _ _ ps2 ht2 GB5 os5 dr5 (by with_reducible assumption) (fun q hq => (by assumption : News h₀ L _ _) q (by
    rcases List.mem_cons.mp hq with h | h
    · rw [h]; exact .head _
    · exact .tail _ (.tail _ (.tail _ h))))

theorem cov_spec8
 {w : World} {dp un : Nat} {gd : Option (List Code)} {cn : Str} {cs : Scope} {a : Addr} {ccd : Value} {cl : List (Str × Addr)} {outer : List Env} {A₀ : Around} {base h₀ : Heap} {L : Addr} {m : Str → Option Value} {rest : List (Addr × Obj)} {ps : Array Value} {s : Shared}
    {Q E : Value → Shared → Prop} {p : Program} {loose : List Str} {mean : ExcName → Option Value} {mg mb : Str → Option Value}
    (B : Below A₀ base outer h₀) (F : Fr h₀ L s.heap m) (X : (Mine.frag w.params).In h₀) (N : News h₀ L s.heap ((287, tabObj ps) :: rest)) (T : Top p loose mean mg mb h₀) (hk : cs.kind = .function)
    (hdp : dp + 4 < recursionLimit) (hun : un + 40 < cLine)
    {xa ya : Addr} {vx vy : List Value} {nx ny : Nat} {xs ys : List Int} (hxa : (xa, lstO vx nx) ∈ rest) (hya : (ya, lstO vy ny) ∈ rest) (hx : IntsAre vx xs) (hy : IntsAre vy ys) (hbx : Bits xs) (hby : Bits ys)
    (hnx : (xs.length : Int) = 8) (hny : (ys.length : Int) = 8) (hPr : ∀ q ∈ rest, q.1 ≠ 287) (ht : TriplesOk ps.toList) (GB : AllBare s.gens)
    (ret : ∀ s' t ps', TriplesOk ps'.toList → AllBare s'.gens → s'.os = s.os → s'.drawn = s.drawn → Fr h₀ L s'.heap m → News h₀ L s'.heap ((287, tabObj ps') :: rest) → Q (.float (Float64.div (DK (dot (devs 8 xs) (devs 8 ys))) (Float64.ofInt 7)) t) s') :
    wpAny (model PySem.Challenge.rw_ik0222_01.row.prog w) (ktrTop dp un gd cn cs L a ccd cl outer) (call (.ref 292) [.ref xa, .ref ya]) Q E s := by
  k_with_none
  k_with "call builtin:math.fsum" => w_strict (k_here; (with_reducible show wpAny _ _ (call (Value.builtin "math.fsum") [Value.ref _]) _ _ _); k_dflt (refine' fsum_led (s := ⟨_, _, _, _, _⟩) ?hw39 ?Fw39 ?Nw39 ?lw39 ?xw39 ?bw39 ?nw39 ?_; (case hw39 => first | exact rfl | assumption); (case Fw39 => k_asm); (case Nw39 => k_asm); (case lw39 => k_mem); (case xw39 => with_reducible assumption); (case bw39 => with_reducible assumption); (case nw39 => first | with_reducible assumption | omega); k_whole); intro _ _ _ _ _; (try k_sweep))
  k_with "call builtin:len" => w_strict (k_here; (with_reducible show wpAny _ _ (call (Value.builtin "len") [Value.ref _]) _ _ _); k_dflt (refine' len_ints ?Nw40 ?mw40 ?aw40 ?bw40 ?_; (case Nw40 => k_asm); (case mw40 => k_mem); (case aw40 => with_reducible assumption); (case bw40 => first | assumption | omega); k_whole); intro _ _)
  k_with "call builtin:len" => w_strict (k_here; (with_reducible show wpAny _ _ (call (Value.builtin "len") [Value.ref _]) _ _ _); k_dflt (refine' len_intsN ?Nw41 ?mw41 ?aw41 ?cw41 ?bw41 ?_; (case Nw41 => k_asm); (case mw41 => k_mem); (case aw41 => with_reducible assumption); (case cw41 => with_reducible assumption); (case bw41 => decide); k_whole); intro _ _)
  k_with "eval GeneratorExp" => w_strict (k_here; refine Halt.go ?_)
  k_with "call builtin:math.sumprod" => w_strict (k_here; refine Halt.go ?_)
  revert X; k_fill; intro X
  refine wpAny_call ?_
  have hvx : vx.length ≤ 8 := by have := hx.length; omega
  have hvy : vy.length ≤ 8 := by have := hy.length; omega
  have hsx := bits_sum_le hbx
  have hsy := bits_sum_le hby
  k_dflt (refine' code_defC ?k1 ?k2 ?k3 ?k4 ?k5 ?kA ?kF ?kK ?k6 ?k7 ?k8 ?k9 ?kB ?kD ?_ ?c2 ?c3 ?c4; (case kA => exact rfl); (case kF => exact rfl); (case kK => first | exact rfl | assumption); (case k1 => k_asm); (case k2 => k_asm); (case k3 => k_asm); (case k4 => k_asm); (case k5 => k_asm); (case k6 => k_is); (case k7 => k_is); (case k8 => ktr_room); (case k9 => exact BindsTo.of_eq rfl); (case kB => exact rfl); (case kD => decide +kernel); (case c2 => exact rfl); (case c3 => exact rfl); (case c4 => exact rfl); k_whole; intro g' L' h' tk' cells' FG' F' N' Y' B' X' T' l1; (try k_lt l1); k_cells Y'; (try simp only [List.cons_append, List.nil_append] at N'); (try dsimp only); (try k_fold))
  obtain ⟨l3, l4⟩ := l1
  have l2 : ∀ q ∈ rest, q.1 < L' := allLt_all _ l4
  clear l4
  have l3' : @LT.lt Nat _ 287 L' := l3
  k_steps
  refine Halt.on ?_
  (rename Fr _ _ _ _ => F1)
  (rename News _ _ _ _ => N1)
  (rename (_ = Data.cell (some (Value.float (Float64.div (Float64.ofInt xs.sum) _) _))) => dX)
  (rename (_ = Data.cell (some (Value.float (Float64.div (Float64.ofInt ys.sum) _) _))) => dY)
  have Cd : CodeHd g' 291 287 := ⟨_, _, _, _, _, _, _, _, _, X' 291 _ rfl, rfl, rfl, rfl, rfl, rfl, rfl, rfl, rfl, by decide⟩
  rename_i oX _ _ _ _ _ _ _ oY
  have N2 : News g' L' _ ((287, tabObj ps) :: (L' + 1 + 1, oY) :: (L' + 1, oX) :: rest) := fun q hq => N1 q (by
    simp only [List.mem_cons] at hq ⊢
    rcases hq with h | h | h | h
    · exact .inr (.inr (.inl h))
    · exact .inl h
    · exact .inr (.inl h)
    · exact .inr (.inr (.inr h)))
  have hPl : ∀ q ∈ (L' + 1 + 1, oY) :: (L' + 1, oX) :: rest, q.1 ≠ 287 := List.forall_mem_cons.mpr ⟨Nat.ne_of_gt (Nat.lt_succ_of_lt (Nat.lt_succ_of_lt l3')), List.forall_mem_cons.mpr ⟨Nat.ne_of_gt (Nat.lt_succ_of_lt l3'), hPr⟩⟩
  k_dflt (refine' gen_make (s := ⟨_, _, _, _, _⟩) ?hh ?room F1 N2 hPl T' Cd rfl ht GB (.tail _ (.tail _ hxa)) (.tail _ (.head _)) dX ?hm hx hbx ?_ ?hk ?hix ?hixd ?hclos ?hco ?hcell ?h0 ?hx ?hy ?hkind ?hyc ?hxd ?hyd; (case hh => rfl); (case room => ktr_room); (case hm => rfl); (case hk => rfl); (case hix => rfl); (case hixd => decide); (case hclos => with_unfolding_all rfl); (case hco => rfl); (case hcell => decide); (case h0 => rfl); (case hx => rfl); (case hy => rfl); (case hkind => rfl); (case hyc => decide); (case hxd => decide); (case hyd => decide); k_whole)
  intro a1 C1 I1 h1 tk1 ps1 gs1 ht1 F3 N3 GB1 K1 b1 b2 b3 b4 G1
  k_steps
  refine Halt.on ?_
  k_dflt (refine' gen_make (s := ⟨_, _, _, _, _⟩) ?hh ?room F3 N3 hPl T' Cd rfl ht1 GB1 (.tail _ (.tail _ hya)) (.head _) dY ?hm hy hby ?_ ?hk ?hix ?hixd ?hclos ?hco ?hcell ?h0 ?hx ?hy ?hkind ?hyc ?hxd ?hyd; (case hh => rfl); (case room => ktr_room); (case hm => rfl); (case hk => rfl); (case hix => rfl); (case hixd => decide); (case hclos => with_unfolding_all rfl); (case hco => rfl); (case hcell => decide); (case h0 => rfl); (case hx => rfl); (case hy => rfl); (case hkind => rfl); (case hyc => decide); (case hxd => decide); (case hyd => decide); k_whole)
  intro a2 C2 I2 h2 tk2 ps2 gs2 ht2 F4 N4 GB2 K2 e1 e2 e3 e4 G2
  k_steps
  refine Halt.on ?_
  have e0 : vy.length = vx.length := by have := hx.length; have := hy.length; omega
  rw [e0] at G2
  dsimp only at b1 e1
  have low : ∀ q ∈ ((287, tabObj ps) :: (L' + 1 + 1, oY) :: (L' + 1, oX) :: rest), q.1 < I1 := fun q hq => Nat.lt_of_lt_of_le (Heap.lt_size (N2 q hq).1) b1
  have hLI : L' < I1 := Nat.lt_of_lt_of_le F1.ns.lt b1
  have hcs : cStatics < I1 := Nat.lt_of_lt_of_le (show cStatics < _ from let ⟨_, hn, _⟩ := T'.nolimit.keeps F1.keep; hn.lt) b1
  have hxI : xa < I1 := low _ (.tail _ (.tail _ (.tail _ hxa)))
  have hyI : ya < I1 := low _ (.tail _ (.tail _ (.tail _ hya)))
  have h287 : (287 : Nat) < I1 := low _ (.head _)
  have hne : ∀ b ∈ [a1, C1, I1, xa, L' + 1, cStatics], b ≠ 287 := fun b hb => by
    have z : ∀ b : Nat, I1 ≤ b → b ≠ 287 := fun b hb => by omega
    simp only [List.mem_cons, List.not_mem_nil, or_false] at hb
    rcases hb with h | h | h | h | h | h
    · rw [h]; exact z _ (by omega)
    · rw [h]; exact z _ (by omega)
    · rw [h]; exact z _ (by omega)
    · rw [h]; exact hPr _ hxa
    · rw [h]; exact Nat.ne_of_gt (Nat.lt_succ_of_lt l3')
    · rw [h]; decide
  obtain ⟨G1', hgl⟩ := GenOf.push (P := 287) (gs := gs2) (s' := ⟨h2, _, s.drawn, tk2, s.os⟩) G1 rfl K2 hne
  k_dflt (refine' sumprod_gens_dk (s := ⟨_, _, _, _, _⟩) (.inr rfl) hbx hby hnx hny ?hh ?room G1' G2 ⟨F4, N4, GB2, rfl, rfl⟩ (Nat.ne_of_lt hgl) hLI b2 b3 (Nat.lt_of_lt_of_le b4 e1) e2 e3 (List.forall_mem_cons.mpr ⟨h287, fun q hq => low q (.tail _ hq)⟩) hxI (low _ (.tail _ (.tail _ (.head _)))) hyI (low _ (.tail _ (.head _))) hcs ?hn ?_; (case hh => rfl); (case room => ktr_room); (case hn => have := hx.length; omega); k_whole)
  intro s5 t5 hB
  obtain ⟨F5, N5, GB5, os5, dr5⟩ := hB
  clear F1 N1 N2 F3 N3 F4 N4 GB1 GB2 G1 G1' G2 K1 K2 low hne hgl
  k_steps
  exact ret _ _ ps2 ht2 GB5 os5 dr5 (by with_reducible assumption) (fun q hq => (by assumption : News h₀ L _ _) q (by
    rcases List.mem_cons.mp hq with h | h
    · rw [h]; exact .head _
    · exact .tail _ (.tail _ (.tail _ h))))

end
end Mine
end
section
open PySem.Calls PySem.Spec
namespace Mine
abbrev setE (led : Bool) : Obj := { cls := .type "set", dict := none, data := .set #[] 0 (.fresh 0 0 led) }
abbrev tabT (led : Bool) : SetTable := { mask := 7, place := #[1], dummies := #[], finger := 0, led := led, moves := 0, plain := true }
abbrev setT (led : Bool) : Obj := { cls := .type "set", dict := none, data := .set #[(1, .bool true)] 1 (tabT led) }
theorem lay_true (led : Bool) : layNew (.fresh 0 0 led) #[] 1 (.bool true) = (#[(1, .bool true)], tabT led, false, false) := by cases led <;> rfl
section
variable {prog : Program} {w : World} {A : Around} {E : Value → Shared → Prop} {s : Shared}
theorem slot_bool_hash : Slot "bool" "__hash__" "int.__hash__" :=
  .of (owner := "int") (n := "__hash__") (by rw [typeLookup_type, builtinLookup_eq_fast]; kernel_rfl) (by decide +kernel) (by decide +kernel) (by decide +kernel)
    (by first | exact .inl (by decide +kernel) | exact .inr (by decide +kernel)) (by rw [isSubtype_type]; kernel_rfl)
theorem typeIs_bool' (s : Shared) (b : Bool) : s.TypeIs (.bool b) "bool" := by first | exact typeIs_bool s b | rfl
theorem int_hash_true {Q : Int → Tok → Shared → Prop} (h : ∀ t k, Q 1 t { s with toks := k }) : wpAny (model prog w) A (Builtin.«int.__hash__» ⟨[.bool true], []⟩) (fun fin s' => ∃ v, fin = .done (.ret v) ∧ ∃ i t, v = .int i t ∧ Q i t s') E s := by
  wp_walk
  all_goals (try exact ⟨_, rfl, _, _, rfl, h _ _⟩)
theorem pyHash_true {Q : Int → Shared → Prop} (h : ∀ k, Q 1 { s with toks := k }) : wpAny (model prog w) A (pyHash (.bool true)) Q E s := by
  show wpAny (model prog w) A (pyHashByItsType (.bool true)) Q E s
  unfold pyHashByItsType
  have hv : [Value.bool true].any Value.onHeap = false := rfl
  refine wpAny_bind ?_
  rw [cRoomFor, if_neg (by rw [hv]; exact Bool.false_ne_true)]; refine wpAny_pure ?_
  refine wpAny_bind (wpAny_specialOf (typeIs_bool' s true) slot_bool_hash.lookup ?_)
  show wpAny _ _ (if (some (Value.builtin "int.__hash__") == some Value.none) = true then _ else _) Q E s
  rw [if_neg (by rw [beq_builtin_none]; exact Bool.false_ne_true)]
  refine wpAny_bind (wpAny_specialOf (typeIs_bool' s true) slot_bool_hash.lookup ?_)
  show wpAny _ _ (callSpecialIfBoundUnlessNone? (.bool true) "__hash__" _ >>= _) Q E s
  refine wpAny_bind (wpAny_callSpecialIfBoundUnlessNone?_slot (typeIs_bool' s true) slot_bool_hash
    (wpAny_call_entry slot_bool_hash (typeIs_bool' s true) entry_int_hash
      (wpAny_mono (int_hash_true (Q := fun i t s' => i = 1 ∧ ∃ k, s' = { s with toks := k }) fun t k => ⟨rfl, _, rfl⟩) (fun f s' hq => ?_) fun _ _ e => e) (args_int_hash _)))
  obtain ⟨v, rfl, i, t, rfl, rfl, k, rfl⟩ := hq
  refine ⟨_, rfl, ?_⟩
  show wpAny _ _ (if (decide (-(2 : Int) ^ 63 ≤ 1) && decide ((1 : Int) < 2 ^ 63)) = true then _ else _) Q E _
  rw [if_pos (by decide)]
  exact wpAny_pure (h _)
theorem eqBool_true {Q : Bool → Shared → Prop} (h : Q true s) : wpAny (model prog w) A (eqBool (.bool true) (.bool true)) Q E s := by
  unfold eqBool
  refine wpAny_holding ?_
  exact wpAny_bind (wpAny_rule (wpAny_pure h))
theorem setAdd_first {D : Addr} {led : Bool} {Q : Bool → Shared → Prop} (ho : s.heap.get? D = some (setE led))
    (h : ∀ h' k b, Heap.SameBut D s.heap h' → h'.get? D = some (setT led) → Q b { s with heap := h', toks := k }) : wpAny (model prog w) A (setAdd D (.bool true)) Q E s := by
  unfold setAdd
  refine wpAny_holding (wpAny_bind (pyHash_true fun k => ?_))
  unfold setAddHashed setAddHashedIn
  refine wpAny_holding (wpAny_bind (wpAny_setState_of (o := setE led) ho rfl (by cases led <;> rfl) ?_))
  dsimp only
  rw [show byScan (.bool true) #[] = true from by decide +kernel]
  simp only [↓reduceIte]
  unfold setAddByScan
  refine wpAny_bind (wpAny_bind (wpAny_rule ?_))
  refine wpAny_bind (wpAny_pure ?_)
  rw [lay_true]
  dsimp only
  refine wpAny_bind (wpAny_pure ?_)
  rw [if_pos rfl]
  refine wpAny_bind ?_
  rw [hashByValue_scannable 8 rfl]
  refine wpAny_pure ?_
  have ht : (!false && (if plainKind (.bool true) = true then tabT led else { mask := 7, place := #[1], dummies := #[], finger := 0, led := led, moves := 0, plain := false }).tooFull) = false := by cases led <;> decide +kernel
  rw [ht]
  refine wpAny_bind (wpAny_storeSet_of ho rfl ?_ (by rw [PySem.sizeLine_eq]; decide))
  rw [if_neg Bool.false_ne_true]
  dsimp only
  refine wpAny_pure (wpAny_pure ?_)
  refine h _ k _ (Heap.SameBut.update ..) ?_
  have := Heap.get?_update_self (Obj.putSet #[(1, .bool true)] (tabT led)) ho rfl
  exact this
theorem scan_true {D : Addr} {led : Bool} {Q : ScanMet → Shared → Prop} (ho : s.heap.get? D = some (setT led)) (h : Q (.found 0) s) : wpAny (model prog w) A (setScan D (.bool true) 1 true #[(1, .bool true)]) Q E s := by
  show wpAny (model prog w) A (setScanFrom D (.bool true) 1 true [(1, .bool true)] 0) Q E s
  unfold setScanFrom
  rw [if_pos (by decide)]
  refine wpAny_bind (wpAny_setEpoch_of (o := setT led) ho rfl (by cases led <;> rfl) ?_)
  refine wpAny_bind (eqBool_true ?_)
  exact wpAny_pure h
theorem setAdd_again {D : Addr} {led : Bool} {Q : Bool → Shared → Prop} (ho : s.heap.get? D = some (setT led))
    (h : ∀ k b, Q b { s with toks := k }) : wpAny (model prog w) A (setAdd D (.bool true)) Q E s := by
  unfold setAdd
  refine wpAny_holding (wpAny_bind (pyHash_true fun k => ?_))
  unfold setAddHashed setAddHashedIn
  refine wpAny_holding (wpAny_bind (wpAny_setState_of (o := setT led) ho rfl (by cases led <;> rfl) ?_))
  dsimp only
  rw [show byScan (.bool true) #[(1, .bool true)] = true from by decide +kernel]
  simp only [↓reduceIte]
  unfold setAddByScan
  refine wpAny_bind (wpAny_bind (wpAny_rule ?_))
  refine wpAny_bind (scan_true (s := { s with toks := k }) ho ?_)
  dsimp only
  exact wpAny_pure (wpAny_pure (h k false))
theorem newSet_led {Q : Value → Shared → Prop}
    (h : Q (.ref s.heap.objs.size) { s with heap := s.heap.push (setE (!(w.params.followText "set-order"))) }) :
    wpAny (model prog w) A (newSet (.type "set")) Q E s := by
  unfold newSet setsByText
  refine wpAny_bind (wpAny_bind (wpAny_askSetting (wpAny_pure ?_)))
  dsimp only
  simp only [newObj]
  exact wpAny_bind (wpAny_alloc (wpAny_pure h))
end
end Mine
namespace Mine
section
variable {prog : Program} {w : World} {A : Around} {E : Value → Shared → Prop} {s : Shared}
abbrev ByText (w : World) : Bool := w.params.followText "set-order"
theorem pick_one {α : Type} (next : Nat → Nat) (x : α) : pickOrder next #[x] = #[x] := by
  unfold pickOrder
  show pickOrder.go next 1 0 [x] #[] = #[x]
  unfold pickOrder.go
  have e : next 0 % [x].length = 0 := by rw [List.length_singleton, Nat.mod_one]
  rw [e]
  simp [pickOrder.go]
theorem setsByText_led {Q : Bool → Shared → Prop} (h : Q (ByText w) s) : wpAny (model prog w) A setsByText Q E s := by
  unfold setsByText
  exact wpAny_bind (wpAny_askSetting (wpAny_pure h))
theorem setNext_first {D : Addr} {Q : Option (Value × Nat) → Shared → Prop} (ho : s.heap.get? D = some (setT (!(ByText w))))
    (h : ∀ k, (ByText w = true ∨ k = 2) → Q (some (.bool true, k)) s) : wpAny (model prog w) A (setNext D 0 0 1) Q E s := by
  have hf : (tabT (!(ByText w))).fits 1 = true := by cases ByText w <;> rfl
  unfold setNext
  refine wpAny_bind (wpAny_setState_of ho rfl hf ?_)
  dsimp only
  refine wpAny_bind (setsByText_led ?_)
  cases hb : ByText w with
  | true =>
    rw [hb] at ho
    simp only [if_true]
    rw [if_neg (by decide)]
    unfold setWalk
    refine wpAny_bind (wpAny_bind (wpAny_setState_of ho rfl (by rfl) ?_))
    dsimp only
    refine wpAny_bind (setsByText_led ?_)
    rw [hb, if_pos rfl]
    refine wpAny_bind (wpAny_askSetting (wpAny_pure ?_))
    rw [pick_one]
    exact wpAny_pure (h 0 (.inl hb))
  | false =>
    simp only [Bool.false_eq_true, if_false]
    rw [if_neg (by decide +kernel)]
    refine wpAny_bind (wpAny_of_eq (a := ()) (by first | rfl | kernel_rfl) ?_)
    rw [show SetTable.below #[1] 0 = 0 from by decide +kernel]
    exact wpAny_pure (h 2 (.inr rfl))
theorem setNext_second {D : Addr} {k : Nat} {Q : Option (Value × Nat) → Shared → Prop} (ho : s.heap.get? D = some (setT (!(ByText w)))) (hk : ByText w = true ∨ k = 2)
    (h : Q none s) : wpAny (model prog w) A (setNext D k 1 1) Q E s := by
  have hf : (tabT (!(ByText w))).fits 1 = true := by cases ByText w <;> rfl
  unfold setNext
  refine wpAny_bind (wpAny_setState_of ho rfl hf ?_)
  dsimp only
  refine wpAny_bind (setsByText_led ?_)
  cases hb : ByText w with
  | true =>
    rw [hb] at ho
    simp only [if_true]
    rw [if_neg (by decide)]
    unfold setWalk
    refine wpAny_bind (wpAny_bind (wpAny_setState_of ho rfl (by rfl) ?_))
    dsimp only
    refine wpAny_bind (setsByText_led ?_)
    rw [hb, if_pos rfl]
    refine wpAny_bind (wpAny_askSetting (wpAny_pure ?_))
    rw [pick_one]
    exact wpAny_pure h
  | false =>
    rcases hk with hk | rfl
    · rw [hb] at hk; cases hk
    simp only [Bool.false_eq_true, if_false]
    rw [if_neg (by decide +kernel)]
    refine wpAny_bind (wpAny_of_eq (a := ()) (by first | rfl | kernel_rfl) ?_)
    rw [show SetTable.below #[1] 2 = 1 from by decide +kernel]
    exact wpAny_pure h
abbrev setI (D : Addr) (k i : Nat) : Obj := { cls := .type "set_iterator", dict := none, data := .fields #[.int k 0, .int i 0, .ref D, .int 1 0, .int 1 0], slots := #[] }
theorem slot_seti_next : Slot "set_iterator" "__next__" "set_iterator.__next__" :=
  .of (owner := "set_iterator") (n := "__next__") (by rw [typeLookup_type, builtinLookup_eq_fast]; kernel_rfl) (by decide +kernel) (by decide +kernel) (by decide +kernel)
    (by first | exact .inl (by decide +kernel) | exact .inr (by decide +kernel)) (by rw [isSubtype_type]; kernel_rfl)
theorem entry_seti_next : entryFor table "set_iterator.__next__" = some Builtin.«set_iterator.__next__» := entryFor_of_tree (by kernel_rfl)
theorem args_seti_next (a : Value) : argsOk "set_iterator.__next__" ⟨[a], []⟩ := by unfold argsOk; kernel_rfl
theorem entry_set_iter : entryFor table "set.__iter__" = some Builtin.«frozenset.__iter__» :=
  entryFor_alias (id' := "frozenset.__iter__") (by kernel_rfl) (by first | rfl | decide +kernel | (unfold String.splitOn; simp +decide [String.splitOnAux])) (by decide +kernel) (by kernel_rfl)
theorem args_set_iter (a : Value) : argsOk "set.__iter__" ⟨[a], []⟩ := by unfold argsOk; kernel_rfl
theorem pyIter_set {D : Addr} {Q : Value → Shared → Prop} (ho : s.heap.get? D = some (setT (!(ByText w))))
    (h : Q (.ref s.heap.objs.size) { s with heap := s.heap.push (setI D 0 0) }) : wpAny (model prog w) A (pyIter (.ref D)) Q E s := by
  have hT : s.TypeIs (.ref D) "set" := ⟨_, ho, rfl⟩
  have hf : (tabT (!(ByText w))).fits 1 = true := by cases ByText w <;> rfl
  refine wpAny_pyIter_slot hT PySem.F.slot_set_iter (wpAny_call_entry PySem.F.slot_set_iter hT entry_set_iter ?_ (args_set_iter _))
  wp_walk using wpAny_setState_of ho rfl hf, setsByText_led
  rw [if_neg (by generalize ByText w = b; cases b <;> decide +kernel)]
  refine wpAny_bind (wpAny_pure ?_)
  refine wpAny_bind (wpAny_setEpoch_of ho rfl hf ?_)
  refine wpAny_bind (wpAny_newObj_type ?_)
  exact wpAny_pure ⟨_, rfl, "set_iterator", _, ⟨_, Heap.get?_push_size _ rfl, rfl⟩, slot_seti_next.lookup, h⟩
theorem setEntries_led {D : Addr} {Q : Array (Int × Value) → Shared → Prop} (ho : s.heap.get? D = some (setT (!(ByText w)))) (h : Q #[(1, .bool true)] s) : wpAny (model prog w) A (setEntries D) Q E s :=
  wpAny_setEntries_of ho rfl (by cases ByText w <;> rfl) h
theorem pyNext_set_first {I D : Addr} {Q : Option Value → Shared → Prop} (hID : I ≠ D) (ho : s.heap.get? D = some (setT (!(ByText w)))) (hI : s.heap.get? I = some (setI D 0 0))
    (h : ∀ h' k, (ByText w = true ∨ k = 2) → h'.get? I = some (setI D k 1) → Heap.SameBut I s.heap h' → Q (some (.bool true)) { s with heap := h' }) : wpAny (model prog w) A (pyNext (.ref I)) Q E s := by
  have hT : s.TypeIs (.ref I) "set_iterator" := ⟨_, hI, rfl⟩
  unfold pyNext
  refine wpAny_bind (wpAny_attempt (wpAny_callSpecial?_slot (name := Str.ofString "__next__") hT slot_seti_next (wpAny_call_entry slot_seti_next hT entry_seti_next ?_ (args_seti_next _))))
  show wpAny _ _ (fieldsOf (.ref I) >>= _) _ _ s
  refine wpAny_bind (wpAny_fieldsOf hI rfl ?_)
  show wpAny _ _ (setEntries D >>= _) _ _ s
  refine wpAny_bind (setEntries_led ho ?_)
  rw [if_neg (by decide)]
  show wpAny _ _ (setNext D 0 0 1 >>= _) _ _ s
  refine wpAny_bind (setNext_first ho fun k hk => ?_)
  dsimp only
  refine wpAny_bind (wpAny_setField hI rfl (by simp) ?_)
  have g1 := Heap.get?_update_self (Obj.mapFields (·.setIfInBounds 0 (rawInt k))) hI rfl
  refine wpAny_bind (wpAny_setField g1 rfl (by simp) ?_)
  have g2 := Heap.get?_update_self (Obj.mapFields (·.setIfInBounds 1 (rawInt (0 + 1)))) g1 rfl
  refine wpAny_pure ⟨_, rfl, wpAny_pure (h _ k hk g2 ((Heap.SameBut.update ..).trans (Heap.SameBut.update ..)))⟩
theorem pyNext_set_second {I D : Addr} {k : Nat} {Q : Option Value → Shared → Prop} (hh : A.handled = none) (ho : s.heap.get? D = some (setT (!(ByText w)))) (hk : ByText w = true ∨ k = 2) (hI : s.heap.get? I = some (setI D k 1))
    (h : ∀ h', Heap.ExtBut I s.heap h' → Q none { s with heap := h' }) : wpAny (model prog w) A (pyNext (.ref I)) Q E s := by
  have hT : s.TypeIs (.ref I) "set_iterator" := ⟨_, hI, rfl⟩
  unfold pyNext
  refine wpAny_bind (wpAny_attempt (wpAny_callSpecial?_slot (name := Str.ofString "__next__") hT slot_seti_next (wpAny_call_entry slot_seti_next hT entry_seti_next ?_ (args_seti_next _))))
  show wpAny _ _ (fieldsOf (.ref I) >>= _) _ _ s
  refine wpAny_bind (wpAny_fieldsOf hI rfl ?_)
  show wpAny _ _ (setEntries D >>= _) _ _ s
  refine wpAny_bind (setEntries_led ho ?_)
  rw [if_neg (by decide)]
  show wpAny _ _ (setNext D (Int.toNat (k : Int)) 1 1 >>= _) _ _ s
  rw [Int.toNat_natCast]
  refine wpAny_bind (setNext_second ho hk ?_)
  dsimp only
  refine wpAny_bind (wpAny_setField hI rfl (by simp) ?_)
  show wpAny _ _ (newExc (.type "StopIteration") [] >>= _) _ _ _
  refine wpAny_bind ?_
  simp only [newExc, newTuple]
  refine wpAny_bind (wpAny_newObj_type ?_ (by size_fits))
  refine wpAny_bind (m := firstArgMember _ _) (wpAny_of_eq (a := Value.none) (by first | rfl | (simp only [firstArgMember]; rfl)) ?_)
  refine wpAny_newObj_type ?_ (by size_fits)
  simp only [raiseNew]
  refine wpAny_bind (wpAny_handled ?_)
  rw [show A.in1.handled = none from hh]
  refine wpAny_bind (wpAny_pure (wpAny_throw ?_))
  refine wpAny_bind (wpAny_isInstance (T := "StopIteration") (b := true) ⟨_, Heap.get?_push_size _ rfl, rfl⟩ isSubtype_stop ?_)
  exact wpAny_pure (h _ (((Heap.SameBut.update ..).extBut.push _).push _))
theorem unpack_one {D : Addr} {Q : List Value → Shared → Prop} (hh : A.handled = none) (ho : s.heap.get? D = some (setT (!(ByText w))))
    (h : ∀ h', (∀ b o, s.heap.get? b = some o → h'.get? b = some o) → Q [.bool true] { s with heap := h' }) : wpAny (model prog w) A (unpackItems (.ref D) 1 none) Q E s := by
  have hT : s.TypeIs (.ref D) "set" := ⟨_, ho, rfl⟩
  have hlt : D < s.heap.objs.size := Heap.lt_size ho
  unfold unpackItems notIterableAtAll
  refine wpAny_bind (wpAny_bind (wpAny_specialOf hT PySem.F.slot_set_iter.lookup ?_))
  rw [if_pos (show (some (Value.builtin "set.__iter__")).isSome = true from rfl)]
  refine wpAny_pure ?_
  rw [if_neg (by decide)]
  refine wpAny_bind (wpAny_holding (pyIter_set ho ?_))
  have gI := Heap.get?_push_size s.heap (o := setI D 0 0) rfl
  have gD := Heap.get?_push_of_some (setI D 0 0) ho
  have hID : s.heap.objs.size ≠ D := Nat.ne_of_gt hlt
  dsimp only
  refine wpAny_bind (wpAny_holding ?_)
  unfold draw
  refine wpAny_bind (pyNext_set_first hID gD gI fun h1 k hk g1 sb => ?_)
  dsimp only
  refine wpAny_bind (wpAny_holding ?_)
  unfold draw
  refine wpAny_pure (wpAny_pure ?_)
  rw [if_neg (by decide)]
  refine wpAny_bind (wpAny_holding (pyNext_set_second hh (sb.extBut _ _ hID.symm gD) hk g1 fun h2 x2 => ?_))
  rw [if_neg (by decide)]
  refine wpAny_pure (h h2 fun b o e => ?_)
  have hb : b ≠ s.heap.objs.size := Nat.ne_of_lt (Heap.lt_size e)
  exact x2 b o hb (sb.extBut b o hb (Heap.get?_push_of_some _ e))
end
end Mine
end
section
open PySem.Calls PySem.Spec
namespace Mine
open LCg
section
variable {prog : Program} {w : World} {A : Around} {E : Value → Shared → Prop} {s : Shared} {h₀ : Heap} {L : Addr} {m : Str → Option Value} {env : Env}
/-- the source of a comprehension: a tuple on the ledger -/
def TupSrc (prog : Program) (w : World) (A : Around) (h₀ : Heap) (L : Addr) (m : Str → Option Value) (env : Env) (elt : Expr) (x : Str) (scope : Scope) (cl : List (Str × Addr)) (Fin : Shared → List Value → List (Addr × Obj) → Prop) (xv : Value) (s₁ : Shared) : Prop :=
  ∃ ax its news, xv = .ref ax ∧ A.handled = none ∧ Fr h₀ L s₁.heap m ∧ News h₀ L s₁.heap news ∧ (ax, tupO its) ∈ news ∧ its.size ≤ sizeLine ∧
    ∀ g, CompRest prog w A h₀ L m env elt x scope cl { s₁ with heap := g } (fun nw => (ax, tupO its) ∈ nw) (fun i v => its[i]? = some v) (Fin { s₁ with heap := g }) its.size 0 [] news
theorem TupSrc.intro {elt : Expr} {x : Str} {scope : Scope} {cl : List (Str × Addr)} {Fin : Shared → List Value → List (Addr × Obj) → Prop} {ax : Addr} {its : Array Value} {news : List (Addr × Obj)} {s₁ : Shared}
    (hh : A.handled = none) (F : Fr h₀ L s₁.heap m) (N : News h₀ L s₁.heap news) (hm : (ax, tupO its) ∈ news) (hsz : its.size ≤ sizeLine)
    (h : ∀ g, CompRest prog w A h₀ L m env elt x scope cl { s₁ with heap := g } (fun nw => (ax, tupO its) ∈ nw) (fun i v => its[i]? = some v) (Fin { s₁ with heap := g }) its.size 0 [] news) :
    TupSrc prog w A h₀ L m env elt x scope cl Fin (.ref ax) s₁ := ⟨ax, its, news, rfl, hh, F, N, hm, hsz, h⟩
theorem tup_st {ax I : Addr} {its : Array Value} (i : Nat) (h h' : Heap) (o : Obj) (nw : List (Addr × Obj)) (st : h.IsTupleIter I ax i ∧ h.IsTuple ax its) (e : h.get? I = some o) (e' : h'.get? I = some o)
    (k : ∀ b o, h₀.get? b = some o → h'.get? b = some o) (N : News h₀ L h' nw) (S : (ax, tupO its) ∈ nw) : h'.IsTupleIter I ax i ∧ h'.IsTuple ax its := by
  refine ⟨?_, ⟨_, (N _ S).1, rfl, _, rfl⟩⟩
  obtain ⟨o', q, r⟩ := st.1
  rw [e] at q; cases q
  exact ⟨o, e', r⟩
theorem Assign_ListComp_tup {elt iter : Expr} {x y : Str} {px py : Pos} {scope : Scope} {cl : List (Str × Addr)} {pos spos : Pos} {Q : Flow → Shared → Prop} (F₀ : Fr h₀ L s.heap m) (hLe : env.locals = L)
    (hsw : swapsWith (.ListComp elt [⟨.Name x px, iter, [], 0⟩] scope pos) (some (.Name y py)) spos.line env = pure true)
    (hclos : closureFor scope env = pure cl) (hcell : ∀ z ∈ scope.names, z.2 ≠ .cell) (hkind : scope.kind = .function)
    (hnames : ∀ z ∈ scope.names, z.2 = .local → scope.names.lookup z.1 = some .local) (hx : scope.names.lookup x = some .local)
    (hy : env.kindOf y = some .local) (hp : (env.scope.kind == .class || (env.scope.kind == .module && env.locals != env.globals)) = false)
    (h : wpAny (model prog w) A (eval iter env) (TupSrc prog w A h₀ L m env elt x scope cl (fun s₂ => FinA h₀ L m s₂ y Q)) E s)
    (hs : ∀ x, foldedSetIterable iter env x = pure x := by intro _; rfl) :
    wpAny (model prog w) A (exec (.Assign [.Name y py] (.ListComp elt [⟨.Name x px, iter, [], 0⟩] scope pos) spos) env) Q E s := by
  subst hLe
  rw [exec_Assign_Name_used _ _ _ _ hsw]
  refine wpAny_bind (wpAny_standAt (wpAny_bind ?_))
  show wpAny _ A (do let _ ← comprehension (.ListComp elt [⟨.Name x px, iter, [], 0⟩] scope pos) scope env _ (newList []) false (eval iter env) (some (assign (.Name y py) env))) _ _ s
  refine wpAny_bind (wpAny_mono (wpAny_comprehension_free (use := some (assign (.Name y py) env)) (Q := fun _ s' => Q .next s') rfl hs hclos hkind hnames
    (wpAny_mono h (fun xv s₁ h₁ => ?_) fun _ _ e => e)) (fun _ s' hq => wpAny_pure (wpAny_pure hq)) fun _ _ e => e)
  obtain ⟨ax, its, news, rfl, hh, F, N, hm, hsz, R⟩ := h₁
  have hl : s₁.heap.IsTuple ax its := ⟨_, (N _ hm).1, rfl, _, rfl⟩
  have hlt : ax < s₁.heap.objs.size := Heap.lt_size (N _ hm).1
  refine wpAny_pyIter_tuple hl ?_
  have up : ∀ b o, s₁.heap.get? b = some o → (s₁.heap.push { cls := .type "tuple_iterator", data := .fields #[.ref ax, .int 0 0] }).get? b = some o := fun b o e => Heap.get?_push_of_some _ e
  refine block_U (S := fun nw => (ax, tupO its) ∈ nw) (Walks.tuple hh s₁.heap.objs.size ax (Nat.ne_of_lt hlt) its) hsz (fun i h st => by obtain ⟨o, e, _⟩ := st.1; exact ⟨o, e⟩) tup_st hcell hkind hx ⟨⟨_, Heap.get?_push_size _ rfl, rfl, rfl⟩, ⟨_, up _ _ (N _ hm).1, rfl, _, rfl⟩⟩ (fun b hb => ?_)
    (F.keeps up) (N.grown up) (Nat.ne_of_lt F.ns.lt) (next_is_new F) (item_fresh N) hm (R _) ?_
  · show b < (s₁.heap.push _).objs.size
    rw [Heap.size_push]
    rcases List.mem_cons.mp hb with rfl | hb
    · exact Nat.lt_succ_self _
    · rw [List.mem_singleton.mp hb]; exact Nat.lt_succ_of_lt hlt
  · intro D C h' tk m' ys news' F' N' o1 hn hC₀ hD₀ hCL hDL hCD offC fin
    show wpAny _ A (assign (.Name y py) env (.ref D)) _ _ _
    refine wpAny_assign_Name (wpAny_storeName_local hy F'.ns (fun h₂ hn₂ hs₂ => ?_) hp)
    have hL₀ : h₀.get? env.locals = none := Heap.get?_none_of_le F'.above
    have F₂ : Fr h₀ env.locals h₂ (fun z => if z = y then some (.ref D) else m z) := ⟨hn₂, fun b o e => hs₂.extBut b o (fun q => by rw [q, hL₀] at e; cases e) (F'.keep b o e), F'.above⟩
    refine ⟨m', hn.sameBut hs₂ hCL, fun h'' hs'' => fin D h'' _ (F₂.change hs'' hCL hC₀) (fun p hp => ?_) o1⟩
    have z : h₂.get? p.1 = some p.2 := hs₂.extBut _ _ (N' p hp).2.1 (N' p hp).1
    refine ⟨hs''.extBut _ _ ?_ z, (N' p hp).2⟩
    rcases List.mem_cons.mp hp with rfl | hp
    · exact Ne.symm hCD
    · exact offC p hp
end
end Mine
end
section
open PySem.Calls PySem.Spec
namespace Mine
open LCg
section
variable {prog : Program} {w : World} {A : Around} {E : Value → Shared → Prop} {R : Result → Shared → Prop} {s : Shared} {h₀ : Heap} {L : Addr} {m : Str → Option Value} {env : Env}
theorem compTurn_set (elt target iter : Expr) (scope : Scope) (pos : Pos) (it acc : Value) (env : Env) :
    compTurn (.SetComp elt [⟨target, iter, [], 0⟩] scope pos) 0 it acc env = (standAt iter.pos >>= fun _ => pyNext it >>= fun r => match r with
      | none => pure (.done .next)
      | some v => letOwnedTupleGo target it v >>= fun _ => assign target env v >>= fun _ =>
        (eval elt env >>= fun x => standAt elt.pos >>= fun _ => call (.builtin "set.add") [acc, x] >>= fun _ => pure ()) >>= fun _ =>
          again (.compLoop (.SetComp elt [⟨target, iter, [], 0⟩] scope pos) 0 it acc env)) := by rfl
theorem compStart_set {elt target iter ifs rest scope pos it acc env}
    (h0 : codeAny (model prog w) A (.compLoop (.SetComp elt (⟨target, iter, ifs, 0⟩ :: rest) scope pos) 0 it acc env) R s)
    (h : wpAny (model prog w) A (pyIter it) (fun it' s' => codeAny (model prog w) A (.compLoop (.SetComp elt (⟨target, iter, ifs, 0⟩ :: rest) scope pos) 0 it' acc env) R s')
      (notedBy (model prog w) A env fun x s' => R (.error x) s') s) :
    codeAny (model prog w) A (.compStart (.SetComp elt (⟨target, iter, ifs, 0⟩ :: rest) scope pos) 0 it acc env) R s := by
  refine codeAny_of_tree ?_
  show wpAny _ _ ((compStart (.SetComp elt (⟨target, iter, ifs, 0⟩ :: rest) scope pos) 0 it acc env).onRaise (fun x => do noteFrame x env; standAt theWindowsPlace)) _ _ s
  refine wpAny_notedAt ?_
  unfold compStart
  show wpAny _ _ (ask >>= _) _ _ s
  refine wpAny_bind (wpAny_askSetting (wpAny_ite ?_))
  split
  · first
      | exact wpAny_bind (wpAny_pure (wpAny_pure (And.intro rfl h0)))
      | exact wpAny_pure (And.intro rfl h0)
  · first
      | exact wpAny_bind (wpAny_rule (wpAny_bind (wpAny_standAt (wpAny_bind (wpAny_mono h (fun it' s' h' => wpAny_pure (And.intro rfl h')) fun _ _ x => x)))))
      | (refine wpAny_bind (wpAny_rule ?_); show wpAny _ _ (standAt iter.pos >>= _) _ _ s; exact wpAny_bind (wpAny_standAt (wpAny_bind (wpAny_mono h (fun it' s' h' => wpAny_pure (And.intro rfl h')) fun _ _ x => x))))
theorem call_set_first {D : Addr} {led : Bool} {Q : Value → Shared → Prop} (ho : s.heap.get? D = some (setE led))
    (h : ∀ h' k, Heap.SameBut D s.heap h' → h'.get? D = some (setT led) → Q .none { s with heap := h', toks := k }) : wpAny (model prog w) A (call (.builtin "set.add") [.ref D, .bool true]) Q E s := by
  refine wpAny_call_entry PySem.F.slot_set_add (T := "set") ⟨_, ho, rfl⟩ PySem.F.entry_set_add ?_ (PySem.F.args_set_add_2 _ _)
  show wpAny _ _ (setAdd D (.bool true) >>= fun _ => ret .none) _ _ s
  exact wpAny_bind (setAdd_first ho fun h' k b hs hg => wpAny_pure ⟨_, rfl, h h' k hs hg⟩)
theorem call_set_again {D : Addr} {led : Bool} {Q : Value → Shared → Prop} (ho : s.heap.get? D = some (setT led))
    (h : ∀ k, Q .none { s with toks := k }) : wpAny (model prog w) A (call (.builtin "set.add") [.ref D, .bool true]) Q E s := by
  refine wpAny_call_entry PySem.F.slot_set_add (T := "set") ⟨_, ho, rfl⟩ PySem.F.entry_set_add ?_ (PySem.F.args_set_add_2 _ _)
  show wpAny _ _ (setAdd D (.bool true) >>= fun _ => ret .none) _ _ s
  exact wpAny_bind (setAdd_again ho fun k b => wpAny_pure ⟨_, rfl, h k⟩)
/-- the set after i turns -/
def setN (led : Bool) (i : Nat) : Obj := if i = 0 then setE led else setT led
theorem call_set_any {D : Addr} {led : Bool} {i : Nat} {Q : Value → Shared → Prop} (ho : s.heap.get? D = some (setN led i))
    (h : ∀ h' k, Heap.SameBut D s.heap h' → h'.get? D = some (setT led) → Q .none { s with heap := h', toks := k }) : wpAny (model prog w) A (call (.builtin "set.add") [.ref D, .bool true]) Q E s := by
  unfold setN at ho
  by_cases hi : i = 0
  · rw [if_pos hi] at ho; exact call_set_first ho h
  · rw [if_neg hi] at ho; exact call_set_again ho fun k => h s.heap k (Heap.SameBut.refl D s.heap) ho
end
end Mine
end
section
open PySem.Calls PySem.Spec
namespace Mine
open LCg
section
variable {prog : Program} {w : World} {A : Around} {E : Value → Shared → Prop} {s : Shared} {h₀ : Heap} {L : Addr} {m : Str → Option Value} {env : Env}
/-- one turn of a set comprehension whose element is True -/
def TrueTurn (prog : Program) (w : World) (A : Around) (h₀ : Heap) (L : Addr) (m : Str → Option Value) (env : Env) (elt : Expr) (x : Str) (scope : Scope) (cl : List (Str × Addr)) (its : Array Value) (news : List (Addr × Obj)) (s : Shared) : Prop :=
  ∀ (i : Nat) v I oI C oC D oD m₂ h tk (E' : Value → Shared → Prop), its[i]? = some v → NsObj oC m₂ → m₂ x = some v → Fr h₀ L h m → News h₀ L h ((I, oI) :: (C, oC) :: (D, oD) :: news) → Off3 I C D news → ((@Ne Nat I C) ∧ (@Ne Nat I D) ∧ (@Ne Nat C D)) →
    wpAny (model prog w) A (eval elt (compEnvC scope cl C env)) (Pure1 h₀ L m { s with heap := h, toks := tk } ((I, oI) :: (C, oC) :: (D, oD) :: news) (fun y => y = .bool true)) E' { s with heap := h, toks := tk }
theorem block_set {elt iter : Expr} {x : Str} {px : Pos} {scope : Scope} {cl : List (Str × Addr)} {pos : Pos} {s₂ : Shared} {I ax : Addr} {its : Array Value} {news : List (Addr × Obj)}
    {RR : Value → Addr → Result → Shared → Prop} (hh : A.handled = none) (hne : 0 < its.size) (hax : (ax, tupO its) ∈ news) (hI : s₂.heap.get? I = some { cls := .type "tuple_iterator", data := .fields #[.ref ax, .int 0 0] })
    (hcell : ∀ y ∈ scope.names, y.2 ≠ .cell) (hkind : scope.kind = .function) (hx : scope.names.lookup x = some .local)
    (F : Fr h₀ L s₂.heap m) (N : News h₀ L s₂.heap news) (hIL : L ≠ I) (hI₀ : h₀.get? I = none) (off : ∀ p ∈ news, p.1 ≠ I)
    (turn : TrueTurn prog w A h₀ L m env elt x scope cl its news s₂)
    (hRR : ∀ D C h tk m', Fr h₀ L h m → News h₀ L h ((D, setT (!(ByText w))) :: news) → (∀ p ∈ news, p.1 ≠ D) → h.Ns C m' → h₀.get? C = none → C ≠ L → C ≠ D → (∀ p ∈ news, p.1 ≠ C) → RR (.ref D) C (.ok .next) { s₂ with heap := h, toks := tk }) :
    wpAny (model prog w) A (newSet (.type "set")) (fun acc s₃ => wpAny (model prog w) A (newFunctionEnv scope env.globals cl [] env.qual none .none (some env)) (fun cenv s₄ =>
      codeAny (model prog w) A (.compStart (.SetComp elt [⟨.Name x px, iter, [], 0⟩] scope pos) 0 (.ref I) acc { cenv with scope := relabel scope env }) (RR acc cenv.locals) s₄) E s₃) E s₂ := by
  have W := Walks.tuple (prog := prog) (w := w) (A := A) hh I ax (off _ hax) its
  refine newSet_led (wpAny_newFunctionEnv hcell (by intro y hy; simp at hy) (fun h₁ hns₁ hsb₁ => ?_) hkind)
  dsimp only at hns₁ hsb₁ ⊢
  generalize hH2 : s₂.heap.push (setE (!(w.params.followText "set-order"))) = H2 at hns₁ hsb₁ ⊢
  have hC : H2.objs.size = s₂.heap.objs.size + 1 := by rw [← hH2, Heap.size_push]
  have hDC : s₂.heap.objs.size ≠ H2.objs.size := by rw [hC]; exact Nat.ne_of_lt (Nat.lt_succ_self _)
  have below : ∀ b, b < s₂.heap.objs.size → b ≠ H2.objs.size ∧ b ≠ s₂.heap.objs.size := fun b hb => ⟨by rw [hC]; exact Nat.ne_of_lt (Nat.lt_succ_of_lt hb), Nat.ne_of_lt hb⟩
  have hIlt : I < s₂.heap.objs.size := Heap.lt_size hI
  have old : ∀ b o, s₂.heap.get? b = some o → h₁.get? b = some o := fun b o e => hsb₁.extBut b o (below b (Heap.lt_size e)).1 (Heap.get?_push_of_some _ (hH2 ▸ Heap.get?_push_of_some _ e))
  have hacc : h₁.get? s₂.heap.objs.size = some (setE (!(ByText w))) := hsb₁.extBut _ _ hDC (Heap.get?_push_of_some _ (hH2 ▸ Heap.get?_push_size _ rfl))
  have fresh₀ : ∀ a, s₂.heap.objs.size ≤ a → h₀.get? a = none := fun a ha => by
    cases e : h₀.get? a with
    | none => rfl
    | some o' => exact absurd (Heap.lt_size (F.keep a o' e)) (Nat.not_lt.mpr ha)
  have hD₀ : h₀.get? s₂.heap.objs.size = none := fresh₀ _ (Nat.le_refl _)
  have hC₀ : h₀.get? H2.objs.size = none := fresh₀ _ (by rw [hC]; exact Nat.le_succ _)
  have hLlt : L < s₂.heap.objs.size := F.ns.lt
  have hDL : s₂.heap.objs.size ≠ L := Ne.symm (below L hLlt).2
  have hCL : H2.objs.size ≠ L := Ne.symm (below L hLlt).1
  have hCI : I ≠ H2.objs.size := (below I hIlt).1
  have hDI : I ≠ s₂.heap.objs.size := (below I hIlt).2
  have offC : ∀ p ∈ news, p.1 ≠ H2.objs.size := fun p hp => (below _ (Heap.lt_size (N p hp).1)).1
  have offD : ∀ p ∈ news, p.1 ≠ s₂.heap.objs.size := fun p hp => (below _ (Heap.lt_size (N p hp).1)).2
  have off₀ : Off3 I H2.objs.size s₂.heap.objs.size news := Off3.of fun p hp => ⟨off p hp, offC p hp, offD p hp⟩
  have hit₁ : h₁.IsTupleIter I ax 0 := ⟨_, old _ _ hI, rfl, rfl⟩
  have loop : ∀ s₃ : Shared, s₃ = { s₂ with heap := h₁, toks := s₂.toks + ([] : List (Str × Value)).length } →
      codeAny (model prog w) A (.compLoop (.SetComp elt [⟨.Name x px, iter, [], 0⟩] scope pos) 0 (.ref I) (.ref s₂.heap.objs.size) (compEnvC scope cl H2.objs.size env))
        (RR (.ref s₂.heap.objs.size) H2.objs.size) s₃ := by
    rintro s₃ rfl
    refine codeAny_loop rfl (fun k s' => ∃ h' tk i m', s' = { s₂ with heap := h', toks := tk } ∧ i ≤ its.size ∧ k = its.size + 1 - i ∧ h'.IsTupleIter I ax i ∧ Fr h₀ L h' m ∧ h'.Ns H2.objs.size m' ∧ News h₀ L h' ((s₂.heap.objs.size, setN (!(ByText w)) i) :: news)) ?_ (its.size + 1)
      ⟨h₁, _, 0, _, rfl, Nat.zero_le _, rfl, hit₁, F.keeps old, hns₁, fun p hp => ?_⟩
    · rintro k s' ⟨h', tk, i, m', rfl, hi, rfl, hit', F', hn', N'⟩
      show wpAny _ A ((compTurn (.SetComp elt [⟨.Name x px, iter, [], 0⟩] scope pos) 0 (.ref I) (.ref s₂.heap.objs.size) (compEnvC scope cl H2.objs.size env)).onRaise (fun x => do noteFrame x (compEnvC scope cl H2.objs.size env); theTreesLotGoes x)) _ _ _
      refine wpAny_noted ?_
      rw [compTurn_set]
      refine wpAny_bind (wpAny_standAt ?_)
      have hT' : h'.IsTuple ax its := ⟨_, (N' _ (List.mem_cons_of_mem _ hax)).1, rfl, _, rfl⟩
      by_cases hlt : i < its.size
      · refine wpAny_bind (W.item i _ _ _ hlt ⟨hit', hT'⟩ fun v h₂ tk₂ hPv hst₂ hk₂ => ?_)
        dsimp only
        refine wpAny_bind (wpAny_of_eq (a := ()) rfl ?_)
        refine wpAny_bind (wpAny_assign_Name (wpAny_storeName_local (lookup_relabel_local hx) (hn'.at' fun o e => hk₂ _ o (by simpa using Ne.symm hCI) e) (fun h₃ hn₃ hs₃ => ?_) (by simp [compEnvC, relabel, hkind])))
        have F₃ : Fr h₀ L h₃ m := (fr_but F' hk₂ hIL hI₀).change hs₃ hCL hC₀
        have N₂ : News h₀ L h₂ ((s₂.heap.objs.size, setN (!(ByText w)) i) :: news) := news_but N' hk₂ fun p hp => by
          rcases List.mem_cons.mp hp with rfl | hp
          · exact Ne.symm hDI
          · exact off p hp
        obtain ⟨⟨oI, heI, hcI, hdI⟩, hst2⟩ := hst₂
        have heI₃ : h₃.get? I = some oI := hs₃.extBut _ _ hCI heI
        obtain ⟨oC, heC, hoC⟩ := ns_obj hn₃
        have N₃ : News h₀ L h₃ ((I, oI) :: (H2.objs.size, oC) :: (s₂.heap.objs.size, setN (!(ByText w)) i) :: news) := fun p hp => by
          rcases List.mem_cons.mp hp with rfl | hp
          · exact ⟨heI₃, Ne.symm hIL, hI₀⟩
          · rcases List.mem_cons.mp hp with rfl | hp
            · exact ⟨heC, hCL, hC₀⟩
            · have z := N₂ p hp
              refine ⟨hs₃.extBut _ _ ?_ z.1, z.2⟩
              rcases List.mem_cons.mp hp with rfl | hp
              · exact hDC
              · exact offC p hp
        refine wpAny_bind (wpAny_bind (wpAny_mono (turn i v I oI H2.objs.size oC s₂.heap.objs.size _ _ h₃ _ _ hPv hoC (by simp) F₃ N₃ off₀ ⟨hCI, hDI, Ne.symm hDC⟩) (fun y s₄ h₄ => ?_) fun _ _ e => e))
        obtain ⟨h₄, tk₄, rfl, F₄, N₄, rfl⟩ := h₄
        refine wpAny_bind (wpAny_standAt (wpAny_bind (call_set_any (N₄ _ (List.mem_cons_of_mem _ (List.mem_cons_of_mem _ List.mem_cons_self))).1 fun h₅ tk₅ hs₅ hD₅ => ?_)))
        refine wpAny_pure (wpAny_pure ⟨rfl, its.size + 1 - (i + 1), by omega, h₅, tk₅, i + 1, _, rfl, hlt, rfl, ⟨oI, hs₅.extBut _ _ hDI (N₄ _ List.mem_cons_self).1, hcI, hdI⟩, F₄.change hs₅ hDL hD₀, (hoC.ns (N₄ _ (List.mem_cons_of_mem _ List.mem_cons_self)).1).sameBut hs₅ (Ne.symm hDC), fun p hp => ?_⟩)
        rcases List.mem_cons.mp hp with rfl | hp
        · refine ⟨?_, hDL, hD₀⟩
          rw [hD₅]; unfold setN; rw [if_neg (Nat.succ_ne_zero i)]
        · have z := N₄ p (List.mem_cons_of_mem _ (List.mem_cons_of_mem _ (List.mem_cons_of_mem _ hp)))
          exact ⟨hs₅.extBut _ _ (offD p hp) z.1, z.2⟩
      · obtain rfl : i = its.size := Nat.le_antisymm hi (Nat.not_lt.mp hlt)
        refine wpAny_bind (W.done _ _ _ ⟨hit', hT'⟩ fun h₂ tk₂ hk₂ => ?_)
        dsimp only
        have N₂ : News h₀ L h₂ ((s₂.heap.objs.size, setN (!(ByText w)) its.size) :: news) := news_but N' hk₂ fun p hp => by
          rcases List.mem_cons.mp hp with rfl | hp
          · exact Ne.symm hDI
          · exact off p hp
        have e : setN (!(ByText w)) its.size = setT (!(ByText w)) := by unfold setN; rw [if_neg (by omega)]
        rw [e] at N₂
        exact wpAny_pure (hRR _ _ h₂ tk₂ _ (fr_but F' hk₂ hIL hI₀) N₂ offD (hn'.at' fun o e => hk₂ _ o (by simpa using Ne.symm hCI) e) hC₀ hCL (Ne.symm hDC) offC)
    · rcases List.mem_cons.mp hp with rfl | hp
      · exact ⟨hacc, hDL, hD₀⟩
      · exact ⟨old _ _ (N p hp).1, (N p hp).2⟩
  have hT₁ : h₁.IsTuple ax its := ⟨_, old _ _ (N _ hax).1, rfl, _, rfl⟩
  exact compStart_set (loop _ rfl) (W.self 0 _ _ _ ⟨hit₁, hT₁⟩ (loop _ rfl))
end
end Mine
end
section
open PySem.Calls PySem.Spec
namespace Mine
open LCg
section
variable {prog : Program} {w : World} {A : Around} {E : Value → Shared → Prop} {s : Shared} {h₀ : Heap} {L : Addr} {m : Str → Option Value} {env : Env} {news : List (Addr × Obj)}
def SetSrc (prog : Program) (w : World) (A : Around) (h₀ : Heap) (L : Addr) (m : Str → Option Value) (env : Env) (elt : Expr) (x : Str) (scope : Scope) (cl : List (Str × Addr)) (Q : Value → Shared → Prop) (xv : Value) (s₁ : Shared) : Prop :=
  ∃ ax its news, xv = .ref ax ∧ A.handled = none ∧ Fr h₀ L s₁.heap m ∧ News h₀ L s₁.heap news ∧ (ax, tupO its) ∈ news ∧ 0 < its.size ∧ (∀ g, TrueTurn prog w A h₀ L m env elt x scope cl its news { s₁ with heap := g }) ∧
    ∀ D h tk, Fr h₀ L h m → News h₀ L h ((D, setT (!(ByText w))) :: news) → (∀ p ∈ news, p.1 ≠ D) → Q (.ref D) { s₁ with heap := h, toks := tk }
theorem SetSrc.intro {elt : Expr} {x : Str} {scope : Scope} {cl : List (Str × Addr)} {Q : Value → Shared → Prop} {ax : Addr} {its : Array Value} {s₁ : Shared}
    (hh : A.handled = none) (F : Fr h₀ L s₁.heap m) (N : News h₀ L s₁.heap news) (hm : (ax, tupO its) ∈ news) (hsz : 0 < its.size)
    (turn : ∀ g, TrueTurn prog w A h₀ L m env elt x scope cl its news { s₁ with heap := g })
    (h : ∀ D h tk, Fr h₀ L h m → News h₀ L h ((D, setT (!(ByText w))) :: news) → (∀ p ∈ news, p.1 ≠ D) → Q (.ref D) { s₁ with heap := h, toks := tk }) :
    SetSrc prog w A h₀ L m env elt x scope cl Q (.ref ax) s₁ := ⟨ax, its, news, rfl, hh, F, N, hm, hsz, turn, h⟩
theorem SetComp_tup {elt iter : Expr} {x : Str} {px : Pos} {scope : Scope} {cl : List (Str × Addr)} {pos : Pos} {Q : Value → Shared → Prop} (F₀ : Fr h₀ L s.heap m)
    (hclos : closureFor scope env = pure cl) (hcell : ∀ y ∈ scope.names, y.2 ≠ .cell) (hkind : scope.kind = .function)
    (hnames : ∀ y ∈ scope.names, y.2 = .local → scope.names.lookup y.1 = some .local) (hx : scope.names.lookup x = some .local)
    (h : wpAny (model prog w) A (eval iter env) (SetSrc prog w A h₀ L m env elt x scope cl Q) E s)
    (hs : ∀ x, foldedSetIterable iter env x = pure x := by intro _; rfl) :
    wpAny (model prog w) A (eval (.SetComp elt [⟨.Name x px, iter, [], 0⟩] scope pos) env) Q E s := by
  rw [arm_eval_SetComp]
  refine wpAny_comprehension_free (use := none) rfl hs hclos hkind hnames (wpAny_mono h (fun xv s₁ h₁ => ?_) fun _ _ e => e)
  obtain ⟨ax, its, news, rfl, hh, F, N, hm, hsz, turn, fin⟩ := h₁
  have hl : s₁.heap.IsTuple ax its := ⟨_, (N _ hm).1, rfl, _, rfl⟩
  refine wpAny_pyIter_tuple hl ?_
  have up : ∀ b o, s₁.heap.get? b = some o → (s₁.heap.push { cls := .type "tuple_iterator", data := .fields #[.ref ax, .int 0 0] }).get? b = some o := fun b o e => Heap.get?_push_of_some _ e
  refine block_set hh hsz hm (Heap.get?_push_size _ rfl) hcell hkind hx (F.keeps up) (N.grown up) (Nat.ne_of_lt F.ns.lt) (next_is_new F) (item_fresh N) (turn _) ?_
  intro D C h tk m' F' N' offD hn hC₀ hCL hCD offC
  refine ⟨m', hn, fun h'' hs'' => fin D h'' tk (F'.change hs'' hCL hC₀) (fun p hp => ?_) offD⟩
  refine ⟨hs''.extBut _ _ ?_ (N' p hp).1, (N' p hp).2⟩
  rcases List.mem_cons.mp hp with rfl | hp
  · exact Ne.symm hCD
  · exact offC p hp
theorem unpack_set1 {y : Str} {py pos : Pos} {k : Nat} {D : Addr} {Q : Unit → Shared → Prop} (hh : A.handled = none) (F : Fr h₀ L s.heap m) (N : News h₀ L s.heap news) (hm : (D, setT (!(ByText w))) ∈ news)
    (h : ∀ h', Fr h₀ L h' m → News h₀ L h' news → wpAny (model prog w) A (assign (.Name y py) env (.bool true)) Q E { s with heap := h' }) : wpAny (model prog w) A (assign (.Tuple [.Name y py] k pos) env (.ref D)) Q E s := by
  show wpAny (model prog w) A (standAt pos >>= fun _ => unpack (.ref D) [(false, assign (.Name y py) env)]) Q E s
  refine wpAny_bind (wpAny_standAt ?_)
  unfold unpack
  show wpAny (model prog w) A (holding [.ref D] (unpackItems (.ref D) 1 none) >>= fun r => assignInOrder [assign (.Name y py) env] r) Q E s
  refine wpAny_bind (wpAny_holding (unpack_one hh (N _ hm).1 fun h' keep => ?_))
  show wpAny (model prog w) A (holding [] (assign (.Name y py) env (.bool true)) >>= fun _ => assignInOrder [] []) Q E _
  exact wpAny_bind (wpAny_holding (wpAny_mono (h h' (F.keeps keep) (N.grown keep)) (fun _ _ q => wpAny_pure q) fun _ _ e => e))
end
end Mine
end
section
open PySem.Calls PySem.Spec
namespace Mine
section
local macro_rules | `(tactic| k_all) => `(tactic| first | with_reducible assumption | exact offs_lt (by with_reducible assumption) (by omega))
local macro_rules | `(tactic| k_mem) => `(tactic| first | with_reducible assumption | exact List.mem_cons_self | (refine' List.mem_cons_of_mem _ ?_; k_mem))
theorem items_same {acc : Array Value} {refs : List Value} (h : ItemsOf (fun i v => refs[i]? = some v) acc refs.length) : acc = refs.toArray := by
  obtain ⟨h1, h2⟩ := h
  apply Array.ext'
  apply List.ext_getElem?
  intro i
  by_cases hi : i < refs.length
  · have hi' : i < acc.size := by rw [h1]; exact hi
    have e : acc[i]? = some acc[i] := by simp [hi']
    have := h2 i acc[i] (by first | exact e | exact hi)
    simp [hi'] at this ⊢
    simpa using this.symm
  · rw [List.getElem?_eq_none_iff.mpr (by rw [Array.length_toList, h1]; omega), List.getElem?_eq_none_iff.mpr (by simp; omega)]
theorem item_tup0 {prog : Program} {w : World} {A : Around} {E : Value → Shared → Prop} {s : Shared} {h₀ : Heap} {L : Addr} {led : List (Addr × Obj)} {value slice : Expr} {t : Addr} {v : Value} {vs : List Value} {u : Tok} {Q : Value → Shared → Prop} (N : News h₀ L s.heap led) (hm : (t, tupO (v :: vs).toArray) ∈ led) (h : Q v s)
    (hs : subscripted slice false (.ref t) (.int 0 u) = operate [.ref t, .int 0 u] (getItem (.ref t) (.int 0 u))) :
    wpAny (model prog w) A (subscriptTail value slice (.ref t) (.int 0 u)) Q E s :=
  item_tupleT (News.isTup N hm) (by decide) (by decide) (by unfold seqIndex?; simp <;> omega) (x := v) (j := 0) rfl h hs
theorem fspath_map
 {w : World} {dp un : Nat} {gd : Option (List Code)} {cn : Str} {cs : Scope} {a : Addr} {ccd : Value} {cl : List (Str × Addr)} {outer : List Env} {A₀ : Around} {base h₀ : Heap} {L : Addr} {m : Str → Option Value} {s : Shared}
    {p : Program} {loose : List Str} {mean : ExcName → Option Value} {mg mb : Str → Option Value}
    (B : Below A₀ base outer h₀) (X : (Mine.frag w.params).In h₀) (T : Top p loose mean mg mb h₀) (hk : cs.kind = .function)
    (hdp : dp + 2 < recursionLimit) (hun : un + 20 < cLine)
    {refs : List Value} {xs : List Str} (hS : StrsAre refs xs) : MapCall PySem.Challenge.rw_ik0222_01.row.prog w (ktrTop dp un gd cn cs L a ccd cl outer) h₀ L m (.ref 371) refs (fun i v => refs[i]? = some v) s := by
  intro i x h tk led Q E hx F N hQ
  obtain ⟨y, t, _, rfl⟩ := sa_at hS hx
  exact fspath_spec (s := { s with heap := h, toks := tk }) B F X N T hk hdp hun fun h' tk' F' N' => hQ h' tk' _ hx F' N'
theorem commonpath_spec
 {w : World} {dp un : Nat} {gd : Option (List Code)} {cn : Str} {cs : Scope} {a : Addr} {ccd : Value} {cl : List (Str × Addr)} {outer : List Env} {A₀ : Around} {base h₀ : Heap} {L : Addr} {m : Str → Option Value} {news : List (Addr × Obj)} {s : Shared}
    {Q E : Value → Shared → Prop} {p : Program} {loose : List Str} {mean : ExcName → Option Value} {mg mb : Str → Option Value}
    (B : Below A₀ base outer h₀) (F : Fr h₀ L s.heap m) (X : (Mine.frag w.params).In h₀) (N : News h₀ L s.heap news) (T : Top p loose mean mg mb h₀) (hk : cs.kind = .function)
    (hdp : dp + 6 < recursionLimit) (hun : un + 60 < cLine)
    {ra : Addr} {refs : List Value} {nc : Nat} {xs : List Str} {nss : List (List Str)} (hra : (ra, lstO refs nc) ∈ news) (hS : StrsAre refs xs) (hG : All2 GoodPath xs nss) (hsz : refs.length ≤ 8) (hne : 0 < refs.length)
    (ret : ∀ h' tk' t' s1 k, s1 ∈ nss → IsShared nss s1 k → Fr h₀ L h' m → News h₀ L h' news → Q (.str (Str.ofString "/" ++ Txt.join (Str.ofString "/") (s1.take k)) t') { s with heap := h', toks := tk' }) :
    wpAny (model PySem.Challenge.rw_ik0222_01.row.prog w) (ktrTop dp un gd cn cs L a ccd cl outer) (call (.ref 397) [.ref ra]) Q E s := by
  k_with_none
  k_with "call builtin:str.split" => w_strict (k_here; (with_reducible show wpAny _ _ (call (Value.builtin "str.split") [Value.str _ _, Value.str _ _]) _ _ _); k_dflt (refine' split_led ?k1w44 ?k2w44 ?k3w44 ?k4w44 ?_; (case k1w44 => k_asm); (case k2w44 => k_asm); (case k3w44 => first | with_reducible assumption | omega); (case k4w44 => first | rfl | decide); k_whole); intro _ _ _ _ _ _ _ _ _ _; (try k_sweep))
  k_with "subscriptTail" => w_strict (k_here; (with_reducible show wpAny _ _ (subscriptTail _ (PySem.Expr.Slice none (some _) none _) (Value.ref _) (Value.ref _)) _ _ _); k_dflt (refine' slice_strs (s := ⟨_, _, _, _, _⟩) ?Fw45 ?Nw45 ?lw45 ?iw45 ?zw45 ?pw45 ?qw45 ?xw45 ?_ ?sw45; (case Fw45 => k_asm); (case Nw45 => k_asm); (case lw45 => k_mem); (case pw45 => kmk_part); (case qw45 => kmk_part); (case iw45 => with_reducible assumption); (case zw45 => first | with_reducible assumption | omega); (case xw45 => first | exact (Int.natCast_succ _).symm | rfl); (case sw45 => with_unfolding_all rfl)); intro _ _ _ _ _ _ _ _; (try k_sweep))
  k_with "call builtin:str.join" => w_strict (k_here; (with_reducible show wpAny _ _ (call (Value.builtin "str.join") [Value.str _ _, Value.ref _]) _ _ _); k_dflt (refine' join_led ?k1w46 ?k2w46 ?k3w46 ?k4w46 ?k5w46 ?_; (case k1w46 => k_asm); (case k2w46 => k_mem); (case k3w46 => with_reducible assumption); (case k4w46 => with_reducible assumption); (case k5w46 => decide); k_whole); intro _ _ _)
  k_with "subscriptTail" => w_strict (k_here; (with_reducible show wpAny _ _ (subscriptTail _ _ (Value.ref _) (Value.int _ _)) _ _ _); k_dflt (refine' item_led ?Nw47 ?mw47 ?aw47 ?bw47 ?xw47 ?_ ?sw47; (case Nw47 => k_asm); (case mw47 => k_mem); (case aw47 => first | decide | omega); (case bw47 => first | decide | omega); (case xw47 => first | rfl | assumption); (case sw47 => with_unfolding_all rfl); k_whole))
  k_with "call type:map" => w_strict (k_here; (with_reducible show wpAny _ _ (call (Value.type "map") [Value.ref 371, Value.ref _]) _ _ _); k_dflt (refine' call_map ?Fw48 ?Nw48 ?lw48 ?_; (case Fw48 => k_asm); (case Nw48 => k_asm); (case lw48 => k_mem); k_whole); intro _ _ _ _ _ _ _ _ _ _ _; (try dsimp only))
  k_with "call type:tuple" => w_strict (k_here; (with_reducible show wpAny _ _ (call (Value.type "tuple") [Value.ref _]) _ _ _); k_dflt (refine' call_tuple_map (nl := _) ?hhw49 ?hnw49 ?hlw49 ?ziw49 ?tiw49 ?ofw49 (fspath_map ?k1w49 ?k3w49 ?k5w49 ?k6w49 ?k7w49 ?k8w49 ?hSw49) ?Fw49 ?Nw49 ?hitw49 ?_; (case Nw49 => k_asm); (case Fw49 => k_asm); (case hitw49 => assumption); (case hlw49 => k_mem); (case hhw49 => first | exact rfl | assumption); (case hnw49 => rw [PySem.sizeLine_eq]; omega); (case ziw49 => assumption); (case tiw49 => assumption); (case ofw49 => assumption); (case k1w49 => k_asm); (case k3w49 => k_asm); (case k5w49 => k_asm); (case k6w49 => first | exact rfl | assumption); (case k7w49 => ktr_room); (case k8w49 => ktr_units); (case hSw49 => with_reducible assumption); k_whole); intro _ _ _ _ _ _ l1' hI'; (have e' := items_same hI'; subst e'); clear hI'; (try k_lt l1'); (try dsimp only))
  k_with "truthy ref" => w_strict (k_here; (with_reducible show wpAny _ _ (truthy (Value.ref _)) _ _ _); k_dflt (refine' ktl_truthyK ?Nw50 ?mw50 ?zw50 ?_; (case Nw50 => k_asm); (case mw50 => k_mem); (case zw50 => omega); k_whole); (try simp only [List.isEmpty_cons, List.isEmpty_nil, Bool.not_false, Bool.not_true]))
  k_with "subscriptTail" => w_strict (k_here; (with_reducible show wpAny _ _ (subscriptTail _ _ (Value.ref _) (Value.int 0 _)) _ _ _); k_dflt (refine' item_tup0 ?Nw51 ?mw51 ?_ ?sw51; (case Nw51 => k_asm); (case mw51 => k_mem); (case sw51 => with_unfolding_all rfl); k_whole))
  k_with "exec Try" => w_strict (k_here; refine wpAny_Try_except ?_)
  k_with "exec Assign cons ListComp" => w_strict (k_here; k_dflt (refine LCg.Assign_ListComp_U (F₀ := by k_asm) (by rfl) (by with_unfolding_all rfl) (by with_unfolding_all rfl) (by decide) (by rfl) (by decide) (by rfl) (by rfl) (by rfl) ?_); walk1; k_dflt (refine LCg.CompSrc.ledger (by rfl) (by k_asm) (by k_asm) (by k_mem) (by rw [PySem.sizeLine_eq, List.size_toArray]; omega) ?_))
  k_with "exec Assign cons ListComp" => w_strict (k_here; k_dflt (refine Assign_ListComp_tup (F₀ := by k_asm) (by rfl) (by with_unfolding_all rfl) (by with_unfolding_all rfl) (by decide) (by rfl) (by decide) (by rfl) (by rfl) (by rfl) ?_); walk1; k_dflt (refine TupSrc.intro (by rfl) (by k_asm) (by k_asm) (by k_mem) (by rw [PySem.sizeLine_eq, List.size_toArray]; omega) ?_))
  k_with "eval SetComp" => w_strict (k_here; k_dflt (refine SetComp_tup (F₀ := by k_asm) (by with_unfolding_all rfl) (by decide) (by rfl) (by decide) (by rfl) ?_); walk1; k_dflt (refine SetSrc.intro (by rfl) (by k_asm) (by k_asm) (by k_mem) (by exact Nat.zero_lt_succ _) ?_ ?_))
  k_with "assign Tuple" => w_strict (k_here; k_dflt (refine' unpack_set1 ?hw56 ?Fw56 ?Nw56 ?mw56 ?_; (case hw56 => first | exact rfl | assumption); (case Fw56 => k_asm); (case Nw56 => k_asm); (case mw56 => k_mem); k_whole); intro _ _ _; (try k_sweep))
  k_with "eval ListComp" => w_strict (k_here; k_dflt (refine LCt.ListComp_T (F₀ := by k_asm) (by with_unfolding_all rfl) (by decide) (by rfl) (by decide) (by rfl) ?_))
  k_with "call builtin:min" => w_strict (k_here; (with_reducible show wpAny _ _ (call (Value.builtin "min") [Value.ref _]) _ _ _); k_dflt (refine' min_led (s := ⟨_, _, _, _, _⟩) ?hw58 ?Fw58 ?Nw58 ?lw58 ?Rw58 ?nw58 ?uw58 ?_; (case hw58 => first | exact rfl | assumption); (case Fw58 => k_asm); (case Nw58 => k_asm); (case lw58 => k_mem); (case Rw58 => with_reducible assumption); (case nw58 => omega); (case uw58 => ktr_units); k_whole); intro _ _ _ _ _ _ _ _ _ _ _ _; (try k_sweep))
  k_with "call builtin:max" => w_strict (k_here; (with_reducible show wpAny _ _ (call (Value.builtin "max") [Value.ref _]) _ _ _); k_dflt (refine' max_led (s := ⟨_, _, _, _, _⟩) ?hw59 ?Fw59 ?Nw59 ?lw59 ?Rw59 ?nw59 ?uw59 ?_; (case hw59 => first | exact rfl | assumption); (case Fw59 => k_asm); (case Nw59 => k_asm); (case lw59 => k_mem); (case Rw59 => with_reducible assumption); (case nw59 => omega); (case uw59 => ktr_units); k_whole); intro _ _ _ _ _ _ _ _ _ _ _ _; (try k_sweep))
  k_with "exec For Tuple Call" => w_strict (k_here; k_dflt (refine wpAny_For ?_ (by intro _; rfl)); refine Halt.go ?_)
  revert X; k_fill; intro X
  refine wpAny_call ?_
  k_dflt (refine' code_defC ?k1 ?k2 ?k3 ?k4 ?k5 ?kA ?kF ?kK ?k6 ?k7 ?k8 ?k9 ?kB ?kD ?_ ?c2 ?c3 ?c4; (case kA => exact rfl); (case kF => exact rfl); (case kK => first | exact rfl | assumption); (case k1 => k_asm); (case k2 => k_asm); (case k3 => k_asm); (case k4 => k_asm); (case k5 => k_asm); (case k6 => k_is); (case k7 => k_is); (case k8 => ktr_room); (case k9 => exact BindsTo.of_eq rfl); (case kB => exact rfl); (case kD => decide +kernel); (case c2 => exact rfl); (case c3 => exact rfl); (case c4 => exact rfl); k_whole; intro g' L' h' tk' cells' FG' F' N' Y' B' X' T' l1; (try k_lt l1); k_cells Y'; (try simp only [List.cons_append, List.nil_append] at N'); (try dsimp only); (try k_fold))
  obtain ⟨v0, vr, rfl⟩ : ∃ v0 vr, refs = v0 :: vr := by cases refs with | nil => exact absurd hne (by decide) | cons a b => exact ⟨a, b, rfl⟩
  obtain ⟨y0, t0, yr, rfl, rfl⟩ : ∃ y0 t0 yr, xs = y0 :: yr ∧ v0 = .str y0 t0 := by cases hS with | cons y t r => exact ⟨_, _, _, rfl, rfl⟩
  have hsh : ∀ x ∈ y0 :: yr, x.length ≤ 5000 := fun x hx => let ⟨_, _, g⟩ := all2_mem hG x hx; good_short g
  have hst : ∀ x ∈ y0 :: yr, Txt.startswith x (Str.ofString "/") = true := fun x hx => let ⟨_, _, g⟩ := all2_mem hG x hx; g.starts
  have hrp : ∀ r ∈ (y0 :: yr).map partsOf, r.length ≤ 1000 ∧ ∀ c ∈ r, c.length ≤ 1000 := fun r hr => by
    obtain ⟨x, hx, rfl⟩ := List.mem_map.mp hr
    obtain ⟨_, _, g⟩ := all2_mem hG x hx
    exact ⟨g.nparts, g.plens⟩
  k_steps
  (rename Fr _ _ _ _ => lF)
  (rename News _ _ _ _ => lN)
  rename_i T' _ _ _ _ _ _ _ _ oS dS _ oD dD _ _
  refine rest_grow1 (news := _) (Rel := fun _ => StrRel) (Rel' := RowRel) partsOf (all2_strs hS) (fun i v e => by simpa using e) (fun _ _ _ _ _ h => h) (fun _ _ _ _ h r => r.mono h) (fun l h => h _ List.mem_cons_self) ?_ ?_
  · intro led v x I oI C oC D m₂ ys h tk E' hl hx hr hC hx' F' N' off ne
    obtain ⟨t, rfl⟩ := hr
    have hxs := hsh x hx
    have mS := hl _ (List.mem_cons_of_mem _ (List.mem_cons_of_mem _ List.mem_cons_self))
    clear lF lN hl
    k_steps
    (rename Fr _ _ _ _ => F9)
    (rename News _ _ _ _ => N9)
    (rename (∀ p : Addr × Obj, p ∈ _ → p.1 < _) => l9)
    (rename (StrsAre _ _) => S9)
    (rename (_ = Txt.split _ _) => e9)
    exact Grow1.one F9 N9 l9 ⟨_, _, _, rfl, List.mem_cons_self, by unfold partsOf; rw [← e9]; exact S9⟩
  · intro ys led hl hys
    intro D h tk F' N' off
    have hyl : ys.length ≤ 8 := by
      have e1 := hys.len
      have e2 := (all2_strs hS).len
      rw [List.length_map] at e1
      omega
    have mT := hl _ List.mem_cons_self
    have mD := hl _ (List.mem_cons_of_mem _ List.mem_cons_self)
    have mS := hl _ (List.mem_cons_of_mem _ (List.mem_cons_of_mem _ List.mem_cons_self))
    have hn : ∀ p ∈ news, p ∈ led := fun p hp => hl p (List.mem_cons_of_mem _ (List.mem_cons_of_mem _ (List.mem_cons_of_mem _ hp)))
    clear lF lN hl
    k_steps
    · intro i v I oI C oC D' oD' m₂ h₂ tk₂ E' hv hC hx' F₂ N₂ off₂ ne₂
      obtain ⟨x, t, hx, rfl⟩ := sa_at hS (by simpa using hv)
      have hxm : x ∈ y0 :: yr := List.mem_of_getElem? hx
      have hxs := hsh x hxm
      have hxt := hst x hxm
      k_steps
      (rename Fr _ _ _ _ => F9)
      (rename News _ _ _ _ => N9)
      exact ⟨_, _, rfl, F9, N9, congrArg Value.bool hxt⟩
    · (rename Fr _ _ _ _ => lF)
      (rename News _ _ _ _ => lN)
      refine rest_grow1 (news := _) (Rel := RowRel) (Rel' := RowRel) (fun r => r.filter nonDot) (hys.mono fun _ _ r => r.mono fun p hp => List.mem_cons_of_mem _ (List.mem_cons_of_mem _ hp)) (fun i v e => by simpa using e) (fun _ _ _ _ h r => r.mono h) (fun _ _ _ _ h r => r.mono h) (fun l h => .inr ⟨_, h _ (List.mem_cons_of_mem _ List.mem_cons_self), rfl, _, rfl⟩) ?_ ?_
      · intro led v r I oI C oC D m₂ ys h tk E' hl hx hr hC hx' F' N' off ne
        obtain ⟨ar, vsr, ncr, rfl, har, hSr⟩ := hr
        have hrl := (hrp r hx).1
        have hrc := (hrp r hx).2
        have mD' := hl _ (List.mem_cons_of_mem _ (List.mem_cons_of_mem _ mD))
        have hvl : vsr.length ≤ 1000 := by rw [sa_len hSr]; exact hrl
        clear lF lN hl
        k_steps
        refine LCt.CompSrcT.ledger (k := ncr) (s₁ := ⟨_, _, _, _, _⟩) rfl F' N' (by k_mem) (by rw [List.size_toArray, PySem.sizeLine_eq]; omega) ?_
        intro g
        refine restT_filter (Rel' := StrRel) nonDot id (all2_strs hSr) (fun i v e => by simpa using e) (.inr ⟨_, by k_mem, rfl, _, rfl⟩) ?_ ?_
        · intro v c I2 oI2 C2 oC2 D2 m₃ ys2 h2 tk2 E2 hc hv hC2 hx2 F2 N2 off2 ne2
          obtain ⟨tc, rfl⟩ := hv
          have hcl := hrc c hc
          clear F' N'
          k_steps
          all_goals first
            | assumption
            | exact nd_true (by assumption) (by assumption)
            | exact nd_dot (by assumption)
            | exact nd_len (by assumption)
            | exact ⟨_, _, rfl, F2, N2, ⟨_, rfl⟩⟩
        · intro ys2 hys2
          intro D2 h2 tk2 F2 N2 off2
          k_steps
          rw [List.map_id] at hys2
          exact Grow1.off F2 N2 off2 ⟨_, _, _, rfl, List.mem_cons_self, strs_all2 hys2⟩
      · intro ys led2 hl2 hys2
        intro D2 h2 tk2 F2 N2 off2
        rw [parts_eq hG] at hys2
        have mT2 := hl2 _ (List.mem_cons_of_mem _ (List.mem_cons_of_mem _ mT))
        have mD2 := hl2 _ (List.mem_cons_of_mem _ (List.mem_cons_of_mem _ mD))
        have mS2 := hl2 _ (List.mem_cons_of_mem _ (List.mem_cons_of_mem _ mS))
        have hn2 : ∀ p ∈ news, p ∈ led2 := fun p hp => hl2 p (List.mem_cons_of_mem _ (List.mem_cons_of_mem _ (hn p hp)))
        have hRR : All2 (RowRel ((D2, LCg.lst ys) :: led2)) ys nss := hys2.mono fun _ _ r => r.mono fun p hp => List.mem_cons_of_mem _ hp
        have hyl2 : 0 < ys.length := by
          have e1 := hys2.len
          have e2 := hG.len
          have e3 := (all2_strs hS).len
          omega
        clear lF lN hl2
        k_steps
        refine Halt.on ?_
        iterate 6 walk1
        (rename Fr _ _ _ _ => lF)
        (rename News _ _ _ _ => lN)
        rename_i a1 vs1 n1 r1 _ _ hm1 hS1 hr1 ho1 _ _ a2 vs2 n2 r2 _ _ hm2 hS2 hr2 ho2 _ _
        obtain ⟨_, _, g1⟩ := all2_mem' hG r1 hr1
        obtain ⟨_, _, g2⟩ := all2_mem' hG r2 hr2
        have w1 := g1.weighs
        have w2 := g2.weighs
        have q1 := Nat.le_trans (len_le_weigh r1) w1
        have q2 := Nat.le_trans (len_le_weigh r2) w2
        clear g1 g2
        refine call_enumerate_list (s := ⟨_, _, _, _, _⟩) (News.isList lN hm1) ?_
        intro h' he hit hsz hk9
        refine wpAny_pyIter_enum he ?_
        have lF' := Fr.stays lF hk9
        have lN' := News.stays lN hk9
        refine loopEnumL (s := ⟨_, _, _, _, _⟩) (J := fun j => r1.take j = r2.take j) (by rfl) rfl rfl rfl rfl hm1 lF' lN' he hit (Nat.succ_ne_self _) (Fr.fresh lF (Nat.le_succ _)) (Fr.fresh lF (Nat.le_refl _)) (Fr.neL lF (Nat.le_succ _)) (Fr.neL lF (Nat.le_refl _)) (fun p hp => ⟨News.off lN (Nat.le_succ _) p hp, News.off lN (Nat.le_refl _) p hp⟩) (by simp) ?_ ?_
        · clear lF lN lF' lN' he hit hk9
          intro j v oe oi t₁ h tk E' hv hJ F' N'
          obtain ⟨c, tc, hc, rfl⟩ := sa_at hS1 hv
          have hj1 : j < r1.length := (List.getElem?_eq_some_iff.mp hc).1
          have hj2 : j < r2.length := goes_on hJ hj1 (ho2 r1 hr1)
          obtain ⟨td, hd⟩ := sa_get hS2 (j := j) (by rw [sa_len hS2]; exact hj2)
          have hd' : vs2[((j : Nat) : Int).toNat]? = some (.str r2[j] td) := by rw [Int.toNat_natCast, ← hd]; exact List.getElem?_eq_getElem _
          have hd2 : r2[j]? = some r2[j] := List.getElem?_eq_getElem hj2
          generalize hdd : r2[j] = d at hd' hd2
          clear hd hdd
          have wj := Nat.le_trans (weigh_take r1 j) w1
          k_steps
          · refine EnumEndL.brk ?_
            k_steps
            have hne2 : c ≠ d := by simpa using (by assumption : (c != d) = true)
            exact ret _ _ _ r1 j hr1 (shared_of_ends hr2 ho1 ho2 (Nat.le_of_lt hj1) hJ (.inr (take_ne hc hd2 hne2))) (by assumption)
              (fun p hp => (by assumption : News h₀ L _ _) p (List.mem_cons_of_mem _ (List.mem_cons_of_mem _ (List.mem_cons_of_mem _ (List.mem_cons_of_mem _ (hn2 p hp))))))
          · have hcd : c = d := by simpa using (by assumption : (c != d) = false)
            subst hcd
            exact EnumEndL.next F' N' agree2_of (take_eq hJ hc hd2)
        · intro m' h tk hJ F' ag N'
          rw [sa_len hS1] at hJ
          obtain ⟨va, vb, F''⟩ := fr_agree2 F' ag
          clear F' ag lF lN lF' lN' he hit hk9
          dsimp only
          k_steps
          have hsh2 := shared_of_ends hr2 ho1 ho2 (Nat.le_refl _) hJ (.inl rfl)
          have hq := fun h' tk' t' => ret h' tk' t' r1 r1.length hr1 hsh2
          simp only [List.take_length] at hq
          exact hq _ _ _ (by assumption) (fun p hp => (by assumption : News h₀ L _ _) p (List.mem_cons_of_mem _ (hn2 p hp)))
end
end Mine
end
section
open PySem.Calls PySem.Spec
namespace Mine
section
local macro_rules | `(tactic| k_all) => `(tactic| first | with_reducible assumption | exact offs_lt (by with_reducible assumption) (by omega))
local macro_rules | `(tactic| k_mem) => `(tactic| first | with_reducible assumption | exact List.mem_cons_self | (refine' List.mem_cons_of_mem _ ?_; k_mem))
theorem commonpath_none
 {w : World} {dp un : Nat} {gd : Option (List Code)} {cn : Str} {cs : Scope} {a : Addr} {ccd : Value} {cl : List (Str × Addr)} {outer : List Env} {A₀ : Around} {base h₀ : Heap} {L : Addr} {m : Str → Option Value} {news : List (Addr × Obj)} {s : Shared}
    {Q E : Value → Shared → Prop} {p : Program} {loose : List Str} {mean : ExcName → Option Value} {mg mb : Str → Option Value}
    (B : Below A₀ base outer h₀) (F : Fr h₀ L s.heap m) (X : (Mine.frag w.params).In h₀) (N : News h₀ L s.heap news) (T : Top p loose mean mg mb h₀) (hk : cs.kind = .function)
    (hdp : dp + 6 < recursionLimit) (hun : un + 60 < cLine)
    {ra : Addr} {nc : Nat} (hra : (ra, lstO [] nc) ∈ news)
    (fail : ∀ e h' tk' G, Fr h₀ L G m → RaisedSN base G (envX cn cs L a ccd cl :: outer) e (.type "ValueError") news h' → G.UpToSlots h' → E (.ref e) { s with heap := h', toks := tk' }) :
    wpAny (model PySem.Challenge.rw_ik0222_01.row.prog w) (ktrTop dp un gd cn cs L a ccd cl outer) (call (.ref 397) [.ref ra]) Q E s := by
  k_with_none
  k_with "call type:map" => w_strict (k_here; (with_reducible show wpAny _ _ (call (Value.type "map") [Value.ref 371, Value.ref _]) _ _ _); k_dflt (refine' call_map ?Fw61 ?Nw61 ?lw61 ?_; (case Fw61 => k_asm); (case Nw61 => k_asm); (case lw61 => k_mem); k_whole); intro _ _ _ _ _ _ _ _ _ _ _; (try dsimp only))
  k_with "call type:tuple" => w_strict (k_here; (with_reducible show wpAny _ _ (call (Value.type "tuple") [Value.ref _]) _ _ _); k_dflt (refine' call_tuple_map (nl := _) ?hhw62 ?hnw62 ?hlw62 ?ziw62 ?tiw62 ?ofw62 (fspath_map ?k1w62 ?k3w62 ?k5w62 ?k6w62 ?k7w62 ?k8w62 ?hSw62) ?Fw62 ?Nw62 ?hitw62 ?_; (case Nw62 => k_asm); (case Fw62 => k_asm); (case hitw62 => assumption); (case hlw62 => k_mem); (case hhw62 => first | exact rfl | assumption); (case hnw62 => rw [PySem.sizeLine_eq]; omega); (case ziw62 => assumption); (case tiw62 => assumption); (case ofw62 => assumption); (case k1w62 => k_asm); (case k3w62 => k_asm); (case k5w62 => k_asm); (case k6w62 => first | exact rfl | assumption); (case k7w62 => ktr_room); (case k8w62 => ktr_units); (case hSw62 => with_reducible assumption); k_whole); intro _ _ _ _ _ _ l1' hI'; (have e' := items_same hI'; subst e'); clear hI'; (try k_lt l1'); (try dsimp only))
  k_with "truthy ref" => w_strict (k_here; (with_reducible show wpAny _ _ (truthy (Value.ref _)) _ _ _); k_dflt (refine' ktl_truthyK ?Nw63 ?mw63 ?zw63 ?_; (case Nw63 => k_asm); (case mw63 => k_mem); (case zw63 => omega); k_whole); (try simp only [List.isEmpty_cons, List.isEmpty_nil, Bool.not_false, Bool.not_true]))
  k_with "leaving ref" => w_strict (k_here; refine Halt.go ?_)
  k_with "exec Raise some none" => w_strict (k_here; refine Raise_new rfl ?_)
  revert X; k_fill; intro X
  refine wpAny_call ?_
  k_dflt (refine' code_defC ?k1 ?k2 ?k3 ?k4 ?k5 ?kA ?kF ?kK ?k6 ?k7 ?k8 ?k9 ?kB ?kD ?_ ?c2 ?c3 ?c4; (case kA => exact rfl); (case kF => exact rfl); (case kK => first | exact rfl | assumption); (case k1 => k_asm); (case k2 => k_asm); (case k3 => k_asm); (case k4 => k_asm); (case k5 => k_asm); (case k6 => k_is); (case k7 => k_is); (case k8 => ktr_room); (case k9 => exact BindsTo.of_eq rfl); (case kB => exact rfl); (case kD => decide +kernel); (case c2 => exact rfl); (case c3 => exact rfl); (case c4 => exact rfl); k_whole; intro g' L' h' tk' cells' FG' F' N' Y' B' X' T' l1; (try k_lt l1); k_cells Y'; (try simp only [List.cons_append, List.nil_append] at N'); (try dsimp only); (try k_fold))
  have hS : StrsAre [] [] := .nil
  have hrl : ([] : List Value).length ≤ 8 := by decide
  k_steps
  (rename Heap.NewExc _ _ _ _ => hN)
  (rename News g' _ _ _ => N9)
  (rename Fr g' _ _ _ => F9)
  refine Halt.on (leave_new rfl rfl B' (.ofNew hN) F9 N9 ?_)
  intro h5 R5 U5
  exact fail _ _ _ _ FG' (Mine.RaisedSN.sub R5 fun p hp => List.mem_cons_of_mem _ (List.mem_cons_of_mem _ (List.mem_cons_of_mem _ hp))) U5
end
end Mine
end
section
open PySem.Calls PySem.Spec
namespace Mine
section
local macro_rules | `(tactic| k_all) => `(tactic| first | with_reducible assumption | exact offs_lt (by with_reducible assumption) (by omega))
local macro_rules | `(tactic| k_mem) => `(tactic| first | with_reducible assumption | exact List.mem_cons_self | (refine' List.mem_cons_of_mem _ ?_; k_mem))
theorem filt_nil {ys : List Value} {nss : List (List Str)} {n0 : List Str} {k : Nat} (h : All2 (fun _ _ => True) ys (List.map id (nss.filter fun r => decide (r.take (k + 1) ≠ n0.take (k + 1))))) (hy : ys.isEmpty = true) : ∀ r ∈ nss, r.take (k + 1) = n0.take (k + 1) := by
  intro r hr
  have e := h.len
  rw [List.isEmpty_iff.mp hy, List.map_id] at e
  have e2 : (nss.filter fun r => decide (r.take (k + 1) ≠ n0.take (k + 1))) = [] := List.eq_nil_of_length_eq_zero e.symm
  have := List.filter_eq_nil_iff.mp e2 r hr
  simpa using this
theorem filt_some {ys : List Value} {nss : List (List Str)} {n0 : List Str} {k : Nat} (h : All2 (fun _ _ => True) ys (List.map id (nss.filter fun r => decide (r.take (k + 1) ≠ n0.take (k + 1))))) (hy : ys.isEmpty = false) : ∃ r ∈ nss, r.take (k + 1) ≠ n0.take (k + 1) := by
  have e := h.len
  rw [List.map_id] at e
  cases hf : (nss.filter fun r => decide (r.take (k + 1) ≠ n0.take (k + 1))) with
  | nil =>
    rw [hf] at e
    rw [List.eq_nil_of_length_eq_zero e] at hy
    exact absurd hy (by decide)
  | cons r rest =>
    have hm : r ∈ (nss.filter fun r => decide (r.take (k + 1) ≠ n0.take (k + 1))) := by rw [hf]; exact List.mem_cons_self
    have := List.mem_filter.mp hm
    exact ⟨r, this.1, of_decide_eq_true this.2⟩
theorem shared_spec
 {w : World} {dp un : Nat} {gd : Option (List Code)} {cn : Str} {cs : Scope} {a : Addr} {ccd : Value} {cl : List (Str × Addr)} {outer : List Env} {A₀ : Around} {base h₀ : Heap} {L : Addr} {m : Str → Option Value} {news : List (Addr × Obj)} {s : Shared}
    {Q E : Value → Shared → Prop} {p : Program} {loose : List Str} {mean : ExcName → Option Value} {mg mb : Str → Option Value}
    (B : Below A₀ base outer h₀) (F : Fr h₀ L s.heap m) (X : (Mine.frag w.params).In h₀) (N : News h₀ L s.heap news) (T : Top p loose mean mg mb h₀) (hk : cs.kind = .function)
    (hdp : dp + 2 < recursionLimit) (hun : un + 20 < cLine)
    {ra : Addr} {refs : List Value} {nc : Nat} {n0 : List Str} {nss : List (List Str)} (hra : (ra, lstO refs nc) ∈ news) (hR : All2 (RowRel news) refs (n0 :: nss)) (hsz : refs.length ≤ 8) (hlen : ∀ r ∈ n0 :: nss, r.length ≤ 1000)
    (ret : ∀ D h' tk' ws n k, Fr h₀ L h' m → News h₀ L h' ((D, lstO ws n) :: news) → (∀ p ∈ news, p.1 < D) → StrsAre ws (n0.take k) → IsShared (n0 :: nss) n0 k → Q (.ref D) { s with heap := h', toks := tk' }) :
    wpAny (model PySem.Challenge.rw_ik0222_01.row.prog w) (ktrTop dp un gd cn cs L a ccd cl outer) (call (.ref 461) [.ref ra]) Q E s := by
  k_with_none
  k_with "compareOp NotEq ref ref" => w_strict (k_here; k_dflt (refine' ne_strs (s := ⟨_, _, _, _, _⟩) ?lw66 ?bw66 ?xw66 ?yw66 ?uw66 ?_; (case lw66 => exact News.isList (by k_asm) (by k_mem)); (case bw66 => exact News.isList (by k_asm) (by k_mem)); (case xw66 => with_reducible assumption); (case yw66 => with_reducible assumption); (case uw66 => ktr_units); k_whole))
  k_with "compareOp Eq ref ref" => w_strict (k_here; k_dflt (refine' eq_nil (s := ⟨_, _, _, _, _⟩) ?lw67 ?bw67 ?uw67 ?_; (case lw67 => exact News.isList (by k_asm) (by k_mem)); (case bw67 => exact News.isList (by k_asm) (by k_mem)); (case uw67 => ktr_units); k_whole))
  k_with "subscriptTail" => w_strict (k_here; (with_reducible show wpAny _ _ (subscriptTail _ (PySem.Expr.Slice none (some _) none _) (Value.ref _) (Value.ref _)) _ _ _); k_dflt (refine' slice_strs (s := ⟨_, _, _, _, _⟩) ?Fw68 ?Nw68 ?lw68 ?iw68 ?zw68 ?pw68 ?qw68 ?xw68 ?_ ?sw68; (case Fw68 => k_asm); (case Nw68 => k_asm); (case lw68 => k_mem); (case pw68 => kmk_part); (case qw68 => kmk_part); (case iw68 => with_reducible assumption); (case zw68 => first | with_reducible assumption | omega); (case xw68 => first | exact (Int.natCast_succ _).symm | rfl); (case sw68 => with_unfolding_all rfl)); intro _ _ _ _ _ _ _ _; (try k_sweep))
  k_with "eval ListComp" => w_strict (k_here; k_dflt (refine LCt.ListComp_T (F₀ := by k_asm) (by with_unfolding_all rfl) (by decide) (by rfl) (by decide) (by rfl) ?_))
  k_with "call builtin:len" => w_strict (k_here; (with_reducible show wpAny _ _ (call (Value.builtin "len") [Value.ref _]) _ _ _); k_dflt (refine' len_strs ?Nw70 ?mw70 ?aw70 ?bw70 ?_; (case Nw70 => k_asm); (case mw70 => k_mem); (case aw70 => with_reducible assumption); (case bw70 => first | assumption | omega); k_whole); intro _ _)
  k_with "subscriptTail" => w_strict (k_here; (with_reducible show wpAny _ _ (subscriptTail _ _ (Value.ref _) (Value.int _ _)) _ _ _); k_dflt (refine' item_led ?Nw71 ?mw71 ?aw71 ?bw71 ?xw71 ?_ ?sw71; (case Nw71 => k_asm); (case mw71 => k_mem); (case aw71 => first | decide | omega); (case bw71 => first | decide | omega); (case xw71 => first | rfl | assumption); (case sw71 => with_unfolding_all rfl); k_whole))
  revert X; k_fill; intro X
  refine wpAny_call ?_
  k_dflt (refine' code_defC ?k1 ?k2 ?k3 ?k4 ?k5 ?kA ?kF ?kK ?k6 ?k7 ?k8 ?k9 ?kB ?kD ?_ ?c2 ?c3 ?c4; (case kA => exact rfl); (case kF => exact rfl); (case kK => first | exact rfl | assumption); (case k1 => k_asm); (case k2 => k_asm); (case k3 => k_asm); (case k4 => k_asm); (case k5 => k_asm); (case k6 => k_is); (case k7 => k_is); (case k8 => ktr_room); (case k9 => exact BindsTo.of_eq rfl); (case kB => exact rfl); (case kD => decide +kernel); (case c2 => exact rfl); (case c3 => exact rfl); (case c4 => exact rfl); k_whole; intro g' L' h' tk' cells' FG' F' N' Y' B' X' T' l1; (try k_lt l1); k_cells Y'; (try simp only [List.cons_append, List.nil_append] at N'); (try dsimp only); (try k_fold))
  have hR' := hR
  have h0 : n0.length ≤ 1000 := hlen n0 List.mem_cons_self
  cases hR with
  | @cons v0 _ vr _ hv0 hvr =>
  obtain ⟨a0, vs0, nc0, rfl, ha0, hS0⟩ := hv0
  iterate 5 walk1
  (rename Fr _ _ _ _ => lF)
  (rename News _ _ _ _ => lN)
  (rename (Obj.data _ = Data.cell (some (Value.int 0 _))) => ld)
  refine while_one (s := ⟨_, _, _, _, _⟩) (fun n o => ∃ k t, n = n0.length + 1 - k ∧ k ≤ n0.length ∧ o.data = Data.cell (some (Value.int (k : Nat) t)) ∧ ∀ r ∈ n0 :: nss, r.take k = n0.take k) (n0.length + 1) lF lN ⟨0, _, rfl, Nat.zero_le _, ld, fun _ _ => rfl⟩ ?_
  clear lF lN ld
  rintro n o h tk E' ⟨k, t, rfl, hk, d', hall⟩ F' N'
  k_steps
  · refine LCt.CompSrcT.ledger (k := nc) (s₁ := ⟨_, _, _, _, _⟩) rfl F' N' (by k_mem) (by rw [List.size_toArray, PySem.sizeLine_eq]; omega) ?_
    intro g
    refine restT_filter (Rel' := fun _ _ => True) (fun r => decide (r.take (k + 1) ≠ n0.take (k + 1))) id hR' (fun i v e => by simpa using e) (.inr ⟨_, by k_mem, rfl, _, rfl⟩) ?_ ?_
    · intro v r I oI C oC D m₂ ys h tk E' hr hv hC hx F' N' off ne
      obtain ⟨ar, vsr, ncr, rfl, har, hSr⟩ := hv
      have hlr := hlen r hr
      k_steps
      · assumption
      · (rename News _ _ _ _ => N9)
        exact fun p hp => N9 p (List.mem_cons_of_mem _ (List.mem_cons_of_mem _ hp))
      · k_steps
        (rename Fr _ _ _ _ => F9)
        (rename News _ _ _ _ => N9)
        exact ⟨_, _, rfl, F9, fun p hp => N9 p (List.mem_cons_of_mem _ (List.mem_cons_of_mem _ hp)), trivial⟩
    · intro ys hys
      intros
      k_steps
      · (rename (ys.isEmpty = true) => hy)
        (rename Fr _ _ _ _ => F9)
        (rename News _ _ _ _ => N9)
        (rename (Obj.data _ = Data.cell (some (Value.int _ _))) => d9)
        exact ⟨_, _, _, n0.length + 1 - (k + 1), by omega, rfl, F9, fun p hp => N9 p (List.mem_cons_of_mem _ (List.mem_cons_of_mem _ hp)), k + 1, _, rfl, by omega, d9, filt_nil hys hy⟩
      · (rename (ys.isEmpty = false) => hy)
        (rename Fr _ _ _ _ => F9)
        (rename News _ _ _ _ => N9)
        (rename (∀ p : Addr × Obj, p ∈ _ → p.1 < _) => l9)
        (rename (StrsAre _ (List.take k n0)) => S9)
        exact ret _ _ _ _ _ k F9 (end_led4 N9 l9).1 (end_led4 N9 l9).2 S9 ⟨hk, hall, .inr (filt_some hys hy)⟩
  · (rename Fr _ _ _ _ => F9)
    (rename News _ _ _ _ => N9)
    (rename (∀ p : Addr × Obj, p ∈ _ → p.1 < _) => l9)
    (rename (StrsAre _ (List.take k n0)) => S9)
    exact ret _ _ _ _ _ k F9 (end_led2 N9 l9).1 (end_led2 N9 l9).2 S9 ⟨hk, hall, .inl (by omega)⟩
end
end Mine
end
section
open PySem.Calls PySem.Spec
namespace Mine
open SeqAt
section
variable {prog : Program} {w : World} {A : Around} {E : Value → Shared → Prop} {s : Shared} {Q : Value → Shared → Prop}
theorem ia_len {vs : List Value} {xs : List Int} (h : IntsAre vs xs) : vs.length = xs.length := h.length
theorem ia_at' {vs : List Value} {xs : List Int} (h : IntsAre vs xs) {j : Nat} {v : Value} (hj : vs[j]? = some v) : ∃ y t, xs[j]? = some y ∧ v = .int y t := ia_at h hj
theorem iag {vs : List Value} {xs : List Int} (h : IntsAre vs xs) {j : Nat} (hj : j < vs.length) : ∃ t, vs[j] = .int (xs[j]'(by rw [← ia_len h]; exact hj)) t := by
  obtain ⟨y, t, e1, e2⟩ := ia_at' h (List.getElem?_eq_getElem hj)
  refine ⟨t, ?_⟩
  rw [e2]
  obtain ⟨hj', e⟩ := List.getElem?_eq_some_iff.mp e1
  rw [e]
def eqAtI (xs ys : List Int) (j : Nat) : Bool := xs[j]? == ys[j]?
theorem all_eqAtI {xs ys : List Int} (h : xs.length = ys.length) : (List.range xs.length).all (eqAtI xs ys) = decide (xs = ys) := by
  by_cases e : xs = ys
  · subst e
    rw [decide_eq_true rfl, List.all_eq_true]
    intro j _
    exact beq_self_eq_true _
  · rw [decide_eq_false e]
    cases q : (List.range xs.length).all (eqAtI xs ys) with
    | false => rfl
    | true =>
      refine absurd (List.ext_getElem? fun j => ?_) e
      by_cases hj : j < xs.length
      · exact beq_iff_eq.mp (List.all_eq_true.mp q j (List.mem_range.mpr hj))
      · rw [List.getElem?_eq_none_iff.mpr (by omega), List.getElem?_eq_none_iff.mpr (by omega)]
theorem eqAt_ints {B : Around} {vs ws : List Value} {xs ys : List Int} (hx : IntsAre vs xs) (hy : IntsAre ws ys) : ∀ j (h1 : j < vs.toArray.size) (h2 : j < ws.toArray.size), EqAt B s vs.toArray[j] ws.toArray[j] (eqAtI xs ys j) := by
  intro j h1 h2
  rw [List.size_toArray] at h1 h2
  obtain ⟨t, e1⟩ := iag hx h1
  obtain ⟨u, e2⟩ := iag hy h2
  rw [List.getElem_toArray, List.getElem_toArray, e1, e2]
  have hjx : j < xs.length := by rw [← ia_len hx]; exact h1
  have hjy : j < ys.length := by rw [← ia_len hy]; exact h2
  have : eqAtI xs ys j = (xs[j] == ys[j]) := by
    unfold eqAtI
    rw [List.getElem?_eq_getElem hjx, List.getElem?_eq_getElem hjy]
    rfl
  rw [this]
  exact EqAt.int_int _ _ _ _
theorem eq_ints {l b : Addr} {vs ws : List Value} {xs ys : List Int} (hl : s.heap.IsList l vs.toArray) (hb : s.heap.IsList b ws.toArray) (hx : IntsAre vs xs) (hy : IntsAre ws ys) (hu : A.units < cLine)
    (h : Q (.bool (decide (xs = ys))) s) : wpAny (model prog w) A (compareOp .Eq (.ref l) (.ref b)) Q E s := by
  by_cases e : vs.length = ws.length
  · refine eq_listAt hl hb (by simpa using e) hu (eqAt_ints hx hy) ?_
    rw [List.size_toArray, ia_len hx, all_eqAtI (by rw [← ia_len hx, ← ia_len hy]; exact e)]
    exact h
  · refine eq_list_lengthsAt hl hb (by simpa using e) hu ?_
    rw [decide_eq_false (fun q => e (by rw [ia_len hx, ia_len hy, q]))] at h
    exact h
theorem ne_ints {l b : Addr} {vs ws : List Value} {xs ys : List Int} (hl : s.heap.IsList l vs.toArray) (hb : s.heap.IsList b ws.toArray) (hx : IntsAre vs xs) (hy : IntsAre ws ys) (hu : A.units < cLine)
    (h : Q (.bool (decide (xs ≠ ys))) s) : wpAny (model prog w) A (compareOp .NotEq (.ref l) (.ref b)) Q E s := by
  by_cases e : vs.length = ws.length
  · refine RcNeAt.lists hl hb (by simpa using e) hu (eqAt_ints hx hy) prog w E Q ?_
    rw [List.size_toArray, ia_len hx, all_eqAtI (by rw [← ia_len hx, ← ia_len hy]; exact e)]
    have : (!decide (xs = ys)) = decide (xs ≠ ys) := by simp
    rw [this]; exact h
  · refine RcNeAt.lists_lengths hl hb (by simpa using e) hu prog w E Q ?_
    have e1 : decide (xs ≠ ys) = true := by
      simp only [ne_eq, decide_not, Bool.not_eq_true', decide_eq_false_iff_not]
      exact fun q => e (by rw [ia_len hx, ia_len hy, q])
    rw [e1] at h
    exact h
theorem ne_same {l b : Addr} {vs ws : List Value} {xs : List Int} (hl : s.heap.IsList l vs.toArray) (hb : s.heap.IsList b ws.toArray) (hx : IntsAre vs xs) (hy : IntsAre ws xs) (hu : A.units < cLine)
    (h : Q (.bool false) s) : wpAny (model prog w) A (compareOp .NotEq (.ref l) (.ref b)) Q E s := ne_ints hl hb hx hy hu (by
  have e : decide (xs ≠ xs) = false := by simp
  rw [e]; exact h)
theorem compare_bits {α : Type} {xs : List α} {f g : α → Int} (h : ∀ x ∈ xs, f x = g x) : xs.map f = xs.map g := List.map_congr_left h
end
end Mine
end
section
open PySem.Calls PySem.Spec
namespace Mine
theorem mode_len {d : Int} (h0 : 0 ≤ d) (h1 : d < 60) : (modeOf d).length = 10 := of_decide_eq_true (sixty_of (f := fun d => decide ((modeOf d).length = 10)) (by decide +kernel) h0 h1)
def showB (k d : Int) : Bool := !(Builtin.Str.occurrences (Str.ofString "rwxst") (Txt.item (modeOf d) k) 0 (Str.ofString "rwxst").length 1).isEmpty
def showI (k d : Int) : Int := if showB k d then 1 else 0
theorem show_yes {k d : Int} (h : (Builtin.Str.occurrences (Str.ofString "rwxst") (Txt.item (modeOf d) k) 0 (Str.ofString "rwxst").length 1).isEmpty = false) : 1 = showI k d := by unfold showI showB; rw [h]; rfl
theorem show_no {k d : Int} (h : (Builtin.Str.occurrences (Str.ofString "rwxst") (Txt.item (modeOf d) k) 0 (Str.ofString "rwxst").length 1).isEmpty = true) : 0 = showI k d := by unfold showI showB; rw [h]; rfl

def bitI (k d : Int) : Int := ((numOf d).fdiv (2 ^ (9 - k).toNat)).fmod 2
theorem show_bit {k d : Int} (h1 : 1 ≤ k) (h9 : k ≤ 9) (h0 : 0 ≤ d) (h6 : d < 60) : showI k d = bitI k d := by
  have key : ((List.range 9).all fun j => sixty fun d => decide (showI ((j : Int) + 1) d = bitI ((j : Int) + 1) d)) = true := by decide +kernel
  have hj := List.all_eq_true.mp key (k - 1).toNat (List.mem_range.mpr (by omega))
  have e : (((k - 1).toNat : Nat) : Int) + 1 = k := by omega
  have := sixty_of hj h0 h6
  rw [e] at this
  exact of_decide_eq_true this
end Mine
end
section
open PySem.Calls PySem.Spec
namespace Mine
theorem path_good {d : Int} (h0 : 0 ≤ d) (h1 : d < 60) : GoodPath (pathOf d) (namesOf d) := goodPath_of (sixty_of (f := fun d => goodPath (pathOf d) (namesOf d)) (by decide +kernel) h0 h1)
theorem paths_good {hs : List Int} (h : ∀ d ∈ hs, 0 ≤ d ∧ d < 60) : All2 GoodPath (hs.map fun d => pathOf d) (hs.map namesOf) := by
  induction hs with
  | nil => exact .nil
  | cons d hs ih => exact .cons (path_good (h d List.mem_cons_self).1 (h d List.mem_cons_self).2) (ih fun x hx => h x (List.mem_cons_of_mem _ hx))
def topOf (ns : List Str) : Str := Str.ofString "/" ++ Txt.join (Str.ofString "/") ns
theorem take_good {d : Int} (h0 : 0 ≤ d) (h1 : d < 60) (k : Nat) : GoodPath (topOf ((namesOf d).take k)) ((namesOf d).take k) := by
  have key := sixty_of (f := fun d => (List.range 5).all fun j => decide ((namesOf d).length ≤ 4) && goodPath (topOf ((namesOf d).take j)) ((namesOf d).take j)) (by decide +kernel) h0 h1
  have hl : (namesOf d).length ≤ 4 := of_decide_eq_true (Bool.and_eq_true_iff.mp (List.all_eq_true.mp key 0 (List.mem_range.mpr (by decide)))).1
  by_cases hk : k ≤ 4
  · exact goodPath_of (Bool.and_eq_true_iff.mp (List.all_eq_true.mp key k (List.mem_range.mpr (by omega)))).2
  · have e : (namesOf d).take k = (namesOf d).take 4 := by rw [List.take_of_length_le (by omega), List.take_of_length_le hl]
    rw [e]
    exact goodPath_of (Bool.and_eq_true_iff.mp (List.all_eq_true.mp key 4 (List.mem_range.mpr (by decide)))).2
theorem names_short {d : Int} (h0 : 0 ≤ d) (h1 : d < 60) : (namesOf d).length ≤ 4 := of_decide_eq_true (sixty_of (f := fun d => decide ((namesOf d).length ≤ 4)) (by decide +kernel) h0 h1)
end Mine
end
section
open PySem.Calls PySem.Spec
namespace Mine
/-- how many files there are, kept out of omega's sight -/
structure LenOk (ds : List Int) : Prop where
  len : ds.length = 4 ∨ ds.length = 8
theorem LenOk.le {ds : List Int} (h : LenOk ds) : ds.length ≤ 8 := by have := h.len; omega
/-- does a file lie within the folder of these names? -/
def inI (sh : List Str) (d : Int) : Int := if (namesOf d).take sh.length = sh then 1 else 0
theorem in_one {sh : List Str} {d : Int} (h : (namesOf d).take sh.length = sh) : 1 = inI sh d := by unfold inI; rw [if_pos h]
theorem in_zero {sh : List Str} {d : Int} (h : ¬ (namesOf d).take sh.length = sh) : 0 = inI sh d := by unfold inI; rw [if_neg h]
theorem in_bits {sh : List Str} {ds : List Int} : Bits (ds.map fun d => inI sh d) := fun x hx => by
  obtain ⟨d, _, rfl⟩ := List.mem_map.mp hx
  unfold inI
  split
  · exact .inr rfl
  · exact .inl rfl
/-- the least folder, as a text and as its names -/
structure TopGood (tx : Str) (sh : List Str) : Prop where
  text : tx = topOf sh
  good : GoodPath tx sh
  takes : ∀ j, GoodPath (topOf (sh.take j)) (sh.take j)
  short : sh.length ≤ 4
theorem goodPath_uniq {x : Str} {a b : List Str} (h : GoodPath x a) (h' : GoodPath x b) : a = b := h.parts.symm.trans h'.parts
theorem shared_iff {sh ns s1 : List Str} {kk : Nat} (hs1 : s1 ∈ [sh, ns]) (hsh : IsShared [sh, ns] s1 kk) : s1.take kk = sh.take kk ∧ (sh.take kk = sh ↔ ns.take sh.length = sh) := by
  obtain ⟨hle, hall, hend⟩ := hsh
  have e1 := hall sh (.head _)
  have e2 := hall ns (.tail _ (.head _))
  have e3 : sh.take kk = ns.take kk := e1.trans e2.symm
  refine ⟨e1.symm, fun h => ?_, fun h => ?_⟩
  · have hl : sh.length ≤ kk := by
      have := congrArg List.length h
      rw [List.length_take] at this
      omega
    have e4 : (ns.take kk).take sh.length = ns.take sh.length := by rw [List.take_take, Nat.min_eq_left hl]
    rw [← e4, ← e3, h, List.take_length]
  · have hl : sh.length ≤ ns.length := by
      have := congrArg List.length h
      rw [List.length_take] at this
      omega
    refine List.take_of_length_le ?_
    rcases Nat.lt_or_ge kk sh.length with hk | hk
    · exfalso
      have e5 : sh.take (kk + 1) = ns.take (kk + 1) := by
        have : (ns.take sh.length).take (kk + 1) = ns.take (kk + 1) := by rw [List.take_take, Nat.min_eq_left (by omega)]
        rw [h] at this
        exact this
      rcases hend with he | ⟨r, hr, hne⟩
      · simp only [List.mem_cons, List.not_mem_nil, or_false] at hs1
        rcases hs1 with rfl | rfl <;> omega
      · simp only [List.mem_cons, List.not_mem_nil, or_false] at hs1 hr
        rcases hs1 with rfl | rfl <;> rcases hr with rfl | rfl
        · exact hne rfl
        · exact hne e5.symm
        · exact hne e5
        · exact hne rfl
    · exact hk
theorem top_iff {tx : Str} {sh ns s1 : List Str} {kk : Nat} (hG : TopGood tx sh) (hs1 : s1 ∈ [sh, ns]) (hsh : IsShared [sh, ns] s1 kk) : topOf (s1.take kk) = tx ↔ ns.take sh.length = sh := by
  obtain ⟨e, hi⟩ := shared_iff hs1 hsh
  rw [e, ← hi]
  refine ⟨fun h => goodPath_uniq (hG.takes kk) (h ▸ hG.good), fun h => ?_⟩
  rw [h, hG.text]
theorem in_yes {tx ty : Str} {sh s1 : List Str} {kk : Nat} {d : Int} (hG : TopGood tx sh) (hs1 : s1 ∈ [sh, namesOf d]) (hsh : IsShared [sh, namesOf d] s1 kk) (hy : ty = topOf (s1.take kk)) (h : ty = tx) : 1 = inI sh d := by
  unfold inI; rw [if_pos ((top_iff hG hs1 hsh).mp (hy ▸ h))]
theorem in_no {tx ty : Str} {sh s1 : List Str} {kk : Nat} {d : Int} (hG : TopGood tx sh) (hs1 : s1 ∈ [sh, namesOf d]) (hsh : IsShared [sh, namesOf d] s1 kk) (hy : ty = topOf (s1.take kk)) (h : ty ≠ tx) : 0 = inI sh d := by
  unfold inI; rw [if_neg fun q => h (hy ▸ (top_iff hG hs1 hsh).mpr q)]
theorem shared_uniq {nss : List (List Str)} {s1 s2 : List Str} {k1 k2 : Nat} (m1 : s1 ∈ nss) (m2 : s2 ∈ nss) (h1 : IsShared nss s1 k1) (h2 : IsShared nss s2 k2) : s1.take k1 = s2.take k2 := by
  have key : ∀ {s1 s2 : List Str} {k1 k2 : Nat}, s1 ∈ nss → s2 ∈ nss → IsShared nss s1 k1 → IsShared nss s2 k2 → ¬ k1 < k2 := by
    intro s1 s2 k1 k2 m1 m2 h1 h2 hk
    obtain ⟨l1, a1, e1⟩ := h1
    obtain ⟨l2, a2, e2⟩ := h2
    rcases e1 with e | ⟨r, hr, hne⟩
    · have := congrArg List.length (a2 s1 m1)
      rw [List.length_take, List.length_take] at this
      omega
    · refine hne ?_
      have q1 : (r.take k2).take (k1 + 1) = r.take (k1 + 1) := by rw [List.take_take, Nat.min_eq_left (by omega)]
      have q2 : (s1.take k2).take (k1 + 1) = s1.take (k1 + 1) := by rw [List.take_take, Nat.min_eq_left (by omega)]
      rw [← q1, ← q2, a2 r hr, a2 s1 m1]
  have hk : k1 = k2 := by
    have q1 := key m1 m2 h1 h2
    have q2 := key m2 m1 h2 h1
    omega
  subst hk
  exact (h2.2.1 s1 m1)
/-- the folder of the files that show a sign, as commonpath tells it -/
structure TopIs (nss : List (List Str)) (tx : Str) : Prop where
  all : ∃ s1 kk, s1 ∈ nss ∧ IsShared nss s1 kk ∧ tx = topOf (s1.take kk)
theorem TopIs.eq {nss : List (List Str)} {tx : Str} {n0 : List Str} {k : Nat} (h : TopIs nss tx) (hm : n0 ∈ nss) (hI : IsShared nss n0 k) : tx = topOf (n0.take k) := by
  obtain ⟨s1, kk, m1, h1, e⟩ := h.all
  rw [e, shared_uniq m1 hm h1 hI]
theorem topGood {d : Int} (h0 : 0 ≤ d) (h1 : d < 60) (k : Nat) : TopGood (topOf ((namesOf d).take k)) ((namesOf d).take k) := by
  refine ⟨rfl, take_good h0 h1 k, fun j => ?_, ?_⟩
  · rw [List.take_take]
    exact take_good h0 h1 _
  · have := names_short h0 h1
    rw [List.length_take]
    omega
theorem top_no {tx : Str} {sh : List Str} (h : tx = topOf sh) (h' : (tx != Str.ofString "/" ++ Txt.join (Str.ofString "/") sh) = true) : False := by
  rw [h] at h'
  unfold topOf at h'
  rw [bne_self_eq_false] at h'; cases h'
theorem show_count (k : Int) : ∀ ds : List Int, ((ds.filter (fun d => showB k d)).length : Int) = (ds.map fun d => showI k d).sum
  | [] => rfl
  | d :: ds => by
    have ih := show_count k ds
    rw [List.filter_cons, List.map_cons, List.sum_cons]
    unfold showI at *
    cases showB k d
    · rw [if_neg Bool.false_ne_true, if_neg Bool.false_ne_true, ih]; omega
    · rw [if_pos rfl, if_pos rfl, List.length_cons]; omega
theorem show_bits (k : Int) (ds : List Int) : Bits (ds.map fun d => showI k d) := fun x hx => by
  obtain ⟨d, _, rfl⟩ := List.mem_map.mp hx
  unfold showI
  split
  · exact .inr rfl
  · exact .inl rfl
theorem in_all {k : Int} {ds : List Int} {d0 : Int} {hr : List Int} {k4 : Nat} {sh : List Str} (hhs : ds.filter (fun d => showB k d) = d0 :: hr) (hI : IsShared ((d0 :: hr).map namesOf) (namesOf d0) k4) (hse : (namesOf d0).take k4 = sh) :
    ∀ d ∈ ds, showB k d = true → inI sh d = 1 := by
  intro d hd hs
  have hm : d ∈ d0 :: hr := hhs ▸ List.mem_filter.mpr ⟨hd, hs⟩
  have e := hI.2.1 (namesOf d) (List.mem_map_of_mem hm)
  have hl : sh.length = k4 := by
    rw [← hse, List.length_take]
    exact Nat.min_eq_left hI.1
  refine (in_one ?_).symm
  rw [hl, e, hse]
theorem in_dot (k : Int) (sh : List Str) : ∀ ds : List Int, (∀ d ∈ ds, showB k d = true → inI sh d = 1) → dot (ds.map fun d => inI sh d) (ds.map fun d => showI k d) = (ds.map fun d => showI k d).sum ∧ (ds.map fun d => showI k d).sum ≤ (ds.map fun d => inI sh d).sum
  | [], _ => ⟨rfl, Int.le_refl _⟩
  | d :: ds, h => by
    obtain ⟨i1, i2⟩ := in_dot k sh ds fun x hx => h x (.tail _ hx)
    have hd := h d (.head _)
    have hb : inI sh d = 0 ∨ inI sh d = 1 := in_bits (sh := sh) (ds := [d]) _ (.head _)
    unfold dot at *
    simp only [List.map_cons, List.zipWith_cons_cons, List.sum_cons]
    rw [i1]
    unfold showI at *
    cases hs : showB k d
    · rw [if_neg Bool.false_ne_true]
      refine ⟨by omega, by omega⟩
    · rw [if_pos rfl, hd hs]
      refine ⟨by omega, by omega⟩
end Mine
end
section
open PySem.Calls PySem.Spec
namespace Mine
open PySem.Float64 PySem.Builtin.Math
/-- the law's own number, before the last division -/
def outF (c a b : Int) : UInt64 := Float64.ofFrac (decide (a * (c - b) < 0) != decide (c < 0)) (a * (c - b)).natAbs (Int.natAbs c)
def xyK (c a b : Int) : Int := 64 * a - 8 * (8 / c) * (b * a)
def sqOkB (x y : UInt64) : Bool := Float64.isFinite (Float64.sqrt (Float64.mul x y)) && (!Float64.isZero (Float64.sqrt (Float64.mul x y)) || Float64.isZero x) &&
  (Float64.isZero (Float64.sqrt (Float64.mul x y)) || (Float64.isFinite (sqTl x y 1).1 && Float64.isFinite (sqTl x y 2).1 && !Float64.isZero (Float64.mul 4611686018427387904 (Float64.sqrt (Float64.mul x y)))))
theorem sqOk_of {x y : UInt64} (h : sqOkB x y = true) : SqOk x y := by
  unfold sqOkB at h
  simp only [Bool.and_eq_true, Bool.or_eq_true, Bool.not_eq_true'] at h
  obtain ⟨⟨h1, h2⟩, h3⟩ := h
  refine ⟨h1, fun e => ?_, fun e => ?_⟩
  · rcases h2 with h2 | h2
    · rw [e] at h2; cases h2
    · exact h2
  · rcases h3 with h3 | h3
    · rw [e] at h3; cases h3
    · refine ⟨fun i hi => ?_, h3.2⟩
      match i, hi with
      | 0, _ => exact h3.1.1
      | 1, _ => exact h3.1.2
/-- all that the numbers of one sign must tell -/
def numRow (c a b : Int) : Bool :=
  !Float64.isInf (outF c a b) &&
  (Float64.cmp (Float64.div (DK (xyK c a b)) (Float64.ofInt (c - 1))) (Float64.div (outF c a b) (Float64.ofInt (c - 1))) == some Ordering.eq) &&
  sqOkB (DK (xyK c b b)) (DK (xyK c a a)) &&
  (Float64.isZero (sqF (DK (xyK c b b)) (DK (xyK c a a))) == decide (b = c)) &&
  (decide (b = c) || (if a = b then Float64.cmp (Float64.div (DK (xyK c a b)) (sqF (DK (xyK c b b)) (DK (xyK c a a)))) 4607182418800017408 == some Ordering.eq
    else Float64.cmp 0 (Float64.div (DK (xyK c a b)) (sqF (DK (xyK c b b)) (DK (xyK c a a)))) == some Ordering.lt && Float64.cmp (Float64.div (DK (xyK c a b)) (sqF (DK (xyK c b b)) (DK (xyK c a a)))) 4607182418800017408 == some Ordering.lt))
def numRows (c : Nat) : Bool := (List.range c).all fun b => (List.range (b + 1)).all fun a => numRow c (a + 1 : Nat) (b + 1 : Nat)
theorem numRows4 : numRows 4 = true := by decide +kernel
theorem numRows8 : numRows 8 = true := by decide +kernel
theorem num_row {c a b : Int} (hc : c = 4 ∨ c = 8) (h1 : 1 ≤ a) (hab : a ≤ b) (hbc : b ≤ c) : numRow c a b = true := by
  have key : ∀ n : Nat, numRows n = true → b ≤ n → numRow n a b = true := fun n hn hb => by
    have q1 := List.all_eq_true.mp hn (b - 1).toNat (List.mem_range.mpr (by omega))
    have q2 := List.all_eq_true.mp q1 (a - 1).toNat (List.mem_range.mpr (by omega))
    rw [show (((a - 1).toNat + 1 : Nat) : Int) = a by omega, show (((b - 1).toNat + 1 : Nat) : Int) = b by omega] at q2
    exact q2
  rcases hc with rfl | rfl
  · exact key 4 numRows4 hbc
  · exact key 8 numRows8 hbc
structure NumOk (c a b : Int) : Prop where
  fin : Float64.isInf (outF c a b) = false
  cov : Float64.cmp (Float64.div (DK (xyK c a b)) (Float64.ofInt (c - 1))) (Float64.div (outF c a b) (Float64.ofInt (c - 1))) = some Ordering.eq
  sq : SqOk (DK (xyK c b b)) (DK (xyK c a a))
  zero : Float64.isZero (sqF (DK (xyK c b b)) (DK (xyK c a a))) = decide (b = c)
  one : b ≠ c → a = b → Float64.cmp (Float64.div (DK (xyK c a b)) (sqF (DK (xyK c b b)) (DK (xyK c a a)))) 4607182418800017408 = some Ordering.eq
  low : b ≠ c → a ≠ b → Float64.cmp 0 (Float64.div (DK (xyK c a b)) (sqF (DK (xyK c b b)) (DK (xyK c a a)))) = some Ordering.lt
  high : b ≠ c → a ≠ b → Float64.cmp (Float64.div (DK (xyK c a b)) (sqF (DK (xyK c b b)) (DK (xyK c a a)))) 4607182418800017408 = some Ordering.lt
theorem num_ok {c a b : Int} (hc : c = 4 ∨ c = 8) (h1 : 1 ≤ a) (hab : a ≤ b) (hbc : b ≤ c) : NumOk c a b := by
  have h := num_row hc h1 hab hbc
  unfold numRow at h
  simp only [Bool.and_eq_true, Bool.not_eq_true', beq_iff_eq] at h
  obtain ⟨⟨⟨⟨h1, h2⟩, h3⟩, h4⟩, h5⟩ := h
  refine ⟨h1, h2, sqOk_of h3, h4, fun hb he => ?_, fun hb he => ?_, fun hb he => ?_⟩
  · rw [decide_eq_false hb, Bool.false_or, if_pos he] at h5
    exact eq_of_beq h5
  · rw [decide_eq_false hb, Bool.false_or, if_neg he] at h5
    exact eq_of_beq (Bool.and_eq_true_iff.mp h5).1
  · rw [decide_eq_false hb, Bool.false_or, if_neg he] at h5
    exact eq_of_beq (Bool.and_eq_true_iff.mp h5).2
theorem dot_xy {c a b : Int} {xs ys : List Int} (hc : c = 4 ∨ c = 8) (hx : (xs.length : Int) = c) (hy : (ys.length : Int) = c) (sx : xs.sum = b) (sy : ys.sum = a) (hd : dot xs ys = a) : dot (devs c xs) (devs c ys) = xyK c a b := by
  rw [dot_devs' hc hx (by omega), hd, sx, sy]; rfl
theorem dot_self : ∀ {xs : List Int}, Bits xs → dot xs xs = xs.sum
  | [], _ => rfl
  | x :: xs, h => by
    have ih := dot_self (xs := xs) fun y hy => h y (List.mem_cons_of_mem _ hy)
    have hx := h x List.mem_cons_self
    unfold dot at *
    rw [List.zipWith_cons_cons, List.sum_cons, List.sum_cons, ih]
    rcases hx with rfl | rfl <;> rfl
theorem dot_xx {c b : Int} {xs : List Int} (hc : c = 4 ∨ c = 8) (hx : (xs.length : Int) = c) (hb : Bits xs) (sx : xs.sum = b) : dot (devs c xs) (devs c xs) = xyK c b b := by
  rw [dot_devs' hc hx rfl, dot_self hb, sx]; rfl
end Mine
end
section
open PySem.Calls PySem.Spec
namespace Mine
open PySem.Builtin.Math
section
local macro_rules | `(tactic| k_all) => `(tactic| first | with_reducible assumption | exact offs_lt (by with_reducible assumption) (by omega))
local macro_rules | `(tactic| k_mem) => `(tactic| first | with_reducible assumption | exact List.mem_cons_self | (refine' List.mem_cons_of_mem _ ?_; k_mem))
theorem len_led {prog : Program} {w : World} {A : Around} {E : Value → Shared → Prop} {s : Shared} {h₀ : Heap} {L : Addr} {led : List (Addr × Obj)} {a : Addr} {vs : List Value} {n : Nat} {c : Int} {Q : Value → Shared → Prop} (N : News h₀ L s.heap led) (hm : (a, ({ cls := .type "list", data := .seq vs.toArray n } : Obj)) ∈ led) (hc : (vs.length : Int) = c) (hx : c ≤ 1000)
    (h : ∀ t k, Q (.int c t) { s with toks := k }) : wpAny (model prog w) A (call (.builtin "len") [.ref a]) Q E s := by
  have hz : (vs.toArray.size : Int) = c := by rw [List.size_toArray]; exact hc
  refine Calls.call_len_list (items := vs.toArray) ⟨_, (N _ hm).1, rfl, n, rfl⟩ (by omega) ?_
  rw [hz]
  exact h _ _
theorem sum_led {prog : Program} {w : World} {A : Around} {E : Value → Shared → Prop} {s : Shared} {h₀ : Heap} {L : Addr} {m : Str → Option Value} {led : List (Addr × Obj)} {a : Addr} {vs : List Value} {xs : List Int} {n : Nat} {c : Int} {Q : Value → Shared → Prop} (hh : A.handled = none) (F : Fr h₀ L s.heap m) (N : News h₀ L s.heap led) (hm : (a, ({ cls := .type "list", data := .seq vs.toArray n } : Obj)) ∈ led) (hi : IntsAre vs xs) (hc : xs.sum = c)
    (h : ∀ h' tk t', Fr h₀ L h' m → News h₀ L h' led → Q (.int c t') { s with heap := h', toks := tk }) :
    wpAny (model prog w) A (call (.builtin "sum") [.ref a]) Q E s :=
  sumK hh F N (N.isList hm) hi (hc ▸ h)
theorem cov_no {o : Option Ordering} (h : o = some Ordering.eq) (h' : (o != some Ordering.eq) = true) : False := by rw [h] at h'; exact absurd h' (by decide)
theorem num_fin {c a b : Int} (h : NumOk c a b) (h' : Float64.isInf (Float64.ofFrac (decide (a * (c - b) < 0) != decide (c < 0)) (a * (c - b)).natAbs (Int.natAbs c)) = true) : False := by
  have := h.fin; unfold outF at this; rw [this] at h'; cases h'
theorem keeps_end {fs : List Addr} {h₀ g g' : Heap} {L L' : Addr} {m m' : Str → Option Value} {R : Result → Shared → Prop} {s : Shared} {news news' : List (Addr × Obj)} {b : Bool} (hb : b = true) (F : Fr g' L' s.heap m') (N : News g' L' s.heap news') (T : KtsTurn fs g g') (hs : ∀ q ∈ news, q ∈ news')
    (k : Fr h₀ L s.heap m → News h₀ L s.heap news → R (.ok (.ret (.bool true))) s) : LeaveS0 fs h₀ L m g R (.bool b) s := by
  subst hb
  exact leaveS0_ F N T fun kF kN => k kF fun q hq => kN q (hs q hq)
theorem drop3 {x a b c : Addr × Obj} {l : List (Addr × Obj)} : ∀ q ∈ x :: l, q ∈ x :: a :: b :: c :: l := fun q h => by
  rcases List.mem_cons.mp h with h | h
  · rw [h]; exact .head _
  · exact .tail _ (.tail _ (.tail _ (.tail _ h)))
theorem cmp_is {o : Option Ordering} {x : Ordering} (h : o = some x) : (o == some x) = true := by rw [h]; cases x <;> rfl
theorem int_is {x y : Int} (h : x = y) : (x == y) = true := by rw [h]; exact BEq.rfl
theorem keeps_d4
 {w : World} {dp un : Nat} {gd : Option (List Code)} {cn : Str} {cs : Scope} {a : Addr} {ccd : Value} {cl : List (Str × Addr)} {base h₀ g' h : Heap} {L L' : Addr} {m : Str → Option Value} {rest : List (Addr × Obj)} {ps : Array Value} {gens : Array GenState} {drawn : Drawn} {tk : Nat} {os : OsState}
    {Q E : Value → Shared → Prop} {p : Program} {loose : List Str} {mean : ExcName → Option Value} {mg mb : Str → Option Value} {sc : Scope} {st : List Stmt} {fa : Addr} {frefs : List Value} {nf : Nat} {ds : List Int} {k : Int} {tkk : Tok} {wa ha sa : Addr}
    (hsc : sc = kScope) (hst : st = kBody.drop 9) (FG' : Fr h₀ L g' m)
    (F : Fr g' L' h (fun z => if z = Str.ofString "within" then some (.ref wa) else ((fun z => if z = Str.ofString "held" then some (.ref ha) else ((fun z => if z = Str.ofString "shows" then some (.ref sa) else (bindL (envOfC (Str.ofString "_law_keeps") sc L' 466 (.ref 465)).kindOf [(Str.ofString "files", .ref fa), (Str.ofString "k", .int k tkk)] (fun _ => none) z)) z)) z)))
    (B' : Below (ktrTop dp un gd cn cs L a ccd cl []) base [envX cn cs L a ccd cl] g') (X' : (Mine.frag w.params).In g') (T' : Top p loose mean mg mb g') (D' : KtsDicts ([envX cn cs L a ccd cl].filterMap (·.frame)) g')
    (hk : cs.kind = .function) (hdp : dp + 20 < recursionLimit) (hun : un + 200 < cLine) (XB : (Mine.frag w.params).In base) (TB : Top p loose mean mg mb base)
    (hfa : (fa, lstO frefs nf) ∈ rest) (l3 : 287 < L') (l2 : ∀ q ∈ rest, q.1 < L') (hPr : ∀ q ∈ rest, q.1 ≠ 287) (ht : TriplesOk ps.toList) (GB : AllBare gens)
    {zw vh zs : List Value} {nw nh ns : Nat} {xs ys : List Int} {ah b : Int} (N : News g' L' h ((287, tabObj ps) :: (wa, lstO zw nw) :: (ha, lstO vh nh) :: (sa, lstO zs ns) :: rest))
    (ow : wa ≠ 287) (oh : ha ≠ 287) (os' : sa ≠ 287) (hw : IntsAre zw xs) (hs : IntsAre zs ys) (hbx : Bits xs) (hby : Bits ys) (hnx : (xs.length : Int) = 4) (hny : (ys.length : Int) = 4) (hnf : (frefs.length : Int) = 4) (hnh : (vh.length : Int) = ah)
    (hsx : xs.sum = b) (hsy : ys.sum = ah) (hdt : dot xs ys = ah) (ha1 : 1 ≤ ah) (hab : ah ≤ b) (hbc : b ≤ 4)
    (ret : ∀ s' ps', TriplesOk ps'.toList → AllBare s'.gens → s'.os = os → s'.drawn = drawn → Fr h₀ L s'.heap m → News h₀ L s'.heap ((287, tabObj ps') :: rest) → Q (.bool true) s') :
    wpAny (model PySem.Challenge.rw_ik0222_01.row.prog w) ((ktrTop dp un gd cn cs L a ccd cl []).deeper (envOfC (Str.ofString "_law_keeps") sc L' 466 (.ref 465))) (execs st (envOfC (Str.ofString "_law_keeps") sc L' 466 (.ref 465)))
      (fun fl s' => LeaveS0 ([envX cn cs L a ccd cl].filterMap (·.frame)) h₀ L m g' (fun r s' => match r with | .ok (.ret v) => Q v s' | .ok _ => False | .error e => E e s') (match fl with | .ret v => v | _ => .none) s')
      (fun e s' => wpAny (model PySem.Challenge.rw_ik0222_01.row.prog w) ((ktrTop dp un gd cn cs L a ccd cl []).deeper (envOfC (Str.ofString "_law_keeps") sc L' 466 (.ref 465))) (leaving (envOfC (Str.ofString "_law_keeps") sc L' 466 (.ref 465)) e) (fun _ s'' => E e s'') (fun e' s'' => E e' s'') s') ⟨h, gens, drawn, tk, os⟩ := by
  k_with_none
  k_with "call builtin:len" => w_strict (k_here; (with_reducible show wpAny _ _ (call (Value.builtin "len") [Value.ref _]) _ _ _); k_dflt (refine' len_led ?Nw72 ?mw72 ?cw72 ?bw72 ?_; (case Nw72 => k_asm); (case mw72 => k_mem); (case cw72 => with_reducible assumption); (case bw72 => omega); k_whole); intro _ _)
  k_with "call builtin:sum" => w_strict (k_here; (with_reducible show wpAny _ _ (call (Value.builtin "sum") [Value.ref _]) _ _ _); k_dflt (refine' sum_led (s := ⟨_, _, _, _, _⟩) ?hw73 ?Fw73 ?Nw73 ?mw73 ?iw73 ?cw73 ?_; (case hw73 => first | exact rfl | assumption); (case Fw73 => k_asm); (case Nw73 => k_asm); (case mw73 => k_mem); (case iw73 => with_reducible assumption); (case cw73 => with_reducible assumption); k_whole); intro _ _ _ _ _; (try k_sweep))
  k_with "call ref" => w_strict (k_here; refine Halt.go ?_)
  k_with "exec Try" => w_strict (k_here; refine wpAny_Try_except ?_)
  have l3' : @LT.lt Nat _ 287 L' := l3
  conv at hst => rhs; whnf
  conv at hsc => rhs; whnf
  subst hst hsc
  revert X'; k_fill; intro X'
  have hP5 : ∀ q ∈ ((wa, lstO zw nw) :: (ha, lstO vh nh) :: (sa, lstO zs ns) :: rest), q.1 ≠ 287 := List.forall_mem_cons.mpr ⟨ow, List.forall_mem_cons.mpr ⟨oh, List.forall_mem_cons.mpr ⟨os', hPr⟩⟩⟩
  have hNu : NumOk 4 ah b := num_ok (by decide) ha1 hab hbc
  have hxy := dot_xy (by decide) hnx hny hsx hsy hdt
  have hxx := dot_xx (by decide) hnx hbx hsx
  have hyy := dot_xx (by decide) hny hby hsy
  k_steps
  (rename Fr _ _ _ _ => F1)
  (rename News _ _ _ _ => N1)
  refine Halt.on ?_
  k_dflt (refine' cov_spec4 ?k1 ?k2 ?k3 ?k4 ?k5 ?k6 ?k7 ?k8 (.head _) (.tail _ (.tail _ (.head _))) hw hs hbx hby hnx hny hP5 ht ?GB ?_; (case k1 => exact B'); (case k2 => exact F1); (case k3 => exact X'); (case k4 => exact N1); (case k5 => exact T'); (case k6 => exact rfl); (case k7 => ktr_room); (case k8 => ktr_units); (case GB => exact GB); k_whole)
  intro s5 t5 ps5 ht5 GB5 os5 dr5 F5 N5
  obtain ⟨h5, gens5, drawn5, tk5, os5'⟩ := s5
  clear F1 N1
  dsimp only at os5 dr5 F5 N5 GB5
  subst os5 dr5
  rw [hxy]
  k_steps
  · exact (num_fin hNu (by with_reducible assumption)).elim
  · exact (cov_no hNu.cov (by assumption)).elim
  (rename Fr _ _ _ _ => F3)
  (rename News _ _ _ _ => N3)
  refine Halt.on ?_
  k_dflt (refine' corr_spec4 ?k1 ?k2 ?k3 ?k4 ?k5 ?k6 ?k7 ?k8 (.tail _ (.head _)) (.tail _ (.tail _ (.tail _ (.head _)))) hw hs hbx hby (by omega) (by omega) XB TB D' hnx hny ?hok ?_ ?_; (case k1 => exact B'); (case k2 => exact F3); (case k3 => exact X'); (case k4 => exact N3); (case k5 => exact T'); (case k6 => exact rfl); (case k7 => ktr_room); (case k8 => ktr_units); (case hok => (rw [hxx, hyy]; exact hNu.sq)); k_whole)
  · intro hz h6 tk6 t6 F6 N6
    rw [hxx, hyy, hNu.zero] at hz
    have hb4 : b ≠ 4 := of_decide_eq_false hz
    rw [hxx, hyy, hxy]
    clear F3 N3
    dsimp only
    k_steps

    · exact (hb4 (by omega)).elim
    · dsimp only
      exact keeps_end (cmp_is (hNu.one hb4 (by assumption))) (by with_reducible assumption) (by with_reducible assumption) KtsTurn.refl drop3 fun kF kN => ret _ ps5 ht5 GB5 rfl rfl kF kN
    · dsimp only
      exact keeps_end (cmp_is (hNu.high hb4 (by assumption))) (by with_reducible assumption) (by with_reducible assumption) KtsTurn.refl drop3 fun kF kN => ret _ ps5 ht5 GB5 rfl rfl kF kN
    · dsimp only
      exact keeps_end (cmp_is (hNu.low hb4 (by assumption))) (by with_reducible assumption) (by with_reducible assumption) KtsTurn.refl drop3 fun kF kN => ret _ ps5 ht5 GB5 rfl rfl kF kN
  · intro hz e h6 tk6 G h₁ T1 B1 F1 R1 U1
    rw [hxx, hyy, hNu.zero] at hz
    have hb4 : b = 4 := of_decide_eq_true hz
    clear F3 N3
    dsimp only
    refine note_on rfl B1 R1 U1 ?_
    intro h7 R7 U7
    k_dflt (refine' handle_own R7 F1 B1 U7 XB TB (D'.turn T1) ?ex ?q ?_; (case ex => k_is); (case q => kts_isx); k_whole)
    clear R1 R7 U1 U7 F1
    intro h8 g8 T8 F8 N8 B8 X8 P8 D8
    have T18 := T1.trans T8
    clear T1 T8
    k_steps

    dsimp only
    exact keeps_end (int_is (by omega)) F8 N8 T18 drop3 fun kF kN => ret _ ps5 ht5 GB5 rfl rfl kF kN

theorem keeps_d8
 {w : World} {dp un : Nat} {gd : Option (List Code)} {cn : Str} {cs : Scope} {a : Addr} {ccd : Value} {cl : List (Str × Addr)} {base h₀ g' h : Heap} {L L' : Addr} {m : Str → Option Value} {rest : List (Addr × Obj)} {ps : Array Value} {gens : Array GenState} {drawn : Drawn} {tk : Nat} {os : OsState}
    {Q E : Value → Shared → Prop} {p : Program} {loose : List Str} {mean : ExcName → Option Value} {mg mb : Str → Option Value} {sc : Scope} {st : List Stmt} {fa : Addr} {frefs : List Value} {nf : Nat} {ds : List Int} {k : Int} {tkk : Tok} {wa ha sa : Addr}
    (hsc : sc = kScope) (hst : st = kBody.drop 9) (FG' : Fr h₀ L g' m)
    (F : Fr g' L' h (fun z => if z = Str.ofString "within" then some (.ref wa) else ((fun z => if z = Str.ofString "held" then some (.ref ha) else ((fun z => if z = Str.ofString "shows" then some (.ref sa) else (bindL (envOfC (Str.ofString "_law_keeps") sc L' 466 (.ref 465)).kindOf [(Str.ofString "files", .ref fa), (Str.ofString "k", .int k tkk)] (fun _ => none) z)) z)) z)))
    (B' : Below (ktrTop dp un gd cn cs L a ccd cl []) base [envX cn cs L a ccd cl] g') (X' : (Mine.frag w.params).In g') (T' : Top p loose mean mg mb g') (D' : KtsDicts ([envX cn cs L a ccd cl].filterMap (·.frame)) g')
    (hk : cs.kind = .function) (hdp : dp + 20 < recursionLimit) (hun : un + 200 < cLine) (XB : (Mine.frag w.params).In base) (TB : Top p loose mean mg mb base)
    (hfa : (fa, lstO frefs nf) ∈ rest) (l3 : 287 < L') (l2 : ∀ q ∈ rest, q.1 < L') (hPr : ∀ q ∈ rest, q.1 ≠ 287) (ht : TriplesOk ps.toList) (GB : AllBare gens)
    {zw vh zs : List Value} {nw nh ns : Nat} {xs ys : List Int} {ah b : Int} (N : News g' L' h ((287, tabObj ps) :: (wa, lstO zw nw) :: (ha, lstO vh nh) :: (sa, lstO zs ns) :: rest))
    (ow : wa ≠ 287) (oh : ha ≠ 287) (os' : sa ≠ 287) (hw : IntsAre zw xs) (hs : IntsAre zs ys) (hbx : Bits xs) (hby : Bits ys) (hnx : (xs.length : Int) = 8) (hny : (ys.length : Int) = 8) (hnf : (frefs.length : Int) = 8) (hnh : (vh.length : Int) = ah)
    (hsx : xs.sum = b) (hsy : ys.sum = ah) (hdt : dot xs ys = ah) (ha1 : 1 ≤ ah) (hab : ah ≤ b) (hbc : b ≤ 8)
    (ret : ∀ s' ps', TriplesOk ps'.toList → AllBare s'.gens → s'.os = os → s'.drawn = drawn → Fr h₀ L s'.heap m → News h₀ L s'.heap ((287, tabObj ps') :: rest) → Q (.bool true) s') :
    wpAny (model PySem.Challenge.rw_ik0222_01.row.prog w) ((ktrTop dp un gd cn cs L a ccd cl []).deeper (envOfC (Str.ofString "_law_keeps") sc L' 466 (.ref 465))) (execs st (envOfC (Str.ofString "_law_keeps") sc L' 466 (.ref 465)))
      (fun fl s' => LeaveS0 ([envX cn cs L a ccd cl].filterMap (·.frame)) h₀ L m g' (fun r s' => match r with | .ok (.ret v) => Q v s' | .ok _ => False | .error e => E e s') (match fl with | .ret v => v | _ => .none) s')
      (fun e s' => wpAny (model PySem.Challenge.rw_ik0222_01.row.prog w) ((ktrTop dp un gd cn cs L a ccd cl []).deeper (envOfC (Str.ofString "_law_keeps") sc L' 466 (.ref 465))) (leaving (envOfC (Str.ofString "_law_keeps") sc L' 466 (.ref 465)) e) (fun _ s'' => E e s'') (fun e' s'' => E e' s'') s') ⟨h, gens, drawn, tk, os⟩ := by
  k_with_none
  k_with "call builtin:len" => w_strict (k_here; (with_reducible show wpAny _ _ (call (Value.builtin "len") [Value.ref _]) _ _ _); k_dflt (refine' len_led ?Nw76 ?mw76 ?cw76 ?bw76 ?_; (case Nw76 => k_asm); (case mw76 => k_mem); (case cw76 => with_reducible assumption); (case bw76 => omega); k_whole); intro _ _)
  k_with "call builtin:sum" => w_strict (k_here; (with_reducible show wpAny _ _ (call (Value.builtin "sum") [Value.ref _]) _ _ _); k_dflt (refine' sum_led (s := ⟨_, _, _, _, _⟩) ?hw77 ?Fw77 ?Nw77 ?mw77 ?iw77 ?cw77 ?_; (case hw77 => first | exact rfl | assumption); (case Fw77 => k_asm); (case Nw77 => k_asm); (case mw77 => k_mem); (case iw77 => with_reducible assumption); (case cw77 => with_reducible assumption); k_whole); intro _ _ _ _ _; (try k_sweep))
  k_with "call ref" => w_strict (k_here; refine Halt.go ?_)
  k_with "exec Try" => w_strict (k_here; refine wpAny_Try_except ?_)
  have l3' : @LT.lt Nat _ 287 L' := l3
  conv at hst => rhs; whnf
  conv at hsc => rhs; whnf
  subst hst hsc
  revert X'; k_fill; intro X'
  have hP5 : ∀ q ∈ ((wa, lstO zw nw) :: (ha, lstO vh nh) :: (sa, lstO zs ns) :: rest), q.1 ≠ 287 := List.forall_mem_cons.mpr ⟨ow, List.forall_mem_cons.mpr ⟨oh, List.forall_mem_cons.mpr ⟨os', hPr⟩⟩⟩
  have hNu : NumOk 8 ah b := num_ok (by decide) ha1 hab hbc
  have hxy := dot_xy (by decide) hnx hny hsx hsy hdt
  have hxx := dot_xx (by decide) hnx hbx hsx
  have hyy := dot_xx (by decide) hny hby hsy
  k_steps
  (rename Fr _ _ _ _ => F1)
  (rename News _ _ _ _ => N1)
  refine Halt.on ?_
  k_dflt (refine' cov_spec8 ?k1 ?k2 ?k3 ?k4 ?k5 ?k6 ?k7 ?k8 (.head _) (.tail _ (.tail _ (.head _))) hw hs hbx hby hnx hny hP5 ht ?GB ?_; (case k1 => exact B'); (case k2 => exact F1); (case k3 => exact X'); (case k4 => exact N1); (case k5 => exact T'); (case k6 => exact rfl); (case k7 => ktr_room); (case k8 => ktr_units); (case GB => exact GB); k_whole)
  intro s5 t5 ps5 ht5 GB5 os5 dr5 F5 N5
  obtain ⟨h5, gens5, drawn5, tk5, os5'⟩ := s5
  clear F1 N1
  dsimp only at os5 dr5 F5 N5 GB5
  subst os5 dr5
  rw [hxy]
  k_steps
  · exact (num_fin hNu (by with_reducible assumption)).elim
  · exact (cov_no hNu.cov (by assumption)).elim
  (rename Fr _ _ _ _ => F3)
  (rename News _ _ _ _ => N3)
  refine Halt.on ?_
  k_dflt (refine' corr_spec8 ?k1 ?k2 ?k3 ?k4 ?k5 ?k6 ?k7 ?k8 (.tail _ (.head _)) (.tail _ (.tail _ (.tail _ (.head _)))) hw hs hbx hby (by omega) (by omega) XB TB D' hnx hny ?hok ?_ ?_; (case k1 => exact B'); (case k2 => exact F3); (case k3 => exact X'); (case k4 => exact N3); (case k5 => exact T'); (case k6 => exact rfl); (case k7 => ktr_room); (case k8 => ktr_units); (case hok => (rw [hxx, hyy]; exact hNu.sq)); k_whole)
  · intro hz h6 tk6 t6 F6 N6
    rw [hxx, hyy, hNu.zero] at hz
    have hb4 : b ≠ 8 := of_decide_eq_false hz
    rw [hxx, hyy, hxy]
    clear F3 N3
    dsimp only
    k_steps

    · exact (hb4 (by omega)).elim
    · dsimp only
      exact keeps_end (cmp_is (hNu.one hb4 (by assumption))) (by with_reducible assumption) (by with_reducible assumption) KtsTurn.refl drop3 fun kF kN => ret _ ps5 ht5 GB5 rfl rfl kF kN
    · dsimp only
      exact keeps_end (cmp_is (hNu.high hb4 (by assumption))) (by with_reducible assumption) (by with_reducible assumption) KtsTurn.refl drop3 fun kF kN => ret _ ps5 ht5 GB5 rfl rfl kF kN
    · dsimp only
      exact keeps_end (cmp_is (hNu.low hb4 (by assumption))) (by with_reducible assumption) (by with_reducible assumption) KtsTurn.refl drop3 fun kF kN => ret _ ps5 ht5 GB5 rfl rfl kF kN
  · intro hz e h6 tk6 G h₁ T1 B1 F1 R1 U1
    rw [hxx, hyy, hNu.zero] at hz
    have hb4 : b = 8 := of_decide_eq_true hz
    clear F3 N3
    dsimp only
    refine note_on rfl B1 R1 U1 ?_
    intro h7 R7 U7
    k_dflt (refine' handle_own R7 F1 B1 U7 XB TB (D'.turn T1) ?ex ?q ?_; (case ex => k_is); (case q => kts_isx); k_whole)
    clear R1 R7 U1 U7 F1
    intro h8 g8 T8 F8 N8 B8 X8 P8 D8
    have T18 := T1.trans T8
    clear T1 T8
    k_steps

    dsimp only
    exact keeps_end (int_is (by omega)) F8 N8 T18 drop3 fun kF kN => ret _ ps5 ht5 GB5 rfl rfl kF kN

end
end Mine
end
section
open PySem.Calls PySem.Spec
namespace Mine
open PySem.Builtin.Math
section
local macro_rules | `(tactic| k_all) => `(tactic| first | with_reducible assumption | exact offs_lt (by with_reducible assumption) (by omega))
local macro_rules | `(tactic| k_mem) => `(tactic| first | with_reducible assumption | exact List.mem_cons_self | (refine' List.mem_cons_of_mem _ ?_; k_mem))
theorem News.sub {h₀ h : Heap} {L : Addr} {news news' : List (Addr × Obj)} (N : News h₀ L h news) (hs : ∀ q ∈ news', q ∈ news) : News h₀ L h news' := fun q hq => N q (hs q hq)
theorem led9 {d w a b c x y t : Addr × Obj} {rest : List (Addr × Obj)} : ∀ q ∈ t :: w :: b :: c :: rest, q ∈ d :: w :: a :: b :: c :: x :: y :: t :: rest := fun q h => by
  simp only [List.mem_cons] at h ⊢
  rcases h with h | h | h | h | h
  · exact .inr (.inr (.inr (.inr (.inr (.inr (.inr (.inl h)))))))
  · exact .inr (.inl h)
  · exact .inr (.inr (.inr (.inl h)))
  · exact .inr (.inr (.inr (.inr (.inl h))))
  · exact .inr (.inr (.inr (.inr (.inr (.inr (.inr (.inr h)))))))
theorem keeps_c
 {w : World} {dp un : Nat} {gd : Option (List Code)} {cn : Str} {cs : Scope} {a : Addr} {ccd : Value} {cl : List (Str × Addr)} {base h₀ g' h : Heap} {L L' : Addr} {m : Str → Option Value} {rest : List (Addr × Obj)} {ps : Array Value} {gens : Array GenState} {drawn : Drawn} {tk : Nat} {os : OsState}
    {Q E : Value → Shared → Prop} {p : Program} {loose : List Str} {mean : ExcName → Option Value} {mg mb : Str → Option Value} {sc : Scope} {st : List Stmt} {fa : Addr} {frefs : List Value} {nf : Nat} {ds : List Int} {k : Int} {tkk : Tok} {ha sa : Addr}
    (hsc : sc = kScope) (hst : st = kBody.drop 7) (FG' : Fr h₀ L g' m)
    (F : Fr g' L' h (fun z => if z = Str.ofString "held" then some (.ref ha) else ((fun z => if z = Str.ofString "shows" then some (.ref sa) else (bindL (envOfC (Str.ofString "_law_keeps") sc L' 466 (.ref 465)).kindOf [(Str.ofString "files", .ref fa), (Str.ofString "k", .int k tkk)] (fun _ => none) z)) z)))
    (B' : Below (ktrTop dp un gd cn cs L a ccd cl []) base [envX cn cs L a ccd cl] g') (X' : (Mine.frag w.params).In g') (T' : Top p loose mean mg mb g') (D' : KtsDicts ([envX cn cs L a ccd cl].filterMap (·.frame)) g')
    (hk : cs.kind = .function) (hdp : dp + 20 < recursionLimit) (hun : un + 200 < cLine) (XB : (Mine.frag w.params).In base) (TB : Top p loose mean mg mb base)
    (hfa : (fa, lstO frefs nf) ∈ rest) (l3 : 287 < L') (l2 : ∀ q ∈ rest, q.1 < L') (hPr : ∀ q ∈ rest, q.1 ≠ 287) (ht : TriplesOk ps.toList) (GB : AllBare gens)
    {da : Addr} {dv vh zs : List Value} {nd nh ns : Nat} {o1 o2 : Obj} {tx : Str} {t5 : Tok} {sh : List Str} {ys : List Int} (N : News g' L' h ((da, lstO dv nd) :: (ha, lstO vh nh) :: (sa, lstO zs ns) :: (L' + 1 + 1 + 1, o1) :: (L' + 1 + 1, o2) :: (287, tabObj ps) :: rest))
    (d1 : o1.data = Data.cell (some (.ref da))) (d2 : o2.data = Data.cell (some (.str tx t5))) (hds : StrsAre dv sh) (hG : TopGood tx sh)
    (oh : ha ≠ 287) (os' : sa ≠ 287) (hs : IntsAre zs ys) (hF : All2 (FileIn rest) frefs ds) (hd0 : ∀ d ∈ ds, 0 ≤ d ∧ d < 60) (hlen : LenOk ds)
    (hby : Bits ys) (hny : ys.length = ds.length) (hnh : (vh.length : Int) = ys.sum) (ha1 : 1 ≤ ys.sum) (hdt : dot (ds.map fun d => inI sh d) ys = ys.sum) (hab : ys.sum ≤ (ds.map fun d => inI sh d).sum) 
    (ret : ∀ s' ps', TriplesOk ps'.toList → AllBare s'.gens → s'.os = os → s'.drawn = drawn → Fr h₀ L s'.heap m → News h₀ L s'.heap ((287, tabObj ps') :: rest) → Q (.bool true) s') :
    wpAny (model PySem.Challenge.rw_ik0222_01.row.prog w) ((ktrTop dp un gd cn cs L a ccd cl []).deeper (envOfC (Str.ofString "_law_keeps") sc L' 466 (.ref 465))) (execs st (envOfC (Str.ofString "_law_keeps") sc L' 466 (.ref 465)))
      (fun fl s' => LeaveS0 ([envX cn cs L a ccd cl].filterMap (·.frame)) h₀ L m g' (fun r s' => match r with | .ok (.ret v) => Q v s' | .ok _ => False | .error e => E e s') (match fl with | .ret v => v | _ => .none) s')
      (fun e s' => wpAny (model PySem.Challenge.rw_ik0222_01.row.prog w) ((ktrTop dp un gd cn cs L a ccd cl []).deeper (envOfC (Str.ofString "_law_keeps") sc L' 466 (.ref 465))) (leaving (envOfC (Str.ofString "_law_keeps") sc L' 466 (.ref 465)) e) (fun _ s'' => E e s'') (fun e' s'' => E e' s'') s') ⟨h, gens, drawn, tk, os⟩ := by
  k_with_none
  k_with "exec Assign cons ListComp" => w_strict (k_here; k_dflt (refine LCg.Assign_ListComp_U (F₀ := by k_asm) (by rfl) (by with_unfolding_all rfl) (by with_unfolding_all rfl) (by decide) (by rfl) (by decide) (by rfl) (by rfl) (by rfl) ?_); walk1; k_dflt (refine LCg.CompSrc.ledger (by rfl) (by k_asm) (by k_asm) (by k_mem) (by rw [PySem.sizeLine_eq, List.size_toArray]; omega) ?_))
  k_with "subscriptTail" => w_strict (k_here; (with_reducible show wpAny _ _ (subscriptTail _ _ (Value.ref _) (Value.int _ _)) _ _ _); k_dflt (refine' item_led ?Nw81 ?mw81 ?aw81 ?bw81 ?xw81 ?_ ?sw81; (case Nw81 => k_asm); (case mw81 => k_mem); (case aw81 => first | decide | omega); (case bw81 => first | decide | omega); (case xw81 => first | rfl | assumption); (case sw81 => with_unfolding_all rfl); k_whole))
  k_with "call builtin:len" => w_strict (k_here; (with_reducible show wpAny _ _ (call (Value.builtin "len") [Value.ref _]) _ _ _); k_dflt (refine' len_strs ?Nw82 ?mw82 ?aw82 ?bw82 ?_; (case Nw82 => k_asm); (case mw82 => k_mem); (case aw82 => with_reducible assumption); (case bw82 => first | assumption | omega); k_whole); intro _ _)
  k_with "subscriptTail" => w_strict (k_here; (with_reducible show wpAny _ _ (subscriptTail _ (PySem.Expr.Slice none (some _) none _) (Value.ref _) (Value.ref _)) _ _ _); k_dflt (refine' slice_strs (s := ⟨_, _, _, _, _⟩) ?Fw83 ?Nw83 ?lw83 ?iw83 ?zw83 ?pw83 ?qw83 ?xw83 ?_ ?sw83; (case Fw83 => k_asm); (case Nw83 => k_asm); (case lw83 => k_mem); (case pw83 => kmk_part); (case qw83 => kmk_part); (case iw83 => with_reducible assumption); (case zw83 => first | with_reducible assumption | omega); (case xw83 => first | exact (Int.natCast_succ _).symm | rfl); (case sw83 => with_unfolding_all rfl)); intro _ _ _ _ _ _ _ _; (try k_sweep))
  k_with "compareOp Eq ref ref" => w_strict (k_here; k_dflt (refine' eq_strs (s := ⟨_, _, _, _, _⟩) ?lw84 ?bw84 ?xw84 ?yw84 ?uw84 ?_; (case lw84 => exact News.isList (by k_asm) (by k_mem)); (case bw84 => exact News.isList (by k_asm) (by k_mem)); (case xw84 => with_reducible assumption); (case yw84 => with_reducible assumption); (case uw84 => ktr_units); k_whole))
  k_with "compareOp NotEq ref ref" => w_strict (k_here; k_dflt (refine' ne_same (s := ⟨_, _, _, _, _⟩) ?lw85 ?bw85 ?xw85 ?yw85 ?uw85 ?_; (case lw85 => exact News.isList (by k_asm) (by k_mem)); (case bw85 => exact News.isList (by k_asm) (by k_mem)); (case xw85 => with_reducible assumption); (case yw85 => with_reducible assumption); (case uw85 => ktr_units); k_whole))
  k_with "eval ListComp" => w_strict (k_here; k_dflt (refine LCg.ListComp_U (F₀ := by k_asm) (by with_unfolding_all rfl) (by decide) (by rfl) (by decide) (by rfl) ?_); walk1; k_dflt (refine LCg.CompSrc.ledger (by rfl) (by k_asm) (by k_asm) (by k_mem) (by rw [PySem.sizeLine_eq, List.size_toArray]; omega) ?_))
  k_with "call ref" => w_strict (k_here; refine Halt.go ?_)
  k_with "execs cons Assign cons" => w_strict (k_here; (with_reducible show wpAny _ _ (execs (Stmt.Assign [Expr.Name _ _] (Expr.Call (Expr.Name _ _) [Expr.Name _ _] _ _) _ :: _) _) _ _ _); refine Halt.go ?_)
  have l3' : @LT.lt Nat _ 287 L' := l3
  conv at hst => rhs; whnf
  conv at hsc => rhs; whnf
  subst hst hsc
  revert X'; k_fill; intro X'
  have hfl : frefs.length ≤ 8 := by rw [hF.len]; exact hlen.le
  have hsh4 : sh.length ≤ 1000 := Nat.le_trans hG.short (by decide)
  k_steps
  refine rest_map (news := _) (Rel := FileIn rest) (Rel' := IntRel) (fun d => inI sh d) hF (fun i v e => by simpa using e) (.inr ⟨_, by k_mem, rfl, _, rfl⟩) ?_ ?_
  · intro v d I oI C oC D m₂ ys1 h tk E' hdm hr hC hx' F' N' off ne
    obtain ⟨fa', an, vs', t1, t2, t3, n1, n2, rfl, hf1, hf2, hf3⟩ := hr
    have hdd := hd0 d hdm
    k_steps
    (rename Fr _ _ _ _ => F6)
    (rename News _ _ _ _ => N6)
    refine Halt.on ?_
    k_dflt (refine' commonpath_spec (refs := [.str tx t5, .str (pathOf d) t1]) (xs := [tx, pathOf d]) (nss := [sh, namesOf d]) ?k1 ?k2 ?k3 ?k4 ?k5 ?k6 ?k7 ?k8 ?hra (.cons _ _ (.cons _ _ .nil)) (.cons hG.good (.cons (path_good hdd.1 hdd.2) .nil)) (Nat.le_of_ble_eq_true rfl) (Nat.zero_lt_succ _) ?_; (case k1 => exact B'); (case k2 => exact F6); (case k3 => exact X'); (case k4 => exact N6); (case k5 => exact T'); (case k6 => exact rfl); (case k7 => ktr_room); (case k8 => ktr_units); (case hra => k_mem); k_whole)
    intro h7 tk7 t7 s1 kk hs1 hsh F7 N7
    obtain ⟨ty, hty⟩ : ∃ ty, ty = topOf (s1.take kk) := ⟨_, rfl⟩
    rw [show Str.ofString "/" ++ Txt.join (Str.ofString "/") (s1.take kk) = ty from hty.symm]
    clear F6 N6
    dsimp only
    k_steps
    · exact ⟨_, _, rfl, F7, fun q hq => N7 q (.tail _ hq), _, congrArg (fun z => Value.int z _) (in_yes hG hs1 hsh hty (eq_of_beq (by assumption)))⟩
    · exact ⟨_, _, rfl, F7, fun q hq => N7 q (.tail _ hq), _, congrArg (fun z => Value.int z _) (in_no hG hs1 hsh hty (ne_of_beq_false (by assumption)))⟩
  · intro zw hzs
    have hwI : IntsAre zw (ds.map fun d => inI sh d) := ints_all2 hzs
    have hzl : zw.length ≤ 8 := by rw [hzs.len, List.length_map]; exact hlen.le
    intro wa h2 tk F' N' off
    simp only [LCg.Off1] at off
    clear hzs
    k_steps
    (rename Fr _ _ _ _ => lF)
    (rename News _ _ _ _ => lN)
    refine rest_map (news := _) (Rel := FileIn rest) (Rel' := IntRel) (fun d => inI sh d) hF (fun i v e => by simpa using e) (.inr ⟨_, by k_mem, rfl, _, rfl⟩) ?_ ?_
    · intro v d I oI C oC D m₂ ys1 h tk E' hdm hr hC hx' F' N' off ne
      obtain ⟨fa', an, vs', t1, t2, t3, n1, n2, rfl, hf1, hf2, hf3⟩ := hr
      have hdd := hd0 d hdm
      have hns : (namesOf d).length ≤ 1000 := Nat.le_trans (names_short hdd.1 hdd.2) (by decide)
      clear lF lN
      k_steps
      · (rename Fr _ _ _ _ => F9)
        (rename News _ _ _ _ => N9)
        exact ⟨_, _, rfl, F9, fun q hq => N9 q (.tail _ hq), _, congrArg (fun z => Value.int z _) (in_one (by assumption))⟩
      · (rename Fr _ _ _ _ => F9)
        (rename News _ _ _ _ => N9)
        exact ⟨_, _, rfl, F9, fun q hq => N9 q (.tail _ hq), _, congrArg (fun z => Value.int z _) (in_zero (by assumption))⟩
    · intro zw2 hzs
      have hwI2 : IntsAre zw2 (ds.map fun d => inI sh d) := ints_all2 hzs
      clear hzs lF lN
      intros
      k_steps
      (rename Fr _ _ _ _ => F9)
      (rename News _ _ _ _ => N9)
      refine Halt.on ?_
      have ow : wa ≠ 287 := fun q => off.2.2.2.2.2.1 q.symm
      have hbx : Bits (ds.map fun d => inI sh d) := in_bits
      have hN9 := News.sub N9 (led9 (rest := rest))
      rcases hlen.len with h4 | h8
      · exact keeps_d4 (ds := ds) (hsc := rfl) (hst := rfl) FG' F9 B' X' T' D' hk hdp hun XB TB hfa l3 l2 hPr ht GB hN9 ow oh os' hwI hs hbx hby (by rw [List.length_map, h4]; rfl) (by rw [hny, h4]; rfl) (by rw [hF.len, h4]; rfl) hnh rfl rfl hdt ha1 hab (by have := bits_sum_le hbx; rw [List.length_map, h4] at this; omega) ret
      · exact keeps_d8 (ds := ds) (hsc := rfl) (hst := rfl) FG' F9 B' X' T' D' hk hdp hun XB TB hfa l3 l2 hPr ht GB hN9 ow oh os' hwI hs hbx hby (by rw [List.length_map, h8]; rfl) (by rw [hny, h8]; rfl) (by rw [hF.len, h8]; rfl) hnh rfl rfl hdt ha1 hab (by have := bits_sum_le hbx; rw [List.length_map, h8] at this; omega) ret

end
end Mine
end
section
open PySem.Calls PySem.Spec
namespace Mine
open PySem.Builtin.Math
section
local macro_rules | `(tactic| k_all) => `(tactic| first | with_reducible assumption | exact offs_lt (by with_reducible assumption) (by omega))
local macro_rules | `(tactic| k_mem) => `(tactic| first | with_reducible assumption | exact List.mem_cons_self | (refine' List.mem_cons_of_mem _ ?_; k_mem))
theorem led7 {a b c d e x y z : Addr × Obj} {rest : List (Addr × Obj)} : ∀ q ∈ a :: d :: e :: x :: y :: z :: rest, q ∈ a :: b :: c :: d :: e :: x :: y :: z :: rest := fun q h => by
  rcases List.mem_cons.mp h with h | h
  · rw [h]; exact .head _
  · exact .tail _ (.tail _ (.tail _ h))
theorem keeps_b
 {w : World} {dp un : Nat} {gd : Option (List Code)} {cn : Str} {cs : Scope} {a : Addr} {ccd : Value} {cl : List (Str × Addr)} {base h₀ g' h : Heap} {L L' : Addr} {m : Str → Option Value} {rest : List (Addr × Obj)} {ps : Array Value} {gens : Array GenState} {drawn : Drawn} {tk : Nat} {os : OsState}
    {Q E : Value → Shared → Prop} {p : Program} {loose : List Str} {mean : ExcName → Option Value} {mg mb : Str → Option Value} {sc : Scope} {st : List Stmt} {fa : Addr} {frefs : List Value} {nf : Nat} {ds : List Int} {k : Int} {tkk : Tok} {ha sa : Addr}
    (hsc : sc = kScope) (hst : st = kBody.drop 4) (FG' : Fr h₀ L g' m)
    (F : Fr g' L' h (fun z => if z = Str.ofString "held" then some (.ref ha) else ((fun z => if z = Str.ofString "shows" then some (.ref sa) else (bindL (envOfC (Str.ofString "_law_keeps") sc L' 466 (.ref 465)).kindOf [(Str.ofString "files", .ref fa), (Str.ofString "k", .int k tkk)] (fun _ => none) z)) z)))
    (B' : Below (ktrTop dp un gd cn cs L a ccd cl []) base [envX cn cs L a ccd cl] g') (X' : (Mine.frag w.params).In g') (T' : Top p loose mean mg mb g') (D' : KtsDicts ([envX cn cs L a ccd cl].filterMap (·.frame)) g')
    (hk : cs.kind = .function) (hdp : dp + 20 < recursionLimit) (hun : un + 200 < cLine) (XB : (Mine.frag w.params).In base) (TB : Top p loose mean mg mb base)
    (hfa : (fa, lstO frefs nf) ∈ rest) (l3 : 287 < L') (l2 : ∀ q ∈ rest, q.1 < L') (hPr : ∀ q ∈ rest, q.1 ≠ 287) (ht : TriplesOk ps.toList) (GB : AllBare gens)
    {vh zs : List Value} {nh ns : Nat} {o1 o2 : Obj} {c1 : Option Value} {tx : Str} {t5 : Tok} {ys hr : List Int} {d0 : Int} (N : News g' L' h ((ha, lstO vh nh) :: (sa, lstO zs ns) :: (L' + 1 + 1 + 1, o1) :: (L' + 1 + 1, o2) :: (287, tabObj ps) :: rest))
    (d1 : o1.data = Data.cell c1) (d2 : o2.data = Data.cell (some (.str tx t5))) (hH : All2 (FileIn rest) vh (d0 :: hr)) (hhl : vh.length ≤ 8) (hbd : ∀ d ∈ d0 :: hr, 0 ≤ d ∧ d < 60) (hT : TopIs ((d0 :: hr).map namesOf) tx)
    (oh : ha ≠ 287) (os' : sa ≠ 287) (oc : ha ≠ L' + 1 + 1 + 1 ∧ sa ≠ L' + 1 + 1 + 1) (hs : IntsAre zs ys) (hF : All2 (FileIn rest) frefs ds) (hd0 : ∀ d ∈ ds, 0 ≤ d ∧ d < 60) (hlen : LenOk ds)
    (hys : ys = ds.map fun d => showI k d) (hhs : ds.filter (fun d => showB k d) = d0 :: hr)
    (ret : ∀ s' ps', TriplesOk ps'.toList → AllBare s'.gens → s'.os = os → s'.drawn = drawn → Fr h₀ L s'.heap m → News h₀ L s'.heap ((287, tabObj ps') :: rest) → Q (.bool true) s') :
    wpAny (model PySem.Challenge.rw_ik0222_01.row.prog w) ((ktrTop dp un gd cn cs L a ccd cl []).deeper (envOfC (Str.ofString "_law_keeps") sc L' 466 (.ref 465))) (execs st (envOfC (Str.ofString "_law_keeps") sc L' 466 (.ref 465)))
      (fun fl s' => LeaveS0 ([envX cn cs L a ccd cl].filterMap (·.frame)) h₀ L m g' (fun r s' => match r with | .ok (.ret v) => Q v s' | .ok _ => False | .error e => E e s') (match fl with | .ret v => v | _ => .none) s')
      (fun e s' => wpAny (model PySem.Challenge.rw_ik0222_01.row.prog w) ((ktrTop dp un gd cn cs L a ccd cl []).deeper (envOfC (Str.ofString "_law_keeps") sc L' 466 (.ref 465))) (leaving (envOfC (Str.ofString "_law_keeps") sc L' 466 (.ref 465)) e) (fun _ s'' => E e s'') (fun e' s'' => E e' s'') s') ⟨h, gens, drawn, tk, os⟩ := by
  k_with_none
  k_with "exec Assign cons ListComp" => w_strict (k_here; k_dflt (refine LCg.Assign_ListComp_U (F₀ := by k_asm) (by rfl) (by with_unfolding_all rfl) (by with_unfolding_all rfl) (by decide) (by rfl) (by decide) (by rfl) (by rfl) (by rfl) ?_); walk1; k_dflt (refine LCg.CompSrc.ledger (by rfl) (by k_asm) (by k_asm) (by k_mem) (by rw [PySem.sizeLine_eq, List.size_toArray]; omega) ?_))
  k_with "subscriptTail" => w_strict (k_here; (with_reducible show wpAny _ _ (subscriptTail _ _ (Value.ref _) (Value.int _ _)) _ _ _); k_dflt (refine' item_led ?Nw90 ?mw90 ?aw90 ?bw90 ?xw90 ?_ ?sw90; (case Nw90 => k_asm); (case mw90 => k_mem); (case aw90 => first | decide | omega); (case bw90 => first | decide | omega); (case xw90 => first | rfl | assumption); (case sw90 => with_unfolding_all rfl); k_whole))
  k_with "call builtin:str.join" => w_strict (k_here; (with_reducible show wpAny _ _ (call (Value.builtin "str.join") [Value.str _ _, Value.ref _]) _ _ _); k_dflt (refine' join_led ?k1w91 ?k2w91 ?k3w91 ?k4w91 ?k5w91 ?_; (case k1w91 => k_asm); (case k2w91 => k_mem); (case k3w91 => with_reducible assumption); (case k4w91 => with_reducible assumption); (case k5w91 => decide); k_whole); intro _ _ _)
  k_with "compareOp Eq ref ref" => w_strict (k_here; k_dflt (refine' eq_nil (s := ⟨_, _, _, _, _⟩) ?lw92 ?bw92 ?uw92 ?_; (case lw92 => exact News.isList (by k_asm) (by k_mem)); (case bw92 => exact News.isList (by k_asm) (by k_mem)); (case uw92 => ktr_units); k_whole))
  k_with "eval ListComp" => w_strict (k_here; k_dflt (refine LCg.ListComp_U (F₀ := by k_asm) (by with_unfolding_all rfl) (by decide) (by rfl) (by decide) (by rfl) ?_); walk1; k_dflt (refine LCg.CompSrc.ledger (by rfl) (by k_asm) (by k_asm) (by k_mem) (by rw [PySem.sizeLine_eq, List.size_toArray]; omega) ?_))
  k_with "call ref" => w_strict (k_here; refine Halt.go ?_)
  k_with "execs cons Assign cons" => w_strict (k_here; (with_reducible show wpAny _ _ (execs (Stmt.Assign [Expr.Name _ _] (Expr.ListComp _ _ _ _) _ :: _) _) _ _ _); refine Halt.go ?_)
  have l3' : @LT.lt Nat _ 287 L' := l3
  conv at hst => rhs; whnf
  conv at hsc => rhs; whnf
  subst hst hsc
  revert X'; k_fill; intro X'
  have oc1 : @Ne Nat ha (L' + 1 + 1 + 1) := oc.1
  have oc2 : @Ne Nat sa (L' + 1 + 1 + 1) := oc.2
  have hne : vh.isEmpty = false := by cases hH; rfl
  k_steps
  (rename Fr _ _ _ _ => lF)
  (rename News _ _ _ _ => lN)
  refine rest_map (news := _) (Rel := FileIn rest) (Rel' := RowRel rest) (fun d => namesOf d) hH (fun i v e => by simpa using e) (.inr ⟨_, by k_mem, rfl, _, rfl⟩) ?_ ?_
  · intro v d I oI C oC D m₂ ys h tk E' hdm hr C' hx' F' N' off ne
    obtain ⟨fa', an, vs', t1, t2, t3, n1, n2, rfl, hf1, hf2, hf3⟩ := hr
    clear lF lN
    k_steps
    (rename Fr _ _ _ _ => F9)
    (rename News _ _ _ _ => N9)
    exact ⟨_, _, rfl, F9, N9, _, _, _, rfl, hf2, hf3⟩
  · intro nrefs hnr
    have hnl : nrefs.length ≤ 8 := by rw [hnr.len, List.length_map, ← hH.len]; exact hhl
    have hrl : ∀ r ∈ (d0 :: hr).map (fun d => namesOf d), r.length ≤ 1000 := fun r hr' => by
      obtain ⟨x, hx, rfl⟩ := List.mem_map.mp hr'
      exact Nat.le_trans (names_short (hbd x hx).1 (hbd x hx).2) (by decide)
    intros
    clear lF lN
    k_steps
    (rename Fr _ _ _ _ => F3)
    (rename News _ _ _ _ => N3)
    refine Halt.on ?_
    k_dflt (refine' shared_spec ?k1 ?k2 ?k3 ?k4 ?k5 ?k6 ?k7 ?k8 ?hra (n0 := namesOf d0) (nss := hr.map fun d => namesOf d) ?hR hnl hrl ?_; (case k1 => exact B'); (case k2 => exact F3); (case k3 => exact X'); (case k4 => exact N3); (case k5 => exact T'); (case k6 => exact rfl); (case k7 => ktr_room); (case k8 => ktr_units); (case hra => k_mem); (case hR => exact hnr.mono fun v ns r => RowRel.mono (fun q hq => by k_mem) r); k_whole)
    intro D4 h4 tk4 ws4 n4 k4 F4 N4 l4 hS4 hI4
    have hTx : tx = topOf ((namesOf d0).take k4) := hT.eq (.head _) hI4
    have hTG := topGood (hbd d0 (.head _)).1 (hbd d0 (.head _)).2 k4
    rw [← hTx] at hTG
    have hw4 : weigh ((namesOf d0).take k4) ≤ 1000 := hTG.good.weighs
    obtain ⟨sh, hse⟩ : ∃ sh, (namesOf d0).take k4 = sh := ⟨_, rfl⟩
    rw [hse] at hTx hTG hw4 hS4
    k_lt l4
    clear F3 N3
    dsimp only
    k_steps
    · exact (top_no hTx (by assumption)).elim
    · (rename Fr _ _ _ _ => F9)
      (rename News _ _ _ _ => N9)
      (rename (_ = Data.cell (some (Value.ref D4))) => d9)
      refine Halt.on ?_
      subst hys
      have hin := in_all hhs hI4 hse
      have hdot := in_dot k sh ds hin
      have hcnt := show_count k ds
      rw [hhs] at hcnt
      exact keeps_c (hsc := rfl) (hst := rfl) FG' F9 B' X' T' D' hk hdp hun XB TB hfa l3 l2 hPr ht GB (News.sub N9 led7) d9 d2 hS4 hTG oh os' hs hF hd0 hlen (show_bits k ds) (by rw [List.length_map]) (by rw [hH.len]; exact hcnt) (by rw [← hcnt, List.length_cons]; omega) hdot.1 hdot.2 ret

end
end Mine
end
section
open PySem.Calls PySem.Spec
namespace Mine
open PySem.Builtin.Math
section
local macro_rules | `(tactic| k_all) => `(tactic| first | with_reducible assumption | exact offs_lt (by with_reducible assumption) (by omega))
local macro_rules | `(tactic| k_mem) => `(tactic| first | with_reducible assumption | exact List.mem_cons_self | (refine' List.mem_cons_of_mem _ ?_; k_mem))
theorem allLt_all' {d : Addr} (l : List (Addr × Obj)) : AllLt d l → ∀ q ∈ l, q.1 < d := by
  induction l with
  | nil => intro _ q hq; cases hq
  | cons x r ih =>
    intro h q hq
    rcases List.mem_cons.mp hq with e | hq
    · rw [e]; exact h.1
    · exact ih h.2 q hq
theorem led4 {a b c d x y z u : Addr × Obj} {rest : List (Addr × Obj)} : ∀ q ∈ b :: d :: x :: y :: u :: rest, q ∈ a :: b :: c :: d :: x :: y :: z :: u :: rest := fun q h => by
  simp only [List.mem_cons] at h ⊢
  rcases h with h | h | h | h | h | h
  · exact .inr (.inl h)
  · exact .inr (.inr (.inr (.inl h)))
  · exact .inr (.inr (.inr (.inr (.inl h))))
  · exact .inr (.inr (.inr (.inr (.inr (.inl h)))))
  · exact .inr (.inr (.inr (.inr (.inr (.inr (.inr (.inl h)))))))
  · exact .inr (.inr (.inr (.inr (.inr (.inr (.inr (.inr h)))))))
theorem keeps_spec
 {w : World} {dp un : Nat} {gd : Option (List Code)} {cn : Str} {cs : Scope} {a : Addr} {ccd : Value} {cl : List (Str × Addr)} {A₀ : Around} {base h₀ : Heap} {L : Addr} {m : Str → Option Value} {rest : List (Addr × Obj)} {ps : Array Value} {s : Shared}
    {Q E : Value → Shared → Prop} {p : Program} {loose : List Str} {mean : ExcName → Option Value} {mg mb : Str → Option Value}
    (B : Below A₀ base [] h₀) (F : Fr h₀ L s.heap m) (X : (Mine.frag w.params).In h₀) (N : News h₀ L s.heap ((287, tabObj ps) :: rest)) (T : Top p loose mean mg mb h₀) (hk : cs.kind = .function)
    (hdp : dp + 20 < recursionLimit) (hun : un + 200 < cLine) (XB : (Mine.frag w.params).In base) (TB : Top p loose mean mg mb base)
    {fa : Addr} {frefs : List Value} {nf : Nat} {ds : List Int} {k : Int} {tk : Tok} (hfa : (fa, lstO frefs nf) ∈ rest) (hF : All2 (FileIn rest) frefs ds) (hd0 : ∀ d ∈ ds, 0 ≤ d ∧ d < 60) (hlen : LenOk ds) (hk1 : 1 ≤ k) (hk9 : k ≤ 9)
    (hPr : ∀ q ∈ rest, q.1 ≠ 287) (ht : TriplesOk ps.toList) (GB : AllBare s.gens)
    (ret : ∀ s' ps', TriplesOk ps'.toList → AllBare s'.gens → s'.os = s.os → s'.drawn = s.drawn → Fr h₀ L s'.heap m → News h₀ L s'.heap ((287, tabObj ps') :: rest) → Q (.bool true) s') :
    wpAny (model PySem.Challenge.rw_ik0222_01.row.prog w) (ktrTop dp un gd cn cs L a ccd cl []) (call (.ref 466) [.ref fa, .int k tk]) Q E s := by
  k_with_none
  k_with "exec Assign cons ListComp" => w_strict (k_here; k_dflt (refine LCg.Assign_ListComp_U (F₀ := by k_asm) (by rfl) (by with_unfolding_all rfl) (by with_unfolding_all rfl) (by decide) (by rfl) (by decide) (by rfl) (by rfl) (by rfl) ?_); walk1; k_dflt (refine LCg.CompSrc.ledger (by rfl) (by k_asm) (by k_asm) (by k_mem) (by rw [PySem.sizeLine_eq, List.size_toArray]; omega) ?_))
  k_with "subscriptTail" => w_strict (k_here; (with_reducible show wpAny _ _ (subscriptTail _ _ (Value.ref _) (Value.int _ _)) _ _ _); k_dflt (refine' item_led ?Nw97 ?mw97 ?aw97 ?bw97 ?xw97 ?_ ?sw97; (case Nw97 => k_asm); (case mw97 => k_mem); (case aw97 => first | decide | omega); (case bw97 => first | decide | omega); (case xw97 => first | rfl | assumption); (case sw97 => with_unfolding_all rfl); k_whole))
  k_with "exec Try" => w_strict (k_here; refine wpAny_Try_except ?_)
  k_with "compareOp NotEq ref ref" => w_strict (k_here; k_dflt (refine' ne_same (s := ⟨_, _, _, _, _⟩) ?lw99 ?bw99 ?xw99 ?yw99 ?uw99 ?_; (case lw99 => exact News.isList (by k_asm) (by k_mem)); (case bw99 => exact News.isList (by k_asm) (by k_mem)); (case xw99 => with_reducible assumption); (case yw99 => with_reducible assumption); (case uw99 => ktr_units); k_whole))
  k_with "exec Assign cons ListComp" => w_strict (k_here; (with_reducible show wpAny _ _ (exec (Stmt.Assign _ (Expr.ListComp _ [Comprehension.mk _ _ [_] _] _ _) _) _) _ _ _); refine Halt.go ?_)
  k_with "call ref" => w_strict (k_here; refine Halt.go ?_)
  k_with "eval ListComp" => w_strict (k_here; k_dflt (refine LCg.ListComp_U (F₀ := by k_asm) (by with_unfolding_all rfl) (by decide) (by rfl) (by decide) (by rfl) ?_); walk1; k_dflt (refine LCg.CompSrc.ledger (by rfl) (by k_asm) (by k_asm) (by k_mem) (by rw [PySem.sizeLine_eq, List.size_toArray]; omega) ?_))
  k_with "compareOp Eq ref ref" => w_strict (k_here; k_dflt (refine' eq_nil (s := ⟨_, _, _, _, _⟩) ?lw103 ?bw103 ?uw103 ?_; (case lw103 => exact News.isList (by k_asm) (by k_mem)); (case bw103 => exact News.isList (by k_asm) (by k_mem)); (case uw103 => ktr_units); k_whole))
  k_with "execs cons If" => w_strict (k_here; (with_reducible show wpAny _ _ (execs (Stmt.If (Expr.Compare (Expr.Name _ _) _ [Expr.List _ _] _) _ _ _ :: _) _) _ _ _); refine Halt.go ?_)
  revert X; k_fill; intro X
  refine wpAny_call ?_
  have hfl : frefs.length ≤ 8 := by rw [hF.len]; exact hlen.le
  k_dflt (refine' code_defT (binds := [(Str.ofString "files", .ref fa), (Str.ofString "k", .int k tk)]) ?k1 ?k2 ?k3 ?k4 ?k5 ?kA ?kF ?kK ?k6 ?k7 ?k8 ?k9 ?kB ?kD ?_ ?c2 ?c3 ?c4; (case kA => exact rfl); (case kF => exact rfl); (case kK => first | exact rfl | assumption); (case k1 => k_asm); (case k2 => k_asm); (case k3 => k_asm); (case k4 => k_asm); (case k5 => k_asm); (case k6 => k_is); (case k7 => k_is); (case k8 => ktr_room); (case k9 => exact BindsTo.of_eq rfl); (case kB => exact rfl); (case kD => decide +kernel); (case c2 => exact rfl); (case c3 => exact rfl); (case c4 => exact rfl); k_whole; intro g' L' h' tk' cells' FG' F' N' Y' B' X' T' l1 D'; (try k_lt l1); k_cells Y'; (try simp only [List.cons_append, List.nil_append] at N'); (try dsimp only); (try k_fold))
  obtain ⟨l3, l4⟩ := l1
  have l2 : ∀ q ∈ rest, q.1 < L' := allLt_all' _ l4
  clear l4
  have l3' : @LT.lt Nat _ 287 L' := l3
  k_steps
  refine rest_map (news := _) (Rel := FileIn rest) (Rel' := IntRel) (fun d => showI k d) hF (fun i v e => by simpa using e) (.inr ⟨_, by k_mem, rfl, _, rfl⟩) ?_ ?_
  · intro v d I oI C oC D m₂ ys1 h tk E' hdm hr hC hx' F' N' off ne
    obtain ⟨fa', an, vs', t1, t2, t3, n1, n2, rfl, hf1, hf2, hf3⟩ := hr
    have hdd := hd0 d hdm
    have hml : (modeOf d).length = 10 := mode_len hdd.1 hdd.2
    k_steps
    · (rename Fr _ _ _ _ => F9)
      (rename News _ _ _ _ => N9)
      exact ⟨_, _, rfl, F9, N9, _, congrArg (fun z => Value.int z _) (show_no (by assumption))⟩
    · (rename Fr _ _ _ _ => F9)
      (rename News _ _ _ _ => N9)
      exact ⟨_, _, rfl, F9, N9, _, congrArg (fun z => Value.int z _) (show_yes (by assumption))⟩
  · intro zs hzs
    have hzI : IntsAre zs (ds.map fun d => showI k d) := ints_all2 hzs
    have hzl : zs.length ≤ 8 := by rw [hzs.len, List.length_map]; exact hlen.le
    intro D h tk F' N' off
    simp only [LCg.Off1] at off
    clear hzs
    k_steps
    (rename Fr _ _ _ _ => lF)
    (rename News _ _ _ _ => lN)
    refine rest_map (news := _) (Rel := FileIn rest) (Rel' := IntRel) (fun d => bitI k d) hF (fun i v e => by simpa using e) (.inr ⟨_, by k_mem, rfl, _, rfl⟩) ?_ ?_
    · intro v d I oI C oC D m₂ ys1 h tk E' hdm hr hC hx' F' N' off ne
      obtain ⟨fa', an, vs', t1, t2, t3, n1, n2, rfl, hf1, hf2, hf3⟩ := hr
      have hdd := hd0 d hdm
      have hnb := num_bounds hdd.1 hdd.2
      clear lF lN
      k_steps
      (rename Fr _ _ _ _ => F9)
      (rename News _ _ _ _ => N9)
      exact ⟨_, _, rfl, F9, N9, _, rfl⟩
    · intro ws hws
      have e9 : (ds.map fun d => bitI k d) = ds.map fun d => showI k d := List.map_congr_left fun d hd => (show_bit hk1 hk9 (hd0 d hd).1 (hd0 d hd).2).symm
      have hwI : IntsAre ws (ds.map fun d => showI k d) := e9 ▸ ints_all2 hws
      have hwl : ws.length ≤ 8 := by rw [hws.len, List.length_map]; exact hlen.le
      clear hws lF lN e9
      intros
      k_steps
      refine Halt.on ?_
      (rename Fr _ _ _ _ => lF)
      (rename News _ _ _ _ => lN)
      k_dflt (refine LCt.Assign_ListComp_T (F₀ := lF) (by rfl) (by with_unfolding_all rfl) (by with_unfolding_all rfl) (by decide) (by rfl) (by decide) (by rfl) (by rfl) (by rfl) ?_)
      walk1
      k_dflt (refine LCt.CompSrcT.ledger (k := nf) (by rfl) lF lN (by k_mem) (by rw [List.size_toArray, PySem.sizeLine_eq]; omega) ?_)
      intro g8
      refine restT_filter (news := _) (Rel := FileIn rest) (Rel' := FileIn rest) (fun d => showB k d) id hF (fun i v e => by simpa using e) (.inr ⟨_, by k_mem, rfl, _, rfl⟩) ?_ ?_
      · intro v d I oI C oC D m₂ ys h tk E' hdm hr hC hx F' N' off ne
        have hr' := hr
        obtain ⟨fa', an, vs', t1, t2, t3, n1, n2, rfl, hf1, hf2, hf3⟩ := hr
        have hdd := hd0 d hdm
        have hml : (modeOf d).length = 10 := mode_len hdd.1 hdd.2
        clear lF lN
        k_steps
        · assumption
        · assumption
        · (rename Fr _ _ _ _ => F9)
          (rename News _ _ _ _ => N9)
          exact ⟨_, _, rfl, F9, N9, hr'⟩
      · intro hrefs hH
        rw [List.map_id] at hH
        obtain ⟨hs, hhs⟩ : ∃ hs, ds.filter (fun d => showB k d) = hs := ⟨_, rfl⟩
        rw [hhs] at hH
        have hsub : ∀ d ∈ hs, d ∈ ds := fun d hd => (List.mem_filter.mp (hhs ▸ hd)).1
        have hhl : hrefs.length ≤ 8 := by rw [hH.len]; exact Nat.le_trans (hhs ▸ List.length_filter_le _ _) hlen.le
        intros
        clear lF lN
        k_steps
        (rename Fr _ _ _ _ => lF)
        (rename News _ _ _ _ => lN)
        refine rest_map (news := _) (Rel := FileIn rest) (Rel' := StrRel) (fun d => pathOf d) hH (fun i v e => by simpa using e) (.inr ⟨_, by k_mem, rfl, _, rfl⟩) ?_ ?_
        · intro v d I oI C oC D m₂ ys h tk E' hdm hr hC hx' F' N' off ne
          obtain ⟨fa', an, vs', t1, t2, t3, n1, n2, rfl, hf1, hf2, hf3⟩ := hr
          clear lF lN
          k_steps
          (rename Fr _ _ _ _ => F9)
          (rename News _ _ _ _ => N9)
          exact ⟨_, _, rfl, F9, N9, _, rfl⟩
        · intro prefs hpr
          have hpS : StrsAre prefs (hs.map fun d => pathOf d) := strs_all2 hpr
          have hpl : prefs.length = hs.length := by rw [hpr.len, List.length_map]
          clear hpr lF lN
          intros
          k_steps
          (rename Fr _ _ _ _ => F3)
          (rename News _ _ _ _ => N3)
          refine Halt.on ?_
          cases hs with
          | nil =>
            cases hH
            cases hpS
            k_dflt (refine' commonpath_none ?k1 ?k2 ?k3 ?k4 ?k5 ?k6 ?k7 ?k8 ?hra ?_; (case k1 => exact B'); (case k2 => exact F3); (case k3 => exact X'); (case k4 => exact N3); (case k5 => exact T'); (case k6 => exact rfl); (case k7 => ktr_room); (case k8 => ktr_units); (case hra => k_mem); k_whole)
            intro e h5 tk5 G F5 R5 U5
            dsimp only
            refine note_on rfl B' R5 U5 ?_
            intro h6 R6 U6
            k_dflt (refine' handle_B (T' := "ValueError") R6 F5 B' U6 XB TB D' ?ex PyProof.Rows.Boot.«ValueError» ?hn PySem.F.isExc_ValueError PySem.F.notTuple_ValueError ?hs ?_; (case ex => k_is); (case hn => decide); (case hs => kts_sub); k_whole)
            clear F3 N3 R5 R6 U5 U6 F5
            intro h7 g7 T7 F7 N7 B7 X7 P7 D7
            k_steps
            (rename Fr h₀ _ _ _ => kF)
            (rename News h₀ _ _ _ => kN)
            exact ret ⟨_, _, _, _, _⟩ ps ht GB rfl rfl kF (fun q hq => kN q (by repeat (first | exact hq | refine List.mem_cons_of_mem _ ?_)))
          | cons d0 hr =>
            cases hH with
            | @cons v0 _ vr _ hv0 hvr =>
            have hHs : All2 (FileIn rest) (v0 :: vr) (d0 :: hr) := .cons hv0 hvr
            have hb : ∀ d ∈ d0 :: hr, 0 ≤ d ∧ d < 60 := fun d hd => hd0 d (hsub d hd)
            have hpn : 0 < prefs.length := by rw [hpl]; exact Nat.zero_lt_succ _
            have hp8 : prefs.length ≤ 8 := by rw [hpl, ← hHs.len]; exact hhl
            k_dflt (refine' commonpath_spec (nss := (d0 :: hr).map namesOf) ?k1 ?k2 ?k3 ?k4 ?k5 ?k6 ?k7 ?k8 ?hra hpS (paths_good hb) hp8 hpn ?_; (case k1 => exact B'); (case k2 => exact F3); (case k3 => exact X'); (case k4 => exact N3); (case k5 => exact T'); (case k6 => exact rfl); (case k7 => ktr_room); (case k8 => ktr_units); (case hra => k_mem); k_whole)
            intro h5 tk5 t5 s1 kk hs1 hsh F5 N5
            clear F3 N3 hpS
            obtain ⟨tx, htx⟩ : ∃ tx, tx = topOf (s1.take kk) := ⟨_, rfl⟩
            rw [show Str.ofString "/" ++ Txt.join (Str.ofString "/") (s1.take kk) = tx from htx.symm]
            have hT : TopIs ((d0 :: hr).map namesOf) tx := ⟨s1, kk, hs1, hsh, htx⟩
            clear hsh hs1 htx
            dsimp only
            k_steps
            (rename Fr _ _ _ _ => F9)
            (rename News _ _ _ _ => N9)
            (rename (_ = Data.cell (some (Value.str tx _))) => d9)
            refine Halt.on ?_
            (rename (_ ∧ D ≠ _ ∧ _ ∧ _ ∧ _ ∧ _ ∧ LCg.Off1 _ rest) => o8)
            k_dflt (refine' keeps_b (hsc := rfl) (hst := rfl) FG' F9 B' X' T' D' hk hdp hun XB TB hfa l3 l2 hPr ht GB (News.sub N9 led4) ?d1 d9 hHs hhl hb hT (Ne.symm o8.2.2.2.2.2.1) (Ne.symm off.2.2.2.1) ⟨Ne.symm o8.2.2.1, Ne.symm off.1⟩ hzI hF hd0 hlen rfl hhs ret; (case d1 => assumption))

end
end Mine
end
section
open PySem.Calls PySem.Spec
namespace Mine
theorem law_good {c : ClaimW} {cl : Str → Option Addr} {mean : ExcName → Option Value} {args : List WData} {s₁ s' : Shared} {P : Addr} {ps : Array Value} (hct : isCodeTable s₁.heap P) (hP : s₁.heap.get? P = some (tabObj #[]))
    (keep : ∀ b o, b ≠ P → s₁.heap.get? b = some o → s'.heap.get? b = some o) (hps : s'.heap.get? P = some (tabObj ps)) (GB : AllBare s'.gens) (hos : s'.os = s₁.os) (hr : ∀ cls, c.raises args cls = false) (hp : c.post args (.bool true) args = true) :
    GoodWG c cl mean args s₁ (.ok (.ret (.bool true))) s' := by
  refine ⟨.inl ⟨_, _, [], rfl, hr, ReadsW.bool true, hp, fun _ => ⟨List.nodup_nil, fun _ hm => (nomatch hm)⟩⟩, ⟨fun b o e => ?_, fun b o e => ?_⟩, hos, GB⟩
  · by_cases hb : b = P
    · subst hb
      rw [hP] at e
      obtain rfl := Option.some.inj e
      exact .inr (.inl ⟨hct, rfl, #[], ps, rfl, by rw [Array.empty_append]; exact hps⟩)
    · exact .inl (keep b o hb e)
  · by_cases hb : b = P
    · subst hb
      exact ⟨_, hps⟩
    · exact ⟨o, keep b o hb e⟩
theorem rest_of (P : Addr) (led : List (Addr × Obj)) : ∃ rest : List (Addr × Obj), (∀ q ∈ rest, q ∈ led ∧ q.1 ≠ P) ∧ ∀ q ∈ led, q.1 ≠ P → q ∈ rest := by
  refine ⟨led.filter fun q => decide (q.1 ≠ P), fun q hq => ?_, fun q hq hn => List.mem_filter.mpr ⟨hq, decide_eq_true hn⟩⟩
  have := List.mem_filter.mp hq
  exact ⟨this.1, of_decide_eq_true this.2⟩
theorem rest_news {h₀ h : Heap} {L P : Addr} {ps : Array Value} {led rest : List (Addr × Obj)} (N : News h₀ L h led) (hP : (P, tabObj ps) ∈ led) (hr : ∀ q ∈ rest, q ∈ led ∧ q.1 ≠ P) : News h₀ L h ((P, tabObj ps) :: rest) := fun q hq => by
  rcases List.mem_cons.mp hq with rfl | hq
  · exact N _ hP
  · exact N _ (hr q hq).1
theorem not_tab {h₀ h : Heap} {L P a : Addr} {ps : Array Value} {vs : List Value} {n : Nat} {led : List (Addr × Obj)} (N : News h₀ L h led) (hP : (P, tabObj ps) ∈ led) (hm : (a, lstO vs n) ∈ led) : a ≠ P := fun e => by
  subst e
  have h1 := (N _ hP).1
  have h2 := (N _ hm).1
  rw [h1] at h2
  cases h2
theorem FileIn.rest {h₀ h : Heap} {L P : Addr} {ps : Array Value} {led rest : List (Addr × Obj)} {v : Value} {d : Int} (N : News h₀ L h led) (hP : (P, tabObj ps) ∈ led) (hr : ∀ q ∈ led, q.1 ≠ P → q ∈ rest) (f : FileIn led v d) : FileIn rest v d :=
  let ⟨a, an, vs, t₁, t₂, t₃, n₁, n₂, e, h1, h2, h3⟩ := f
  ⟨a, an, vs, t₁, t₂, t₃, n₁, n₂, e, hr _ h1 (not_tab N hP h1), hr _ h2 (not_tab N hP h2), h3⟩
theorem triples_nil : TriplesOk (#[] : Array Value).toList := by trivial
section
local macro_rules | `(tactic| k_all) => `(tactic| first | with_reducible assumption | exact offs_lt (by with_reducible assumption) (by omega))
local macro_rules | `(tactic| k_mem) => `(tactic| first | with_reducible assumption | exact List.mem_cons_self | (refine' List.mem_cons_of_mem _ ?_; k_mem))
theorem law_holds : PySem.Challenge.rw_ik0222_01.Holds := by
  k_with_none
  k_with "exec Assign cons ListComp" => w_strict (k_here; k_dflt (refine LCg.Assign_ListComp_U (F₀ := by k_asm) (by rfl) (by with_unfolding_all rfl) (by with_unfolding_all rfl) (by decide) (by rfl) (by decide) (by rfl) (by rfl) (by rfl) ?_); walk1; k_dflt (refine LCg.CompSrc.ledger (by rfl) (by k_asm) (by k_asm) (by k_mem) (by rw [PySem.sizeLine_eq, List.size_toArray]; omega) ?_))
  k_with "call builtin:sum" => w_strict (k_here; (with_reducible show wpAny _ _ (call (Value.builtin "sum") [Value.ref _]) _ _ _); k_dflt (refine' sum_led (s := ⟨_, _, _, _, _⟩) ?hw106 ?Fw106 ?Nw106 ?mw106 ?iw106 ?cw106 ?_; (case hw106 => first | exact rfl | assumption); (case Fw106 => k_asm); (case Nw106 => k_asm); (case mw106 => k_mem); (case iw106 => with_reducible assumption); (case cw106 => with_reducible assumption); k_whole); intro _ _ _ _ _; (try k_sweep))
  k_with "call ref" => w_strict (k_here; refine Halt.go ?_)
  refine holds_law said fun said' => ?_
  refine holds_open (q := vw) (loose := lse) (Xt := fun s => xlAt vw [] s && recOk [] s) (XP := XL vw []) (Yf := Hook.obs hook) (Ya := Hook.val hook) (YP := Hook.says hook) (N := 6830) left (Hook.of hook) (Hook.keeps hook) (fun s e => xl_of s (Bool.and_eq_true_iff.mp e).1) XL.keeps (by rfl) (by rfl) (by rfl) (fun s e => recFacts_of (Bool.and_eq_true_iff.mp e).2) (by rfl) said' (by decide +kernel) ⟨rfl, rfl, rfl, rfl, rfl, by decide +kernel⟩ ?hw ?hc
  case hw => w_witness2
  delta hook
  k_fill
  intro w s₀ s₁ mg mb G Y fa o pm cd doc dV kV ho hd hcd hD hmg hg args vals as hpre hlay hrd hwl hlo
  have KX := kIn_of Y
  have X := (Ground.X G).1
  have V := (Ground.X G).2
  refine Ground.open G ?_
  intro T B D TE TW
  have hTab := tab_of (x := PySem.Str.ofString "covariance") (c := 291) (P := 287) T KX rfl (by kernel_rfl)
  have hT9 : TabsAt [(291, 287)] s₁.heap := List.forall_mem_cons.mpr ⟨hTab, fun _ h => nomatch h⟩
  clear hmg
  wrow_args hpre hlay hrd hwl hlo
  refine enter_call ?_
  w_top on
  w_call any ho hd hcd hD T F
  clear hd
  kn_ghosts F T
  k_drop
  (rename Fr _ _ _ _ => F1)
  (rename News _ _ _ _ => N1)
  (rename Frag.In _ _ => X1)
  (rename Top _ _ _ _ _ (ghostOf _ _) => T1)
  (rename Below _ _ _ _ => B1)
  (rename List Int => xs)
  (rename IntsAre _ _ => hI1)
  (rename ¬ _ < _ => hle)
  (rename 287 < _ => l1)
  (rename Heap.IsList (ghostOf _ _) _ _ => hL1)
  clear said'
  revert T1
  generalize (looseW vw lse ++ _ ++ _ ++ _) = l9
  intro T1
  (try clear V); (try clear TE); (try clear TW); (try clear D); (try clear B); (try clear G); (try clear Y); (try clear X); (try clear T)
  dsimp only
  k_steps
  (rename Fr _ _ _ _ => F1)
  (rename News _ _ _ _ => N1)
  refine Halt.on ?_
  k_dflt (refine' draws_spec ?k1 ?k2 ?k3 ?k4 ?k5 ?k6 ?k7 ?k8 hL1 hI1 (by omega) ?_; (case k1 => exact B1); (case k2 => exact F1); (case k3 => exact X1); (case k4 => exact N1); (case k5 => exact T1); (case k6 => exact rfl); (case k7 => ktr_room); (case k8 => ktr_units); k_whole)
  intro D1 h1 tk1 ws1 n1 F2 N2 l2 hI2
  have hwl : ws1.length ≤ 8 := by have := hI2.length; rcases drawsOf_len xs with h | h <;> omega
  clear F1 N1
  dsimp only
  k_steps
  (rename Fr _ _ _ _ => F3)
  (rename News _ _ _ _ => N3)
  refine rest_grow (news := _) (Rel := fun _ => IntRel) (Rel' := FileIn) id (all2_ints hI2) (fun i v e => by simpa using e) (fun _ _ _ _ _ h => h) (fun _ _ _ _ h r => r.mono h) (fun l h => .inr ⟨_, h _ (.head _), rfl, _, rfl⟩) ?_ ?_
  · intro led v d I oI C oC D m₂ ys h tk E' hl hdm hr hC hx' F' N' off ne
    obtain ⟨t, rfl⟩ := hr
    have hdd := drawsOf_bound _ d hdm
    k_steps
    refine Halt.on ?_
    k_dflt (refine' file_spec ?k1 ?k2 ?k3 ?k4 ?k5 ?k6 ?k7 ?k8 hdd.1 hdd.2 ?_; (case k1 => exact B1); (case k2 => exact F'); (case k3 => exact X1); (case k4 => exact N'); (case k5 => exact T1); (case k6 => exact rfl); (case k7 => ktr_room); (case k8 => ktr_units); k_whole)
    intro Df h5 tk5 new F5 N5 of5 hf5
    exact ⟨_, _, new, rfl, F5, N5, of5, hf5⟩
  · intro ys led hl hA
    rw [List.map_id] at hA
    have hyl : ys.length ≤ 8 := by rw [hA.len]; rcases drawsOf_len xs with h | h <;> omega
    clear F3 N3
    intro D h tk F' N' off
    have hP : (287, tabObj #[]) ∈ (D, LCg.lst ys) :: led := .tail _ (hl _ (.tail _ (.head _)))
    obtain ⟨rest, r1, r2⟩ := rest_of 287 ((D, LCg.lst ys) :: led)
    have N6 := rest_news N' hP r1
    have hfD : (D, LCg.lst ys) ∈ rest := r2 _ (.head _) (not_tab N' hP (.head _))
    have hdD : (D1, lstO ws1 n1) ∈ rest := r2 _ (.tail _ (hl _ (.head _))) (not_tab N' hP (.tail _ (hl _ (.head _))))
    have hF6 : All2 (FileIn rest) ys (drawsOf xs) := hA.mono fun v d f => FileIn.rest N' hP r2 (f.mono fun q hq => .tail _ hq)
    have hPr : ∀ q ∈ rest, q.1 ≠ 287 := fun q hq => (r1 q hq).2
    have hlen : LenOk (drawsOf xs) := ⟨drawsOf_len xs⟩
    obtain ⟨sm, hsm⟩ : ∃ sm, (drawsOf xs).sum = sm := ⟨_, rfl⟩
    clear hA hl N' off r1 r2 hP
    dsimp only
    k_steps
    refine Halt.on ?_
    k_dflt (refine' keeps_spec ?k1 ?k2 ?k3 ?k4 ?k5 ?k6 ?k7 ?k8 X1 T1 hfD hF6 (drawsOf_bound xs) hlen (by decide) (by decide) hPr ?ht ?GB ?_; (case k1 => exact B1); (case k2 => exact F'); (case k3 => exact X1); (case k4 => exact N6); (case k5 => exact T1); (case k6 => exact rfl); (case k7 => ktr_room); (case k8 => ktr_units); (case ht => exact triples_nil); (case GB => exact AllBare.of_eq hg); k_whole)
    intro s5 ps5 ht5 GB5 os5 dr5 F5 N5
    obtain ⟨h5, gens5, drawn5, tk5, os5'⟩ := s5
    clear F' N6
    dsimp only at os5 dr5 F5 N5 GB5
    k_steps
    (rename Fr _ _ _ _ => F8)
    (rename News _ _ _ _ => N8)
    refine Halt.on ?_
    have hm0 : 0 ≤ sm.fmod 9 := Int.fmod_nonneg_of_pos sm (by decide)
    have hm9 : sm.fmod 9 < 9 := Int.fmod_lt_of_pos sm (by decide)
    k_dflt (refine' keeps_spec ?k1 ?k2 ?k3 ?k4 ?k5 ?k6 ?k7 ?k8 X1 T1 hfD hF6 (drawsOf_bound xs) hlen (by omega) (by omega) hPr ht5 ?GB ?_; (case k1 => exact B1); (case k2 => exact F8); (case k3 => exact X1); (case k4 => exact N8); (case k5 => exact T1); (case k6 => exact rfl); (case k7 => ktr_room); (case k8 => ktr_units); (case GB => exact GB5); k_whole)
    intro s6 ps6 ht6 GB6 os6 dr6 F9 N9
    exact law_good ((hTab.1.tab hTab.2).isCodeTable) hTab.2 (fun b o hb e => F9.keep b o (ghost_ne e (by simpa using hb))) (N9 _ (.head _)).1 GB6 (os6.trans os5) (fun _ => rfl) (by first | with_unfolding_all rfl | wrow_post)
end
end Mine
end
theorem PySem.Challenge.cw_ik0222_01_holds : PySem.Challenge.rw_ik0222_01.Holds :=
  Mine.law_holds
