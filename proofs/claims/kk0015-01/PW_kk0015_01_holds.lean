import PyProof.Rows.All
import Wide.All
import OpenK.AllK
import Wide.FinOn
import PySem.Challenge.RW_kk0015_01
open PySem PySem.W PyProof.Rows PySem.Calls
set_option Elab.async false
set_option maxRecDepth 100000
set_option linter.unusedVariables false
/-! ## HA -/
set_option maxHeartbeats 4000000
namespace Mine
noncomputable abbrev pw : Program := PySem.Challenge.pw_kk0015_01
noncomputable def nth (i : Nat) : Stmt := (pw.main.body[i]?).getD (.Pass ⟨0, 0, 0, 0⟩)
noncomputable def cB : Stmt → List Stmt
  | .ClassDef _ _ _ b _ _ _ _ _ _ _ => b
  | _ => []
noncomputable def mem (i j : Nat) : Stmt := ((cB (nth i))[j]?).getD (.Pass ⟨0, 0, 0, 0⟩)
noncomputable def fA : Stmt → Arguments
  | .FunctionDef _ a _ _ _ _ _ _ _ _ => a
  | _ => { posonlyargs := [], args := [], vararg := none, kwonlyargs := [], kw_defaults := [], kwarg := none, defaults := [] }
noncomputable def fB : Stmt → List Stmt
  | .FunctionDef _ _ b _ _ _ _ _ _ _ => b
  | _ => []
noncomputable def fS : Stmt → Scope
  | .FunctionDef _ _ _ _ _ _ s _ _ _ => s
  | _ => { kind := .function, names := [], isGenerator := false, isCoroutine := false, more := [] }
noncomputable def A26 : Arguments := fA (nth 2)
noncomputable def B26 : List Stmt := fB (nth 2)
noncomputable def S26 : Scope := fS (nth 2)
noncomputable def A31 : Arguments := fA (nth 3)
noncomputable def B31 : List Stmt := fB (nth 3)
noncomputable def S31 : Scope := fS (nth 3)
noncomputable def A759 : Arguments := fA (nth 25)
noncomputable def B759 : List Stmt := fB (nth 25)
noncomputable def S759 : Scope := fS (nth 25)
noncomputable def A764 : Arguments := fA (nth 26)
noncomputable def B764 : List Stmt := fB (nth 26)
noncomputable def S764 : Scope := fS (nth 26)
noncomputable def A772 : Arguments := fA (nth 27)
noncomputable def B772 : List Stmt := fB (nth 27)
noncomputable def S772 : Scope := fS (nth 27)
noncomputable def A786 : Arguments := fA (mem 29 0)
noncomputable def B786 : List Stmt := fB (mem 29 0)
noncomputable def S786 : Scope := fS (mem 29 0)
noncomputable def A793 : Arguments := fA (mem 29 1)
noncomputable def B793 : List Stmt := fB (mem 29 1)
noncomputable def S793 : Scope := fS (mem 29 1)
noncomputable def A803 : Arguments := fA (mem 29 2)
noncomputable def B803 : List Stmt := fB (mem 29 2)
noncomputable def S803 : Scope := fS (mem 29 2)
noncomputable def A825 : Arguments := fA (mem 30 0)
noncomputable def B825 : List Stmt := fB (mem 30 0)
noncomputable def S825 : Scope := fS (mem 30 0)
noncomputable def A832 : Arguments := fA (mem 30 1)
noncomputable def B832 : List Stmt := fB (mem 30 1)
noncomputable def S832 : Scope := fS (mem 30 1)
noncomputable def A839 : Arguments := fA (mem 30 2)
noncomputable def B839 : List Stmt := fB (mem 30 2)
noncomputable def S839 : Scope := fS (mem 30 2)
noncomputable def A846 : Arguments := fA (mem 30 3)
noncomputable def B846 : List Stmt := fB (mem 30 3)
noncomputable def S846 : Scope := fS (mem 30 3)
noncomputable def A853 : Arguments := fA (mem 30 4)
noncomputable def B853 : List Stmt := fB (mem 30 4)
noncomputable def S853 : Scope := fS (mem 30 4)
noncomputable def A870 : Arguments := fA (mem 30 6)
noncomputable def B870 : List Stmt := fB (mem 30 6)
noncomputable def S870 : Scope := fS (mem 30 6)
noncomputable def A876 : Arguments := fA (mem 30 7)
noncomputable def B876 : List Stmt := fB (mem 30 7)
noncomputable def S876 : Scope := fS (mem 30 7)
noncomputable def A883 : Arguments := fA (mem 30 8)
noncomputable def B883 : List Stmt := fB (mem 30 8)
noncomputable def S883 : Scope := fS (mem 30 8)
noncomputable def A892 : Arguments := fA (mem 30 9)
noncomputable def B892 : List Stmt := fB (mem 30 9)
noncomputable def S892 : Scope := fS (mem 30 9)
noncomputable def A900 : Arguments := fA (mem 30 10)
noncomputable def B900 : List Stmt := fB (mem 30 10)
noncomputable def S900 : Scope := fS (mem 30 10)
noncomputable def A912 : Arguments := fA (nth 33)
noncomputable def B912 : List Stmt := fB (nth 33)
noncomputable def S912 : Scope := fS (nth 33)
noncomputable def A919 : Arguments := fA (nth 34)
noncomputable def B919 : List Stmt := fB (nth 34)
noncomputable def S919 : Scope := fS (nth 34)
noncomputable def A924 : Arguments := fA (nth 35)
noncomputable def B924 : List Stmt := fB (nth 35)
noncomputable def S924 : Scope := fS (nth 35)
noncomputable def A931 : Arguments := fA (nth 36)
noncomputable def B931 : List Stmt := fB (nth 36)
noncomputable def S931 : Scope := fS (nth 36)
noncomputable def A936 : Arguments := fA (nth 37)
noncomputable def B936 : List Stmt := fB (nth 37)
noncomputable def S936 : Scope := fS (nth 37)
noncomputable def o2 (P : Params) : Obj := ⟨.none, none, .dict #[⟨PyData.keyHash P (Str.ofString "type.__subclasses__.Exception.0"), .str (Str.ofString "type.__subclasses__.Exception.0") 226, .int 41 0⟩, ⟨PyData.keyHash P (Str.ofString "type.__subclasses__.Exception.n"), .str (Str.ofString "type.__subclasses__.Exception.n") 227, .int 1 0⟩, ⟨PyData.keyHash P (Str.ofString "type.__subclasses__.OSError.0"), .str (Str.ofString "type.__subclasses__.OSError.0") 266, .int 68 0⟩, ⟨PyData.keyHash P (Str.ofString "type.__subclasses__.OSError.n"), .str (Str.ofString "type.__subclasses__.OSError.n") 267, .int 1 0⟩] 4, #[]⟩
noncomputable def o3 (P : Params) : Obj := ⟨.type "dict", none, .dict #[⟨PyData.keyHash P (Str.ofString "__name__"), .str (Str.ofString "__name__") 165, .str (Str.ofString "law_kk0015_01") 1369⟩, ⟨PyData.keyHash P (Str.ofString "__doc__"), .str (Str.ofString "__doc__") 166, .none⟩, ⟨PyData.keyHash P (Str.ofString "__package__"), .str (Str.ofString "__package__") 167, .none⟩, ⟨PyData.keyHash P (Str.ofString "__loader__"), .str (Str.ofString "__loader__") 168, .builtin "__main__.__loader__#opaque"⟩, ⟨PyData.keyHash P (Str.ofString "__spec__"), .str (Str.ofString "__spec__") 169, .none⟩, ⟨PyData.keyHash P (Str.ofString "__annotations__"), .str (Str.ofString "__annotations__") 170, .ref 6⟩, ⟨PyData.keyHash P (Str.ofString "__builtins__"), .str (Str.ofString "__builtins__") 171, .ref 4⟩, ⟨PyData.keyHash P (Str.ofString "__file__"), .str (Str.ofString "__file__") 173, .str (Str.ofString "/claim/cut.py") 172⟩, ⟨PyData.keyHash P (Str.ofString "__cached__"), .str (Str.ofString "__cached__") 174, .none⟩, ⟨PyData.keyHash P (Str.ofString "_wall"), .str (Str.ofString "_wall") 193, .ref 21⟩, ⟨PyData.keyHash P (Str.ofString "hexlify"), .str (Str.ofString "hexlify") 201, .ref 26⟩, ⟨PyData.keyHash P (Str.ofString "unhexlify"), .str (Str.ofString "unhexlify") 207, .ref 31⟩, ⟨PyData.keyHash P (Str.ofString "EmbitError"), .str (Str.ofString "EmbitError") 229, .ref 41⟩, ⟨PyData.keyHash P (Str.ofString "_whence"), .str (Str.ofString "_whence") 239, .ref 51⟩, ⟨PyData.keyHash P (Str.ofString "_index"), .str (Str.ofString "_index") 247, .ref 58⟩, ⟨PyData.keyHash P (Str.ofString "UnsupportedOperation"), .str (Str.ofString "UnsupportedOperation") 269, .ref 68⟩, ⟨PyData.keyHash P (Str.ofString "IOBase"), .str (Str.ofString "IOBase") 301, .ref 88⟩, ⟨PyData.keyHash P (Str.ofString "BufferedIOBase"), .str (Str.ofString "BufferedIOBase") 319, .ref 103⟩, ⟨PyData.keyHash P (Str.ofString "TextIOBase"), .str (Str.ofString "TextIOBase") 337, .ref 115⟩, ⟨PyData.keyHash P (Str.ofString "BytesIO"), .str (Str.ofString "BytesIO") 599, .ref 345⟩, ⟨PyData.keyHash P (Str.ofString "StringIO"), .str (Str.ofString "StringIO") 886, .ref 592⟩, ⟨PyData.keyHash P (Str.ofString "EmbitBase"), .str (Str.ofString "EmbitBase") 1030, .ref 676⟩, ⟨PyData.keyHash P (Str.ofString "DescriptorBase"), .str (Str.ofString "DescriptorBase") 1089, .ref 714⟩, ⟨PyData.keyHash P (Str.ofString "DescriptorError"), .str (Str.ofString "DescriptorError") 1107, .ref 726⟩, ⟨PyData.keyHash P (Str.ofString "MiniscriptError"), .str (Str.ofString "MiniscriptError") 1123, .ref 738⟩, ⟨PyData.keyHash P (Str.ofString "ArgumentError"), .str (Str.ofString "ArgumentError") 1139, .ref 750⟩, ⟨PyData.keyHash P (Str.ofString "HARDENED_INDEX"), .str (Str.ofString "HARDENED_INDEX") 1143, .int 2147483648 1142⟩, ⟨PyData.keyHash P (Str.ofString "_parse_der_item"), .str (Str.ofString "_parse_der_item") 1150, .ref 759⟩, ⟨PyData.keyHash P (Str.ofString "parse_path"), .str (Str.ofString "parse_path") 1156, .ref 764⟩, ⟨PyData.keyHash P (Str.ofString "path_to_str"), .str (Str.ofString "path_to_str") 1166, .ref 772⟩, ⟨PyData.keyHash P (Str.ofString "KeyOrigin"), .str (Str.ofString "KeyOrigin") 1230, .ref 806⟩, ⟨PyData.keyHash P (Str.ofString "AllowedDerivation"), .str (Str.ofString "AllowedDerivation") 1368, .ref 903⟩, ⟨PyData.keyHash P (Str.ofString "_law_hardened"), .str (Str.ofString "_law_hardened") 1372, .int 2147483648 1371⟩, ⟨PyData.keyHash P (Str.ofString "_law_number"), .str (Str.ofString "_law_number") 1380, .ref 912⟩, ⟨PyData.keyHash P (Str.ofString "_law_word"), .str (Str.ofString "_law_word") 1388, .ref 919⟩, ⟨PyData.keyHash P (Str.ofString "_law_text"), .str (Str.ofString "_law_text") 1394, .ref 924⟩, ⟨PyData.keyHash P (Str.ofString "_law_refused"), .str (Str.ofString "_law_refused") 1404, .ref 931⟩, ⟨PyData.keyHash P (Str.ofString "law"), .str (Str.ofString "law") 1410, .ref 936⟩] 38, #[]⟩
noncomputable def o22 (P : Params) : Obj := ⟨.type "tuple", none, .seq #[] 0, #[]⟩
noncomputable def o23 (P : Params) : Obj := ⟨.none, none, .fields #[], #[]⟩
noncomputable def o25 (P : Params) : Obj := ⟨.type "code", none, .fields #[.str (Str.ofString "hexlify") 196, .str (Str.ofString "hexlify") 197, .str (Str.ofString "/claim/cut.py") 198, .int 5 0, .int 1 0, .int 0 0, .int 0 0, .int 3 0, .ref 22, .bool true, .int 181 0, .ref 23, .none, .none, .none, .ref 24, .int 199 0, .int 5 0, .str (Str.ofString "/claim/cut.py") 200], #[]⟩
noncomputable def o26 (P : Params) : Obj := ⟨.type "function", none, .func (fnOf (Str.ofString "hexlify") (Str.ofString "hexlify") A26 B26 S26 (.none) (.none) (.none) (.str (Str.ofString "embit.misc") 194) none (.ref 25) (.none)), #[]⟩
noncomputable def o27 (P : Params) : Obj := ⟨.type "tuple", none, .seq #[] 0, #[]⟩
noncomputable def o28 (P : Params) : Obj := ⟨.none, none, .fields #[], #[]⟩
noncomputable def o30 (P : Params) : Obj := ⟨.type "code", none, .fields #[.str (Str.ofString "unhexlify") 202, .str (Str.ofString "unhexlify") 203, .str (Str.ofString "/claim/cut.py") 204, .int 8 0, .int 1 0, .int 0 0, .int 0 0, .int 3 0, .ref 27, .bool true, .int 181 0, .ref 28, .none, .none, .none, .ref 29, .int 205 0, .int 8 0, .str (Str.ofString "/claim/cut.py") 206], #[]⟩
noncomputable def o31 (P : Params) : Obj := ⟨.type "function", none, .func (fnOf (Str.ofString "unhexlify") (Str.ofString "unhexlify") A31 B31 S31 (.none) (.none) (.none) (.str (Str.ofString "embit.misc") 194) none (.ref 30) (.none)), #[]⟩
noncomputable def o40 (P : Params) : Obj := ⟨.type "dict", none, .dict #[⟨PyData.keyHash P (Str.ofString "__module__"), .str (Str.ofString "__module__") 217, .str (Str.ofString "embit.base") 208⟩, ⟨PyData.keyHash P (Str.ofString "__firstlineno__"), .str (Str.ofString "__firstlineno__") 221, .int 13 220⟩, ⟨PyData.keyHash P (Str.ofString "__static_attributes__"), .str (Str.ofString "__static_attributes__") 222, .ref 39⟩, ⟨PyData.keyHash P (Str.ofString "__weakref__"), .str (Str.ofString "__weakref__") 224, .ref 42⟩, ⟨PyData.keyHash P (Str.ofString "__doc__"), .str (Str.ofString "__doc__") 225, .none⟩] 3, #[]⟩
noncomputable def o41 (P : Params) : Obj := ⟨.type "type", none, .cls ⟨(Str.ofString "EmbitError"), [.type "Exception"], [.ref 41, .type "Exception", .type "BaseException", .type "object"], 40, (Str.ofString "EmbitError"), true, [], [.ref 726], false, none, false⟩, #[some (.ref 32), none, some (.str (Str.ofString "EmbitError") 210), some (.str (Str.ofString "EmbitError") 218), some (.builtin "Exception.__new__"), some (.bool true)]⟩
noncomputable def o675 (P : Params) : Obj := ⟨.type "dict", none, .dict #[⟨PyData.keyHash P (Str.ofString "__module__"), .str (Str.ofString "__module__") 896, .str (Str.ofString "embit.base") 887⟩, ⟨PyData.keyHash P (Str.ofString "__firstlineno__"), .str (Str.ofString "__firstlineno__") 900, .int 419 899⟩, ⟨PyData.keyHash P (Str.ofString "read_from"), .str (Str.ofString "read_from") 922, .ref 610⟩, ⟨PyData.keyHash P (Str.ofString "parse"), .str (Str.ofString "parse") 946, .ref 620⟩, ⟨PyData.keyHash P (Str.ofString "write_to"), .str (Str.ofString "write_to") 956, .ref 628⟩, ⟨PyData.keyHash P (Str.ofString "serialize"), .str (Str.ofString "serialize") 966, .ref 635⟩, ⟨PyData.keyHash P (Str.ofString "to_string"), .str (Str.ofString "to_string") 976, .ref 642⟩, ⟨PyData.keyHash P (Str.ofString "from_string"), .str (Str.ofString "from_string") 998, .ref 651⟩, ⟨PyData.keyHash P (Str.ofString "__str__"), .str (Str.ofString "__str__") 1005, .ref 659⟩, ⟨PyData.keyHash P (Str.ofString "__eq__"), .str (Str.ofString "__eq__") 1013, .ref 666⟩, ⟨PyData.keyHash P (Str.ofString "__ne__"), .str (Str.ofString "__ne__") 1021, .ref 673⟩, ⟨PyData.keyHash P (Str.ofString "__static_attributes__"), .str (Str.ofString "__static_attributes__") 1022, .ref 674⟩, ⟨PyData.keyHash P (Str.ofString "__dict__"), .str (Str.ofString "__dict__") 1024, .ref 677⟩, ⟨PyData.keyHash P (Str.ofString "__weakref__"), .str (Str.ofString "__weakref__") 1026, .ref 678⟩, ⟨PyData.keyHash P (Str.ofString "__doc__"), .str (Str.ofString "__doc__") 1027, .none⟩, ⟨PyData.keyHash P (Str.ofString "__hash__"), .str (Str.ofString "__hash__") 1028, .none⟩] 5, #[]⟩
noncomputable def o676 (P : Params) : Obj := ⟨.type "type", none, .cls ⟨(Str.ofString "EmbitBase"), [.type "object"], [.ref 676, .type "object"], 675, (Str.ofString "EmbitBase"), true, [], [.ref 714], false, none, false⟩, #[none, none, some (.str (Str.ofString "EmbitBase") 889), some (.str (Str.ofString "EmbitBase") 897), some (.builtin "object.__new__"), some (.bool true)]⟩
noncomputable def o713 (P : Params) : Obj := ⟨.type "dict", none, .dict #[⟨PyData.keyHash P (Str.ofString "__module__"), .str (Str.ofString "__module__") 1040, .str (Str.ofString "embit.descriptor.base") 1031⟩, ⟨PyData.keyHash P (Str.ofString "__firstlineno__"), .str (Str.ofString "__firstlineno__") 1044, .int 466 1043⟩, ⟨PyData.keyHash P (Str.ofString "from_string"), .str (Str.ofString "from_string") 1066, .ref 696⟩, ⟨PyData.keyHash P (Str.ofString "serialize"), .str (Str.ofString "serialize") 1076, .ref 704⟩, ⟨PyData.keyHash P (Str.ofString "to_string"), .str (Str.ofString "to_string") 1085, .ref 711⟩, ⟨PyData.keyHash P (Str.ofString "__static_attributes__"), .str (Str.ofString "__static_attributes__") 1086, .ref 712⟩, ⟨PyData.keyHash P (Str.ofString "__doc__"), .str (Str.ofString "__doc__") 1087, .none⟩] 2, #[]⟩
noncomputable def o714 (P : Params) : Obj := ⟨.type "type", none, .cls ⟨(Str.ofString "DescriptorBase"), [.ref 676], [.ref 714, .ref 676, .type "object"], 713, (Str.ofString "DescriptorBase"), true, [], [.ref 903], false, none, false⟩, #[some (.ref 681), none, some (.str (Str.ofString "DescriptorBase") 1033), some (.str (Str.ofString "DescriptorBase") 1041), some (.builtin "object.__new__"), some (.bool true)]⟩
noncomputable def o725 (P : Params) : Obj := ⟨.type "dict", none, .dict #[⟨PyData.keyHash P (Str.ofString "__module__"), .str (Str.ofString "__module__") 1099, .str (Str.ofString "embit.descriptor.errors") 1090⟩, ⟨PyData.keyHash P (Str.ofString "__firstlineno__"), .str (Str.ofString "__firstlineno__") 1103, .int 480 1102⟩, ⟨PyData.keyHash P (Str.ofString "__static_attributes__"), .str (Str.ofString "__static_attributes__") 1104, .ref 724⟩, ⟨PyData.keyHash P (Str.ofString "__doc__"), .str (Str.ofString "__doc__") 1105, .none⟩] 2, #[]⟩
noncomputable def o726 (P : Params) : Obj := ⟨.type "type", none, .cls ⟨(Str.ofString "DescriptorError"), [.ref 41], [.ref 726, .ref 41, .type "Exception", .type "BaseException", .type "object"], 725, (Str.ofString "DescriptorError"), true, [], [.ref 738], false, none, false⟩, #[some (.ref 717), none, some (.str (Str.ofString "DescriptorError") 1092), some (.str (Str.ofString "DescriptorError") 1100), some (.builtin "Exception.__new__"), some (.bool true)]⟩
noncomputable def o737 (P : Params) : Obj := ⟨.type "dict", none, .dict #[⟨PyData.keyHash P (Str.ofString "__module__"), .str (Str.ofString "__module__") 1115, .str (Str.ofString "embit.descriptor.errors") 1090⟩, ⟨PyData.keyHash P (Str.ofString "__firstlineno__"), .str (Str.ofString "__firstlineno__") 1119, .int 482 1118⟩, ⟨PyData.keyHash P (Str.ofString "__static_attributes__"), .str (Str.ofString "__static_attributes__") 1120, .ref 736⟩, ⟨PyData.keyHash P (Str.ofString "__doc__"), .str (Str.ofString "__doc__") 1121, .none⟩] 2, #[]⟩
noncomputable def o738 (P : Params) : Obj := ⟨.type "type", none, .cls ⟨(Str.ofString "MiniscriptError"), [.ref 726], [.ref 738, .ref 726, .ref 41, .type "Exception", .type "BaseException", .type "object"], 737, (Str.ofString "MiniscriptError"), true, [], [.ref 750], false, none, false⟩, #[some (.ref 729), none, some (.str (Str.ofString "MiniscriptError") 1108), some (.str (Str.ofString "MiniscriptError") 1116), some (.builtin "Exception.__new__"), some (.bool true)]⟩
noncomputable def o749 (P : Params) : Obj := ⟨.type "dict", none, .dict #[⟨PyData.keyHash P (Str.ofString "__module__"), .str (Str.ofString "__module__") 1131, .str (Str.ofString "embit.descriptor.errors") 1090⟩, ⟨PyData.keyHash P (Str.ofString "__firstlineno__"), .str (Str.ofString "__firstlineno__") 1135, .int 484 1134⟩, ⟨PyData.keyHash P (Str.ofString "__static_attributes__"), .str (Str.ofString "__static_attributes__") 1136, .ref 748⟩, ⟨PyData.keyHash P (Str.ofString "__doc__"), .str (Str.ofString "__doc__") 1137, .none⟩] 2, #[]⟩
noncomputable def o750 (P : Params) : Obj := ⟨.type "type", none, .cls ⟨(Str.ofString "ArgumentError"), [.ref 738], [.ref 750, .ref 738, .ref 726, .ref 41, .type "Exception", .type "BaseException", .type "object"], 749, (Str.ofString "ArgumentError"), true, [], [], false, none, false⟩, #[some (.ref 741), none, some (.str (Str.ofString "ArgumentError") 1124), some (.str (Str.ofString "ArgumentError") 1132), some (.builtin "Exception.__new__"), some (.bool true)]⟩
noncomputable def o753 (P : Params) : Obj := ⟨.type "tuple", none, .seq #[] 0, #[]⟩
noncomputable def o754 (P : Params) : Obj := ⟨.none, none, .fields #[], #[]⟩
noncomputable def o755 (P : Params) : Obj := ⟨.type "tuple", none, .seq #[.str (Str.ofString "e") 1147] 0, #[]⟩
noncomputable def o756 (P : Params) : Obj := ⟨.type "tuple", none, .seq #[] 0, #[]⟩
noncomputable def o758 (P : Params) : Obj := ⟨.type "code", none, .fields #[.str (Str.ofString "_parse_der_item") 1144, .str (Str.ofString "_parse_der_item") 1145, .str (Str.ofString "/claim/cut.py") 1146, .int 488 0, .int 1 0, .int 0 0, .int 0 0, .int 3 0, .ref 753, .bool true, .int 181 0, .ref 754, .none, .ref 755, .ref 756, .ref 757, .int 1148 0, .int 488 0, .str (Str.ofString "/claim/cut.py") 1149], #[]⟩
noncomputable def o759 (P : Params) : Obj := ⟨.type "function", none, .func (fnOf (Str.ofString "_parse_der_item") (Str.ofString "_parse_der_item") A759 B759 S759 (.none) (.none) (.none) (.str (Str.ofString "embit.bip32") 1140) none (.ref 758) (.none)), #[]⟩
noncomputable def o760 (P : Params) : Obj := ⟨.type "tuple", none, .seq #[] 0, #[]⟩
noncomputable def o761 (P : Params) : Obj := ⟨.none, none, .fields #[], #[]⟩
noncomputable def o763 (P : Params) : Obj := ⟨.type "code", none, .fields #[.str (Str.ofString "parse_path") 1151, .str (Str.ofString "parse_path") 1152, .str (Str.ofString "/claim/cut.py") 1153, .int 493 0, .int 1 0, .int 0 0, .int 0 0, .int 3 0, .ref 760, .bool true, .int 181 0, .ref 761, .none, .none, .none, .ref 762, .int 1154 0, .int 493 0, .str (Str.ofString "/claim/cut.py") 1155], #[]⟩
noncomputable def o764 (P : Params) : Obj := ⟨.type "function", none, .func (fnOf (Str.ofString "parse_path") (Str.ofString "parse_path") A764 B764 S764 (.none) (.none) (.none) (.str (Str.ofString "embit.bip32") 1140) none (.ref 763) (.none)), #[]⟩
noncomputable def o765 (P : Params) : Obj := ⟨.type "tuple", none, .seq #[.none] 0, #[]⟩
noncomputable def o766 (P : Params) : Obj := ⟨.type "tuple", none, .seq #[] 0, #[]⟩
noncomputable def o767 (P : Params) : Obj := ⟨.none, none, .fields #[], #[]⟩
noncomputable def o768 (P : Params) : Obj := ⟨.type "tuple", none, .seq #[.str (Str.ofString "path") 1160, .str (Str.ofString "fingerprint") 1161, .str (Str.ofString "s") 1162, .str (Str.ofString "el") 1163] 0, #[]⟩
noncomputable def o769 (P : Params) : Obj := ⟨.type "tuple", none, .seq #[] 0, #[]⟩
noncomputable def o771 (P : Params) : Obj := ⟨.type "code", none, .fields #[.str (Str.ofString "path_to_str") 1157, .str (Str.ofString "path_to_str") 1158, .str (Str.ofString "/claim/cut.py") 1159, .int 500 0, .int 2 0, .int 0 0, .int 0 0, .int 3 0, .ref 766, .bool true, .int 181 0, .ref 767, .none, .ref 768, .ref 769, .ref 770, .int 1164 0, .int 500 0, .str (Str.ofString "/claim/cut.py") 1165], #[]⟩
noncomputable def o772 (P : Params) : Obj := ⟨.type "function", none, .func (fnOf (Str.ofString "path_to_str") (Str.ofString "path_to_str") A772 B772 S772 (.ref 765) (.none) (.none) (.str (Str.ofString "embit.bip32") 1140) none (.ref 771) (.none)), #[]⟩
noncomputable def o780 (P : Params) : Obj := ⟨.type "tuple", none, .seq #[] 0, #[]⟩
noncomputable def o781 (P : Params) : Obj := ⟨.none, none, .fields #[], #[]⟩
noncomputable def o782 (P : Params) : Obj := ⟨.type "tuple", none, .seq #[.str (Str.ofString "self") 1184, .str (Str.ofString "fingerprint") 1185, .str (Str.ofString "derivation") 1186] 0, #[]⟩
noncomputable def o783 (P : Params) : Obj := ⟨.type "tuple", none, .seq #[] 0, #[]⟩
noncomputable def o785 (P : Params) : Obj := ⟨.type "code", none, .fields #[.str (Str.ofString "__init__") 1181, .str (Str.ofString "KeyOrigin.__init__") 1182, .str (Str.ofString "/claim/cut.py") 1183, .int 511 0, .int 3 0, .int 0 0, .int 0 0, .int 3 0, .ref 780, .bool true, .int 181 0, .ref 781, .none, .ref 782, .ref 783, .ref 784, .int 1187 0, .int 511 0, .str (Str.ofString "/claim/cut.py") 1188], #[]⟩
noncomputable def o786 (P : Params) : Obj := ⟨.type "function", none, .func (fnOf (Str.ofString "__init__") (Str.ofString "KeyOrigin.__init__") A786 B786 S786 (.none) (.none) (.none) (.str (Str.ofString "embit.descriptor.arguments") 1167) none (.ref 785) (.none)), #[]⟩
noncomputable def o787 (P : Params) : Obj := ⟨.type "tuple", none, .seq #[] 0, #[]⟩
noncomputable def o788 (P : Params) : Obj := ⟨.none, none, .fields #[], #[]⟩
noncomputable def o789 (P : Params) : Obj := ⟨.type "tuple", none, .seq #[.str (Str.ofString "cls") 1193, .str (Str.ofString "s") 1194, .str (Str.ofString "arr") 1195, .str (Str.ofString "mfp") 1196, .str (Str.ofString "path") 1197, .str (Str.ofString "derivation") 1198] 0, #[]⟩
noncomputable def o790 (P : Params) : Obj := ⟨.type "tuple", none, .seq #[] 0, #[]⟩
noncomputable def o792 (P : Params) : Obj := ⟨.type "code", none, .fields #[.str (Str.ofString "from_string") 1190, .str (Str.ofString "KeyOrigin.from_string") 1191, .str (Str.ofString "/claim/cut.py") 1192, .int 515 0, .int 2 0, .int 0 0, .int 0 0, .int 3 0, .ref 787, .bool true, .int 181 0, .ref 788, .none, .ref 789, .ref 790, .ref 791, .int 1199 0, .int 515 0, .str (Str.ofString "/claim/cut.py") 1200], #[]⟩
noncomputable def o793 (P : Params) : Obj := ⟨.type "function", none, .func (fnOf (Str.ofString "from_string") (Str.ofString "KeyOrigin.from_string") A793 B793 S793 (.none) (.none) (.none) (.str (Str.ofString "embit.descriptor.arguments") 1167) (some 796) (.ref 792) (.none)), #[]⟩
noncomputable def o795 (P : Params) : Obj := ⟨.type "classmethod", some 794, .fields #[.ref 793, .bool false], #[]⟩
noncomputable def o797 (P : Params) : Obj := ⟨.type "tuple", none, .seq #[] 0, #[]⟩
noncomputable def o798 (P : Params) : Obj := ⟨.none, none, .fields #[], #[]⟩
noncomputable def o799 (P : Params) : Obj := ⟨.type "tuple", none, .seq #[.str (Str.ofString "self") 1217] 0, #[]⟩
noncomputable def o800 (P : Params) : Obj := ⟨.type "tuple", none, .seq #[] 0, #[]⟩
noncomputable def o802 (P : Params) : Obj := ⟨.type "code", none, .fields #[.str (Str.ofString "__str__") 1214, .str (Str.ofString "KeyOrigin.__str__") 1215, .str (Str.ofString "/claim/cut.py") 1216, .int 525 0, .int 1 0, .int 0 0, .int 0 0, .int 3 0, .ref 797, .bool true, .int 181 0, .ref 798, .none, .ref 799, .ref 800, .ref 801, .int 1218 0, .int 525 0, .str (Str.ofString "/claim/cut.py") 1219], #[]⟩
noncomputable def o803 (P : Params) : Obj := ⟨.type "function", none, .func (fnOf (Str.ofString "__str__") (Str.ofString "KeyOrigin.__str__") A803 B803 S803 (.none) (.none) (.none) (.str (Str.ofString "embit.descriptor.arguments") 1167) none (.ref 802) (.none)), #[]⟩
noncomputable def o805 (P : Params) : Obj := ⟨.type "dict", none, .dict #[⟨PyData.keyHash P (Str.ofString "__module__"), .str (Str.ofString "__module__") 1176, .str (Str.ofString "embit.descriptor.arguments") 1167⟩, ⟨PyData.keyHash P (Str.ofString "__firstlineno__"), .str (Str.ofString "__firstlineno__") 1180, .int 509 1179⟩, ⟨PyData.keyHash P (Str.ofString "__init__"), .str (Str.ofString "__init__") 1189, .ref 786⟩, ⟨PyData.keyHash P (Str.ofString "from_string"), .str (Str.ofString "from_string") 1213, .ref 795⟩, ⟨PyData.keyHash P (Str.ofString "__str__"), .str (Str.ofString "__str__") 1220, .ref 803⟩, ⟨PyData.keyHash P (Str.ofString "__static_attributes__"), .str (Str.ofString "__static_attributes__") 1223, .ref 804⟩, ⟨PyData.keyHash P (Str.ofString "__dict__"), .str (Str.ofString "__dict__") 1225, .ref 807⟩, ⟨PyData.keyHash P (Str.ofString "__weakref__"), .str (Str.ofString "__weakref__") 1227, .ref 808⟩, ⟨PyData.keyHash P (Str.ofString "__doc__"), .str (Str.ofString "__doc__") 1228, .none⟩] 4, #[]⟩
noncomputable def o806 (P : Params) : Obj := ⟨.type "type", none, .cls ⟨(Str.ofString "KeyOrigin"), [.type "object"], [.ref 806, .type "object"], 805, (Str.ofString "KeyOrigin"), true, [], [], false, none, false⟩, #[none, none, some (.str (Str.ofString "KeyOrigin") 1169), some (.str (Str.ofString "KeyOrigin") 1177), some (.builtin "object.__new__"), some (.bool true)]⟩
noncomputable def o818 (P : Params) : Obj := ⟨.type "list", none, .seq #[.int 0 1243, .int 1 1244] 0, #[]⟩
noncomputable def o819 (P : Params) : Obj := ⟨.type "list", none, .seq #[.ref 818, .none] 0, #[]⟩
noncomputable def o820 (P : Params) : Obj := ⟨.type "tuple", none, .seq #[.ref 819] 0, #[]⟩
noncomputable def o821 (P : Params) : Obj := ⟨.type "tuple", none, .seq #[] 0, #[]⟩
noncomputable def o822 (P : Params) : Obj := ⟨.none, none, .fields #[], #[]⟩
noncomputable def o824 (P : Params) : Obj := ⟨.type "code", none, .fields #[.str (Str.ofString "__init__") 1245, .str (Str.ofString "AllowedDerivation.__init__") 1246, .str (Str.ofString "/claim/cut.py") 1247, .int 529 0, .int 2 0, .int 0 0, .int 0 0, .int 3 0, .ref 821, .bool true, .int 181 0, .ref 822, .none, .none, .none, .ref 823, .int 1248 0, .int 529 0, .str (Str.ofString "/claim/cut.py") 1249], #[]⟩
noncomputable def o825 (P : Params) : Obj := ⟨.type "function", none, .func (fnOf (Str.ofString "__init__") (Str.ofString "AllowedDerivation.__init__") A825 B825 S825 (.ref 820) (.none) (.none) (.str (Str.ofString "embit.descriptor.arguments") 1167) none (.ref 824) (.none)), #[]⟩
noncomputable def o826 (P : Params) : Obj := ⟨.type "tuple", none, .seq #[] 0, #[]⟩
noncomputable def o827 (P : Params) : Obj := ⟨.none, none, .fields #[], #[]⟩
noncomputable def o828 (P : Params) : Obj := ⟨.type "tuple", none, .seq #[.str (Str.ofString "self") 1254] 0, #[]⟩
noncomputable def o829 (P : Params) : Obj := ⟨.type "tuple", none, .seq #[] 0, #[]⟩
noncomputable def o831 (P : Params) : Obj := ⟨.type "code", none, .fields #[.str (Str.ofString "is_wildcard") 1251, .str (Str.ofString "AllowedDerivation.is_wildcard") 1252, .str (Str.ofString "/claim/cut.py") 1253, .int 536 0, .int 1 0, .int 0 0, .int 0 0, .int 3 0, .ref 826, .bool true, .int 181 0, .ref 827, .none, .ref 828, .ref 829, .ref 830, .int 1255 0, .int 536 0, .str (Str.ofString "/claim/cut.py") 1256], #[]⟩
noncomputable def o832 (P : Params) : Obj := ⟨.type "function", none, .func (fnOf (Str.ofString "is_wildcard") (Str.ofString "AllowedDerivation.is_wildcard") A832 B832 S832 (.none) (.none) (.none) (.str (Str.ofString "embit.descriptor.arguments") 1167) none (.ref 831) (.none)), #[]⟩
noncomputable def o833 (P : Params) : Obj := ⟨.type "property", none, .fields #[.ref 832, .none, .none, .none, .str (Str.ofString "is_wildcard") 1258, .bool false], #[]⟩
noncomputable def o834 (P : Params) : Obj := ⟨.type "tuple", none, .seq #[.none] 0, #[]⟩
noncomputable def o835 (P : Params) : Obj := ⟨.type "tuple", none, .seq #[] 0, #[]⟩
noncomputable def o836 (P : Params) : Obj := ⟨.none, none, .fields #[], #[]⟩
noncomputable def o838 (P : Params) : Obj := ⟨.type "code", none, .fields #[.str (Str.ofString "fill") 1259, .str (Str.ofString "AllowedDerivation.fill") 1260, .str (Str.ofString "/claim/cut.py") 1261, .int 540 0, .int 3 0, .int 0 0, .int 0 0, .int 3 0, .ref 835, .bool true, .int 181 0, .ref 836, .none, .none, .none, .ref 837, .int 1262 0, .int 540 0, .str (Str.ofString "/claim/cut.py") 1263], #[]⟩
noncomputable def o839 (P : Params) : Obj := ⟨.type "function", none, .func (fnOf (Str.ofString "fill") (Str.ofString "AllowedDerivation.fill") A839 B839 S839 (.ref 834) (.none) (.none) (.str (Str.ofString "embit.descriptor.arguments") 1167) none (.ref 838) (.none)), #[]⟩
noncomputable def o840 (P : Params) : Obj := ⟨.type "tuple", none, .seq #[] 0, #[]⟩
noncomputable def o841 (P : Params) : Obj := ⟨.none, none, .fields #[], #[]⟩
noncomputable def o842 (P : Params) : Obj := ⟨.type "tuple", none, .seq #[.str (Str.ofString "self") 1268, .str (Str.ofString "branch_index") 1269, .str (Str.ofString "arr") 1270] 0, #[]⟩
noncomputable def o843 (P : Params) : Obj := ⟨.type "tuple", none, .seq #[] 0, #[]⟩
noncomputable def o845 (P : Params) : Obj := ⟨.type "code", none, .fields #[.str (Str.ofString "branch") 1265, .str (Str.ofString "AllowedDerivation.branch") 1266, .str (Str.ofString "/claim/cut.py") 1267, .int 556 0, .int 2 0, .int 0 0, .int 0 0, .int 3 0, .ref 840, .bool true, .int 181 0, .ref 841, .none, .ref 842, .ref 843, .ref 844, .int 1271 0, .int 556 0, .str (Str.ofString "/claim/cut.py") 1272], #[]⟩
noncomputable def o846 (P : Params) : Obj := ⟨.type "function", none, .func (fnOf (Str.ofString "branch") (Str.ofString "AllowedDerivation.branch") A846 B846 S846 (.none) (.none) (.none) (.str (Str.ofString "embit.descriptor.arguments") 1167) none (.ref 845) (.none)), #[]⟩
noncomputable def o847 (P : Params) : Obj := ⟨.type "tuple", none, .seq #[] 0, #[]⟩
noncomputable def o848 (P : Params) : Obj := ⟨.none, none, .fields #[], #[]⟩
noncomputable def o849 (P : Params) : Obj := ⟨.type "tuple", none, .seq #[.str (Str.ofString "self") 1277, .str (Str.ofString "derivation") 1278, .str (Str.ofString "branch_idx") 1279, .str (Str.ofString "idx") 1280, .str (Str.ofString "i") 1281, .str (Str.ofString "el") 1282, .str (Str.ofString "der") 1283] 0, #[]⟩
noncomputable def o850 (P : Params) : Obj := ⟨.type "tuple", none, .seq #[] 0, #[]⟩
noncomputable def o852 (P : Params) : Obj := ⟨.type "code", none, .fields #[.str (Str.ofString "check_derivation") 1274, .str (Str.ofString "AllowedDerivation.check_derivation") 1275, .str (Str.ofString "/claim/cut.py") 1276, .int 560 0, .int 2 0, .int 0 0, .int 0 0, .int 3 0, .ref 847, .bool true, .int 181 0, .ref 848, .none, .ref 849, .ref 850, .ref 851, .int 1284 0, .int 560 0, .str (Str.ofString "/claim/cut.py") 1285], #[]⟩
noncomputable def o853 (P : Params) : Obj := ⟨.type "function", none, .func (fnOf (Str.ofString "check_derivation") (Str.ofString "AllowedDerivation.check_derivation") A853 B853 S853 (.none) (.none) (.none) (.str (Str.ofString "embit.descriptor.arguments") 1167) none (.ref 852) (.none)), #[]⟩
noncomputable def o864 (P : Params) : Obj := ⟨.type "tuple", none, .seq #[] 0, #[]⟩
noncomputable def o865 (P : Params) : Obj := ⟨.none, none, .fields #[], #[]⟩
noncomputable def o866 (P : Params) : Obj := ⟨.type "tuple", none, .seq #[.str (Str.ofString "self") 1309, .str (Str.ofString "el") 1310] 0, #[]⟩
noncomputable def o867 (P : Params) : Obj := ⟨.type "tuple", none, .seq #[] 0, #[]⟩
noncomputable def o869 (P : Params) : Obj := ⟨.type "code", none, .fields #[.str (Str.ofString "branches") 1306, .str (Str.ofString "AllowedDerivation.branches") 1307, .str (Str.ofString "/claim/cut.py") 1308, .int 585 0, .int 1 0, .int 0 0, .int 0 0, .int 3 0, .ref 864, .bool true, .int 181 0, .ref 865, .none, .ref 866, .ref 867, .ref 868, .int 1311 0, .int 585 0, .str (Str.ofString "/claim/cut.py") 1312], #[]⟩
noncomputable def o870 (P : Params) : Obj := ⟨.type "function", none, .func (fnOf (Str.ofString "branches") (Str.ofString "AllowedDerivation.branches") A870 B870 S870 (.none) (.none) (.none) (.str (Str.ofString "embit.descriptor.arguments") 1167) none (.ref 869) (.none)), #[]⟩
noncomputable def o871 (P : Params) : Obj := ⟨.type "property", none, .fields #[.ref 870, .none, .none, .none, .str (Str.ofString "branches") 1314, .bool false], #[]⟩
noncomputable def o872 (P : Params) : Obj := ⟨.type "tuple", none, .seq #[] 0, #[]⟩
noncomputable def o873 (P : Params) : Obj := ⟨.none, none, .fields #[], #[]⟩
noncomputable def o875 (P : Params) : Obj := ⟨.type "code", none, .fields #[.str (Str.ofString "has_hardend") 1315, .str (Str.ofString "AllowedDerivation.has_hardend") 1316, .str (Str.ofString "/claim/cut.py") 1317, .int 592 0, .int 1 0, .int 0 0, .int 0 0, .int 3 0, .ref 872, .bool true, .int 181 0, .ref 873, .none, .none, .none, .ref 874, .int 1318 0, .int 592 0, .str (Str.ofString "/claim/cut.py") 1319], #[]⟩
noncomputable def o876 (P : Params) : Obj := ⟨.type "function", none, .func (fnOf (Str.ofString "has_hardend") (Str.ofString "AllowedDerivation.has_hardend") A876 B876 S876 (.none) (.none) (.none) (.str (Str.ofString "embit.descriptor.arguments") 1167) none (.ref 875) (.none)), #[]⟩
noncomputable def o877 (P : Params) : Obj := ⟨.type "property", none, .fields #[.ref 876, .none, .none, .none, .str (Str.ofString "has_hardend") 1321, .bool false], #[]⟩
noncomputable def o878 (P : Params) : Obj := ⟨.type "tuple", none, .seq #[.bool false, .bool true] 0, #[]⟩
noncomputable def o879 (P : Params) : Obj := ⟨.type "tuple", none, .seq #[] 0, #[]⟩
noncomputable def o880 (P : Params) : Obj := ⟨.none, none, .fields #[], #[]⟩
noncomputable def o882 (P : Params) : Obj := ⟨.type "code", none, .fields #[.str (Str.ofString "from_string") 1322, .str (Str.ofString "AllowedDerivation.from_string") 1323, .str (Str.ofString "/claim/cut.py") 1324, .int 601 0, .int 4 0, .int 0 0, .int 0 0, .int 3 0, .ref 879, .bool true, .int 181 0, .ref 880, .none, .none, .none, .ref 881, .int 1325 0, .int 601 0, .str (Str.ofString "/claim/cut.py") 1326], #[]⟩
noncomputable def o883 (P : Params) : Obj := ⟨.type "function", none, .func (fnOf (Str.ofString "from_string") (Str.ofString "AllowedDerivation.from_string") A883 B883 S883 (.ref 878) (.none) (.none) (.str (Str.ofString "embit.descriptor.arguments") 1167) (some 886) (.ref 882) (.none)), #[]⟩
noncomputable def o885 (P : Params) : Obj := ⟨.type "classmethod", some 884, .fields #[.ref 883, .bool false], #[]⟩
noncomputable def o887 (P : Params) : Obj := ⟨.type "tuple", none, .seq #[.bool false, .bool true] 0, #[]⟩
noncomputable def o888 (P : Params) : Obj := ⟨.type "tuple", none, .seq #[] 0, #[]⟩
noncomputable def o889 (P : Params) : Obj := ⟨.none, none, .fields #[], #[]⟩
noncomputable def o891 (P : Params) : Obj := ⟨.type "code", none, .fields #[.str (Str.ofString "parse_element") 1340, .str (Str.ofString "AllowedDerivation.parse_element") 1341, .str (Str.ofString "/claim/cut.py") 1342, .int 608 0, .int 4 0, .int 0 0, .int 0 0, .int 3 0, .ref 888, .bool true, .int 181 0, .ref 889, .none, .none, .none, .ref 890, .int 1343 0, .int 608 0, .str (Str.ofString "/claim/cut.py") 1344], #[]⟩
noncomputable def o892 (P : Params) : Obj := ⟨.type "function", none, .func (fnOf (Str.ofString "parse_element") (Str.ofString "AllowedDerivation.parse_element") A892 B892 S892 (.ref 887) (.none) (.none) (.str (Str.ofString "embit.descriptor.arguments") 1167) (some 895) (.ref 891) (.none)), #[]⟩
noncomputable def o894 (P : Params) : Obj := ⟨.type "classmethod", some 893, .fields #[.ref 892, .bool false], #[]⟩
noncomputable def o896 (P : Params) : Obj := ⟨.type "tuple", none, .seq #[] 0, #[]⟩
noncomputable def o897 (P : Params) : Obj := ⟨.none, none, .fields #[], #[]⟩
noncomputable def o899 (P : Params) : Obj := ⟨.type "code", none, .fields #[.str (Str.ofString "__str__") 1358, .str (Str.ofString "AllowedDerivation.__str__") 1359, .str (Str.ofString "/claim/cut.py") 1360, .int 631 0, .int 1 0, .int 0 0, .int 0 0, .int 3 0, .ref 896, .bool true, .int 181 0, .ref 897, .none, .none, .none, .ref 898, .int 1361 0, .int 631 0, .str (Str.ofString "/claim/cut.py") 1362], #[]⟩
noncomputable def o900 (P : Params) : Obj := ⟨.type "function", none, .func (fnOf (Str.ofString "__str__") (Str.ofString "AllowedDerivation.__str__") A900 B900 S900 (.none) (.none) (.none) (.str (Str.ofString "embit.descriptor.arguments") 1167) none (.ref 899) (.none)), #[]⟩
noncomputable def o902 (P : Params) : Obj := ⟨.type "dict", none, .dict #[⟨PyData.keyHash P (Str.ofString "__module__"), .str (Str.ofString "__module__") 1238, .str (Str.ofString "embit.descriptor.arguments") 1167⟩, ⟨PyData.keyHash P (Str.ofString "__firstlineno__"), .str (Str.ofString "__firstlineno__") 1242, .int 527 1241⟩, ⟨PyData.keyHash P (Str.ofString "__init__"), .str (Str.ofString "__init__") 1250, .ref 825⟩, ⟨PyData.keyHash P (Str.ofString "is_wildcard"), .str (Str.ofString "is_wildcard") 1258, .ref 833⟩, ⟨PyData.keyHash P (Str.ofString "fill"), .str (Str.ofString "fill") 1264, .ref 839⟩, ⟨PyData.keyHash P (Str.ofString "branch"), .str (Str.ofString "branch") 1273, .ref 846⟩, ⟨PyData.keyHash P (Str.ofString "check_derivation"), .str (Str.ofString "check_derivation") 1286, .ref 853⟩, ⟨PyData.keyHash P (Str.ofString "default"), .str (Str.ofString "default") 1305, .ref 862⟩, ⟨PyData.keyHash P (Str.ofString "branches"), .str (Str.ofString "branches") 1314, .ref 871⟩, ⟨PyData.keyHash P (Str.ofString "has_hardend"), .str (Str.ofString "has_hardend") 1321, .ref 877⟩, ⟨PyData.keyHash P (Str.ofString "from_string"), .str (Str.ofString "from_string") 1339, .ref 885⟩, ⟨PyData.keyHash P (Str.ofString "parse_element"), .str (Str.ofString "parse_element") 1357, .ref 894⟩, ⟨PyData.keyHash P (Str.ofString "__str__"), .str (Str.ofString "__str__") 1363, .ref 900⟩, ⟨PyData.keyHash P (Str.ofString "__static_attributes__"), .str (Str.ofString "__static_attributes__") 1365, .ref 901⟩, ⟨PyData.keyHash P (Str.ofString "__doc__"), .str (Str.ofString "__doc__") 1366, .none⟩] 2, #[]⟩
noncomputable def o903 (P : Params) : Obj := ⟨.type "type", none, .cls ⟨(Str.ofString "AllowedDerivation"), [.ref 714], [.ref 903, .ref 714, .ref 676, .type "object"], 902, (Str.ofString "AllowedDerivation"), true, [], [], false, none, false⟩, #[some (.ref 811), none, some (.str (Str.ofString "AllowedDerivation") 1231), some (.str (Str.ofString "AllowedDerivation") 1239), some (.builtin "object.__new__"), some (.bool true)]⟩
noncomputable def o906 (P : Params) : Obj := ⟨.type "tuple", none, .seq #[] 0, #[]⟩
noncomputable def o907 (P : Params) : Obj := ⟨.none, none, .fields #[], #[]⟩
noncomputable def o908 (P : Params) : Obj := ⟨.type "tuple", none, .seq #[.str (Str.ofString "script") 1376, .str (Str.ofString "place") 1377] 0, #[]⟩
noncomputable def o909 (P : Params) : Obj := ⟨.type "tuple", none, .seq #[] 0, #[]⟩
noncomputable def o911 (P : Params) : Obj := ⟨.type "code", none, .fields #[.str (Str.ofString "_law_number") 1373, .str (Str.ofString "_law_number") 1374, .str (Str.ofString "/claim/cut.py") 1375, .int 648 0, .int 2 0, .int 0 0, .int 0 0, .int 3 0, .ref 906, .bool true, .int 181 0, .ref 907, .none, .ref 908, .ref 909, .ref 910, .int 1378 0, .int 648 0, .str (Str.ofString "/claim/cut.py") 1379], #[]⟩
noncomputable def o912 (P : Params) : Obj := ⟨.type "function", none, .func (fnOf (Str.ofString "_law_number") (Str.ofString "_law_number") A912 B912 S912 (.none) (.none) (.none) (.str (Str.ofString "law_kk0015_01") 1369) none (.ref 911) (.none)), #[]⟩
noncomputable def o913 (P : Params) : Obj := ⟨.type "tuple", none, .seq #[] 0, #[]⟩
noncomputable def o914 (P : Params) : Obj := ⟨.none, none, .fields #[], #[]⟩
noncomputable def o915 (P : Params) : Obj := ⟨.type "tuple", none, .seq #[.str (Str.ofString "index") 1384, .str (Str.ofString "mark") 1385] 0, #[]⟩
noncomputable def o916 (P : Params) : Obj := ⟨.type "tuple", none, .seq #[] 0, #[]⟩
noncomputable def o918 (P : Params) : Obj := ⟨.type "code", none, .fields #[.str (Str.ofString "_law_word") 1381, .str (Str.ofString "_law_word") 1382, .str (Str.ofString "/claim/cut.py") 1383, .int 650 0, .int 2 0, .int 0 0, .int 0 0, .int 3 0, .ref 913, .bool true, .int 181 0, .ref 914, .none, .ref 915, .ref 916, .ref 917, .int 1386 0, .int 650 0, .str (Str.ofString "/claim/cut.py") 1387], #[]⟩
noncomputable def o919 (P : Params) : Obj := ⟨.type "function", none, .func (fnOf (Str.ofString "_law_word") (Str.ofString "_law_word") A919 B919 S919 (.none) (.none) (.none) (.str (Str.ofString "law_kk0015_01") 1369) none (.ref 918) (.none)), #[]⟩
noncomputable def o920 (P : Params) : Obj := ⟨.type "tuple", none, .seq #[] 0, #[]⟩
noncomputable def o921 (P : Params) : Obj := ⟨.none, none, .fields #[], #[]⟩
noncomputable def o923 (P : Params) : Obj := ⟨.type "code", none, .fields #[.str (Str.ofString "_law_text") 1389, .str (Str.ofString "_law_text") 1390, .str (Str.ofString "/claim/cut.py") 1391, .int 652 0, .int 3 0, .int 0 0, .int 0 0, .int 3 0, .ref 920, .bool true, .int 181 0, .ref 921, .none, .none, .none, .ref 922, .int 1392 0, .int 652 0, .str (Str.ofString "/claim/cut.py") 1393], #[]⟩
noncomputable def o924 (P : Params) : Obj := ⟨.type "function", none, .func (fnOf (Str.ofString "_law_text") (Str.ofString "_law_text") A924 B924 S924 (.none) (.none) (.none) (.str (Str.ofString "law_kk0015_01") 1369) none (.ref 923) (.none)), #[]⟩
noncomputable def o925 (P : Params) : Obj := ⟨.type "tuple", none, .seq #[] 0, #[]⟩
noncomputable def o926 (P : Params) : Obj := ⟨.none, none, .fields #[], #[]⟩
noncomputable def o927 (P : Params) : Obj := ⟨.type "tuple", none, .seq #[.str (Str.ofString "kind") 1398, .str (Str.ofString "derivation") 1399, .str (Str.ofString "text") 1400, .str (Str.ofString "number") 1401] 0, #[]⟩
noncomputable def o928 (P : Params) : Obj := ⟨.type "tuple", none, .seq #[] 0, #[]⟩
noncomputable def o930 (P : Params) : Obj := ⟨.type "code", none, .fields #[.str (Str.ofString "_law_refused") 1395, .str (Str.ofString "_law_refused") 1396, .str (Str.ofString "/claim/cut.py") 1397, .int 663 0, .int 4 0, .int 0 0, .int 0 0, .int 3 0, .ref 925, .bool true, .int 181 0, .ref 926, .none, .ref 927, .ref 928, .ref 929, .int 1402 0, .int 663 0, .str (Str.ofString "/claim/cut.py") 1403], #[]⟩
noncomputable def o931 (P : Params) : Obj := ⟨.type "function", none, .func (fnOf (Str.ofString "_law_refused") (Str.ofString "_law_refused") A931 B931 S931 (.none) (.none) (.none) (.str (Str.ofString "law_kk0015_01") 1369) none (.ref 930) (.none)), #[]⟩
noncomputable def o932 (P : Params) : Obj := ⟨.type "tuple", none, .seq #[] 0, #[]⟩
noncomputable def o933 (P : Params) : Obj := ⟨.none, none, .fields #[], #[]⟩
noncomputable def o935 (P : Params) : Obj := ⟨.type "code", none, .fields #[.str (Str.ofString "law") 1405, .str (Str.ofString "law") 1406, .str (Str.ofString "/claim/cut.py") 1407, .int 678 0, .int 1 0, .int 0 0, .int 0 0, .int 3 0, .ref 932, .bool true, .int 181 0, .ref 933, .none, .none, .none, .ref 934, .int 1408 0, .int 678 0, .str (Str.ofString "/claim/cut.py") 1409], #[]⟩
noncomputable def o936 (P : Params) : Obj := ⟨.type "function", none, .func (fnOf (Str.ofString "law") (Str.ofString "law") A936 B936 S936 (.none) (.none) (.none) (.str (Str.ofString "law_kk0015_01") 1369) none (.ref 935) (.none)), #[]⟩
noncomputable def K (P : Params) : Frag := (nat_lit 2, o2 P) :: (nat_lit 3, o3 P) :: (nat_lit 22, o22 P) :: (nat_lit 23, o23 P) :: (nat_lit 25, o25 P) :: (nat_lit 26, o26 P) :: (nat_lit 27, o27 P) :: (nat_lit 28, o28 P) :: (nat_lit 30, o30 P) :: (nat_lit 31, o31 P) :: (nat_lit 40, o40 P) :: (nat_lit 41, o41 P) :: (nat_lit 675, o675 P) :: (nat_lit 676, o676 P) :: (nat_lit 713, o713 P) :: (nat_lit 714, o714 P) :: (nat_lit 725, o725 P) :: (nat_lit 726, o726 P) :: (nat_lit 737, o737 P) :: (nat_lit 738, o738 P) :: (nat_lit 749, o749 P) :: (nat_lit 750, o750 P) :: (nat_lit 753, o753 P) :: (nat_lit 754, o754 P) :: (nat_lit 755, o755 P) :: (nat_lit 756, o756 P) :: (nat_lit 758, o758 P) :: (nat_lit 759, o759 P) :: (nat_lit 760, o760 P) :: (nat_lit 761, o761 P) :: (nat_lit 763, o763 P) :: (nat_lit 764, o764 P) :: (nat_lit 765, o765 P) :: (nat_lit 766, o766 P) :: (nat_lit 767, o767 P) :: (nat_lit 768, o768 P) :: (nat_lit 769, o769 P) :: (nat_lit 771, o771 P) :: (nat_lit 772, o772 P) :: (nat_lit 780, o780 P) :: (nat_lit 781, o781 P) :: (nat_lit 782, o782 P) :: (nat_lit 783, o783 P) :: (nat_lit 785, o785 P) :: (nat_lit 786, o786 P) :: (nat_lit 787, o787 P) :: (nat_lit 788, o788 P) :: (nat_lit 789, o789 P) :: (nat_lit 790, o790 P) :: (nat_lit 792, o792 P) :: (nat_lit 793, o793 P) :: (nat_lit 795, o795 P) :: (nat_lit 797, o797 P) :: (nat_lit 798, o798 P) :: (nat_lit 799, o799 P) :: (nat_lit 800, o800 P) :: (nat_lit 802, o802 P) :: (nat_lit 803, o803 P) :: (nat_lit 805, o805 P) :: (nat_lit 806, o806 P) :: (nat_lit 818, o818 P) :: (nat_lit 819, o819 P) :: (nat_lit 820, o820 P) :: (nat_lit 821, o821 P) :: (nat_lit 822, o822 P) :: (nat_lit 824, o824 P) :: (nat_lit 825, o825 P) :: (nat_lit 826, o826 P) :: (nat_lit 827, o827 P) :: (nat_lit 828, o828 P) :: (nat_lit 829, o829 P) :: (nat_lit 831, o831 P) :: (nat_lit 832, o832 P) :: (nat_lit 833, o833 P) :: (nat_lit 834, o834 P) :: (nat_lit 835, o835 P) :: (nat_lit 836, o836 P) :: (nat_lit 838, o838 P) :: (nat_lit 839, o839 P) :: (nat_lit 840, o840 P) :: (nat_lit 841, o841 P) :: (nat_lit 842, o842 P) :: (nat_lit 843, o843 P) :: (nat_lit 845, o845 P) :: (nat_lit 846, o846 P) :: (nat_lit 847, o847 P) :: (nat_lit 848, o848 P) :: (nat_lit 849, o849 P) :: (nat_lit 850, o850 P) :: (nat_lit 852, o852 P) :: (nat_lit 853, o853 P) :: (nat_lit 864, o864 P) :: (nat_lit 865, o865 P) :: (nat_lit 866, o866 P) :: (nat_lit 867, o867 P) :: (nat_lit 869, o869 P) :: (nat_lit 870, o870 P) :: (nat_lit 871, o871 P) :: (nat_lit 872, o872 P) :: (nat_lit 873, o873 P) :: (nat_lit 875, o875 P) :: (nat_lit 876, o876 P) :: (nat_lit 877, o877 P) :: (nat_lit 878, o878 P) :: (nat_lit 879, o879 P) :: (nat_lit 880, o880 P) :: (nat_lit 882, o882 P) :: (nat_lit 883, o883 P) :: (nat_lit 885, o885 P) :: (nat_lit 887, o887 P) :: (nat_lit 888, o888 P) :: (nat_lit 889, o889 P) :: (nat_lit 891, o891 P) :: (nat_lit 892, o892 P) :: (nat_lit 894, o894 P) :: (nat_lit 896, o896 P) :: (nat_lit 897, o897 P) :: (nat_lit 899, o899 P) :: (nat_lit 900, o900 P) :: (nat_lit 902, o902 P) :: (nat_lit 903, o903 P) :: (nat_lit 906, o906 P) :: (nat_lit 907, o907 P) :: (nat_lit 908, o908 P) :: (nat_lit 909, o909 P) :: (nat_lit 911, o911 P) :: (nat_lit 912, o912 P) :: (nat_lit 913, o913 P) :: (nat_lit 914, o914 P) :: (nat_lit 915, o915 P) :: (nat_lit 916, o916 P) :: (nat_lit 918, o918 P) :: (nat_lit 919, o919 P) :: (nat_lit 920, o920 P) :: (nat_lit 921, o921 P) :: (nat_lit 923, o923 P) :: (nat_lit 924, o924 P) :: (nat_lit 925, o925 P) :: (nat_lit 926, o926 P) :: (nat_lit 927, o927 P) :: (nat_lit 928, o928 P) :: (nat_lit 930, o930 P) :: (nat_lit 931, o931 P) :: (nat_lit 932, o932 P) :: (nat_lit 933, o933 P) :: (nat_lit 935, o935 P) :: (nat_lit 936, o936 P) :: []
noncomputable def Kas : List Addr := nat_lit 2 :: nat_lit 3 :: nat_lit 22 :: nat_lit 23 :: nat_lit 25 :: nat_lit 26 :: nat_lit 27 :: nat_lit 28 :: nat_lit 30 :: nat_lit 31 :: nat_lit 40 :: nat_lit 41 :: nat_lit 675 :: nat_lit 676 :: nat_lit 713 :: nat_lit 714 :: nat_lit 725 :: nat_lit 726 :: nat_lit 737 :: nat_lit 738 :: nat_lit 749 :: nat_lit 750 :: nat_lit 753 :: nat_lit 754 :: nat_lit 755 :: nat_lit 756 :: nat_lit 758 :: nat_lit 759 :: nat_lit 760 :: nat_lit 761 :: nat_lit 763 :: nat_lit 764 :: nat_lit 765 :: nat_lit 766 :: nat_lit 767 :: nat_lit 768 :: nat_lit 769 :: nat_lit 771 :: nat_lit 772 :: nat_lit 780 :: nat_lit 781 :: nat_lit 782 :: nat_lit 783 :: nat_lit 785 :: nat_lit 786 :: nat_lit 787 :: nat_lit 788 :: nat_lit 789 :: nat_lit 790 :: nat_lit 792 :: nat_lit 793 :: nat_lit 795 :: nat_lit 797 :: nat_lit 798 :: nat_lit 799 :: nat_lit 800 :: nat_lit 802 :: nat_lit 803 :: nat_lit 805 :: nat_lit 806 :: nat_lit 818 :: nat_lit 819 :: nat_lit 820 :: nat_lit 821 :: nat_lit 822 :: nat_lit 824 :: nat_lit 825 :: nat_lit 826 :: nat_lit 827 :: nat_lit 828 :: nat_lit 829 :: nat_lit 831 :: nat_lit 832 :: nat_lit 833 :: nat_lit 834 :: nat_lit 835 :: nat_lit 836 :: nat_lit 838 :: nat_lit 839 :: nat_lit 840 :: nat_lit 841 :: nat_lit 842 :: nat_lit 843 :: nat_lit 845 :: nat_lit 846 :: nat_lit 847 :: nat_lit 848 :: nat_lit 849 :: nat_lit 850 :: nat_lit 852 :: nat_lit 853 :: nat_lit 864 :: nat_lit 865 :: nat_lit 866 :: nat_lit 867 :: nat_lit 869 :: nat_lit 870 :: nat_lit 871 :: nat_lit 872 :: nat_lit 873 :: nat_lit 875 :: nat_lit 876 :: nat_lit 877 :: nat_lit 878 :: nat_lit 879 :: nat_lit 880 :: nat_lit 882 :: nat_lit 883 :: nat_lit 885 :: nat_lit 887 :: nat_lit 888 :: nat_lit 889 :: nat_lit 891 :: nat_lit 892 :: nat_lit 894 :: nat_lit 896 :: nat_lit 897 :: nat_lit 899 :: nat_lit 900 :: nat_lit 902 :: nat_lit 903 :: nat_lit 906 :: nat_lit 907 :: nat_lit 908 :: nat_lit 909 :: nat_lit 911 :: nat_lit 912 :: nat_lit 913 :: nat_lit 914 :: nat_lit 915 :: nat_lit 916 :: nat_lit 918 :: nat_lit 919 :: nat_lit 920 :: nat_lit 921 :: nat_lit 923 :: nat_lit 924 :: nat_lit 925 :: nat_lit 926 :: nat_lit 927 :: nat_lit 928 :: nat_lit 930 :: nat_lit 931 :: nat_lit 932 :: nat_lit 933 :: nat_lit 935 :: nat_lit 936 :: []

noncomputable def benv : Env := { scope := pw.main.scope, locals := mainNs, globals := mainNs, cells := [], code := .ref 13, frame := some 14 }
noncomputable def cE : Code := .body (behindTheImports pw) benv
noncomputable def p0 : Pos := ⟨0, 0, 0, 0⟩
noncomputable def pE : Pos := ⟨678, 0, 743, 235⟩
noncomputable abbrev FB : List Frame := [topFrame p0]
noncomputable def T0 (P : Params) : BT := (((((((((((((((BT.nil.ins 0 (boot_o_0 P)).ins 1 (boot_o_1 P)).ins 2 (boot_o_2 P)).ins 3 (boot_o_3 P)).ins 4 (boot_o_4 P)).ins 5 (boot_o_5 P)).ins 6 (boot_o_6 P)).ins 7 (boot_o_7 P)).ins 8 (boot_o_8 P)).ins 9 (boot_o_9 P)).ins 10 (boot_o_10 P)).ins 11 (⟨.type "tuple", none, .seq #[] 0, #[]⟩ : Obj)).ins 12 (⟨.none, none, .fields #[], #[]⟩ : Obj)).ins 13 (⟨.type "code", none, .fields #[.str (Str.ofString "<module>") 182, .str (Str.ofString "<module>") 183, .str (Str.ofString "/claim/cut.py") 184, .int 1 0, .int 0 0, .int 0 0, .int 0 0, .int 0 0, .ref 11, .bool false, .int 181 0, .ref 12, .none, .none, .none, .none, .int 185 0, .int 1 0, .str (Str.ofString "/claim/cut.py") 186], #[]⟩ : Obj)).ins 14 (⟨.type "frame", none, .plain, #[some (.ref 13), some (.ref 3), some (.ref 3), none, some (.str (Str.ofString "__main__") 164), none, some (.ref 0)]⟩ : Obj))
noncomputable def Sb (w : World) (os : OsState) : SharedT := ⟨T0 w.params, 15, (boot_heap w.params).life, #[], boot_drawn, 187, os⟩
noncomputable def ann0 : Option Value := some (.ref 6)

noncomputable def qv : Program := { pw with main := { pw.main with body := [nth 37] } }
noncomputable def loose : List Str := [Str.ofString "_wall", Str.ofString "hexlify", Str.ofString "unhexlify", Str.ofString "EmbitError", Str.ofString "_whence", Str.ofString "_index", Str.ofString "UnsupportedOperation", Str.ofString "IOBase", Str.ofString "BufferedIOBase", Str.ofString "TextIOBase", Str.ofString "BytesIO", Str.ofString "StringIO", Str.ofString "EmbitBase", Str.ofString "DescriptorBase", Str.ofString "DescriptorError", Str.ofString "MiniscriptError", Str.ofString "ArgumentError", Str.ofString "HARDENED_INDEX", Str.ofString "_parse_der_item", Str.ofString "parse_path", Str.ofString "path_to_str", Str.ofString "KeyOrigin", Str.ofString "AllowedDerivation", Str.ofString "_law_hardened", Str.ofString "_law_number", Str.ofString "_law_word", Str.ofString "_law_text", Str.ofString "_law_refused"]
noncomputable abbrev rwr : RowW := PySem.Challenge.rw_kk0015_01.row.toRowW
noncomputable def Xt (s : Shared) : Bool := xlAt qv [] s && recOk (RowW.records rwr) s
noncomputable def G1 (w : World) (s : Shared) : Bool := staticsOk (importedModules pw.main.body) (boot_heap w.params) s.heap && namesBound pw s.heap && gensDone s && laidKept (boot_heap w.params) s.heap
noncomputable def G2 (s : Shared) := openSeen qv loose (importedModules pw.main.body) Xt true s
noncomputable def G3 (s : Shared) : List (Option Obj) := Kas.map s.heap.get?
noncomputable def th0 : Thread := piecesOf (behindTheImports pw) benv cE p0 FB

noncomputable def G3' (s : SharedT) : List (Option Obj) := Kas.map fun a => match Nat.blt a s.n with
  | true => alive ((s.tree.get a).getD default)
  | false => none
theorem main1 : ∀ w : World, (fun os => (segRunT treeTable pw w 11 ann0 1 8100 (Sb w os) th0).map fun r => (r.1, r.2.2.1, r.2.2.2, G1 w r.2.1.abs, G2 r.2.1.abs, G3' r.2.1)) = fun _ => some (Flow.next, cE, pE, true, openGood qv loose, (K w.params).map fun p => some p.2) := by
  rw [Fast.te10110043849684766642]
  intro w
  kernel_rfl
theorem blk : ∀ (w : World) (os : OsState), segRun treeTable pw w 11 ann0 1 1 (Sb w os).abs (blockOf (behindTheImports pw) benv cE p0 FB) = some (.next, (Sb w os).abs, cE, p0) := by
  intro w os
  kernel_rfl
end Mine

/-! ## P1 -/
set_option maxHeartbeats 400000
namespace Mine

/-! # A small logic over pure values -/
inductive PV where
  | none
  | bool (b : Bool)
  | int (i : Int)
  | str (x : Str)
  | bytes (b : Array UInt8)
  | list (ds : List PV)
  | tuple (ds : List PV)
  | inst (C : Addr) (fs : List (Str × PV))
  | raw (v : Value)

noncomputable abbrev Gh := Addr → Option Obj
noncomputable abbrev tupOf (its : Array Value) (n : Nat) : Obj := { cls := .type "tuple", data := .seq its n }

mutual
inductive Rep (q : Gh) : Value → PV → Prop
  | none : Rep q .none .none
  | bool (b : Bool) : Rep q (.bool b) (.bool b)
  | int (i : Int) (t : Tok) : Rep q (.int i t) (.int i)
  | str (x : Str) (t : Tok) : Rep q (.str x t) (.str x)
  | bytes (b : Array UInt8) (t : Tok) : Rep q (.bytes b t) (.bytes b)
  | list {a : Addr} {vs : List Value} {ds : List PV} {n : Nat} (h : q a = some (listOf vs.toArray n)) (r : RepL q vs ds) : Rep q (.ref a) (.list ds)
  | tuple {a : Addr} {vs : List Value} {ds : List PV} {n : Nat} (h : q a = some (tupOf vs.toArray n)) (r : RepL q vs ds) : Rep q (.ref a) (.tuple ds)
  | inst {x dx C : Addr} {es : List DictEntry} {n : Nat} {fs : List (Str × PV)} (h : q x = some (instObj C dx)) (hd : q dx = some (dictOf es n)) (r : RepF q es fs) : Rep q (.ref x) (.inst C fs)
  | raw (v : Value) : Rep q v (.raw v)
inductive RepL (q : Gh) : List Value → List PV → Prop
  | nil : RepL q [] []
  | cons {v : Value} {vs : List Value} {d : PV} {ds : List PV} (h : Rep q v d) (r : RepL q vs ds) : RepL q (v :: vs) (d :: ds)
inductive RepF (q : Gh) : List DictEntry → List (Str × PV) → Prop
  | nil : RepF q [] []
  | cons {hs : Int} {x : Str} {t : Tok} {v : Value} {es : List DictEntry} {d : PV} {fs : List (Str × PV)} (h : Rep q v d) (r : RepF q es fs) : RepF q (⟨hs, .str x t, v⟩ :: es) ((x, d) :: fs)
end

mutual
theorem Rep.mono {q q' : Gh} (k : ∀ b o, q b = some o → q' b = some o) : ∀ {v d}, Rep q v d → Rep q' v d
  | _, _, .none => .none
  | _, _, .bool b => .bool b
  | _, _, .int i t => .int i t
  | _, _, .str x t => .str x t
  | _, _, .bytes b t => .bytes b t
  | _, _, .list h r => .list (k _ _ h) (RepL.mono k r)
  | _, _, .tuple h r => .tuple (k _ _ h) (RepL.mono k r)
  | _, _, .inst h hd r => .inst (k _ _ h) (k _ _ hd) (RepF.mono k r)
  | _, _, .raw v => .raw v
theorem RepL.mono {q q' : Gh} (k : ∀ b o, q b = some o → q' b = some o) : ∀ {vs ds}, RepL q vs ds → RepL q' vs ds
  | _, _, .nil => .nil
  | _, _, .cons h r => .cons (Rep.mono k h) (RepL.mono k r)
theorem RepF.mono {q q' : Gh} (k : ∀ b o, q b = some o → q' b = some o) : ∀ {es fs}, RepF q es fs → RepF q' es fs
  | _, _, .nil => .nil
  | _, _, .cons h r => .cons (Rep.mono k h) (RepF.mono k r)
end

theorem RepL.length {q : Gh} : ∀ {vs ds}, RepL q vs ds → vs.length = ds.length
  | _, _, .nil => rfl
  | _, _, .cons _ r => congrArg (· + 1) (RepL.length r)
theorem RepL.get {q : Gh} : ∀ {vs ds}, RepL q vs ds → ∀ {i : Nat} {d : PV}, ds[i]? = some d → ∃ v, vs[i]? = some v ∧ Rep q v d
  | _, _, .nil, i, d, h => by simp at h
  | _, _, .cons h r, 0, d, e => by
    simp only [List.getElem?_cons_zero, Option.some.injEq] at e
    subst e
    exact ⟨_, rfl, h⟩
  | _, _, .cons h r, i + 1, d, e => by
    simp only [List.getElem?_cons_succ] at e ⊢
    exact RepL.get r e
theorem RepL.append {q : Gh} : ∀ {vs ds us es}, RepL q vs ds → RepL q us es → RepL q (vs ++ us) (ds ++ es)
  | _, _, _, _, .nil, s => s
  | _, _, _, _, .cons h r, s => .cons h (RepL.append r s)

noncomputable abbrev Keep (h h' : Heap) : Prop := ∀ b o, h.get? b = some o → h'.get? b = some o

/-- the heap only grew; the ghost heap grew by fresh objects alone -/
structure Grow (h : Heap) (q : Gh) (h' : Heap) (q' : Gh) : Prop where
  keep : Keep h h'
  le : ∀ b o, q b = some o → q' b = some o
  sub : ∀ b o, q' b = some o → h'.get? b = some o
  fresh : ∀ b o, q' b = some o → q b = some o ∨ h.get? b = none

theorem Grow.refl {h : Heap} {q : Gh} (k : ∀ b o, q b = some o → h.get? b = some o) : Grow h q h q := ⟨fun _ _ e => e, fun _ _ e => e, k, fun _ _ e => .inl e⟩
theorem Grow.trans {h h' h'' : Heap} {q q' q'' : Gh} (a : Grow h q h' q') (b : Grow h' q' h'' q'') : Grow h q h'' q'' :=
  ⟨fun _ _ e => b.keep _ _ (a.keep _ _ e), fun _ _ e => b.le _ _ (a.le _ _ e), b.sub, fun x o e => by
    rcases b.fresh x o e with e | e
    · exact a.fresh x o e
    · right
      cases z : h.get? x with
      | none => rfl
      | some o' => rw [a.keep _ _ z] at e; cases e⟩
/-- the heap alone grew -/
theorem Grow.heap {h h' : Heap} {q : Gh} (k : ∀ b o, q b = some o → h.get? b = some o) (e : Keep h h') : Grow h q h' q := ⟨e, fun _ _ e => e, fun b o x => e b o (k b o x), fun _ _ e => .inl e⟩

/-- a ghost heap with one object more -/
noncomputable def put (q : Gh) (a : Addr) (o : Obj) : Gh := fun b => if b = a then some o else q b
theorem put_self {q : Gh} {a : Addr} {o : Obj} : put q a o a = some o := by unfold put; rw [if_pos rfl]
theorem put_ne {q : Gh} {a b : Addr} {o : Obj} (h : b ≠ a) : put q a o b = q b := by unfold put; rw [if_neg h]
theorem put_le {q : Gh} {a : Addr} {o : Obj} (h : q a = none) : ∀ b x, q b = some x → put q a o b = some x := fun b x e => by
  rw [put_ne]
  · exact e
  · rintro rfl; rw [h] at e; cases e
theorem get_size_none (h : Heap) : h.get? h.objs.size = none := by
  cases e : h.get? h.objs.size with
  | none => rfl
  | some o => exact absurd (Heap.lt_size e) (Nat.lt_irrefl _)
theorem Grow.push {h : Heap} {q : Gh} {o : Obj} (k : ∀ b o, q b = some o → h.get? b = some o) (hf : o.isFreed = false := by rfl) : Grow h q (h.push o) (put q h.objs.size o) := by
  have hn : q h.objs.size = none := by
    cases e : q h.objs.size with
    | none => rfl
    | some o => exact absurd (Heap.lt_size (k _ _ e)) (Nat.lt_irrefl _)
  refine ⟨fun b x e => Heap.get?_push_of_some _ e, put_le hn, fun b x e => ?_, fun b x e => ?_⟩
  · by_cases hb : b = h.objs.size
    · subst hb; rw [put_self] at e; cases e; exact Heap.get?_push_size _ hf
    · rw [put_ne hb] at e; exact Heap.get?_push_of_some _ (k _ _ e)
  · by_cases hb : b = h.objs.size
    · subst hb; right; exact get_size_none h
    · rw [put_ne hb] at e; exact .inl e

/-! # The frame's names -/
inductive LV where
  | pers (d : PV)
  | own (ds : List PV)
noncomputable abbrev Rho := Str → Option LV

inductive NameVal (env : Env) (h : Heap) (x : Str) (v : Value) : Prop
  | loc {m : Str → Option Value} (hk : env.kindOf x = some .local) (hn : h.Ns env.locals m) (hv : m x = some v) : NameVal env h x v
  | cell {c : Addr} (hk : env.kindOf x = some .cell) (hc : env.cells.lookup x = some c) (hv : h.IsCell c (some v)) : NameVal env h x v
theorem NameVal.keep {env : Env} {h h' : Heap} {x : Str} {v : Value} (k : Keep h h') : NameVal env h x v → NameVal env h' x v
  | .loc a b c => .loc a (b.keeps k) c
  | .cell a b ⟨o, c, d⟩ => .cell a b ⟨o, k _ _ c, d⟩

structure Ctx (w : World) (env : Env) (ρ : Rho) (h : Heap) (q : Gh) : Prop where
  K : (K w.params).In h
  top : ∃ mg mb, TopRead qv (looseW qv loose) mg mb h
  sub : ∀ b o, q b = some o → h.get? b = some o
  kind : env.scope.kind = .function
  globals : env.globals = mainGlobals
  builtins : env.builtins = builtinsNs
  pers : ∀ x d, ρ x = some (.pers d) → ∃ v, NameVal env h x v ∧ Rep q v d
  owns : ∀ x ds, ρ x = some (.own ds) → ∃ a vs n, NameVal env h x (.ref a) ∧ h.get? a = some (listOf vs.toArray n) ∧ RepL q vs ds ∧ q a = none

theorem Ctx.grow {w : World} {env : Env} {ρ : Rho} {h h' : Heap} {q q' : Gh} (C : Ctx w env ρ h q) (g : Grow h q h' q') : Ctx w env ρ h' q' where
  K := C.K.keeps g.keep
  top := let ⟨mg, mb, t⟩ := C.top; ⟨mg, mb, t.keeps g.keep⟩
  sub := g.sub
  kind := C.kind
  globals := C.globals
  builtins := C.builtins
  pers := fun x d e => let ⟨v, n, r⟩ := C.pers x d e; ⟨v, n.keep g.keep, r.mono g.le⟩
  owns := fun x ds e => by
    obtain ⟨a, vs, n, nv, ho, r, hq⟩ := C.owns x ds e
    refine ⟨a, vs, n, nv.keep g.keep, g.keep _ _ ho, r.mono g.le, ?_⟩
    cases z : q' a with
    | none => rfl
    | some o =>
      rcases g.fresh a o z with e | e
      · rw [hq] at e; cases e
      · rw [ho] at e; cases e

structure Room (n : Nat) (A : Around) : Prop where
  handled : A.handled = none
  depth : A.depth + 3 * n ≤ 600
  units : A.units + 40 * n ≤ 2000
theorem Room.le {n m : Nat} {A : Around} (r : Room n A) (h : m ≤ n) : Room m A := ⟨r.handled, by have := r.depth; omega, by have := r.units; omega⟩
theorem Room.in1 {n : Nat} {A : Around} (r : Room (n + 1) A) : Room n A.in1 := ⟨r.handled, by have := r.depth; simp only [Around.in1_depth]; omega, by have := r.units; simp only [Around.in1_units]; omega⟩
theorem Room.deeper {n : Nat} {A : Around} {env : Env} (r : Room (n + 1) A) : Room n (A.deeper env) := ⟨r.handled, by have := r.depth; show A.depth + 1 + 3 * n ≤ 600; omega, by have := r.units; show A.units + 3 + 40 * n ≤ 2000; omega⟩

section
variable (w : World) (n : Nat) (env : Env) (ρ : Rho)
/-- evaluating e gives d -/
structure EV (e : Expr) (d : PV) : Prop where
  run : ∀ A s q E Q, Room n A → Ctx w env ρ s.heap q →
  (∀ h' tk q' v, Grow s.heap q h' q' → Rep q' v d → Q v { s with heap := h', toks := tk }) → wpAny (model pw w) A (eval e env) Q E s
/-- the test e comes out as b -/
structure TV (e : Expr) (b : Bool) : Prop where
  run : ∀ A s q E Q, Room n A → Ctx w env ρ s.heap q →
  (∀ h' tk q', Grow s.heap q h' q' → Q b { s with heap := h', toks := tk }) → wpAny (model pw w) A (isTrue e env (eval e env)) Q E s
end
/-- a tree over values that stand for pure ones gives d -/
structure Gives1 (w : World) (n : Nat) (t : Value → Sem Value) (a d : PV) : Prop where
  run : ∀ A s q E Q va, Room n A → (∀ b o, q b = some o → s.heap.get? b = some o) → Rep q va a →
  (∀ h' tk q' v, Grow s.heap q h' q' → Rep q' v d → Q v { s with heap := h', toks := tk }) → wpAny (model pw w) A (t va) Q E s
structure Gives2 (w : World) (n : Nat) (t : Value → Value → Sem Value) (a b d : PV) : Prop where
  run : ∀ A s q E Q va vb, Room n A → (∀ b o, q b = some o → s.heap.get? b = some o) → Rep q va a → Rep q vb b →
  (∀ h' tk q' v, Grow s.heap q h' q' → Rep q' v d → Q v { s with heap := h', toks := tk }) → wpAny (model pw w) A (t va vb) Q E s

section
variable {w : World} {n : Nat} {env : Env} {ρ : Rho}
theorem ev_name {x : Str} {pos : Pos} {d : PV} (hx : ρ x = some (.pers d)) (hd : (x == ("__debug__" : Str)) = false := by decide) : EV w n env ρ (.Name x pos) d := by
  refine ⟨fun A s q E Q r C k => ?_⟩
  obtain ⟨v, nv, rp⟩ := C.pers x d hx
  have g : Grow s.heap q s.heap q := Grow.refl C.sub
  refine wpAny_Name ?_ hd
  cases nv with
  | loc hk hn hv => exact wpAny_loadName_local C.kind hk hn hv (k s.heap s.toks q v g rp)
  | cell hk hc hv => exact wpAny_loadName_cell C.kind hk hc hv (k s.heap s.toks q v g rp)
theorem ev_none {k : Nat} {pos : Pos} : EV w n env ρ (.Constant .none k pos) .none := ⟨fun A s q E Q r C kk => wpAny_Constant_none (kk s.heap s.toks q _ (.refl C.sub) .none)⟩
theorem ev_bool {b : Bool} {k : Nat} {pos : Pos} : EV w n env ρ (.Constant (.bool b) k pos) (.bool b) := ⟨fun A s q E Q r C kk => wpAny_Constant_bool (kk s.heap s.toks q _ (.refl C.sub) (.bool b))⟩
theorem ev_int {i : Int} {k : Nat} {pos : Pos} : EV w n env ρ (.Constant (.int i) k pos) (.int i) := ⟨fun A s q E Q r C kk => wpAny_Constant_int (kk s.heap _ q _ (.refl C.sub) (.int i _))⟩
theorem ev_str {x : Str} {k : Nat} {pos : Pos} : EV w n env ρ (.Constant (.str x) k pos) (.str x) := ⟨fun A s q E Q r C kk => wpAny_Constant_str (kk s.heap _ q _ (.refl C.sub) (.str x _))⟩
theorem ev_bin {l r : Expr} {op : Operator} {pos : Pos} {a b d : PV} (hl : EV w n env ρ l a) (hr : EV w n env ρ r b) (ho : Gives2 w n (binaryOp op) a b d) : EV w n env ρ (.BinOp l op r pos) d := by
  refine ⟨fun A s q E Q R C k => ?_⟩
  refine wpAny_BinOp (hl.run A s q E _ R C fun h1 t1 q1 va g1 r1 => ?_)
  refine hr.run A _ q1 E _ R (C.grow g1) fun h2 t2 q2 vb g2 r2 => ?_
  exact ho.run A _ q2 E _ va vb R g2.sub (r1.mono g2.le) r2 fun h3 t3 q3 v g3 r3 => k h3 t3 q3 v (g1.trans (g2.trans g3)) r3
theorem op_add_int {a b : Int} : Gives2 w n (binaryOp .Add) (.int a) (.int b) (.int (a + b)) := by
  refine ⟨fun A s q E Q va vb R sub ra rb k => ?_⟩
  cases ra; cases rb
  exact add_int (k s.heap _ q _ (.refl sub) (.int _ _))
end
end Mine

/-! ## P2 -/
namespace Mine

theorem NameVal.fun {env : Env} {h : Heap} {x : Str} {v v' : Value} (a : NameVal env h x v) (b : NameVal env h x v') : v = v' := by
  cases a with
  | loc hk hn hv => cases b with
    | loc hk' hn' hv' => have := Heap.Ns.agree hn hn' x; rw [hv, hv'] at this; exact Option.some.inj this
    | cell hk' => rw [hk] at hk'; cases hk'
  | cell hk hc hv => cases b with
    | loc hk' => rw [hk] at hk'; cases hk'
    | cell hk' hc' hv' =>
      rw [hc] at hc'; cases hc'
      obtain ⟨o, a, b⟩ := hv; obtain ⟨o', a', b'⟩ := hv'
      rw [a] at a'; cases a'; rw [b] at b'; cases b'; rfl

noncomputable def upd (ρ : Rho) (x : Str) (l : LV) : Rho := fun y => if y = x then some l else ρ y

structure Fs (w : World) (env : Env) (h0 : Heap) (q0 : Gh) (ρ : Rho) (h : Heap) (q : Gh) : Prop where
  K0 : (K w.params).In h0
  top0 : ∃ mg mb, TopRead qv (looseW qv loose) mg mb h0
  ctx : Ctx w env ρ h q
  g : Grow h0 q0 h q
  loc : ∃ m, h.Ns env.locals m
  locNew : h0.get? env.locals = none
  locGh : q env.locals = none
  cells : ∀ x c, env.cells.lookup x = some c → (∃ v, h.IsCell c v) ∧ h0.get? c = none ∧ q c = none
  apart : env.cells.Pairwise fun x y => x.2 ≠ y.2
  ownsNew : ∀ x ds a, ρ x = some (.own ds) → NameVal env h x (.ref a) → h0.get? a = none
  ownsApart : ∀ x y dx dy a, ρ x = some (.own dx) → ρ y = some (.own dy) → NameVal env h x (.ref a) → NameVal env h y (.ref a) → x = y

theorem ghost_still {h h' : Heap} {q q' : Gh} (g : Grow h q h' q') {a : Addr} {o : Obj} (ho : h.get? a = some o) (hq : q a = none) : q' a = none := by
  cases z : q' a with
  | none => rfl
  | some o' =>
    rcases g.fresh a o' z with e | e
    · rw [hq] at e; cases e
    · rw [ho] at e; cases e

/-- the frame behind the evaluation of an expression -/
theorem Fs.grow {w : World} {env : Env} {h0 h h' : Heap} {q0 q q' : Gh} {ρ : Rho} (F : Fs w env h0 q0 ρ h q) (g : Grow h q h' q') : Fs w env h0 q0 ρ h' q' where
  K0 := F.K0
  top0 := F.top0
  ctx := F.ctx.grow g
  g := F.g.trans g
  loc := let ⟨m, n⟩ := F.loc; ⟨m, n.keeps g.keep⟩
  locNew := F.locNew
  locGh := by
    obtain ⟨m, o, es, ep, ho, _⟩ := F.loc
    exact ghost_still g ho F.locGh
  cells := fun x c e => by
    obtain ⟨⟨v, o, ho, hd⟩, b, d⟩ := F.cells x c e
    exact ⟨⟨v, o, g.keep _ _ ho, hd⟩, b, ghost_still g ho d⟩
  apart := F.apart
  ownsNew := fun x ds a e n => by
    obtain ⟨a', vs, k, n', ho, _⟩ := F.ctx.owns x ds e
    have := (n'.keep g.keep).fun n
    cases this
    exact F.ownsNew x ds _ e n'
  ownsApart := fun x y dx dy a ex ey nx ny => by
    obtain ⟨a', vs, k, n', ho, _⟩ := F.ctx.owns x dx ex
    obtain ⟨b', us, l, m', po, _⟩ := F.ctx.owns y dy ey
    have e1 := (n'.keep g.keep).fun nx
    have e2 := (m'.keep g.keep).fun ny
    cases e1; cases e2
    exact F.ownsApart x y dx dy a ex ey n' m'

/-- a place of the frame's own (its locals, a cell) is written: what else is read of the frame stays -/
theorem Fs.write {w : World} {env : Env} {h0 h h' : Heap} {q0 q : Gh} {ρ ρ' : Rho} {c : Addr} (F : Fs w env h0 q0 ρ h q) (hs : Heap.SameBut c h h') (hc0 : h0.get? c = none) (hqc : q c = none)
    (loc : ∃ m, h'.Ns env.locals m) (hcl : ∀ x d, env.cells.lookup x = some d → ∃ v, h'.IsCell d v)
    (pers : ∀ x d, ρ' x = some (.pers d) → ∃ v, NameVal env h' x v ∧ Rep q v d)
    (owns : ∀ x ds, ρ' x = some (.own ds) → ∃ a vs n, NameVal env h' x (.ref a) ∧ h'.get? a = some (listOf vs.toArray n) ∧ RepL q vs ds ∧ q a = none ∧ h0.get? a = none)
    (ap : ∀ x y dx dy a, ρ' x = some (.own dx) → ρ' y = some (.own dy) → NameVal env h' x (.ref a) → NameVal env h' y (.ref a) → x = y) : Fs w env h0 q0 ρ' h' q := by
  have kp : ∀ b o, b ≠ c → h.get? b = some o → h'.get? b = some o := fun b o n e => (hs.2 b n).trans e
  have k0 : Keep h0 h' := fun b o e => kp b o (fun q => by rw [q, hc0] at e; cases e) (F.g.keep b o e)
  have sub : ∀ b o, q b = some o → h'.get? b = some o := fun b o e => kp b o (fun z => by rw [z, hqc] at e; cases e) (F.ctx.sub b o e)
  exact {
    K0 := F.K0
    top0 := F.top0
    ctx := ⟨F.K0.keeps k0, let ⟨mg, mb, t⟩ := F.top0; ⟨mg, mb, t.keeps k0⟩, sub, F.ctx.kind, F.ctx.globals, F.ctx.builtins, pers, fun x ds e => let ⟨a, vs, n, b1, b2, b3, b4, _⟩ := owns x ds e; ⟨a, vs, n, b1, b2, b3, b4⟩⟩
    g := ⟨k0, F.g.le, sub, F.g.fresh⟩
    loc := loc
    locNew := F.locNew
    locGh := F.locGh
    cells := fun x d e => ⟨hcl x d e, (F.cells x d e).2⟩
    apart := F.apart
    ownsNew := fun x ds a e n => by
      obtain ⟨a', vs, k, b1, b2, b3, b4, b5⟩ := owns x ds e
      have := b1.fun n
      cases this
      exact b5
    ownsApart := ap }

noncomputable def canStore (env : Env) (x : Str) : Bool := env.kindOf x == some .local || (env.kindOf x == some .cell && (env.cells.lookup x).isSome)

/-- storing a name -/
theorem store_gen {w : World} {env : Env} {h0 : Heap} {q0 q : Gh} {ρ : Rho} {A : Around} {M : Model} {E : Value → Shared → Prop} {s : Shared} {x : Str} {v : Value} {Q : Unit → Shared → Prop}
    (F : Fs w env h0 q0 ρ s.heap q) (hx : canStore env x = true)
    (k : ∀ h' tk c, Heap.SameBut c s.heap h' → (c = env.locals ∨ ∃ y, env.cells.lookup y = some c) → h0.get? c = none → q c = none → (∃ m, h'.Ns env.locals m) → (∀ y d, env.cells.lookup y = some d → ∃ v, h'.IsCell d v) →
      NameVal env h' x v → (∀ y u, y ≠ x → NameVal env s.heap y u → NameVal env h' y u) → (∀ a o xs n, s.heap.get? a = some o → o.data = .seq xs n → a ≠ c) → Q () { s with heap := h', toks := tk }) :
    wpAny M A (storeName env x v) Q E s := by
  obtain ⟨m, hm⟩ := F.loc
  unfold canStore at hx
  rcases Bool.or_eq_true_iff.mp hx with hx | hx
  · have hx : env.kindOf x = some .local := by simpa using hx
    refine wpAny_storeName_local hx hm (fun h' hn hs => k h' _ env.locals hs (.inl rfl) F.locNew F.locGh ⟨_, hn⟩ (fun y d e => ?_) (.loc hx hn (by rw [if_pos rfl])) (fun y u hy nv => ?_) fun a o xs n ho hd e => ?_) (by rw [F.ctx.kind]; rfl)
    · obtain ⟨⟨v, o, ho, hd⟩, _⟩ := F.cells y d e
      refine ⟨v, o, (hs.2 d fun z => ?_).trans ho, hd⟩
      obtain ⟨o', es, ep, ho', hd', _⟩ := hm
      rw [z, ho'] at ho; cases ho; rw [hd] at hd'; cases hd'
    · cases nv with
      | loc hk hn' hv' => exact .loc hk hn (by rw [if_neg hy, Heap.Ns.agree hm hn' y]; exact hv')
      | cell hk hc hv' =>
        refine .cell hk hc (hv'.sameBut hs fun z => ?_)
        obtain ⟨o', es, ep, ho', hd', _⟩ := hm
        obtain ⟨o, ho, hd⟩ := hv'
        rw [z, ho'] at ho; cases ho; rw [hd] at hd'; cases hd'
    · obtain ⟨o', es, ep, ho', hd', _⟩ := hm
      rw [e, ho'] at ho; cases ho; rw [hd] at hd'; cases hd'
  · obtain ⟨hx, hc⟩ := Bool.and_eq_true_iff.mp hx
    have hx : env.kindOf x = some .cell := by simpa using hx
    obtain ⟨c, hc⟩ := Option.isSome_iff_exists.mp hc
    obtain ⟨⟨v₀, hv⟩, c0, cq⟩ := F.cells x c hc
    refine wpAny_storeName_cell F.ctx.kind hx hc hv fun h' hn hs => k h' s.toks c hs (.inr ⟨x, hc⟩) c0 cq ⟨m, hm.sameBut hs fun z => ?_⟩ (fun y d e => ?_) (.cell hx hc hn) (fun y u hy nv => ?_) fun a o xs n ho hd e => ?_
    · obtain ⟨o', es, ep, ho', hd', _⟩ := hm
      obtain ⟨o, ho, hd⟩ := hv
      rw [z, ho] at ho'; cases ho'; rw [hd] at hd'; cases hd'
    · by_cases z : d = c
      · subst z; exact ⟨_, hn⟩
      · obtain ⟨⟨v, hv⟩, _⟩ := F.cells y d e
        exact ⟨v, hv.sameBut hs z⟩
    · cases nv with
      | loc hk hn' hv' =>
        refine .loc hk (hn'.sameBut hs fun z => ?_) hv'
        obtain ⟨o', es, ep, ho', hd', _⟩ := hn'
        obtain ⟨o, ho, hd⟩ := hv
        rw [z, ho] at ho'; cases ho'; rw [hd] at hd'; cases hd'
      | cell hk hc' hv' => exact .cell hk hc' (hv'.sameBut hs fun z => hy (name_of_addr F.apart (mem_of_lookup hc') (z ▸ mem_of_lookup hc)))
    · obtain ⟨o', ho', hd'⟩ := hv
      rw [e, ho'] at ho; cases ho; rw [hd] at hd'; cases hd'

theorem store_pers {w : World} {env : Env} {h0 : Heap} {q0 q : Gh} {ρ : Rho} {A : Around} {M : Model} {E : Value → Shared → Prop} {s : Shared} {x : Str} {v : Value} {d : PV} {Q : Unit → Shared → Prop}
    (F : Fs w env h0 q0 ρ s.heap q) (hx : canStore env x = true) (r : Rep q v d)
    (k : ∀ h' tk, Fs w env h0 q0 (upd ρ x (.pers d)) h' q → Q () { s with heap := h', toks := tk }) : wpAny M A (storeName env x v) Q E s := by
  refine store_gen F hx fun h' tk c hs hcw c0 cq loc hcl nx ny nc => k h' tk (F.write hs c0 cq loc hcl (fun y d' e => ?_) (fun y ds e => ?_) fun y z dy dz a ey ez ny' nz' => ?_)
  · by_cases hy : y = x
    · subst hy; simp only [upd, if_pos] at e; cases e; exact ⟨v, nx, r⟩
    · simp only [upd, if_neg hy] at e
      obtain ⟨u, nu, ru⟩ := F.ctx.pers y d' e
      exact ⟨u, ny y u hy nu, ru⟩
  · by_cases hy : y = x
    · subst hy; simp only [upd, if_pos] at e; cases e
    · simp only [upd, if_neg hy] at e
      obtain ⟨a, vs, n, nu, ho, rl, hq⟩ := F.ctx.owns y ds e
      exact ⟨a, vs, n, ny y _ hy nu, (hs.2 a (nc a _ _ _ ho rfl)).trans ho, rl, hq, F.ownsNew y ds a e nu⟩
  · by_cases hy : y = x
    · subst hy; simp only [upd, if_pos] at ey; cases ey
    · by_cases hz : z = x
      · subst hz; simp only [upd, if_pos] at ez; cases ez
      · simp only [upd, if_neg hy] at ey
        simp only [upd, if_neg hz] at ez
        obtain ⟨a1, _, _, n1, _⟩ := F.ctx.owns y dy ey
        obtain ⟨a2, _, _, n2, _⟩ := F.ctx.owns z dz ez
        have e1 := (ny y _ hy n1).fun ny'
        have e2 := (ny z _ hz n2).fun nz'
        cases e1; cases e2
        exact F.ownsApart y z dy dz _ ey ez n1 n2

theorem store_own {w : World} {env : Env} {h0 : Heap} {q0 q : Gh} {ρ : Rho} {A : Around} {M : Model} {E : Value → Shared → Prop} {s : Shared} {x : Str} {a : Addr} {vs : List Value} {n : Nat} {ds : List PV} {Q : Unit → Shared → Prop}
    (F : Fs w env h0 q0 ρ s.heap q) (hx : canStore env x = true) (ho : s.heap.get? a = some (listOf vs.toArray n)) (r : RepL q vs ds) (hq : q a = none) (ha : h0.get? a = none)
    (hnew : ∀ y dy, ρ y = some (.own dy) → ¬ NameVal env s.heap y (.ref a))
    (k : ∀ h' tk c, Heap.SameBut c s.heap h' → (c = env.locals ∨ ∃ y, env.cells.lookup y = some c) → Fs w env h0 q0 (upd ρ x (.own ds)) h' q → Q () { s with heap := h', toks := tk }) : wpAny M A (storeName env x (.ref a)) Q E s := by
  refine store_gen F hx fun h' tk c hs hcw c0 cq loc hcl nx ny nc => k h' tk c hs hcw (F.write hs c0 cq loc hcl (fun y d' e => ?_) (fun y es e => ?_) fun y z dy dz b ey ez ny' nz' => ?_)
  · by_cases hy : y = x
    · subst hy; simp only [upd, if_pos] at e; cases e
    · simp only [upd, if_neg hy] at e
      obtain ⟨u, nu, ru⟩ := F.ctx.pers y d' e
      exact ⟨u, ny y u hy nu, ru⟩
  · by_cases hy : y = x
    · subst hy; simp only [upd, if_pos] at e; cases e
      exact ⟨a, vs, n, nx, (hs.2 a (nc a _ _ _ ho rfl)).trans ho, r, hq, ha⟩
    · simp only [upd, if_neg hy] at e
      obtain ⟨a, vs, n, nu, ho, rl, hq⟩ := F.ctx.owns y es e
      exact ⟨a, vs, n, ny y _ hy nu, (hs.2 a (nc a _ _ _ ho rfl)).trans ho, rl, hq, F.ownsNew y es a e nu⟩
  · have old : ∀ u du, u ≠ x → ρ u = some (.own du) → NameVal env h' u (.ref b) → NameVal env s.heap u (.ref b) := fun u du hu eu nu => by
      obtain ⟨a1, _, _, n1, _⟩ := F.ctx.owns u du eu
      have e1 := (ny u _ hu n1).fun nu
      cases e1
      exact n1
    by_cases hy : y = x
    · by_cases hz : z = x
      · rw [hy, hz]
      · simp only [upd, if_neg hz] at ez
        subst hy
        have := nx.fun ny'
        cases this
        exact absurd (old z dz hz ez nz') (hnew z dz ez)
    · simp only [upd, if_neg hy] at ey
      by_cases hz : z = x
      · subst hz
        have := nx.fun nz'
        cases this
        exact absurd (old y dy hy ey ny') (hnew y dy ey)
      · simp only [upd, if_neg hz] at ez
        exact F.ownsApart y z dy dz _ ey ez (old y dy hy ey ny') (old z dz hz ez nz')

/-- an owned list becomes a pure one -/
theorem Fs.freeze {w : World} {env : Env} {h0 h : Heap} {q0 q : Gh} {ρ : Rho} {x : Str} {ds : List PV} (F : Fs w env h0 q0 ρ h q) (hx : ρ x = some (.own ds)) :
    ∃ q', Fs w env h0 q0 (upd ρ x (.pers (.list ds))) h q' ∧ (∀ b o, q b = some o → q' b = some o) := by
  obtain ⟨a, vs, n, nv, ho, r, hq⟩ := F.ctx.owns x ds hx
  have le := put_le (o := listOf vs.toArray n) hq
  have ha := F.ownsNew x ds a hx nv
  have sub : ∀ b o, put q a (listOf vs.toArray n) b = some o → h.get? b = some o := fun b o e => by
    by_cases hb : b = a
    · subst hb; rw [put_self] at e; cases e; exact ho
    · rw [put_ne hb] at e; exact F.ctx.sub b o e
  refine ⟨put q a (listOf vs.toArray n), ?_, le⟩
  exact {
    K0 := F.K0
    top0 := F.top0
    ctx := ⟨F.ctx.K, F.ctx.top, sub, F.ctx.kind, F.ctx.globals, F.ctx.builtins, fun y d e => by
        by_cases hy : y = x
        · subst hy; simp only [upd, if_pos] at e; cases e; exact ⟨_, nv, .list put_self (r.mono le)⟩
        · simp only [upd, if_neg hy] at e
          obtain ⟨u, nu, ru⟩ := F.ctx.pers y d e
          exact ⟨u, nu, ru.mono le⟩, fun y es e => by
        by_cases hy : y = x
        · subst hy; simp only [upd, if_pos] at e; cases e
        · simp only [upd, if_neg hy] at e
          obtain ⟨b, us, k, nu, po, rl, hb⟩ := F.ctx.owns y es e
          refine ⟨b, us, k, nu, po, rl.mono le, ?_⟩
          rw [put_ne]
          · exact hb
          · rintro rfl; exact hy (F.ownsApart y x es ds b e hx nu nv)⟩
    g := ⟨F.g.keep, fun b o e => le b o (F.g.le b o e), sub, fun b o e => by
      by_cases hb : b = a
      · subst hb; exact .inr ha
      · rw [put_ne hb] at e; exact F.g.fresh b o e⟩
    loc := F.loc
    locNew := F.locNew
    locGh := by
      rw [put_ne]
      · exact F.locGh
      · intro e
        obtain ⟨m, o, es, ep, ho', hd, _⟩ := F.loc
        rw [e, ho] at ho'; cases ho'; cases hd
    cells := fun y c e => by
      obtain ⟨⟨v, o, ho', hd⟩, b, d⟩ := F.cells y c e
      refine ⟨⟨v, o, ho', hd⟩, b, ?_⟩
      rw [put_ne]
      · exact d
      · intro z; rw [z, ho] at ho'; cases ho'; cases hd
    apart := F.apart
    ownsNew := fun y es b e nu => by
      by_cases hy : y = x
      · subst hy; simp only [upd, if_pos] at e; cases e
      · simp only [upd, if_neg hy] at e; exact F.ownsNew y es b e nu
    ownsApart := fun y z dy dz b ey ez ny nz => by
      by_cases hy : y = x
      · subst hy; simp only [upd, if_pos] at ey; cases ey
      · by_cases hz : z = x
        · subst hz; simp only [upd, if_pos] at ez; cases ez
        · simp only [upd, if_neg hy] at ey
          simp only [upd, if_neg hz] at ez
          exact F.ownsApart y z dy dz b ey ez ny nz }

/-! # Statements -/
inductive Out where
  | next (ρ : Rho)
  | ret (d : PV)
noncomputable def Post (w : World) (env : Env) (h0 : Heap) (q0 : Gh) (out : Out) (f : Flow) (h' : Heap) (q' : Gh) : Prop := match out with
  | .next ρ' => f = .next ∧ Fs w env h0 q0 ρ' h' q'
  | .ret d => ∃ v, f = .ret v ∧ Rep q' v d ∧ Grow h0 q0 h' q'
section
variable (w : World) (n : Nat) (env : Env) (ρ : Rho)
structure X (st : Stmt) (out : Out) : Prop where
  run : ∀ A s q h0 q0 E Q, Room n A → Fs w env h0 q0 ρ s.heap q →
  (∀ h' tk q' f, Post w env h0 q0 out f h' q' → Q f { s with heap := h', toks := tk }) → wpAny (model pw w) A (exec st env) Q E s
structure XS (ss : List Stmt) (out : Out) : Prop where
  run : ∀ A s q h0 q0 E Q, Room n A → Fs w env h0 q0 ρ s.heap q →
  (∀ h' tk q' f, Post w env h0 q0 out f h' q' → Q f { s with heap := h', toks := tk }) → wpAny (model pw w) A (execs ss env) Q E s
end
section
variable {w : World} {n : Nat} {env : Env} {ρ ρ' : Rho} {out : Out}
theorem xs_nil : XS w n env ρ [] (.next ρ) := ⟨fun A s q h0 q0 E Q R F k => wpAny_execs_nil (k s.heap s.toks q _ ⟨rfl, F⟩)⟩
theorem xs_cons {st : Stmt} {rest : List Stmt} (h : X w n env ρ st (.next ρ')) (hr : XS w n env ρ' rest out) : XS w n env ρ (st :: rest) out := by
  refine ⟨fun A s q h0 q0 E Q R F k => ?_⟩
  refine wpAny_execs_cons (h.run A s q h0 q0 E _ R F fun h' tk q' f p => ?_)
  obtain ⟨rfl, F'⟩ := p
  exact hr.run A _ q' h0 q0 E Q R F' k
theorem xs_ret {st : Stmt} {rest : List Stmt} {d : PV} (h : X w n env ρ st (.ret d)) : XS w n env ρ (st :: rest) (.ret d) := by
  refine ⟨fun A s q h0 q0 E Q R F k => ?_⟩
  refine wpAny_execs_cons (h.run A s q h0 q0 E _ R F fun h' tk q' f p => ?_)
  obtain ⟨v, rfl, p⟩ := p
  exact k h' tk q' _ ⟨v, rfl, p⟩
theorem xs_one {st : Stmt} (h : X w n env ρ st out) : XS w n env ρ [st] out := by
  refine ⟨fun A s q h0 q0 E Q R F k => ?_⟩
  refine wpAny_execs_cons (h.run A s q h0 q0 E _ R F fun h' tk q' f p => ?_)
  cases out with
  | next r => obtain ⟨rfl, F'⟩ := p; exact wpAny_execs_nil (k h' tk q' _ ⟨rfl, F'⟩)
  | ret d => obtain ⟨v, rfl, p⟩ := p; exact k h' tk q' _ ⟨v, rfl, p⟩
theorem xs_freeze {ss : List Stmt} {x : Str} {ds : List PV} (hx : ρ x = some (.own ds)) (h : XS w n env (upd ρ x (.pers (.list ds))) ss out) : XS w n env ρ ss out := by
  refine ⟨fun A s q h0 q0 E Q R F k => ?_⟩
  obtain ⟨q', F', _⟩ := F.freeze hx
  exact h.run A s q' h0 q0 E Q R F' k
theorem x_assign {x : Str} {p pos : Pos} {e : Expr} {d : PV} (he : EV w n env ρ e d) (hx : canStore env x = true) (hs : swapsWith e (some (.Name x p)) pos.line env = pure false := by rfl) :
    X w n env ρ (.Assign [.Name x p] e pos) (.next (upd ρ x (.pers d))) := by
  refine ⟨fun A s q h0 q0 E Q R F k => ?_⟩
  refine wpAny_Assign_Name (he.run A s q E _ R F.ctx fun h1 t1 q1 v g1 r1 => ?_) hs
  exact store_pers (s := { s with heap := h1, toks := t1 }) (F.grow g1) hx r1 fun h2 t2 F2 => k h2 t2 q1 _ ⟨rfl, F2⟩
theorem x_if {t : Expr} {body orelse : List Stmt} {pos : Pos} {b : Bool} (ht : TV w n env ρ t b) (h : XS w n env ρ (if b then body else orelse) out) : X w n env ρ (.If t body orelse pos) out := by
  refine ⟨fun A s q h0 q0 E Q R F k => ?_⟩
  refine wpAny_If (ht.run A s q E _ R F.ctx fun h1 t1 q1 g1 => ?_)
  cases b with
  | true => exact h.run A _ q1 h0 q0 E Q R (F.grow g1) k
  | false => exact h.run A _ q1 h0 q0 E Q R (F.grow g1) k
theorem x_return {e : Expr} {pos : Pos} {d : PV} (he : EV w n env ρ e d) : X w n env ρ (.Return (some e) pos) (.ret d) := by
  refine ⟨fun A s q h0 q0 E Q R F k => ?_⟩
  exact wpAny_Return_some (he.run A s q E _ R F.ctx fun h1 t1 q1 v g1 r1 => k h1 t1 q1 _ ⟨v, rfl, r1, F.g.trans g1⟩)
end

/-! # Calls of the text's own functions -/
structure Bs (w : World) (h : Heap) (q : Gh) : Prop where
  K : (K w.params).In h
  top : ∃ mg mb, TopRead qv (looseW qv loose) mg mb h
  sub : ∀ b o, q b = some o → h.get? b = some o
theorem Ctx.bs {w : World} {env : Env} {ρ : Rho} {h : Heap} {q : Gh} (C : Ctx w env ρ h q) : Bs w h q := ⟨C.K, C.top, C.sub⟩
theorem Bs.grow {w : World} {h h' : Heap} {q q' : Gh} (B : Bs w h q) (g : Grow h q h' q') : Bs w h' q' := ⟨B.K.keeps g.keep, let ⟨mg, mb, t⟩ := B.top; ⟨mg, mb, t.keeps g.keep⟩, g.sub⟩

/-- calling f on values that stand for args gives d -/
structure FN (w : World) (n : Nat) (f : Value) (args : List PV) (kw : List (Str × PV)) (d : PV) : Prop where
  run : ∀ A s q E Q vs ks, Room n A → Bs w s.heap q → RepL q vs args → RepL q (ks.map (·.2)) (kw.map (·.2)) → ks.map (·.1) = kw.map (·.1) →
  (∀ h' tk q' v, Grow s.heap q h' q' → Rep q' v d → Q v { s with heap := h', toks := tk }) → wpAny (model pw w) A (call f vs ks) Q E s

end Mine

/-! ## P3 -/
namespace Mine

theorem bindL_skip (kd : Str → Option NameKind) : ∀ (b : List (Str × Value)) (m : Str → Option Value) (x : Str), x ∉ b.map (·.1) → bindL kd b m x = m x
  | [], _, _, _ => rfl
  | (n, v) :: r, m, x, h => by
    simp only [List.map_cons, List.mem_cons, not_or] at h
    unfold bindL
    rw [bindL_skip kd r _ x h.2]
    split
    · exact if_neg h.1
    · rfl
theorem bindC_skip (kd : Str → Option NameKind) : ∀ (b : List (Str × Value)) (m : Str → Option Value) (x : Str), x ∉ b.map (·.1) → bindC kd b m x = m x
  | [], _, _, _ => rfl
  | (n, v) :: r, m, x, h => by
    simp only [List.map_cons, List.mem_cons, not_or] at h
    unfold bindC
    rw [bindC_skip kd r _ x h.2]
    split
    · rfl
    · exact if_neg h.1
theorem bindL_at (kd : Str → Option NameKind) : ∀ (b : List (Str × Value)) (m : Str → Option Value) (x : Str) (v : Value), (b.map (·.1)).Nodup → kd x = some .local → b.lookup x = some v → bindL kd b m x = some v
  | [], _, _, _, _, _, h => by cases h
  | (n, u) :: r, m, x, v, nd, hk, h => by
    simp only [List.map_cons, List.nodup_cons] at nd
    unfold bindL
    by_cases e : x = n
    · subst e
      rw [List.lookup_cons, beq_self_eq_true] at h
      rw [bindL_skip kd r _ x nd.1, if_pos hk, if_pos rfl]
      exact h
    · rw [List.lookup_cons, show (x == n) = false from beq_eq_false_iff_ne.mpr e] at h
      exact bindL_at kd r _ x v nd.2 hk h
theorem bindC_at (kd : Str → Option NameKind) : ∀ (b : List (Str × Value)) (m : Str → Option Value) (x : Str) (v : Value), (b.map (·.1)).Nodup → kd x = some .cell → b.lookup x = some v → bindC kd b m x = some v
  | [], _, _, _, _, _, h => by cases h
  | (n, u) :: r, m, x, v, nd, hk, h => by
    simp only [List.map_cons, List.nodup_cons] at nd
    unfold bindC
    by_cases e : x = n
    · subst e
      rw [List.lookup_cons, beq_self_eq_true] at h
      rw [bindC_skip kd r _ x nd.1, if_neg (by rw [hk]; decide), if_pos rfl]
      exact h
    · rw [List.lookup_cons, show (x == n) = false from beq_eq_false_iff_ne.mpr e] at h
      exact bindC_at kd r _ x v nd.2 hk h

/-- binds stands for the names and their pure values -/
inductive RepB (q : Gh) : List (Str × Value) → List (Str × PV) → Prop
  | nil : RepB q [] []
  | cons {x : Str} {v : Value} {d : PV} {bs : List (Str × Value)} {ps : List (Str × PV)} (h : Rep q v d) (r : RepB q bs ps) : RepB q ((x, v) :: bs) ((x, d) :: ps)
theorem RepB.names {q : Gh} : ∀ {bs ps}, RepB q bs ps → bs.map (·.1) = ps.map (·.1)
  | _, _, .nil => rfl
  | _, _, .cons _ r => by simp only [List.map_cons, RepB.names r]
theorem RepB.lookup {q : Gh} : ∀ {bs ps}, RepB q bs ps → ∀ {x d}, ps.lookup x = some d → ∃ v, bs.lookup x = some v ∧ Rep q v d
  | _, _, .nil, x, d, e => by cases e
  | _, _, .cons (x := y) h r, x, d, e => by
    rw [List.lookup_cons] at e ⊢
    cases hb : x == y with
    | true => rw [hb] at e; cases e; exact ⟨_, rfl, h⟩
    | false => rw [hb] at e; exact RepB.lookup r e

noncomputable def rho0 (ps : List (Str × PV)) : Rho := fun x => (ps.lookup x).map .pers
noncomputable def Out.val : Out → PV
  | .ret d => d
  | .next _ => .none

noncomputable abbrev fEnv (qual : Str) (scope : Scope) (f : Addr) (cdv : Value) (L : Addr) : Env := envX qual scope L f cdv (cellsFrom (L + 1) scope.names [])

theorem codeAny_own {w : World} {n : Nat} {A : Around} {R : Result → Shared → Prop} {s : Shared} {q q0 : Gh} {h0 : Heap} {name qual : Str} {params : Arguments} {body : List Stmt} {scope : Scope} {dV kV doc pm cdv ct oc : Value} {an od : Option Addr} {osl : Array (Option Value)} {f : Addr} {args : Args}
    {binds : List (Str × Value)} {ps : List (Str × PV)} {out : Out}
    (ho : (K w.params).lookup f = some ⟨oc, od, .func (fnOf name qual params body scope dV kV doc pm an cdv ct), osl⟩) (hcd : codeIn (K w.params) cdv qual = true)
    (hbind : BindsTo s (fnOf name qual params body scope dV kV doc pm an cdv ct) args binds) (hrep : RepB q binds ps)
    (hkind : (ps.all fun y => scope.names.lookup y.1 == some .local || scope.names.lookup y.1 == some .cell) = true) (hnd : (ps.map (·.1)).Nodup)
    (hco : scope.isCoroutine = false) (hgen : scope.isGenerator = false) (hk : scope.kind = .function)
    (room : Room (n + 1) A) (B : Bs w s.heap q) (B0 : Bs w h0 q0) (g : Grow h0 q0 s.heap q)
    (body_ : ∀ L, XS w n (fEnv qual scope f cdv L) (rho0 ps) body out)
    (h : ∀ h' tk q' v, Grow h0 q0 h' q' → Rep q' v out.val → R (.ok (.ret v)) { s with heap := h', toks := tk }) : codeAny (model pw w) A (.call (.ref f) args) R s := by
  obtain ⟨mg, mb, T⟩ := B.top
  have hkind' : (binds.all fun y => scope.names.lookup y.1 == some .local || scope.names.lookup y.1 == some .cell) = true := by
    have e := hrep.names
    have : (binds.map (·.1)).all (fun y => scope.names.lookup y == some .local || scope.names.lookup y == some .cell) = true := by
      rw [e, List.all_map]; exact hkind
    rw [List.all_map] at this; exact this
  refine codeAny_call_function (fd := fnOf name qual params body scope dV kV doc pm an cdv ct) (by have := room.depth; show A.depth < 1000; omega) (B.K _ _ ho) rfl hco hgen rfl (codeRec_of B.K hcd) (hbind _ _ _ _ ?_)
  refine wpAny_newFunctionEnv_cells hk (kindsX hkind' _) fun env' he s' x => ?_
  obtain ⟨h₁, tk, rfl, k₁⟩ := x.done
  have hE : env' = fEnv qual scope f cdv s.heap.objs.size := he
  subst hE
  refine ⟨T.nolimit.keeps k₁, codeAny_func ?_⟩
  have hLn : s.heap.get? s.heap.objs.size = none := get_size_none _
  have none0 : ∀ b, s.heap.get? b = none → h0.get? b = none ∧ q b = none := fun b e => by
    constructor
    · cases z : h0.get? b with
      | none => rfl
      | some o => rw [g.keep _ _ z] at e; cases e
    · cases z : q b with
      | none => rfl
      | some o => rw [B.sub _ _ z] at e; cases e
  have above : ∀ c, s.heap.objs.size ≤ c → s.heap.get? c = none := fun c hc => by
    cases z : s.heap.get? c with
    | none => rfl
    | some o => exact absurd (Heap.lt_size z) (Nat.not_lt.mpr hc)
  have nd : (binds.map (·.1)).Nodup := by rw [hrep.names]; exact hnd
  have F : Fs w (fEnv qual scope f cdv s.heap.objs.size) h0 q0 (rho0 ps) h₁ q := {
    K0 := B0.K
    top0 := B0.top
    ctx := {
      K := B.K.keeps k₁
      top := let ⟨mg, mb, t⟩ := B.top; ⟨mg, mb, t.keeps k₁⟩
      sub := fun b o e => k₁ _ _ (B.sub b o e)
      kind := hk
      globals := rfl
      builtins := rfl
      pers := fun y d e => by
        have e' : ps.lookup y = some d := by
          unfold rho0 at e
          cases z : ps.lookup y with
          | none => rw [z] at e; cases e
          | some d' => rw [z] at e; cases e; rfl
        obtain ⟨v, hv, r⟩ := hrep.lookup e'
        have hm := mem_of_lookup hv
        refine ⟨v, ?_, r⟩
        rcases kindsX hkind' (s.heap.objs.size + 1) _ hm with hl | ⟨hc, hs⟩
        · exact .loc hl x.toInCall.ns (bindL_at _ _ _ _ _ nd hl hv)
        · obtain ⟨c, hc'⟩ := Option.isSome_iff_exists.mp hs
          refine .cell hc hc' ?_
          have := x.cell y c hc'
          rw [bindC_at _ _ _ _ _ nd hc hv] at this
          exact this
      owns := fun y ds e => by
        unfold rho0 at e
        cases z : ps.lookup y with
        | none => rw [z] at e; cases e
        | some d' => rw [z] at e; cases e }
    g := ⟨fun b o e => k₁ _ _ (g.keep b o e), g.le, fun b o e => k₁ _ _ (B.sub b o e), g.fresh⟩
    loc := ⟨_, x.toInCall.ns⟩
    locNew := (none0 _ hLn).1
    locGh := (none0 _ hLn).2
    cells := fun y c e => ⟨⟨_, x.cell y c e⟩, none0 c (above c (Nat.le_of_lt (x.above y c (mem_of_lookup e))))⟩
    apart := x.apart
    ownsNew := fun y ds a e => by
      unfold rho0 at e
      cases z : ps.lookup y with
      | none => rw [z] at e; cases e
      | some d' => rw [z] at e; cases e
    ownsApart := fun y z dy dz a e => by
      unfold rho0 at e
      cases z : ps.lookup y with
      | none => rw [z] at e; cases e
      | some d' => rw [z] at e; cases e }
  refine (body_ s.heap.objs.size).run _ { s with heap := h₁, toks := tk } q h0 q0 _ _ room.deeper F fun h' tk' q' fl p => ?_
  cases out with
  | next r =>
    obtain ⟨rfl, F'⟩ := p
    exact h h' tk' q' .none F'.g .none
  | ret d =>
    obtain ⟨v, rfl, r, g'⟩ := p
    exact h h' tk' q' v g' r

/-- a def of the text on values: its body's judgement is its own -/
theorem fn_intro {w : World} {n : Nat} {name qual : Str} {params : Arguments} {body : List Stmt} {scope : Scope} {dV kV doc pm cdv ct oc : Value} {an od : Option Addr} {osl : Array (Option Value)} {f : Addr} {args : List PV}
    {ps : List (Str × PV)} {out : Out} {d : PV}
    (ho : (K w.params).lookup f = some ⟨oc, od, .func (fnOf name qual params body scope dV kV doc pm an cdv ct), osl⟩) (hcd : codeIn (K w.params) cdv qual = true)
    (hbind : ∀ (s : Shared) (q : Gh) (vs : List Value), Bs w s.heap q → RepL q vs args → ∃ binds, BindsTo s (fnOf name qual params body scope dV kV doc pm an cdv ct) ⟨vs, []⟩ binds ∧ RepB q binds ps)
    (names : List Str) (hkind : (names.all fun y => scope.names.lookup y == some .local || scope.names.lookup y == some .cell) = true) (hnd : decide names.Nodup = true)
    (hco : scope.isCoroutine = false) (hgen : scope.isGenerator = false) (hk : scope.kind = .function)
    (body_ : ∀ L, XS w n (fEnv qual scope f cdv L) (rho0 ps) body out) (hd : out.val = d) (hps : ps.map (·.1) = names := by rfl) : FN w (n + 1) (.ref f) args [] d := by
  have hkind : (ps.all fun y => scope.names.lookup y.1 == some .local || scope.names.lookup y.1 == some .cell) = true := by
    rw [← hps, List.all_map] at hkind; exact hkind
  have hnd : (ps.map (·.1)).Nodup := by rw [hps]; exact of_decide_eq_true hnd
  refine ⟨fun A s q E Q vs ks R B r rk hks k => ?_⟩
  have : ks = [] := by cases ks with | nil => rfl | cons a b => cases hks
  subst this
  obtain ⟨binds, hb, hr⟩ := hbind s q vs B r
  subst hd
  exact wpAny_call (codeAny_own ho hcd hb hr hkind hnd hco hgen hk R B B (Grow.refl B.sub) body_ fun h' tk q' v g rv => k h' tk q' v g rv)

section
variable {w : World} {n : Nat} {env : Env} {ρ : Rho}
theorem ev_global {x : Str} {pos : Pos} {v : Value} (e : nsIn (K w.params) mainGlobals x = some (some v)) (hx : env.kindOf x = some .globalImplicit) (hd : (x == ("__debug__" : Str)) = false := by decide) :
    EV w n env ρ (.Name x pos) (.raw v) := by
  refine ⟨fun A s q E Q R C k => ?_⟩
  obtain ⟨mg, mb, T⟩ := C.top
  exact Name_function_global C.kind hx (loadGlobal_global (env := env) (by rw [C.globals]; exact T.g) (mg_of C.K T.g e) (k s.heap s.toks q v (.refl C.sub) (.raw v))) hd
theorem ev_global_int {x : Str} {pos : Pos} {i : Int} {t : Tok} (e : nsIn (K w.params) mainGlobals x = some (some (.int i t))) (hx : env.kindOf x = some .globalImplicit) (hd : (x == ("__debug__" : Str)) = false := by decide) :
    EV w n env ρ (.Name x pos) (.int i) := by
  refine ⟨fun A s q E Q R C k => ?_⟩
  obtain ⟨mg, mb, T⟩ := C.top
  exact Name_function_global C.kind hx (loadGlobal_global (env := env) (by rw [C.globals]; exact T.g) (mg_of C.K T.g e) (k s.heap s.toks q _ (.refl C.sub) (.int i t))) hd
theorem ev_builtin {x : Str} {pos : Pos} {v : Value} (e : nsIn (K w.params) mainGlobals x = some none) (hv : bootBuiltins x = some v) (hn : x ≠ "__name__") (hx : env.kindOf x = some .globalImplicit) (hd : (x == ("__debug__" : Str)) = false := by decide) :
    EV w n env ρ (.Name x pos) (.raw v) := by
  refine ⟨fun A s q E Q R C k => ?_⟩
  obtain ⟨mg, mb, T⟩ := C.top
  exact Name_function_global C.kind hx (loadGlobal_builtin (env := env) (by rw [C.globals]; exact T.g) (mg_none_of C.K T.g e) (by rw [C.builtins]; exact T.b) ((T.builtins x hn).trans hv) (k s.heap s.toks q _ (.refl C.sub) (.raw v))) hd
end
section
variable (w : World) (n : Nat) (env : Env) (ρ : Rho)
structure EVs (es : List Expr) (ds : List PV) : Prop where
  run : ∀ pos A s q E Q, Room n A → Ctx w env ρ s.heap q →
  (∀ h' tk q' vs, Grow s.heap q h' q' → RepL q' vs ds → Q vs { s with heap := h', toks := tk }) → wpAny (model pw w) A (spliced (backTo pos (starEach es env))) Q E s
end
section
variable {w : World} {n : Nat} {env : Env} {ρ : Rho}
theorem evs_nil : EVs w n env ρ [] [] := ⟨fun pos A s q E Q R C k => wpAny_items_nil (k s.heap s.toks q [] (.refl C.sub) .nil)⟩
theorem evs_cons {e : Expr} {rest : List Expr} {d : PV} {ds : List PV} (he : EV w n env ρ e d) (hr : EVs w n env ρ rest ds) (hs : starEach (e :: rest) env = (false, eval e env) :: starEach rest env := by rfl) :
    EVs w n env ρ (e :: rest) (d :: ds) := by
  refine ⟨fun pos A s q E Q R C k => ?_⟩
  refine wpAny_items_cons (he.run A s q E _ R C fun h1 t1 q1 v g1 r1 => ?_) hs
  exact hr.run pos A _ q1 E _ R (C.grow g1) fun h2 t2 q2 vs g2 r2 => k h2 t2 q2 (v :: vs) (g1.trans g2) (.cons (r1.mono g2.le) r2)
/-- a call of a def or class of the text by its name -/
theorem ev_call {g : Str} {p pos : Pos} {e : Expr} {rest : List Expr} {f : Value} {ds : List PV} {d : PV} (hg : EV w n env ρ (.Name g p) (.raw f)) (ha : EVs w n env ρ (e :: rest) ds) (hf : FN w n f ds [] d)
    (hk : keepIn (K w.params) f = true) (he : starEach (e :: rest) env = (false, eval e env) :: starEach rest env := by rfl) (hplain : (backTo pos (starEach rest env)).any (·.1) = false := by rfl) :
    EV w n env ρ (.Call (.Name g p) (e :: rest) [] pos) d := by
  refine ⟨fun A s q E Q R C k => ?_⟩
  refine wpAny_Call_NameR (hg.run A s q E _ R C fun h1 t1 q1 v g1 r1 => ?_)
  cases r1
  refine callWith_K (C.grow g1).K hk (ha.run pos A _ q1 E _ R (C.grow g1) fun h2 t2 q2 vs g2 r2 => ⟨((C.grow g1).grow g2).K, ?_⟩) he hplain
  exact hf.run A _ q2 E _ vs [] R ((C.grow g1).grow g2).bs r2 .nil rfl fun h3 t3 q3 v g3 r3 => k h3 t3 q3 v (g1.trans (g2.trans g3)) r3
/-- a call of a built-in function or a type by its name -/
theorem ev_callB {g : Str} {p pos : Pos} {id : String} {e : Expr} {rest : List Expr} {ds : List PV} {d : PV} (hg : EV w n env ρ (.Name g p) (.raw (.builtin id))) (ha : EVs w n env ρ (e :: rest) ds) (hf : FN w n (.builtin id) ds [] d)
    (he : starEach (e :: rest) env = (false, eval e env) :: starEach rest env := by rfl) (hplain : (backTo pos (starEach rest env)).any (·.1) = false := by rfl) :
    EV w n env ρ (.Call (.Name g p) (e :: rest) [] pos) d := by
  refine ⟨fun A s q E Q R C k => ?_⟩
  refine wpAny_Call_NameR (hg.run A s q E _ R C fun h1 t1 q1 v g1 r1 => ?_)
  cases r1
  refine PyProof.Rows.callWith_builtin1 (ha.run pos A _ q1 E _ R (C.grow g1) fun h2 t2 q2 vs g2 r2 => ?_) he hplain
  exact hf.run A _ q2 E _ vs [] R ((C.grow g1).grow g2).bs r2 .nil rfl fun h3 t3 q3 v g3 r3 => k h3 t3 q3 v (g1.trans (g2.trans g3)) r3
theorem ev_callT {g : Str} {p pos : Pos} {T : String} {e : Expr} {rest : List Expr} {ds : List PV} {d : PV} (hg : EV w n env ρ (.Name g p) (.raw (.type T))) (ha : EVs w n env ρ (e :: rest) ds) (hf : FN w n (.type T) ds [] d)
    (he : starEach (e :: rest) env = (false, eval e env) :: starEach rest env := by rfl) (hplain : (backTo pos (starEach rest env)).any (·.1) = false := by rfl) :
    EV w n env ρ (.Call (.Name g p) (e :: rest) [] pos) d := by
  refine ⟨fun A s q E Q R C k => ?_⟩
  refine wpAny_Call_NameR (hg.run A s q E _ R C fun h1 t1 q1 v g1 r1 => ?_)
  cases r1
  refine PyProof.Rows.callWith_type1 (ha.run pos A _ q1 E _ R (C.grow g1) fun h2 t2 q2 vs g2 r2 => ?_) he hplain
  exact hf.run A _ q2 E _ vs [] R ((C.grow g1).grow g2).bs r2 .nil rfl fun h3 t3 q3 v g3 r3 => k h3 t3 q3 v (g1.trans (g2.trans g3)) r3
end
end Mine

/-! ## P4 -/
namespace Mine
structure Truth (w : World) (n : Nat) (a : PV) (b : Bool) : Prop where
  run : ∀ A s q E Q va, Room n A → Bs w s.heap q → Rep q va a →
  (∀ h' tk q', Grow s.heap q h' q' → Q b { s with heap := h', toks := tk }) → wpAny (model pw w) A (truthy va) Q E s
theorem isList_of {h : Heap} {a : Addr} {vs : List Value} {n : Nat} (e : h.get? a = some (listOf vs.toArray n)) : h.IsList a vs.toArray := ⟨_, e, rfl, n, rfl⟩
section
variable {w : World} {n : Nat} {env : Env} {ρ : Rho}
theorem truth_bool {b : Bool} : Truth w n (.bool b) b := ⟨fun A s q E Q va R B r k => by cases r; exact wpAny_truthy_bool (k s.heap s.toks q (.refl B.sub))⟩
theorem truth_int {i : Int} : Truth w n (.int i) (i != 0) := ⟨fun A s q E Q va R B r k => by cases r; exact PyProof.Rows.truthy_int (k s.heap s.toks q (.refl B.sub))⟩
theorem truth_list {ds : List PV} (hl : ds.length < 2 ^ 62) : Truth w n (.list ds) (!ds.isEmpty) := by
  refine ⟨fun A s q E Q va R B r k => ?_⟩
  cases r with
  | @list a vs ds m h r =>
    refine wpAny_truthy_list (isList_of (B.sub _ _ h)) (by rw [List.size_toArray, r.length]; omega) ?_
    have e : (List.toArray vs).isEmpty = ds.isEmpty := by
      rw [List.isEmpty_toArray]
      cases r <;> rfl
    rw [e]
    exact k s.heap _ q (.refl B.sub)
theorem tv_plain {e : Expr} {d : PV} {b : Bool} (he : EV w n env ρ e d) (ht : Truth w n d b) (hp : ∀ whole, isTrue e env whole = (do let v ← whole; standAt e.pos; holding [v] (truthy v)) := by intro _; rfl) : TV w n env ρ e b := by
  refine ⟨fun A s q E Q R C k => ?_⟩
  refine isTrue_plain (he.run A s q E _ R C fun h1 t1 q1 v g1 r1 => ?_) (hp _)
  exact ht.run A _ q1 E _ v R (C.grow g1).bs r1 fun h2 t2 q2 g2 => k h2 t2 q2 (g1.trans g2)
theorem tv_cmp {l r : Expr} {op : CmpOp} {pos : Pos} {a b : PV} {c : Bool} (hl : EV w n env ρ l a) (hr : EV w n env ρ r b) (ho : Gives2 w n (compareOp op) a b (.bool c)) (hm : behindInMarks op r = false := by with_unfolding_all rfl) : TV w n env ρ (.Compare l [op] [r] pos) c := by
  refine ⟨fun A s q E Q R C k => ?_⟩
  refine wpAny_isTrue_Compare1 (hl.run A s q E _ R C fun h1 t1 q1 va g1 r1 => ?_) hm
  refine hr.run A _ q1 E _ R (C.grow g1) fun h2 t2 q2 vb g2 r2 => ?_
  refine ho.run A _ q2 E _ va vb R g2.sub (r1.mono g2.le) r2 fun h3 t3 q3 v g3 r3 => ?_
  cases r3
  exact wpAny_truthy_bool (k h3 t3 q3 (g1.trans (g2.trans g3)))
theorem ev_cmp {l r : Expr} {op : CmpOp} {pos : Pos} {a b d : PV} (hl : EV w n env ρ l a) (hr : EV w n env ρ r b) (ho : Gives2 w n (compareOp op) a b d) (hm : behindInMarks op r = false := by with_unfolding_all rfl) : EV w n env ρ (.Compare l [op] [r] pos) d := by
  refine ⟨fun A s q E Q R C k => ?_⟩
  refine wpAny_Compare1 (hl.run A s q E _ R C fun h1 t1 q1 va g1 r1 => ?_) hm
  refine hr.run A _ q1 E _ R (C.grow g1) fun h2 t2 q2 vb g2 r2 => ?_
  exact ho.run A _ q2 E _ va vb R g2.sub (r1.mono g2.le) r2 fun h3 t3 q3 v g3 r3 => k h3 t3 q3 v (g1.trans (g2.trans g3)) r3
theorem tv_not {x : Expr} {pos : Pos} {b : Bool} (h : TV w n env ρ x b) : TV w n env ρ (.UnaryOp .Not x pos) (!b) := ⟨fun A s q E Q R C k => wpAny_isTrue_Not (h.run A s q E _ R C k)⟩
theorem tv_and_nil {pos : Pos} : TV w n env ρ (.BoolOp .And [] pos) true := ⟨fun A s q E Q R C k => isTrue_and_nil (k s.heap s.toks q (.refl C.sub))⟩
theorem tv_or_nil {pos : Pos} : TV w n env ρ (.BoolOp .Or [] pos) false := ⟨fun A s q E Q R C k => isTrue_or_nil (k s.heap s.toks q (.refl C.sub))⟩
theorem tv_and {x : Expr} {rest : List Expr} {pos : Pos} {b c : Bool} (hx : TV w n env ρ x b) (hr : b = true → TV w n env ρ (.BoolOp .And rest pos) c) : TV w n env ρ (.BoolOp .And (x :: rest) pos) (b && c) := by
  refine ⟨fun A s q E Q R C k => ?_⟩
  refine isTrue_and (hx.run A s q E _ R C fun h1 t1 q1 g1 => ?_)
  cases b with
  | true => exact (hr rfl).run A _ q1 E _ R (C.grow g1) fun h2 t2 q2 g2 => k h2 t2 q2 (g1.trans g2)
  | false => exact k h1 t1 q1 g1
theorem tv_or {x : Expr} {rest : List Expr} {pos : Pos} {b c : Bool} (hx : TV w n env ρ x b) (hr : b = false → TV w n env ρ (.BoolOp .Or rest pos) c) : TV w n env ρ (.BoolOp .Or (x :: rest) pos) (b || c) := by
  refine ⟨fun A s q E Q R C k => ?_⟩
  refine isTrue_or (hx.run A s q E _ R C fun h1 t1 q1 g1 => ?_)
  cases b with
  | true => exact k h1 t1 q1 g1
  | false => exact (hr rfl).run A _ q1 E _ R (C.grow g1) fun h2 t2 q2 g2 => k h2 t2 q2 (g1.trans g2)
theorem ev_if {t b o : Expr} {pos : Pos} {c : Bool} {d : PV} (ht : TV w n env ρ t c) (h : EV w n env ρ (if c then b else o) d) : EV w n env ρ (.IfExp t b o pos) d := by
  refine ⟨fun A s q E Q R C k => ?_⟩
  refine wpAny_IfExp (ht.run A s q E _ R C fun h1 t1 q1 g1 => ?_)
  cases c with
  | true => exact h.run A _ q1 E _ R (C.grow g1) fun h2 t2 q2 v g2 r => k h2 t2 q2 v (g1.trans g2) r
  | false => exact h.run A _ q1 E _ R (C.grow g1) fun h2 t2 q2 v g2 r => k h2 t2 q2 v (g1.trans g2) r
theorem op_sub_int {a b : Int} : Gives2 w n (binaryOp .Sub) (.int a) (.int b) (.int (a - b)) := by
  refine ⟨fun A s q E Q va vb R sub ra rb k => ?_⟩
  cases ra; cases rb
  exact PyProof.Rows.sub_int (k s.heap _ q _ (.refl sub) (.int _ _))
theorem op_mul_int {a b : Int} (hm : IntMulOk a b) : Gives2 w n (binaryOp .Mult) (.int a) (.int b) (.int (a * b)) := by
  refine ⟨fun A s q E Q va vb R sub ra rb k => ?_⟩
  cases ra; cases rb
  exact PyProof.Rows.mul_int (k s.heap _ q _ (.refl sub) (.int _ _)) hm
theorem op_mod_int {a b : Int} (hb : b ≠ 0) : Gives2 w n (binaryOp .Mod) (.int a) (.int b) (.int (a.fmod b)) := by
  refine ⟨fun A s q E Q va vb R sub ra rb k => ?_⟩
  cases ra; cases rb
  exact mod_int' hb (k s.heap _ q _ (.refl sub) (.int _ _))
theorem op_div_int {a b : Int} (hb : b ≠ 0) (hp : Builtin.divisionGoesByPylong a b = false) : Gives2 w n (binaryOp .FloorDiv) (.int a) (.int b) (.int (a.fdiv b)) := by
  refine ⟨fun A s q E Q va vb R sub ra rb k => ?_⟩
  cases ra; cases rb
  exact floordiv_int hb (k s.heap _ q _ (.refl sub) (.int _ _)) (.inl hp)
theorem cmp_lt_int {a b : Int} : Gives2 w n (compareOp .Lt) (.int a) (.int b) (.bool (decide (a < b))) := by
  refine ⟨fun A s q E Q va vb R sub ra rb k => ?_⟩
  cases ra; cases rb
  exact PyProof.Rows.lt_int (k s.heap _ q _ (.refl sub) (.bool _))
theorem cmp_gt_int {a b : Int} : Gives2 w n (compareOp .Gt) (.int a) (.int b) (.bool (decide (b < a))) := by
  refine ⟨fun A s q E Q va vb R sub ra rb k => ?_⟩
  cases ra; cases rb
  exact PyProof.Rows.gt_int (k s.heap _ q _ (.refl sub) (.bool _))
theorem cmp_ge_int {a b : Int} : Gives2 w n (compareOp .GtE) (.int a) (.int b) (.bool (decide (b ≤ a))) := by
  refine ⟨fun A s q E Q va vb R sub ra rb k => ?_⟩
  cases ra; cases rb
  exact PyProof.Rows.ge_int (k s.heap _ q _ (.refl sub) (.bool _))
theorem cmp_eq_int {a b : Int} : Gives2 w n (compareOp .Eq) (.int a) (.int b) (.bool (a == b)) := by
  refine ⟨fun A s q E Q va vb R sub ra rb k => ?_⟩
  cases ra; cases rb
  exact PyProof.Rows.eq_int (k s.heap _ q _ (.refl sub) (.bool _))
theorem cmp_ne_int {a b : Int} : Gives2 w n (compareOp .NotEq) (.int a) (.int b) (.bool (a != b)) := by
  refine ⟨fun A s q E Q va vb R sub ra rb k => ?_⟩
  cases ra; cases rb
  exact PyProof.Rows.ne_int (k s.heap _ q _ (.refl sub) (.bool _))
theorem cmp_eq_str {a b : Str} : Gives2 w n (compareOp .Eq) (.str a) (.str b) (.bool (a == b)) := by
  refine ⟨fun A s q E Q va vb R sub ra rb k => ?_⟩
  cases ra; cases rb
  exact PyProof.Rows.eq_str (k s.heap _ q _ (.refl sub) (.bool _))
theorem op_add_str {a b : Str} (hl : a.length + b.length ≤ sizeLine) : Gives2 w n (binaryOp .Add) (.str a) (.str b) (.str (a ++ b)) := by
  refine ⟨fun A s q E Q va vb R sub ra rb k => ?_⟩
  cases ra; cases rb
  exact PyProof.Rows.add_str (fun t' tk => k s.heap _ q _ (.refl sub) (.str _ _)) hl
theorem len_list_ {ds : List PV} (hl : ds.length < 2 ^ 62) : FN w n (.builtin "len") [.list ds] [] (.int ds.length) := by
  refine ⟨fun A s q E Q vs ks R B r rk hks k => ?_⟩
  cases ks with
  | cons a b => cases hks
  | nil =>
  cases r with
  | cons h r' => cases r' with
    | nil => cases h with
      | list h r =>
        refine call_len_list (isList_of (B.sub _ _ h)) (by rw [List.size_toArray, r.length]; omega) ?_
        rw [List.size_toArray, r.length]
        exact k s.heap _ q _ (.refl B.sub) (.int _ _)
theorem len_str_ {x : Str} (hl : x.length < 2 ^ 62) : FN w n (.builtin "len") [.str x] [] (.int x.length) := by
  refine ⟨fun A s q E Q vs ks R B r rk hks k => ?_⟩
  cases ks with
  | cons a b => cases hks
  | nil =>
  cases r with
  | cons h r' => cases r' with
    | nil => cases h; exact PyProof.Rows.len_str (by omega) (k s.heap _ q _ (.refl B.sub) (.int _ _))
/-- an item of a list at an int in bounds -/
theorem ev_item {e i : Expr} {pos : Pos} {ds : List PV} {j : Int} {d : PV} (he : EV w n env ρ e (.list ds)) (hi : EV w n env ρ i (.int j)) (h0 : 0 ≤ j) (hj : j < 2 ^ 62) (hd : ds[j.toNat]? = some d)
    (hs : ∀ a u, subscripted i false (.ref a) (.int j u) = operate [.ref a, .int j u] (getItem (.ref a) (.int j u)) := by intro _ _; with_unfolding_all rfl) : EV w n env ρ (.Subscript e i pos) d := by
  refine ⟨fun A s q E Q R C k => ?_⟩
  refine Subscript_ (he.run A s q E _ R C fun h1 t1 q1 v1 g1 r1 => ?_)
  refine hi.run A _ q1 E _ R (C.grow g1) fun h2 t2 q2 v2 g2 r2 => ?_
  cases r1 with
  | list h r =>
    cases r2
    obtain ⟨v, hv, rv⟩ := r.get hd
    have hl := isList_of (g2.keep _ _ (g1.sub _ _ h))
    exact tail_any (s := { s with heap := h2, toks := t2 }) hl.typeIs slot_list_getitem.lookup (wpAny_getItem_list hl h0 (by omega) (by simpa using hv) (k h2 t2 q2 v (g1.trans g2) (rv.mono g2.le))) (hs _ _)
end

end Mine

/-! ## P5 -/
namespace Mine
/-! # _law_number -/
noncomputable def num (ns : List Int) (k : Nat) : Int := (if ns = [] then 0 else ns.getD (k % ns.length) 0) + 7 * k
theorem K_num (w : World) : (K w.params).lookup 912 = some (o912 w.params) := by rfl
theorem fn_num {w : World} {ns : List Int} {k : Nat} (hl : ns.length < 2 ^ 40) (hk : k < 1000) : FN w 1 (.ref 912) [.list (ns.map .int), .int k] [] (.int (num ns k)) := by
  refine fn_intro (ps := [("script", .list (ns.map .int)), ("place", .int k)]) (out := .ret (.int (num ns k))) (K_num w) (by rfl) ?_ ["script", "place"] (by rfl) (by decide) rfl rfl rfl ?_ rfl
  · intro s q vs B r
    cases r with
    | cons h1 r => cases r with
      | cons h2 r => cases r with
        | nil => exact ⟨_, BindsTo.of_eq rfl, .cons h1 (.cons h2 .nil)⟩
  · intro L
    refine xs_one (x_return ?_)
    refine ev_bin ?_ ?_ op_add_int (b := .int (7 * k)) (a := .int (if ns = [] then 0 else ns.getD (k % ns.length) 0))
    · refine ev_if (c := !(ns.map PV.int).isEmpty) ?_ ?_
      · exact tv_plain (ev_name rfl) (truth_list (by simp; omega))
      · cases ns with
        | nil => exact ev_int
        | cons x r =>
          have e1 : ((k : Int).fmod (((x :: r).map PV.int).length : Int)) = ((k % (x :: r).length : Nat) : Int) := by
            rw [List.length_map, Int.fmod_eq_emod_of_nonneg _ (by omega)]; rfl
          have e2 : k % (x :: r).length < (x :: r).length := Nat.mod_lt _ (by simp)
          refine ev_item (ds := (x :: r).map .int) (j := (k : Int).fmod (((x :: r).map PV.int).length : Int)) (ev_name rfl)
            (ev_bin (ev_name rfl) (ev_callB (ev_builtin (v := .builtin "len") (by rfl) (by boot_fast) (by decide) rfl) (evs_cons (ev_name rfl) evs_nil) (len_list_ (by simp; simp at hl; omega))) (op_mod_int (by simp; omega))) ?_ ?_ ?_
          · rw [e1]; omega
          · rw [e1]; simp only [List.length_cons] at *; omega
          · rw [e1, if_neg (by simp), Int.toNat_natCast, List.getElem?_map, List.getD_eq_getElem?_getD, List.getElem?_eq_getElem e2]
            rfl
    · exact ev_bin ev_int (ev_name rfl) (op_mul_int (IntMulOk.of_left (by decide)))
end Mine

/-! ## P6 -/
namespace Mine
open Classical in
noncomputable def hideP (h : Heap) (P : Addr → Prop) : Heap := ⟨h.objs.mapIdx fun i o => if P i then { cls := .none, data := .freed } else o, h.life⟩
theorem hideP_none {h : Heap} {P : Addr → Prop} {b : Addr} (hb : P b) : (hideP h P).get? b = none := by
  unfold Heap.get? hideP
  dsimp only
  rw [Array.getElem?_mapIdx]
  cases e : h.objs[b]? with
  | none => rfl
  | some o => simp only [Option.map_some, if_pos hb]
theorem hideP_eq {h : Heap} {P : Addr → Prop} {b : Addr} (hb : ¬ P b) : (hideP h P).get? b = h.get? b := by
  unfold Heap.get? hideP
  dsimp only
  rw [Array.getElem?_mapIdx]
  cases e : h.objs[b]? with
  | none => rfl
  | some o => simp only [Option.map_some, if_neg hb]

/-- what the frame may write -/
noncomputable def Priv (env : Env) (ρ : Rho) (h : Heap) (b : Addr) : Prop := b = env.locals ∨ (∃ x, env.cells.lookup x = some b) ∨ ∃ x ds, ρ x = some (.own ds) ∧ NameVal env h x (.ref b)
section
variable {w : World} {env : Env} {h0 h h' : Heap} {q0 q q' : Gh} {ρ ρ' : Rho}
theorem Fs.priv (F : Fs w env h0 q0 ρ h q) {b : Addr} (p : Priv env ρ h b) : h0.get? b = none ∧ q b = none := by
  rcases p with rfl | ⟨x, e⟩ | ⟨x, ds, e, nv⟩
  · exact ⟨F.locNew, F.locGh⟩
  · exact (F.cells x b e).2
  · refine ⟨F.ownsNew x ds b e nv, ?_⟩
    obtain ⟨a, vs, n, nv', ho, r, hq⟩ := F.ctx.owns x ds e
    cases nv'.fun nv
    exact hq
/-- the same frame over the heap less what it may write -/
theorem Fs.rebase (F : Fs w env h0 q0 ρ h q) : Fs w env (hideP h (Priv env ρ h)) q ρ h q := by
  have back : ∀ b o, (hideP h (Priv env ρ h)).get? b = some o → h.get? b = some o := fun b o e => by
    by_cases p : Priv env ρ h b
    · rw [hideP_none p] at e; cases e
    · rw [hideP_eq p] at e; exact e
  have fw : ∀ b o, h0.get? b = some o → (hideP h (Priv env ρ h)).get? b = some o := fun b o e => by
    rw [hideP_eq]
    · exact F.g.keep b o e
    · intro p; rw [(F.priv p).1] at e; cases e
  exact {
    K0 := F.K0.keeps fw
    top0 := let ⟨mg, mb, t⟩ := F.top0; ⟨mg, mb, t.keeps fw⟩
    ctx := F.ctx
    g := ⟨back, fun _ _ e => e, F.ctx.sub, fun _ _ e => .inl e⟩
    loc := F.loc
    locNew := hideP_none (.inl rfl)
    locGh := F.locGh
    cells := fun x c e => ⟨(F.cells x c e).1, hideP_none (.inr (.inl ⟨x, e⟩)), (F.cells x c e).2.2⟩
    apart := F.apart
    ownsNew := fun x ds a e nv => hideP_none (.inr (.inr ⟨x, ds, e, nv⟩))
    ownsApart := F.ownsApart }
theorem Fs.backGrow (F : Fs w env h0 q0 ρ h q) (g : Grow (hideP h (Priv env ρ h)) q h' q') : Grow h0 q0 h' q' := by
  refine ⟨fun b o e => g.keep b o ?_, fun b o e => g.le _ _ (F.g.le _ _ e), g.sub, fun b o e => ?_⟩
  · rw [hideP_eq]
    · exact F.g.keep b o e
    · intro p; rw [(F.priv p).1] at e; cases e
  · rcases g.fresh b o e with e | e
    · exact F.g.fresh b o e
    · right
      by_cases p : Priv env ρ h b
      · exact (F.priv p).1
      · rw [hideP_eq p] at e
        cases z : h0.get? b with
        | none => rfl
        | some o' => rw [F.g.keep _ _ z] at e; cases e
theorem Fs.back (F : Fs w env h0 q0 ρ h q) (F' : Fs w env (hideP h (Priv env ρ h)) q ρ' h' q') : Fs w env h0 q0 ρ' h' q' where
  K0 := F.K0
  top0 := F.top0
  ctx := F'.ctx
  g := F.backGrow F'.g
  loc := F'.loc
  locNew := F.locNew
  locGh := F'.locGh
  cells := fun x c e => ⟨(F'.cells x c e).1, (F.cells x c e).2.1, (F'.cells x c e).2.2⟩
  apart := F.apart
  ownsNew := fun x ds a e nv => by
    have e1 := F'.ownsNew x ds a e nv
    by_cases p : Priv env ρ h a
    · exact (F.priv p).1
    · rw [hideP_eq p] at e1
      cases z : h0.get? a with
      | none => rfl
      | some o' => rw [F.g.keep _ _ z] at e1; cases e1
  ownsApart := F'.ownsApart
/-- an iterator of the loop's own moved on -/
theorem Fs.moved {wr : List Addr} (F : Fs w env h0 q0 ρ h q) (hw : ∀ b ∈ wr, h0.get? b = none ∧ q b = none ∧ ¬ Priv env ρ h b) (hk : ∀ b o, b ∉ wr → h.get? b = some o → h'.get? b = some o) : Fs w env h0 q0 ρ h' q := by
  have k0 : Keep h0 h' := fun b o e => hk b o (fun m => by rw [(hw b m).1] at e; cases e) (F.g.keep b o e)
  have sub : ∀ b o, q b = some o → h'.get? b = some o := fun b o e => hk b o (fun m => by rw [(hw b m).2.1] at e; cases e) (F.ctx.sub b o e)
  have kp : ∀ b o, Priv env ρ h b → h.get? b = some o → h'.get? b = some o := fun b o p e => hk b o (fun m => (hw b m).2.2 p) e
  have nv : ∀ y u, NameVal env h y u → NameVal env h' y u := fun y u n => by
    cases n with
    | loc a b c => exact .loc a (b.at' fun o e => kp _ _ (.inl rfl) e) c
    | cell a b c => obtain ⟨o, e, d⟩ := c; exact .cell a b ⟨o, kp _ _ (.inr (.inl ⟨y, b⟩)) e, d⟩
  have nb : ∀ y u, (∃ v, NameVal env h y v) → NameVal env h' y u → NameVal env h y u := fun y u ⟨v, n⟩ n' => by
    cases (nv y v n).fun n'
    exact n
  exact {
    K0 := F.K0
    top0 := F.top0
    ctx := ⟨F.K0.keeps k0, let ⟨mg, mb, t⟩ := F.top0; ⟨mg, mb, t.keeps k0⟩, sub, F.ctx.kind, F.ctx.globals, F.ctx.builtins, fun x d e => let ⟨v, n, r⟩ := F.ctx.pers x d e; ⟨v, nv _ _ n, r⟩,
      fun x ds e => let ⟨a, vs, n, b1, b2, b3, b4⟩ := F.ctx.owns x ds e; ⟨a, vs, n, nv _ _ b1, kp _ _ (.inr (.inr ⟨x, ds, e, b1⟩)) b2, b3, b4⟩⟩
    g := ⟨k0, F.g.le, sub, F.g.fresh⟩
    loc := let ⟨m, n⟩ := F.loc; ⟨m, n.at' fun o e => kp _ _ (.inl rfl) e⟩
    locNew := F.locNew
    locGh := F.locGh
    cells := fun x c e => by
      obtain ⟨⟨v, o, a, d⟩, r⟩ := F.cells x c e
      exact ⟨⟨v, o, kp _ _ (.inr (.inl ⟨x, e⟩)) a, d⟩, r⟩
    apart := F.apart
    ownsNew := fun x ds a e n => F.ownsNew x ds a e (nb _ _ (let ⟨a, vs, n, b1, _⟩ := F.ctx.owns x ds e; ⟨_, b1⟩) n)
    ownsApart := fun x y dx dy a ex ey nx ny => F.ownsApart x y dx dy a ex ey (nb _ _ (let ⟨a, vs, n, b1, _⟩ := F.ctx.owns x dx ex; ⟨_, b1⟩) nx) (nb _ _ (let ⟨a, vs, n, b1, _⟩ := F.ctx.owns y dy ey; ⟨_, b1⟩) ny) }
end

/-- an iterator, made fresh, over values that stand for ds -/
structure Iter (w : World) (A : Around) (h0 : Heap) (h : Heap) (q : Gh) (ds : List PV) (I : Addr) (fp wr : List Addr) (P : Nat → Value → Prop) (St : Nat → Heap → Prop) : Prop where
  walks : Walks pw w A I fp wr ds.length P St
  start : St 0 h
  live : ∀ i h, St i h → ∀ b ∈ wr, ∃ o, h.get? b = some o
  item : ∀ i v, i < ds.length → P i v → ∃ d, ds[i]? = some d ∧ Rep q v d
  new : ∀ b ∈ wr, h0.get? b = none
  gh : ∀ b ∈ wr, q b = none
  src : ∀ b ∈ fp, b ∈ wr ∨ ∃ o, q b = some o

/-- evaluating e and asking it for an iterator gives one over ds -/
structure IT (w : World) (n : Nat) (env : Env) (ρ : Rho) (e : Expr) (ds : List PV) : Prop where
  run : ∀ A s q E Q, Room n A → Ctx w env ρ s.heap q →
  (∀ h' tk q' I fp wr P St, Grow s.heap q h' q' → Iter w A s.heap h' q' ds I fp wr P St → Q (.ref I) { s with heap := h', toks := tk }) →
  wpAny (model pw w) A (eval e env) (fun v s₁ => wpAny (model pw w) A (pyIter v) Q E s₁) E s

theorem it_list {w : World} {n : Nat} {env : Env} {ρ : Rho} {e : Expr} {ds : List PV} (he : EV w n env ρ e (.list ds)) : IT w n env ρ e ds := by
  refine ⟨fun A s q E Q R C k => ?_⟩
  refine he.run A s q E _ R C fun h1 t1 q1 v g1 r => ?_
  cases r with
  | @list a vs ds m ha r =>
    have hl := isList_of (g1.sub _ _ ha)
    have hne : a ≠ h1.objs.size := Nat.ne_of_lt (Heap.lt_size (g1.sub _ _ ha))
    have lift : Keep h1 (h1.push { cls := .type "list_iterator", data := .fields #[.ref a, .int 0 0] }) := fun b o e => Heap.get?_push_of_some _ e
    refine wpAny_pyIter_list hl ?_
    refine k _ t1 q1 h1.objs.size [h1.objs.size, a] [h1.objs.size] (fun i v => vs.toArray[i]? = some v) (fun i h => h.IsListIter h1.objs.size a i ∧ h.IsList a vs.toArray) (g1.trans (Grow.heap g1.sub lift)) ⟨?_, ?_, ?_, ?_, ?_, ?_, ?_⟩
    · have W := Walks.list (prog := pw) (w := w) R.handled h1.objs.size a hne vs.toArray
      have e : vs.toArray.size = ds.length := by rw [List.size_toArray, r.length]
      exact e ▸ W
    · exact ⟨⟨_, Heap.get?_push_size _ rfl, rfl, rfl⟩, hl.at fun o e => lift _ _ e⟩
    · intro i h st b hb
      rw [List.mem_singleton] at hb
      obtain ⟨⟨o, ho, _⟩, _⟩ := st
      exact ⟨o, hb ▸ ho⟩
    · intro i v _ hv
      have hlt : i < vs.length := by
        have := List.getElem?_eq_some_iff.mp (show vs[i]? = some v by simpa using hv)
        exact this.1
      obtain ⟨v', hv', rv⟩ := r.get (i := i) (d := ds[i]'(by rw [← r.length]; exact hlt)) (by simp)
      have : v' = v := by
        have h2 : vs[i]? = some v := by simpa using hv
        rw [hv'] at h2; exact Option.some.inj h2
      subst this
      exact ⟨_, by simp, rv⟩
    · intro b hb
      rw [List.mem_singleton] at hb
      subst hb
      cases z : s.heap.get? h1.objs.size with
      | none => rfl
      | some o => exact absurd (Heap.lt_size (g1.keep _ _ z)) (Nat.lt_irrefl _)
    · intro b hb
      rw [List.mem_singleton] at hb
      subst hb
      cases z : q1 h1.objs.size with
      | none => rfl
      | some o => exact absurd (Heap.lt_size (g1.sub _ _ z)) (Nat.lt_irrefl _)
    · intro b hb
      rcases List.mem_cons.mp hb with rfl | hb
      · exact .inl (List.mem_singleton.mpr rfl)
      · rw [List.mem_singleton] at hb; subst hb; exact .inr ⟨_, ha⟩

noncomputable def Sub (ρ' ρ : Rho) : Prop := ∀ y l, ρ' y = some l → ρ y = some l
theorem Ctx.less {w : World} {env : Env} {ρ ρ' : Rho} {h : Heap} {q : Gh} (C : Ctx w env ρ h q) (hs : Sub ρ' ρ) : Ctx w env ρ' h q :=
  ⟨C.K, C.top, C.sub, C.kind, C.globals, C.builtins, fun x d e => C.pers x d (hs _ _ e), fun x ds e => C.owns x ds (hs _ _ e)⟩
theorem Fs.less {w : World} {env : Env} {h0 h : Heap} {q0 q : Gh} {ρ ρ' : Rho} (F : Fs w env h0 q0 ρ h q) (hs : Sub ρ' ρ) : Fs w env h0 q0 ρ' h q where
  K0 := F.K0
  top0 := F.top0
  ctx := F.ctx.less hs
  g := F.g
  loc := F.loc
  locNew := F.locNew
  locGh := F.locGh
  cells := F.cells
  apart := F.apart
  ownsNew := fun x ds a e nv => F.ownsNew x ds a (hs _ _ e) nv
  ownsApart := fun x y dx dy a ex ey nx ny => F.ownsApart x y dx dy a (hs _ _ ex) (hs _ _ ey) nx ny
noncomputable def loopOut (ρs : Nat → Rho) (m : Nat) : Option (Nat × PV) → Out
  | none => .next (ρs m)
  | some (_, r) => .ret r

/-- a for over a name: ρs i is what is known behind i turns, stop the turn that returns -/
theorem x_for {w : World} {n : Nat} {env : Env} {ρ : Rho} {x : Str} {p pos : Pos} {iter : Expr} {body : List Stmt} {ds : List PV} (ρs : Nat → Rho) (stop : Option (Nat × PV))
    (hi : IT w n env ρ iter ds) (hx : canStore env x = true) (h0i : Sub (ρs 0) ρ) (hstop : ∀ j r, stop = some (j, r) → j < ds.length)
    (turn : ∀ i d, ds[i]? = some d → (∀ j r, stop = some (j, r) → i ≤ j) → (∀ r, stop = some (i, r) → XS w n env (upd (ρs i) x (.pers d)) body (.ret r)) ∧
      ((∀ r, stop ≠ some (i, r)) → ∃ ρ'', XS w n env (upd (ρs i) x (.pers d)) body (.next ρ'') ∧ Sub (ρs (i + 1)) ρ''))
    (hs : ∀ x, foldedSetIterable iter env x = pure x := by intro _; rfl) : X w n env ρ (.For (.Name x p) iter body [] pos) (loopOut ρs ds.length stop) := by
  refine ⟨fun A s q h0 q0 E Q R F kk => ?_⟩
  refine wpAny_For (hi.run A s q E _ R F.ctx fun h1 t1 q1 I fp wr P St g1 IT => ?_) hs
  have F1 := F.grow g1
  have hpriv0 : ∀ b ∈ wr, ¬ Priv env ρ h1 b := fun b hb pv => by
    have hn := IT.new b hb
    rcases pv with rfl | ⟨y, e⟩ | ⟨y, ds', e, nv⟩
    · obtain ⟨m, o, es, ep, ho, _⟩ := F.loc; rw [ho] at hn; cases hn
    · obtain ⟨⟨v, o, ho, _⟩, _⟩ := F.cells y b e; rw [ho] at hn; cases hn
    · obtain ⟨a, vs, m, nv', ho, _⟩ := F.ctx.owns y ds' e
      cases (nv'.keep g1.keep).fun nv
      rw [ho] at hn; cases hn
  have hnew0 : ∀ b ∈ wr, h0.get? b = none := fun b hb => by
    cases z : h0.get? b with
    | none => rfl
    | some o => have := IT.new b hb; rw [F.g.keep _ _ z] at this; cases this
  refine codeAny_forLoop (fun k s' => ∃ i h' tk q', s' = { s with heap := h', toks := tk } ∧ k = ds.length - i ∧ i ≤ ds.length ∧ (∀ j r, stop = some (j, r) → i ≤ j) ∧ Fs w env h0 q0 (ρs i) h' q' ∧
      (∀ b o, q1 b = some o → q' b = some o) ∧ St i h' ∧ (∀ b ∈ wr, q' b = none ∧ ¬ Priv env (ρs i) h' b)) ?_ ds.length
      ⟨0, h1, t1, q1, rfl, rfl, Nat.zero_le _, fun _ _ _ => Nat.zero_le _, F1.less h0i, fun _ _ e => e, IT.start, fun b hb => ⟨IT.gh b hb, fun pv => hpriv0 b hb (by
        rcases pv with e | e | ⟨y, ds', e, nv⟩
        · exact .inl e
        · exact .inr (.inl e)
        · exact .inr (.inr ⟨y, ds', h0i _ _ e, nv⟩))⟩⟩
  rintro k s' ⟨i, h', tk, q', rfl, hk, hi, hij, F', hle, hst, hwr⟩
  generalize hρ : ρs i = ρ' at F' hwr
  have hw : ∀ b ∈ wr, h0.get? b = none ∧ q' b = none ∧ ¬ Priv env ρ' h' b := fun b hb => ⟨hnew0 b hb, hwr b hb⟩
  by_cases hlt : i < ds.length
  · refine IT.walks.item i _ _ _ hlt hst fun v h2 tk2 hP hst2 hk2 => ?_
    obtain ⟨d, hd, rd⟩ := IT.item i v hlt hP
    have F2 : Fs w env h0 q0 ρ' h2 q' := F'.moved hw hk2
    have rd' := rd.mono hle
    have hpr : ∀ b ∈ wr, ¬ Priv env ρ' h2 b := fun b hb pv => by
      obtain ⟨o, ho⟩ := IT.live _ _ hst b hb
      refine (hwr b hb).2 ?_
      rcases pv with rfl | ⟨y, e⟩ | ⟨y, ds', e, nv⟩
      · exact .inl rfl
      · exact .inr (.inl ⟨y, e⟩)
      · obtain ⟨a, vs, m, nv', _⟩ := F'.ctx.owns y ds' e
        obtain ⟨a2, vs2, m2, nv2, _⟩ := F2.ctx.owns y ds' e
        have e1 := nv2.fun nv
        cases e1
        refine .inr (.inr ⟨y, ds', e, ?_⟩)
        -- the name reads the same
        have hkeep : NameVal env h2 y (.ref a) := by
          cases nv' with
          | loc x1 x2 x3 => exact .loc x1 (x2.at' fun o e => hk2 _ _ (fun m => (hwr _ m).2 (.inl rfl)) e) x3
          | cell x1 x2 x3 => obtain ⟨o, z, d⟩ := x3; exact .cell x1 x2 ⟨o, hk2 _ _ (fun m => (hwr _ m).2 (.inr (.inl ⟨y, x2⟩))) z, d⟩
        cases hkeep.fun nv
        exact nv'
    have Fr2 := F2.rebase
    have keepw : ∀ b o, b ∈ wr → h2.get? b = some o → (hideP h2 (Priv env ρ' h2)).get? b = some o := fun b o m e => by rw [hideP_eq (hpr b m)]; exact e
    obtain ⟨tr, tn⟩ := turn i d hd hij
    rw [hρ] at tr tn
    refine wpAny_assign_Name (store_pers (s := { s with heap := h2, toks := tk2 }) Fr2 hx rd' fun h3 tk3 F3 => ?_)
    by_cases hstp : ∃ r, stop = some (i, r)
    · obtain ⟨r, hr⟩ := hstp
      refine (tr r hr).run A { s with heap := h3, toks := tk3 } q' _ q' _ _ R F3 fun h4 tk4 q4 fl post => ?_
      obtain ⟨v', rfl, rv, g4⟩ := post
      rw [hr] at kk
      exact kk h4 tk4 q4 _ ⟨v', rfl, rv, F2.backGrow g4⟩
    · obtain ⟨ρ'', tx, hsub⟩ := tn fun r e => hstp ⟨r, e⟩
      refine tx.run A { s with heap := h3, toks := tk3 } q' _ q' _ _ R F3 fun h4 tk4 q4 fl post => ?_
      obtain ⟨rfl, F4⟩ := post
      have F4 := F4.less hsub
      refine ⟨ds.length - (i + 1), by omega, i + 1, h4, tk4, q4, rfl, rfl, hlt, fun j r e => ?_, F2.back F4, fun b o e => F4.g.le _ _ (hle _ _ e), ?_, ?_⟩
      · rcases Nat.lt_or_eq_of_le (hij j r e) with h | h
        · exact h
        · subst h; exact absurd ⟨r, e⟩ hstp
      · refine IT.walks.frame _ _ _ hst2 fun b hb o e => ?_
        rcases IT.src b hb with m | ⟨o', e'⟩
        · exact F4.g.keep _ _ (keepw b o m e)
        · have e1 := F2.ctx.sub _ _ (hle _ _ e')
          rw [e] at e1; cases e1
          exact F4.ctx.sub _ _ (F4.g.le _ _ (hle _ _ e'))
      · intro b hb
        obtain ⟨o, ho⟩ := IT.live _ _ hst2 b hb
        have hg := keepw b o hb ho
        refine ⟨?_, fun pv => by rw [(F4.priv pv).1] at hg; cases hg⟩
        cases z : q4 b with
        | none => rfl
        | some o' =>
          rcases F4.g.fresh b o' z with e | e
          · rw [(hwr b hb).1] at e; cases e
          · rw [hg] at e; cases e
  · have hi' : i = ds.length := by omega
    subst hi'
    refine IT.walks.done _ _ _ hst fun h2 tk2 hk2 => ?_
    refine wpAny_execs_nil ?_
    cases hso : stop with
    | none =>
      rw [hso] at kk
      refine kk h2 tk2 q' _ ⟨rfl, ?_⟩
      rw [hρ]
      exact F'.moved hw hk2
    | some jr => exact absurd (hstop jr.1 jr.2 hso) (Nat.not_lt.mpr (hij jr.1 jr.2 hso))
/-- a for that ends -/
theorem x_forN {w : World} {n : Nat} {env : Env} {ρ : Rho} {x : Str} {p pos : Pos} {iter : Expr} {body : List Stmt} {ds : List PV} (ρs : Nat → Rho)
    (hi : IT w n env ρ iter ds) (hx : canStore env x = true) (h0i : Sub (ρs 0) ρ)
    (turn : ∀ i d, ds[i]? = some d → ∃ ρ'', XS w n env (upd (ρs i) x (.pers d)) body (.next ρ'') ∧ Sub (ρs (i + 1)) ρ'')
    (hs : ∀ x, foldedSetIterable iter env x = pure x := by intro _; rfl) : X w n env ρ (.For (.Name x p) iter body [] pos) (.next (ρs ds.length)) :=
  x_for (ds := ds) ρs none hi hx h0i (fun _ _ e => by cases e) (fun i d hd _ => ⟨fun _ e => (by cases e), fun _ => turn i d hd⟩) hs
/-- a for that returns at turn j -/
theorem x_forR {w : World} {n : Nat} {env : Env} {ρ : Rho} {x : Str} {p pos : Pos} {iter : Expr} {body : List Stmt} {ds : List PV} {r : PV} (ρs : Nat → Rho) (j : Nat)
    (hi : IT w n env ρ iter ds) (hx : canStore env x = true) (h0i : Sub (ρs 0) ρ) (hj : j < ds.length)
    (turn : ∀ i d, ds[i]? = some d → i < j → ∃ ρ'', XS w n env (upd (ρs i) x (.pers d)) body (.next ρ'') ∧ Sub (ρs (i + 1)) ρ'')
    (last : ∀ d, ds[j]? = some d → XS w n env (upd (ρs j) x (.pers d)) body (.ret r))
    (hs : ∀ x, foldedSetIterable iter env x = pure x := by intro _; rfl) : X w n env ρ (.For (.Name x p) iter body [] pos) (.ret r) :=
  x_for (ds := ds) ρs (some (j, r)) hi hx h0i (fun _ _ e => by cases e; exact hj) (fun i d hd hle => ⟨fun r' (e : some (j, r) = some (i, r')) => by
    have e1 : j = i := congrArg Prod.fst (Option.some.inj e)
    have e2 : r = r' := congrArg Prod.snd (Option.some.inj e)
    subst e1; subst e2; exact last d hd, fun hne => turn i d hd (by
    rcases Nat.lt_or_eq_of_le (hle j r rfl) with h | h
    · exact h
    · subst h; exact absurd rfl (hne r))⟩) hs
end Mine

/-! ## P7 -/
namespace Mine
section
variable {w : World} {n : Nat} {env : Env} {ρ : Rho}
noncomputable abbrev dec (i : Int) : Str := Str.ofString (toString i)
theorem str_int_ {i : Int} (hi : i.natAbs < 2 ^ 64) : FN w n (.type "str") [.int i] [] (.str (dec i)) := by
  refine ⟨fun A s q E Q vs ks R B r rk hks k => ?_⟩
  cases ks with
  | cons a b => cases hks
  | nil =>
  cases r with
  | cons h r' => cases r' with
    | nil =>
      cases h
      refine PySem.P.str_of_int ?_ (k s.heap _ q _ (.refl B.sub) (.str _ _))
      have : i.natAbs.log2 < 64 := by
        rcases Nat.eq_zero_or_pos i.natAbs with e | e
        · rw [e]; decide
        · exact (Nat.log2_lt (by omega)).mpr hi
      exact Nat.lt_trans this (by decide)
noncomputable def isNone : PV → Bool
  | .none => true
  | _ => false
theorem rep_isNone {q : Gh} {v : Value} {d : PV} (r : Rep q v d) (hr : ∀ u, d ≠ .raw u) : (v == .none) = isNone d := by
  cases r <;> first | rfl | exact absurd rfl (hr _)
theorem cmp_is_none {d : PV} (hr : ∀ u, d ≠ .raw u) : Gives2 w n (compareOp .Is) d .none (.bool (isNone d)) := by
  refine ⟨fun A s q E Q va vb R sub ra rb k => ?_⟩
  cases rb
  refine is_none ?_
  rw [rep_isNone ra hr]
  exact k s.heap _ q _ (.refl sub) (.bool _)
theorem cmp_isnot_none {d : PV} (hr : ∀ u, d ≠ .raw u) : Gives2 w n (compareOp .IsNot) d .none (.bool (!isNone d)) := by
  refine ⟨fun A s q E Q va vb R sub ra rb k => ?_⟩
  cases rb
  refine isNot_none ?_
  rw [rep_isNone ra hr]
  exact k s.heap _ q _ (.refl sub) (.bool _)

theorem isi_true {d : PV} {T : String} (hT : ∀ (s : Shared) q v, (∀ b o, q b = some o → s.heap.get? b = some o) → Rep q v d → s.TypeIs v T) (hty : typeOf (.type T) = pure (.type "type")) (hsub : isSubtype (.type T) (.type T) = pure true) :
    FN w n (.builtin "isinstance") [d, .raw (.type T)] [] (.bool true) := by
  refine ⟨fun A s q E Q vs ks R B r rk hks k => ?_⟩
  cases ks with
  | cons a b => cases hks
  | nil =>
  cases r with
  | cons h r' => cases r' with
    | cons h2 r'' => cases r'' with
      | nil =>
        cases h2
        exact call_isinstance (isinstance_true hty hsub) ⟨hT s q _ B.sub h, k s.heap s.toks q _ (.refl B.sub) (.bool _)⟩
theorem ty_list {ds : List PV} (s : Shared) (q : Gh) (v : Value) (sub : ∀ b o, q b = some o → s.heap.get? b = some o) (r : Rep q v (.list ds)) : s.TypeIs v "list" := by
  cases r with
  | list h r => exact (isList_of (sub _ _ h)).typeIs
theorem ty_int {i : Int} (s : Shared) (q : Gh) (v : Value) (sub : ∀ b o, q b = some o → s.heap.get? b = some o) (r : Rep q v (.int i)) : s.TypeIs v "int" := by
  cases r; exact typeIs_int s _ _
theorem ty_str {x : Str} (s : Shared) (q : Gh) (v : Value) (sub : ∀ b o, q b = some o → s.heap.get? b = some o) (r : Rep q v (.str x)) : s.TypeIs v "str" := by
  cases r; exact typeIs_str s _ _
theorem isi_list_list {ds : List PV} : FN w n (.builtin "isinstance") [.list ds, .raw (.type "list")] [] (.bool true) := isi_true ty_list PySem.F.isi_meta_list (by rw [isSubtype_type]; kernel_rfl)
theorem isi_int_int {i : Int} : FN w n (.builtin "isinstance") [.int i, .raw (.type "int")] [] (.bool true) := isi_true ty_int PySem.F.isi_meta_int (by rw [isSubtype_type]; kernel_rfl)
theorem isi_str_str {x : Str} : FN w n (.builtin "isinstance") [.str x, .raw (.type "str")] [] (.bool true) := isi_true ty_str PySem.F.isi_meta_str (by rw [isSubtype_type]; kernel_rfl)
theorem isi_list_int {ds : List PV} : FN w n (.builtin "isinstance") [.list ds, .raw (.type "int")] [] (.bool false) := by
  refine ⟨fun A s q E Q vs ks R B r rk hks k => ?_⟩
  cases ks with
  | cons a b => cases hks
  | nil =>
  cases r with
  | cons h r' => cases r' with
    | cons h2 r'' => cases r'' with
      | nil =>
        cases h2
        have ht := ty_list s q _ B.sub h
        cases h with
        | list h r => exact call_isinstance (isinstance_false_list (by decide) PySem.F.isi_meta_int (by rw [isSubtype_type]; kernel_rfl)) ⟨ht, k s.heap _ q _ (.refl B.sub) (.bool _)⟩
theorem isi_none_list : FN w n (.builtin "isinstance") [.none, .raw (.type "list")] [] (.bool false) := by
  refine ⟨fun A s q E Q vs ks R B r rk hks k => ?_⟩
  cases ks with
  | cons a b => cases hks
  | nil =>
  cases r with
  | cons h r' => cases r' with
    | cons h2 r'' => cases r'' with
      | nil =>
        cases h2; cases h
        exact call_isinstance (isinstance_false_none (by decide) PySem.F.isi_meta_list (by rw [isSubtype_type]; kernel_rfl)) (k s.heap _ q _ (.refl B.sub) (.bool _))
theorem isi_none_int : FN w n (.builtin "isinstance") [.none, .raw (.type "int")] [] (.bool false) := by
  refine ⟨fun A s q E Q vs ks R B r rk hks k => ?_⟩
  cases ks with
  | cons a b => cases hks
  | nil =>
  cases r with
  | cons h r' => cases r' with
    | cons h2 r'' => cases r'' with
      | nil =>
        cases h2; cases h
        exact call_isinstance (isinstance_false_none (by decide) PySem.F.isi_meta_int (by rw [isSubtype_type]; kernel_rfl)) (k s.heap _ q _ (.refl B.sub) (.bool _))
theorem isi_int_list {i : Int} : FN w n (.builtin "isinstance") [.int i, .raw (.type "list")] [] (.bool false) := by
  refine ⟨fun A s q E Q vs ks R B r rk hks k => ?_⟩
  cases ks with
  | cons a b => cases hks
  | nil =>
  cases r with
  | cons h r' => cases r' with
    | cons h2 r'' => cases r'' with
      | nil =>
        cases h2; cases h
        exact call_isinstance (isinstance_false_int (by decide) PySem.F.isi_meta_list (by rw [isSubtype_type]; kernel_rfl)) (k s.heap _ q _ (.refl B.sub) (.bool _))

/-- a method of a built-in type -/
structure GetM (w : World) (n : Nat) (a : PV) (name : Str) (id : String) : Prop where
  run : ∀ A s q E Q va pl, Room n A → (∀ b o, q b = some o → s.heap.get? b = some o) → Rep q va a → Q (.builtin id, [va]) s → wpAny (model pw w) A (getMethod va name pl) Q E s
theorem ev_meth {o : Expr} {name : Str} {apos pos : Pos} {e : Expr} {rest : List Expr} {pl : Sem Bool} {a d : PV} {ds : List PV} {id : String} (ho : EV w n env ρ o a) (hm : GetM w n a name id) (ha : EVs w n env ρ (e :: rest) ds) (hf : FN w n (.builtin id) (a :: ds) [] d)
    (he : eval (.Call (.Attribute o name apos) (e :: rest) [] pos) env = (do
      let ov ← eval o env
      standAt apos.atName
      let (f, first) ← holding [ov] (getMethod ov name pl)
      callWith pos f first (backTo pos (starEach (e :: rest) env)) []) := by rfl)
    (hs : starEach (e :: rest) env = (false, eval e env) :: starEach rest env := by rfl) (hplain : (backTo pos (starEach rest env)).any (·.1) = false := by rfl) : EV w n env ρ (.Call (.Attribute o name apos) (e :: rest) [] pos) d := by
  refine ⟨fun A s q E Q R C k => ?_⟩
  refine MethodCall_ (ho.run A s q E _ R C fun h1 t1 q1 v g1 r1 => ?_) he
  refine hm.run A _ q1 E _ v pl R g1.sub r1 ?_
  refine callWith_method1 (ha.run pos A _ q1 E _ R (C.grow g1) fun h2 t2 q2 vs g2 r2 => ?_) hs hplain
  exact hf.run A _ q2 E _ (v :: vs) [] R ((C.grow g1).grow g2).bs (.cons (r1.mono g2.le) r2) .nil rfl fun h3 t3 q3 v g3 r3 => k h3 t3 q3 v (g1.trans (g2.trans g3)) r3
theorem ev_meth0 {o : Expr} {name : Str} {apos pos : Pos} {pl : Sem Bool} {a d : PV} {id : String} (ho : EV w n env ρ o a) (hm : GetM w n a name id) (hf : FN w n (.builtin id) [a] [] d)
    (he : eval (.Call (.Attribute o name apos) [] [] pos) env = (do
      let ov ← eval o env
      standAt apos.atName
      let (f, first) ← holding [ov] (getMethod ov name pl)
      callWith pos f first (backTo pos (starEach [] env)) []) := by rfl) : EV w n env ρ (.Call (.Attribute o name apos) [] [] pos) d := by
  refine ⟨fun A s q E Q R C k => ?_⟩
  refine MethodCall_ (ho.run A s q E _ R C fun h1 t1 q1 v g1 r1 => ?_) he
  refine hm.run A _ q1 E _ v pl R g1.sub r1 ?_
  refine callWith_method0 ?_
  exact hf.run A _ q1 E _ [v] [] R (C.grow g1).bs (.cons r1 .nil) .nil rfl fun h3 t3 q3 v g3 r3 => k h3 t3 q3 v (g1.trans g3) r3
theorem strsAre_of {q : Gh} : ∀ {vs : List Value} {xs : List Str}, RepL q vs (xs.map .str) → StrsAre vs xs
  | [], [], _ => .nil
  | v :: vs, x :: xs, r => by
    cases r with
    | cons h r => cases h; exact .cons _ _ (strsAre_of r)
  | [], x :: xs, r => by cases r
  | v :: vs, [], r => by cases r
theorem get_join {x : Str} : GetM w n (.str x) "join" "str.join" := ⟨fun A s q E Q va pl R sub r k => by cases r; exact PySem.GM.join k⟩
theorem join_ {x : Str} {xs : List Str} (hx : x.length ≤ 16) (hw : (xs.map (·.length)).sum + xs.length ≤ 1048576) : FN w n (.builtin "str.join") [.str x, .list (xs.map .str)] [] (.str (Txt.join x xs)) := by
  refine ⟨fun A s q E Q vs ks R B r rk hks k => ?_⟩
  cases ks with
  | cons a b => cases hks
  | nil =>
  cases r with
  | cons h r' => cases r' with
    | cons h2 r'' => cases r'' with
      | nil =>
        cases h
        cases h2 with
        | list h2 r2 => exact join_listW (isList_of (B.sub _ _ h2)) (by simpa using strsAre_of r2) hx hw fun t' kk => k s.heap kk q _ (.refl B.sub) (.str _ _)

theorem append_exact {A : Around} {E : Value → Shared → Prop} {s : Shared} {l : Addr} {vs : List Value} {m : Nat} {x : Value} {Q : Value → Shared → Prop} (ho : s.heap.get? l = some (listOf vs.toArray m)) (hsz : vs.length ≤ sizeLine)
    (hQ : ∀ h' m', h'.get? l = some (listOf (vs ++ [x]).toArray m') → Heap.SameBut l s.heap h' → Q .none { s with heap := h' }) : wpAny (model pw w) A (call (.builtin "list.append") [.ref l, x]) Q E s := by
  refine wpAny_call_entry slot_list_append (isList_of ho).typeIs entry_list_append ?_ (args_list_append _ _)
  show wpAny _ _ (updateSeq l (·.push x) >>= fun _ => ret .none) _ _ s
  refine wpAny_bind (wpAny_updateSeq ho rfl (wpAny_pure ⟨.none, rfl, hQ _ (if (vs.toArray.push x).size == vs.toArray.size then m else m + 1) ?_ (Heap.SameBut.update ..)⟩) (by rw [List.size_toArray]; exact hsz))
  rw [Heap.get?_update_self _ ho rfl, ← List.push_toArray]
  rfl

/-- an owned list is written: what else the frame reads stays -/
theorem Fs.writeOwn {h0 h h' : Heap} {q0 q : Gh} {x : Str} {a : Addr} {vs vs' : List Value} {m m' : Nat} {ds es : List PV} (F : Fs w env h0 q0 ρ h q) (hx : ρ x = some (.own ds)) (nv : NameVal env h x (.ref a)) (ho : h.get? a = some (listOf vs.toArray m))
    (hs : Heap.SameBut a h h') (ho' : h'.get? a = some (listOf vs'.toArray m')) (r : RepL q vs' es) : Fs w env h0 q0 (upd ρ x (.own es)) h' q := by
  obtain ⟨a', us, m1, nv', po, rl, hq⟩ := F.ctx.owns x ds hx
  cases nv'.fun nv
  have ha := F.ownsNew x ds a hx nv
  have keepN : ∀ y u, NameVal env h y u → NameVal env h' y u := fun y u n => by
    cases n with
    | loc k hn hv =>
      refine .loc k (hn.sameBut hs fun z => ?_) hv
      obtain ⟨o, es, ep, e1, e2, _⟩ := hn
      rw [z, ho] at e1; cases e1; cases e2
    | cell k hc hv =>
      refine .cell k hc (hv.sameBut hs fun z => ?_)
      obtain ⟨o, e1, e2⟩ := hv
      rw [z, ho] at e1; cases e1; cases e2
  obtain ⟨mm, hm⟩ := F.loc
  refine F.write hs ha hq ⟨mm, hm.sameBut hs fun z => ?_⟩ (fun y d e => ?_) (fun y d e => ?_) (fun y fs e => ?_) fun y z dy dz b ey ez ny nz => ?_
  · obtain ⟨o, es, ep, e1, e2, _⟩ := hm
    rw [z, ho] at e1; cases e1; cases e2
  · obtain ⟨⟨v, hv⟩, _⟩ := F.cells y d e
    refine ⟨v, hv.sameBut hs fun z => ?_⟩
    obtain ⟨o, e1, e2⟩ := hv
    rw [z, ho] at e1; cases e1; cases e2
  · by_cases hy : y = x
    · subst hy; simp only [upd, if_pos] at e; cases e
    · simp only [upd, if_neg hy] at e
      obtain ⟨u, nu, ru⟩ := F.ctx.pers y d e
      exact ⟨u, keepN y u nu, ru⟩
  · by_cases hy : y = x
    · subst hy; simp only [upd, if_pos] at e; cases e
      exact ⟨a, vs', m', keepN _ _ nv, ho', r, hq, ha⟩
    · simp only [upd, if_neg hy] at e
      obtain ⟨b, us, k, nu, po, rl, hb⟩ := F.ctx.owns y fs e
      refine ⟨b, us, k, keepN y _ nu, (hs.2 b fun z => ?_).trans po, rl, hb, F.ownsNew y fs b e nu⟩
      subst z
      exact hy (F.ownsApart y x fs ds b e hx nu nv)
  · have old : ∀ u du, (upd ρ x (.own es)) u = some (.own du) → NameVal env h' u (.ref b) → (∃ du', ρ u = some (.own du')) ∧ NameVal env h u (.ref b) := fun u du e n => by
      by_cases hu : u = x
      · subst hu
        cases (keepN _ _ nv).fun n
        exact ⟨⟨_, hx⟩, nv⟩
      · simp only [upd, if_neg hu] at e
        obtain ⟨c, _, _, nu, _⟩ := F.ctx.owns u du e
        cases (keepN _ _ nu).fun n
        exact ⟨⟨_, e⟩, nu⟩
    obtain ⟨⟨_, e1⟩, n1⟩ := old y dy ey ny
    obtain ⟨⟨_, e2⟩, n2⟩ := old z dz ez nz
    exact F.ownsApart y z _ _ b e1 e2 n1 n2
/-- x.append(e) -/
theorem x_append {x : Str} {p apos cpos pos : Pos} {e : Expr} {pl : Sem Bool} {ds : List PV} {d : PV} (hx : ρ x = some (.own ds)) (he : EV w n env ρ e d) (hsz : ds.length ≤ 1000000) (hd : (x == ("__debug__" : Str)) = false := by decide)
    (hc : eval (.Call (.Attribute (.Name x p) "append" apos) [e] [] cpos) env = (do
      let ov ← eval (.Name x p) env
      standAt apos.atName
      let (f, first) ← holding [ov] (getMethod ov "append" pl)
      callWith cpos f first (backTo cpos (starEach [e] env)) []) := by rfl)
    (hs : starEach [e] env = [(false, eval e env)] := by rfl) (hi : interactive env = false := by rfl) (hsw : swapsWith (.Call (.Attribute (.Name x p) "append" apos) [e] [] cpos) none pos.line env = pure false := by rfl) :
    X w n env ρ (.Expr (.Call (.Attribute (.Name x p) "append" apos) [e] [] cpos) pos) (.next (upd ρ x (.own (ds ++ [d])))) := by
  refine ⟨fun A s q h0 q0 E Q R F k => ?_⟩
  obtain ⟨a, vs, m, nv, ho, r, hq⟩ := F.ctx.owns x ds hx
  refine wpAny_Expr (MethodCall_ ?_ hc) hi hsw
  have ld : ∀ {Q : Value → Shared → Prop}, Q (.ref a) s → wpAny (model pw w) A (eval (.Name x p) env) Q E s := fun hQ => by
    refine wpAny_Name ?_ hd
    cases nv with
    | loc hk hn hv => exact wpAny_loadName_local F.ctx.kind hk hn hv hQ
    | cell hk hc hv => exact wpAny_loadName_cell F.ctx.kind hk hc hv hQ
  refine ld (getMethod_list_append ho rfl rfl ?_)
  refine callWith_method1 (wpAny_items_cons (he.run A s q E _ R F.ctx fun h1 t1 q1 v g1 r1 => wpAny_items_nil ?_) hs) hs rfl
  have F1 := F.grow g1
  refine append_exact (s := { s with heap := h1, toks := t1 }) (g1.keep _ _ ho) (by rw [r.length, sizeLine_eq]; omega) fun h' m' ho' hs' => ?_
  exact k h' t1 q1 _ ⟨rfl, F1.writeOwn hx (nv.keep g1.keep) (g1.keep _ _ ho) hs' ho' ((r.mono g1.le).append (.cons r1 .nil))⟩
end
end Mine

/-! ## P8 -/
namespace Mine
/-! # List comprehensions -/
noncomputable def clOf (env : Env) : List (Str × NameKind) → List (Str × Addr) → List (Str × Addr)
  | [], cs => cs
  | (n, k) :: r, cs => clOf env r (if k == .free then (match env.cells.lookup n with | some c => (n, c) :: cs | none => cs) else cs)
noncomputable def freeOk (scope : Scope) (env : Env) : Bool := scope.names.all fun x => x.2 != .free || ((env.cells.lookup x.1).isSome && env.kindOf x.1 == some .cell)
theorem forIn_cl (env : Env) : ∀ (ns : List (Str × NameKind)) (cs : List (Str × Addr)), (ns.all fun x => x.2 != .free || (env.cells.lookup x.1).isSome) = true →
    (forIn ns cs fun (x : Str × NameKind) r => (do if x.2 == .free then let a ← cellOf env x.1; pure (ForInStep.yield ((x.1, a) :: r)) else pure (ForInStep.yield r) : Sem _)) = pure (clOf env ns cs)
  | [], cs, _ => rfl
  | (n, k) :: r, cs, h => by
    rw [List.all_cons, Bool.and_eq_true] at h
    rw [List.forIn_cons]
    unfold clOf
    cases hk : k == NameKind.free with
    | false =>
      simp only [hk, Bool.false_eq_true, if_false, pure_bind]
      exact forIn_cl env r cs h.2
    | true =>
      have hk' : k = .free := by simpa using hk
      subst hk'
      have h1 := h.1
      simp only [bne_self_eq_false, Bool.false_or] at h1
      obtain ⟨c, hc⟩ := Option.isSome_iff_exists.mp h1
      simp only [hk, if_true, cellOf, hc, pure_bind]
      exact forIn_cl env r _ h.2
theorem closureFor_cl {scope : Scope} {env : Env} (h : freeOk scope env = true) : closureFor scope env = pure (clOf env scope.names []) := by
  simp only [closureFor]
  have h' : (scope.names.all fun x => x.2 != .free || (env.cells.lookup x.1).isSome) = true := by
    unfold freeOk at h
    rw [List.all_eq_true] at h ⊢
    intro x hx
    have := h x hx
    cases hk : x.2 != NameKind.free with
    | true => simp
    | false => simp only [hk, Bool.false_or, Bool.and_eq_true] at this ⊢; exact this.1
  have := forIn_cl env scope.names [] h'
  exact (congrArg (fun t => t >>= fun r => pure r) this).trans rfl
theorem clOf_mem (env : Env) : ∀ (ns : List (Str × NameKind)) (cs : List (Str × Addr)), (∀ p ∈ cs, env.cells.lookup p.1 = some p.2) → ∀ p ∈ clOf env ns cs, env.cells.lookup p.1 = some p.2
  | [], cs, h, p, hp => h p hp
  | (n, k) :: r, cs, h, p, hp => by
    unfold clOf at hp
    refine clOf_mem env r _ ?_ p hp
    intro p hp
    split at hp
    · split at hp
      · rcases List.mem_cons.mp hp with rfl | hp
        · assumption
        · exact h p hp
      · exact h p hp
    · exact h p hp
theorem clOf_has (env : Env) {y : Str} {c : Addr} (hc : env.cells.lookup y = some c) : ∀ (ns : List (Str × NameKind)) (cs : List (Str × Addr)), ((y, c) ∈ cs ∨ (y, NameKind.free) ∈ ns) → (y, c) ∈ clOf env ns cs
  | [], cs, h => by rcases h with h | h; exact h; cases h
  | (n, k) :: r, cs, h => by
    unfold clOf
    refine clOf_has env hc r _ ?_
    rcases h with h | h
    · left
      split
      · split
        · exact List.mem_cons_of_mem _ h
        · exact h
      · exact h
    · rcases List.mem_cons.mp h with e | h
      · left
        cases e
        simp only [beq_self_eq_true, if_true, hc, List.mem_cons, true_or]
      · exact .inr h
theorem lookup_of_all {α β : Type} [BEq α] [LawfulBEq α] {f : α → Option β} : ∀ {l : List (α × β)}, (∀ p ∈ l, f p.1 = some p.2) → ∀ {y c}, (y, c) ∈ l → l.lookup y = some c
  | [], _, y, c, h => by cases h
  | (n, d) :: r, hf, y, c, h => by
    rw [List.lookup_cons]
    cases hb : y == n with
    | true =>
      have : y = n := by simpa using hb
      subst this
      have h1 := hf (y, d) List.mem_cons_self
      have h2 := hf (y, c) h
      simp only at h1 h2
      rw [h1] at h2
      exact h2
    | false =>
      rcases List.mem_cons.mp h with e | h
      · cases e; simp at hb
      · exact lookup_of_all (fun p hp => hf p (List.mem_cons_of_mem _ hp)) h
theorem clOf_lookup {env : Env} {ns : List (Str × NameKind)} {y : Str} {c : Addr} (hm : (y, NameKind.free) ∈ ns) (hc : env.cells.lookup y = some c) : (clOf env ns []).lookup y = some c :=
  lookup_of_all (f := fun x => env.cells.lookup x) (clOf_mem env ns [] (fun _ h => by cases h)) (clOf_has env hc ns [] (.inr hm))
theorem lookup_relabel_free {env : Env} {y : Str} (hk : env.scope.kind = .function) (hy : env.kindOf y = some .cell) : ∀ {names : List (Str × NameKind)}, names.lookup y = some .free →
    (names.map fun (n, k) => if (k == NameKind.free && env.scope.kind == .function && env.kindOf n == some .cell) then (n, NameKind.cell) else (n, k)).lookup y = some .cell
  | [], h => by simp at h
  | (n, k) :: r, h => by
    have ih := @lookup_relabel_free env y hk hy r
    show List.lookup y ((if (k == NameKind.free && env.scope.kind == .function && env.kindOf n == some .cell) = true then (n, NameKind.cell) else (n, k)) :: _) = _
    cases hx : y == n with
    | true =>
      simp only [List.lookup_cons, hx] at h
      cases h
      have : y = n := by simpa using hx
      subst this
      rw [if_pos (by rw [hk, hy]; rfl)]
      simp [List.lookup_cons]
    | false =>
      simp only [List.lookup_cons, hx] at h
      by_cases hc : (k == .free && env.scope.kind == .function && env.kindOf n == some .cell) = true
      · rw [if_pos hc]; simp only [List.lookup_cons, hx]; exact ih h
      · rw [if_neg hc]; simp only [List.lookup_cons, hx]; exact ih h

/-- what a comprehension's block reads of the frame around it -/
noncomputable def rhoC (scope : Scope) (env : Env) (ρ : Rho) : Rho := fun y =>
  match scope.names.lookup y, env.kindOf y with
  | some .free, some .cell => (match ρ y with | some (.pers d) => some (.pers d) | _ => none)
  | _, _ => none
theorem rhoC_some {scope : Scope} {env : Env} {ρ : Rho} {y : Str} {l : LV} (h : rhoC scope env ρ y = some l) : scope.names.lookup y = some .free ∧ env.kindOf y = some .cell ∧ ∃ d, ρ y = some (.pers d) ∧ l = .pers d := by
  unfold rhoC at h
  split at h
  · rename_i h1 h2
    split at h
    · rename_i d h3
      cases h
      exact ⟨h1, h2, d, h3, rfl⟩
    · cases h
  · cases h
noncomputable abbrev cEnv (scope : Scope) (env : Env) (C : Addr) : Env := compEnvC scope (clOf env scope.names []) C env

/-- the tests of a comprehension's clause come out as b -/
structure IFS (w : World) (n : Nat) (env : Env) (ρ : Rho) (ifs : List Expr) (b : Bool) : Prop where
  run : ∀ A s q E Q, Room n A → Ctx w env ρ s.heap q →
  (∀ h' tk q', Grow s.heap q h' q' → Q b { s with heap := h', toks := tk }) →
  wpAny (model pw w) A (forIn ifs true fun c r => if r = true then do let ok ← isTrue c env (eval c env); pure (ForInStep.yield ok) else pure (ForInStep.yield r)) Q E s
section
variable {w : World} {n : Nat} {env : Env} {ρ : Rho}
theorem ifs_nil : IFS w n env ρ [] true := ⟨fun A s q E Q R C k => wpAny_tests_nil (k s.heap s.toks q (.refl C.sub))⟩
theorem ifs_one {c : Expr} {b : Bool} (h : TV w n env ρ c b) : IFS w n env ρ [c] b := ⟨fun A s q E Q R C k => wpAny_tests_one (h.run A s q E Q R C k)⟩

theorem ctx_comp {scope : Scope} {C : Addr} {h h' : Heap} {q q' : Gh} {m : Str → Option Value} {x : Str} {v : Value} {d : PV} (X : Ctx w env ρ h q) (g : Grow h q h' q') (hkind : scope.kind = .function) (hfree : freeOk scope env = true)
    (hn : h'.Ns C m) (hx : scope.names.lookup x = some .local) (hv : m x = some v) (r : Rep q' v d) : Ctx w (cEnv scope env C) (upd (rhoC scope env ρ) x (.pers d)) h' q' := by
  have Y := X.grow g
  refine ⟨Y.K, Y.top, Y.sub, hkind, Y.globals, Y.builtins, fun y e he => ?_, fun y ds he => ?_⟩
  · by_cases hy : y = x
    · subst hy
      simp only [upd, if_pos] at he
      cases he
      exact ⟨v, .loc (lookup_relabel_local hx) hn hv, r⟩
    · simp only [upd, if_neg hy] at he
      obtain ⟨h1, h2, d', h3, h4⟩ := rhoC_some he
      cases h4
      obtain ⟨u, nu, ru⟩ := Y.pers y _ h3
      refine ⟨u, ?_, ru⟩
      cases nu with
      | loc a _ _ => rw [h2] at a; cases a
      | cell a b c => exact .cell (lookup_relabel_free X.kind h2 h1) (clOf_lookup (mem_of_lookup h1) b) c
  · by_cases hy : y = x
    · subst hy
      simp only [upd, if_pos] at he
      cases he
    · simp only [upd, if_neg hy] at he
      obtain ⟨_, _, _, _, h4⟩ := rhoC_some he
      cases h4

theorem comp_core {x : Str} {px : Pos} {iter elt : Expr} {ifs : List Expr} {scope : Scope} {pos : Pos} {α : Type} {xs : List α} {gv : α → PV} {fo : α → Option PV} {RR : Value → Addr → Result → Shared → Prop}
    (hi : IT w n env ρ iter (xs.map gv)) (hfree : freeOk scope env = true) (hcell : (scope.names.all fun y => y.2 != .cell) = true) (hkind : scope.kind = .function) (hx : scope.names.lookup x = some .local)
    (turn : ∀ a ∈ xs, ∀ C, IFS w n (cEnv scope env C) (upd (rhoC scope env ρ) x (.pers (gv a))) ifs (fo a).isSome ∧ (∀ d, fo a = some d → EV w n (cEnv scope env C) (upd (rhoC scope env ρ) x (.pers (gv a))) elt d))
    (hsz : xs.length ≤ 1000000) {A : Around} {s : Shared} {q : Gh} {E : Value → Shared → Prop} (R : Room n A) (X : Ctx w env ρ s.heap q)
    (hR : ∀ D C h' tk m' q' vs k, Grow s.heap q h' q' → h'.Ns C m' → s.heap.get? C = none → q' C = none → s.heap.get? D = none → q' D = none → D ≠ C → h'.get? D = some (listOf vs.toArray k) →
      RepL q' vs (xs.filterMap fo) → RR (.ref D) C (.ok .next) { s with heap := h', toks := tk }) :
    wpAny (model pw w) A (eval iter env) (fun xv s₁ => wpAny (model pw w) A (pyIter xv) (fun it s₂ => wpAny (model pw w) A (newList []) (fun acc s₃ =>
      wpAny (model pw w) A (newFunctionEnv scope env.globals (clOf env scope.names []) [] env.qual none .none (some env)) (fun cenv s₄ =>
        codeAny (model pw w) A (.compStart (.ListComp elt [⟨.Name x px, iter, ifs, 0⟩] scope pos) 0 it acc { cenv with scope := relabel scope env }) (RR acc cenv.locals) s₄) E s₃) E s₂) E s₁) E s := by
  refine hi.run A s q E _ R X fun h1 t1 q1 I fp wr P St g1 IT => ?_
  refine wpAny_newObj_type (wpAny_newFunctionEnv (fun y hy => by have := List.all_eq_true.mp hcell y hy; simpa using this) (by intro y hy; simp at hy) (fun h₁ hns₁ hsb₁ => ?_) hkind)
  dsimp only at hns₁ hsb₁ ⊢
  generalize hH2 : h1.push { cls := .type "list", dict := none, data := .seq ([] : List Value).toArray } = H2 at hns₁ hsb₁ ⊢
  have hC : H2.objs.size = h1.objs.size + 1 := by rw [← hH2, Heap.size_push]
  generalize hDe : h1.objs.size = D at *
  generalize hCe : H2.objs.size = C at *
  have hDC : D ≠ C := by omega
  have ltD : ∀ b o, h1.get? b = some o → b < D := fun b o e => hDe ▸ Heap.lt_size e
  have neC : ∀ {b : Addr}, b < D → b ≠ C := fun {b} h => Nat.ne_of_lt (Nat.lt_of_lt_of_le h (hC ▸ Nat.le_succ D))
  have old : ∀ b o, h1.get? b = some o → h₁.get? b = some o := fun b o e => hsb₁.extBut b o (neC (ltD b o e)) (Heap.get?_push_of_some _ (hH2 ▸ Heap.get?_push_of_some _ e))
  have hD1 : h1.get? D = none := by rw [← hDe]; exact get_size_none _
  have hC1 : h1.get? C = none := by
    cases e : h1.get? C with
    | none => rfl
    | some o => exact absurd rfl (neC (ltD _ _ e))
  have n1 : ∀ {b}, h1.get? b = none → s.heap.get? b = none ∧ q1 b = none := fun {b} e => by
    constructor
    · cases z : s.heap.get? b with
      | none => rfl
      | some o => rw [g1.keep _ _ z] at e; cases e
    · cases z : q1 b with
      | none => rfl
      | some o => rw [g1.sub _ _ z] at e; cases e
  have hwrlt : ∀ b ∈ wr, b < D := fun b hb => let ⟨o, ho⟩ := IT.live _ _ IT.start b hb; ltD b o ho
  have hfplt : ∀ b ∈ fp, b < D := fun b hb => by
    rcases IT.src b hb with h | ⟨o, h⟩
    · exact hwrlt b h
    · exact ltD b o (g1.sub _ _ h)
  have hacc : h₁.get? D = some (listOf ([] : List Value).toArray 0) := hsb₁.extBut _ _ hDC (Heap.get?_push_of_some _ (hH2 ▸ hDe ▸ Heap.get?_push_size _ rfl))
  have hst₁ : St 0 h₁ := IT.walks.frame _ _ _ IT.start fun b _ o e => old b o e
  have g₁ : Grow s.heap q h₁ q1 := ⟨fun b o e => old b o (g1.keep b o e), g1.le, fun b o e => old b o (g1.sub b o e), g1.fresh⟩
  have loop : codeAny (model pw w) A (.compLoop (.ListComp elt [⟨.Name x px, iter, ifs, 0⟩] scope pos) 0 (.ref I) (.ref D) (cEnv scope env C)) (RR (.ref D) C) { s with heap := h₁, toks := t1 + ([] : List (Str × Value)).length } := by
    refine codeAny_compLoop_tests (fun k s' => ∃ i h' tk m' q' vs kk, s' = { s with heap := h', toks := tk } ∧ k = xs.length + 1 - i ∧ i ≤ xs.length ∧ St i h' ∧ h'.Ns C m' ∧ h'.get? D = some (listOf vs.toArray kk) ∧
      RepL q' vs ((xs.take i).filterMap fo) ∧ Grow s.heap q h' q' ∧ (∀ b o, q1 b = some o → q' b = some o) ∧ (∀ b ∈ wr, q' b = none) ∧ q' C = none ∧ q' D = none) ?_ (xs.length + 1)
      ⟨0, h₁, _, _, q1, [], 0, rfl, by omega, Nat.zero_le _, hst₁, hns₁, hacc, .nil, g₁, fun _ _ e => e, IT.gh, (n1 hC1).2, (n1 hD1).2⟩
    rintro k s' ⟨i, h', tk, m', q', vs, kk, rfl, hk, hile, hst, hns, hD, hrep, g, hle, hwr, hqC, hqD⟩
    by_cases hlt : i < xs.length
    · refine IT.walks.item i _ _ _ (by rw [List.length_map]; exact hlt) hst fun v h2 tk2 hP hst2 hk2 => ?_
      obtain ⟨d, hd, rd⟩ := IT.item i v (by rw [List.length_map]; exact hlt) hP
      obtain ⟨a, ha, hga⟩ : ∃ a, xs[i]? = some a ∧ gv a = d := by
        rw [List.getElem?_map] at hd
        cases hx : xs[i]? with
        | none => rw [hx] at hd; cases hd
        | some a => rw [hx] at hd; exact ⟨a, rfl, Option.some.inj hd⟩
      subst hga
      have hCw : C ∉ wr := fun h => neC (hwrlt _ h) rfl
      have hDw : D ∉ wr := fun h => Nat.lt_irrefl _ (hwrlt _ h)
      have g2 : Grow s.heap q h2 q' := ⟨fun b o e => hk2 b o (fun m => by have := IT.new b m; rw [e] at this; cases this) (g.keep b o e), g.le, fun b o e => hk2 b o (fun m => by rw [hwr b m] at e; cases e) (g.sub b o e), g.fresh⟩
      refine wpAny_assign_Name (wpAny_storeName_local (lookup_relabel_local hx) (hns.at' fun o e => hk2 _ o hCw e) (fun h3 hn3 hs3 => ?_) (by show (scope.kind == .class || (scope.kind == .module && _)) = false; rw [hkind]; rfl))
      have g3 : Grow s.heap q h3 q' := ⟨fun b o e => hs3.extBut b o (by rintro rfl; rw [(n1 hC1).1] at e; cases e) (g2.keep b o e), g.le, fun b o e => hs3.extBut b o (by rintro rfl; rw [hqC] at e; cases e) (g2.sub b o e), g.fresh⟩
      have hst3 : St (i + 1) h3 := IT.walks.frame _ _ _ hst2 fun b hb o e => hs3.extBut b o (neC (hfplt b hb)) e
      have hD3 : h3.get? D = some (listOf vs.toArray kk) := hs3.extBut _ _ hDC (hk2 _ _ hDw hD)
      obtain ⟨hT, hE⟩ := turn a (List.mem_of_getElem? ha) C
      have X3 := ctx_comp X g3 hkind hfree hn3 hx (by rw [if_pos rfl]) (rd.mono hle)
      refine hT.run A _ q' _ _ R X3 fun h4 tk4 q4 g4 => ?_
      have hsplit : xs.take (i + 1) = xs.take i ++ [a] := by rw [List.take_add_one, ha]; rfl
      have live3 : ∀ b ∈ wr, ∃ o, h3.get? b = some o := fun b hb => IT.live _ _ hst3 b hb
      have still : ∀ {b : Addr} {o : Obj} {hh qq hh' qq'}, Grow hh qq hh' qq' → hh.get? b = some o → qq b = none → qq' b = none := fun g ho hq => ghost_still g ho hq
      obtain ⟨oC, hoC⟩ : ∃ o, h3.get? C = some o := let ⟨o, _, _, e, _⟩ := hn3; ⟨o, e⟩
      have hst4 : St (i + 1) h4 := IT.walks.frame _ _ _ hst3 fun b _ o e => g4.keep b o e
      cases hp : fo a with
      | none =>
        simp only [Option.isSome_none, Bool.false_eq_true, if_false]
        refine ⟨xs.length + 1 - (i + 1), by omega, i + 1, h4, tk4, _, q4, vs, kk, rfl, rfl, hlt, hst4, hn3.keeps g4.keep, g4.keep _ _ hD3, ?_, g3.trans g4, fun b o e => g4.le _ _ (hle _ _ e), fun b hb => ?_, still g4 hoC hqC, still g4 hD3 hqD⟩
        · rw [hsplit, List.filterMap_append]; simpa [hp] using hrep.mono g4.le
        · obtain ⟨o, ho⟩ := live3 b hb; exact still g4 ho (hwr b hb)
      | some d =>
        simp only [Option.isSome_some, if_true]
        refine (hE d hp).run A _ q4 _ _ R (X3.grow g4) fun h5 tk5 q5 v5 g5 r5 => ?_
        have g45 := g4.trans g5
        have hD5 := g45.keep _ _ hD3
        have qC5 := still g45 hoC hqC
        have qD5 := still g45 hD3 hqD
        refine append_exact (s := { s with heap := h5, toks := tk5 }) hD5 (by
          have e1 := hrep.length
          have e2 : ((xs.take i).filterMap fo).length ≤ (xs.take i).length := List.length_filterMap_le _ _
          have e3 := List.length_take_le i xs
          rw [sizeLine_eq]; omega) fun h6 k6 hD6 hs6 => ?_
        have g35 := g3.trans g45
        have g6 : Grow s.heap q h6 q5 := ⟨fun b o e => hs6.extBut b o (by rintro rfl; rw [(n1 hD1).1] at e; cases e) (g35.keep b o e), g35.le, fun b o e => hs6.extBut b o (by rintro rfl; rw [qD5] at e; cases e) (g35.sub b o e), g35.fresh⟩
        refine ⟨xs.length + 1 - (i + 1), by omega, i + 1, h6, tk5, _, q5, vs ++ [v5], k6, rfl, rfl, hlt, ?_, (hn3.keeps g45.keep).sameBut hs6 (Ne.symm hDC), hD6, ?_, g6, fun b o e => g45.le _ _ (hle _ _ e), fun b hb => ?_, qC5, qD5⟩
        · exact IT.walks.frame _ _ _ hst4 fun b hb o e => hs6.extBut b o (Nat.ne_of_lt (hfplt b hb)) (g5.keep b o e)
        · rw [hsplit, List.filterMap_append]
          have : List.filterMap fo [a] = [d] := by simp [hp]
          rw [this]
          exact (hrep.mono g45.le).append (.cons r5 .nil)
        · obtain ⟨o, ho⟩ := live3 b hb; exact still g45 ho (hwr b hb)
    · have hi' : i = xs.length := by omega
      subst hi'
      have hCw : C ∉ wr := fun h => neC (hwrlt _ h) rfl
      have hDw : D ∉ wr := fun h => Nat.lt_irrefl _ (hwrlt _ h)
      refine IT.walks.done _ _ _ (by rw [List.length_map]; exact hst) fun h2 tk2 hk2 => ?_
      refine hR D C h2 tk2 m' q' vs kk ⟨fun b o e => hk2 b o (fun m => by have := IT.new b m; rw [e] at this; cases this) (g.keep b o e), g.le, fun b o e => hk2 b o (fun m => by rw [hwr b m] at e; cases e) (g.sub b o e), g.fresh⟩
        (hns.at' fun o e => hk2 _ o hCw e) (n1 hC1).1 hqC (n1 hD1).1 hqD hDC (hk2 _ _ hDw hD) ?_
      rwa [List.take_length] at hrep
  exact codeAny_compStart_list loop (IT.walks.self 0 _ _ _ hst₁ loop)

noncomputable def namesOk (scope : Scope) : Bool := scope.names.all fun y => y.2 != .local || scope.names.lookup y.1 == some .local
theorem namesOk_ {scope : Scope} (h : namesOk scope = true) : ∀ y ∈ scope.names, y.2 = .local → scope.names.lookup y.1 = some .local := fun y hy e => by
  have := List.all_eq_true.mp h y hy
  rw [e] at this
  simpa using this
end
end Mine

/-! ## P9 -/
namespace Mine
/-- evaluating e gives a list of its own -/
structure EVO (w : World) (n : Nat) (env : Env) (ρ : Rho) (e : Expr) (ds : List PV) : Prop where
  run : ∀ A s q E Q, Room n A → Ctx w env ρ s.heap q →
  (∀ h' tk q' a vs m, Grow s.heap q h' q' → h'.get? a = some (listOf vs.toArray m) → RepL q' vs ds → s.heap.get? a = none → q' a = none → Q (.ref a) { s with heap := h', toks := tk }) → wpAny (model pw w) A (eval e env) Q E s
section
variable {w : World} {n : Nat} {env : Env} {ρ : Rho}
theorem Grow.put {h h' : Heap} {q q' : Gh} {D : Addr} {o : Obj} (g : Grow h q h' q') (hD : h.get? D = none) (qD : q' D = none) (ho : h'.get? D = some o) : Grow h q h' (Mine.put q' D o) := by
  refine ⟨g.keep, fun b x e => put_le qD b x (g.le b x e), fun b x e => ?_, fun b x e => ?_⟩
  · by_cases hb : b = D
    · subst hb; rw [put_self] at e; cases e; exact ho
    · rw [put_ne hb] at e; exact g.sub b x e
  · by_cases hb : b = D
    · subst hb; exact .inr hD
    · rw [put_ne hb] at e; exact g.fresh b x e
theorem EVO.ev {e : Expr} {ds : List PV} (h : EVO w n env ρ e ds) : EV w n env ρ e (.list ds) := by
  refine ⟨fun A s q E Q R X k => ?_⟩
  refine h.run A s q E Q R X fun h' tk q' a vs m g ho r hn hq => ?_
  exact k h' tk (Mine.put q' a (listOf vs.toArray m)) _ (g.put hn hq ho) (.list put_self (r.mono (put_le hq)))
theorem Grow.dropC {h h' h'' : Heap} {q q' : Gh} {C : Addr} (g : Grow h q h' q') (hs : Heap.SameBut C h' h'') (hC : h.get? C = none) (qC : q' C = none) : Grow h q h'' q' :=
  ⟨fun b x e => hs.extBut b x (by rintro rfl; rw [hC] at e; cases e) (g.keep b x e), g.le, fun b x e => hs.extBut b x (by rintro rfl; rw [qC] at e; cases e) (g.sub b x e), g.fresh⟩
theorem evo_comp {x : Str} {px : Pos} {iter elt : Expr} {ifs : List Expr} {scope : Scope} {pos : Pos} {α : Type} {xs : List α} (gv : α → PV) (fo : α → Option PV)
    (hi : IT w n env ρ iter (xs.map gv))
    (turn : ∀ a ∈ xs, ∀ C, IFS w n (cEnv scope env C) (upd (rhoC scope env ρ) x (.pers (gv a))) ifs (fo a).isSome ∧ (∀ d, fo a = some d → EV w n (cEnv scope env C) (upd (rhoC scope env ρ) x (.pers (gv a))) elt d))
    (hsz : xs.length ≤ 1000000) (hfree : freeOk scope env = true := by rfl) (hcell : (scope.names.all fun y => y.2 != .cell) = true := by rfl) (hkind : scope.kind = .function := by rfl) (hx : scope.names.lookup x = some .local := by rfl)
    (hnm : namesOk scope = true := by rfl) (hs : ∀ x, foldedSetIterable iter env x = pure x := by intro _; rfl) : EVO w n env ρ (.ListComp elt [⟨.Name x px, iter, ifs, 0⟩] scope pos) (xs.filterMap fo) := by
  refine ⟨fun A s q E Q R X k => ?_⟩
  rw [eval_ListComp]
  refine wpAny_comprehension_free (use := none) rfl hs (closureFor_cl hfree) hkind (namesOk_ hnm) ?_
  refine comp_core (RR := fun acc C => compPost (model pw w) A E none Q acc C) hi hfree hcell hkind hx turn hsz R X ?_
  intro D C h' tk m' q' vs kk g hn hC qC hD qD hDC ho r
  refine ⟨m', hn, fun h'' hs'' => ?_⟩
  exact k h'' tk q' D vs kk (g.dropC hs'' hC qC) (hs''.extBut _ _ hDC ho) r hD qD
/-- a name gets a list of its own -/
theorem x_assign_own {x : Str} {p pos : Pos} {e : Expr} {ds : List PV} (he : EVO w n env ρ e ds) (hx : canStore env x = true) (hs : swapsWith e (some (.Name x p)) pos.line env = pure false := by rfl) :
    X w n env ρ (.Assign [.Name x p] e pos) (.next (upd ρ x (.own ds))) := by
  refine ⟨fun A s q h0 q0 E Q R F k => ?_⟩
  refine wpAny_Assign_Name (he.run A s q E _ R F.ctx fun h1 t1 q1 a vs m g1 ho r1 hn hq => ?_) hs
  have F1 := F.grow g1
  refine store_own (s := { s with heap := h1, toks := t1 }) F1 hx ho r1 hq ?_ ?_ fun h2 t2 _ _ _ F2 => k h2 t2 q1 _ ⟨rfl, F2⟩
  · cases z : h0.get? a with
    | none => rfl
    | some o => rw [F.g.keep _ _ z] at hn; cases hn
  · intro y dy ey nv
    obtain ⟨b, us, l, nb, hb, _⟩ := F.ctx.owns y dy ey
    cases (nb.keep g1.keep).fun nv
    rw [hb] at hn; cases hn
theorem x_assign_comp {x y : Str} {px py : Pos} {iter elt : Expr} {ifs : List Expr} {scope : Scope} {pos spos : Pos} {α : Type} {xs : List α} (gv : α → PV) (fo : α → Option PV)
    (hi : IT w n env ρ iter (xs.map gv))
    (turn : ∀ a ∈ xs, ∀ C, IFS w n (cEnv scope env C) (upd (rhoC scope env ρ) x (.pers (gv a))) ifs (fo a).isSome ∧ (∀ d, fo a = some d → EV w n (cEnv scope env C) (upd (rhoC scope env ρ) x (.pers (gv a))) elt d))
    (hsz : xs.length ≤ 1000000) (hy : canStore env y = true)
    (hsw : swapsWith (.ListComp elt [⟨.Name x px, iter, ifs, 0⟩] scope pos) (some (.Name y py)) spos.line env = pure true := by rfl)
    (hfree : freeOk scope env = true := by rfl) (hcell : (scope.names.all fun y => y.2 != .cell) = true := by rfl) (hkind : scope.kind = .function := by rfl) (hx : scope.names.lookup x = some .local := by rfl)
    (hnm : namesOk scope = true := by rfl) (hs : ∀ x, foldedSetIterable iter env x = pure x := by intro _; rfl) :
    X w n env ρ (.Assign [.Name y py] (.ListComp elt [⟨.Name x px, iter, ifs, 0⟩] scope pos) spos) (.next (upd ρ y (.own (xs.filterMap fo)))) := by
  refine ⟨fun A s q h0 q0 E Q R F k => ?_⟩
  rw [exec_Assign_Name_used _ _ _ _ hsw]
  refine wpAny_bind (wpAny_standAt (wpAny_bind ?_))
  show wpAny _ A (do let _ ← comprehension (.ListComp elt [⟨.Name x px, iter, ifs, 0⟩] scope pos) scope env _ (newList []) false (eval iter env) (some (assign (.Name y py) env))) _ _ s
  refine wpAny_bind (wpAny_mono (wpAny_comprehension_free (use := some (assign (.Name y py) env)) (Q := fun _ s' => Q .next s') rfl hs (closureFor_cl hfree) hkind (namesOk_ hnm) ?_) (fun _ s' hq => wpAny_pure (wpAny_pure hq)) fun _ _ e => e)
  refine comp_core (RR := fun acc C => compPost (model pw w) A E (some (assign (.Name y py) env)) (fun _ s' => Q .next s') acc C) hi hfree hcell hkind hx turn hsz R F.ctx ?_
  intro D C h' tk m' q' vs kk g hn hC qC hD qD hDC ho r
  show wpAny _ A (assign (.Name y py) env (.ref D)) _ _ _
  have F1 := F.grow g
  have h0n : ∀ {a}, s.heap.get? a = none → h0.get? a = none := fun {a} hn => by
    cases z : h0.get? a with
    | none => rfl
    | some o => rw [F.g.keep _ _ z] at hn; cases hn
  refine wpAny_assign_Name (store_own (s := { s with heap := h', toks := tk }) F1 hy ho r qD (h0n hD) ?_ fun h2 t2 c hs2 hcw F2 => ?_)
  · intro z dy ey nv
    obtain ⟨b, us, l, nb, hb, _⟩ := F.ctx.owns z dy ey
    cases (nb.keep g.keep).fun nv
    rw [hb] at hD; cases hD
  · have cC : C ≠ c := by
      rintro rfl
      rcases hcw with e | ⟨z, e⟩
      · obtain ⟨_, o, _, _, e1, _⟩ := F.loc
        rw [← e, hC] at e1; cases e1
      · obtain ⟨⟨_, o, e1, _⟩, _⟩ := F.cells z C e
        rw [hC] at e1; cases e1
    refine ⟨m', hn.sameBut hs2 cC, fun h3 hs3 => ?_⟩
    refine k h3 t2 q' _ ⟨rfl, ?_⟩
    have nP : ¬ Priv env (upd ρ y (.own (xs.filterMap fo))) h2 C := by
      intro pv
      rcases pv with e | ⟨z, e⟩ | ⟨z, ds', e, nv⟩
      · obtain ⟨_, o, _, _, e1, _⟩ := F.loc
        rw [← e, hC] at e1; cases e1
      · obtain ⟨⟨_, o, e1, _⟩, _⟩ := F.cells z C e
        rw [hC] at e1; cases e1
      · obtain ⟨a, us, l, na, ha, _⟩ := F2.ctx.owns z ds' e
        cases na.fun nv
        obtain ⟨o, es, ep, e1, e2, _⟩ := hn.sameBut hs2 cC
        rw [ha] at e1; cases e1; cases e2
    exact F2.moved (wr := [C]) (fun b hb => by rw [List.mem_singleton] at hb; subst hb; exact ⟨h0n hC, qC, nP⟩) fun b o hb e => hs3.extBut b o (by simpa using hb) e
theorem filterMap_map' {α : Type} {f : α → PV} : ∀ xs : List α, xs.filterMap (fun a => some (f a)) = xs.map f
  | [] => rfl
  | a :: r => by simp
/-- [elt for x in iter] -/
theorem evo_compM {x : Str} {px : Pos} {iter elt : Expr} {scope : Scope} {pos : Pos} {α : Type} {xs : List α} (gv : α → PV) (f : α → PV)
    (hi : IT w n env ρ iter (xs.map gv)) (turn : ∀ a ∈ xs, ∀ C, EV w n (cEnv scope env C) (upd (rhoC scope env ρ) x (.pers (gv a))) elt (f a))
    (hsz : xs.length ≤ 1000000) (hfree : freeOk scope env = true := by rfl) (hcell : (scope.names.all fun y => y.2 != .cell) = true := by rfl) (hkind : scope.kind = .function := by rfl) (hx : scope.names.lookup x = some .local := by rfl)
    (hnm : namesOk scope = true := by rfl) (hs : ∀ x, foldedSetIterable iter env x = pure x := by intro _; rfl) : EVO w n env ρ (.ListComp elt [⟨.Name x px, iter, [], 0⟩] scope pos) (xs.map f) := by
  have := evo_comp (elt := elt) (ifs := []) (px := px) (pos := pos) gv (fun a => some (f a)) hi (fun a ha C => ⟨ifs_nil, fun d e => by cases e; exact turn a ha C⟩) hsz hfree hcell hkind hx hnm hs
  rwa [filterMap_map'] at this
/-- y = [elt for x in iter] -/
theorem x_assign_compM {x y : Str} {px py : Pos} {iter elt : Expr} {scope : Scope} {pos spos : Pos} {α : Type} {xs : List α} (gv : α → PV) (f : α → PV)
    (hi : IT w n env ρ iter (xs.map gv)) (turn : ∀ a ∈ xs, ∀ C, EV w n (cEnv scope env C) (upd (rhoC scope env ρ) x (.pers (gv a))) elt (f a))
    (hsz : xs.length ≤ 1000000) (hy : canStore env y = true)
    (hsw : swapsWith (.ListComp elt [⟨.Name x px, iter, [], 0⟩] scope pos) (some (.Name y py)) spos.line env = pure true := by rfl)
    (hfree : freeOk scope env = true := by rfl) (hcell : (scope.names.all fun y => y.2 != .cell) = true := by rfl) (hkind : scope.kind = .function := by rfl) (hx : scope.names.lookup x = some .local := by rfl)
    (hnm : namesOk scope = true := by rfl) (hs : ∀ x, foldedSetIterable iter env x = pure x := by intro _; rfl) :
    X w n env ρ (.Assign [.Name y py] (.ListComp elt [⟨.Name x px, iter, [], 0⟩] scope pos) spos) (.next (upd ρ y (.own (xs.map f)))) := by
  have := x_assign_comp (elt := elt) (ifs := []) (px := px) (pos := pos) (py := py) gv (fun a => some (f a)) hi (fun a ha C => ⟨ifs_nil, fun d e => by cases e; exact turn a ha C⟩) hsz hy hsw hfree hcell hkind hx hnm hs
  rwa [filterMap_map'] at this
end
end Mine

/-! ## P10 -/
namespace Mine
section
variable {w : World} {n : Nat} {env : Env} {ρ : Rho}
theorem Iter.ofPush {A : Around} {h0 h1 : Heap} {q q1 : Gh} {ds : List PV} {o : Obj} {fp : List Addr} {P : Nat → Value → Prop} {St : Nat → Heap → Prop} (g : Grow h0 q h1 q1)
    (W : Walks pw w A h1.objs.size fp [h1.objs.size] ds.length P St) (st : St 0 (h1.push o)) (lv : ∀ i h, St i h → ∃ o, h.get? h1.objs.size = some o) (it : ∀ i v, i < ds.length → P i v → ∃ d, ds[i]? = some d ∧ Rep q1 v d)
    (src : ∀ b ∈ fp, b = h1.objs.size ∨ ∃ o, q1 b = some o) : Grow h0 q (h1.push o) q1 ∧ Iter w A h0 (h1.push o) q1 ds h1.objs.size fp [h1.objs.size] P St := by
  have lift : Keep h1 (h1.push o) := fun b o e => Heap.get?_push_of_some _ e
  refine ⟨g.trans (Grow.heap g.sub lift), W, st, fun i h s b hb => ?_, it, fun b hb => ?_, fun b hb => ?_, fun b hb => ?_⟩
  · rw [List.mem_singleton] at hb; subst hb; exact lv i h s
  · rw [List.mem_singleton] at hb
    subst hb
    cases z : h0.get? h1.objs.size with
    | none => rfl
    | some o => exact absurd (Heap.lt_size (g.keep _ _ z)) (Nat.lt_irrefl _)
  · rw [List.mem_singleton] at hb
    subst hb
    cases z : q1 h1.objs.size with
    | none => rfl
    | some o => exact absurd (Heap.lt_size (g.sub _ _ z)) (Nat.lt_irrefl _)
  · rcases src b hb with h | h
    · exact .inl (List.mem_singleton.mpr h)
    · exact .inr h
theorem isTuple_of {h : Heap} {a : Addr} {vs : List Value} {n : Nat} (e : h.get? a = some (tupOf vs.toArray n)) : h.IsTuple a vs.toArray := ⟨_, e, rfl, n, rfl⟩
theorem it_tuple {e : Expr} {ds : List PV} (he : EV w n env ρ e (.tuple ds)) : IT w n env ρ e ds := by
  refine ⟨fun A s q E Q R C k => ?_⟩
  refine he.run A s q E _ R C fun h1 t1 q1 v g1 r => ?_
  cases r with
  | @tuple a vs ds m ha r =>
    have hl := isTuple_of (g1.sub _ _ ha)
    have hne : a ≠ h1.objs.size := Nat.ne_of_lt (Heap.lt_size (g1.sub _ _ ha))
    refine wpAny_pyIter_tuple hl ?_
    have e : vs.toArray.size = ds.length := by rw [List.size_toArray, r.length]
    obtain ⟨g2, IT⟩ := Iter.ofPush (o := { cls := .type "tuple_iterator", data := .fields #[.ref a, .int 0 0] }) g1 (e ▸ Walks.tuple (prog := pw) (w := w) R.handled h1.objs.size a hne vs.toArray)
      ⟨⟨_, Heap.get?_push_size _ rfl, rfl, rfl⟩, hl.at fun o e => Heap.get?_push_of_some _ e⟩ (fun i h st => let ⟨o, ho, _⟩ := st.1; ⟨o, ho⟩) (fun i v hlt hv => by
        obtain ⟨v', hv', rv⟩ := r.get (i := i) (d := ds[i]'hlt) (by simp)
        have : v' = v := by
          have h2 : vs[i]? = some v := by simpa using hv
          rw [hv'] at h2; exact Option.some.inj h2
        subst this
        exact ⟨_, by simp, rv⟩) (fun b hb => by
          rcases List.mem_cons.mp hb with rfl | hb
          · exact .inl rfl
          · rw [List.mem_singleton] at hb; subst hb; exact .inr ⟨_, ha⟩)
    exact k _ t1 q1 _ _ _ _ _ g2 IT
noncomputable def bytesPV (b : Array UInt8) : List PV := b.toList.map fun c => .int c.toNat
theorem it_bytes {e : Expr} {b : Array UInt8} (he : EV w n env ρ e (.bytes b)) : IT w n env ρ e (bytesPV b) := by
  refine ⟨fun A s q E Q R C k => ?_⟩
  refine he.run A s q E _ R C fun h1 t1 q1 v g1 r => ?_
  cases r with
  | bytes b t =>
    refine KBw.pyIter_bytes ?_
    have e : b.size = (bytesPV b).length := by simp [bytesPV]
    obtain ⟨g2, IT⟩ := Iter.ofPush (ds := bytesPV b) (o := { cls := .type "bytes_iterator", data := .fields #[.bytes b t, .int 0 0] }) g1 (e ▸ KBw.walks (prog := pw) (w := w) R.handled h1.objs.size b t)
      ⟨_, Heap.get?_push_size _ rfl, rfl, rfl⟩ (fun i h st => let ⟨o, ho, _⟩ := st; ⟨o, ho⟩) (fun i v hlt hv => by
        obtain ⟨c, u, hc, rfl⟩ := hv
        exact ⟨.int (c.toNat : Int), by simp [bytesPV, hc], .int _ _⟩) (fun b hb => by
          rw [List.mem_singleton] at hb; exact .inl hb)
    exact k _ t1 q1 _ _ _ _ _ g2 IT
noncomputable def rangePV (m : Nat) : List PV := (List.range m).map fun i => .int (Int.ofNat i)
theorem it_range {g : Str} {p pos : Pos} {e : Expr} {m : Nat} (hg : EV w n env ρ (.Name g p) (.raw (.type "range"))) (he : EV w n env ρ e (.int m)) (hm : m < 2 ^ 60)
    (hs : starEach [e] env = [(false, eval e env)] := by rfl) : IT w n env ρ (.Call (.Name g p) [e] [] pos) (rangePV m) := by
  refine ⟨fun A s q E Q R C k => ?_⟩
  refine wpAny_Call_NameR (hg.run A s q E _ R C fun h1 t1 q1 v g1 r1 => ?_)
  cases r1
  refine PyProof.Rows.callWith_type1 (wpAny_items_cons (he.run A _ q1 E _ R (C.grow g1) fun h2 t2 q2 v g2 r2 => wpAny_items_nil ?_) hs) hs rfl
  cases r2
  refine call_range_1 (wpAny_pyIter_range (IsRange.new _ _ _ _ _ _ _) (small_one (by omega) (by omega) (by omega) (by omega)) ?_)
  dsimp only
  have hz : Builtin.Range.rangeSize 0 (m : Int) 1 = ((rangePV m).length : Int) := by
    rw [rangeSize_one]
    simp only [rangePV, List.length_map, List.length_range]
    split <;> omega
  rw [hz]
  generalize hH : h2.push _ = H
  have gH : Grow s.heap q H q2 := (g1.trans g2).trans (Grow.heap g2.sub fun b o e => hH ▸ Heap.get?_push_of_some _ e)
  obtain ⟨g3, IT⟩ := Iter.ofPush (ds := rangePV m) (o := { cls := .type "range_iterator", data := .fields #[rawInt 0, rawInt ((rangePV m).length : Int), rawInt 1] }) gH (Walks.range (prog := pw) (w := w) R.handled H.objs.size 0 1 (rangePV m).length)
    (by
      show Heap.get? _ _ = _
      refine (Heap.get?_push_size _ rfl).trans ?_
      simp) (fun i h st => ⟨_, st⟩) (fun i v hlt hv => by
      obtain ⟨t, rfl⟩ := hv
      have hlt' : i < m := by simpa [rangePV] using hlt
      refine ⟨.int (Int.ofNat i), by simp [rangePV, hlt'], ?_⟩
      have : (0 + (i : Int) * 1) = Int.ofNat i := by show _ = (i : Int); omega
      rw [this]
      exact .int _ _) (fun b hb => by rw [List.mem_singleton] at hb; exact .inl hb)
  exact k _ _ q2 _ _ _ _ _ g3 IT
end
end Mine

/-! ## P11 -/
namespace Mine
section
variable {w : World} {n : Nat} {env : Env} {ρ : Rho}
theorem evo_list {es : List Expr} {ds : List PV} {pos : Pos} (h : EVs w n env ρ es ds) (hl : ds.length ≤ 100) : EVO w n env ρ (.List es pos) ds := by
  refine ⟨fun A s q E Q R X k => ?_⟩
  refine wpAny_List (h.run pos A s q E _ R X fun h1 t1 q1 vs g1 r1 => ⟨by rw [r1.length, sizeLine_eq]; omega, ?_⟩)
  dsimp only
  refine k _ t1 q1 h1.objs.size vs 0 (g1.trans (Grow.heap g1.sub fun b o e => Heap.get?_push_of_some _ e)) (Heap.get?_push_size _ rfl) r1 ?_ ?_
  · cases z : s.heap.get? h1.objs.size with
    | none => rfl
    | some o => exact absurd (Heap.lt_size (g1.keep _ _ z)) (Nat.lt_irrefl _)
  · cases z : q1 h1.objs.size with
    | none => rfl
    | some o => exact absurd (Heap.lt_size (g1.sub _ _ z)) (Nat.lt_irrefl _)
theorem ev_tuple {es : List Expr} {ds : List PV} {kk : Nat} {pos : Pos} (h : EVs w n env ρ es ds) (hl : ds.length ≤ 100) : EV w n env ρ (.Tuple es kk pos) (.tuple ds) := by
  refine ⟨fun A s q E Q R X k => ?_⟩
  refine wpAny_Tuple (h.run pos A s q E _ R X fun h1 t1 q1 vs g1 r1 => ⟨by rw [r1.length, sizeLine_eq]; omega, ?_⟩)
  dsimp only
  have g2 := Grow.push (o := { cls := .type "tuple", data := .seq vs.toArray }) g1.sub
  exact k _ t1 _ _ (g1.trans g2) (.tuple (n := 0) put_self (r1.mono g2.le))
end
noncomputable def HARD : Int := 2147483648
noncomputable def word (i : Int) (mark : Str) : Str := if i < HARD then dec i else dec (i - HARD) ++ mark
theorem dec_len {i : Int} (h : i.natAbs < 10 ^ 12) : (dec i).length ≤ 13 := by
  show (Str.ofString (toString i)).length ≤ 13
  rw [PySem.ofString_length]
  exact int_text_length_le10 (by decide) h
theorem word_len {i : Int} {mark : Str} (h : i.natAbs < 10 ^ 11) (hm : mark.length ≤ 1) : (word i mark).length ≤ 14 := by
  unfold word HARD
  split
  · have := dec_len (i := i) (by omega); omega
  · have := dec_len (i := i - 2147483648) (by omega)
    rw [PySem.Str.length_append]; omega
section
variable {w : World} {n : Nat} {env : Env} {ρ : Rho}
theorem g_lawhard {pos : Pos} (hx : env.kindOf "_law_hardened" = some .globalImplicit) : EV w n env ρ (.Name "_law_hardened" pos) (.int HARD) := ev_global_int (t := 1371) (by rfl) hx
theorem g_hard {pos : Pos} (hx : env.kindOf "HARDENED_INDEX" = some .globalImplicit) : EV w n env ρ (.Name "HARDENED_INDEX" pos) (.int HARD) := ev_global_int (t := 1142) (by rfl) hx
theorem g_str {pos : Pos} (hx : env.kindOf "str" = some .globalImplicit) : EV w n env ρ (.Name "str" pos) (.raw (.type "str")) := ev_builtin (by rfl) (by boot_fast) (by decide) hx
theorem g_int {pos : Pos} (hx : env.kindOf "int" = some .globalImplicit) : EV w n env ρ (.Name "int" pos) (.raw (.type "int")) := ev_builtin (by rfl) (by boot_fast) (by decide) hx
theorem g_list {pos : Pos} (hx : env.kindOf "list" = some .globalImplicit) : EV w n env ρ (.Name "list" pos) (.raw (.type "list")) := ev_builtin (by rfl) (by boot_fast) (by decide) hx
theorem g_bytes {pos : Pos} (hx : env.kindOf "bytes" = some .globalImplicit) : EV w n env ρ (.Name "bytes" pos) (.raw (.type "bytes")) := ev_builtin (by rfl) (by boot_fast) (by decide) hx
theorem g_range {pos : Pos} (hx : env.kindOf "range" = some .globalImplicit) : EV w n env ρ (.Name "range" pos) (.raw (.type "range")) := ev_builtin (by rfl) (by boot_fast) (by decide) hx
theorem g_len {pos : Pos} (hx : env.kindOf "len" = some .globalImplicit) : EV w n env ρ (.Name "len" pos) (.raw (.builtin "len")) := ev_builtin (by rfl) (by boot_fast) (by decide) hx
theorem g_isinstance {pos : Pos} (hx : env.kindOf "isinstance" = some .globalImplicit) : EV w n env ρ (.Name "isinstance" pos) (.raw (.builtin "isinstance")) := ev_builtin (by rfl) (by boot_fast) (by decide) hx
theorem g_fn {x : Str} {pos : Pos} {a : Addr} (hx : env.kindOf x = some .globalImplicit) (e : nsIn (K w.params) mainGlobals x = some (some (.ref a)) := by rfl) (hd : (x == ("__debug__" : Str)) = false := by decide) : EV w n env ρ (.Name x pos) (.raw (.ref a)) := ev_global e hx hd
end
theorem K_word (w : World) : (K w.params).lookup 919 = some (o919 w.params) := by rfl
theorem fn_word {w : World} {i : Int} {mark : Str} (hi : i.natAbs < 10 ^ 11) (hm : mark.length ≤ 1) : FN w 1 (.ref 919) [.int i, .str mark] [] (.str (word i mark)) := by
  refine fn_intro (ps := [("index", .int i), ("mark", .str mark)]) (out := .ret (.str (word i mark))) (K_word w) (by rfl) ?_ ["index", "mark"] (by rfl) (by decide) rfl rfl rfl ?_ rfl
  · intro s q vs B r
    cases r with
    | cons h1 r => cases r with
      | cons h2 r => cases r with
        | nil => exact ⟨_, BindsTo.of_eq rfl, .cons h1 (.cons h2 .nil)⟩
  · intro L
    refine xs_one (x_return ?_)
    refine ev_if (c := decide (i < HARD)) (tv_cmp (ev_name rfl) (g_lawhard rfl) cmp_lt_int) ?_
    unfold word
    by_cases h : i < HARD
    · rw [if_pos (decide_eq_true h), if_pos h]
      exact ev_callT (g_str rfl) (evs_cons (ev_name rfl) evs_nil) (str_int_ (by omega))
    · rw [if_neg (by simpa using h), if_neg h]
      refine ev_bin (ev_callT (g_str rfl) (evs_cons (ev_bin (ev_name rfl) (g_lawhard rfl) op_sub_int) evs_nil) (str_int_ ?_)) (ev_name rfl) (op_add_str ?_)
      · unfold HARD; omega
      · have := dec_len (i := i - HARD) (by unfold HARD; omega)
        rw [sizeLine_eq]; omega
end Mine

/-! ## P12 -/
namespace Mine
theorem FN.le {w : World} {n m : Nat} {f : Value} {args : List PV} {kw : List (Str × PV)} {d : PV} (h : FN w n f args kw d) (hm : n ≤ m) : FN w m f args kw d := ⟨fun A s q E Q vs ks R => h.run A s q E Q vs ks (R.le hm)⟩
theorem sub_refl {ρ : Rho} : Sub ρ ρ := fun _ _ e => e
theorem sub_over {ρ1 ρ2 : Rho} {x : Str} {l : LV} (h : Sub ρ1 ρ2) : Sub (upd ρ1 x l) (upd ρ2 x l) := fun y m e => by
  unfold upd at e ⊢
  split
  · rename_i hy; rw [if_pos hy] at e; exact e
  · rename_i hy; rw [if_neg hy] at e; exact h _ _ e
theorem sub_skip {ρ1 ρ2 : Rho} {x : Str} {l : LV} (hx : ρ1 x = none) (h : Sub ρ1 ρ2) : Sub ρ1 (upd ρ2 x l) := fun y m e => by
  unfold upd
  split
  · rename_i hy; subst hy; rw [hx] at e; cases e
  · exact h _ _ e
inductive El where
  | wild
  | num (i : Int)
  | set (is : List Int)
noncomputable def El.pv : El → PV
  | .wild => .none
  | .num i => .int i
  | .set is => .list (is.map .int)
noncomputable def El.small : El → Prop
  | .wild => True
  | .num i => i.natAbs < 10 ^ 11
  | .set is => is.length ≤ 10 ∧ ∀ i ∈ is, i.natAbs < 10 ^ 11
noncomputable def setText (is : List Int) (braces : Bool) (mark : Str) : Str := if braces then "{" ++ Txt.join "," (is.map fun i => word i mark) ++ "}" else "<" ++ Txt.join ";" (is.map fun i => word i mark) ++ ">"
noncomputable def elText (braces : Bool) (mark : Str) : El → Str
  | .wild => "*"
  | .num i => word i mark
  | .set is => setText is braces mark
noncomputable def lawText (els : List El) (braces : Bool) (mark : Str) : Str := Txt.join "/" (els.map (elText braces mark))
theorem sum_le {xs : List Str} {m : Nat} (h : ∀ x ∈ xs, x.length ≤ m) : (xs.map (·.length)).sum ≤ m * xs.length := by
  induction xs with
  | nil => simp
  | cons a r ih =>
    have h1 := h a List.mem_cons_self
    have h2 := ih fun x hx => h x (List.mem_cons_of_mem _ hx)
    simp only [List.map_cons, List.sum_cons, List.length_cons, Nat.mul_add, Nat.mul_one]
    omega
theorem join_len (sep : Str) (xs : List Str) : (Txt.join sep xs).length ≤ (xs.map (·.length)).sum + xs.length * sep.length := by
  show (Builtin.Str.glued sep xs).length ≤ _
  rw [StrLaws.glued_eq_join]
  exact StrLaws.join_length_le sep xs
theorem words_len {is : List Int} {mark : Str} (h : is.length ≤ 10) (hi : ∀ i ∈ is, i.natAbs < 10 ^ 11) (hm : mark.length ≤ 1) : (((is.map fun i => word i mark)).map (·.length)).sum ≤ 14 * is.length := by
  have := sum_le (xs := is.map fun i => word i mark) (m := 14) (fun x hx => by
    obtain ⟨i, hm', rfl⟩ := List.mem_map.mp hx
    exact word_len (hi i hm') hm)
  rwa [List.length_map] at this
theorem setJoin_len {is : List Int} {mark sep : Str} (h : is.length ≤ 10) (hi : ∀ i ∈ is, i.natAbs < 10 ^ 11) (hm : mark.length ≤ 1) (hs : sep.length = 1) : (Txt.join sep (is.map fun i => word i mark)).length ≤ 150 := by
  have h1 := join_len sep (is.map fun i => word i mark)
  have h2 := words_len h hi hm
  rw [List.length_map, hs] at h1
  omega
theorem elText_len {e : El} {braces : Bool} {mark : Str} (h : e.small) (hm : mark.length ≤ 1) : (elText braces mark e).length ≤ 152 := by
  cases e with
  | wild => show (Str.ofString "*").length ≤ _; rw [PySem.ofString_length]; decide
  | num i => have := word_len h hm; show (word i mark).length ≤ _; omega
  | set is =>
    show (setText is braces mark).length ≤ _
    unfold setText
    cases braces
    · simp only [Bool.false_eq_true, if_false, PySem.Str.length_append]
      have := setJoin_len (sep := ";") h.1 h.2 hm rfl
      have e1 : (Str.ofString "<").length = 1 := rfl
      have e2 : (Str.ofString ">").length = 1 := rfl
      omega
    · simp only [if_true, PySem.Str.length_append]
      have := setJoin_len (sep := ",") h.1 h.2 hm rfl
      have e1 : (Str.ofString "{").length = 1 := rfl
      have e2 : (Str.ofString "}").length = 1 := rfl
      omega
noncomputable def rText (els : List El) (braces : Bool) (mark : Str) : Rho := rho0 [("indexes", .list (els.map El.pv)), ("braces", .bool braces), ("mark", .str mark)]
theorem fn_text {w : World} {els : List El} {braces : Bool} {mark : Str} (hn : els.length ≤ 10) (hs : ∀ e ∈ els, e.small) (hm : mark.length ≤ 1) :
    FN w 3 (.ref 924) [.list (els.map El.pv), .bool braces, .str mark] [] (.str (lawText els braces mark)) := by
  refine fn_intro (ps := [("indexes", .list (els.map El.pv)), ("braces", .bool braces), ("mark", .str mark)]) (out := .ret (.str (lawText els braces mark))) (f := 924) (by rfl) (by rfl) ?_ ["indexes", "braces", "mark"] (by rfl) (by decide) rfl rfl rfl ?_ rfl
  · intro s q vs B r
    cases r with
    | cons h1 r => cases r with
      | cons h2 r => cases r with
        | cons h3 r => cases r with
          | nil => exact ⟨_, BindsTo.of_eq rfl, .cons h1 (.cons h2 (.cons h3 .nil))⟩
  · intro L
    have hr0 : rho0 [("indexes", .list (els.map El.pv)), ("braces", .bool braces), ("mark", .str mark)] = rText els braces mark := rfl
    rw [hr0]
    have i0 : rText els braces mark "indexes" = some (.pers (.list (els.map El.pv))) := rfl
    have b0 : rText els braces mark "braces" = some (.pers (.bool braces)) := rfl
    have m0 : rText els braces mark "mark" = some (.pers (.str mark)) := rfl
    have n0 : rText els braces mark "words" = none := rfl
    have n1 : rText els braces mark "index" = none := rfl
    have n2 : rText els braces mark "inner" = none := rfl
    refine xs_cons (x_assign_own (evo_list evs_nil (by simp)) rfl) ?_
    refine xs_cons (x_forN (ds := els.map El.pv) (fun i => upd (rText els braces mark) "words" (.own ((els.take i).map fun e => .str (elText braces mark e)))) (it_list (ev_name ?_)) rfl sub_refl ?_) ?_
    · exact i0
    · intro i d hd
      obtain ⟨e, he, rfl⟩ : ∃ e, els[i]? = some e ∧ e.pv = d := by
        rw [List.getElem?_map] at hd
        cases hx : els[i]? with
        | none => rw [hx] at hd; cases hd
        | some a => rw [hx] at hd; exact ⟨a, rfl, Option.some.inj hd⟩
      have hsm := hs e (List.mem_of_getElem? he)
      have hsplit : (els.take (i + 1)).map (fun e => PV.str (elText braces mark e)) = (els.take i).map (fun e => PV.str (elText braces mark e)) ++ [.str (elText braces mark e)] := by
        rw [List.take_add_one, he, List.map_append]; rfl
      have hil : ((els.take i).map fun e => PV.str (elText braces mark e)).length ≤ 1000000 := by
        rw [List.length_map, List.length_take]; omega
      cases e with
      | wild =>
        refine ⟨_, xs_one (x_if (b := true) (tv_cmp (ev_name rfl) ev_none (cmp_is_none (d := .none) (by intro u h; cases h))) (xs_one (x_append (ds := (els.take i).map fun e => .str (elText braces mark e)) rfl ev_str hil))), ?_⟩
        show Sub (upd (rText els braces mark) "words" _) _
        rw [hsplit]
        exact sub_over (sub_skip n1 (sub_skip n0 sub_refl))
      | num j =>
        refine ⟨_, xs_one (x_if (b := false) (tv_cmp (ev_name rfl) ev_none (cmp_is_none (d := .int j) (by intro u h; cases h))) (xs_one (x_if (b := false) (tv_plain (ev_callB (g_isinstance rfl) (evs_cons (ev_name rfl) (evs_cons (g_list rfl) evs_nil)) isi_int_list) truth_bool)
          (xs_one (x_append (ds := (els.take i).map fun e => .str (elText braces mark e)) rfl (ev_call (g_fn rfl) (evs_cons (ev_name rfl) (evs_cons (ev_name m0) evs_nil)) ((fn_word hsm hm).le (by decide)) (by rfl)) hil))))), ?_⟩
        show Sub (upd (rText els braces mark) "words" _) _
        rw [hsplit]
        exact sub_over (sub_skip n1 (sub_skip n0 sub_refl))
      | set is =>
        have hsm' : is.length ≤ 10 ∧ ∀ i ∈ is, i.natAbs < 10 ^ 11 := hsm
        have hw := words_len hsm'.1 hsm'.2 hm
        have l1 := setJoin_len (sep := ",") hsm'.1 hsm'.2 hm rfl
        have l2 := setJoin_len (sep := ";") hsm'.1 hsm'.2 hm rfl
        have c1 : (Str.ofString "{").length = 1 := rfl
        have c2 : (Str.ofString "}").length = 1 := rfl
        have c3 : (Str.ofString "<").length = 1 := rfl
        have c4 : (Str.ofString ">").length = 1 := rfl
        refine ⟨_, xs_one (x_if (b := false) (tv_cmp (ev_name rfl) ev_none (cmp_is_none (d := .list (is.map .int)) (by intro u h; cases h))) (xs_one (x_if (b := true) (tv_plain (ev_callB (g_isinstance rfl) (evs_cons (ev_name rfl) (evs_cons (g_list rfl) evs_nil)) isi_list_list) truth_bool)
          (xs_cons (x_assign_compM (xs := is) PV.int (fun i => .str (word i mark)) (it_list (ev_name rfl)) (fun j hj C => ev_call (g_fn rfl) (evs_cons (ev_name rfl) (evs_cons (ev_name rfl) evs_nil)) ((fn_word (hsm'.2 j hj) hm).le (by decide)) (by rfl)) (by omega) rfl)
            (xs_freeze (x := "inner") (ds := is.map fun i => .str (word i mark)) rfl
              (xs_one (x_append (ds := (els.take i).map fun e => .str (elText braces mark e)) (d := .str (setText is braces mark)) rfl ?_ hil))))))), ?_⟩
        · have hj : ∀ sep : Str, sep.length = 1 → FN w 2 (.builtin "str.join") [.str sep, .list (is.map fun i => .str (word i mark))] [] (.str (Txt.join sep (is.map fun i => word i mark))) := fun sep hsep => by
            have := join_ (w := w) (n := 2) (x := sep) (xs := is.map fun i => word i mark) (by omega) (by rw [List.length_map]; omega)
            rwa [List.map_map] at this
          refine ev_if (c := braces) (tv_plain (ev_name b0) truth_bool) ?_
          cases braces
          · exact ev_bin (ev_bin ev_str (ev_meth ev_str get_join (evs_cons (ev_name rfl) evs_nil) (hj ";" rfl)) (op_add_str (by rw [sizeLine_eq]; omega))) ev_str (op_add_str (by rw [sizeLine_eq, PySem.Str.length_append]; omega))
          · exact ev_bin (ev_bin ev_str (ev_meth ev_str get_join (evs_cons (ev_name rfl) evs_nil) (hj "," rfl)) (op_add_str (by rw [sizeLine_eq]; omega))) ev_str (op_add_str (by rw [sizeLine_eq, PySem.Str.length_append]; omega))
        · show Sub (upd (rText els braces mark) "words" _) _
          rw [hsplit]
          exact sub_over (sub_skip n2 (sub_skip n2 (sub_skip n1 (sub_skip n0 sub_refl))))
    · have e : els.take (els.map El.pv).length = els := by rw [List.length_map, List.take_length]
      rw [e]
      refine xs_freeze (x := "words") (ds := els.map fun e => .str (elText braces mark e)) rfl (xs_one (x_return ?_))
      have hj := join_ (w := w) (n := 2) (x := "/") (xs := els.map (elText braces mark)) (by decide) (by
        have := sum_le (xs := els.map (elText braces mark)) (m := 152) (fun x hx => by
          obtain ⟨e, he, rfl⟩ := List.mem_map.mp hx
          exact elText_len (hs e he) hm)
        rw [List.length_map] at this ⊢; omega)
      rw [List.map_map] at hj
      exact ev_meth ev_str get_join (evs_cons (ev_name rfl) evs_nil) hj
end Mine

/-! ## P13 -/
namespace Mine
section
variable {w : World} {n : Nat} {env : Env} {ρ : Rho}
theorem fmt_d {i : Int} (h0 : 0 ≤ i) (h1 : i < 10 ^ 10) : Gives2 w n (binaryOp .Mod) (.str "/%d") (.int i) (.str ("/" ++ dec i)) := by
  refine ⟨fun A s q E Q va vb R sub ra rb k => ?_⟩
  cases ra; cases rb
  refine' KPc.mod_int (T := fun i => Str.ofString "/" ++ Str.ofString (toString i)) ?a h0 h1 ?m ?_
  case a => kpc_eq
  case m => k_dflt kpc_run
  intro t' kk
  exact k s.heap kk q _ (.refl sub) (.str _ _)
theorem fmt_dh {i : Int} (h0 : 0 ≤ i) (h1 : i < 10 ^ 10) : Gives2 w n (binaryOp .Mod) (.str "/%dh") (.int i) (.str ("/" ++ dec i ++ "h")) := by
  refine ⟨fun A s q E Q va vb R sub ra rb k => ?_⟩
  cases ra; cases rb
  refine' KPc.mod_int (T := fun i => Str.ofString "/" ++ Str.ofString (toString i) ++ Str.ofString "h") ?a h0 h1 ?m ?_
  case a => kpc_eq
  case m => k_dflt kpc_run
  intro t' kk
  exact k s.heap kk q _ (.refl sub) (.str _ _)
theorem iadd_str_ {a b : Str} (hl : a.length + b.length ≤ sizeLine) : Gives2 w n (inplaceOp .Add) (.str a) (.str b) (.str (a ++ b)) := by
  refine ⟨fun A s q E Q va vb R sub ra rb k => ?_⟩
  cases ra; cases rb
  exact PySem.SB.iadd (fun t' kk => k s.heap kk q _ (.refl sub) (.str _ _)) hl
theorem x_aug {x : Str} {p pos : Pos} {op : Operator} {e : Expr} {a b d : PV} (hx : ρ x = some (.pers a)) (he : EV w n env ρ e b) (ho : Gives2 w n (inplaceOp op) a b d) (hc : canStore env x = true) :
    X w n env ρ (.AugAssign (.Name x p) op e pos) (.next (upd ρ x (.pers d))) := by
  refine ⟨fun A s q h0 q0 E Q R F k => ?_⟩
  obtain ⟨va, nv, ra⟩ := F.ctx.pers x a hx
  have hk := F.ctx.kind
  have fin : wpAny (model pw w) A (eval e env) (fun v s₂ => wpAny (model pw w) A (inplaceOp op va v) (fun r s₃ => wpAny (model pw w) A (storeName env x r) (fun _ => Q .next) E s₃) E s₂) E s := by
    refine he.run A s q E _ R F.ctx fun h1 t1 q1 vb g1 rb => ?_
    refine ho.run A _ q1 E _ va vb R g1.sub (ra.mono g1.le) rb fun h2 t2 q2 v g2 r2 => ?_
    exact store_pers (s := { s with heap := h2, toks := t2 }) (F.grow (g1.trans g2)) hc r2 fun h3 t3 F3 => k h3 t3 q2 _ ⟨rfl, F3⟩
  refine wpAny_AugAssign_Name ?_
  cases nv with
  | loc hk' hn hv => exact wpAny_loadName_local hk hk' hn hv fin
  | cell hk' hc' hv => exact wpAny_loadName_cell hk hk' hc' hv fin
end
end Mine

/-! ## P14 -/
namespace Mine
section
variable {w : World} {n : Nat} {env : Env} {ρ : Rho}
theorem TV.eq {e : Expr} {b c : Bool} (h : TV w n env ρ e b) (hb : b = c) : TV w n env ρ e c := hb ▸ h
theorem EV.eq {e : Expr} {b c : PV} (h : EV w n env ρ e b) (hb : b = c) : EV w n env ρ e c := hb ▸ h
theorem x_ifT {t : Expr} {body orelse : List Stmt} {pos : Pos} {out : Out} (ht : TV w n env ρ t true) (h : XS w n env ρ body out) : X w n env ρ (.If t body orelse pos) out := x_if ht h
theorem x_ifF {t : Expr} {body orelse : List Stmt} {pos : Pos} {out : Out} (ht : TV w n env ρ t false) (h : XS w n env ρ orelse out) : X w n env ρ (.If t body orelse pos) out := x_if ht h
end
/-! # path_to_str without a fingerprint -/
noncomputable def steps (s : Str) (is : List Int) : Str := is.foldl (fun s i => s ++ ("/" ++ word i "h")) s
theorem steps_take {is : List Int} {s : Str} {i : Nat} {j : Int} (h : is[i]? = some j) : steps s (is.take (i + 1)) = steps s (is.take i) ++ ("/" ++ word j "h") := by
  unfold steps
  rw [List.take_add_one, h, List.foldl_append]
  rfl
theorem steps_len {is : List Int} {s : Str} (h : ∀ i ∈ is, i.natAbs < 10 ^ 11) : (steps s is).length ≤ s.length + 15 * is.length := by
  induction is generalizing s with
  | nil => simp [steps]
  | cons a r ih =>
    have h1 := word_len (h a List.mem_cons_self) (show (Str.ofString "h").length ≤ 1 by decide)
    have h2 := ih (s := s ++ ("/" ++ word a "h")) fun i hi => h i (List.mem_cons_of_mem _ hi)
    rw [PySem.Str.length_append, PySem.Str.length_append] at h2
    have c : (Str.ofString "/").length = 1 := rfl
    simp only [List.length_cons]
    show (steps (s ++ ("/" ++ word a "h")) r).length ≤ _
    omega
theorem str_assoc (a b c : Str) : a ++ b ++ c = a ++ (b ++ c) := by
  have : (a ++ b ++ c).cps = (a ++ (b ++ c)).cps := by simp only [PySem.Str.cps_append, Array.append_assoc]
  exact congrArg PySem.Str.mk this
theorem fn_path_none {w : World} {is : List Int} (hn : is.length ≤ 100) (hi : ∀ i ∈ is, 0 ≤ i ∧ i < 2 * HARD) :
    FN w 2 (.ref 772) [.list (is.map .int)] [] (.str (steps "m" is)) := by
  refine fn_intro (ps := [("path", .list (is.map .int)), ("fingerprint", .none)]) (out := .ret (.str (steps "m" is))) (f := 772) (by rfl) (by rfl) ?_ ["path", "fingerprint"] (by rfl) (by decide) rfl rfl rfl ?_ rfl
  · intro s q vs B r
    cases r with
    | cons h1 r => cases r with
      | nil => exact ⟨_, binds_K B.K rfl (by rfl) rfl rfl rfl, .cons h1 (.cons .none .nil)⟩
  · intro L
    have big : ∀ i ∈ is, i.natAbs < 10 ^ 11 := fun i h => by have := hi i h; unfold HARD at this; omega
    refine xs_cons (x_assign (d := .str "m") (ev_if (c := true) (tv_cmp (ev_name rfl) ev_none (cmp_is_none (d := .none) (by intro u h; cases h))) ev_str) rfl) ?_
    refine xs_cons (x_forN (ds := is.map .int) (fun i => upd (rho0 [("path", .list (is.map .int)), ("fingerprint", .none)]) "s" (.pers (.str (steps "m" (is.take i))))) (it_list (ev_name rfl)) rfl sub_refl ?_) ?_
    · intro i d hd
      obtain ⟨j, hj, rfl⟩ : ∃ j, is[i]? = some j ∧ PV.int j = d := by
        rw [List.getElem?_map] at hd
        cases hx : is[i]? with
        | none => rw [hx] at hd; cases hd
        | some a => rw [hx] at hd; exact ⟨a, rfl, Option.some.inj hd⟩
      have hj' := hi j (List.mem_of_getElem? hj)
      unfold HARD at hj'
      have hl := steps_len (is := is.take i) (s := "m") fun k hk => big k (List.mem_of_mem_take hk)
      have hm : (Str.ofString "m").length = 1 := rfl
      have h1 : (Str.ofString "/").length = 1 := rfl
      have h2 : (Str.ofString "h").length = 1 := rfl
      rw [List.length_take] at hl
      have hb := steps_take (s := "m") hj
      by_cases hh : j < HARD
      · have hw : word j "h" = dec j := by unfold word; rw [if_pos hh]
        rw [hw] at hb
        have hdl := dec_len (i := j) (by omega)
        refine ⟨_, xs_one (x_ifF ((tv_cmp (ev_name rfl) (g_hard rfl) cmp_ge_int).eq (by simpa using hh)) (xs_one (x_aug (a := .str (steps "m" (is.take i))) rfl (ev_bin ev_str (ev_name rfl) (fmt_d hj'.1 (by unfold HARD at hh; omega))) (iadd_str_ (by rw [sizeLine_eq, PySem.Str.length_append]; omega)) rfl))), ?_⟩
        · show Sub (upd _ "s" _) _
          rw [hb]
          refine sub_over (sub_skip ?_ (sub_skip ?_ sub_refl)) <;> rfl
      · have hw : word j "h" = dec (j - HARD) ++ "h" := by unfold word; rw [if_neg hh]
        rw [hw, ← str_assoc (Str.ofString "/") (dec (j - HARD)) (Str.ofString "h")] at hb
        have hdl := dec_len (i := j - HARD) (by unfold HARD; omega)
        refine ⟨_, xs_one (x_ifT ((tv_cmp (ev_name rfl) (g_hard rfl) cmp_ge_int).eq (by simpa using hh)) (xs_one (x_aug (a := .str (steps "m" (is.take i))) rfl (ev_bin ev_str (ev_bin (ev_name rfl) (g_hard rfl) op_sub_int) (fmt_dh (by unfold HARD at *; omega) (by unfold HARD at *; omega))) (iadd_str_ (by rw [sizeLine_eq, PySem.Str.length_append, PySem.Str.length_append]; omega)) rfl))), ?_⟩
        · show Sub (upd _ "s" _) _
          rw [hb]
          refine sub_over (sub_skip ?_ (sub_skip ?_ sub_refl)) <;> rfl
    · have e : is.take (is.map PV.int).length = is := by rw [List.length_map, List.take_length]
      rw [e]
      exact xs_one (x_return (ev_name rfl))
end Mine

/-! ## P15 -/
namespace Mine
theorem rep_handed {q : Gh} {v : Value} {d : PV} (r : Rep q v d) (hr : ∀ u, d ≠ .raw u) : handedIn v = true := by
  cases r <;> first | rfl | exact absurd rfl (hr _)
theorem repF_getL {q : Gh} {name : Str} {d : PV} : ∀ {es : List DictEntry} {fs : List (Str × PV)}, RepF q es fs → fs.lookup name = some d → ∃ v, getL name es = some (some v) ∧ Rep q v d
  | _, _, .nil, e => by cases e
  | _, _, .cons (hs := hs) (x := x) (t := t) (v := v) h r, e => by
    rw [List.lookup_cons] at e
    unfold getL
    rw [List.find?_cons]
    cases hb : name == x with
    | true =>
      rw [hb] at e; cases e
      have hx : name = x := by simpa using hb
      subst hx
      have : ((⟨hs, .str name t, v⟩ : DictEntry).key.isStr name) = true := by simp [Value.isStr]
      rw [this]
      exact ⟨v, rfl, h⟩
    | false =>
      rw [hb] at e
      have hx : name ≠ x := by simpa using hb
      have : ((⟨hs, .str x t, v⟩ : DictEntry).key.isStr name) = false := by simp [Value.isStr, Ne.symm hx]
      rw [this]
      obtain ⟨u, hu, ru⟩ := repF_getL r e
      refine ⟨u, ?_, ru⟩
      unfold getL at hu
      split at hu
      · rename_i e' he'; rw [he']; exact hu
      · split at hu <;> cases hu
section
variable {w : World} {n : Nat} {env : Env} {ρ : Rho}
theorem instAt_of {h : Heap} {x dx C : Addr} {es : List DictEntry} {m : Nat} (hx : h.get? x = some (instObj C dx)) (hd : h.get? dx = some (dictOf es m)) : InstAt h x (instObj C dx) C (some (dictOf es m)) := ⟨hx, rfl, rfl, hd⟩
/-- an attribute of an object's own dict -/
theorem ev_attr {x name : Str} {np pos : Pos} {C : Addr} {fs : List (Str × PV)} {d : PV} {attr : Option Value} (he : EV w n env ρ (.Name x np) (.inst C fs)) (hd : fs.lookup name = some d) (hr : ∀ u, d ≠ .raw u)
    (hg : plainGet (K w.params) C name = true) (hh : hasDictIn (K w.params) C = true) (ha : findIn (K w.params) (.ref C) name = some attr) (hn : noGet (K w.params) attr = true) : EV w n env ρ (.Attribute (.Name x np) name pos) d := by
  refine ⟨fun A s q E Q R X k => ?_⟩
  refine Attribute_name (he.run A s q E _ R X fun h1 t1 q1 v g1 r1 => ?_)
  cases r1 with
  | @inst a dx C es m fs hx hdx r =>
    obtain ⟨v, hv, rv⟩ := repF_getL r hd
    exact get_value (s := { s with heap := h1, toks := t1 }) (X.grow g1).K (instAt_of (g1.sub _ _ hx) (g1.sub _ _ hdx)) (plainGet_of hg).1 (findObj_own hh ha hn hv) (rep_handed rv hr) (k h1 _ q1 v g1 rv)
end
/-- running a def's code on values -/
structure FC (w : World) (n : Nat) (f : Value) (args : List PV) (d : PV) : Prop where
  run : ∀ A s q (R : Result → Shared → Prop) vs, Room n A → Bs w s.heap q → RepL q vs args →
    (∀ h' tk q' v, Grow s.heap q h' q' → Rep q' v d → R (.ok (.ret v)) { s with heap := h', toks := tk }) → codeAny (model pw w) A (.call f ⟨vs, []⟩) R s
theorem FC.fn {w : World} {n : Nat} {f : Value} {args : List PV} {d : PV} (h : FC w n f args d) : FN w n f args [] d := by
  refine ⟨fun A s q E Q vs ks R B r rk hks k => ?_⟩
  have : ks = [] := by cases ks with | nil => rfl | cons a b => cases hks
  subst this
  exact wpAny_call (h.run A s q _ vs R B r fun h' tk q' v g rv => k h' tk q' v g rv)
theorem fc_intro {w : World} {n : Nat} {name qual : Str} {params : Arguments} {body : List Stmt} {scope : Scope} {dV kV doc pm cdv ct oc : Value} {an od : Option Addr} {osl : Array (Option Value)} {f : Addr} {args : List PV}
    {ps : List (Str × PV)} {out : Out} {d : PV}
    (ho : (K w.params).lookup f = some ⟨oc, od, .func (fnOf name qual params body scope dV kV doc pm an cdv ct), osl⟩) (hcd : codeIn (K w.params) cdv qual = true)
    (hbind : ∀ (s : Shared) (q : Gh) (vs : List Value), Bs w s.heap q → RepL q vs args → ∃ binds, BindsTo s (fnOf name qual params body scope dV kV doc pm an cdv ct) ⟨vs, []⟩ binds ∧ RepB q binds ps)
    (names : List Str) (hkind : (names.all fun y => scope.names.lookup y == some .local || scope.names.lookup y == some .cell) = true) (hnd : decide names.Nodup = true)
    (hco : scope.isCoroutine = false) (hgen : scope.isGenerator = false) (hk : scope.kind = .function)
    (body_ : ∀ L, XS w n (fEnv qual scope f cdv L) (rho0 ps) body out) (hd : out.val = d) (hps : ps.map (·.1) = names := by rfl) : FC w (n + 1) (.ref f) args d := by
  have hkind : (ps.all fun y => scope.names.lookup y.1 == some .local || scope.names.lookup y.1 == some .cell) = true := by
    rw [← hps, List.all_map] at hkind; exact hkind
  have hnd : (ps.map (·.1)).Nodup := by rw [hps]; exact of_decide_eq_true hnd
  refine ⟨fun A s q R' vs R B r k => ?_⟩
  obtain ⟨binds, hb, hr⟩ := hbind s q vs B r
  subst hd
  exact codeAny_own ho hcd hb hr hkind hnd hco hgen hk R B B (Grow.refl B.sub) body_ fun h' tk q' v g rv => k h' tk q' v g rv
section
variable {w : World} {n : Nat} {env : Env} {ρ : Rho}
/-- a property of an object -/
theorem ev_prop {x name : Str} {np pos : Pos} {C p fget : Addr} {rest : List Value} {fs : List (Str × PV)} {d : PV} (he : EV w (n + 1) env ρ (.Name x np) (.inst C fs)) (hr : ∀ u, d ≠ .raw u)
    (hg : plainGet (K w.params) C name = true) (hh : hasDictIn (K w.params) C = true) (ha : findIn (K w.params) (.ref C) name = some (some (.ref p))) (hn : specialIn (K w.params) (.ref p) "__get__" = some (some (.builtin "property.__get__")))
    (ht : takesIn (K w.params) (.ref p) = some true) (hp : recIn (K w.params) p "property" = some (.ref fget :: rest)) (hf : FC w n (.ref fget) [.inst C fs] d) : EV w (n + 1) env ρ (.Attribute (.Name x np) name pos) d := by
  refine ⟨fun A s q E Q R X k => ?_⟩
  refine Attribute_name (he.run A s q E _ R X fun h1 t1 q1 v g1 r1 => ?_)
  have X1 := X.grow g1
  have hcls : (clsIn (K w.params) C).isSome = true := by obtain ⟨cd, hc, _⟩ := any_some hh; rw [hc]; rfl
  cases hr1 : r1 with
  | @inst a dx C es m fs hx hdx r =>
    refine get_bind (s := { s with heap := h1, toks := t1 }) X1.K (instAt_of (g1.sub _ _ hx) (g1.sub _ _ hdx)) (plainGet_of hg).1 (findObj_data hcls ha hn ht) (plainGet_of hg).2 (wpAny_call (prop_get (s := { s with heap := h1, toks := t1 + 1 }) X1.K hp ?_))
    refine hf.run A.in1 { s with heap := h1, toks := t1 + 1 } q1 _ [.ref a] R.in1 X1.bs (.cons r1 .nil) fun h' tk q' v g rv => ?_
    dsimp only
    rw [handedOut_of (rep_handed rv hr)]
    exact wpAny_pure (k h' tk q' v (g1.trans g) rv)
end
end Mine

/-! ## P16 -/
namespace Mine
section
variable {w : World} {n : Nat} {env : Env} {ρ : Rho}
theorem repF_getL_none {q : Gh} {name : Str} : ∀ {es : List DictEntry} {fs : List (Str × PV)}, RepF q es fs → fs.lookup name = none → getL name es = some none
  | _, _, .nil, _ => rfl
  | _, _, .cons (hs := hs) (x := x) (t := t) (v := v) h r, e => by
    rw [List.lookup_cons] at e
    unfold getL
    rw [List.find?_cons]
    cases hb : name == x with
    | true => rw [hb] at e; cases e
    | false =>
      rw [hb] at e
      have hx : name ≠ x := by simpa using hb
      have : ((⟨hs, .str x t, v⟩ : DictEntry).key.isStr name) = false := by simp [Value.isStr, Ne.symm hx]
      rw [this]
      have ih := repF_getL_none r e
      unfold getL at ih
      split at ih
      · cases ih
      · rename_i he'
        dsimp only
        rw [he']
        dsimp only
        rw [List.any_cons]
        have : (⟨hs, .str x t, v⟩ : DictEntry).refKey = false := by simp [DictEntry.refKey]
        rw [this, Bool.false_or]
        exact ih
/-- a method of the text's own on an object -/
theorem ev_methK {x name : Str} {np apos pos : Pos} {e : Expr} {rest : List Expr} {pl : Sem Bool} {C f : Addr} {fs : List (Str × PV)} {d : PV} {ds : List PV} (ho : EV w n env ρ (.Name x np) (.inst C fs)) (hd : fs.lookup name = none)
    (hg : plainGet (K w.params) C name = true) (hf : findIn (K w.params) (.ref C) name = some (some (.ref f))) (ht : isFn (K w.params) (.ref f) = true) (hk : keepIn (K w.params) (.ref f) = true)
    (ha : EVs w n env ρ (e :: rest) ds) (hF : FN w n (.ref f) (.inst C fs :: ds) [] d)
    (he : eval (.Call (.Attribute (.Name x np) name apos) (e :: rest) [] pos) env = (do
      let ov ← eval (.Name x np) env
      standAt apos.atName
      let (f, first) ← holding [ov] (getMethod ov name pl)
      callWith pos f first (backTo pos (starEach (e :: rest) env)) []) := by rfl)
    (hs : starEach (e :: rest) env = (false, eval e env) :: starEach rest env := by rfl) (hplain : (backTo pos (starEach rest env)).any (·.1) = false := by rfl) : EV w n env ρ (.Call (.Attribute (.Name x np) name apos) (e :: rest) [] pos) d := by
  refine ⟨fun A s q E Q R C' k => ?_⟩
  refine MethodCall_ (ho.run A s q E _ R C' fun h1 t1 q1 v g1 r1 => ?_) he
  have X1 := C'.grow g1
  have r1' := r1
  cases r1 with
  | @inst a dx C es m fs hx hdx r =>
    refine method_fn (s := { s with heap := h1, toks := t1 }) X1.K (instAt_of (g1.sub _ _ hx) (g1.sub _ _ hdx)) (plainGet_of hg).1 (plainGet_of hg).2 hf (beq_iff_eq.mp ht) (by show (lookIn name (dictOf es m)).map _ = _; rw [lookIn_dict, repF_getL_none r hd]; rfl) ?_
    refine callWith_K X1.K hk (ha.run pos A _ q1 E _ R X1 fun h2 t2 q2 vs g2 r2 => ⟨(X1.grow g2).K, ?_⟩) hs hplain
    exact hF.run A _ q2 E _ (.ref a :: vs) [] R (X1.grow g2).bs (.cons (r1'.mono g2.le) r2) .nil rfl fun h3 t3 q3 v g3 r3 => k h3 t3 q3 v (g1.trans (g2.trans g3)) r3
end
end Mine

/-! ## P17 -/
namespace Mine
section
variable {w : World} {n : Nat} {env : Env} {ρ : Rho}
theorem ev_neg {x : Expr} {pos : Pos} {i : Int} (hx : EV w n env ρ x (.int i)) : EV w n env ρ (.UnaryOp .USub x pos) (.int (-i)) := by
  refine ⟨fun A s q E Q R C k => ?_⟩
  refine wpAny_UnaryOp (hx.run A s q E _ R C fun h1 t1 q1 v g1 r1 => ?_)
  cases r1
  exact PyProof.Rows.neg_int (k h1 _ q1 _ g1 (.int _ _))
/-- a sign of a text -/
theorem ev_char {e i : Expr} {pos : Pos} {x : Str} {j : Int} (he : EV w n env ρ e (.str x)) (hi : EV w n env ρ i (.int j)) (hr : fitsSsize j = true) (hin : (Txt.charAt x j).isSome = true)
    (hs : ∀ t u, subscripted i false (.str x t) (.int j u) = operate [.str x t, .int j u] (getItem (.str x t) (.int j u)) := by intro _ _; with_unfolding_all rfl) : EV w n env ρ (.Subscript e i pos) (.str (Txt.item x j)) := by
  refine ⟨fun A s q E Q R C k => ?_⟩
  refine Subscript_ (he.run A s q E _ R C fun h1 t1 q1 v1 g1 r1 => ?_)
  refine hi.run A _ q1 E _ R (C.grow g1) fun h2 t2 q2 v2 g2 r2 => ?_
  cases r1; cases r2
  exact tail_any (s := { s with heap := h2, toks := t2 }) (typeIs_str _ _ _) F.slot_str_getitem.lookup (SB.getItem hr hin (k h2 _ q2 _ (g1.trans g2) (.str _ _))) (hs _ _)
end
end Mine

/-! ## P18 -/
namespace Mine
/-- a part of a slice -/
structure EP (w : World) (n : Nat) (env : Env) (ρ : Rho) (o : Option Expr) (l : Option Int) : Prop where
  run : ∀ A s q E Q, Room n A → Ctx w env ρ s.heap q →
    (∀ h' tk q' (u : Option (Int × Tok)), Grow s.heap q h' q' → u.map (·.1) = l → Q (partValue u) { s with heap := h', toks := tk }) → wpAny (model pw w) A (evalPart o env) Q E s
section
variable {w : World} {n : Nat} {env : Env} {ρ : Rho}
theorem ep_none : EP w n env ρ none none := ⟨fun A s q E Q R C k => wpAny_pure (k s.heap s.toks q none (.refl C.sub) rfl)⟩
theorem ep_some {e : Expr} {i : Int} (he : EV w n env ρ e (.int i)) : EP w n env ρ (some e) (some i) :=
  ⟨fun A s q E Q R C k => he.run A s q E _ R C fun h1 t1 q1 v g1 r1 => by
    cases r1 with
    | int i t => exact k h1 t1 q1 (some (i, t)) g1 rfl⟩
/-- a slice of a text -/
theorem ev_slice {e : Expr} {lo up : Option Expr} {p pos : Pos} {x : Str} {l u : Option Int} (he : EV w n env ρ e (.str x)) (hl : EP w n env ρ lo l) (hu : EP w n env ρ up u) (hsz : x.length ≤ sizeLine)
    (hs : ∀ t a, subscripted (.Slice lo up none p) false (.str x t) (.ref a) = operate [.ref a, .str x t] (getItem (.str x t) (.ref a)) := by intro _ _; with_unfolding_all rfl) : EV w n env ρ (.Subscript e (.Slice lo up none p) pos) (.str (Txt.slice x l u)) := by
  refine ⟨fun A s q E Q R C k => ?_⟩
  refine Subscript_ (he.run A s q E _ R C fun h1 t1 q1 v1 g1 r1 => ?_)
  refine wpAny_Slice (hl.run A _ q1 E _ R (C.grow g1) fun h2 t2 q2 lv g2 e2 => ?_)
  refine hu.run A _ q2 E _ R ((C.grow g1).grow g2) fun h3 t3 q3 uv g3 e3 => ?_
  refine wpAny_pure ?_
  cases r1 with
  | str x t =>
    have g4 := ((g1.trans g2).trans g3).trans (Grow.heap (h' := h3.push { cls := .type "slice", data := .fields #[partValue lv, partValue uv, .none] }) g3.sub fun b o e => Heap.get?_push_of_some _ e)
    refine tail_any (s := { s with heap := h3.push { cls := .type "slice", data := .fields #[partValue lv, partValue uv, .none] }, toks := t3 }) (typeIs_str _ _ _) F.slot_str_getitem.lookup ?_ (hs _ _)
    refine wpAny_getItem_str_slice (l := lv) (u := uv) (st := none) ⟨_, Heap.get?_push_size _ rfl, rfl, rfl⟩ rfl ?_
    subst e2; subst e3
    exact post_val_or_str ⟨Nat.le_trans (Txt.slice_le x _ _) hsz, fun t' kk => k _ kk q3 _ g4 (.str _ _)⟩
end
end Mine

/-! ## P19 -/
namespace Mine
noncomputable def der (els : List El) : PV := .inst 903 [("indexes", .list (els.map El.pv))]
theorem k_plain_idx (w : World) : plainGet (K w.params) 903 "indexes" = true := by kernel_rfl
theorem k_dict (w : World) : hasDictIn (K w.params) 903 = true := by kernel_rfl
theorem k_find_idx (w : World) : findIn (K w.params) (.ref 903) "indexes" = some none := by kernel_rfl
section
variable {w : World} {n : Nat} {env : Env} {ρ : Rho}
theorem ev_idx {x : Str} {np pos : Pos} {els : List El} (hx : EV w n env ρ (.Name x np) (der els)) : EV w n env ρ (.Attribute (.Name x np) "indexes" pos) (.list (els.map El.pv)) :=
  ev_attr (attr := none) hx rfl (by intro u h; cases h) (k_plain_idx w) (k_dict w) (k_find_idx w) rfl
end
end Mine

/-! ## P20 -/
namespace Mine
noncomputable def El.isSet : El → Bool
  | .set _ => true
  | _ => false
noncomputable def firstSet : List El → PV
  | [] => .none
  | .set is :: _ => .list (is.map .int)
  | _ :: r => firstSet r
theorem firstSet_none : ∀ {els : List El}, (∀ e ∈ els, e.isSet = false) → firstSet els = .none
  | [], _ => rfl
  | .wild :: r, h => firstSet_none (els := r) fun e he => h e (List.mem_cons_of_mem _ he)
  | .num _ :: r, h => firstSet_none (els := r) fun e he => h e (List.mem_cons_of_mem _ he)
  | .set _ :: r, h => by have := h _ List.mem_cons_self; cases this
theorem firstSet_at : ∀ {els : List El} {j : Nat} {is : List Int}, els[j]? = some (.set is) → (∀ i, i < j → ∀ e, els[i]? = some e → e.isSet = false) → firstSet els = .list (is.map .int)
  | [], _, _, h, _ => by simp at h
  | e :: r, 0, is, h, _ => by simp at h; subst h; rfl
  | e :: r, j + 1, is, h, hb => by
    have h0 := hb 0 (Nat.succ_pos _) e rfl
    have ih := firstSet_at (els := r) (j := j) (is := is) (by simpa using h) fun i hi e' he' => hb (i + 1) (by omega) e' (by simpa using he')
    cases e with
    | wild => exact ih
    | num _ => exact ih
    | set _ => cases h0
theorem firstSet_ex : ∀ (els : List El), ¬ (∀ e ∈ els, e.isSet = false) → ∃ (j : Nat) (is : List Int), els[j]? = some (El.set is) ∧ ∀ i, i < j → ∀ e, els[i]? = some e → e.isSet = false
  | [], h => absurd (fun _ he => by cases he) h
  | .set is :: r, _ => ⟨0, is, rfl, fun i hi => absurd hi (Nat.not_lt_zero _)⟩
  | .wild :: r, h => by
    obtain ⟨j, is, hj, hb⟩ := firstSet_ex r fun hr => h fun e he => by rcases List.mem_cons.mp he with rfl | he; rfl; exact hr e he
    exact ⟨j + 1, is, by simpa using hj, fun i hi e he => by cases i with | zero => simp at he; subst he; rfl | succ i => exact hb i (by omega) e (by simpa using he)⟩
  | .num k :: r, h => by
    obtain ⟨j, is, hj, hb⟩ := firstSet_ex r fun hr => h fun e he => by rcases List.mem_cons.mp he with rfl | he; rfl; exact hr e he
    exact ⟨j + 1, is, by simpa using hj, fun i hi e he => by cases i with | zero => simp at he; subst he; rfl | succ i => exact hb i (by omega) e (by simpa using he)⟩
theorem isi_el {w : World} {n : Nat} (e : El) : FN w n (.builtin "isinstance") [e.pv, .raw (.type "list")] [] (.bool e.isSet) := by
  cases e with
  | wild => exact isi_none_list
  | num i => exact isi_int_list
  | set is => exact isi_list_list
theorem fc_branches {w : World} {els : List El} : FC w 1 (.ref 870) [der els] (firstSet els) := by
  by_cases hall : ∀ e ∈ els, e.isSet = false
  · refine fc_intro (ps := [("self", der els)]) (out := .ret .none) (f := 870) (by rfl) (by rfl) ?_ ["self"] (by rfl) (by decide) rfl rfl rfl ?_ (firstSet_none hall).symm
    · intro s q vs B r
      cases r with
      | cons h1 r => cases r with
        | nil => exact ⟨_, BindsTo.of_eq rfl, .cons h1 .nil⟩
    · intro L
      refine xs_cons (x_forN (ds := els.map El.pv) (fun _ => rho0 [("self", der els)]) (it_list (ev_idx (ev_name rfl))) rfl sub_refl ?_) (xs_one (x_return ev_none))
      intro i d hd
      obtain ⟨e, he, rfl⟩ : ∃ e, els[i]? = some e ∧ e.pv = d := by
        rw [List.getElem?_map] at hd
        cases hx : els[i]? with
        | none => rw [hx] at hd; cases hd
        | some a => rw [hx] at hd; exact ⟨a, rfl, Option.some.inj hd⟩
      refine ⟨_, xs_one (x_ifF ((tv_plain (ev_callB (g_isinstance rfl) (evs_cons (ev_name rfl) (evs_cons (g_list rfl) evs_nil)) (isi_el e)) truth_bool).eq (hall e (List.mem_of_getElem? he))) xs_nil), sub_skip rfl sub_refl⟩
  · obtain ⟨j, is, hj, hb⟩ : ∃ (j : Nat) (is : List Int), els[j]? = some (El.set is) ∧ ∀ i, i < j → ∀ e, els[i]? = some e → e.isSet = false := by
      exact firstSet_ex els hall
    have hlen : j < els.length := by
      rcases Nat.lt_or_ge j els.length with h | h
      · exact h
      · rw [List.getElem?_eq_none h] at hj; cases hj
    refine fc_intro (ps := [("self", der els)]) (out := .ret (.list (is.map .int))) (f := 870) (by rfl) (by rfl) ?_ ["self"] (by rfl) (by decide) rfl rfl rfl ?_ (firstSet_at hj hb).symm
    · intro s q vs B r
      cases r with
      | cons h1 r => cases r with
        | nil => exact ⟨_, BindsTo.of_eq rfl, .cons h1 .nil⟩
    · intro L
      refine xs_ret (x_forR (ds := els.map El.pv) (fun _ => rho0 [("self", der els)]) j (it_list (ev_idx (ev_name rfl))) rfl sub_refl (by rw [List.length_map]; exact hlen) ?_ ?_)
      · intro i d hd hlt
        obtain ⟨e, he, rfl⟩ : ∃ e, els[i]? = some e ∧ e.pv = d := by
          rw [List.getElem?_map] at hd
          cases hx : els[i]? with
          | none => rw [hx] at hd; cases hd
          | some a => rw [hx] at hd; exact ⟨a, rfl, Option.some.inj hd⟩
        refine ⟨_, xs_one (x_ifF ((tv_plain (ev_callB (g_isinstance rfl) (evs_cons (ev_name rfl) (evs_cons (g_list rfl) evs_nil)) (isi_el e)) truth_bool).eq (hb i hlt e he)) xs_nil), sub_skip rfl sub_refl⟩
      · intro d hd
        rw [List.getElem?_map, hj] at hd
        cases hd
        exact xs_one (x_ifT (tv_plain (ev_callB (g_isinstance rfl) (evs_cons (ev_name rfl) (evs_cons (g_list rfl) evs_nil)) (isi_el (.set is))) truth_bool) (xs_one (x_return (ev_name rfl))))
end Mine

/-! ## P21 -/
namespace Mine
mutual
noncomputable def toD : PV → PyData
  | .none => .none
  | .bool b => .bool b
  | .int i => .int i
  | .str x => .str x
  | .list ds => .list (toDs ds)
  | .tuple ds => .tuple (toDs ds)
  | _ => .none
noncomputable def toDs : List PV → List PyData
  | [] => []
  | d :: r => toD d :: toDs r
end
mutual
noncomputable def isD : PV → Bool
  | .none => true
  | .bool _ => true
  | .int _ => true
  | .str _ => true
  | .list ds => isDs ds
  | .tuple ds => isDs ds
  | _ => false
noncomputable def isDs : List PV → Bool
  | [] => true
  | d :: r => isD d && isDs r
end
mutual
theorem rep_reads {h : Heap} {q : Gh} (sub : ∀ b o, q b = some o → h.get? b = some o) : ∀ {v : Value} {d : PV}, Rep q v d → isD d = true → ∃ as, Reads h v (toD d) as
  | _, _, .none, _ => ⟨_, .none⟩
  | _, _, .bool b, _ => ⟨_, .bool b⟩
  | _, _, .int i t, _ => ⟨_, .int i t⟩
  | _, _, .str x t, _ => ⟨_, .str x t⟩
  | _, _, .bytes b t, e => by simp [isD] at e
  | _, _, .list e r, hd => by
    obtain ⟨as, ra⟩ := repL_reads sub r (by simpa [isD] using hd)
    exact ⟨_, .list (sub _ _ e) rfl rfl (by simpa using ra)⟩
  | _, _, .tuple e r, hd => by
    obtain ⟨as, ra⟩ := repL_reads sub r (by simpa [isD] using hd)
    exact ⟨_, .tuple (sub _ _ e) rfl rfl (by simpa using ra)⟩
  | _, _, .inst _ _ _, e => by simp [isD] at e
  | _, _, .raw v, e => by simp [isD] at e
theorem repL_reads {h : Heap} {q : Gh} (sub : ∀ b o, q b = some o → h.get? b = some o) : ∀ {vs : List Value} {ds : List PV}, RepL q vs ds → isDs ds = true → ∃ as, ReadsAll h vs (toDs ds) as
  | _, _, .nil, _ => ⟨_, .nil⟩
  | _, _, .cons r rs, e => by
    simp only [isDs, Bool.and_eq_true] at e
    obtain ⟨as, ra⟩ := rep_reads sub r e.1
    obtain ⟨bs, rb⟩ := repL_reads sub rs e.2
    exact ⟨_, .cons ra rb⟩
end
end Mine
namespace Mine
section
variable {w : World} {n : Nat} {env : Env} {ρ : Rho}
structure Dat (a : PV) : Prop where
  is : isD a = true
  lay : (toD a).canLay0 = true
  depth : (toD a).depth ≤ 10
theorem room_units {A : Around} {n : Nat} (R : Room n A) : A.units ≤ 2000 := by have := R.units; omega
theorem cmp_eq {a b : PV} (ha : Dat a) (hb : Dat b) : Gives2 w n (compareOp .Eq) a b (.bool (PyData.eqv (toD a) (toD b))) := by
  refine ⟨fun A s q E Q va vb R sub ra rb k => ?_⟩
  obtain ⟨as, xa⟩ := rep_reads sub ra ha.is
  obtain ⟨bs, xb⟩ := rep_reads sub rb hb.is
  have h1 := room_units R
  have h2 := ha.depth
  exact SeqAt.compareEq_reads xa xb ha.lay hb.lay (by show A.units + min _ _ < 9900; omega) (k s.heap s.toks q _ (.refl sub) (.bool _))
theorem cmp_ne {a b : PV} (ha : Dat a) (hb : Dat b) : Gives2 w n (compareOp .NotEq) a b (.bool (!PyData.eqv (toD a) (toD b))) := by
  refine ⟨fun A s q E Q va vb R sub ra rb k => ?_⟩
  obtain ⟨as, xa⟩ := rep_reads sub ra ha.is
  obtain ⟨bs, xb⟩ := rep_reads sub rb hb.is
  have h1 := room_units R
  have h2 := ha.depth
  exact SeqAt.compareNe_reads xa xb ha.lay hb.lay (by show A.units + min _ _ < 9900; omega) (k s.heap s.toks q _ (.refl sub) (.bool _))
theorem cmp_in {a : PV} {ds : List PV} (ha : Dat a) (hb : Dat (.list ds)) : Gives2 w n (compareOp .In) a (.list ds) (.bool ((toDs ds).any fun y => PyData.eqv y (toD a))) := by
  refine ⟨fun A s q E Q va vb R sub ra rb k => ?_⟩
  obtain ⟨as, xa⟩ := rep_reads sub ra ha.is
  obtain ⟨bs, xb⟩ := rep_reads sub rb hb.is
  have h1 := room_units R
  have h2 := ha.depth
  have h3 : PyData.canLayAll0 (toDs ds) = true := by have := hb.lay; simpa [toD, PyData.canLay0] using this
  exact SeqAt.in_list_reads xb xa h3 ha.lay (by show A.units + 1 + min _ _ < 9900; omega) (k s.heap s.toks q _ (.refl sub) (.bool _))
theorem cmp_notin {a : PV} {ds : List PV} (ha : Dat a) (hb : Dat (.list ds)) : Gives2 w n (compareOp .NotIn) a (.list ds) (.bool (!(toDs ds).any fun y => PyData.eqv y (toD a))) := by
  refine ⟨fun A s q E Q va vb R sub ra rb k => ?_⟩
  obtain ⟨as, xa⟩ := rep_reads sub ra ha.is
  obtain ⟨bs, xb⟩ := rep_reads sub rb hb.is
  have h1 := room_units R
  have h2 := ha.depth
  have h3 : PyData.canLayAll0 (toDs ds) = true := by have := hb.lay; simpa [toD, PyData.canLay0] using this
  exact SeqAt.notIn_list_reads xb xa h3 ha.lay (by show A.units + 1 + min _ _ < 9900; omega) (k s.heap s.toks q _ (.refl sub) (.bool _))
end
end Mine

/-! ## P22 -/
namespace Mine
theorem isDs_ints : ∀ is : List Int, isDs (is.map .int) = true
  | [] => rfl
  | i :: r => by simp [isDs, isD, isDs_ints r]
theorem lay_ints : ∀ is : List Int, PyData.canLayAll0 (toDs (is.map .int)) = true
  | [] => rfl
  | i :: r => by simp [toDs, toD, PyData.canLayAll0, PyData.canLay0, lay_ints r]
theorem depth_ints : ∀ is : List Int, PyData.depthAll (toDs (is.map .int)) = 0
  | [] => rfl
  | i :: r => by simp [toDs, toD, PyData.depthAll, PyData.depth, depth_ints r]
theorem dat_none : Dat .none := ⟨rfl, rfl, by decide⟩
theorem dat_bool {b : Bool} : Dat (.bool b) := ⟨rfl, rfl, by simp [toD, PyData.depth]⟩
theorem dat_int {i : Int} : Dat (.int i) := ⟨rfl, rfl, by simp [toD, PyData.depth]⟩
theorem dat_ints {is : List Int} : Dat (.list (is.map .int)) := ⟨by simp [isD, isDs_ints], by simp [toD, PyData.canLay0, lay_ints], by simp [toD, PyData.depth, depth_ints]⟩
theorem isD_el (e : El) : isD e.pv = true := by cases e <;> simp [El.pv, isD, isDs_ints]
theorem lay_el (e : El) : (toD e.pv).canLay0 = true := by cases e <;> simp [El.pv, toD, PyData.canLay0, lay_ints]
theorem depth_el (e : El) : (toD e.pv).depth ≤ 1 := by cases e <;> simp [El.pv, toD, PyData.depth, depth_ints]
theorem isDs_els : ∀ es : List El, isDs (es.map El.pv) = true
  | [] => rfl
  | e :: r => by simp [isDs, isD_el, isDs_els r]
theorem lay_els : ∀ es : List El, PyData.canLayAll0 (toDs (es.map El.pv)) = true
  | [] => rfl
  | e :: r => by simp [toDs, PyData.canLayAll0, lay_el, lay_els r]
theorem depth_els : ∀ es : List El, PyData.depthAll (toDs (es.map El.pv)) ≤ 1
  | [] => by simp [toDs, PyData.depthAll]
  | e :: r => by simp only [List.map_cons, toDs, PyData.depthAll]; exact Nat.max_le.mpr ⟨depth_el e, depth_els r⟩
theorem dat_els {es : List El} : Dat (.list (es.map El.pv)) := ⟨by simp [isD, isDs_els], by simp [toD, PyData.canLay0, lay_els], by simp only [toD, PyData.depth]; have := depth_els es; omega⟩
theorem eqv_ints : ∀ is js : List Int, PyData.eqvAll (toDs (is.map .int)) (toDs (js.map .int)) = decide (is = js)
  | [], [] => by simp [toDs, PyData.eqvAll]
  | [], j :: r => by simp [toDs, PyData.eqvAll]
  | i :: r, [] => by simp [toDs, PyData.eqvAll]
  | i :: r, j :: s => by
    simp only [List.map_cons, toDs, toD, PyData.eqvAll, PyData.eqv, eqv_ints r s]
    by_cases h : i = j
    · subst h; simp
    · simp [h]
end Mine

/-! ## P23 -/
namespace Mine
/-! # Exceptions: an ArgumentError (750) on its way -/
/-- base stays as it is; hc stays up to slots; the frames l stand -/
structure Bel (base hc : Heap) (l : List Env) (h : Heap) : Prop where
  stays : base.StaysIn h
  up : hc.UpToSlots h
  frames : h.FunFrames base l
theorem Bel.keep {base hc h h' : Heap} {l : List Env} (B : Bel base hc l h) (k : Keep h h') : Bel base hc l h' :=
  ⟨fun b o e => k b o (B.stays b o e), B.up.trans (.of_keeps k), B.frames.of_keeps fun b o e _ => ⟨o, k b o e, rfl⟩⟩
noncomputable def Fresh (h : Heap) (e : Addr) (cls a0 : Value) : Prop := ∃ oe vs, h.get? e = some oe ∧ oe.cls = cls ∧ oe.data = .fields vs ∧ vs[0]? = some a0 ∧ vs[1]? = some .none
structure Exc (base hc : Heap) (l : List Env) (e : Addr) (h : Heap) : Prop where
  bel : Bel base hc l h
  new : base.get? e = none
  at_ : ∃ a0, Fresh h e (.ref 750) a0 ∨ ∃ fl, h.TracedAtW base e (.ref 750) a0 fl
structure Held (base hc : Heap) (l : List Env) (e L : Addr) (h : Heap) : Prop where
  up : hc.UpToSlots h
  held : ∃ a0, Heap.HeldW base l e (.ref 750) a0 L h
structure Trac (base hc : Heap) (l : List Env) (e : Addr) (h : Heap) : Prop where
  bel : Bel base hc l h
  new : base.get? e = none
  at_ : ∃ a0 fl, h.TracedAtW base e (.ref 750) a0 fl
theorem Held.trac {base hc h : Heap} {l : List Env} {e L : Addr} (x : Held base hc l e L h) : Trac base hc l e h := by
  obtain ⟨u, a0, k1, k2, k3, k4⟩ := x
  exact ⟨⟨k1, u, k3⟩, k2, a0, _, k4⟩
theorem Trac.exc {base hc h : Heap} {l : List Env} {e : Addr} (x : Trac base hc l e h) : Exc base hc l e h := by
  obtain ⟨k1, k2, a0, fl, k4⟩ := x
  exact ⟨k1, k2, a0, .inr ⟨_, k4⟩⟩
section
variable {M : Model} {A : Around} {E : Value → Shared → Prop} {s : Shared} {base hc : Heap} {env : Env} {outer l : List Env} {e L : Addr}
theorem exc_note {Q : Unit → Shared → Prop} (hfr : A.frames = some (env :: outer)) (hf : env.frame = some L) (x : Exc base hc (env :: outer) e s.heap)
    (hQ : ∀ h', Held base hc (env :: outer) e L h' → Q () { s with heap := h' }) : wpAny M A (noteFrame (.ref e) env) Q E s := by
  obtain ⟨⟨k1, u, k3⟩, k2, a0, k4⟩ := x
  rcases k4 with ⟨oe, vs, he, hcls, hd, h0, h1⟩ | ⟨fl, oe, vs, T, oT, ts, he, ⟨hcls, h0⟩, hd, h1, hnT, hTe, hT, hdT, h3⟩
  · unfold noteFrame
    simp only [hf]
    refine wpAny_bind (wpAny_field he hd h1 ?_)
    rw [if_neg (by decide)]
    refine wpAny_entryW hfr k3 hf he k1 k2 hd (Array.getElem?_eq_some_iff.mp h1).1 h0 fun h' ⟨y1, y2, y3, y4⟩ => ?_
    exact hQ h' ⟨u.trans y4, a0, y1, k2, y2, hcls ▸ y3⟩
  · by_cases hfl : (fl == rawInt L) = true
    · have : fl = rawInt L := by simpa using hfl
      subst this
      refine wpAny_noteFrame_againW hf ⟨oe, vs, T, oT, ts, he, ⟨hcls, h0⟩, hd, h1, hnT, hTe, hT, hdT, h3⟩ ?_
      exact hQ s.heap ⟨u, a0, k1, k2, k3, ⟨oe, vs, T, oT, ts, he, ⟨hcls, h0⟩, hd, h1, hnT, hTe, hT, hdT, h3⟩⟩
    · unfold noteFrame
      simp only [hf]
      refine wpAny_bind (wpAny_field he hd h1 ?_)
      rw [if_pos (show (Value.ref T != Value.none) = true from by simp)]
      refine wpAny_bind (wpAny_field hT hdT h3 ?_)
      rw [if_neg hfl]
      refine wpAny_bind (wpAny_setField hT hdT (Array.getElem?_eq_some_iff.mp h3).1 ?_)
      have other : ∀ b, b ≠ T → (s.heap.update T (Obj.mapFields (·.setIfInBounds 3 Value.none))).get? b = s.heap.get? b := fun b hb => Heap.get?_update_other _ _ (Ne.symm hb)
      have noRecord : ∀ b o, s.heap.get? b = some o → (∀ vs, o.data ≠ .fields vs) → b ≠ T := fun b o hb hnf q => by
        rw [q, hT] at hb; injection hb with hb; subst hb; exact hnf ts hdT
      have up1 : s.heap.UpToSlots (s.heap.update T (Obj.mapFields (·.setIfInBounds 3 Value.none))) := fun b o hb hnf => ⟨o.slots, (other b (noRecord b o hb hnf)).trans hb⟩
      refine wpAny_entryW hfr (k3.of_keeps fun b o hb hnf => ⟨o, (other b (noRecord b o hb hnf)).trans hb, rfl⟩) hf ((other e (Ne.symm hTe)).trans he)
        (fun b o hbo => (other b fun q => by rw [q, hnT] at hbo; cases hbo).trans (k1 b o hbo)) k2 hd (Array.getElem?_eq_some_iff.mp h1).1 h0 fun h' ⟨y1, y2, y3, y4⟩ => ?_
      exact hQ h' ⟨(u.trans up1).trans y4, a0, y1, k2, y2, hcls ▸ y3⟩
theorem trac_flight {Q : Unit → Shared → Prop} {f : Option Addr} (x : Trac base hc l e s.heap)
    (hQ : ∀ h', Trac base hc l e h' → Q () { s with heap := h' }) : wpAny M A (setFlight (.ref e) f) Q E s := by
  obtain ⟨⟨k1, u, k3⟩, k2, a0, fl, oe, vs, T, oT, ts, he, hcls, hd, h1, hnT, hTe, hT, hdT, h3⟩ := x
  have hsz3 : 3 < ts.size := (Array.getElem?_eq_some_iff.mp h3).1
  have other : ∀ b, b ≠ T → (s.heap.update T (Obj.mapFields (·.setIfInBounds 3 (f.elim Value.none fun f => rawInt f)))).get? b = s.heap.get? b := fun b hb => Heap.get?_update_other _ _ (Ne.symm hb)
  have noRecord : ∀ b o, s.heap.get? b = some o → (∀ vs, o.data ≠ .fields vs) → b ≠ T := fun b o hb hnf q => by
    rw [q, hT] at hb; injection hb with hb; subst hb; exact hnf ts hdT
  have up1 : s.heap.UpToSlots (s.heap.update T (Obj.mapFields (·.setIfInBounds 3 (f.elim Value.none fun f => rawInt f)))) := fun b o hb hnf => ⟨o.slots, (other b (noRecord b o hb hnf)).trans hb⟩
  unfold setFlight
  refine wpAny_bind (wpAny_field he hd h1 ?_)
  rw [if_pos (show (Value.ref T != Value.none) = true from by simp)]
  refine wpAny_setField hT hdT hsz3 (hQ _ ⟨⟨fun b o hbo => (other b fun q => by rw [q, hnT] at hbo; cases hbo).trans (k1 b o hbo), u.trans up1, k3.of_keeps fun b o hb hnf => ⟨o, (other b (noRecord b o hb hnf)).trans hb, rfl⟩⟩, k2, a0, f.elim Value.none fun f => rawInt f, ?_⟩)
  exact ⟨oe, vs, T, _, _, (other e (Ne.symm hTe)).trans he, hcls, hd, h1, hnT, hTe, Heap.get?_update_self _ hT (Obj.isFreed_of_fields (Obj.data_mapFields hdT _)), Obj.data_mapFields hdT _, by simp [hsz3]⟩
theorem held_flight {Q : Unit → Shared → Prop} {f : Option Addr} (x : Held base hc l e L s.heap)
    (hQ : ∀ h', Exc base hc l e h' → Q () { s with heap := h' }) : wpAny M A (setFlight (.ref e) f) Q E s := trac_flight x.trac fun h' z => hQ h' z.exc
/-- the frame is left -/
theorem exc_leave {Q : Unit → Shared → Prop} (hfr : A.frames = some (env :: outer)) (hf : env.frame = some L) (x : Exc base hc (env :: outer) e s.heap)
    (hQ : ∀ h', Exc base hc outer e h' → Q () { s with heap := h' }) : wpAny M A (leaving env (.ref e)) Q E s := by
  unfold leaving
  refine wpAny_bind (exc_note hfr hf x fun h' y => ?_)
  refine held_flight (s := { s with heap := h' }) y fun h'' z => hQ h'' ?_
  obtain ⟨⟨k1, u, _, _, k3⟩, k2, k4⟩ := z
  exact ⟨⟨k1, u, k3⟩, k2, k4⟩
theorem Held.field1 {h : Heap} (x : Held base hc l e L h) : ∃ oe vs T, h.get? e = some oe ∧ oe.data = .fields vs ∧ vs[1]? = some (.ref T) := by
  obtain ⟨u, a0, k1, k2, k3, oe, vs, T, oT, ts, he, hcls, hd, h1, _⟩ := x
  exact ⟨oe, vs, T, he, hd, h1⟩
theorem held_passOn {α : Type} {what : String} {cenv : Env} {Q : α → Shared → Prop} (x : Held base hc l e L s.heap) (hE : ∀ h', Exc base hc l e h' → E (.ref e) { s with heap := h' }) :
    wpAny M A (PySem.passOn what (.ref e) cenv : Sem α) Q E s := by
  obtain ⟨oe, vs, T, he, hd, h1⟩ := x.field1
  unfold PySem.passOn
  refine wpAny_bind (wpAny_field he hd h1 ?_)
  rw [if_neg (show ¬ ((Value.ref T == Value.none) = true) from by simp)]
  exact wpAny_bind (held_flight x fun h' z => wpAny_throw (hE h' z))
end
end Mine

/-! ## P24 -/
namespace Mine
theorem k_exc (w : World) : excIn (K w.params) 750 [.type "Exception", .type "BaseException", .type "object"] "Exception.__new__" = true := by kernel_rfl
theorem noteFrame_same {env fe : Env} (h : env.frame = fe.frame) (e : Value) : noteFrame e env = noteFrame e fe := by
  unfold noteFrame PySem.frameOf
  rw [h]
structure At (A : Around) (env fe : Env) (outer : List Env) : Prop where
  frames : A.frames = some (fe :: outer)
  same : env.frame = fe.frame
section
variable {M : Model} {A : Around} {E : Value → Shared → Prop} {s : Shared} {base hc : Heap} {env fe : Env} {outer l : List Env} {e L : Addr}
theorem Exc.frame {h : Heap} (x : Exc base hc (fe :: outer) e h) : ∃ L, fe.frame = some L := let ⟨⟨_, _, ⟨_, ⟨L, _, hf, _⟩, _⟩⟩, _, _⟩ := x; ⟨L, hf⟩
theorem at_back (a : At A env fe outer) (x : Exc base hc (fe :: outer) e s.heap) (hE : ∀ h', Exc base hc (fe :: outer) e h' → E (.ref e) { s with heap := h' }) :
    notedBy M A env (cameBackBy M A env E) (.ref e) s := by
  obtain ⟨L, hf⟩ := x.frame
  show wpAny M A (noteFrame (.ref e) env) _ _ _
  rw [noteFrame_same a.same]
  refine exc_note a.frames hf x fun h' y => ?_
  show wpAny M A _ _ _ _
  obtain ⟨oe, vs, T, he, hd, h1⟩ := y.field1
  refine wpAny_bind (wpAny_field (s := { s with heap := h' }) he hd h1 ?_)
  rw [if_neg (show ¬ ((Value.ref T == Value.none) = true) from by simp)]
  exact held_flight (s := { s with heap := h' }) y fun h'' z => hE h'' z
theorem at_noted {R : Value → Shared → Prop} (a : At A env fe outer) (x : Exc base hc (fe :: outer) e s.heap)
    (hE : ∀ h' L, Held base hc (fe :: outer) e L h' → R (.ref e) { s with heap := h' }) : notedBy M A env R (.ref e) s := by
  obtain ⟨L, hf⟩ := x.frame
  show wpAny M A (noteFrame (.ref e) env) _ _ _
  rw [noteFrame_same a.same]
  exact exc_note a.frames hf x fun h' y => hE h' L y
end
section
variable (w : World) (n : Nat) (env : Env) (ρ : Rho)
/-- evaluating e raises an ArgumentError -/
structure ER (e : Expr) : Prop where
  run : ∀ A s q base hc fe outer E Q, Room n A → At A env fe outer → Ctx w env ρ s.heap q → Bel base hc (fe :: outer) s.heap →
    (∀ h' tk x, Exc base hc (fe :: outer) x h' → E (.ref x) { s with heap := h', toks := tk }) → wpAny (model pw w) A (eval e env) Q E s
structure XR (st : Stmt) : Prop where
  run : ∀ A s q h0 q0 base hc outer E Q, Room n A → A.frames = some (env :: outer) → env.frame = some env.locals → Fs w env h0 q0 ρ s.heap q → Bel base hc outer h0 →
    (∀ h' tk x, Exc base hc (env :: outer) x h' → E (.ref x) { s with heap := h', toks := tk }) → wpAny (model pw w) A (exec st env) Q E s
structure XSR (ss : List Stmt) : Prop where
  run : ∀ A s q h0 q0 base hc outer E Q, Room n A → A.frames = some (env :: outer) → env.frame = some env.locals → Fs w env h0 q0 ρ s.heap q → Bel base hc outer h0 →
    (∀ h' tk x, Exc base hc (env :: outer) x h' → E (.ref x) { s with heap := h', toks := tk }) → wpAny (model pw w) A (execs ss env) Q E s
end
/-- calling f raises an ArgumentError -/
structure FR (w : World) (n : Nat) (f : Value) (args : List PV) (kw : List (Str × PV)) : Prop where
  run : ∀ A s q base hc l E Q vs ks, Room n A → A.frames = some l → Bs w s.heap q → RepL q vs args → RepL q (ks.map (·.2)) (kw.map (·.2)) → ks.map (·.1) = kw.map (·.1) → Bel base hc l s.heap →
    (∀ h' tk x, Exc base hc l x h' → E (.ref x) { s with heap := h', toks := tk }) → wpAny (model pw w) A (call f vs ks) Q E s
/-- the frame's own env stands among the frames -/
theorem Fs.bel {w : World} {env : Env} {h0 h : Heap} {q0 q : Gh} {ρ : Rho} {base hc : Heap} {outer : List Env} (F : Fs w env h0 q0 ρ h q) (B : Bel base hc outer h0) (hf : env.frame = some env.locals) : Bel base hc (env :: outer) h := by
  obtain ⟨m, o, es, ep, ho, hd, _⟩ := F.loc
  have B' := B.keep F.g.keep
  refine ⟨B'.stays, B'.up, ?_, ⟨env.locals, o, hf, ?_, ho, fun vs q => by rw [hd] at q; cases q⟩, B'.frames⟩
  · rw [F.ctx.kind]; decide
  · cases z : base.get? env.locals with
    | none => rfl
    | some o' => have := B.stays _ _ z; rw [F.locNew] at this; cases this
section
variable {w : World} {n : Nat} {env : Env} {ρ ρ' : Rho}
theorem FR.le {m : Nat} {f : Value} {args : List PV} {kw : List (Str × PV)} (h : FR w n f args kw) (hm : n ≤ m) : FR w m f args kw := ⟨fun A s q base hc l E Q vs ks R => h.run A s q base hc l E Q vs ks (R.le hm)⟩
theorem xsr_cons {st : Stmt} {rest : List Stmt} (h : X w n env ρ st (.next ρ')) (hr : XSR w n env ρ' rest) : XSR w n env ρ (st :: rest) := by
  refine ⟨fun A s q h0 q0 base hc outer E Q R hfr hf F B k => ?_⟩
  refine wpAny_execs_cons (h.run A s q h0 q0 E _ R F fun h' tk q' f p => ?_)
  obtain ⟨rfl, F'⟩ := p
  exact hr.run A _ q' h0 q0 base hc outer E Q R hfr hf F' B k
theorem xsr_here {st : Stmt} {rest : List Stmt} (h : XR w n env ρ st) : XSR w n env ρ (st :: rest) :=
  ⟨fun A s q h0 q0 base hc outer E Q R hfr hf F B k => wpAny_execs_cons (h.run A s q h0 q0 base hc outer E _ R hfr hf F B k)⟩
theorem xr_if {t : Expr} {body orelse : List Stmt} {pos : Pos} {b : Bool} (ht : TV w n env ρ t b) (h : XSR w n env ρ (if b then body else orelse)) : XR w n env ρ (.If t body orelse pos) := by
  refine ⟨fun A s q h0 q0 base hc outer E Q R hfr hf F B k => ?_⟩
  refine wpAny_If (ht.run A s q E _ R F.ctx fun h1 t1 q1 g1 => ?_)
  cases b with
  | true => exact h.run A _ q1 h0 q0 base hc outer E Q R hfr hf (F.grow g1) B k
  | false => exact h.run A _ q1 h0 q0 base hc outer E Q R hfr hf (F.grow g1) B k
theorem xr_ifT {t : Expr} {body orelse : List Stmt} {pos : Pos} (ht : TV w n env ρ t true) (h : XSR w n env ρ body) : XR w n env ρ (.If t body orelse pos) := xr_if ht h
theorem xr_ifF {t : Expr} {body orelse : List Stmt} {pos : Pos} (ht : TV w n env ρ t false) (h : XSR w n env ρ orelse) : XR w n env ρ (.If t body orelse pos) := xr_if ht h
theorem xr_return {e : Expr} {pos : Pos} (he : ER w n env ρ e) : XR w n env ρ (.Return (some e) pos) :=
  ⟨fun A s q h0 q0 base hc outer E Q R hfr hf F B k => wpAny_Return_some (he.run A s q base hc env outer E _ R ⟨hfr, rfl⟩ F.ctx (F.bel B hf) k)⟩
theorem xr_expr {e : Expr} {pos : Pos} (he : ER w n env ρ e) (hi : interactive env = false := by rfl) (hsw : swapsWith e none pos.line env = pure false := by rfl) : XR w n env ρ (.Expr e pos) :=
  ⟨fun A s q h0 q0 base hc outer E Q R hfr hf F B k => wpAny_Expr_any (he.run A s q base hc env outer E _ R ⟨hfr, rfl⟩ F.ctx (F.bel B hf) k) hi hsw⟩
/-- a call of the text's own by its name -/
theorem er_call {g : Str} {p pos : Pos} {e : Expr} {rest : List Expr} {f : Value} {ds : List PV} (hg : EV w n env ρ (.Name g p) (.raw f)) (ha : EVs w n env ρ (e :: rest) ds) (hf : FR w n f ds [])
    (hk : keepIn (K w.params) f = true) (he : starEach (e :: rest) env = (false, eval e env) :: starEach rest env := by rfl) (hplain : (backTo pos (starEach rest env)).any (·.1) = false := by rfl) :
    ER w n env ρ (.Call (.Name g p) (e :: rest) [] pos) := by
  refine ⟨fun A s q base hc fe outer E Q R a C B k => ?_⟩
  refine wpAny_Call_NameR (hg.run A s q E _ R C fun h1 t1 q1 v g1 r1 => ?_)
  cases r1
  refine callWith_K (C.grow g1).K hk (ha.run pos A _ q1 E _ R (C.grow g1) fun h2 t2 q2 vs g2 r2 => ⟨((C.grow g1).grow g2).K, ?_⟩) he hplain
  exact hf.run A _ q2 base hc (fe :: outer) E _ vs [] R a.frames ((C.grow g1).grow g2).bs r2 .nil rfl ((B.keep g1.keep).keep g2.keep) k
/-- raise ArgumentError(e) -/
theorem xr_raise {np cpos pos : Pos} {e : Expr} {d : PV} (he : EV w n env ρ e d) (hx : env.kindOf "ArgumentError" = some .globalImplicit := by rfl)
    (hs : starEach [e] env = [(false, eval e env)] := by rfl) : XR w n env ρ (.Raise (some (.Call (.Name "ArgumentError" np) [e] [] cpos)) none pos) := by
  refine ⟨fun A s q h0 q0 base hc outer E Q R hfr hf F B k => ?_⟩
  obtain ⟨mg, mb, T⟩ := F.top0
  have O : OwnCls "ArgumentError" 750 [.type "Exception", .type "BaseException", .type "object"] "Exception.__new__" mg h0 := own_of_in F.K0 T (by rfl) (k_exc w)
  obtain ⟨tl, N, nm, qq, bs, hdct, sn, sub, ab, col, dd, k0, k1, k2, k3, k5, mN, hC, hN, hni, TT⟩ := O.obj
  have fb := PySem.F.excBase_Exception
  refine wpAny_Raise_call_subU (C := 750) (nm := nm) (q := qq) (N := N) (bs := bs) (bm := tl) (hdct := hdct) (sn := sn) (sub := sub) (ab := ab) (col := col) (dd := dd) (k0 := k0) (k1 := k1) (k2 := k2) (k3 := k3) (k5 := k5)
    fb (by rfl) fb (mN := mN) (TT.hasType fb.hasBase) R.handled (by rw [hs]; rfl) hni ?_
  have hg : EV w n env ρ (.Name "ArgumentError" np) (.raw (.ref 750)) := g_fn hx
  refine hg.run A s q E _ R F.ctx fun h1 t1 q1 v g1 r1 => ?_
  cases r1
  refine ⟨rfl, ?_⟩
  have F1 := F.grow g1
  have hv := (evs_cons (rest := []) he evs_nil hs).run cpos A { s with heap := h1, toks := t1 } q1 E (fun vs s₂ => ({ pos := vs } : Args).kw = [] ∧ ({ pos := vs } : Args).pos.length ≤ sizeLine ∧ s₂.heap.get? 750 = some (excClassObj nm qq 750 N bs tl hdct sn sub ab col dd k0 k1 k2 k3 k5 "Exception.__new__") ∧ s₂.heap.Ns N mN ∧
    OwnTail s₂.heap [.type "Exception", .type "BaseException", .type "object"] tl ∧ ∀ h' e, Heap.MadeExcOf s₂.heap h' e (.ref 750) vs → E (.ref e) { s₂ with heap := h' }) R F1.ctx fun h2 t2 q2 vs g2 r2 => by
    have F2 := F1.grow g2
    have k0 := F2.g.keep
    refine ⟨rfl, by show vs.length ≤ _; rw [r2.length]; exact Nat.le_trans (by decide : 1 ≤ 1) (by decide), k0 _ _ hC, hN.keeps k0, TT.keeps k0, fun h' x hm => ?_⟩
    have B2 := F2.bel B hf
    obtain ⟨t, he, htn, ht⟩ := hm.there
    refine k h' t2 x ⟨B2.keep hm.keeps, ?_, .ref t, .inl ⟨_, _, he, rfl, rfl, rfl, rfl⟩⟩
    cases z : base.get? x with
    | none => rfl
    | some o' => have := B2.stays _ _ z; rw [hm.new] at this; cases this
  rw [hs] at hv ⊢
  exact Calls.evalArgs_plain hv
end
end Mine

/-! ## P25 -/
namespace Mine
theorem Held.sameBut {base hc h h' : Heap} {l : List Env} {e L C : Addr} {m : Str → Option Value} (x : Held base hc l e L h) (hs : Heap.SameBut C h h') (hN : h.Ns C m) (hb : base.get? C = none)
    (hcn : ∀ o, hc.get? C = some o → ∃ vs, o.data = .fields vs) (hl : C ∉ l.filterMap (·.frame)) : Held base hc l e L h' := by
  obtain ⟨u, a0, k1, k2, k3, oe, vs, T, oT, ts, he, hcls, hd, h1, hnT, hTe, hT, hdT, h3⟩ := x
  obtain ⟨o, es, ep, ho, hdo, _⟩ := hN
  have ne : ∀ b ob ws, h.get? b = some ob → ob.data = .fields ws → b ≠ C := fun b ob ws e1 e2 e3 => by
    rw [e3, ho] at e1; cases e1; rw [hdo] at e2; cases e2
  refine ⟨fun b ob hbo hn => ?_, a0, fun b ob hbo => hs.extBut b ob (fun q => by rw [q, hb] at hbo; cases hbo) (k1 b ob hbo), k2, ?_, oe, vs, T, oT, ts, hs.extBut _ _ (ne _ _ _ he hd) he, hcls, hd, h1, hnT, hTe, hs.extBut _ _ (ne _ _ _ hT hdT) hT, hdT, h3⟩
  · obtain ⟨sl, hsl⟩ := u b ob hbo hn
    refine ⟨sl, hs.extBut b _ (fun q => ?_) hsl⟩
    subst q
    obtain ⟨vs, hv⟩ := hcn ob hbo
    exact hn vs hv
  · clear he hT k1 u
    induction l with
    | nil => trivial
    | cons env r ih =>
      obtain ⟨hk, ⟨L', o', hf, hn, ho', hd'⟩, hr⟩ := k3
      rw [List.filterMap_cons, hf] at hl
      simp only [List.mem_cons, not_or] at hl
      exact ⟨hk, ⟨L', o', hf, hn, hs.extBut _ _ (Ne.symm hl.1) ho', hd'⟩, ih hl.2 hr⟩
section
variable {w : World} {n : Nat} {env : Env} {ρ : Rho}
theorem comp_coreR {x : Str} {px : Pos} {iter elt : Expr} {scope : Scope} {pos : Pos} {α : Type} {xs : List α} {gv : α → PV} {f : α → PV} {RR : Value → Addr → Result → Shared → Prop} (j : Nat)
    (hi : IT w n env ρ iter (xs.map gv)) (hfree : freeOk scope env = true) (hcell : (scope.names.all fun y => y.2 != .cell) = true) (hkind : scope.kind = .function) (hx : scope.names.lookup x = some .local)
    (turn : ∀ i a, xs[i]? = some a → i < j → ∀ C, EV w n (cEnv scope env C) (upd (rhoC scope env ρ) x (.pers (gv a))) elt (f a))
    (hj : j < xs.length) (bad : ∀ a, xs[j]? = some a → ∀ C, ER w n (cEnv scope env C) (upd (rhoC scope env ρ) x (.pers (gv a))) elt)
    (hsz : xs.length ≤ 1000000) {A : Around} {s : Shared} {q : Gh} {E : Value → Shared → Prop} (R : Room n A) (X : Ctx w env ρ s.heap q)
    {base hc : Heap} {fe : Env} {outer : List Env} (hat : At A env fe outer) (B : Bel base hc (fe :: outer) s.heap)
    (hR : ∀ D C h' tk m' y L, h'.Ns C m' → s.heap.get? C = none → Held base hc (fe :: outer) y L h' → RR (.ref D) C (.error (.ref y)) { s with heap := h', toks := tk }) :
    wpAny (model pw w) A (eval iter env) (fun xv s₁ => wpAny (model pw w) A (pyIter xv) (fun it s₂ => wpAny (model pw w) A (newList []) (fun acc s₃ =>
      wpAny (model pw w) A (newFunctionEnv scope env.globals (clOf env scope.names []) [] env.qual none .none (some env)) (fun cenv s₄ =>
        codeAny (model pw w) A (.compStart (.ListComp elt [⟨.Name x px, iter, [], 0⟩] scope pos) 0 it acc { cenv with scope := relabel scope env }) (RR acc cenv.locals) s₄) E s₃) E s₂) E s₁) E s := by
  refine hi.run A s q E _ R X fun h1 t1 q1 I fp wr P St g1 IT => ?_
  refine wpAny_newObj_type (wpAny_newFunctionEnv (fun y hy => by have := List.all_eq_true.mp hcell y hy; simpa using this) (by intro y hy; simp at hy) (fun h₁ hns₁ hsb₁ => ?_) hkind)
  dsimp only at hns₁ hsb₁ ⊢
  generalize hH2 : h1.push { cls := .type "list", dict := none, data := .seq ([] : List Value).toArray } = H2 at hns₁ hsb₁ ⊢
  have hC : H2.objs.size = h1.objs.size + 1 := by rw [← hH2, Heap.size_push]
  generalize hDe : h1.objs.size = D at *
  generalize hCe : H2.objs.size = C at *
  have hDC : D ≠ C := by omega
  have ltD : ∀ b o, h1.get? b = some o → b < D := fun b o e => hDe ▸ Heap.lt_size e
  have neC : ∀ {b : Addr}, b < D → b ≠ C := fun {b} h => Nat.ne_of_lt (Nat.lt_of_lt_of_le h (hC ▸ Nat.le_succ D))
  have old : ∀ b o, h1.get? b = some o → h₁.get? b = some o := fun b o e => hsb₁.extBut b o (neC (ltD b o e)) (Heap.get?_push_of_some _ (hH2 ▸ Heap.get?_push_of_some _ e))
  have hD1 : h1.get? D = none := by rw [← hDe]; exact get_size_none _
  have hC1 : h1.get? C = none := by
    cases e : h1.get? C with
    | none => rfl
    | some o => exact absurd rfl (neC (ltD _ _ e))
  have n1 : ∀ {b}, h1.get? b = none → s.heap.get? b = none ∧ q1 b = none := fun {b} e => by
    constructor
    · cases z : s.heap.get? b with
      | none => rfl
      | some o => rw [g1.keep _ _ z] at e; cases e
    · cases z : q1 b with
      | none => rfl
      | some o => rw [g1.sub _ _ z] at e; cases e
  have hwrlt : ∀ b ∈ wr, b < D := fun b hb => let ⟨o, ho⟩ := IT.live _ _ IT.start b hb; ltD b o ho
  have hfplt : ∀ b ∈ fp, b < D := fun b hb => by
    rcases IT.src b hb with h | ⟨o, h⟩
    · exact hwrlt b h
    · exact ltD b o (g1.sub _ _ h)
  have hacc : h₁.get? D = some (listOf ([] : List Value).toArray 0) := hsb₁.extBut _ _ hDC (Heap.get?_push_of_some _ (hH2 ▸ hDe ▸ Heap.get?_push_size _ rfl))
  have hst₁ : St 0 h₁ := IT.walks.frame _ _ _ IT.start fun b _ o e => old b o e
  have g₁ : Grow s.heap q h₁ q1 := ⟨fun b o e => old b o (g1.keep b o e), g1.le, fun b o e => old b o (g1.sub b o e), g1.fresh⟩
  have hjl : xs.length = (xs.map gv).length := (List.length_map ..).symm
  have loop : codeAny (model pw w) A (.compLoop (.ListComp elt [⟨.Name x px, iter, [], 0⟩] scope pos) 0 (.ref I) (.ref D) (cEnv scope env C)) (RR (.ref D) C) { s with heap := h₁, toks := t1 + ([] : List (Str × Value)).length } := by
    refine codeAny_compLoop_tests (fun k s' => ∃ i h' tk m' q' vs kk, s' = { s with heap := h', toks := tk } ∧ k = xs.length + 1 - i ∧ i ≤ j ∧ St i h' ∧ h'.Ns C m' ∧ h'.get? D = some (listOf vs.toArray kk) ∧
      vs.length ≤ i ∧ Grow s.heap q h' q' ∧ (∀ b o, q1 b = some o → q' b = some o) ∧ (∀ b ∈ wr, q' b = none) ∧ q' C = none ∧ q' D = none) ?_ (xs.length + 1)
      ⟨0, h₁, _, _, q1, [], 0, rfl, by omega, Nat.zero_le _, hst₁, hns₁, hacc, Nat.le_refl _, g₁, fun _ _ e => e, IT.gh, (n1 hC1).2, (n1 hD1).2⟩
    rintro k s' ⟨i, h', tk, m', q', vs, kk, rfl, hk, hile, hst, hns, hD, hlen, g, hle, hwr, hqC, hqD⟩
    have hlt : i < xs.length := by omega
    refine IT.walks.item i _ _ _ (by rw [List.length_map]; exact hlt) hst fun v h2 tk2 hP hst2 hk2 => ?_
    obtain ⟨d, hd, rd⟩ := IT.item i v (by rw [List.length_map]; exact hlt) hP
    obtain ⟨a, ha, hga⟩ : ∃ a, xs[i]? = some a ∧ gv a = d := by
      rw [List.getElem?_map] at hd
      cases hx : xs[i]? with
      | none => rw [hx] at hd; cases hd
      | some a => rw [hx] at hd; exact ⟨a, rfl, Option.some.inj hd⟩
    subst hga
    have hCw : C ∉ wr := fun h => neC (hwrlt _ h) rfl
    have hDw : D ∉ wr := fun h => Nat.lt_irrefl _ (hwrlt _ h)
    have g2 : Grow s.heap q h2 q' := ⟨fun b o e => hk2 b o (fun m => by have := IT.new b m; rw [e] at this; cases this) (g.keep b o e), g.le, fun b o e => hk2 b o (fun m => by rw [hwr b m] at e; cases e) (g.sub b o e), g.fresh⟩
    refine wpAny_assign_Name (wpAny_storeName_local (lookup_relabel_local hx) (hns.at' fun o e => hk2 _ o hCw e) (fun h3 hn3 hs3 => ?_) (by show (scope.kind == .class || (scope.kind == .module && _)) = false; rw [hkind]; rfl))
    have g3 : Grow s.heap q h3 q' :=
      ⟨fun b o e => hs3.extBut b o (by rintro rfl; rw [(n1 hC1).1] at e; cases e) (g2.keep b o e), g.le, fun b o e => hs3.extBut b o (by rintro rfl; rw [hqC] at e; cases e) (g2.sub b o e), g.fresh⟩
    have hst3 : St (i + 1) h3 := IT.walks.frame _ _ _ hst2 fun b hb o e => hs3.extBut b o (neC (hfplt b hb)) e
    have hD3 : h3.get? D = some (listOf vs.toArray kk) := hs3.extBut _ _ hDC (hk2 _ _ hDw hD)
    have X3 := ctx_comp X g3 hkind hfree hn3 hx (by rw [if_pos rfl]) (rd.mono hle)
    refine wpAny_tests_nil ?_
    rw [if_pos rfl]
    have still : ∀ {b : Addr} {o : Obj} {hh qq hh' qq'}, Grow hh qq hh' qq' → hh.get? b = some o → qq b = none → qq' b = none := fun g ho hq => ghost_still g ho hq
    obtain ⟨oC, hoC⟩ : ∃ o, h3.get? C = some o := let ⟨o, _, _, e, _⟩ := hn3; ⟨o, e⟩
    by_cases hij : i < j
    · refine (turn i a ha hij C).run A _ q' _ _ R X3 fun h5 tk5 q5 v5 g5 r5 => ?_
      have hD5 := g5.keep _ _ hD3
      have qC5 := still g5 hoC hqC
      have qD5 := still g5 hD3 hqD
      refine append_exact (s := { s with heap := h5, toks := tk5 }) hD5 (by rw [sizeLine_eq]; omega) fun h6 k6 hD6 hs6 => ?_
      have g35 := g3.trans g5
      have g6 : Grow s.heap q h6 q5 := ⟨fun b o e => hs6.extBut b o (by rintro rfl; rw [(n1 hD1).1] at e; cases e) (g35.keep b o e), g35.le, fun b o e => hs6.extBut b o (by rintro rfl; rw [qD5] at e; cases e) (g35.sub b o e), g35.fresh⟩
      refine ⟨xs.length + 1 - (i + 1), by omega, i + 1, h6, tk5, _, q5, vs ++ [v5], k6, rfl, rfl, hij, ?_, (hn3.keeps g5.keep).sameBut hs6 (Ne.symm hDC), hD6, by rw [List.length_append]; simp; omega, g6, fun b o e => g5.le _ _ (hle _ _ e), fun b hb => ?_, qC5, qD5⟩
      · exact IT.walks.frame _ _ _ hst3 fun b hb o e => hs6.extBut b o (Nat.ne_of_lt (hfplt b hb)) (g5.keep b o e)
      · obtain ⟨o, ho⟩ := IT.live _ _ hst3 b hb; exact still g5 ho (hwr b hb)
    · have hie : i = j := by omega
      subst hie
      have B3 : Bel base h3 (fe :: outer) h3 := ⟨(B.keep g3.keep).stays, .refl _, (B.keep g3.keep).frames⟩
      refine (bad a ha C).run A _ q' base h3 fe outer _ _ R ⟨hat.frames, hat.same⟩ X3 B3 fun h' tk' y ex => ?_
      refine at_noted (s := { s with heap := h', toks := tk' }) (env := cEnv scope env C) ⟨hat.frames, hat.same⟩ ex fun h'' L hh => ?_
      have up2 : h3.UpToSlots h'' := hh.up
      refine hR D C h'' tk' _ y L (up2.ns hn3) (n1 hC1).1 ⟨(B.keep g3.keep).up.trans up2, hh.held⟩
  exact codeAny_compStart_list loop (IT.walks.self 0 _ _ _ hst₁ loop)
theorem bel_apart {base hc h : Heap} {l : List Env} {C : Addr} (B : Bel base hc l h) (hC : h.get? C = none) : base.get? C = none ∧ (∀ o, hc.get? C = some o → ∃ vs, o.data = .fields vs) ∧ C ∉ l.filterMap (·.frame) := by
  refine ⟨?_, fun o e => ?_, fun m => ?_⟩
  · cases z : base.get? C with
    | none => rfl
    | some o => have := B.stays _ _ z; rw [hC] at this; cases this
  · apply Classical.byContradiction
    intro hn
    obtain ⟨sl, hs⟩ := B.up C o e fun vs q => hn ⟨vs, q⟩
    rw [hC] at hs; cases hs
  · obtain ⟨_, o, ho, _⟩ := B.frames.mem m
    rw [hC] at ho; cases ho
/-- a comprehension whose turn j raises -/
theorem er_comp {x : Str} {px : Pos} {iter elt : Expr} {scope : Scope} {pos : Pos} {α : Type} {xs : List α} (gv : α → PV) (f : α → PV) (j : Nat)
    (hi : IT w n env ρ iter (xs.map gv))
    (turn : ∀ i a, xs[i]? = some a → i < j → ∀ C, EV w n (cEnv scope env C) (upd (rhoC scope env ρ) x (.pers (gv a))) elt (f a))
    (hj : j < xs.length) (bad : ∀ a, xs[j]? = some a → ∀ C, ER w n (cEnv scope env C) (upd (rhoC scope env ρ) x (.pers (gv a))) elt)
    (hsz : xs.length ≤ 1000000) (hfree : freeOk scope env = true := by rfl) (hcell : (scope.names.all fun y => y.2 != .cell) = true := by rfl) (hkind : scope.kind = .function := by rfl) (hx : scope.names.lookup x = some .local := by rfl)
    (hnm : namesOk scope = true := by rfl) (hs : ∀ x, foldedSetIterable iter env x = pure x := by intro _; rfl) : ER w n env ρ (.ListComp elt [⟨.Name x px, iter, [], 0⟩] scope pos) := by
  refine ⟨fun A s q base hc fe outer E Q R a C B k => ?_⟩
  rw [eval_ListComp]
  refine wpAny_comprehension_free (use := none) rfl hs (closureFor_cl hfree) hkind (namesOk_ hnm) ?_
  refine comp_coreR (RR := fun acc C => compPost (model pw w) A E none Q acc C) j hi hfree hcell hkind hx turn hj bad hsz R C a B ?_
  intro D C h' tk m' y L hn hC hh
  obtain ⟨b1, b2, b3⟩ := bel_apart B hC
  refine ⟨m', hn, fun h'' hs'' cenv _ => ?_⟩
  refine held_passOn (s := { s with heap := h'', toks := tk }) (hh.sameBut hs'' hn b1 b2 b3) fun h3 z => k h3 tk y z
/-- y = a comprehension whose turn j raises -/
theorem xr_assign_comp {x y : Str} {px py : Pos} {iter elt : Expr} {scope : Scope} {pos spos : Pos} {α : Type} {xs : List α} (gv : α → PV) (f : α → PV) (j : Nat)
    (hi : IT w n env ρ iter (xs.map gv))
    (turn : ∀ i a, xs[i]? = some a → i < j → ∀ C, EV w n (cEnv scope env C) (upd (rhoC scope env ρ) x (.pers (gv a))) elt (f a))
    (hj : j < xs.length) (bad : ∀ a, xs[j]? = some a → ∀ C, ER w n (cEnv scope env C) (upd (rhoC scope env ρ) x (.pers (gv a))) elt)
    (hsz : xs.length ≤ 1000000)
    (hsw : swapsWith (.ListComp elt [⟨.Name x px, iter, [], 0⟩] scope pos) (some (.Name y py)) spos.line env = pure true := by rfl)
    (hfree : freeOk scope env = true := by rfl) (hcell : (scope.names.all fun y => y.2 != .cell) = true := by rfl) (hkind : scope.kind = .function := by rfl) (hx : scope.names.lookup x = some .local := by rfl)
    (hnm : namesOk scope = true := by rfl) (hs : ∀ x, foldedSetIterable iter env x = pure x := by intro _; rfl) :
    XR w n env ρ (.Assign [.Name y py] (.ListComp elt [⟨.Name x px, iter, [], 0⟩] scope pos) spos) := by
  refine ⟨fun A s q h0 q0 base hc outer E Q R hfr hf F B k => ?_⟩
  rw [exec_Assign_Name_used _ _ _ _ hsw]
  refine wpAny_bind (wpAny_standAt (wpAny_bind ?_))
  show wpAny _ A (do let _ ← comprehension (.ListComp elt [⟨.Name x px, iter, [], 0⟩] scope pos) scope env _ (newList []) false (eval iter env) (some (assign (.Name y py) env))) _ _ s
  refine wpAny_bind (wpAny_comprehension_free (use := some (assign (.Name y py) env)) rfl hs (closureFor_cl hfree) hkind (namesOk_ hnm) ?_)
  have B' := F.bel B hf
  refine comp_coreR (RR := fun acc C => compPost (model pw w) A E (some (assign (.Name y py) env)) _ acc C) j hi hfree hcell hkind hx turn hj bad hsz R F.ctx ⟨hfr, rfl⟩ B' ?_
  intro D C h' tk m' z L hn hC hh
  obtain ⟨b1, b2, b3⟩ := bel_apart B' hC
  refine ⟨m', hn, fun h'' hs'' cenv _ => ?_⟩
  refine held_passOn (s := { s with heap := h'', toks := tk }) (hh.sameBut hs'' hn b1 b2 b3) fun h3 e => k h3 tk z e
end
end Mine

/-! ## P26 -/
namespace Mine
theorem codeAny_frame {w : World} {n : Nat} {A : Around} {R : Result → Shared → Prop} {s : Shared} {q q0 : Gh} {h0 : Heap} {name qual : Str} {params : Arguments} {body : List Stmt} {scope : Scope} {dV kV doc pm cdv ct oc : Value} {an od : Option Addr} {osl : Array (Option Value)} {f : Addr} {args : Args}
    {binds : List (Str × Value)} {ps : List (Str × PV)}
    (ho : (K w.params).lookup f = some ⟨oc, od, .func (fnOf name qual params body scope dV kV doc pm an cdv ct), osl⟩) (hcd : codeIn (K w.params) cdv qual = true)
    (hbind : BindsTo s (fnOf name qual params body scope dV kV doc pm an cdv ct) args binds) (hrep : RepB q binds ps)
    (hkind : (ps.all fun y => scope.names.lookup y.1 == some .local || scope.names.lookup y.1 == some .cell) = true) (hnd : (ps.map (·.1)).Nodup)
    (hco : scope.isCoroutine = false) (hgen : scope.isGenerator = false) (hk : scope.kind = .function)
    (room : Room (n + 1) A) (B : Bs w s.heap q) (B0 : Bs w h0 q0) (g : Grow h0 q0 s.heap q)
    (body_ : ∀ L h₁ tk, L = s.heap.objs.size → Fs w (fEnv qual scope f cdv L) h0 q0 (rho0 ps) h₁ q → Room n (A.deeper (fEnv qual scope f cdv L)) → Keep s.heap h₁ →
      wpAny (model pw w) (A.deeper (fEnv qual scope f cdv L)) (execs body (fEnv qual scope f cdv L)) (fun f s' => R (.ok (.ret (match f with | .ret v => v | _ => .none))) s')
        (fun e s' => wpAny (model pw w) (A.deeper (fEnv qual scope f cdv L)) (leaving (fEnv qual scope f cdv L) e) (fun _ s'' => R (.error e) s'') (fun e' s'' => R (.error e') s'') s') { s with heap := h₁, toks := tk }) : codeAny (model pw w) A (.call (.ref f) args) R s := by
  obtain ⟨mg, mb, T⟩ := B.top
  have hkind' : (binds.all fun y => scope.names.lookup y.1 == some .local || scope.names.lookup y.1 == some .cell) = true := by
    have e := hrep.names
    have : (binds.map (·.1)).all (fun y => scope.names.lookup y == some .local || scope.names.lookup y == some .cell) = true := by
      rw [e, List.all_map]; exact hkind
    rw [List.all_map] at this; exact this
  refine codeAny_call_function (fd := fnOf name qual params body scope dV kV doc pm an cdv ct) (by have := room.depth; show A.depth < 1000; omega) (B.K _ _ ho) rfl hco hgen rfl (codeRec_of B.K hcd) (hbind _ _ _ _ ?_)
  refine wpAny_newFunctionEnv_cells hk (kindsX hkind' _) fun env' he s' x => ?_
  obtain ⟨h₁, tk, rfl, k₁⟩ := x.done
  have hE : env' = fEnv qual scope f cdv s.heap.objs.size := he
  subst hE
  refine ⟨T.nolimit.keeps k₁, codeAny_func ?_⟩
  have hLn : s.heap.get? s.heap.objs.size = none := get_size_none _
  have none0 : ∀ b, s.heap.get? b = none → h0.get? b = none ∧ q b = none := fun b e => by
    constructor
    · cases z : h0.get? b with
      | none => rfl
      | some o => rw [g.keep _ _ z] at e; cases e
    · cases z : q b with
      | none => rfl
      | some o => rw [B.sub _ _ z] at e; cases e
  have above : ∀ c, s.heap.objs.size ≤ c → s.heap.get? c = none := fun c hc => by
    cases z : s.heap.get? c with
    | none => rfl
    | some o => exact absurd (Heap.lt_size z) (Nat.not_lt.mpr hc)
  have nd : (binds.map (·.1)).Nodup := by rw [hrep.names]; exact hnd
  have F : Fs w (fEnv qual scope f cdv s.heap.objs.size) h0 q0 (rho0 ps) h₁ q := {
    K0 := B0.K
    top0 := B0.top
    ctx := {
      K := B.K.keeps k₁
      top := let ⟨mg, mb, t⟩ := B.top; ⟨mg, mb, t.keeps k₁⟩
      sub := fun b o e => k₁ _ _ (B.sub b o e)
      kind := hk
      globals := rfl
      builtins := rfl
      pers := fun y d e => by
        have e' : ps.lookup y = some d := by
          unfold rho0 at e
          cases z : ps.lookup y with
          | none => rw [z] at e; cases e
          | some d' => rw [z] at e; cases e; rfl
        obtain ⟨v, hv, r⟩ := hrep.lookup e'
        have hm := mem_of_lookup hv
        refine ⟨v, ?_, r⟩
        rcases kindsX hkind' (s.heap.objs.size + 1) _ hm with hl | ⟨hc, hs⟩
        · exact .loc hl x.toInCall.ns (bindL_at _ _ _ _ _ nd hl hv)
        · obtain ⟨c, hc'⟩ := Option.isSome_iff_exists.mp hs
          refine .cell hc hc' ?_
          have := x.cell y c hc'
          rw [bindC_at _ _ _ _ _ nd hc hv] at this
          exact this
      owns := fun y ds e => by
        unfold rho0 at e
        cases z : ps.lookup y with
        | none => rw [z] at e; cases e
        | some d' => rw [z] at e; cases e }
    g := ⟨fun b o e => k₁ _ _ (g.keep b o e), g.le, fun b o e => k₁ _ _ (B.sub b o e), g.fresh⟩
    loc := ⟨_, x.toInCall.ns⟩
    locNew := (none0 _ hLn).1
    locGh := (none0 _ hLn).2
    cells := fun y c e => ⟨⟨_, x.cell y c e⟩, none0 c (above c (Nat.le_of_lt (x.above y c (mem_of_lookup e))))⟩
    apart := x.apart
    ownsNew := fun y ds a e => by
      unfold rho0 at e
      cases z : ps.lookup y with
      | none => rw [z] at e; cases e
      | some d' => rw [z] at e; cases e
    ownsApart := fun y z dy dz a e => by
      unfold rho0 at e
      cases z : ps.lookup y with
      | none => rw [z] at e; cases e
      | some d' => rw [z] at e; cases e }
  exact body_ s.heap.objs.size h₁ tk rfl F room.deeper k₁

/-- running a def's code raises an ArgumentError -/
structure FCR (w : World) (n : Nat) (f : Value) (args : List PV) : Prop where
  run : ∀ A s q base hc l (R : Result → Shared → Prop) vs, Room n A → A.frames = some l → Bs w s.heap q → RepL q vs args → Bel base hc l s.heap →
    (∀ h' tk x, Exc base hc l x h' → R (.error (.ref x)) { s with heap := h', toks := tk }) → codeAny (model pw w) A (.call f ⟨vs, []⟩) R s
theorem FCR.fr {w : World} {n : Nat} {f : Value} {args : List PV} (h : FCR w n f args) : FR w n f args [] := by
  refine ⟨fun A s q base hc l E Q vs ks R hfr B r rk hks BB k => ?_⟩
  have : ks = [] := by cases ks with | nil => rfl | cons a b => cases hks
  subst this
  exact wpAny_call (h.run A s q base hc l _ vs R hfr B r BB fun h' tk x e => k h' tk x e)
theorem FC.le {w : World} {n m : Nat} {f : Value} {args : List PV} {d : PV} (h : FC w n f args d) (hm : n ≤ m) : FC w m f args d := ⟨fun A s q E vs R => h.run A s q E vs (R.le hm)⟩
theorem fcr_intro {w : World} {n : Nat} {name qual : Str} {params : Arguments} {body : List Stmt} {scope : Scope} {dV kV doc pm cdv ct oc : Value} {an od : Option Addr} {osl : Array (Option Value)} {f : Addr} {args : List PV}
    {ps : List (Str × PV)}
    (ho : (K w.params).lookup f = some ⟨oc, od, .func (fnOf name qual params body scope dV kV doc pm an cdv ct), osl⟩) (hcd : codeIn (K w.params) cdv qual = true)
    (hbind : ∀ (s : Shared) (q : Gh) (vs : List Value), Bs w s.heap q → RepL q vs args → ∃ binds, BindsTo s (fnOf name qual params body scope dV kV doc pm an cdv ct) ⟨vs, []⟩ binds ∧ RepB q binds ps)
    (names : List Str) (hkind : (names.all fun y => scope.names.lookup y == some .local || scope.names.lookup y == some .cell) = true) (hnd : decide names.Nodup = true)
    (hco : scope.isCoroutine = false) (hgen : scope.isGenerator = false) (hk : scope.kind = .function)
    (body_ : ∀ L, XSR w n (fEnv qual scope f cdv L) (rho0 ps) body) (hps : ps.map (·.1) = names := by rfl) : FCR w (n + 1) (.ref f) args := by
  have hkind : (ps.all fun y => scope.names.lookup y.1 == some .local || scope.names.lookup y.1 == some .cell) = true := by
    rw [← hps, List.all_map] at hkind; exact hkind
  have hnd : (ps.map (·.1)).Nodup := by rw [hps]; exact of_decide_eq_true hnd
  refine ⟨fun A s q base hc l R' vs R hfr B r BB k => ?_⟩
  obtain ⟨binds, hb, hr⟩ := hbind s q vs B r
  refine codeAny_frame ho hcd hb hr hkind hnd hco hgen hk R B B (Grow.refl B.sub) fun L h₁ tk _ F RR k₁ => ?_
  have hfr' := Around.frames_deeper (env := fEnv qual scope f cdv L) hfr
  refine (body_ L).run _ { s with heap := h₁, toks := tk } q s.heap q base hc l _ _ RR hfr' rfl F BB fun h' tk' x e => ?_
  refine exc_leave (s := { s with heap := h', toks := tk' }) hfr' (L := L) rfl e fun h'' e' => ?_
  exact k h'' tk' x e'
end Mine

/-! ## P27 -/
namespace Mine
/-- a call that gives b and may write the frames' slots -/
structure FX (w : World) (n : Nat) (f : Value) (args : List PV) (b : Bool) : Prop where
  run : ∀ A s q base hc l E Q vs, Room n A → A.frames = some l → Bs w base q → RepL q vs args → Bel base hc l s.heap →
    (∀ h' tk, Bel base hc l h' → Q (.bool b) { s with heap := h', toks := tk }) → wpAny (model pw w) A (call f vs []) Q E s
theorem k_kts (w : World) : ktsIn (K w.params) 750 "BaseException" = true := by kernel_rfl
theorem Trac.there {base hc h : Heap} {l : List Env} {e : Addr} (x : Trac base hc l e h) : ∃ ob, h.get? e = some ob ∧ ob.cls = .ref 750 := let ⟨_, _, _, _, k⟩ := x; k.there
/-- try: body that raises, except ArgumentError: return True -/
theorem x_caught {w : World} {n : Nat} {env : Env} {ρ : Rho} {A : Around} {s : Shared} {q q0 : Gh} {h0 base hc : Heap} {outer : List Env} {E : Value → Shared → Prop} {Q : Flow → Shared → Prop} {body rest orelse : List Stmt} {np p1 p2 p3 p4 : Pos} {kk : Nat}
    (hb : XSR w n env ρ body) (R : Room n A) (hfr : A.frames = some (env :: outer)) (hf : env.frame = some env.locals) (F : Fs w env h0 q0 ρ s.heap q) (B : Bel base hc outer h0) (BB : Bs w base q0)
    (hx : env.kindOf "ArgumentError" = some .globalImplicit)
    (hQ : ∀ h' tk, Bel base hc (env :: outer) h' → Q (.ret (.bool true)) { s with heap := h', toks := tk }) :
    wpAny (model pw w) A (execs (.Try body [.ExceptHandler (some (.Name "ArgumentError" np)) none [.Return (some (.Constant (.bool true) kk p4)) p2] p3] orelse [] p1 :: rest) env) Q E s := by
  refine wpAny_execs_cons (wpAny_Try_except ?_)
  refine hb.run A s q h0 q0 base hc outer _ _ R hfr hf F B fun h1 tk x ex => ?_
  refine exc_note (s := { s with heap := h1, toks := tk }) hfr hf ex fun h2 hh => ?_
  refine trac_flight (s := { s with heap := h2, toks := tk }) hh.trac fun h3 tr => ?_
  obtain ⟨mg, mb, T⟩ := BB.top
  have K3 : (K w.params).In h3 := BB.K.keeps tr.bel.stays
  obtain ⟨nm, q', N, bs, bm, hdct, sn, sub, ab, col, dd, k0, k1, k2, k3, k5, newId, hC, hbase, hbT⟩ := kts_cls K3 (k_kts w)
  obtain ⟨ob, hob, hobc⟩ := tr.there
  refine wpAny_handleBy_cons (codeAny_handlers_test ?_) (by intro q; cases q)
  have T3 := T.keeps tr.bel.stays
  refine Name_function_global F.ctx.kind hx (loadGlobal_global (env := env) (by rw [F.ctx.globals]; exact T3.g) (mg_of K3 T3.g (v := .ref 750) (by rfl)) ?_) (by decide)
  refine wpAny_excMatches_sub_self hC hob hobc hbase (codeAny_handlers_suite ?_)
  refine trac_flight (s := { s with heap := h3, toks := tk }) tr fun h4 tr4 => ?_
  refine wpAny_execs_cons (wpAny_Return_some (wpAny_Constant_bool ?_))
  exact hQ h4 tk tr4.bel
theorem bel_tail {base hc h : Heap} {env : Env} {l : List Env} (B : Bel base hc (env :: l) h) : Bel base hc l h := ⟨B.stays, B.up, B.frames.2.2⟩
theorem K_ref (w : World) : (K w.params).lookup 931 = some (o931 w.params) := by rfl
noncomputable def ifOf : List Stmt → List Stmt
  | .Try b _ _ _ _ :: _ => b
  | _ => []
noncomputable abbrev rRef (k : Int) (d t : PV) (i : Int) : Rho := rho0 [("kind", .int k), ("derivation", d), ("text", t), ("number", .int i)]
theorem fx_refused {w : World} {n : Nat} {k i : Int} {d t : PV} (hb : ∀ L cdv, XSR w n (fEnv "_law_refused" S931 931 cdv L) (rRef k d t i) (ifOf B931)) : FX w (n + 1) (.ref 931) [.int k, d, t, .int i] true := by
  refine ⟨fun A s q base hc l E Q vs R hfr BB r B kk => ?_⟩
  have Bh : Bs w s.heap q := ⟨BB.K.keeps B.stays, let ⟨mg, mb, t⟩ := BB.top; ⟨mg, mb, t.keeps B.stays⟩, fun b o e => B.stays b o (BB.sub b o e)⟩
  have hbd : ∃ binds, BindsTo s (fnOf (Str.ofString "_law_refused") (Str.ofString "_law_refused") A931 B931 S931 .none .none .none (.str (Str.ofString "law_kk0015_01") 1369) none (.ref 930) .none) ⟨vs, []⟩ binds ∧ RepB q binds [("kind", .int k), ("derivation", d), ("text", t), ("number", .int i)] := by
    cases r with
    | cons h1 r => cases r with
      | cons h2 r => cases r with
        | cons h3 r => cases r with
          | cons h4 r => cases r with
            | nil => exact ⟨_, BindsTo.of_eq rfl, .cons h1 (.cons h2 (.cons h3 (.cons h4 .nil)))⟩
  obtain ⟨binds, hb1, hb2⟩ := hbd
  refine wpAny_call (codeAny_frame (K_ref w) (by rfl) hb1 hb2 (by rfl) (by show (["kind", "derivation", "text", "number"] : List Str).Nodup; decide) rfl rfl rfl R Bh Bh (Grow.refl Bh.sub) fun L h₁ tk _ F RR k₁ => ?_)
  have hfr' := Around.frames_deeper (env := fEnv "_law_refused" S931 931 (.ref 930) L) hfr
  refine x_caught (s := { s with heap := h₁, toks := tk }) (hb L _) RR hfr' rfl F B BB rfl fun h' tk' B' => ?_
  exact kk h' tk' (bel_tail B')
end Mine

/-! ## P28 -/
namespace Mine
/-! # Making objects -/
section
variable {w : World} {A : Around} {s : Shared}
theorem osa_exact {x dx C : Addr} {es : List DictEntry} {n : Nat} {name : Str} {tk : Tok} {v : Value} {R : Result → Shared → Prop} (X : (K w.params).In s.heap)
    (hx : s.heap.get? x = some (instObj C dx)) (hd : s.heap.get? dx = some (dictOf es n)) (hp : plainOver (K w.params) C = true) (ht : takerIn (K w.params) C name = some none) (hh : hasDictIn (K w.params) C = true)
    (hl : (getL name es).isSome = true) (hz : es.length ≤ 100)
    (h : ∀ h', Heap.SameBut dx s.heap h' → h'.get? dx = some (dictOf (putL name (PyData.keyHash w.params name) (.str name s.toks) v es) (putN name es n)) → R (.ok (.ret .none)) { s with heap := h', toks := s.toks + 1 }) :
    codeAny (model pw w) A (.call (.builtin "object.__setattr__") ⟨[.ref x, .str name tk, v], []⟩) R s := by
  refine osa_open X (instAt_of hx hd) hp ht fun b => ?_
  obtain ⟨cd, hc, hd'⟩ := any_some hh
  have hlen : (putL name (PyData.keyHash w.params name) (.str name s.toks) v es).length ≤ es.length + 1 := by
    clear h hl hd
    induction es with
    | nil => simp [putL]
    | cons e r ih =>
      unfold putL
      split
      · simp
      · simp only [List.length_cons]
        have := ih (by simp at hz; omega)
        omega
  have D' : (s.heap.update dx (Obj.putName name (PyData.keyHash w.params name) (.str name s.toks) v)).get? dx = some (dictOf (putL name (PyData.keyHash w.params name) (.str name s.toks) v es) (putN name es n)) := by
    rw [Heap.get?_update_self _ hd (by rw [putName_dict]; rfl), putName_dict]
  refine wpAny_bind (wpAny_pure (wpAny_bind (wpAny_bind (wpAny_loadPart hx (wpAny_bind ((looks_clsIn X hc).here ?_))))))
  rw [hd']
  refine wpAny_pure (a := some dx) (wpAny_bind (wpAny_pure (wpAny_bind ?_)))
  unfold nsSet
  refine wpAny_bind (wpAny_bind (wpAny_askSetting (wpAny_pure (wpAny_bind (wpAny_mkText (wpAny_bind (wpAny_loadPart hd ?_)))))))
  have c : (!es.toArray.any (·.key.isStr name) && es.toArray.any (·.refKey)) = false := by
    unfold getL at hl
    rw [← Array.any_toList, ← Array.any_toList]
    split at hl
    · rename_i en he
      rw [List.any_eq_true.mpr ⟨en, List.mem_of_find?_eq_some he, List.find?_some he⟩]; rfl
    · split at hl
      · cases hl
      · rename_i z; rw [Bool.not_eq_true] at z; rw [z, Bool.and_false]
  dsimp only
  rw [aRefKeyMayBeTheName_at, c]
  refine wpAny_updatePart hd ?_
  refine wpAny_bind (wpAny_lookBehind D' (pastItsLine_dict (by rw [List.size_toArray, sizeLine_eq]; omega)) ?_)
  exact wpAny_pure (h _ (Heap.SameBut.update ..) D')
theorem set_exact {x dx C : Addr} {es : List DictEntry} {n : Nat} {name : Str} {v : Value} {E : Value → Shared → Prop} {Q : Unit → Shared → Prop} (X : (K w.params).In s.heap)
    (hx : s.heap.get? x = some (instObj C dx)) (hd : s.heap.get? dx = some (dictOf es n)) (hs : findIn (K w.params) (.ref C) "__setattr__" = some (some (.builtin "object.__setattr__"))) (hp : plainOver (K w.params) C = true) (ht : takerIn (K w.params) C name = some none) (hh : hasDictIn (K w.params) C = true)
    (hl : (getL name es).isSome = true) (hz : es.length ≤ 100)
    (h : ∀ h' tk, Heap.SameBut dx s.heap h' → (∃ tk', h'.get? dx = some (dictOf (putL name (PyData.keyHash w.params name) (.str name tk') v es) (putN name es n))) → Q () { s with heap := h', toks := tk }) :
    wpAny (model pw w) A (setAttr (.ref x) name v) Q E s :=
  set_plain X (instAt_of hx hd) hs (osa_exact (s := { s with toks := s.toks + 1 }) X hx hd hp ht hh hl hz fun h' hs hd' => h h' _ hs ⟨_, hd'⟩)
end
theorem repF_put {q : Gh} {name : Str} {hsh : Int} {tk : Tok} {v : Value} {d : PV} (r : Rep q v d) : ∀ {es : List DictEntry} {fs : List (Str × PV)}, RepF q es fs → fs.lookup name = none → RepF q (putL name hsh (.str name tk) v es) (fs ++ [(name, d)])
  | _, _, .nil, _ => .cons r .nil
  | _, _, .cons (hs := hs) (x := x) (t := t) (v := u) h rr, e => by
    rw [List.lookup_cons] at e
    cases hb : name == x with
    | true => rw [hb] at e; cases e
    | false =>
      rw [hb] at e
      have hx : name ≠ x := by simpa using hb
      unfold putL
      have : ((⟨hs, .str x t, u⟩ : DictEntry).key.isStr name) = false := by simp [Value.isStr, Ne.symm hx]
      rw [this]
      exact .cons h (repF_put r rr e)
theorem repF_len {q : Gh} : ∀ {es : List DictEntry} {fs : List (Str × PV)}, RepF q es fs → es.length = fs.length
  | _, _, .nil => rfl
  | _, _, .cons _ r => congrArg (· + 1) (repF_len r)

/-- what a maker's run keeps of the object being made -/
structure Mk (h0 : Heap) (q : Gh) (x dx C : Addr) (fs : List (Str × PV)) (L : Addr) (h : Heap) : Prop where
  hx : h.get? x = some (instObj C dx)
  hd : ∃ es m, h.get? dx = some (dictOf es m) ∧ RepF q es fs
  x0 : h0.get? x = none
  d0 : h0.get? dx = none
  qx : q x = none
  qd : q dx = none
  nl : dx ≠ L
section
variable {w : World} {n : Nat} {env : Env} {ρ ρ' : Rho}
/-- the maker's statements: the fields come to be fs' -/
structure XI (w : World) (n : Nat) (env : Env) (ρ : Rho) (x C : Addr) (ss : List Stmt) (fs fs' : List (Str × PV)) : Prop where
  run : ∀ A s q h0 q0 E Q dx, Room n A → Fs w env h0 q0 ρ s.heap q → Mk h0 q x dx C fs env.locals s.heap →
    (∀ h' tk q', Grow h0 q0 h' q' → Mk h0 q' x dx C fs' env.locals h' → Q .next { s with heap := h', toks := tk }) → wpAny (model pw w) A (execs ss env) Q E s
theorem xi_nil {x C : Addr} {fs : List (Str × PV)} : XI w n env ρ x C [] fs fs := ⟨fun A s q h0 q0 E Q dx R F m k => wpAny_execs_nil (k s.heap s.toks q F.g m)⟩
theorem Mk.priv {h0 h : Heap} {q0 q : Gh} {x dx C : Addr} {fs : List (Str × PV)} (m : Mk h0 q x dx C fs env.locals h) (F : Fs w env h0 q0 ρ h q) : ¬ Priv env ρ h x ∧ ¬ Priv env ρ h dx := by
  obtain ⟨es, k, hd, _⟩ := m.hd
  constructor
  · intro pv
    rcases pv with e | ⟨y, e⟩ | ⟨y, ds, e, nv⟩
    · obtain ⟨_, o, _, _, ho, hdd, _⟩ := F.loc
      rw [← e, m.hx] at ho; cases ho; cases hdd
    · obtain ⟨⟨v, o, ho, hdd⟩, _⟩ := F.cells y x e
      rw [m.hx] at ho; cases ho; cases hdd
    · obtain ⟨a, vs, k, nv', ho, _⟩ := F.ctx.owns y ds e
      cases nv'.fun nv
      rw [m.hx] at ho; cases ho
  · intro pv
    rcases pv with e | ⟨y, e⟩ | ⟨y, ds, e, nv⟩
    · exact m.nl e
    · obtain ⟨⟨v, o, ho, hdd⟩, _⟩ := F.cells y dx e
      rw [hd] at ho; cases ho; cases hdd
    · obtain ⟨a, vs, k, nv', ho, _⟩ := F.ctx.owns y ds e
      cases nv'.fun nv
      rw [hd] at ho; exact absurd ho (by intro h; injection h with h; injection h with h1 h2 h3; cases h3)
theorem xi_cons {x C : Addr} {st : Stmt} {rest : List Stmt} {fs fs' : List (Str × PV)} (h : X w n env ρ st (.next ρ')) (hr : XI w n env ρ' x C rest fs fs') : XI w n env ρ x C (st :: rest) fs fs' := by
  refine ⟨fun A s q h0 q0 E Q dx R F m k => ?_⟩
  obtain ⟨p1, p2⟩ := m.priv F
  obtain ⟨es, mm, hd, rf⟩ := m.hd
  refine wpAny_execs_cons (h.run A s q _ q E _ R F.rebase fun h' tk q' f p => ?_)
  obtain ⟨rfl, F'⟩ := p
  have gx := F'.g.keep x _ ((hideP_eq p1).trans m.hx)
  have gd := F'.g.keep dx _ ((hideP_eq p2).trans hd)
  have still : ∀ b o, (hideP s.heap (Priv env ρ s.heap)).get? b = some o → q b = none → q' b = none := fun b o e1 e2 => ghost_still F'.g e1 e2
  exact hr.run A _ q' h0 q0 E Q dx R (F.back F') ⟨gx, ⟨es, mm, gd, repF_mono F'.g.le rf⟩, m.x0, m.d0, still _ _ ((hideP_eq p1).trans m.hx) m.qx, still _ _ ((hideP_eq p2).trans hd) m.qd, m.nl⟩ k
where
  repF_mono {q q' : Gh} (k : ∀ b o, q b = some o → q' b = some o) {es : List DictEntry} {fs : List (Str × PV)} (r : RepF q es fs) : RepF q' es fs := RepF.mono k r
/-- self.name = e -/
theorem xi_store {x C : Addr} {name : Str} {np ap pos : Pos} {e : Expr} {d : PV} {rest : List Stmt} {fs fs' : List (Str × PV)} (he : EV w n env ρ e d) (hself : ρ "self" = some (.pers (.raw (.ref x)))) (hn : fs.lookup name = none) (hf : fs.length ≤ 50)
    (hr : XI w n env ρ x C rest (fs ++ [(name, d)]) fs')
    (hs : findIn (K w.params) (.ref C) "__setattr__" = some (some (.builtin "object.__setattr__"))) (hp : plainOver (K w.params) C = true) (ht : takerIn (K w.params) C name = some none) (hh : hasDictIn (K w.params) C = true)
    (hsw : swapsWith e (some (.Attribute (.Name "self" np) name ap)) pos.line env = pure false := by rfl) : XI w n env ρ x C (.Assign [.Attribute (.Name "self" np) name ap] e pos :: rest) fs fs' := by
  refine ⟨fun A s q h0 q0 E Q dx R F m k => ?_⟩
  refine wpAny_execs_cons (plainObj_wpAny_Assign_Attribute ?_ hsw)
  refine he.run A s q E _ R F.ctx fun h1 t1 q1 v g1 r1 => ?_
  have F1 := F.grow g1
  refine (ev_name (n := n) (x := "self") hself).run A _ q1 E _ R F1.ctx fun h2 t2 q2 u g2 r2 => ?_
  have F2 := F1.grow g2
  cases r2
  have g12 := g1.trans g2
  obtain ⟨es, mm, hd, rf⟩ := m.hd
  have hx2 := g12.keep _ _ m.hx
  have hd2 := g12.keep _ _ hd
  have qx2 := ghost_still g12 m.hx m.qx
  have qd2 := ghost_still g12 hd m.qd
  have rf2 := rf.mono g12.le
  have rv2 := r1.mono g2.le
  refine set_exact (s := { s with heap := h2, toks := t2 }) F2.ctx.K hx2 hd2 hs hp ht hh (by rw [repF_getL_none rf2 hn]; rfl) (by rw [repF_len rf]; omega) fun h3 t3 hsb ⟨tk', hd3⟩ => ?_
  have m2 : Mk h0 q2 x dx C fs env.locals h2 := ⟨hx2, ⟨es, mm, hd2, rf2⟩, m.x0, m.d0, qx2, qd2, m.nl⟩
  have pr := m2.priv F2
  have F3 : Fs w env h0 q0 ρ h3 q2 := F2.moved (wr := [dx]) (fun b hb => by rw [List.mem_singleton] at hb; subst hb; exact ⟨m.d0, qd2, pr.2⟩) fun b o hb e => hsb.extBut b o (by simpa using hb) e
  have xne : x ≠ dx := fun e => by rw [e] at hx2; exact absurd (hx2.symm.trans hd2) (by intro h; cases h)
  exact hr.run A _ q2 h0 q0 E Q dx R F3 ⟨hsb.extBut _ _ xne hx2, ⟨_, _, hd3, repF_put rv2 rf2 hn⟩, m.x0, m.d0, qx2, qd2, m.nl⟩ k
end
theorem room_under {n : Nat} {A : Around} {C : Addr} {vs : List Value} (R : Room (n + 1) A) : Room n (A.under (.builtin "type.__call__" ⟨.ref C :: vs, []⟩)) :=
  ⟨R.handled, by have := R.depth; show A.depth + 1 + 3 * n ≤ 600; omega, by have := R.units; show A.units + 1 + 40 * n ≤ 2000; omega⟩
/-- a class of the text is called -/
theorem fn_make {w : World} {n : Nat} {name qual : Str} {params : Arguments} {body : List Stmt} {scope : Scope} {dV kV doc pm cdv ct oc : Value} {an od : Option Addr} {osl : Array (Option Value)} {f C : Addr} {args : List PV}
    {ps : List (Str × PV)} {fs : List (Str × PV)}
    (ho : (K w.params).lookup f = some ⟨oc, od, .func (fnOf name qual params body scope dV kV doc pm an cdv ct), osl⟩) (hcd : codeIn (K w.params) cdv qual = true)
    (hbind : ∀ (s : Shared) (q : Gh) (v : Value) (vs : List Value), Bs w s.heap q → RepL q vs args → ∃ binds, BindsTo s (fnOf name qual params body scope dV kV doc pm an cdv ct) ⟨v :: vs, []⟩ binds ∧ RepB q binds (("self", .raw v) :: ps))
    (names : List Str) (hkind : ((("self" : Str) :: names).all fun y => scope.names.lookup y == some .local || scope.names.lookup y == some .cell) = true) (hnd : decide (("self" : Str) :: names).Nodup = true)
    (hm : makesIn (K w.params) C = true) (hi : findIn (K w.params) (.ref C) "__init__" = some (some (.ref f))) (hf : isFn (K w.params) (.ref f) = true)
    (hco : scope.isCoroutine = false) (hgen : scope.isGenerator = false) (hk : scope.kind = .function)
    (body_ : ∀ L x, XI w n (fEnv qual scope f cdv L) (rho0 (("self", .raw (.ref x)) :: ps)) x C body [] fs) (hps : ps.map (·.1) = names := by rfl) : FN w (n + 2) (.ref C) args [] (.inst C fs) := by
  refine ⟨fun A s q E Q vs ks R B r rk hks k => ?_⟩
  have : ks = [] := by cases ks with | nil => rfl | cons a b => cases hks
  subst this
  obtain ⟨hh, g, d, t, os⟩ := s
  refine wpAny_call (make_core (makes_of B.K hm) (looks_findIn B.K hi) (fun self => bind_fn B.K self (beq_iff_eq.mp hf)) (.inl rfl) ?_)
  have lift : Keep hh ((hh.push emptyDict).push (instObj C hh.objs.size)) := fun b o e => Heap.get?_push_of_some _ (Heap.get?_push_of_some _ e)
  have gg : Grow hh q ((hh.push emptyDict).push (instObj C hh.objs.size)) q := Grow.heap B.sub lift
  have B' : Bs w ((hh.push emptyDict).push (instObj C hh.objs.size)) q := B.grow gg
  have nx : ∀ b, hh.objs.size ≤ b → hh.get? b = none ∧ q b = none := fun b hb => by
    have h1 : hh.get? b = none := by
      cases z : hh.get? b with
      | none => rfl
      | some o => exact absurd (Heap.lt_size z) (Nat.not_lt.mpr hb)
    refine ⟨h1, ?_⟩
    cases z : q b with
    | none => rfl
    | some o => rw [B.sub _ _ z] at h1; cases h1
  obtain ⟨binds, hb, hr⟩ := hbind ⟨(hh.push emptyDict).push (instObj C hh.objs.size), g, d, t, os⟩ q (.ref (hh.objs.size + 1)) vs B' r
  have hkind' : (((("self" : Str), PV.raw (.ref (hh.objs.size + 1))) :: ps).all fun y => scope.names.lookup y.1 == some .local || scope.names.lookup y.1 == some .cell) = true := by
    rw [← hps, List.all_cons, List.all_map] at hkind; rw [List.all_cons]; exact hkind
  have hnd' : (((("self" : Str), PV.raw (.ref (hh.objs.size + 1))) :: ps).map (·.1)).Nodup := by rw [List.map_cons, hps]; exact of_decide_eq_true hnd
  refine codeAny_frame (n := n) ho hcd hb hr hkind' hnd' hco hgen hk (room_under R) B' B gg fun L h₁ tk hL F RR k₁ => ?_
  have m1 : Mk hh q (hh.objs.size + 1) hh.objs.size C [] L h₁ := by
    refine ⟨k₁ _ _ ?_, ⟨[], 0, k₁ _ _ (Heap.get?_push_of_some _ (Heap.get?_push_size _ rfl)), .nil⟩, (nx _ (by omega)).1, (nx _ (Nat.le_refl _)).1, (nx _ (by omega)).2, (nx _ (Nat.le_refl _)).2, ?_⟩
    · have := Heap.get?_push_size (hh.push emptyDict) (o := instObj C hh.objs.size) rfl
      rwa [Heap.size_push] at this
    · rw [hL]
      show hh.objs.size ≠ ((hh.push emptyDict).push (instObj C hh.objs.size)).objs.size
      rw [Heap.size_push, Heap.size_push]; omega
  refine (body_ L _).run _ ⟨h₁, g, d, tk, os⟩ q hh q _ _ hh.objs.size RR F m1 fun h' tk' q' g' mk' => ?_
  refine And.intro rfl ?_
  obtain ⟨es, mm, hd, rf⟩ := mk'.hd
  have g1 := g'.put mk'.d0 mk'.qd hd
  have qx : put q' hh.objs.size (dictOf es mm) (hh.objs.size + 1) = none := by rw [put_ne (Nat.succ_ne_self _)]; exact mk'.qx
  have g2 := g1.put mk'.x0 qx mk'.hx
  refine k h' tk' _ _ g2 ?_
  have l1 := put_le (o := dictOf es mm) mk'.qd
  have l2 := put_le (o := instObj C hh.objs.size) qx
  exact .inst put_self (l2 _ _ put_self) ((rf.mono l1).mono l2)
end Mine

/-! ## P29 -/
namespace Mine
/-- a class of the text is called and its maker raises -/
theorem fr_make {w : World} {n : Nat} {name qual : Str} {params : Arguments} {body : List Stmt} {scope : Scope} {dV kV doc pm cdv ct oc : Value} {an od : Option Addr} {osl : Array (Option Value)} {f C : Addr} {args : List PV}
    {ps : List (Str × PV)}
    (ho : (K w.params).lookup f = some ⟨oc, od, .func (fnOf name qual params body scope dV kV doc pm an cdv ct), osl⟩) (hcd : codeIn (K w.params) cdv qual = true)
    (hbind : ∀ (s : Shared) (q : Gh) (v : Value) (vs : List Value), Bs w s.heap q → RepL q vs args → ∃ binds, BindsTo s (fnOf name qual params body scope dV kV doc pm an cdv ct) ⟨v :: vs, []⟩ binds ∧ RepB q binds (("self", .raw v) :: ps))
    (names : List Str) (hkind : ((("self" : Str) :: names).all fun y => scope.names.lookup y == some .local || scope.names.lookup y == some .cell) = true) (hnd : decide (("self" : Str) :: names).Nodup = true)
    (hm : makesIn (K w.params) C = true) (hi : findIn (K w.params) (.ref C) "__init__" = some (some (.ref f))) (hf : isFn (K w.params) (.ref f) = true)
    (hco : scope.isCoroutine = false) (hgen : scope.isGenerator = false) (hk : scope.kind = .function)
    (body_ : ∀ L x, XSR w n (fEnv qual scope f cdv L) (rho0 (("self", .raw (.ref x)) :: ps)) body) (hps : ps.map (·.1) = names := by rfl) : FR w (n + 2) (.ref C) args [] := by
  refine ⟨fun A s q base hc l E Q vs ks R hfr B r rk hks BB k => ?_⟩
  have : ks = [] := by cases ks with | nil => rfl | cons a b => cases hks
  subst this
  obtain ⟨hh, g, d, t, os⟩ := s
  refine wpAny_call (make_core (makes_of B.K hm) (looks_findIn B.K hi) (fun self => bind_fn B.K self (beq_iff_eq.mp hf)) (.inl rfl) ?_)
  have lift : Keep hh ((hh.push emptyDict).push (instObj C hh.objs.size)) := fun b o e => Heap.get?_push_of_some _ (Heap.get?_push_of_some _ e)
  have gg : Grow hh q ((hh.push emptyDict).push (instObj C hh.objs.size)) q := Grow.heap B.sub lift
  have B' : Bs w ((hh.push emptyDict).push (instObj C hh.objs.size)) q := B.grow gg
  obtain ⟨binds, hb, hr⟩ := hbind ⟨(hh.push emptyDict).push (instObj C hh.objs.size), g, d, t, os⟩ q (.ref (hh.objs.size + 1)) vs B' r
  have hkind' : (((("self" : Str), PV.raw (.ref (hh.objs.size + 1))) :: ps).all fun y => scope.names.lookup y.1 == some .local || scope.names.lookup y.1 == some .cell) = true := by
    rw [← hps, List.all_cons, List.all_map] at hkind; rw [List.all_cons]; exact hkind
  have hnd' : (((("self" : Str), PV.raw (.ref (hh.objs.size + 1))) :: ps).map (·.1)).Nodup := by rw [List.map_cons, hps]; exact of_decide_eq_true hnd
  refine codeAny_frame (n := n) ho hcd hb hr hkind' hnd' hco hgen hk (room_under R) B' B' (Grow.refl B'.sub) fun L h₁ tk hL F RR k₁ => ?_
  have hfr' : ((A.under (.builtin "type.__call__" ⟨.ref C :: vs, []⟩)).deeper (fEnv qual scope f cdv L)).frames = some (fEnv qual scope f cdv L :: l) := Around.frames_deeper (env := fEnv qual scope f cdv L) hfr
  refine (body_ L _).run _ ⟨h₁, g, d, tk, os⟩ q _ q base hc l _ _ RR hfr' rfl F (BB.keep lift) fun h' tk' x e => ?_
  refine exc_leave (s := ⟨h', g, d, tk', os⟩) hfr' (L := L) rfl e fun h'' e' => ?_
  exact k h'' tk' x e'
/-! # AllowedDerivation.__init__ -/
noncomputable def setP : PV → Bool
  | .list _ => true
  | _ => false
noncomputable def wildP : PV → Bool
  | .none => true
  | .list es => (toDs es).any fun y => PyData.eqv y .none
  | _ => false
structure Itm (d : PV) : Prop where
  is : d = .none ∨ (∃ i, d = .int i) ∨ ∃ es, d = .list es ∧ Dat (.list es)
theorem Itm.noraw {d : PV} (h : Itm d) : ∀ u, d ≠ .raw u := by
  intro u e
  rcases h.is with h | ⟨i, h⟩ | ⟨es, h, _⟩ <;> rw [h] at e <;> cases e
theorem itm_el (e : El) : Itm e.pv := ⟨by
  cases e with
  | wild => exact .inl rfl
  | num i => exact .inr (.inl ⟨i, rfl⟩)
  | set is => exact .inr (.inr ⟨_, rfl, dat_ints⟩)⟩
section
variable {w : World} {n : Nat} {env : Env} {ρ : Rho}
theorem isi_itm {d : PV} (h : Itm d) : FN w n (.builtin "isinstance") [d, .raw (.type "list")] [] (.bool (setP d)) := by
  rcases h.is with h | ⟨i, h⟩ | ⟨es, h, _⟩ <;> subst h
  · exact isi_none_list
  · exact isi_int_list
  · exact isi_list_list
theorem ifs_wild {d : PV} (h : Itm d) {p1 p2 p3 p4 p5 p6 p7 p8 p9 p10 p11 p12 : Pos} {k1 k2 : Nat} (hx : ρ "i" = some (.pers d)) (hi : env.kindOf "isinstance" = some .globalImplicit) (hl : env.kindOf "list" = some .globalImplicit) :
    TV w n env ρ (.BoolOp .Or [.Compare (.Name "i" p1) [.Is] [.Constant .none k1 p2] p3, .BoolOp .And [.Call (.Name "isinstance" p4) [.Name "i" p5, .Name "list" p6] [] p7, .Compare (.Constant .none k2 p8) [.In] [.Name "i" p9] p10] p11] p12) (wildP d) := by
  refine (tv_or (c := setP d && wildP d) (tv_cmp (ev_name hx) ev_none (cmp_is_none h.noraw)) fun hn => ?_).eq ?_
  · refine (tv_or (c := false) (tv_and (c := wildP d) (tv_plain (ev_callB (g_isinstance hi) (evs_cons (ev_name hx) (evs_cons (g_list hl) evs_nil)) (isi_itm h)) truth_bool) fun hs => ?_) fun _ => tv_or_nil).eq (by simp)
    rcases h.is with h | ⟨i, h⟩ | ⟨es, h, hd⟩ <;> subst h
    · cases hn
    · cases hs
    · exact (tv_and (c := true) (tv_cmp ev_none (ev_name hx) (cmp_in dat_none hd)) fun _ => tv_and_nil).eq (by simp [wildP, toD])
  · rcases h.is with h | ⟨i, h⟩ | ⟨es, h, _⟩ <;> subst h <;> simp [isNone, setP, wildP]
theorem filterMap_filter {f : PV → Bool} : ∀ ds : List PV, ds.filterMap (fun d => if f d then some d else none) = ds.filter f
  | [] => rfl
  | d :: r => by
    rw [List.filterMap_cons, List.filter_cons, filterMap_filter r]
    cases f d <;> rfl
end
theorem bind_init {w : World} {ds : List PV} (s : Shared) (q : Gh) (v : Value) (vs : List Value) (B : Bs w s.heap q) (r : RepL q vs [.list ds]) :
    ∃ binds, BindsTo s (fnOf "__init__" "AllowedDerivation.__init__" A825 B825 S825 (.ref 820) .none .none (.str (Str.ofString "embit.descriptor.arguments") 1167) none (.ref 824) .none) ⟨v :: vs, []⟩ binds ∧ RepB q binds [("self", .raw v), ("indexes", .list ds)] := by
  cases r with
  | cons h1 r => cases r with
    | nil => exact ⟨_, binds_K B.K rfl (by rfl) rfl rfl rfl, .cons (.raw v) (.cons h1 .nil)⟩
end Mine

/-! ## P30 -/
namespace Mine
theorem k_makes (w : World) : makesIn (K w.params) 903 = true := by kernel_rfl
theorem k_init (w : World) : findIn (K w.params) (.ref 903) "__init__" = some (some (.ref 825)) := by kernel_rfl
theorem k_setattr (w : World) : findIn (K w.params) (.ref 903) "__setattr__" = some (some (.builtin "object.__setattr__")) := by kernel_rfl
theorem k_over (w : World) : plainOver (K w.params) 903 = true := by kernel_rfl
theorem k_taker (w : World) : takerIn (K w.params) 903 "indexes" = some none := by kernel_rfl
section
variable {w : World} {n : Nat} {ds : List PV}
theorem x_count {env : Env} {ρ : Rho} {f : PV → Bool} {b1 p1 p2 p3 p4 p5 p6 p7 : Pos} {k : Nat} {c : Expr} {scope : Scope} (hg : env.kindOf "len" = some .globalImplicit) (hi : ρ "indexes" = some (.pers (.list ds))) (hl : ds.length ≤ 100)
    (hc : ∀ d ∈ ds, ∀ C, TV w n (cEnv scope env C) (upd (rhoC scope env ρ) "i" (.pers d)) c (f d))
    (hel : ∀ d ∈ ds, ∀ C, EV w n (cEnv scope env C) (upd (rhoC scope env ρ) "i" (.pers d)) (.Name "i" p1) d)
    (hfree : freeOk scope env = true := by rfl) (hcell : (scope.names.all fun y => y.2 != .cell) = true := by rfl) (hkind : scope.kind = .function := by rfl) (hx : scope.names.lookup ("i" : Str) = some .local := by rfl)
    (hnm : namesOk scope = true := by rfl) :
    TV w n env ρ (.Compare (.Call (.Name "len" p2) [.ListComp (.Name "i" p1) [⟨.Name "i" p3, .Name "indexes" p4, [c], 0⟩] scope p5] [] p6) [.Gt] [.Constant (.int 1) k p7] b1) (decide (1 < (ds.filter f).length)) := by
  have h1 := evo_comp (w := w) (n := n) (env := env) (ρ := ρ) (elt := .Name "i" p1) (ifs := [c]) (px := p3) (pos := p5) (iter := .Name "indexes" p4) (xs := ds) (fun d => d) (fun d => if f d then some d else none)
    (by rw [List.map_id']; exact it_list (ev_name hi)) (fun d hd C => ⟨by
      have : (if f d = true then some d else none).isSome = f d := by cases f d <;> rfl
      rw [this]; exact ifs_one (hc d hd C), fun e he => by
      cases hf : f d with
      | false => rw [hf] at he; cases he
      | true => rw [hf] at he; cases he; exact hel d hd C⟩) (by omega) hfree hcell hkind hx hnm
  rw [filterMap_filter] at h1
  refine (tv_cmp (ev_callB (g_len hg) (evs_cons h1.ev evs_nil) (len_list_ ?_)) ev_int cmp_gt_int).eq ?_
  · have := List.length_filter_le f ds; omega
  · rw [decide_eq_decide]; omega
/-- AllowedDerivation(indexes) -/
theorem fn_make_der (hl : ds.length ≤ 100) (hd : ∀ d ∈ ds, Itm d) (h1 : (ds.filter wildP).length ≤ 1) (h2 : (ds.filter setP).length ≤ 1) : FN w 2 (.ref 903) [.list ds] [] (.inst 903 [("indexes", .list ds)]) := by
  refine fn_make (f := 825) (ps := [("indexes", .list ds)]) (by rfl) (by rfl) (fun s q v vs B r => bind_init s q v vs B r) ["indexes"] (by rfl) (by decide) (k_makes w) (k_init w) (by rfl) rfl rfl rfl ?_
  intro L x
  refine xi_cons (x_ifF ((x_count (f := wildP) rfl rfl hl (fun d hm C => ifs_wild (hd d hm) rfl rfl rfl) fun d hm C => ev_name rfl).eq (by simpa using h1)) xs_nil) ?_
  refine xi_cons (x_ifF ((x_count (f := setP) rfl rfl hl (fun d hm C => tv_plain (ev_callB (g_isinstance rfl) (evs_cons (ev_name rfl) (evs_cons (g_list rfl) evs_nil)) (isi_itm (hd d hm))) truth_bool) fun d hm C => ev_name rfl).eq (by simpa using h2)) xs_nil) ?_
  exact xi_store (ev_name rfl) rfl rfl (by decide) xi_nil (k_setattr w) (k_over w) (k_taker w) (k_dict w)
/-- AllowedDerivation(indexes) raises -/
theorem fr_make_der (hl : ds.length ≤ 100) (hd : ∀ d ∈ ds, Itm d) (h : 1 < (ds.filter wildP).length ∨ 1 < (ds.filter setP).length) : FR w 2 (.ref 903) [.list ds] [] := by
  refine fr_make (f := 825) (ps := [("indexes", .list ds)]) (by rfl) (by rfl) (fun s q v vs B r => bind_init s q v vs B r) ["indexes"] (by rfl) (by decide) (k_makes w) (k_init w) (by rfl) rfl rfl rfl ?_
  intro L x
  by_cases hw : 1 < (ds.filter wildP).length
  · exact xsr_here (xr_ifT ((x_count (f := wildP) rfl rfl hl (fun d hm C => ifs_wild (hd d hm) rfl rfl rfl) fun d hm C => ev_name rfl).eq (by simpa using hw)) (xsr_here (xr_raise ev_str)))
  · have hs : 1 < (ds.filter setP).length := h.resolve_left hw
    refine xsr_cons (x_ifF ((x_count (f := wildP) rfl rfl hl (fun d hm C => ifs_wild (hd d hm) rfl rfl rfl) fun d hm C => ev_name rfl).eq (by simpa using hw)) xs_nil) ?_
    exact xsr_here (xr_ifT ((x_count (f := setP) rfl rfl hl (fun d hm C => tv_plain (ev_callB (g_isinstance rfl) (evs_cons (ev_name rfl) (evs_cons (g_list rfl) evs_nil)) (isi_itm (hd d hm))) truth_bool) fun d hm C => ev_name rfl).eq (by simpa using hs)) (xsr_here (xr_raise ev_str)))
end
end Mine

/-! ## P31 -/
namespace Mine
theorem first_or {α : Type} (p : α → Bool) : ∀ l : List α, (∀ e ∈ l, p e = false) ∨ ∃ (j : Nat) (e : α), l[j]? = some e ∧ p e = true ∧ ∀ i, i < j → ∀ e', l[i]? = some e' → p e' = false
  | [] => .inl fun _ h => by cases h
  | a :: r => by
    cases ha : p a with
    | true => exact .inr ⟨0, a, rfl, ha, fun i hi => absurd hi (Nat.not_lt_zero _)⟩
    | false =>
      rcases first_or p r with h | ⟨j, e, h1, h2, h3⟩
      · refine .inl fun e he => ?_
        rcases List.mem_cons.mp he with rfl | he
        · exact ha
        · exact h e he
      · refine .inr ⟨j + 1, e, by simpa using h1, h2, fun i hi e' he' => ?_⟩
        cases i with
        | zero => simp at he'; subst he'; exact ha
        | succ i => exact h3 i (by omega) e' (by simpa using he')
theorem map_get {α : Type} {f : α → PV} {l : List α} {i : Nat} {d : PV} (h : (l.map f)[i]? = some d) : ∃ e, l[i]? = some e ∧ f e = d := by
  rw [List.getElem?_map] at h
  cases hx : l[i]? with
  | none => rw [hx] at h; cases h
  | some a => rw [hx] at h; exact ⟨a, rfl, Option.some.inj h⟩
theorem get_lt {α : Type} {l : List α} {i : Nat} {a : α} (h : l[i]? = some a) : i < l.length := (List.getElem?_eq_some_iff.mp h).1
noncomputable def El.isWild : El → Bool
  | .wild => true
  | _ => false
noncomputable def El.isNum : El → Bool
  | .num _ => true
  | _ => false
noncomputable def El.hard : El → Bool
  | .wild => false
  | .num i => decide (HARD ≤ i)
  | .set is => is.any fun i => decide (HARD ≤ i)
theorem any_wild : ∀ els : List El, ((toDs (els.map El.pv)).any fun y => PyData.eqv y .none) = els.any El.isWild
  | [] => rfl
  | e :: r => by
    simp only [List.map_cons, toDs, List.any_cons, any_wild r]
    cases e <;> simp [El.pv, toD, PyData.eqv, El.isWild]
section
variable {w : World} {n : Nat} {env : Env} {ρ : Rho}
theorem isi_el_int (e : El) : FN w n (.builtin "isinstance") [e.pv, .raw (.type "int")] [] (.bool e.isNum) := by
  cases e with
  | wild => exact isi_none_int
  | num i => exact isi_int_int
  | set is => exact isi_list_int
theorem el_noraw (e : El) : ∀ u, e.pv ≠ .raw u := (itm_el e).noraw
theorem isNone_el (e : El) : isNone e.pv = e.isWild := by cases e <;> rfl
/-- is_wildcard -/
theorem fc_wild {els : List El} : FC w 1 (.ref 832) [der els] (.bool (els.any El.isWild)) := by
  refine fc_intro (ps := [("self", der els)]) (out := .ret (.bool (els.any El.isWild))) (f := 832) (by rfl) (by rfl) ?_ ["self"] (by rfl) (by decide) rfl rfl rfl ?_ rfl
  · intro s q vs B r
    cases r with
    | cons h1 r => cases r with
      | nil => exact ⟨_, BindsTo.of_eq rfl, .cons h1 .nil⟩
  · intro L
    refine xs_one (x_return ((ev_cmp ev_none (ev_idx (ev_name rfl)) (cmp_in dat_none dat_els)).eq ?_))
    rw [← any_wild]; rfl
/-- has_hardend -/
theorem hard_len {is : List Int} : (decide ((0 : Int) < ((is.filterMap fun i => if decide (HARD ≤ i) then some (PV.int i) else none).length : Int))) = is.any fun i => decide (HARD ≤ i) := by
  induction is with
  | nil => rfl
  | cons a r ih =>
    rw [List.any_cons, List.filterMap_cons]
    cases h : decide (HARD ≤ a) with
    | true => simp only [if_true, List.length_cons, Bool.true_or]; exact decide_eq_true (by omega)
    | false => simp only [Bool.false_eq_true, if_false, Bool.false_or]; exact ih
theorem tv_hard1 {e : El} {p1 p2 p3 p4 p5 p6 p7 p8 : Pos} (hx : ρ "idx" = some (.pers e.pv)) (hi : env.kindOf "isinstance" = some .globalImplicit) (hl : env.kindOf "int" = some .globalImplicit) (hh : env.kindOf "HARDENED_INDEX" = some .globalImplicit) :
    TV w n env ρ (.BoolOp .And [.Call (.Name "isinstance" p1) [.Name "idx" p2, .Name "int" p3] [] p4, .Compare (.Name "idx" p5) [.GtE] [.Name "HARDENED_INDEX" p6] p7] p8) (e.isNum && e.hard) := by
  refine tv_and (tv_plain (ev_callB (g_isinstance hi) (evs_cons (ev_name hx) (evs_cons (g_int hl) evs_nil)) (isi_el_int e)) truth_bool) fun hn => ?_
  cases e with
  | num i => exact (tv_and (c := true) (tv_cmp (ev_name hx) (g_hard hh) cmp_ge_int) fun _ => tv_and_nil).eq (by simp [El.hard])
  | wild => cases hn
  | set is => cases hn
theorem tv_hard2 {e : El} (hs : e.small) {p1 p2 p3 p4 p5 p6 p7 p8 p9 p10 p11 p12 p13 p14 p15 p16 : Pos} {k : Nat} {scope : Scope} (hx : ρ "idx" = some (.pers e.pv)) (hi : env.kindOf "isinstance" = some .globalImplicit) (hl : env.kindOf "list" = some .globalImplicit) (hn : env.kindOf "len" = some .globalImplicit)
    (hh : ∀ C, (cEnv scope env C).kindOf "HARDENED_INDEX" = some .globalImplicit)
    (hfree : freeOk scope env = true := by rfl) (hcell : (scope.names.all fun y => y.2 != .cell) = true := by rfl) (hkind : scope.kind = .function := by rfl) (hxx : scope.names.lookup ("i" : Str) = some .local := by rfl)
    (hnm : namesOk scope = true := by rfl) :
    TV w n env ρ (.BoolOp .And [.Call (.Name "isinstance" p1) [.Name "idx" p2, .Name "list" p3] [] p4, .Compare (.Call (.Name "len" p5) [.ListComp (.Name "i" p6) [⟨.Name "i" p7, .Name "idx" p8, [.Compare (.Name "i" p9) [.GtE] [.Name "HARDENED_INDEX" p10] p11], 0⟩] scope p12] [] p13) [.Gt] [.Constant (.int 0) k p14] p15] p16) (e.isSet && e.hard) := by
  refine tv_and (tv_plain (ev_callB (g_isinstance hi) (evs_cons (ev_name hx) (evs_cons (g_list hl) evs_nil)) (isi_el e)) truth_bool) fun hset => ?_
  cases e with
  | num i => cases hset
  | wild => cases hset
  | set is =>
    have hsm : is.length ≤ 10 ∧ ∀ i ∈ is, i.natAbs < 10 ^ 11 := hs
    have h1 := evo_comp (w := w) (n := n) (env := env) (ρ := ρ) (elt := .Name "i" p6) (ifs := [.Compare (.Name "i" p9) [.GtE] [.Name "HARDENED_INDEX" p10] p11]) (px := p7) (pos := p12) (iter := .Name "idx" p8) (xs := is) PV.int (fun i => if decide (HARD ≤ i) then some (PV.int i) else none)
      (it_list (ev_name hx)) (fun i hi C => ⟨by
        have : (if decide (HARD ≤ i) = true then some (PV.int i) else none).isSome = decide (HARD ≤ i) := by cases decide (HARD ≤ i) <;> rfl
        rw [this]; exact ifs_one (tv_cmp (ev_name rfl) (g_hard (hh C)) cmp_ge_int), fun d hd => by
        cases hf : decide (HARD ≤ i) with
        | false => rw [hf] at hd; cases hd
        | true => rw [hf] at hd; cases hd; exact ev_name rfl⟩) (by omega) hfree hcell hkind hxx hnm
    refine (tv_and (c := true) (tv_cmp (ev_callB (g_len hn) (evs_cons h1.ev evs_nil) (len_list_ ?_)) ev_int cmp_gt_int) fun _ => tv_and_nil).eq ?_
    · have := List.length_filterMap_le (fun i => if decide (HARD ≤ i) then some (PV.int i) else none) is
      omega
    · rw [hard_len, Bool.and_true]; rfl
theorem fc_hard {els : List El} (hs : ∀ e ∈ els, e.small) : FC w 1 (.ref 876) [der els] (.bool (els.any El.hard)) := by
  have hbind : ∀ (s : Shared) (q : Gh) (vs : List Value), Bs w s.heap q → RepL q vs [der els] → ∃ binds, BindsTo s (fnOf "has_hardend" "AllowedDerivation.has_hardend" A876 B876 S876 .none .none .none (.str (Str.ofString "embit.descriptor.arguments") 1167) none (.ref 875) .none) ⟨vs, []⟩ binds ∧ RepB q binds [("self", der els)] := by
    intro s q vs B r
    cases r with
    | cons h1 r => cases r with
      | nil => exact ⟨_, BindsTo.of_eq rfl, .cons h1 .nil⟩
  have hcase : ∀ e : El, e.hard = ((e.isNum && e.hard) || (e.isSet && e.hard)) := fun e => by cases e <;> simp [El.isNum, El.isSet, El.hard]
  rcases first_or El.hard els with hall | ⟨j, e, hj, he, hb⟩
  · refine fc_intro (ps := [("self", der els)]) (out := .ret (.bool false)) (f := 876) (by rfl) (by rfl) hbind ["self"] (by rfl) (by decide) rfl rfl rfl ?_ ?_
    · intro L
      refine xs_cons (x_forN (ds := els.map El.pv) (fun _ => rho0 [("self", der els)]) (it_list (ev_idx (ev_name rfl))) rfl sub_refl ?_) (xs_one (x_return ev_bool))
      intro i d hd
      obtain ⟨e, he, rfl⟩ := map_get hd
      have hm := List.mem_of_getElem? he
      refine ⟨_, xs_cons (x_ifF ((tv_hard1 rfl rfl rfl rfl).eq (by rw [hall e hm, Bool.and_false])) xs_nil) (xs_one (x_ifF ((tv_hard2 (hs e hm) rfl rfl rfl rfl (fun _ => rfl)).eq (by rw [hall e hm, Bool.and_false])) xs_nil)), sub_skip rfl sub_refl⟩
    · show PV.bool false = _
      rw [List.any_eq_false.mpr fun e he => by rw [hall e he]; decide]
  · refine fc_intro (ps := [("self", der els)]) (out := .ret (.bool true)) (f := 876) (by rfl) (by rfl) hbind ["self"] (by rfl) (by decide) rfl rfl rfl ?_ ?_
    · intro L
      refine xs_ret (x_forR (ds := els.map El.pv) (fun _ => rho0 [("self", der els)]) j (it_list (ev_idx (ev_name rfl))) rfl sub_refl (by rw [List.length_map]; exact get_lt hj) ?_ ?_)
      · intro i d hd hlt
        obtain ⟨e', he', rfl⟩ := map_get hd
        have hm := List.mem_of_getElem? he'
        have h0 := hb i hlt e' he'
        exact ⟨_, xs_cons (x_ifF ((tv_hard1 rfl rfl rfl rfl).eq (by rw [h0, Bool.and_false])) xs_nil) (xs_one (x_ifF ((tv_hard2 (hs e' hm) rfl rfl rfl rfl (fun _ => rfl)).eq (by rw [h0, Bool.and_false])) xs_nil)), sub_skip rfl sub_refl⟩
      · intro d hd
        rw [List.getElem?_map, hj] at hd
        cases hd
        have hm := List.mem_of_getElem? hj
        cases hn : e.isNum with
        | true => exact xs_ret (x_ifT ((tv_hard1 rfl rfl rfl rfl).eq (by rw [he, hn]; rfl)) (xs_one (x_return ev_bool)))
        | false =>
          have hset : e.isSet = true := by have := hcase e; rw [he, hn] at this; simpa using this
          exact xs_cons (x_ifF ((tv_hard1 rfl rfl rfl rfl).eq (by rw [hn]; rfl)) xs_nil) (xs_one (x_ifT ((tv_hard2 (hs e hm) rfl rfl rfl rfl (fun _ => rfl)).eq (by rw [he, hset]; rfl)) (xs_one (x_return ev_bool))))
    · show PV.bool true = _
      rw [List.any_eq_true.mpr ⟨e, List.mem_of_getElem? hj, he⟩]
end
end Mine

/-! ## P32 -/
namespace Mine
section
variable {w : World} {n : Nat}
theorem strOf_inst {A : Around} {s : Shared} {q : Gh} {E : Value → Shared → Prop} {Q : Value → Shared → Prop} {C f : Addr} {fs : List (Str × PV)} {v : Value} {x : Str} (R : Room n A) (B : Bs w s.heap q) (r : Rep q v (.inst C fs))
    (hs : findIn (K w.params) (.ref C) "__str__" = some (some (.ref f))) (hf : isFn (K w.params) (.ref f) = true) (hF : FN w n (.ref f) [.inst C fs] [] (.str x))
    (k : ∀ h' tk q' t, Grow s.heap q h' q' → Q (.str x t) { s with heap := h', toks := tk }) : wpAny (model pw w) A (Builtin.Str.strOf v) Q E s := by
  cases hr : r with
  | @inst a dx C es m fs hx hdx rf =>
    unfold Builtin.Str.strOf
    rw [if_neg (show ¬ (Builtin.Str.isExactStr (.ref a) = true) from by intro h; cases h)]
    refine wpAny_bind (wpAny_cRoomFor_or (.inr (by have := R.units; show A.units < 9900; omega)) ?_)
    refine wpAny_bind (special_fn B.K (instAt_of (B.sub _ _ hx) (B.sub _ _ hdx)) hs (beq_iff_eq.mp hf) ?_)
    refine hF.run A s q E _ [.ref a] [] R B (.cons r .nil) .nil rfl fun h' tk q' v g rv => ?_
    cases rv
    exact wpAny_bind (wpAny_pure (wpAny_pure (k h' tk q' _ g)))
theorem meetsIn_str {v : Value} {S : PySem.Spec} (hs : ∀ (A : Around) (R : Result → Shared → Prop) (s : Shared), S A R s → wpAny (model pw w) A.in1 (Builtin.Str.strOf v) (fun r s' => R (.ok (.ret r)) s') (fun e s' => R (.error e) s') s) :
    MeetsIn pw w (Builtin.«str.__new__» ⟨[.type "str", v], []⟩) S := by
  intro A R s h
  rw [str_new_tree v]
  refine wpAny_bind (wpAny_pure ?_)
  refine wpAny_bind (wpAny_of_eq isSubtype_str_str ?_)
  exact wpAny_bind (wpAny_mono (hs A R s h) (fun r s' h' => wpAny_pure h') fun _ _ e => e)
/-- str of an object -/
theorem fn_str_inst {C f : Addr} {fs : List (Str × PV)} {x : Str} (hs : findIn (K w.params) (.ref C) "__str__" = some (some (.ref f))) (hf : isFn (K w.params) (.ref f) = true) (hF : FN w n (.ref f) [.inst C fs] [] (.str x)) :
    FN w (n + 1) (.type "str") [.inst C fs] [] (.str x) := by
  refine ⟨fun A s q E Q vs ks R B r rk hks k => ?_⟩
  have : ks = [] := by cases ks with | nil => rfl | cons a b => cases hks
  subst this
  cases r with
  | cons h r => cases r with
    | nil =>
      rename_i v
      refine callType_newIn PySem.F.called_str (by decide) (PySem.F.typeCall_str_1 _) (PySem.F.newCall_str_1 _) (fun obj => PySem.F.args_object_init_2 obj _) PySem.F.entry_str_new
        (meetsIn_str (S := fun (A : Around) (R : Result → Shared → Prop) (s : Shared) => wpAny (model pw w) A.in1 (Builtin.Str.strOf v) (fun r s' => R (.ok (.ret r)) s') (fun e s' => R (.error e) s') s) fun A R s h => h) ?_
      exact strOf_inst (n := n) (A := A.in1.in1) ⟨R.handled, by have := R.depth; show A.depth + 3 * n ≤ 600; omega, by have := R.units; show A.units + 1 + 1 + 40 * n ≤ 2000; omega⟩ B h hs hf hF fun h' tk q' t g => ⟨rfl, k h' tk q' _ g (.str _ _)⟩
end
end Mine

/-! ## P33 -/
namespace Mine
noncomputable def dstr (els : List El) : Str := els.foldl (fun s e => s ++ ("/" ++ elText false "h" e)) ""
theorem dstr_take {els : List El} {i : Nat} {e : El} (h : els[i]? = some e) : dstr (els.take (i + 1)) = dstr (els.take i) ++ ("/" ++ elText false "h" e) := by
  unfold dstr
  rw [List.take_add_one, h, List.foldl_append]
  rfl
theorem dfold_len {els : List El} {s : Str} (h : ∀ e ∈ els, e.small) : (els.foldl (fun s e => s ++ ("/" ++ elText false "h" e)) s).length ≤ s.length + 153 * els.length := by
  induction els generalizing s with
  | nil => simp
  | cons a r ih =>
    have h1 := elText_len (braces := false) (mark := "h") (h a List.mem_cons_self) (by decide)
    have h2 := ih (s := s ++ ("/" ++ elText false "h" a)) fun e he => h e (List.mem_cons_of_mem _ he)
    rw [PySem.Str.length_append, PySem.Str.length_append] at h2
    have c : (Str.ofString "/").length = 1 := rfl
    simp only [List.length_cons, List.foldl_cons]
    omega
theorem ev_word {w : World} {n : Nat} {env : Env} {ρ : Rho} {i : Int} (hi : i.natAbs < 10 ^ 11) {p1 p2 p3 p4 p5 p6 p7 p8 p9 p10 p11 p12 p13 p14 : Pos} {k1 : Nat} (hx : ρ "i" = some (.pers (.int i))) (hs : env.kindOf "str" = some .globalImplicit) (hh : env.kindOf "HARDENED_INDEX" = some .globalImplicit) :
    EV w n env ρ (.IfExp (.Compare (.Name "i" p1) [.Lt] [.Name "HARDENED_INDEX" p2] p3) (.Call (.Name "str" p4) [.Name "i" p5] [] p6) (.BinOp (.Call (.Name "str" p7) [.BinOp (.Name "i" p8) .Sub (.Name "HARDENED_INDEX" p9) p10] [] p11) .Add (.Constant (.str "h") k1 p12) p13) p14) (.str (word i "h")) := by
  refine ev_if (c := decide (i < HARD)) (tv_cmp (ev_name hx) (g_hard hh) cmp_lt_int) ?_
  unfold word
  by_cases h : i < HARD
  · rw [if_pos (decide_eq_true h), if_pos h]
    exact ev_callT (g_str hs) (evs_cons (ev_name hx) evs_nil) (str_int_ (by omega))
  · rw [if_neg (by simpa using h), if_neg h]
    refine ev_bin (ev_callT (g_str hs) (evs_cons (ev_bin (ev_name hx) (g_hard hh) op_sub_int) evs_nil) (str_int_ ?_)) ev_str (op_add_str ?_)
    · unfold HARD; omega
    · have := dec_len (i := i - HARD) (by unfold HARD; omega)
      have c : (Str.ofString "h").length = 1 := rfl
      rw [sizeLine_eq]; omega
noncomputable abbrev rStr (els : List El) : Rho := rho0 [("self", der els)]
theorem fn_dstr {w : World} {els : List El} (hn : els.length ≤ 10) (hs : ∀ e ∈ els, e.small) (hp : ∀ e ∈ els, ∀ i, e = .num i → 0 ≤ i ∧ i < 2 * HARD) : FN w 1 (.ref 900) [der els] [] (.str (dstr els)) := by
  refine fn_intro (ps := [("self", der els)]) (out := .ret (.str (dstr els))) (f := 900) (by rfl) (by rfl) ?_ ["self"] (by rfl) (by decide) rfl rfl rfl ?_ rfl
  · intro s q vs B r
    cases r with
    | cons h1 r => cases r with
      | nil => exact ⟨_, BindsTo.of_eq rfl, .cons h1 .nil⟩
  · intro L
    have hm1 : (Str.ofString "h").length ≤ 1 := by decide
    refine xs_cons (x_assign (d := .str "") ev_str rfl) ?_
    refine xs_cons (x_forN (ds := els.map El.pv) (fun i => upd (rStr els) "r" (.pers (.str (dstr (els.take i))))) (it_list (ev_idx (ev_name rfl))) rfl sub_refl ?_) ?_
    · intro i d hd
      obtain ⟨e, he, rfl⟩ := map_get hd
      have hm := List.mem_of_getElem? he
      have hsm := hs e hm
      have hb := dstr_take he
      have hl := dfold_len (els := els.take i) (s := "") fun e he => hs e (List.mem_of_mem_take he)
      have hl' : (dstr (els.take i)).length ≤ 1530 := by
        have c : (Str.ofString "").length = 0 := rfl
        rw [List.length_take] at hl
        unfold dstr; omega
      have c1 : (Str.ofString "/*").length = 2 := rfl
      cases e with
      | wild =>
        refine ⟨_, xs_cons (x_ifT (tv_cmp (ev_name rfl) ev_none (cmp_is_none (d := .none) (by intro u h; cases h))) (xs_one (x_aug (a := .str (dstr (els.take i))) rfl ev_str (iadd_str_ (by rw [sizeLine_eq]; omega)) rfl)))
          (xs_cons (x_ifF (tv_plain (ev_callB (g_isinstance rfl) (evs_cons (ev_name rfl) (evs_cons (g_int rfl) evs_nil)) isi_none_int) truth_bool) xs_nil)
          (xs_one (x_ifF (tv_plain (ev_callB (g_isinstance rfl) (evs_cons (ev_name rfl) (evs_cons (g_list rfl) evs_nil)) isi_none_list) truth_bool) xs_nil))), ?_⟩
        show Sub (upd (rStr els) "r" _) _
        rw [hb]
        exact sub_over (sub_skip rfl (sub_skip rfl sub_refl))
      | num j =>
        obtain ⟨j0, j1⟩ := hp _ hm j rfl
        unfold HARD at j1
        have hsm' : j.natAbs < 10 ^ 11 := hsm
        by_cases hh : j < HARD
        · have hw : elText false "h" (.num j) = dec j := by show word j "h" = dec j; unfold word; rw [if_pos hh]
          rw [hw] at hb
          have hdl := dec_len (i := j) (by omega)
          have c2 : (Str.ofString "/").length = 1 := rfl
          refine ⟨_, xs_cons (x_ifF (tv_cmp (ev_name rfl) ev_none (cmp_is_none (d := .int j) (by intro u h; cases h))) xs_nil)
            (xs_cons (x_ifT (tv_plain (ev_callB (g_isinstance rfl) (evs_cons (ev_name rfl) (evs_cons (g_int rfl) evs_nil)) isi_int_int) truth_bool)
              (xs_one (x_ifF ((tv_cmp (ev_name rfl) (g_hard rfl) cmp_ge_int).eq (by simpa using hh)) (xs_one (x_aug (a := .str (dstr (els.take i))) rfl (ev_bin ev_str (ev_name rfl) (fmt_d j0 (by unfold HARD at hh; omega))) (iadd_str_ (by rw [sizeLine_eq, PySem.Str.length_append]; omega)) rfl)))))
            (xs_one (x_ifF (tv_plain (ev_callB (g_isinstance rfl) (evs_cons (ev_name rfl) (evs_cons (g_list rfl) evs_nil)) isi_int_list) truth_bool) xs_nil))), ?_⟩
          show Sub (upd (rStr els) "r" _) _
          rw [hb]
          exact sub_over (sub_skip rfl (sub_skip rfl sub_refl))
        · have hw : elText false "h" (.num j) = dec (j - HARD) ++ "h" := by show word j "h" = dec (j - HARD) ++ "h"; unfold word; rw [if_neg hh]
          rw [hw, ← str_assoc (Str.ofString "/") (dec (j - HARD)) (Str.ofString "h")] at hb
          have hdl := dec_len (i := j - HARD) (by unfold HARD; omega)
          have c2 : (Str.ofString "/").length = 1 := rfl
          have c3 : (Str.ofString "h").length = 1 := rfl
          refine ⟨_, xs_cons (x_ifF (tv_cmp (ev_name rfl) ev_none (cmp_is_none (d := .int j) (by intro u h; cases h))) xs_nil)
            (xs_cons (x_ifT (tv_plain (ev_callB (g_isinstance rfl) (evs_cons (ev_name rfl) (evs_cons (g_int rfl) evs_nil)) isi_int_int) truth_bool)
              (xs_one (x_ifT ((tv_cmp (ev_name rfl) (g_hard rfl) cmp_ge_int).eq (by simpa using hh)) (xs_one (x_aug (a := .str (dstr (els.take i))) rfl (ev_bin ev_str (ev_bin (ev_name rfl) (g_hard rfl) op_sub_int) (fmt_dh (by unfold HARD at *; omega) (by unfold HARD at *; omega))) (iadd_str_ (by rw [sizeLine_eq, PySem.Str.length_append, PySem.Str.length_append]; omega)) rfl)))))
            (xs_one (x_ifF (tv_plain (ev_callB (g_isinstance rfl) (evs_cons (ev_name rfl) (evs_cons (g_list rfl) evs_nil)) isi_int_list) truth_bool) xs_nil))), ?_⟩
          show Sub (upd (rStr els) "r" _) _
          rw [hb]
          exact sub_over (sub_skip rfl (sub_skip rfl sub_refl))
      | set is =>
        have hsm' : is.length ≤ 10 ∧ ∀ i ∈ is, i.natAbs < 10 ^ 11 := hsm
        have hw := words_len (mark := "h") hsm'.1 hsm'.2 hm1
        have l2 := setJoin_len (sep := ";") (mark := "h") hsm'.1 hsm'.2 hm1 rfl
        have c2 : (Str.ofString "/<").length = 2 := rfl
        have c3 : (Str.ofString ">").length = 1 := rfl
        have e0 : (Str.ofString "/<") = Str.ofString "/" ++ Str.ofString "<" := rfl
        have hset : dstr (els.take (i + 1)) = dstr (els.take i) ++ "/<" ++ Txt.join ";" (is.map fun i => word i "h") ++ ">" := by
          rw [hb, e0]
          show _ ++ (Str.ofString "/" ++ (Str.ofString "<" ++ _ ++ Str.ofString ">")) = _
          simp only [str_assoc]
        have hj : FN w 0 (.builtin "str.join") [.str ";", .list (is.map fun i => .str (word i "h"))] [] (.str (Txt.join ";" (is.map fun i => word i "h"))) := by
          have := join_ (w := w) (n := 0) (x := ";") (xs := is.map fun i => word i "h") (by decide) (by rw [List.length_map]; omega)
          rwa [List.map_map] at this
        refine ⟨_, xs_cons (x_ifF (tv_cmp (ev_name rfl) ev_none (cmp_is_none (d := .list (is.map .int)) (by intro u h; cases h))) xs_nil)
          (xs_cons (x_ifF (tv_plain (ev_callB (g_isinstance rfl) (evs_cons (ev_name rfl) (evs_cons (g_int rfl) evs_nil)) isi_list_int) truth_bool) xs_nil)
          (xs_one (x_ifT (tv_plain (ev_callB (g_isinstance rfl) (evs_cons (ev_name rfl) (evs_cons (g_list rfl) evs_nil)) isi_list_list) truth_bool)
            (xs_cons (x_aug (a := .str (dstr (els.take i))) rfl ev_str (iadd_str_ (by rw [sizeLine_eq]; omega)) rfl)
            (xs_cons (x_aug rfl (ev_meth ev_str get_join (evs_cons (EVO.ev (evo_compM (xs := is) PV.int (fun i => .str (word i "h")) (it_list (ev_name rfl)) (fun j hj C => ev_word (hsm'.2 j hj) rfl rfl rfl) (by omega))) evs_nil) hj) (iadd_str_ (by rw [sizeLine_eq, PySem.Str.length_append]; omega)) rfl)
            (xs_one (x_aug rfl ev_str (iadd_str_ (by rw [sizeLine_eq, PySem.Str.length_append, PySem.Str.length_append]; omega)) rfl))))))), ?_⟩
        show Sub (upd (rStr els) "r" _) _
        rw [hset]
        exact sub_over (sub_skip rfl (sub_skip rfl (sub_skip rfl (sub_skip rfl sub_refl))))
    · have e : els.take (els.map El.pv).length = els := by rw [List.length_map, List.take_length]
      rw [e]
      exact xs_one (x_return (ev_name rfl))
end Mine

/-! ## P34 -/
namespace Mine
section
variable {w : World} {env : Env} {h0 : Heap} {q0 q : Gh} {ρ : Rho} {A : Around} {E : Value → Shared → Prop} {s : Shared}
theorem assign_pair {x1 x2 : Str} {p1 p2 tp : Pos} {kk : Nat} {T : Addr} {v1 v2 : Value} {d1 d2 : PV} {Q : Unit → Shared → Prop} (F : Fs w env h0 q0 ρ s.heap q) (hh : A.handled = none) (hT : s.heap.IsTuple T #[v1, v2])
    (c1 : canStore env x1 = true) (c2 : canStore env x2 = true) (r1 : Rep q v1 d1) (r2 : Rep q v2 d2)
    (k : ∀ h' tk, Fs w env h0 q0 (upd (upd ρ x1 (.pers d1)) x2 (.pers d2)) h' q → Q () { s with heap := h', toks := tk }) :
    wpAny (model pw w) A (assign (.Tuple [.Name x1 p1, .Name x2 p2] kk tp) env (.ref T)) Q E s := by
  refine wpAny_assign_Tuple hh hT rfl rfl fun h1 hx => ?_
  have g : Grow s.heap q h1 q := Grow.heap F.ctx.sub fun b o e => hx b o (Nat.ne_of_lt (Heap.lt_size e)) e
  have F1 := F.grow g
  show wpAny _ A (do holding [v2] (assign (.Name x1 p1) env v1); do holding [] (assign (.Name x2 p2) env v2); pure ()) _ _ _
  refine wpAny_bind (wpAny_holding (wpAny_assign_Name (store_pers (s := { s with heap := h1 }) F1 c1 r1 fun h2 t2 F2 => ?_)))
  refine wpAny_bind (wpAny_holding (wpAny_assign_Name (store_pers (s := { s with heap := h2, toks := t2 }) F2 c2 r2 fun h3 t3 F3 => wpAny_pure ?_)))
  exact k h3 t3 F3
end
/-- an iterator, made fresh, over pairs that stand for ds -/
structure Iter2 (w : World) (A : Around) (h0 : Heap) (h : Heap) (q : Gh) (ds : List (PV × PV)) (I : Addr) (fp wr : List Addr) (Pt : Nat → Array Value → Prop) (St : Nat → Heap → Prop) (Mid : Nat → Addr → Heap → Prop) : Prop where
  walks : WalksT pw w A I fp wr ds.length Pt St Mid
  start : St 0 h
  live : ∀ i h, St i h → ∀ b ∈ wr, ∃ o, h.get? b = some o
  item : ∀ i vals, i < ds.length → Pt i vals → ∃ d v1 v2, ds[i]? = some d ∧ vals = #[v1, v2] ∧ Rep q v1 d.1 ∧ Rep q v2 d.2
  new : ∀ b ∈ wr, h0.get? b = none
  gh : ∀ b ∈ wr, q b = none
  src : ∀ b ∈ fp, b ∈ wr ∨ ∃ o, q b = some o
structure IT2 (w : World) (n : Nat) (env : Env) (ρ : Rho) (e : Expr) (ds : List (PV × PV)) : Prop where
  run : ∀ A s q E Q, Room n A → Ctx w env ρ s.heap q →
  (∀ h' tk q' I fp wr P St Mid, Grow s.heap q h' q' → Iter2 w A s.heap h' q' ds I fp wr P St Mid → Q (.ref I) { s with heap := h', toks := tk }) →
  wpAny (model pw w) A (eval e env) (fun v s₁ => wpAny (model pw w) A (pyIter v) Q E s₁) E s
/-- a for over a pair of names -/
theorem x_for2 {w : World} {n : Nat} {env : Env} {ρ : Rho} {x y : Str} {p p2 tp pos : Pos} {kt : Nat} {iter : Expr} {body : List Stmt} {ds : List (PV × PV)} (ρs : Nat → Rho) (stop : Option (Nat × PV))
    (hi : IT2 w n env ρ iter ds) (hx : canStore env x = true) (hy : canStore env y = true) (h0i : Sub (ρs 0) ρ) (hstop : ∀ j r, stop = some (j, r) → j < ds.length)
    (turn : ∀ i d, ds[i]? = some d → (∀ j r, stop = some (j, r) → i ≤ j) → (∀ r, stop = some (i, r) → XS w n env (upd (upd (ρs i) x (.pers d.1)) y (.pers d.2)) body (.ret r)) ∧
      ((∀ r, stop ≠ some (i, r)) → ∃ ρ'', XS w n env (upd (upd (ρs i) x (.pers d.1)) y (.pers d.2)) body (.next ρ'') ∧ Sub (ρs (i + 1)) ρ''))
    (hs : ∀ x, foldedSetIterable iter env x = pure x := by intro _; rfl) : X w n env ρ (.For (.Tuple [.Name x p, .Name y p2] kt tp) iter body [] pos) (loopOut ρs ds.length stop) := by
  refine ⟨fun A s q h0 q0 E Q R F kk => ?_⟩
  refine wpAny_For (hi.run A s q E _ R F.ctx fun h1 t1 q1 I fp wr P St Mid g1 IT => ?_) hs
  have F1 := F.grow g1
  have hpriv0 : ∀ b ∈ wr, ¬ Priv env ρ h1 b := fun b hb pv => by
    have hn := IT.new b hb
    rcases pv with rfl | ⟨y, e⟩ | ⟨y, ds', e, nv⟩
    · obtain ⟨m, o, es, ep, ho, _⟩ := F.loc; rw [ho] at hn; cases hn
    · obtain ⟨⟨v, o, ho, _⟩, _⟩ := F.cells y b e; rw [ho] at hn; cases hn
    · obtain ⟨a, vs, m, nv', ho, _⟩ := F.ctx.owns y ds' e
      cases (nv'.keep g1.keep).fun nv
      rw [ho] at hn; cases hn
  have hnew0 : ∀ b ∈ wr, h0.get? b = none := fun b hb => by
    cases z : h0.get? b with
    | none => rfl
    | some o => have := IT.new b hb; rw [F.g.keep _ _ z] at this; cases this
  refine codeAny_forLoop_any (fun k s' => ∃ i h' tk q', s' = { s with heap := h', toks := tk } ∧ k = ds.length - i ∧ i ≤ ds.length ∧ (∀ j r, stop = some (j, r) → i ≤ j) ∧ Fs w env h0 q0 (ρs i) h' q' ∧
      (∀ b o, q1 b = some o → q' b = some o) ∧ St i h' ∧ (∀ b ∈ wr, q' b = none ∧ ¬ Priv env (ρs i) h' b)) ?_ ds.length
      ⟨0, h1, t1, q1, rfl, rfl, Nat.zero_le _, fun _ _ _ => Nat.zero_le _, F1.less h0i, fun _ _ e => e, IT.start, fun b hb => ⟨IT.gh b hb, fun pv => hpriv0 b hb (by
        rcases pv with e | e | ⟨y, ds', e, nv⟩
        · exact .inl e
        · exact .inr (.inl e)
        · exact .inr (.inr ⟨y, ds', h0i _ _ e, nv⟩))⟩⟩
  rintro k s' ⟨i, h', tk, q', rfl, hk, hi, hij, F', hle, hst, hwr⟩
  generalize hρ : ρs i = ρ' at F' hwr
  have hw : ∀ b ∈ wr, h0.get? b = none ∧ q' b = none ∧ ¬ Priv env ρ' h' b := fun b hb => ⟨hnew0 b hb, hwr b hb⟩
  by_cases hlt : i < ds.length
  · refine IT.walks.item i _ _ _ hlt hst fun T vals hA tk2 hP hTsz hTup hmid hkA => ?_
    obtain ⟨d, v1, v2, hd, rfl, rd1, rd2⟩ := IT.item i vals hlt hP
    have hTw : T ∉ wr := IT.walks.apart _ _ _ hmid
    refine IT.walks.go _ _ _ i T _ _ _ hmid fun h2 hst2 hk2' => ?_
    have hk2 : ∀ b o, b ∉ wr → h'.get? b = some o → h2.get? b = some o := fun b o m e => hk2' b o m (hkA b o m e)
    have hTup : h2.IsTuple T #[v1, v2] := hTup.at fun o e => hk2' T o hTw e
    have F2 : Fs w env h0 q0 ρ' h2 q' := F'.moved hw hk2
    have rd1' := rd1.mono hle
    have rd2' := rd2.mono hle
    have hpr : ∀ b ∈ wr, ¬ Priv env ρ' h2 b := fun b hb pv => by
      obtain ⟨o, ho⟩ := IT.live _ _ hst b hb
      refine (hwr b hb).2 ?_
      rcases pv with rfl | ⟨y, e⟩ | ⟨y, ds', e, nv⟩
      · exact .inl rfl
      · exact .inr (.inl ⟨y, e⟩)
      · obtain ⟨a, vs, m, nv', _⟩ := F'.ctx.owns y ds' e
        obtain ⟨a2, vs2, m2, nv2, _⟩ := F2.ctx.owns y ds' e
        have e1 := nv2.fun nv
        cases e1
        refine .inr (.inr ⟨y, ds', e, ?_⟩)
        have hkeep : NameVal env h2 y (.ref a) := by
          cases nv' with
          | loc x1 x2 x3 => exact .loc x1 (x2.at' fun o e => hk2 _ _ (fun m => (hwr _ m).2 (.inl rfl)) e) x3
          | cell x1 x2 x3 => obtain ⟨o, z, d⟩ := x3; exact .cell x1 x2 ⟨o, hk2 _ _ (fun m => (hwr _ m).2 (.inr (.inl ⟨y, x2⟩))) z, d⟩
        cases hkeep.fun nv
        exact nv'
    have Fr2 := F2.rebase
    have keepw : ∀ b o, b ∈ wr → h2.get? b = some o → (hideP h2 (Priv env ρ' h2)).get? b = some o := fun b o m e => by rw [hideP_eq (hpr b m)]; exact e
    obtain ⟨tr, tn⟩ := turn i d hd hij
    rw [hρ] at tr tn
    refine assign_pair (s := { s with heap := h2, toks := tk2 }) Fr2 R.handled hTup hx hy rd1' rd2' fun h3 tk3 F3 => ?_
    by_cases hstp : ∃ r, stop = some (i, r)
    · obtain ⟨r, hr⟩ := hstp
      refine (tr r hr).run A { s with heap := h3, toks := tk3 } q' _ q' _ _ R F3 fun h4 tk4 q4 fl post => ?_
      obtain ⟨v', rfl, rv, g4⟩ := post
      rw [hr] at kk
      exact kk h4 tk4 q4 _ ⟨v', rfl, rv, F2.backGrow g4⟩
    · obtain ⟨ρ'', tx, hsub⟩ := tn fun r e => hstp ⟨r, e⟩
      refine tx.run A { s with heap := h3, toks := tk3 } q' _ q' _ _ R F3 fun h4 tk4 q4 fl post => ?_
      obtain ⟨rfl, F4⟩ := post
      have F4 := F4.less hsub
      refine ⟨ds.length - (i + 1), by omega, i + 1, h4, tk4, q4, rfl, rfl, hlt, fun j r e => ?_, F2.back F4, fun b o e => F4.g.le _ _ (hle _ _ e), ?_, ?_⟩
      · rcases Nat.lt_or_eq_of_le (hij j r e) with h | h
        · exact h
        · subst h; exact absurd ⟨r, e⟩ hstp
      · refine IT.walks.frame _ _ _ hst2 fun b hb o e => ?_
        rcases IT.src b hb with m | ⟨o', e'⟩
        · exact F4.g.keep _ _ (keepw b o m e)
        · have e1 := F2.ctx.sub _ _ (hle _ _ e')
          rw [e] at e1; cases e1
          exact F4.ctx.sub _ _ (F4.g.le _ _ (hle _ _ e'))
      · intro b hb
        obtain ⟨o, ho⟩ := IT.live _ _ hst2 b hb
        have hg := keepw b o hb ho
        refine ⟨?_, fun pv => by rw [(F4.priv pv).1] at hg; cases hg⟩
        cases z : q4 b with
        | none => rfl
        | some o' =>
          rcases F4.g.fresh b o' z with e | e
          · rw [(hwr b hb).1] at e; cases e
          · rw [hg] at e; cases e
  · have hi' : i = ds.length := by omega
    subst hi'
    refine IT.walks.done _ _ _ hst fun h2 tk2 hk2 => ?_
    refine wpAny_execs_nil ?_
    cases hso : stop with
    | none =>
      rw [hso] at kk
      refine kk h2 tk2 q' _ ⟨rfl, ?_⟩
      rw [hρ]
      exact F'.moved hw hk2
    | some jr => exact absurd (hstop jr.1 jr.2 hso) (Nat.not_lt.mpr (hij jr.1 jr.2 hso))
/-- a for over a pair of names that ends -/
theorem x_for2N {w : World} {n : Nat} {env : Env} {ρ : Rho} {x y : Str} {p p2 tp pos : Pos} {kt : Nat} {iter : Expr} {body : List Stmt} {ds : List (PV × PV)} (ρs : Nat → Rho)
    (hi : IT2 w n env ρ iter ds) (hx : canStore env x = true) (hy : canStore env y = true) (h0i : Sub (ρs 0) ρ)
    (turn : ∀ i d, ds[i]? = some d → ∃ ρ'', XS w n env (upd (upd (ρs i) x (.pers d.1)) y (.pers d.2)) body (.next ρ'') ∧ Sub (ρs (i + 1)) ρ'')
    (hs : ∀ x, foldedSetIterable iter env x = pure x := by intro _; rfl) : X w n env ρ (.For (.Tuple [.Name x p, .Name y p2] kt tp) iter body [] pos) (.next (ρs ds.length)) :=
  x_for2 (ds := ds) ρs none hi hx hy h0i (fun _ _ e => by cases e) (fun i d hd _ => ⟨fun _ e => (by cases e), fun _ => turn i d hd⟩) hs
/-- a for over a pair of names that returns at turn j -/
theorem x_for2R {w : World} {n : Nat} {env : Env} {ρ : Rho} {x y : Str} {p p2 tp pos : Pos} {kt : Nat} {iter : Expr} {body : List Stmt} {ds : List (PV × PV)} {r : PV} (ρs : Nat → Rho) (j : Nat)
    (hi : IT2 w n env ρ iter ds) (hx : canStore env x = true) (hy : canStore env y = true) (h0i : Sub (ρs 0) ρ) (hj : j < ds.length)
    (turn : ∀ i d, ds[i]? = some d → i < j → ∃ ρ'', XS w n env (upd (upd (ρs i) x (.pers d.1)) y (.pers d.2)) body (.next ρ'') ∧ Sub (ρs (i + 1)) ρ'')
    (last : ∀ d, ds[j]? = some d → XS w n env (upd (upd (ρs j) x (.pers d.1)) y (.pers d.2)) body (.ret r))
    (hs : ∀ x, foldedSetIterable iter env x = pure x := by intro _; rfl) : X w n env ρ (.For (.Tuple [.Name x p, .Name y p2] kt tp) iter body [] pos) (.ret r) :=
  x_for2 (ds := ds) ρs (some (j, r)) hi hx hy h0i (fun _ _ e => by cases e; exact hj) (fun i d hd hle => ⟨fun r' (e : some (j, r) = some (i, r')) => by
    have e1 : j = i := congrArg Prod.fst (Option.some.inj e)
    have e2 : r = r' := congrArg Prod.snd (Option.some.inj e)
    subst e1; subst e2; exact last d hd, fun hne => turn i d hd (by
    rcases Nat.lt_or_eq_of_le (hle j r rfl) with h | h
    · exact h
    · subst h; exact absurd rfl (hne r))⟩) hs
noncomputable def enumPV (ds : List PV) : List (PV × PV) := ds.mapIdx fun i d => (.int (Int.ofNat i), d)
theorem it2_enum {w : World} {n : Nat} {env : Env} {ρ : Rho} {g : Str} {p pos : Pos} {e : Expr} {ds : List PV} (hg : EV w n env ρ (.Name g p) (.raw (.type "enumerate"))) (he : EV w n env ρ e (.list ds))
    (hs : starEach [e] env = [(false, eval e env)] := by rfl) : IT2 w n env ρ (.Call (.Name g p) [e] [] pos) (enumPV ds) := by
  refine ⟨fun A s q E Q R C k => ?_⟩
  refine wpAny_Call_NameR (hg.run A s q E _ R C fun h1 t1 q1 v g1 r1 => ?_)
  cases r1
  refine PyProof.Rows.callWith_type1 (wpAny_items_cons (he.run A _ q1 E _ R (C.grow g1) fun h2 t2 q2 v g2 r2 => wpAny_items_nil ?_) hs) hs rfl
  have G := g1.trans g2
  cases r2 with
  | @list a vs ds m ha r =>
    have hl := isList_of (g2.sub _ _ ha)
    refine call_enumerate_list (s := { s with heap := h2, toks := t2 }) hl fun h3 e1 e2 e3 e4 => ?_
    refine wpAny_pyIter_enum (s := { s with heap := h3, toks := t2 }) e1 ?_
    have alt : a < h2.objs.size := Heap.lt_size (g2.sub _ _ ha)
    have gH : Grow s.heap q h3 q2 := G.trans (Grow.heap g2.sub e4)
    have hsz : vs.toArray.size = (enumPV ds).length := by rw [List.size_toArray, r.length]; simp [enumPV]
    have fresh : ∀ b, h2.objs.size ≤ b → s.heap.get? b = none ∧ q2 b = none := fun b hb => by
      constructor
      · cases z : s.heap.get? b with
        | none => rfl
        | some o => exact absurd (Heap.lt_size (G.keep _ _ z)) (Nat.not_lt.mpr hb)
      · cases z : q2 b with
        | none => rfl
        | some o => exact absurd (Heap.lt_size (g2.sub _ _ z)) (Nat.not_lt.mpr hb)
    refine k h3 t2 q2 _ _ _ _ _ _ gH ⟨hsz ▸ WalksT.enumerate (prog := pw) (w := w) R.handled (h2.objs.size + 1) h2.objs.size a (Nat.succ_ne_self _) (by show a ≠ h2.objs.size + 1; have := alt; exact Nat.ne_of_lt (Nat.lt_succ_of_lt this)) (Nat.ne_of_lt alt) vs.toArray, ?_, ?_, ?_, ?_, ?_, ?_⟩
    · exact ⟨⟨_, e1⟩, e2, hl.at fun o e => e4 _ _ e⟩
    · rintro i h ⟨⟨old, x1⟩, ⟨o, x2, _⟩, _⟩ b hb
      rcases List.mem_cons.mp hb with rfl | hb
      · exact ⟨_, x1⟩
      · rw [List.mem_singleton] at hb; subst hb; exact ⟨o, x2⟩
    · rintro i vals hi ⟨t, x, hx, rfl⟩
      have hi' : i < ds.length := by simpa [enumPV] using hi
      obtain ⟨v', hv', rv⟩ := r.get (i := i) (d := ds[i]) (by simp)
      have : v' = x := by
        have h2 : vs[i]? = some x := by simpa using hx
        rw [hv'] at h2; exact Option.some.inj h2
      subst this
      exact ⟨(.int (Int.ofNat i), ds[i]), _, _, by simp [enumPV, hi'], rfl, .int _ _, rv⟩
    · intro b hb
      rcases List.mem_cons.mp hb with rfl | hb
      · exact (fresh _ (Nat.le_succ _)).1
      · rw [List.mem_singleton] at hb; subst hb; exact (fresh _ (Nat.le_refl _)).1
    · intro b hb
      rcases List.mem_cons.mp hb with rfl | hb
      · exact (fresh _ (Nat.le_succ _)).2
      · rw [List.mem_singleton] at hb; subst hb; exact (fresh _ (Nat.le_refl _)).2
    · intro b hb
      rcases List.mem_cons.mp hb with rfl | hb
      · exact .inl (by simp)
      · rcases List.mem_cons.mp hb with rfl | hb
        · exact .inl (by simp)
        · rw [List.mem_singleton] at hb; subst hb; exact .inr ⟨_, ha⟩
end Mine

/-! ## P35 -/
namespace Mine
theorem upd_comm {ρ : Rho} {x y : Str} {a b : LV} (h : x ≠ y) : upd (upd ρ x a) y b = upd (upd ρ y b) x a := by
  funext z
  unfold upd
  by_cases hx : z = x
  · subst hx; rw [if_neg h, if_pos rfl, if_pos rfl]
  · by_cases hy : z = y
    · subst hy; rw [if_pos rfl, if_neg hx, if_pos rfl]
    · rw [if_neg hy, if_neg hx, if_neg hx, if_neg hy]
theorem ints_of {q : Gh} : ∀ {vs : List Value} {is : List Int}, RepL q vs (is.map .int) → IntsAre vs is
  | [], [], _ => .nil
  | v :: vs, i :: is, r => by
    cases r with
    | cons h r => cases h; exact .cons _ _ (ints_of r)
  | [], i :: is, r => by cases r
  | v :: vs, [], r => by cases r
theorem weight_int {i : Int} (h : i.natAbs < 10 ^ 11) : PyData.weight (.int i) ≤ 40 := by
  unfold PyData.weight
  split
  · omega
  · rename_i hi
    have h0 : i.natAbs ≠ 0 := by simpa using hi
    have : i.natAbs.log2 < 39 := (Nat.log2_lt h0).mpr (Nat.lt_trans h (by decide))
    omega
theorem weight_ints : ∀ {is : List Int}, (∀ i ∈ is, i.natAbs < 10 ^ 11) → PyData.weightAll (is.map PyData.int) ≤ 41 * is.length
  | [], _ => Nat.le_refl _
  | i :: r, h => by
    have h1 := weight_int (h i List.mem_cons_self)
    have h2 := weight_ints (is := r) fun j hj => h j (List.mem_cons_of_mem _ hj)
    simp only [List.map_cons, PyData.weightAll, List.length_cons]
    omega
theorem canLay_ints : ∀ is : List Int, PyData.canLayAll0 (is.map PyData.int) = true
  | [] => rfl
  | i :: r => by simp [PyData.canLayAll0, PyData.canLay0, canLay_ints r]
theorem depth_ints' : ∀ is : List Int, PyData.depthAll (is.map PyData.int) = 0
  | [] => rfl
  | i :: r => by simp [PyData.depthAll, PyData.depth, depth_ints' r]
theorem lay_small {is : List Int} (hl : is.length ≤ 100) (h : ∀ i ∈ is, i.natAbs < 10 ^ 11) : PyData.layable0 (.list (is.map .int)) = true := by
  unfold PyData.layable0
  have hw := weight_ints h
  simp only [PyData.canLay0, canLay_ints, PyData.depth, depth_ints', PyData.weight, Bool.true_and, Bool.and_eq_true, decide_eq_true_eq]
  refine ⟨by omega, decide_eq_true (Nat.le_trans hw ?_)⟩
  have : (2 : Nat) ^ 20 = 1048576 := by decide
  omega
section
variable {w : World} {n : Nat} {env : Env} {ρ : Rho}
theorem get_lindex {ds : List PV} : GetM w n (.list ds) "index" "list.index" := ⟨fun A s q E Q va pl R sub r k => by
  cases r with
  | list h r => exact getMethod_list_of PySem.F.slot_list_index (by kernel_rfl) (isList_of (sub _ _ h)) ⟨_, sub _ _ h, rfl⟩ k⟩
theorem lindex_ {is : List Int} {k : Int} (hl : is.length ≤ 100) (h : ∀ i ∈ is, i.natAbs < 10 ^ 11) (hk : k ∈ is) : FN w n (.builtin "list.index") [.list (is.map .int), .int k] [] (.int (is.idxOf k : Nat)) := by
  refine ⟨fun A s q E Q vs ks R B r rk hks kk => ?_⟩
  have : ks = [] := by cases ks with | nil => rfl | cons a b => cases hks
  subst this
  cases r with
  | cons h1 r => cases r with
    | cons h2 r => cases r with
      | nil =>
        cases h2
        cases h1 with
        | list hq r1 => exact index_list_ints (isList_of (B.sub _ _ hq)) (ints_of r1) (lay_small hl h) hk (kk s.heap _ q _ (.refl B.sub) (.int _ _))
theorem any_ints {is : List Int} {k : Int} : ((toDs (is.map .int)).any fun y => PyData.eqv y (toD (.int k))) = is.contains k := by
  induction is with
  | nil => rfl
  | cons a r ih =>
    simp only [List.map_cons, toDs, List.any_cons, ih, List.contains_cons]
    have : PyData.eqv (toD (.int a)) (toD (.int k)) = (k == a) := by
      simp only [toD, PyData.eqv]
      by_cases h : a = k
      · subst h; simp
      · rw [show (k == a) = false from beq_eq_false_iff_ne.mpr (Ne.symm h)]; exact beq_eq_false_iff_ne.mpr h
    rw [this]
end
/-! # check_derivation -/
noncomputable def okC : El → Int → Bool
  | .wild, _ => true
  | .num k, d => k == d
  | .set is, d => is.contains d
noncomputable def stepC (st : Int × Option Int) : El × Int → Int × Option Int
  | (.wild, d) => (st.1, some d)
  | (.num _, _) => st
  | (.set is, d) => ((is.idxOf d : Nat), st.2)
noncomputable def optPV : Option Int → PV
  | none => .none
  | some i => .int i
noncomputable def foldC (els : List El) (path : List Int) : Int × Option Int := (els.zip path).foldl stepC (0, none)
noncomputable def resC : Int × Option Int → PV
  | (b, some i) => .tuple [.int i, .int b]
  | (_, none) => .none
noncomputable def checkC (els : List El) (path : List Int) : PV :=
  if path.length = els.length ∧ ((els.zip path).all fun p => okC p.1 p.2) = true then resC (foldC els path) else .none
theorem fold_take {els : List El} {path : List Int} {i : Nat} {e : El} {d : Int} (he : els[i]? = some e) (hd : path[i]? = some d) :
    ((els.zip path).take (i + 1)).foldl stepC (0, none) = stepC (((els.zip path).take i).foldl stepC (0, none)) (e, d) := by
  have : (els.zip path)[i]? = some (e, d) := by rw [List.getElem?_zip_eq_some]; exact ⟨he, hd⟩
  rw [List.take_add_one, this, List.foldl_append]
  rfl
noncomputable abbrev rChk (els : List El) (path : List Int) : Rho := rho0 [("self", der els), ("derivation", .list (path.map .int))]
noncomputable abbrev rTurn (els : List El) (path : List Int) (st : Int × Option Int) : Rho := upd (upd (rChk els path) "branch_idx" (.pers (.int st.1))) "idx" (.pers (optPV st.2))
section
variable {w : World} {n : Nat}
theorem enum_get {els : List El} {i : Nat} {d : PV × PV} (h : (enumPV (els.map El.pv))[i]? = some d) : ∃ e, els[i]? = some e ∧ d = (.int (Int.ofNat i), e.pv) := by
  unfold enumPV at h
  rw [List.getElem?_mapIdx] at h
  cases hx : (els.map El.pv)[i]? with
  | none => rw [hx] at h; cases h
  | some p =>
    rw [hx] at h
    obtain ⟨e, he, rfl⟩ := map_get hx
    exact ⟨e, he, (Option.some.inj h).symm⟩
theorem enum_len {els : List El} : (enumPV (els.map El.pv)).length = els.length := by simp [enumPV]
noncomputable abbrev eChk (L : Addr) : Env := fEnv "AllowedDerivation.check_derivation" S853 853 (.ref 852) L
theorem tv_int {env : Env} {ρ : Rho} {e : El} {p1 p2 p3 p4 : Pos} (hx : ρ "el" = some (.pers e.pv)) (hi : env.kindOf "isinstance" = some .globalImplicit) (hl : env.kindOf "int" = some .globalImplicit) :
    TV w n env ρ (.Call (.Name "isinstance" p1) [.Name "el" p2, .Name "int" p3] [] p4) e.isNum :=
  tv_plain (ev_callB (g_isinstance hi) (evs_cons (ev_name hx) (evs_cons (g_int hl) evs_nil)) (isi_el_int e)) truth_bool
theorem tv_list {env : Env} {ρ : Rho} {e : El} {p1 p2 p3 p4 : Pos} (hx : ρ "el" = some (.pers e.pv)) (hi : env.kindOf "isinstance" = some .globalImplicit) (hl : env.kindOf "list" = some .globalImplicit) :
    TV w n env ρ (.Call (.Name "isinstance" p1) [.Name "el" p2, .Name "list" p3] [] p4) e.isSet :=
  tv_plain (ev_callB (g_isinstance hi) (evs_cons (ev_name hx) (evs_cons (g_list hl) evs_nil)) (isi_el e)) truth_bool
theorem tv_elnone {env : Env} {ρ : Rho} {e : El} {p1 p2 p3 : Pos} {k : Nat} (hx : ρ "el" = some (.pers e.pv)) :
    TV w n env ρ (.Compare (.Name "el" p1) [.Is] [.Constant .none k p2] p3) e.isWild := (tv_cmp (ev_name hx) ev_none (cmp_is_none (el_noraw e))).eq (isNone_el e)
noncomputable def loopOf : List Stmt → List Stmt
  | _ :: _ :: _ :: .For _ _ b _ _ :: _ => b
  | _ => []
theorem chk_turn {L : Addr} {els : List El} {path : List Int} (hs : ∀ e ∈ els, e.small) (hlen : path.length = els.length) (hsz : els.length ≤ 100) {st : Int × Option Int} {i : Nat} {e : El} {d : Int} (he : els[i]? = some e) (hd : path[i]? = some d) (ok : okC e d = true) :
    ∃ ρ'', XS w n (eChk L) (upd (upd (rTurn els path st) "i" (.pers (.int (Int.ofNat i)))) "el" (.pers e.pv)) (loopOf B853) (.next ρ'') ∧ Sub (rTurn els path (stepC st (e, d))) ρ'' := by
  have hm := hs e (List.mem_of_getElem? he)
  have hi : i < path.length := get_lt hd
  have hder : X w n (eChk L) (upd (upd (rTurn els path st) "i" (.pers (.int (Int.ofNat i)))) "el" (.pers e.pv)) ((loopOf B853).headD (.Pass ⟨0, 0, 0, 0⟩)) (.next (upd (upd (upd (rTurn els path st) "i" (.pers (.int (Int.ofNat i)))) "el" (.pers e.pv)) "der" (.pers (.int d)))) := by
    refine x_assign (ev_item (ds := path.map .int) (j := Int.ofNat i) (ev_name rfl) (ev_name rfl) (Int.natCast_nonneg i) ?_ ?_) rfl
    · show (i : Int) < _; omega
    · show (path.map PV.int)[i]? = _
      rw [List.getElem?_map, hd]; rfl
  cases e with
  | num k =>
    have hk : k = d := by simpa [okC] using ok
    subst hk
    exact ⟨_, xs_cons hder (xs_one (x_ifT (tv_int (e := .num k) rfl rfl rfl) (xs_one (x_ifF ((tv_cmp (ev_name rfl) (ev_name rfl) cmp_ne_int).eq (by simp)) xs_nil)))), sub_skip rfl (sub_skip rfl (sub_skip rfl sub_refl))⟩
  | set is =>
    have hk : d ∈ is := by simpa [okC] using ok
    have hm' : is.length ≤ 10 ∧ ∀ i ∈ is, i.natAbs < 10 ^ 11 := hm
    refine ⟨_, xs_cons hder (xs_one (x_ifF (tv_int (e := .set is) rfl rfl rfl) (xs_one (x_ifT (tv_list (e := .set is) rfl rfl rfl)
      (xs_cons (x_ifF ((tv_cmp (ev_name rfl) (ev_name rfl) (cmp_notin (a := .int d) (ds := is.map .int) dat_int dat_ints)).eq (by rw [any_ints]; simpa using hk)) xs_nil)
        (xs_one (x_assign (ev_meth (ds := [.int d]) (ev_name rfl) get_lindex (evs_cons (ev_name rfl) evs_nil) (lindex_ (by omega) hm'.2 hk)) rfl))))))), ?_⟩
    show Sub (upd (upd (rChk els path) "branch_idx" _) "idx" _) _
    rw [upd_comm (x := "branch_idx") (y := "idx") (by decide)]
    refine sub_over (sub_skip rfl (sub_skip rfl (sub_skip rfl ?_)))
    show Sub (upd (rChk els path) "idx" _) (upd (upd (rChk els path) "branch_idx" _) "idx" _)
    exact sub_over (sub_skip rfl sub_refl)
  | wild =>
    refine ⟨_, xs_cons hder (xs_one (x_ifF (tv_int (e := .wild) rfl rfl rfl) (xs_one (x_ifF (tv_list (e := .wild) rfl rfl rfl) (xs_one (x_ifT (tv_elnone (e := .wild) rfl)
      (xs_one (x_assign (ev_name rfl) rfl)))))))), ?_⟩
    exact sub_over (sub_skip rfl (sub_skip rfl (sub_skip rfl (sub_skip rfl sub_refl))))
theorem chk_bad {L : Addr} {els : List El} {path : List Int} (hs : ∀ e ∈ els, e.small) (hlen : path.length = els.length) (hsz : els.length ≤ 100) {st : Int × Option Int} {i : Nat} {e : El} {d : Int} (he : els[i]? = some e) (hd : path[i]? = some d) (bad : okC e d = false) :
    XS w n (eChk L) (upd (upd (rTurn els path st) "i" (.pers (.int (Int.ofNat i)))) "el" (.pers e.pv)) (loopOf B853) (.ret .none) := by
  have hi : i < path.length := get_lt hd
  have hder : X w n (eChk L) (upd (upd (rTurn els path st) "i" (.pers (.int (Int.ofNat i)))) "el" (.pers e.pv)) ((loopOf B853).headD (.Pass ⟨0, 0, 0, 0⟩)) (.next (upd (upd (upd (rTurn els path st) "i" (.pers (.int (Int.ofNat i)))) "el" (.pers e.pv)) "der" (.pers (.int d)))) := by
    refine x_assign (ev_item (ds := path.map .int) (j := Int.ofNat i) (ev_name rfl) (ev_name rfl) (Int.natCast_nonneg i) ?_ ?_) rfl
    · show (i : Int) < _; omega
    · show (path.map PV.int)[i]? = _
      rw [List.getElem?_map, hd]; rfl
  cases e with
  | num k =>
    exact xs_cons hder (xs_one (x_ifT (tv_int (e := .num k) rfl rfl rfl) (xs_one (x_ifT ((tv_cmp (ev_name rfl) (ev_name rfl) cmp_ne_int).eq (by simpa [okC, bne] using bad)) (xs_one (x_return ev_none))))))
  | set is =>
    exact xs_cons hder (xs_one (x_ifF (tv_int (e := .set is) rfl rfl rfl) (xs_one (x_ifT (tv_list (e := .set is) rfl rfl rfl)
      (xs_ret (x_ifT ((tv_cmp (ev_name rfl) (ev_name rfl) (cmp_notin (a := .int d) (ds := is.map .int) dat_int dat_ints)).eq (by rw [any_ints]; simpa [okC] using bad)) (xs_one (x_return ev_none))))))))
  | wild => cases bad
end
end Mine

/-! ## P36 -/
namespace Mine
theorem zip_get {els : List El} {path : List Int} {j : Nat} {p : El × Int} (h : (els.zip path)[j]? = some p) : els[j]? = some p.1 ∧ path[j]? = some p.2 := List.getElem?_zip_eq_some.mp h
theorem optPV_noraw (x : Option Int) : ∀ u, optPV x ≠ .raw u := by intro u h; cases x <;> cases h
section
variable {w : World} {n : Nat} {env : Env} {ρ : Rho}
theorem g_enumerate {pos : Pos} (hx : env.kindOf "enumerate" = some .globalImplicit) : EV w n env ρ (.Name "enumerate" pos) (.raw (.type "enumerate")) := ev_builtin (by rfl) (by boot_fast) (by decide) hx
theorem g_zip {pos : Pos} (hx : env.kindOf "zip" = some .globalImplicit) : EV w n env ρ (.Name "zip" pos) (.raw (.type "zip")) := ev_builtin (by rfl) (by boot_fast) (by decide) hx
end
/-- check_derivation -/
theorem fn_check {w : World} {els : List El} {path : List Int} (hs : ∀ e ∈ els, e.small) (hl : els.length ≤ 100) (hp : path.length ≤ 100) : FN w 1 (.ref 853) [der els, .list (path.map .int)] [] (checkC els path) := by
  have hbind : ∀ (s : Shared) (q : Gh) (vs : List Value), Bs w s.heap q → RepL q vs [der els, .list (path.map .int)] → ∃ binds, BindsTo s (fnOf "check_derivation" "AllowedDerivation.check_derivation" A853 B853 S853 .none .none .none (.str (Str.ofString "embit.descriptor.arguments") 1167) none (.ref 852) .none) ⟨vs, []⟩ binds ∧ RepB q binds [("self", der els), ("derivation", .list (path.map .int))] := by
    intro s q vs B r
    cases r with
    | cons h1 r => cases r with
      | cons h2 r => cases r with
        | nil => exact ⟨_, BindsTo.of_eq rfl, .cons h1 (.cons h2 .nil)⟩
  by_cases hlen : path.length = els.length
  · rcases first_or (fun p : El × Int => !okC p.1 p.2) (els.zip path) with hall | ⟨j, p, hj, hbad, hb⟩
    · have hok : ((els.zip path).all fun p => okC p.1 p.2) = true := List.all_eq_true.mpr fun p hp => by have := hall p hp; simpa using this
      have hloop : ∀ L {p p2 tp pos p3 p4 p5 p6 : Pos} {kt : Nat}, X w 0 (eChk L) (rTurn els path (0, none)) (.For (.Tuple [.Name "i" p, .Name "el" p2] kt tp) (.Call (.Name "enumerate" p3) [.Attribute (.Name "self" p4) "indexes" p5] [] p6) (loopOf B853) [] pos) (.next (rTurn els path (foldC els path))) := by
        intro L p p2 tp pos p3 p4 p5 p6 kt
        have := x_for2N (w := w) (n := 0) (env := eChk L) (ρ := rTurn els path (0, none)) (x := "i") (y := "el") (p := p) (p2 := p2) (tp := tp) (pos := pos) (kt := kt) (body := loopOf B853) (iter := .Call (.Name "enumerate" p3) [.Attribute (.Name "self" p4) "indexes" p5] [] p6) (ds := enumPV (els.map El.pv)) (fun i => rTurn els path (((els.zip path).take i).foldl stepC (0, none)))
          (it2_enum (p := p3) (pos := p6) (g_enumerate rfl) (ev_idx (pos := p5) (ev_name (pos := p4) rfl))) rfl rfl sub_refl (fun i d hd => by
            obtain ⟨e, he, rfl⟩ := enum_get hd
            have hi := get_lt he
            have hd' : path[i]? = some path[i] := List.getElem?_eq_getElem (by omega)
            have hz : (els.zip path)[i]? = some (e, path[i]) := List.getElem?_zip_eq_some.mpr ⟨he, hd'⟩
            have ok : okC e path[i] = true := by have := hall _ (List.mem_of_getElem? hz); simpa using this
            obtain ⟨ρ'', h1, h2⟩ := chk_turn (w := w) (n := 0) (L := L) hs hlen hl (st := ((els.zip path).take i).foldl stepC (0, none)) he hd' ok
            refine ⟨ρ'', h1, ?_⟩
            rw [fold_take he hd']
            exact h2)
        have e : (els.zip path).take (enumPV (els.map El.pv)).length = els.zip path := by
          rw [enum_len, List.take_of_length_le]
          rw [List.length_zip]; omega
        rw [e] at this
        exact this
      generalize hf : foldC els path = st at hloop
      obtain ⟨b, x⟩ := st
      cases x with
      | none =>
        refine FC.fn (fc_intro (out := .next (rTurn els path (b, none))) (f := 853) (by rfl) (by rfl) hbind ["self", "derivation"] (by rfl) (by decide) rfl rfl rfl ?_ ?_)
        · intro L
          refine xs_cons (x_ifF ((tv_cmp (ev_callB (g_len rfl) (evs_cons (ev_name rfl) evs_nil) (len_list_ (ds := path.map .int) (by rw [List.length_map]; omega))) (ev_callB (g_len rfl) (evs_cons (ev_idx (ev_name rfl)) evs_nil) (len_list_ (ds := els.map El.pv) (by rw [List.length_map]; omega))) cmp_ne_int).eq (by simp [hlen])) xs_nil) ?_
          refine xs_cons (x_assign (ev_int (i := 0)) rfl) (xs_cons (x_assign ev_none rfl) (xs_cons (hloop L) ?_))
          refine xs_one (x_ifF ((tv_and (c := false) (tv_cmp (a := .int b) (ev_name rfl) ev_none (cmp_isnot_none (by intro u h; cases h))) fun _ => (tv_and (c := true) (tv_cmp (a := .none) (ev_name rfl) ev_none (cmp_isnot_none (by intro u h; cases h))) fun _ => tv_and_nil).eq rfl).eq (by simp)) xs_nil)
        · unfold checkC; rw [if_pos ⟨hlen, hok⟩, hf]; rfl
      | some x =>
        refine FC.fn (fc_intro (out := .ret (.tuple [.int x, .int b])) (f := 853) (by rfl) (by rfl) hbind ["self", "derivation"] (by rfl) (by decide) rfl rfl rfl ?_ ?_)
        · intro L
          refine xs_cons (x_ifF ((tv_cmp (ev_callB (g_len rfl) (evs_cons (ev_name rfl) evs_nil) (len_list_ (ds := path.map .int) (by rw [List.length_map]; omega))) (ev_callB (g_len rfl) (evs_cons (ev_idx (ev_name rfl)) evs_nil) (len_list_ (ds := els.map El.pv) (by rw [List.length_map]; omega))) cmp_ne_int).eq (by simp [hlen])) xs_nil) ?_
          refine xs_cons (x_assign (ev_int (i := 0)) rfl) (xs_cons (x_assign ev_none rfl) (xs_cons (hloop L) ?_))
          refine xs_one (x_ifT ((tv_and (c := true) (tv_cmp (a := .int b) (ev_name rfl) ev_none (cmp_isnot_none (by intro u h; cases h))) fun _ => (tv_and (c := true) (tv_cmp (a := .int x) (ev_name rfl) ev_none (cmp_isnot_none (by intro u h; cases h))) fun _ => tv_and_nil).eq rfl).eq rfl) (xs_one (x_return (ev_tuple (evs_cons (ev_name rfl) (evs_cons (ev_name rfl) evs_nil)) (by simp)))))
        · unfold checkC; rw [if_pos ⟨hlen, hok⟩, hf]; rfl
    · refine FC.fn (fc_intro (out := .ret .none) (f := 853) (by rfl) (by rfl) hbind ["self", "derivation"] (by rfl) (by decide) rfl rfl rfl ?_ ?_)
      · intro L
        obtain ⟨he, hd⟩ := zip_get hj
        refine xs_cons (x_ifF ((tv_cmp (ev_callB (g_len rfl) (evs_cons (ev_name rfl) evs_nil) (len_list_ (ds := path.map .int) (by rw [List.length_map]; omega))) (ev_callB (g_len rfl) (evs_cons (ev_idx (ev_name rfl)) evs_nil) (len_list_ (ds := els.map El.pv) (by rw [List.length_map]; omega))) cmp_ne_int).eq (by simp [hlen])) xs_nil) ?_
        refine xs_cons (x_assign (ev_int (i := 0)) rfl) (xs_cons (x_assign ev_none rfl) (xs_ret ?_))
        refine x_for2R (ds := enumPV (els.map El.pv)) (fun i => rTurn els path (((els.zip path).take i).foldl stepC (0, none))) j (it2_enum (g_enumerate rfl) (ev_idx (ev_name rfl))) rfl rfl sub_refl (by rw [enum_len]; exact get_lt he) ?_ ?_
        · intro i d hd hlt
          obtain ⟨e, he', rfl⟩ := enum_get hd
          have hi := get_lt he'
          have hd' : path[i]? = some path[i] := List.getElem?_eq_getElem (by omega)
          have hz : (els.zip path)[i]? = some (e, path[i]) := List.getElem?_zip_eq_some.mpr ⟨he', hd'⟩
          have ok : okC e path[i] = true := by have := hb i hlt _ hz; simpa using this
          obtain ⟨ρ'', h1, h2⟩ := chk_turn (w := w) (n := 0) (L := L) hs hlen hl (st := ((els.zip path).take i).foldl stepC (0, none)) he' hd' ok
          refine ⟨ρ'', h1, ?_⟩
          rw [fold_take he' hd']
          exact h2
        · intro d hd'
          obtain ⟨e, he', rfl⟩ := enum_get hd'
          rw [he] at he'; cases he'
          exact chk_bad hs hlen hl he hd (by simpa using hbad)
      · unfold checkC
        rw [if_neg]
        · rfl
        · rintro ⟨_, h⟩
          have := List.all_eq_true.mp h p (List.mem_of_getElem? hj)
          rw [this] at hbad; cases hbad
  · refine FC.fn (fc_intro (out := .ret .none) (f := 853) (by rfl) (by rfl) hbind ["self", "derivation"] (by rfl) (by decide) rfl rfl rfl ?_ ?_)
    · intro L
      exact xs_ret (x_ifT ((tv_cmp (ev_callB (g_len rfl) (evs_cons (ev_name rfl) evs_nil) (len_list_ (ds := path.map .int) (by rw [List.length_map]; omega))) (ev_callB (g_len rfl) (evs_cons (ev_idx (ev_name rfl)) evs_nil) (len_list_ (ds := els.map El.pv) (by rw [List.length_map]; omega))) cmp_ne_int).eq (by simp; omega)) (xs_one (x_return ev_none)))
    · unfold checkC
      rw [if_neg (fun h => hlen h.1)]
      rfl
end Mine

/-! ## P37 -/
namespace Mine
theorem RepL.set {q : Gh} : ∀ {vs ds}, RepL q vs ds → ∀ {i : Nat} {v : Value} {d : PV}, Rep q v d → RepL q (vs.set i v) (ds.set i d)
  | _, _, .nil, i, v, d, _ => .nil
  | _, _, .cons h r, 0, v, d, e => .cons e r
  | _, _, .cons h r, i + 1, v, d, e => .cons h (RepL.set r e)
theorem setitem_exact {w : World} {A : Around} {E : Value → Shared → Prop} {s : Shared} {l : Addr} {vs : List Value} {m : Nat} {k : Int} {t : Tok} {v : Value} {Q : Unit → Shared → Prop} (ho : s.heap.get? l = some (listOf vs.toArray m)) (h0 : 0 ≤ k) (hk : k < vs.length) (hb : vs.length ≤ 1000000)
    (hQ : ∀ h' m', h'.get? l = some (listOf (vs.set k.toNat v).toArray m') → Heap.SameBut l s.heap h' → Q () { s with heap := h' }) : wpAny (model pw w) A (setItem (.ref l) (.int k t) v) Q E s := by
  have q := PySem.IsL.update ho (·.setIfInBounds k.toNat v)
  have e : vs.toArray.setIfInBounds k.toNat v = (vs.set k.toNat v).toArray := by simp
  rw [e] at q
  exact ki_setAt ho h0 (by omega) (by rw [List.size_toArray]; exact hk) (hQ _ _ q (Heap.SameBut.update ..))
section
variable {w : World} {n : Nat} {env : Env} {ρ ρ' : Rho}
/-- statements that leave the list that x names where it is -/
structure XA (w : World) (n : Nat) (env : Env) (ρ : Rho) (x : Str) (ss : List Stmt) (ρ' : Rho) : Prop where
  run : ∀ A s q h0 q0 E Q l, Room n A → Fs w env h0 q0 ρ s.heap q → NameVal env s.heap x (.ref l) →
    (∀ h' tk q', Fs w env h0 q0 ρ' h' q' → NameVal env h' x (.ref l) → Q .next { s with heap := h', toks := tk }) → wpAny (model pw w) A (execs ss env) Q E s
theorem xa_nil {x : Str} : XA w n env ρ x [] ρ := ⟨fun A s q h0 q0 E Q l R F nv k => wpAny_execs_nil (k s.heap s.toks q F nv)⟩
theorem xa_if {x : Str} {t : Expr} {body orelse rest : List Stmt} {pos : Pos} {b : Bool} {ρ1 : Rho} (ht : TV w n env ρ t b) (h : XA w n env ρ x (if b then body else orelse) ρ1) (hr : XA w n env ρ1 x rest ρ') : XA w n env ρ x (.If t body orelse pos :: rest) ρ' := by
  refine ⟨fun A s q h0 q0 E Q l R F nv k => ?_⟩
  refine wpAny_execs_cons (wpAny_If (ht.run A s q E _ R F.ctx fun h1 t1 q1 g1 => ?_))
  have key : ∀ ss : List Stmt, XA w n env ρ x ss ρ1 → wpAny (model pw w) A (execs ss env) (fun f s₂ => match f with | .next => wpAny (model pw w) A (execs rest env) Q E s₂ | f => Q f s₂) E { s with heap := h1, toks := t1 } := fun ss hss =>
    hss.run A _ q1 h0 q0 E _ l R (F.grow g1) (nv.keep g1.keep) fun h2 t2 q2 F2 nv2 => hr.run A _ q2 h0 q0 E Q l R F2 nv2 k
  cases b with
  | true => exact key _ h
  | false => exact key _ h
theorem set_core {x y : Str} {p p2 sp pos : Pos} {e : Expr} {ds : List PV} {j : Int} {d : PV} {A : Around} {s : Shared} {q q0 : Gh} {h0 : Heap} {E : Value → Shared → Prop} {Q : Flow → Shared → Prop} (R : Room n A) (F : Fs w env h0 q0 ρ s.heap q)
    (hx : ρ x = some (.own ds)) (hy : ρ y = some (.pers (.int j))) (he : EV w n env ρ e d) (h0j : 0 ≤ j) (hj : j < ds.length) (hsz : ds.length ≤ 1000000) (hd : (x == ("__debug__" : Str)) = false) (hdy : (y == ("__debug__" : Str)) = false)
    (hs : swapsWith e (some (.Subscript (.Name x p) (.Name y p2) sp)) pos.line env = pure false)
    (k : ∀ h' tk q' a, Fs w env h0 q0 (upd ρ x (.own (ds.set j.toNat d))) h' q' → NameVal env s.heap x (.ref a) → NameVal env h' x (.ref a) → Q .next { s with heap := h', toks := tk }) :
    wpAny (model pw w) A (exec (.Assign [.Subscript (.Name x p) (.Name y p2) sp] e pos) env) Q E s := by
  obtain ⟨a, vs, m, nv, ho, r, hq⟩ := F.ctx.owns x ds hx
  refine wpAny_Assign_Subscript (he.run A s q E _ R F.ctx fun h1 t1 q1 v g1 r1 => ?_) hs
  have F1 := F.grow g1
  have nv1 := nv.keep g1.keep
  have ld : ∀ {Q : Value → Shared → Prop}, Q (.ref a) { s with heap := h1, toks := t1 } → wpAny (model pw w) A (eval (.Name x p) env) Q E { s with heap := h1, toks := t1 } := fun hQ => by
    refine wpAny_Name ?_ hd
    cases nv1 with
    | loc hk hn hv => exact wpAny_loadName_local F.ctx.kind hk hn hv hQ
    | cell hk hc hv => exact wpAny_loadName_cell F.ctx.kind hk hc hv hQ
  refine ld ((ev_name (n := n) (x := y) hy hdy).run A _ q1 E _ R F1.ctx fun h2 t2 q2 u g2 r2 => ?_)
  cases r2
  have g12 := g1.trans g2
  have F2 := F1.grow g2
  have ho2 := g12.keep _ _ ho
  refine setitem_exact (s := { s with heap := h2, toks := t2 }) ho2 h0j (by rw [r.length]; exact hj) (by rw [r.length]; exact hsz) fun h3 m' ho3 hs3 => ?_
  have nv2 := nv1.keep g2.keep
  have F3 := F2.writeOwn hx nv2 ho2 hs3 ho3 ((r.mono g12.le).set (r1.mono g2.le))
  refine k h3 t2 q2 a F3 nv ?_
  obtain ⟨b, us, m1, nv3, ho3', _⟩ := F3.ctx.owns x (ds.set j.toNat d) (by unfold upd; rw [if_pos rfl])
  have keep : NameVal env h3 x (.ref a) := by
    cases nv2 with
    | loc hk hn hv =>
      refine .loc hk (hn.sameBut hs3 fun z => ?_) hv
      obtain ⟨o, es, ep, e1, e2, _⟩ := hn
      rw [z, ho2] at e1; cases e1; cases e2
    | cell hk hc hv =>
      refine .cell hk hc (hv.sameBut hs3 fun z => ?_)
      obtain ⟨o, e1, e2⟩ := hv
      rw [z, ho2] at e1; cases e1; cases e2
  exact keep
/-- x[y] = e on a list of its own -/
theorem x_setitem {x y : Str} {p p2 sp pos : Pos} {e : Expr} {ds : List PV} {j : Int} {d : PV} (hx : ρ x = some (.own ds)) (hy : ρ y = some (.pers (.int j))) (he : EV w n env ρ e d) (h0j : 0 ≤ j) (hj : j < ds.length) (hsz : ds.length ≤ 1000000)
    (hd : (x == ("__debug__" : Str)) = false := by decide) (hdy : (y == ("__debug__" : Str)) = false := by decide) (hs : swapsWith e (some (.Subscript (.Name x p) (.Name y p2) sp)) pos.line env = pure false := by rfl) :
    X w n env ρ (.Assign [.Subscript (.Name x p) (.Name y p2) sp] e pos) (.next (upd ρ x (.own (ds.set j.toNat d)))) :=
  ⟨fun A s q h0 q0 E Q R F k => set_core R F hx hy he h0j hj hsz hd hdy hs fun h' tk q' a F' _ _ => k h' tk q' _ ⟨rfl, F'⟩⟩
theorem xa_set {x y : Str} {p p2 sp pos : Pos} {e : Expr} {ds : List PV} {j : Int} {d : PV} {rest : List Stmt} (hx : ρ x = some (.own ds)) (hy : ρ y = some (.pers (.int j))) (he : EV w n env ρ e d) (h0j : 0 ≤ j) (hj : j < ds.length) (hsz : ds.length ≤ 1000000)
    (hr : XA w n env (upd ρ x (.own (ds.set j.toNat d))) x rest ρ')
    (hd : (x == ("__debug__" : Str)) = false := by decide) (hdy : (y == ("__debug__" : Str)) = false := by decide) (hs : swapsWith e (some (.Subscript (.Name x p) (.Name y p2) sp)) pos.line env = pure false := by rfl) :
    XA w n env ρ x (.Assign [.Subscript (.Name x p) (.Name y p2) sp] e pos :: rest) ρ' := by
  refine ⟨fun A s q h0 q0 E Q l R F nv k => ?_⟩
  refine wpAny_execs_cons (set_core R F hx hy he h0j hj hsz hd hdy hs fun h' tk q' a F' na nb => ?_)
  cases na.fun nv
  exact hr.run A _ q' h0 q0 E Q _ R F' nb k
end
end Mine

/-! ## P38 -/
namespace Mine
section
variable {w : World} {n : Nat} {env : Env} {h0 : Heap} {q0 q : Gh} {ρ : Rho} {A : Around} {E : Value → Shared → Prop} {s : Shared}
theorem store_pers2 {M : Model} {x : Str} {v : Value} {d : PV} {Q : Unit → Shared → Prop}
    (F : Fs w env h0 q0 ρ s.heap q) (hx : canStore env x = true) (r : Rep q v d)
    (k : ∀ h' tk, Fs w env h0 q0 (upd ρ x (.pers d)) h' q → (∀ y u, y ≠ x → NameVal env s.heap y u → NameVal env h' y u) → Q () { s with heap := h', toks := tk }) : wpAny M A (storeName env x v) Q E s := by
  refine store_gen F hx fun h' tk c hs hcw c0 cq loc hcl nx ny nc => k h' tk (F.write hs c0 cq loc hcl (fun y d' e => ?_) (fun y ds e => ?_) fun y z dy dz a ey ez ny' nz' => ?_) ny
  · by_cases hy : y = x
    · subst hy; simp only [upd, if_pos] at e; cases e; exact ⟨v, nx, r⟩
    · simp only [upd, if_neg hy] at e
      obtain ⟨u, nu, ru⟩ := F.ctx.pers y d' e
      exact ⟨u, ny y u hy nu, ru⟩
  · by_cases hy : y = x
    · subst hy; simp only [upd, if_pos] at e; cases e
    · simp only [upd, if_neg hy] at e
      obtain ⟨a, vs, n, nu, ho, rl, hq⟩ := F.ctx.owns y ds e
      exact ⟨a, vs, n, ny y _ hy nu, (hs.2 a (nc a _ _ _ ho rfl)).trans ho, rl, hq, F.ownsNew y ds a e nu⟩
  · by_cases hy : y = x
    · subst hy; simp only [upd, if_pos] at ey; cases ey
    · by_cases hz : z = x
      · subst hz; simp only [upd, if_pos] at ez; cases ez
      · simp only [upd, if_neg hy] at ey
        simp only [upd, if_neg hz] at ez
        obtain ⟨a1, _, _, n1, _⟩ := F.ctx.owns y dy ey
        obtain ⟨a2, _, _, n2, _⟩ := F.ctx.owns z dz ez
        have e1 := (ny y _ hy n1).fun ny'
        have e2 := (ny z _ hz n2).fun nz'
        cases e1; cases e2
        exact F.ownsApart y z dy dz _ ey ez n1 n2
theorem assign_pair2 {x1 x2 : Str} {p1 p2 tp : Pos} {kk : Nat} {T : Addr} {v1 v2 : Value} {d1 d2 : PV} {Q : Unit → Shared → Prop} (F : Fs w env h0 q0 ρ s.heap q) (hh : A.handled = none) (hT : s.heap.IsTuple T #[v1, v2])
    (c1 : canStore env x1 = true) (c2 : canStore env x2 = true) (r1 : Rep q v1 d1) (r2 : Rep q v2 d2)
    (k : ∀ h' tk, Fs w env h0 q0 (upd (upd ρ x1 (.pers d1)) x2 (.pers d2)) h' q → (∀ y u, y ≠ x1 → y ≠ x2 → NameVal env s.heap y u → NameVal env h' y u) → Q () { s with heap := h', toks := tk }) :
    wpAny (model pw w) A (assign (.Tuple [.Name x1 p1, .Name x2 p2] kk tp) env (.ref T)) Q E s := by
  refine wpAny_assign_Tuple hh hT rfl rfl fun h1 hx => ?_
  have kp : Keep s.heap h1 := fun b o e => hx b o (Nat.ne_of_lt (Heap.lt_size e)) e
  have g : Grow s.heap q h1 q := Grow.heap F.ctx.sub kp
  have F1 := F.grow g
  show wpAny _ A (do holding [v2] (assign (.Name x1 p1) env v1); do holding [] (assign (.Name x2 p2) env v2); pure ()) _ _ _
  refine wpAny_bind (wpAny_holding (wpAny_assign_Name (store_pers2 (s := { s with heap := h1 }) F1 c1 r1 fun h2 t2 F2 n2 => ?_)))
  refine wpAny_bind (wpAny_holding (wpAny_assign_Name (store_pers2 (s := { s with heap := h2, toks := t2 }) F2 c2 r2 fun h3 t3 F3 n3 => wpAny_pure ?_)))
  exact k h3 t3 F3 fun y u y1 y2 nv => n3 y u y2 (n2 y u y1 (nv.keep kp))
theorem Fs.bel0 {base hc : Heap} {outer : List Env} {h : Heap} (F : Fs w env h0 q0 ρ h q) (B : Bel base hc outer h0) : Bel base hc outer (hideP h (Priv env ρ h)) :=
  B.keep fun b o e => by
    rw [hideP_eq]
    · exact F.g.keep b o e
    · intro p; rw [(F.priv p).1] at e; cases e
theorem for_own_core {a x y : Str} {g : Str} {p p2 tp pos p3 p4 p5 : Pos} {kt : Nat} {body : List Stmt} {ds : List PV} {base hc : Heap} {outer : List Env} (Ls : Nat → List PV) (ρs : Nat → Rho) (stop : Option Nat) {Q : Flow → Shared → Prop}
    (R : Room n A) (F : Fs w env h0 q0 ρ s.heap q) (ha : ρ a = some (.own ds)) (hg : EV w n env ρ (.Name g p3) (.raw (.type "enumerate")))
    (hx : canStore env x = true) (hy : canStore env y = true) (h0i : Sub (ρs 0) ρ) (hL : ∀ i, i ≤ ds.length → ρs i a = some (.own (Ls i)) ∧ (Ls i).length = ds.length) (hax : a ≠ x) (hay : a ≠ y) (hd : (a == ("__debug__" : Str)) = false)
    (turn : ∀ i d, i < ds.length → (Ls i)[i]? = some d → (∀ j, stop = some j → i ≤ j) → (stop ≠ some i → ∃ ρ'', XA w n env (upd (upd (ρs i) x (.pers (.int (Int.ofNat i)))) y (.pers d)) a body ρ'' ∧ Sub (ρs (i + 1)) ρ'') ∧
      (stop = some i → XSR w n env (upd (upd (ρs i) x (.pers (.int (Int.ofNat i)))) y (.pers d)) body))
    (hbad : ∀ j, stop = some j → j < ds.length ∧ A.frames = some (env :: outer) ∧ env.frame = some env.locals ∧ Bel base hc outer h0)
    (kN : ∀ h' tk q', stop = none → Fs w env h0 q0 (ρs ds.length) h' q' → Q .next { s with heap := h', toks := tk })
    (kE : ∀ h' tk z, stop ≠ none → Exc base hc (env :: outer) z h' → E (.ref z) { s with heap := h', toks := tk })
    (hs : starEach [.Name a p4] env = [(false, eval (.Name a p4) env)]) (hf : ∀ x, foldedSetIterable (.Call (.Name g p3) [.Name a p4] [] p5) env x = pure x) :
    wpAny (model pw w) A (exec (.For (.Tuple [.Name x p, .Name y p2] kt tp) (.Call (.Name g p3) [.Name a p4] [] p5) body [] pos) env) Q E s := by
  refine wpAny_For ?_ hf
  refine wpAny_Call_NameR (hg.run A s q E _ R F.ctx fun h1 t1 q1 v g1 r1 => ?_)
  cases r1
  have F1 := F.grow g1
  obtain ⟨l, vs, m, nv, ho, r, hq⟩ := F1.ctx.owns a ds ha
  have ld : ∀ {Q : Value → Shared → Prop}, Q (.ref l) { s with heap := h1, toks := t1 } → wpAny (model pw w) A (eval (.Name a p4) env) Q E { s with heap := h1, toks := t1 } := fun hQ => by
    refine wpAny_Name ?_ hd
    cases nv with
    | loc hk hn hv => exact wpAny_loadName_local F.ctx.kind hk hn hv hQ
    | cell hk hc hv => exact wpAny_loadName_cell F.ctx.kind hk hc hv hQ
  refine PyProof.Rows.callWith_type1 (wpAny_items_cons (ld (wpAny_items_nil ?_)) hs) hs rfl
  have hl := isList_of ho
  refine call_enumerate_list (s := { s with heap := h1, toks := t1 }) hl fun h3 e1 e2 e3 e4 => ?_
  refine wpAny_pyIter_enum (s := { s with heap := h3, toks := t1 }) e1 ?_
  generalize hI : h1.objs.size + 1 = I at e1
  generalize ht : h1.objs.size = it at e1 e2
  have ht' : h1.objs.size = it := ht
  have hI' : h1.objs.size + 1 = I := hI
  have hIt : I ≠ it := by omega
  have g3 : Grow h1 q1 h3 q1 := Grow.heap F1.ctx.sub e4
  have F3 := F1.grow g3
  have fresh : ∀ b, it ≤ b → h1.get? b = none ∧ h0.get? b = none ∧ q1 b = none := fun b hb => by
    have z1 : h1.get? b = none := by
      cases z : h1.get? b with
      | none => rfl
      | some o => exact absurd (Heap.lt_size z) (Nat.not_lt.mpr (by rw [ht']; exact hb))
    refine ⟨z1, ?_, ?_⟩
    · cases z : h0.get? b with
      | none => rfl
      | some o => rw [F1.g.keep _ _ z] at z1; cases z1
    · cases z : q1 b with
      | none => rfl
      | some o => rw [F1.ctx.sub _ _ z] at z1; cases z1
  have hpriv0 : ∀ b, it ≤ b → ¬ Priv env (ρs 0) h3 b := fun b hb pv => by
    have hn := (fresh b hb).1
    rcases pv with rfl | ⟨y, e⟩ | ⟨y, ds', e, nv⟩
    · obtain ⟨m, o, es, ep, ho, _⟩ := F1.loc; rw [ho] at hn; cases hn
    · obtain ⟨⟨v, o, ho, _⟩, _⟩ := F1.cells y b e; rw [ho] at hn; cases hn
    · obtain ⟨a', vs, m, nv', ho, _⟩ := F1.ctx.owns y ds' (h0i _ _ e)
      cases (nv'.keep e4).fun nv
      rw [ho] at hn; cases hn
  refine codeAny_forLoop_any (fun k s' => ∃ i h' tk q' old, s' = { s with heap := h', toks := tk } ∧ k = ds.length - i ∧ i ≤ ds.length ∧ (∀ j, stop = some j → i ≤ j) ∧ Fs w env h0 q0 (ρs i) h' q' ∧ NameVal env h' a (.ref l) ∧
      IsEnum h' I it ((i : Nat) : Int) old ∧ h'.IsListIter it l i ∧ (∀ b, b = I ∨ b = it → h0.get? b = none ∧ q' b = none ∧ ¬ Priv env (ρs i) h' b)) ?_ ds.length
      ⟨0, h3, t1, q1, .none, rfl, rfl, Nat.zero_le _, fun _ _ => Nat.zero_le _, F3.less h0i, nv.keep e4, e1, e2, fun b hb => by
        have hb' : it ≤ b := by rcases hb with rfl | rfl <;> omega
        exact ⟨(fresh b hb').2.1, (fresh b hb').2.2, hpriv0 b hb'⟩⟩
  rintro k s' ⟨i, h', tk, q', old, rfl, hk, hi, hij, F', nv', he, hit, hw⟩
  obtain ⟨hLi, hLl⟩ := hL i hi
  obtain ⟨l2, vs2, m2, nvv, ho2, r2, hq2⟩ := F'.ctx.owns a (Ls i) hLi
  cases nvv.fun nv'
  have hl2 := isList_of ho2
  have hvl : vs2.length = ds.length := by rw [r2.length, hLl]
  by_cases hlt : i < ds.length
  · have hx2 : vs2.toArray[i]? = some vs2[i] := by simp
    obtain ⟨d, hd2⟩ : ∃ d, (Ls i)[i]? = some d := ⟨(Ls i)[i], List.getElem?_eq_getElem (by omega)⟩
    obtain ⟨v', hv', rv⟩ := r2.get hd2
    have hvv : v' = vs2[i] := by rw [List.getElem?_eq_getElem (by omega)] at hv'; exact (Option.some.inj hv').symm
    subst hvv
    refine wpAny_pyNext_enum_item (s := { s with heap := h', toks := tk }) he hit hl2 hx2 hIt fun h4 heo hit4 ht4 hz4 hk4 => ?_
    refine wpAny_letOwnedTupleGo_enum heo fun h5 he5 hs5 => ?_
    have hk5 : ∀ b o, b ∉ [I, it] → h'.get? b = some o → h5.get? b = some o := fun b o nb e => by
      simp only [List.mem_cons, List.not_mem_nil, or_false, not_or] at nb
      exact hs5.extBut b o nb.1 (hk4 b o nb.1 nb.2 e)
    have hw' : ∀ b ∈ [I, it], h0.get? b = none ∧ q' b = none ∧ ¬ Priv env (ρs i) h' b := fun b hb => hw b (by simpa using hb)
    have F5 : Fs w env h0 q0 (ρs i) h5 q' := F'.moved hw' hk5
    have hTne : h'.objs.size ≠ I := Nat.ne_of_gt (Heap.lt_size he)
    have hT5 : h5.IsTuple h'.objs.size #[.int (i : Int) tk, vs2[i]] := ⟨_, (hs5.2 _ hTne).trans ht4, rfl, _, rfl⟩
    have hit5 : h5.IsListIter it l (i + 1) := hit4.extBut hs5.extBut (Ne.symm hIt)
    have keepN : ∀ y u, NameVal env h' y u → NameVal env h5 y u := fun y u nv => by
      cases nv with
      | loc k hn hv => exact .loc k (hn.at' fun o e => hk5 _ _ (fun mm => (hw' _ mm).2.2 (.inl rfl)) e) hv
      | cell k hc hv => obtain ⟨o, z, d⟩ := hv; exact .cell k hc ⟨o, hk5 _ _ (fun mm => (hw' _ mm).2.2 (.inr (.inl ⟨y, hc⟩))) z, d⟩
    have hpr : ∀ b, b = I ∨ b = it → ¬ Priv env (ρs i) h5 b := fun b hb pv => by
      refine (hw b hb).2.2 ?_
      rcases pv with rfl | ⟨y, e⟩ | ⟨y, ds', e, nv⟩
      · exact .inl rfl
      · exact .inr (.inl ⟨y, e⟩)
      · obtain ⟨a', vs', m', nva, _⟩ := F'.ctx.owns y ds' e
        cases (keepN _ _ nva).fun nv
        exact .inr (.inr ⟨y, ds', e, nva⟩)
    have Fr5 := F5.rebase
    have keepw : ∀ b o, b = I ∨ b = it → h5.get? b = some o → (hideP h5 (Priv env (ρs i) h5)).get? b = some o := fun b o m e => by rw [hideP_eq (hpr b m)]; exact e
    refine assign_pair2 (s := { s with heap := h5, toks := tk + 1 }) Fr5 R.handled hT5 hx hy (.int _ _) rv fun h6 tk6 F6 n6 => ?_
    have nv6 := n6 a _ hax hay (keepN _ _ nv')
    obtain ⟨t1', t2'⟩ := turn i d hlt hd2 hij
    by_cases hstp : stop = some i
    · obtain ⟨_, hfr, hfe, BB⟩ := hbad i hstp
      refine (t2' hstp).run A { s with heap := h6, toks := tk6 } q' _ q' base hc outer _ _ R hfr hfe F6 (F5.bel0 BB) fun h7 tk7 z ex => ?_
      refine at_back (s := { s with heap := h7, toks := tk7 }) ⟨hfr, rfl⟩ ex fun h8 ex8 => kE h8 tk7 z (by rw [hstp]; intro h; cases h) ex8
    · obtain ⟨ρ'', tx, hsub⟩ := t1' hstp
      refine tx.run A { s with heap := h6, toks := tk6 } q' _ q' _ _ l R F6 nv6 fun h7 tk7 q7 F7 nv7 => ?_
      have F7' := F7.less hsub
      refine ⟨ds.length - (i + 1), by omega, i + 1, h7, tk7, q7, vs2[i], rfl, rfl, hlt, fun j e => ?_, F5.back F7', nv7, ?_, ?_, fun b hb => ?_⟩
      · rcases Nat.lt_or_eq_of_le (hij j e) with h | h
        · exact h
        · subst h; exact absurd e hstp
      · have := F7.g.keep _ _ (keepw I _ (.inl rfl) he5)
        have e : ((i + 1 : Nat) : Int) = (i : Int) + 1 := by push_cast; rfl
        rw [e]; exact this
      · exact hit5.at fun o e => F7.g.keep _ _ (keepw it _ (.inr rfl) e)
      · obtain ⟨o, ho⟩ : ∃ o, h5.get? b = some o := by
          rcases hb with rfl | rfl
          · exact ⟨_, he5⟩
          · obtain ⟨o, ho, _⟩ := hit5; exact ⟨o, ho⟩
        have hg := keepw b o hb ho
        refine ⟨(hw b hb).1, ?_, fun pv => by rw [(F7'.priv pv).1] at hg; cases hg⟩
        cases z : q7 b with
        | none => rfl
        | some o' =>
          rcases F7.g.fresh b o' z with e | e
          · rw [(hw b hb).2.1] at e; cases e
          · rw [hg] at e; cases e
  · have hi' : i = ds.length := by omega
    have hend : vs2.toArray[i]? = none := by simp; omega
    refine wpAny_pyNext_enum_end (s := { s with heap := h', toks := tk }) R.handled he hit hl2 hend fun h4 hx4 => wpAny_execs_nil ?_
    have hso : stop = none := by
      cases e : stop with
      | none => rfl
      | some j => exact absurd (hbad j e).1 (by have := hij j e; omega)
    refine kN h4 tk q' hso ?_
    have := F'.moved (wr := [it]) (h' := h4) (fun b hb => hw b (.inr (by simpa using hb))) fun b o nb e => hx4 b o (by simpa using nb) e
    rw [hi'] at this
    exact this
end
end Mine

/-! ## P39 -/
namespace Mine
noncomputable def fillE (idx b : Option Int) : El → El
  | .wild => match idx with | none => .wild | some i => .num i
  | .num k => .num k
  | .set is => .num (is.getD (b.getD 0).toNat 0)
noncomputable def okF (b : Option Int) : El → Prop
  | .set is => is.length ≤ 10 ∧ 0 < is.length ∧ ∀ r, b = some r → 0 ≤ r ∧ r < is.length
  | _ => True
theorem el_wild {idx : Option Int} : (match idx with | none => El.wild | some i => El.num i).pv = optPV idx := by cases idx <;> rfl
noncomputable abbrev mix (f : El → El) (els : List El) (i : Nat) : List PV := ((els.take i).map f ++ els.drop i).map El.pv
theorem mix_len {f : El → El} {els : List El} {i : Nat} : (mix f els i).length = els.length := by
  simp only [mix, List.length_map, List.length_append, List.length_take, List.length_drop]; omega
theorem mix_get {f : El → El} {els : List El} {i : Nat} {d : PV} (hi : i < els.length) (h : (mix f els i)[i]? = some d) : els[i].pv = d := by
  unfold mix at h
  rw [List.getElem?_map, List.getElem?_append_right (by rw [List.length_map, List.length_take]; omega), List.length_map, List.length_take, Nat.min_eq_left (Nat.le_of_lt hi), Nat.sub_self, List.getElem?_drop, Nat.add_zero, List.getElem?_eq_getElem hi] at h
  exact Option.some.inj h
theorem mix_set {f : El → El} {els : List El} {i : Nat} (hi : i < els.length) : (mix f els i).set i (f els[i]).pv = mix f els (i + 1) := by
  unfold mix
  rw [← List.map_set, List.set_append_right _ _ (by rw [List.length_map, List.length_take]; omega), List.length_map, List.length_take, Nat.min_eq_left (Nat.le_of_lt hi), Nat.sub_self,
    List.drop_eq_getElem_cons hi, List.set_cons_zero, List.take_add_one, List.getElem?_eq_getElem hi]
  simp only [List.map_append, List.append_assoc]
  rfl
theorem set_same {α : Type} : ∀ {l : List α} {i : Nat} {a : α}, l[i]? = some a → l.set i a = l
  | [], _, _, h => by simp at h
  | x :: r, 0, a, h => by simp at h; subst h; rfl
  | x :: r, i + 1, a, h => by
    rw [List.set_cons_succ, set_same (by simpa using h)]
theorem mix_same {f : El → El} {els : List El} {i : Nat} (hi : i < els.length) (h : f els[i] = els[i]) : mix f els (i + 1) = mix f els i := by
  rw [← mix_set hi, h, set_same]
  unfold mix
  rw [List.getElem?_map, List.getElem?_append_right (by rw [List.length_map, List.length_take]; omega), List.length_map, List.length_take, Nat.min_eq_left (Nat.le_of_lt hi), Nat.sub_self, List.getElem?_drop, Nat.add_zero, List.getElem?_eq_getElem hi]
  rfl
noncomputable abbrev eFill (L : Addr) : Env := fEnv "AllowedDerivation.fill" S839 839 (.ref 838) L
noncomputable abbrev rFill (els : List El) (idx b : Option Int) : Rho := rho0 [("self", der els), ("idx", optPV idx), ("branch_index", optPV b)]
noncomputable abbrev rArr (els : List El) (idx b : Option Int) (i : Nat) : Rho := upd (rFill els idx b) "arr" (.own (mix (fillE idx b) els i))
noncomputable def loopOf2 : List Stmt → List Stmt
  | _ :: _ :: .For _ _ b _ _ :: _ => b
  | _ => []
section
variable {w : World} {n : Nat}
theorem isnone_opt {env : Env} {ρ : Rho} {x : Str} {v : Option Int} {p1 p2 p3 : Pos} {k : Nat} (hx : ρ x = some (.pers (optPV v))) (hd : (x == ("__debug__" : Str)) = false) : TV w n env ρ (.Compare (.Name x p1) [.Is] [.Constant .none k p2] p3) v.isNone :=
  (tv_cmp (ev_name hx hd) ev_none (cmp_is_none (optPV_noraw v))).eq (by cases v <;> rfl)
theorem isnotnone_opt {env : Env} {ρ : Rho} {x : Str} {v : Option Int} {p1 p2 p3 : Pos} {k : Nat} (hx : ρ x = some (.pers (optPV v))) (hd : (x == ("__debug__" : Str)) = false) : TV w n env ρ (.Compare (.Name x p1) [.IsNot] [.Constant .none k p2] p3) v.isSome :=
  (tv_cmp (ev_name hx hd) ev_none (cmp_isnot_none (optPV_noraw v))).eq (by cases v <;> rfl)
theorem xa_ifT {env : Env} {ρ ρ1 ρ' : Rho} {x : Str} {t : Expr} {body orelse rest : List Stmt} {pos : Pos} (ht : TV w n env ρ t true) (h : XA w n env ρ x body ρ1) (hr : XA w n env ρ1 x rest ρ') : XA w n env ρ x (.If t body orelse pos :: rest) ρ' := xa_if ht h hr
theorem xa_ifF {env : Env} {ρ ρ1 ρ' : Rho} {x : Str} {t : Expr} {body orelse rest : List Stmt} {pos : Pos} (ht : TV w n env ρ t false) (h : XA w n env ρ x orelse ρ1) (hr : XA w n env ρ1 x rest ρ') : XA w n env ρ x (.If t body orelse pos :: rest) ρ' := xa_if ht h hr
theorem fill_turn {L : Addr} {els : List El} {idx b : Option Int} {i : Nat} (hl : els.length ≤ 100) (hi : i < els.length) (ok : okF b els[i]) :
    ∃ ρ'', XA w n (eFill L) (upd (upd (rArr els idx b i) "i" (.pers (.int (Int.ofNat i)))) "el" (.pers els[i].pv)) "arr" (loopOf2 B839) ρ'' ∧ Sub (rArr els idx b (i + 1)) ρ'' := by
  have hset := mix_set (f := fillE idx b) hi
  have hlen : (mix (fillE idx b) els i).length = els.length := mix_len
  have hsame := mix_same (f := fillE idx b) hi
  have hii : Int.ofNat i < ((mix (fillE idx b) els i).length : Int) := by rw [hlen]; exact Int.ofNat_lt.mpr hi
  have h62 : ((mix (fillE idx b) els i).length) ≤ 1000000 := by rw [hlen]; omega
  have fin : Sub (rArr els idx b (i + 1)) (upd (upd (upd (rArr els idx b i) "i" (.pers (.int (Int.ofNat i)))) "el" (.pers els[i].pv)) "arr" (.own ((mix (fillE idx b) els i).set (Int.ofNat i).toNat (fillE idx b els[i]).pv))) := by
    have e : (Int.ofNat i).toNat = i := rfl
    rw [e, hset]
    refine sub_over (sub_skip rfl (sub_skip rfl (sub_skip rfl sub_refl)))
  cases he : els[i] with
  | num k =>
    rw [he] at hsame
    refine ⟨_, xa_ifF ((tv_cmp (a := (El.num k).pv) (ev_name rfl) ev_none (cmp_is_none (el_noraw _))).eq rfl) xa_nil (xa_ifF (tv_list (e := .num k) rfl rfl rfl) xa_nil xa_nil), ?_⟩
    show Sub (upd (rFill els idx b) "arr" (.own (mix (fillE idx b) els (i + 1)))) _
    rw [hsame rfl]
    exact sub_skip rfl (sub_skip rfl sub_refl)
  | wild =>
    rw [he] at fin
    have hv : (fillE idx b .wild).pv = optPV idx := el_wild
    refine ⟨_, xa_ifT ((tv_cmp (a := El.wild.pv) (ev_name rfl) ev_none (cmp_is_none (el_noraw _))).eq rfl) (xa_set (ds := mix (fillE idx b) els i) (j := Int.ofNat i) (d := (fillE idx b .wild).pv) rfl rfl ((ev_name rfl).eq hv.symm) (Int.natCast_nonneg i) hii h62 xa_nil) (xa_ifF (tv_list (e := .wild) rfl rfl rfl) xa_nil xa_nil), fin⟩
  | set is =>
    rw [he] at fin ok
    obtain ⟨o1, o2, o3⟩ := ok
    refine ⟨_, xa_ifF ((tv_cmp (a := (El.set is).pv) (ev_name rfl) ev_none (cmp_is_none (el_noraw _))).eq rfl) xa_nil (xa_ifT (tv_list (e := .set is) rfl rfl rfl) ?_ xa_nil), fin⟩
    have hg : ∀ r : Nat, r < is.length → (is.map PV.int)[r]? = some (.int (is.getD r 0)) := fun r hr => by
      rw [List.getElem?_map, List.getElem?_eq_getElem hr, List.getD_eq_getElem?_getD, List.getElem?_eq_getElem hr]; rfl
    cases b with
    | none =>
      refine xa_ifT (isnone_opt (v := none) rfl (by decide)) (xa_set (ds := mix (fillE idx none) els i) (j := Int.ofNat i) (d := (fillE idx none (.set is)).pv) rfl rfl ?_ (Int.natCast_nonneg i) hii h62 xa_nil) xa_nil
      exact ev_item (ds := is.map .int) (j := 0) (ev_name rfl) ev_int (by decide) (by decide) (hg 0 o2)
    | some r =>
      obtain ⟨r0, r1⟩ := o3 r rfl
      refine xa_ifF (isnone_opt (v := some r) rfl (by decide)) (xa_ifF ((tv_or (c := false) (tv_cmp (a := .int r) (ev_name rfl) ev_int cmp_lt_int) fun _ => (tv_or (c := false) (tv_cmp (a := .int r) (ev_name rfl) (ev_callB (g_len rfl) (evs_cons (ev_name rfl) evs_nil) (len_list_ (ds := is.map .int) (by rw [List.length_map]; omega))) cmp_ge_int) fun _ => tv_or_nil).eq ?_).eq ?_) xa_nil
        (xa_set (ds := mix (fillE idx (some r)) els i) (j := Int.ofNat i) (d := (fillE idx (some r) (.set is)).pv) rfl rfl ?_ (Int.natCast_nonneg i) hii h62 xa_nil)) xa_nil
      · simp only [List.length_map, Bool.or_false, decide_eq_false_iff_not]; omega
      · simp only [Bool.or_false, decide_eq_false_iff_not]; omega
      · refine ev_item (ds := is.map .int) (j := r) (ev_name rfl) (ev_name rfl) r0 (by omega) (hg r.toNat (by omega))
end
end Mine

/-! ## P40 -/
namespace Mine
noncomputable def badIdx : Option Int → Bool
  | none => false
  | some i => decide (i < 0) || decide (HARD ≤ i)
section
variable {w : World} {n : Nat}
theorem tv_badIdx {env : Env} {ρ : Rho} {idx : Option Int} {p1 p2 p3 p4 p5 p6 p7 p8 p9 p10 p11 : Pos} {k1 k2 : Nat} (hx : ρ "idx" = some (.pers (optPV idx))) (hh : env.kindOf "HARDENED_INDEX" = some .globalImplicit) :
    TV w n env ρ (.BoolOp .And [.Compare (.Name "idx" p1) [.IsNot] [.Constant .none k1 p2] p3, .BoolOp .Or [.Compare (.Name "idx" p4) [.Lt] [.Constant (.int 0) k2 p5] p6, .Compare (.Name "idx" p7) [.GtE] [.Name "HARDENED_INDEX" p8] p9] p10] p11) (badIdx idx) := by
  cases idx with
  | none => exact (tv_and (c := true) (isnotnone_opt (v := none) hx (by decide)) fun h => by cases h).eq rfl
  | some i =>
    exact (tv_and (isnotnone_opt (v := some i) hx (by decide)) fun _ => tv_and (tv_or (tv_cmp (a := .int i) (ev_name hx) ev_int cmp_lt_int) fun _ => tv_or (tv_cmp (a := .int i) (ev_name hx) (g_hard hh) cmp_ge_int) fun _ => tv_or_nil) fun _ => tv_and_nil).eq (by simp [badIdx])
theorem x_arr {L : Addr} {els : List El} {idx b : Option Int} (hl : els.length ≤ 100) {p1 p2 p3 p4 p5 p6 p7 : Pos} {scope : Scope}
    (hsw : swapsWith (.ListComp (.Name "i" p1) [⟨.Name "i" p2, .Attribute (.Name "self" p3) "indexes" p4, [], 0⟩] scope p5) (some (.Name "arr" p6)) p7.line (eFill L) = pure true)
    (hfree : freeOk scope (eFill L) = true) (hcell : (scope.names.all fun y => y.2 != .cell) = true) (hkind : scope.kind = .function) (hxx : scope.names.lookup ("i" : Str) = some .local) (hnm : namesOk scope = true) (hk : ∀ C, (cEnv scope (eFill L) C).kindOf "i" = some .local) :
    X w n (eFill L) (rFill els idx b) (.Assign [.Name "arr" p6] (.ListComp (.Name "i" p1) [⟨.Name "i" p2, .Attribute (.Name "self" p3) "indexes" p4, [], 0⟩] scope p5) p7) (.next (rArr els idx b 0)) :=
  x_assign_compM (xs := els) El.pv El.pv (it_list (ev_idx (ev_name rfl))) (fun e he C => ev_name rfl) (by omega) rfl hsw hfree hcell hkind hxx hnm
theorem fill_body {L : Addr} {els : List El} {idx b : Option Int} (hl : els.length ≤ 100) (hidx : badIdx idx = false) (ok : ∀ e ∈ els, okF b e) : XS w n (eFill L) (rFill els idx b) B839 (.ret (.list ((els.map (fillE idx b)).map El.pv))) := by
  refine xs_cons (x_ifF ((tv_badIdx rfl rfl).eq hidx) xs_nil) ?_
  refine xs_cons (x_arr hl rfl rfl rfl rfl rfl rfl fun _ => rfl) ?_
  refine xs_cons (ρ' := rArr els idx b els.length) ⟨fun A s q h0 q0 E Q R F k => ?_⟩ ?_
  · refine for_own_core (base := h0) (hc := h0) (outer := []) (fun i => mix (fillE idx b) els i) (fun i => rArr els idx b i) none R F (a := "arr") (ds := mix (fillE idx b) els 0) rfl (g_enumerate rfl) rfl rfl sub_refl ?_ (by decide) (by decide) (by decide) ?_ (fun j h => by cases h) ?_ (fun h' tk z h => absurd rfl h) rfl (fun _ => rfl)
    · intro i hi
      exact ⟨rfl, by rw [mix_len, mix_len]⟩
    · intro i d hi hd _
      have hi' : i < els.length := by rwa [mix_len] at hi
      refine ⟨fun _ => ?_, fun h => by cases h⟩
      rw [← mix_get hi' hd]
      exact fill_turn hl hi' (ok _ (List.getElem_mem hi'))
    · intro h' tk q' _ F'
      rw [mix_len] at F'
      exact k h' tk q' _ ⟨rfl, F'⟩
  · have e : mix (fillE idx b) els els.length = (els.map (fillE idx b)).map El.pv := by simp [mix]
    refine xs_freeze (x := "arr") (ds := mix (fillE idx b) els els.length) rfl ?_
    rw [e]
    exact xs_one (x_return (ev_name rfl))
theorem bind_fill3 {els : List El} {idx b : Option Int} (s : Shared) (q : Gh) (vs : List Value) (B : Bs w s.heap q) (r : RepL q vs [der els, optPV idx, optPV b]) :
    ∃ binds, BindsTo s (fnOf "fill" "AllowedDerivation.fill" A839 B839 S839 (.ref 834) .none .none (.str (Str.ofString "embit.descriptor.arguments") 1167) none (.ref 838) .none) ⟨vs, []⟩ binds ∧ RepB q binds [("self", der els), ("idx", optPV idx), ("branch_index", optPV b)] := by
  cases r with
  | cons h1 r => cases r with
    | cons h2 r => cases r with
      | cons h3 r => cases r with
        | nil => exact ⟨_, binds_K B.K rfl (by rfl) rfl rfl rfl, .cons h1 (.cons h2 (.cons h3 .nil))⟩
theorem bind_fill2 {els : List El} {idx : Option Int} (s : Shared) (q : Gh) (vs : List Value) (B : Bs w s.heap q) (r : RepL q vs [der els, optPV idx]) :
    ∃ binds, BindsTo s (fnOf "fill" "AllowedDerivation.fill" A839 B839 S839 (.ref 834) .none .none (.str (Str.ofString "embit.descriptor.arguments") 1167) none (.ref 838) .none) ⟨vs, []⟩ binds ∧ RepB q binds [("self", der els), ("idx", optPV idx), ("branch_index", optPV none)] := by
  cases r with
  | cons h1 r => cases r with
    | cons h2 r => cases r with
      | nil => exact ⟨_, binds_K B.K rfl (by rfl) rfl rfl rfl, .cons h1 (.cons h2 (.cons .none .nil))⟩
theorem fn_fill3 {els : List El} {idx b : Option Int} (hl : els.length ≤ 100) (hidx : badIdx idx = false) (ok : ∀ e ∈ els, okF b e) : FN w 1 (.ref 839) [der els, optPV idx, optPV b] [] (.list ((els.map (fillE idx b)).map El.pv)) :=
  FC.fn (fc_intro (out := .ret (.list ((els.map (fillE idx b)).map El.pv))) (f := 839) (by rfl) (by rfl) bind_fill3 ["self", "idx", "branch_index"] (by rfl) (by decide) rfl rfl rfl (fun L => fill_body hl hidx ok) rfl)
theorem fn_fill2 {els : List El} {idx : Option Int} (hl : els.length ≤ 100) (hidx : badIdx idx = false) (ok : ∀ e ∈ els, okF none e) : FN w 1 (.ref 839) [der els, optPV idx] [] (.list ((els.map (fillE idx none)).map El.pv)) :=
  FC.fn (fc_intro (out := .ret (.list ((els.map (fillE idx none)).map El.pv))) (f := 839) (by rfl) (by rfl) bind_fill2 ["self", "idx", "branch_index"] (by rfl) (by decide) rfl rfl rfl (fun L => fill_body hl hidx ok) rfl)
/-- fill(number) with a bad number raises -/
theorem fr_fill2 {els : List El} {idx : Option Int} (hidx : badIdx idx = true) : FR w 1 (.ref 839) [der els, optPV idx] [] :=
  FCR.fr (fcr_intro (f := 839) (by rfl) (by rfl) bind_fill2 ["self", "idx", "branch_index"] (by rfl) (by decide) rfl rfl rfl fun L => xsr_here (xr_ifT ((tv_badIdx rfl rfl).eq hidx) (xsr_here (xr_raise ev_str))))
/-- fill(idx, b) with a bad branch raises -/
theorem fr_fill3 {els : List El} {idx : Option Int} {r : Int} {j : Nat} {is : List Int} (hl : els.length ≤ 100) (hidx : badIdx idx = false) (hj : els[j]? = some (.set is)) (his : is.length ≤ 10) (hb : r < 0 ∨ (is.length : Int) ≤ r)
    (hno : ∀ i, i < j → ∀ e, els[i]? = some e → okF (some r) e) : FR w 1 (.ref 839) [der els, optPV idx, optPV (some r)] [] := by
  refine FCR.fr (fcr_intro (f := 839) (by rfl) (by rfl) bind_fill3 ["self", "idx", "branch_index"] (by rfl) (by decide) rfl rfl rfl fun L => ?_)
  refine xsr_cons (x_ifF ((tv_badIdx rfl rfl).eq hidx) xs_nil) ?_
  refine xsr_cons (x_arr hl rfl rfl rfl rfl rfl rfl fun _ => rfl) ?_
  refine xsr_here ⟨fun A s q h0 q0 base hc outer E Q R hfr hf F B k => ?_⟩
  have hjl := get_lt hj
  refine for_own_core (base := base) (hc := hc) (outer := outer) (fun i => mix (fillE idx (some r)) els i) (fun i => rArr els idx (some r) i) (some j) R F (a := "arr") (ds := mix (fillE idx (some r)) els 0) rfl (g_enumerate rfl) rfl rfl sub_refl ?_ (by decide) (by decide) (by decide) ?_
    (fun i h => by cases h; exact ⟨by rw [mix_len]; exact hjl, hfr, hf, B⟩) (fun _ _ _ h => by cases h) (fun h' tk z _ ex => k h' tk z ex) rfl (fun _ => rfl)
  · intro i hi
    exact ⟨rfl, by rw [mix_len, mix_len]⟩
  · intro i d hi hd hij
    have hi' : i < els.length := by rwa [mix_len] at hi
    have hd' := mix_get hi' hd
    subst hd'
    refine ⟨fun hne => ?_, fun he => ?_⟩
    · have hlt : i < j := by
        rcases Nat.lt_or_eq_of_le (hij j rfl) with h | h
        · exact h
        · subst h; exact absurd rfl hne
      exact fill_turn hl hi' (hno i hlt _ (List.getElem?_eq_getElem hi'))
    · cases he
      have e : els[j] = .set is := by rw [List.getElem?_eq_getElem hi'] at hj; exact Option.some.inj hj
      rw [e]
      refine xsr_cons (x_ifF ((tv_cmp (a := (El.set is).pv) (ev_name rfl) ev_none (cmp_is_none (el_noraw _))).eq rfl) xs_nil) ?_
      refine xsr_here (xr_ifT (tv_list (e := .set is) rfl rfl rfl) (xsr_here (xr_ifF (isnone_opt (v := some r) rfl (by decide)) (xsr_here (xr_ifT ?_ (xsr_here (xr_raise ev_str)))))))
      refine (tv_or (c := decide ((is.length : Int) ≤ r)) (tv_cmp (a := .int r) (ev_name rfl) ev_int cmp_lt_int) fun _ => (tv_or (c := false) (tv_cmp (a := .int r) (ev_name rfl) (ev_callB (g_len rfl) (evs_cons (ev_name rfl) evs_nil) (len_list_ (ds := is.map .int) (by rw [List.length_map]; omega))) cmp_ge_int) fun _ => tv_or_nil).eq ?_).eq ?_
      · simp only [List.length_map, Bool.or_false]
      · simpa using hb
end
end Mine

/-! ## P41 -/
namespace Mine
theorem wildP_el (e : El) : wildP e.pv = e.isWild := by
  cases e with
  | wild => rfl
  | num i => rfl
  | set is =>
    show ((toDs (is.map PV.int)).any fun y => PyData.eqv y .none) = false
    induction is with
    | nil => rfl
    | cons a r ih => simp only [List.map_cons, toDs, List.any_cons, ih, Bool.or_false]; simp [toD, PyData.eqv]
theorem setP_el (e : El) : setP e.pv = e.isSet := by cases e <;> rfl
theorem filter_len {f : PV → Bool} {g : El → Bool} (h : ∀ e : El, f e.pv = g e) : ∀ els : List El, ((els.map El.pv).filter f).length = (els.filter g).length
  | [] => rfl
  | e :: r => by
    rw [List.map_cons, List.filter_cons, List.filter_cons, h e]
    cases g e <;> simp [filter_len h r]
theorem wild_len (els : List El) : ((els.map El.pv).filter wildP).length = (els.filter El.isWild).length := filter_len wildP_el els
theorem set_len (els : List El) : ((els.map El.pv).filter setP).length = (els.filter El.isSet).length := filter_len setP_el els
section
variable {w : World} {n : Nat} {els : List El}
theorem fn_der (hl : els.length ≤ 100) (h1 : (els.filter El.isWild).length ≤ 1) (h2 : (els.filter El.isSet).length ≤ 1) : FN w 2 (.ref 903) [.list (els.map El.pv)] [] (der els) :=
  fn_make_der (by rw [List.length_map]; exact hl) (fun d hd => by obtain ⟨e, _, rfl⟩ := List.mem_map.mp hd; exact itm_el e) (by rw [wild_len]; exact h1) (by rw [set_len]; exact h2)
theorem k_plain_fill (w : World) : plainGet (K w.params) 903 "fill" = true := by kernel_rfl
theorem k_find_fill (w : World) : findIn (K w.params) (.ref 903) "fill" = some (some (.ref 839)) := by kernel_rfl
/-- x.fill(a, b), x.fill(a) -/
theorem ev_fill {env : Env} {ρ : Rho} {x : Str} {np apos pos : Pos} {e : Expr} {rest : List Expr} {d : PV} {ds : List PV} {pl : Sem Bool} (hx : EV w n env ρ (.Name x np) (der els)) (ha : EVs w n env ρ (e :: rest) ds) (hF : FN w n (.ref 839) (der els :: ds) [] d)
    (he : eval (.Call (.Attribute (.Name x np) "fill" apos) (e :: rest) [] pos) env = (do
      let ov ← eval (.Name x np) env
      standAt apos.atName
      let (f, first) ← holding [ov] (getMethod ov "fill" pl)
      callWith pos f first (backTo pos (starEach (e :: rest) env)) []) := by rfl)
    (hs : starEach (e :: rest) env = (false, eval e env) :: starEach rest env := by rfl) (hplain : (backTo pos (starEach rest env)).any (·.1) = false := by rfl) : EV w n env ρ (.Call (.Attribute (.Name x np) "fill" apos) (e :: rest) [] pos) d :=
  ev_methK hx rfl (k_plain_fill w) (k_find_fill w) (by rfl) (by rfl) ha hF he hs hplain
/-- branch -/
theorem fn_branch {r : Int} (hl : els.length ≤ 100) (ok : ∀ e ∈ els, okF (some r) e) (h1 : (els.filter El.isWild).length ≤ 1) : FN w 3 (.ref 846) [der els, .int r] [] (der (els.map (fillE none (some r)))) := by
  refine fn_intro (ps := [("self", der els), ("branch_index", .int r)]) (out := .ret (der (els.map (fillE none (some r))))) (f := 846) (by rfl) (by rfl) ?_ ["self", "branch_index"] (by rfl) (by decide) rfl rfl rfl ?_ rfl
  · intro s q vs B r
    cases r with
    | cons h1 r => cases r with
      | cons h2 r => cases r with
        | nil => exact ⟨_, BindsTo.of_eq rfl, .cons h1 (.cons h2 .nil)⟩
  · intro L
    refine xs_cons (x_assign (ev_fill (ev_name rfl) (evs_cons ev_none (evs_cons (ev_name rfl) evs_nil)) ((fn_fill3 (idx := none) (b := some r) hl rfl ok).le (by decide))) rfl) ?_
    refine xs_one (x_return (ev_call (g_fn rfl) (evs_cons (ev_name rfl) evs_nil) (fn_der (by rw [List.length_map]; exact hl) ?_ ?_) (by rfl)))
    · have : (els.map (fillE none (some r))).filter El.isWild = (els.filter El.isWild).map (fillE none (some r)) := by
        rw [List.filter_map]
        congr 1
        exact List.filter_congr fun e _ => by cases e <;> rfl
      rw [this, List.length_map]; exact h1
    · have : (els.map (fillE none (some r))).filter El.isSet = [] := by
        rw [List.filter_map, List.filter_eq_nil_iff.mpr, List.map_nil]
        intro e _; cases e <;> simp [fillE, El.isSet]
      rw [this]; exact Nat.zero_le _
theorem k_p1 (w : World) : plainGet (K w.params) 903 "is_wildcard" = true := by kernel_rfl
theorem k_p2 (w : World) : plainGet (K w.params) 903 "branches" = true := by kernel_rfl
theorem k_p3 (w : World) : plainGet (K w.params) 903 "has_hardend" = true := by kernel_rfl
theorem k_f1 (w : World) : findIn (K w.params) (.ref 903) "is_wildcard" = some (some (.ref 833)) := by kernel_rfl
theorem k_f2 (w : World) : findIn (K w.params) (.ref 903) "branches" = some (some (.ref 871)) := by kernel_rfl
theorem k_f3 (w : World) : findIn (K w.params) (.ref 903) "has_hardend" = some (some (.ref 877)) := by kernel_rfl
theorem k_s1 (w : World) : specialIn (K w.params) (.ref 833) "__get__" = some (some (.builtin "property.__get__")) := by kernel_rfl
theorem k_s2 (w : World) : specialIn (K w.params) (.ref 871) "__get__" = some (some (.builtin "property.__get__")) := by kernel_rfl
theorem k_s3 (w : World) : specialIn (K w.params) (.ref 877) "__get__" = some (some (.builtin "property.__get__")) := by kernel_rfl
theorem k_t1 (w : World) : takesIn (K w.params) (.ref 833) = some true := by kernel_rfl
theorem k_t2 (w : World) : takesIn (K w.params) (.ref 871) = some true := by kernel_rfl
theorem k_t3 (w : World) : takesIn (K w.params) (.ref 877) = some true := by kernel_rfl
section
variable {env : Env} {ρ : Rho} {x : Str} {np pos : Pos}
theorem ev_wild (hx : EV w (n + 2) env ρ (.Name x np) (der els)) : EV w (n + 2) env ρ (.Attribute (.Name x np) "is_wildcard" pos) (.bool (els.any El.isWild)) :=
  ev_prop hx (by intro u h; cases h) (k_p1 w) (k_dict w) (k_f1 w) (k_s1 w) (k_t1 w) (by rfl) (fc_wild.le (by omega))
theorem firstSet_noraw : ∀ els : List El, ∀ u, firstSet els ≠ .raw u
  | [], u, h => by cases h
  | .set _ :: r, u, h => by cases h
  | .wild :: r, u, h => firstSet_noraw r u h
  | .num _ :: r, u, h => firstSet_noraw r u h
theorem ev_branches (hx : EV w (n + 2) env ρ (.Name x np) (der els)) : EV w (n + 2) env ρ (.Attribute (.Name x np) "branches" pos) (firstSet els) :=
  ev_prop hx (firstSet_noraw els) (k_p2 w) (k_dict w) (k_f2 w) (k_s2 w) (k_t2 w) (by rfl) (fc_branches.le (by omega))
theorem ev_hardend (hs : ∀ e ∈ els, e.small) (hx : EV w (n + 2) env ρ (.Name x np) (der els)) : EV w (n + 2) env ρ (.Attribute (.Name x np) "has_hardend" pos) (.bool (els.any El.hard)) :=
  ev_prop hx (by intro u h; cases h) (k_p3 w) (k_dict w) (k_f3 w) (k_s3 w) (k_t3 w) (by rfl) ((fc_hard hs).le (by omega))
end
end
end Mine

/-! ## P42 -/
namespace Mine
/-- running a def's code on values, keywords too -/
structure FCK (w : World) (n : Nat) (f : Value) (args : List PV) (kw : List (Str × PV)) (d : PV) : Prop where
  run : ∀ A s q (R : Result → Shared → Prop) vs ks, Room n A → Bs w s.heap q → RepL q vs args → RepL q (ks.map (·.2)) (kw.map (·.2)) → ks.map (·.1) = kw.map (·.1) →
    (∀ h' tk q' v, Grow s.heap q h' q' → Rep q' v d → R (.ok (.ret v)) { s with heap := h', toks := tk }) → codeAny (model pw w) A (.call f ⟨vs, ks⟩) R s
structure FCRK (w : World) (n : Nat) (f : Value) (args : List PV) (kw : List (Str × PV)) : Prop where
  run : ∀ A s q base hc l (R : Result → Shared → Prop) vs ks, Room n A → A.frames = some l → Bs w s.heap q → RepL q vs args → RepL q (ks.map (·.2)) (kw.map (·.2)) → ks.map (·.1) = kw.map (·.1) → Bel base hc l s.heap →
    (∀ h' tk x, Exc base hc l x h' → R (.error (.ref x)) { s with heap := h', toks := tk }) → codeAny (model pw w) A (.call f ⟨vs, ks⟩) R s
theorem FCK.le {w : World} {n m : Nat} {f : Value} {args : List PV} {kw : List (Str × PV)} {d : PV} (h : FCK w n f args kw d) (hm : n ≤ m) : FCK w m f args kw d := ⟨fun A s q R' vs ks R => h.run A s q R' vs ks (R.le hm)⟩
theorem FCRK.le {w : World} {n m : Nat} {f : Value} {args : List PV} {kw : List (Str × PV)} (h : FCRK w n f args kw) (hm : n ≤ m) : FCRK w m f args kw := ⟨fun A s q base hc l R' vs ks R => h.run A s q base hc l R' vs ks (R.le hm)⟩
theorem fck_intro {w : World} {n : Nat} {name qual : Str} {params : Arguments} {body : List Stmt} {scope : Scope} {dV kV doc pm cdv ct oc : Value} {an od : Option Addr} {osl : Array (Option Value)} {f : Addr} {args : List PV} {kw : List (Str × PV)}
    {ps : List (Str × PV)} {out : Out} {d : PV}
    (ho : (K w.params).lookup f = some ⟨oc, od, .func (fnOf name qual params body scope dV kV doc pm an cdv ct), osl⟩) (hcd : codeIn (K w.params) cdv qual = true)
    (hbind : ∀ (s : Shared) (q : Gh) (vs : List Value) (ks : List (Str × Value)), Bs w s.heap q → RepL q vs args → RepL q (ks.map (·.2)) (kw.map (·.2)) → ks.map (·.1) = kw.map (·.1) → ∃ binds, BindsTo s (fnOf name qual params body scope dV kV doc pm an cdv ct) ⟨vs, ks⟩ binds ∧ RepB q binds ps)
    (names : List Str) (hkind : (names.all fun y => scope.names.lookup y == some .local || scope.names.lookup y == some .cell) = true) (hnd : decide names.Nodup = true)
    (hco : scope.isCoroutine = false) (hgen : scope.isGenerator = false) (hk : scope.kind = .function)
    (body_ : ∀ L, XS w n (fEnv qual scope f cdv L) (rho0 ps) body out) (hd : out.val = d) (hps : ps.map (·.1) = names := by rfl) : FCK w (n + 1) (.ref f) args kw d := by
  have hkind : (ps.all fun y => scope.names.lookup y.1 == some .local || scope.names.lookup y.1 == some .cell) = true := by
    rw [← hps, List.all_map] at hkind; exact hkind
  have hnd : (ps.map (·.1)).Nodup := by rw [hps]; exact of_decide_eq_true hnd
  refine ⟨fun A s q R' vs ks R B r rk hks k => ?_⟩
  obtain ⟨binds, hb, hr⟩ := hbind s q vs ks B r rk hks
  subst hd
  exact codeAny_own ho hcd hb hr hkind hnd hco hgen hk R B B (Grow.refl B.sub) body_ fun h' tk q' v g rv => k h' tk q' v g rv
theorem fcrk_intro {w : World} {n : Nat} {name qual : Str} {params : Arguments} {body : List Stmt} {scope : Scope} {dV kV doc pm cdv ct oc : Value} {an od : Option Addr} {osl : Array (Option Value)} {f : Addr} {args : List PV} {kw : List (Str × PV)}
    {ps : List (Str × PV)}
    (ho : (K w.params).lookup f = some ⟨oc, od, .func (fnOf name qual params body scope dV kV doc pm an cdv ct), osl⟩) (hcd : codeIn (K w.params) cdv qual = true)
    (hbind : ∀ (s : Shared) (q : Gh) (vs : List Value) (ks : List (Str × Value)), Bs w s.heap q → RepL q vs args → RepL q (ks.map (·.2)) (kw.map (·.2)) → ks.map (·.1) = kw.map (·.1) → ∃ binds, BindsTo s (fnOf name qual params body scope dV kV doc pm an cdv ct) ⟨vs, ks⟩ binds ∧ RepB q binds ps)
    (names : List Str) (hkind : (names.all fun y => scope.names.lookup y == some .local || scope.names.lookup y == some .cell) = true) (hnd : decide names.Nodup = true)
    (hco : scope.isCoroutine = false) (hgen : scope.isGenerator = false) (hk : scope.kind = .function)
    (body_ : ∀ L, XSR w n (fEnv qual scope f cdv L) (rho0 ps) body) (hps : ps.map (·.1) = names := by rfl) : FCRK w (n + 1) (.ref f) args kw := by
  have hkind : (ps.all fun y => scope.names.lookup y.1 == some .local || scope.names.lookup y.1 == some .cell) = true := by
    rw [← hps, List.all_map] at hkind; exact hkind
  have hnd : (ps.map (·.1)).Nodup := by rw [hps]; exact of_decide_eq_true hnd
  refine ⟨fun A s q base hc l R' vs ks R hfr B r rk hks BB k => ?_⟩
  obtain ⟨binds, hb, hr⟩ := hbind s q vs ks B r rk hks
  refine codeAny_frame ho hcd hb hr hkind hnd hco hgen hk R B B (Grow.refl B.sub) fun L h₁ tk _ F RR k₁ => ?_
  have hfr' := Around.frames_deeper (env := fEnv qual scope f cdv L) hfr
  refine (body_ L).run _ { s with heap := h₁, toks := tk } q s.heap q base hc l _ _ RR hfr' rfl F BB fun h' tk' x e => ?_
  refine exc_leave (s := { s with heap := h', toks := tk' }) hfr' (L := L) rfl e fun h'' e' => ?_
  exact k h'' tk' x e'

/-- what K says of a class method -/
structure CM (w : World) (C : Addr) (name : Str) (f : Addr) : Prop where
  ga : specialIn (K w.params) (.ref C) "__getattribute__" = some (some (.builtin "type.__getattribute__"))
  rd : readsIn (K w.params) C (.type "type") = true
  fd : ∃ p rest, findCls (K w.params) (.ref C) (.type "type") name = some (.get (.builtin "classmethod.__get__") (.ref p) .none (.ref C)) ∧ recIn (K w.params) p "classmethod" = some (.ref f :: rest)
  fn : fnIn (K w.params) f = true
section
variable {w : World} {n : Nat} {env : Env} {ρ : Rho}
/-- the keyword of a call -/
structure KW1 (w : World) (n : Nat) (env : Env) (ρ : Rho) (kws : List Keyword) (kw : List (Str × PV)) : Prop where
  run : ∀ pos A s q E (Q : List Value → Shared → Prop), Room n A → Ctx w env ρ s.heap q →
    (∀ h' tk q' vs, Grow s.heap q h' q' → RepL q' vs (kw.map (·.2)) → Q vs { s with heap := h', toks := tk }) → wpAny (model pw w) A (evalAll ((backToKw pos (keywordEach kws env)).map (·.2))) Q E s
  names : ∀ pos, (backToKw pos (keywordEach kws env)).filterMap (·.1) = kw.map (·.1)
  all : ∀ pos, (backToKw pos (keywordEach kws env)).all (·.1.isSome) = true
theorem kw_nil : KW1 w n env ρ [] [] := ⟨fun pos A s q E Q R C k => kwAll_nil (k s.heap s.toks q [] (.refl C.sub) .nil), fun _ => rfl, fun _ => rfl⟩
theorem kw_one {name : Str} {e : Expr} {p : Pos} {d : PV} (he : EV w n env ρ e d) : KW1 w n env ρ [⟨some name, e, p⟩] [(name, d)] :=
  ⟨fun pos A s q E Q R C k => kwAll_cons (he.run A s q E _ R C fun h1 t1 q1 v g1 r1 => kwAll_nil (k h1 t1 q1 [v] g1 (.cons r1 .nil))), fun _ => rfl, fun _ => rfl⟩
theorem cm_core {x name : Str} {np apos pos : Pos} {e : Expr} {rest : List Expr} {kws : List Keyword} {pl : Sem Bool} {C f : Addr} {ds : List PV} {kw : List (Str × PV)} (hx : EV w n env ρ (.Name x np) (.raw (.ref C))) (M : CM w C name f)
    (ha : EVs w n env ρ (e :: rest) ds) (hk : KW1 w n env ρ kws kw)
    (he : eval (.Call (.Attribute (.Name x np) name apos) (e :: rest) kws pos) env = (do
      let ov ← eval (.Name x np) env
      standAt apos.atName
      let (f, first) ← holding [ov] (getMethod ov name pl)
      callWith pos f first (backTo pos (starEach (e :: rest) env)) (backToKw pos (keywordEach kws env))))
    (hs : starEach (e :: rest) env = (false, eval e env) :: starEach rest env) (hplain : (backTo pos (starEach rest env)).any (·.1) = false)
    {A : Around} {s : Shared} {q : Gh} {E : Value → Shared → Prop} {Q : Value → Shared → Prop} (R : Room n A) (X : Ctx w env ρ s.heap q)
    (k : ∀ h1 t1 q1 vs ks, Grow s.heap q h1 q1 → RepL q1 vs (.raw (.ref C) :: ds) → RepL q1 (ks.map (·.2)) (kw.map (·.2)) → ks.map (·.1) = kw.map (·.1) →
      codeAny (model pw w) A (.call (.ref f) ⟨vs, ks⟩) (fun r s' => match r with | .ok (.ret v) => Q v s' | .ok _ => False | .error e => E e s') { s with heap := h1, toks := t1 }) :
    wpAny (model pw w) A (eval (.Call (.Attribute (.Name x np) name apos) (e :: rest) kws pos) env) Q E s := by
  obtain ⟨p, rst, hfd, hrec⟩ := M.fd
  rw [he]
  refine wpAny_bind (hx.run A s q E _ R X fun h1 t1 q1 v g1 r1 => wpAny_bind (wpAny_standAt (wpAny_bind (wpAny_holding ?_))))
  cases r1
  have X1 := X.grow g1
  refine method_cls (s := { s with heap := h1, toks := t1 }) X1.K M.ga (cls_bind (s := { s with heap := h1, toks := t1 }) X1.K M.rd hfd (wpAny_call (cm_get (s := { s with heap := h1, toks := t1 + 1 }) X1.K hrec (handed_on rfl ?_))))
  have lift : Keep h1 (h1.push (methodObj (.ref f) (.ref C))) := fun b o e => Heap.get?_push_of_some _ e
  have g2 : Grow h1 q1 (h1.push (methodObj (.ref f) (.ref C))) q1 := Grow.heap X1.sub lift
  have hm : (h1.push (methodObj (.ref f) (.ref C))).get? h1.objs.size = some (methodObj (.ref f) (.ref C)) := Heap.get?_push_size _ rfl
  have X2 := X1.grow g2
  have hnone : ((backToKw pos (keywordEach kws env)).any (·.1.isNone)) = false := by
    have := hk.all pos
    rw [List.any_eq_false]
    intro y hy
    have h2 : y.1.isSome = true := List.all_eq_true.mp this y hy
    cases hy1 : y.1 with
    | none => rw [hy1] at h2; cases h2
    | some z => simp
  dsimp only
  refine callWith_of (P := MethP (K w.params) h1.objs.size f (.ref C)) (by rw [hs]; show ((false || (backTo pos (starEach rest env)).any (·.1)) || _) = false; rw [hplain, hnone]; rfl) (keeps_M M.fn) ?_
  refine evalArgs_kw2 (hk.all pos) ?_ hs
  refine ha.run pos A _ q1 E _ R X2 fun h3 t3 q3 vs g3 r3 => ?_
  refine hk.run pos A _ q3 E _ R (X2.grow g3) fun h4 t4 q4 ks g4 r4 => ⟨⟨g4.keep _ _ (g3.keep _ _ hm), ((X2.grow g3).grow g4).K⟩, ?_⟩
  refine wpAny_call (method_call (s := { s with heap := h4, toks := t4 }) (g4.keep _ _ (g3.keep _ _ hm)) ?_)
  have hlen : ks.length = kw.length := by have := r4.length; rwa [List.length_map] at this
  have e1 : (((backToKw pos (keywordEach kws env)).filterMap (·.1)).zip ks).map (·.2) = ks := by rw [hk.names]; exact List.map_snd_zip (by rw [List.length_map]; omega)
  have e2 : (((backToKw pos (keywordEach kws env)).filterMap (·.1)).zip ks).map (·.1) = kw.map (·.1) := by rw [hk.names]; exact List.map_fst_zip (by rw [List.length_map]; omega)
  refine k h4 t4 q4 (.ref C :: ([] ++ vs)) _ (((g1.trans g2).trans g3).trans g4) (.cons (.raw _) (by rw [List.nil_append]; exact r3.mono g4.le)) (by rw [e1]; exact r4) e2
/-- a class method of the text's is called -/
theorem ev_cm {x name : Str} {np apos pos : Pos} {e : Expr} {rest : List Expr} {kws : List Keyword} {pl : Sem Bool} {C f : Addr} {ds : List PV} {kw : List (Str × PV)} {d : PV} (hx : EV w n env ρ (.Name x np) (.raw (.ref C))) (M : CM w C name f)
    (ha : EVs w n env ρ (e :: rest) ds) (hk : KW1 w n env ρ kws kw) (hF : FCK w n (.ref f) (.raw (.ref C) :: ds) kw d)
    (he : eval (.Call (.Attribute (.Name x np) name apos) (e :: rest) kws pos) env = (do
      let ov ← eval (.Name x np) env
      standAt apos.atName
      let (f, first) ← holding [ov] (getMethod ov name pl)
      callWith pos f first (backTo pos (starEach (e :: rest) env)) (backToKw pos (keywordEach kws env))) := by rfl)
    (hs : starEach (e :: rest) env = (false, eval e env) :: starEach rest env := by rfl) (hplain : (backTo pos (starEach rest env)).any (·.1) = false := by rfl) : EV w n env ρ (.Call (.Attribute (.Name x np) name apos) (e :: rest) kws pos) d := by
  refine ⟨fun A s q E Q R X k => ?_⟩
  refine cm_core hx M ha hk he hs hplain R X fun h1 t1 q1 vs ks g1 r1 r2 e2 => ?_
  exact hF.run A _ q1 _ vs ks R (X.grow g1).bs r1 r2 e2 fun h2 t2 q2 v g2 rv => k h2 t2 q2 v (g1.trans g2) rv
theorem er_cm {x name : Str} {np apos pos : Pos} {e : Expr} {rest : List Expr} {kws : List Keyword} {pl : Sem Bool} {C f : Addr} {ds : List PV} {kw : List (Str × PV)} (hx : EV w n env ρ (.Name x np) (.raw (.ref C))) (M : CM w C name f)
    (ha : EVs w n env ρ (e :: rest) ds) (hk : KW1 w n env ρ kws kw) (hF : FCRK w n (.ref f) (.raw (.ref C) :: ds) kw)
    (he : eval (.Call (.Attribute (.Name x np) name apos) (e :: rest) kws pos) env = (do
      let ov ← eval (.Name x np) env
      standAt apos.atName
      let (f, first) ← holding [ov] (getMethod ov name pl)
      callWith pos f first (backTo pos (starEach (e :: rest) env)) (backToKw pos (keywordEach kws env))) := by rfl)
    (hs : starEach (e :: rest) env = (false, eval e env) :: starEach rest env := by rfl) (hplain : (backTo pos (starEach rest env)).any (·.1) = false := by rfl) : ER w n env ρ (.Call (.Attribute (.Name x np) name apos) (e :: rest) kws pos) := by
  refine ⟨fun A s q base hc fe outer E Q R a X B k => ?_⟩
  refine cm_core hx M ha hk he hs hplain R X fun h1 t1 q1 vs ks g1 r1 r2 e2 => ?_
  exact hF.run A _ q1 base hc (fe :: outer) _ vs ks R a.frames (X.grow g1).bs r1 r2 e2 (B.keep g1.keep) fun h2 t2 y ex => k h2 t2 y ex
theorem cm_from (w : World) : CM w 903 "from_string" 883 := ⟨by kernel_rfl, by kernel_rfl, ⟨885, [.bool false], by kernel_rfl, by kernel_rfl⟩, by kernel_rfl⟩
theorem cm_elem (w : World) : CM w 903 "parse_element" 892 := ⟨by kernel_rfl, by kernel_rfl, ⟨894, [.bool false], by kernel_rfl, by kernel_rfl⟩, by kernel_rfl⟩
theorem cm_origin (w : World) : CM w 806 "from_string" 793 := ⟨by kernel_rfl, by kernel_rfl, ⟨795, [.bool false], by kernel_rfl, by kernel_rfl⟩, by kernel_rfl⟩
end
end Mine

/-! ## P43 -/
namespace Mine
section
variable {w : World} {A : Around} {E : Value → Shared → Prop} {s : Shared} {D : Addr}
noncomputable abbrev sk (w : World) : KeyKind pw w Str := PySem.strKind pw w
theorem add_exact {S : Str → Bool} {n : Nat} {x : Str} {t : Tok} {Q : Bool → Shared → Prop} (hS : s.heap.SetOf (sk w) D S n) (hn : n ≤ 10)
    (h : ∀ h' tk m, Heap.SameBut D s.heap h' → h'.SetOf (sk w) D (fun k' => S k' || decide (k' = x)) m → m ≤ n + 1 → Q (!S x) { s with heap := h', toks := tk }) : wpAny (model pw w) A (setAdd D (.str x t)) Q E s := by
  have hkey : (sk w).is x (.str x t) = true := PySem.strKind_is pw w x t
  unfold setAdd
  refine wpAny_holding (wpAny_bind ((sk w).pyHash hkey ?_))
  refine wpAny_setAddHashed_of (s := { s with toks := s.toks + 1 }) hkey rfl hS (Nat.lt_of_le_of_lt (Nat.succ_le_succ hn) (by decide)) fun h' hsb hS' => ?_
  exact h h' _ _ hsb hS' (by split <;> omega)
theorem unled_exact {S : Str → Bool} {n : Nat} {Q : Unit → Shared → Prop} (hS : s.heap.SetOf (sk w) D S n) (hn : n ≤ 10)
    (h : ∀ h' m, Heap.SameBut D s.heap h' → h'.SetOf (sk w) D S m → m ≤ n → Q () { s with heap := h' }) : wpAny (model pw w) A (setUnled D) Q E s := by
  obtain ⟨o, es, ep, t, ho, hex, hd, hel, hmem, hb, hf, hes⟩ := hS
  have hf' : ({ t with led := false } : SetTable).fits es.size = true := by cases t; exact hf
  unfold setUnled
  refine wpAny_bind (wpAny_setState_of ho hd hf ?_)
  dsimp only
  refine wpAny_storeSet_of ho hd ?_ (by rw [hes, sizeLine_eq]; omega)
  exact h _ _ (Heap.SameBut.update ..) (SetOf_store (knd := sk w) ho hex hd hel hmem hb hf').2 (by omega)
end
section
variable {w : World} {n : Nat} {env : Env} {ρ : Rho}
/-- l in {a, b, c} for three written texts -/
theorem tv_in3 {l : Expr} {x a b c : Str} {k1 k2 k3 : Nat} {p1 p2 p3 p4 pos : Pos} (hl : EV w n env ρ l (.str x)) (hc : kdsCode (K w.params) env.code = true)
    (hab : a ≠ b) (hac : a ≠ c) (hbc : b ≠ c) (hm : behindInMarks .In (.Set [.Constant (.str a) k1 p1, .Constant (.str b) k2 p2, .Constant (.str c) k3 p3] 0 p4) = true := by with_unfolding_all rfl) :
    TV w n env ρ (.Compare l [.In] [.Set [.Constant (.str a) k1 p1, .Constant (.str b) k2 p2, .Constant (.str c) k3 p3] 0 p4] pos) (decide (x = a) || decide (x = b) || decide (x = c)) := by
  refine ⟨fun A s q E Q R C k => ?_⟩
  refine kdi_test hm (hl.run A s q E _ R C fun h1 t1 q1 v g1 r1 => ?_)
  cases r1 with
  | str x tx =>
  have C1 := C.grow g1
  rw [arm_eval_Set]
  refine wpAny_bind (wpAny_standAt ?_)
  refine wpAny_bind (kds_main (s := { s with heap := h1, toks := t1 }) C1.K hc fun b0 => ?_)
  rw [kds_star _ (by rfl), List.map_map]
  refine kds_core (ts := (evalEach [.Constant (.str a) k1 p1, .Constant (.str b) k2 p2, .Constant (.str c) k3 p3] env).map fun t => do let v ← t; standAt p4; pure v) (by rfl) ?_ (by rw [List.length_map, kds_len]; simp) ?_ fun led => ?_
  · refine List.findIdx?_eq_none_iff.mpr fun x hx => ?_
    obtain ⟨t, _, rfl⟩ := List.mem_map.mp hx
    rfl
  · rw [List.map_map]; rfl
  refine kds_all p4 _ _ _ ?_
  have hD : (h1.push { cls := .type "set", dict := none, data := .set #[] 0 (.fresh 0 0 led) }).SetOf (sk w) h1.objs.size (fun _ => false) 0 :=
    ⟨_, #[], 0, _, Heap.get?_push_size _ rfl, ⟨rfl, rfl, rfl⟩, rfl, fun e he => by simp at he, fun k => by simp, by decide, by rfl, rfl⟩
  show wpAny _ _ (eval (.Constant (.str a) k1 p1) env) _ _ _
  refine wpAny_Constant_str ?_
  show wpAny _ _ (eval (.Constant (.str b) k2 p2) env) _ _ _
  refine wpAny_Constant_str ?_
  show wpAny _ _ (eval (.Constant (.str c) k3 p3) env) _ _ _
  refine wpAny_Constant_str ?_
  refine kds_fill_cons (add_exact hD (by decide) fun h2 t2 m2 s2 d2 l2 => ?_)
  refine kds_fill_cons (add_exact (s := { s with heap := h2, toks := t2 }) d2 (by omega) fun h3 t3 m3 s3 d3 l3 => ?_)
  refine kds_fill_cons (add_exact (s := { s with heap := h3, toks := t3 }) d3 (by omega) fun h4 t4 m4 s4 d4 l4 => ?_)
  refine kds_fill_unled (by rfl) (unled_exact (s := { s with heap := h4, toks := t4 }) d4 (by omega) fun h5 m5 s5 d5 l5 => ?_)
  refine kdi_mark (unled_exact (s := { s with heap := h5, toks := t4 }) d5 (by omega) fun h6 m6 s6 d6 l6 => ?_)
  refine wpAny_inSet_of (s := { s with heap := h6, toks := t4 }) (PySem.strKind_is pw w x tx) rfl d6 ?_
  refine wpAny_truthy_bool ?_
  have e : (false || decide (x = a) || decide (x = b) || decide (x = c)) = (decide (x = a) || decide (x = b) || decide (x = c)) := by simp
  rw [e]
  have keep : Keep h1 h6 := fun y o e => by
    have ne : y ≠ h1.objs.size := Nat.ne_of_lt (Heap.lt_size e)
    exact s6.extBut _ _ ne (s5.extBut _ _ ne (s4.extBut _ _ ne (s3.extBut _ _ ne (s2.extBut _ _ ne (Heap.get?_push_of_some _ e)))))
  exact k h6 _ q1 (g1.trans (Grow.heap g1.sub keep))
end
end Mine

/-! ## P44 -/
namespace Mine
/-! # Texts as lists of signs -/
noncomputable def sg (x : Str) : List Nat := x.cps.toList
theorem sg_ext {a b : Str} (h : sg a = sg b) : a = b := PySem.Str.ext' (Array.toList_inj.mp h)
theorem sg_app (a b : Str) : sg (a ++ b) = sg a ++ sg b := by unfold sg; rw [PySem.Str.cps_append, Array.toList_append]
theorem sg_len (x : Str) : x.length = (sg x).length := by unfold sg PySem.Str.length; simp
theorem sg_mk (l : List Nat) : sg ⟨l.toArray⟩ = l := rfl
theorem char_last {x : Str} {l : List Nat} {c : Nat} (h : sg x = l ++ [c]) : Txt.charAt x (-1) = some c := by
  have hl : x.length = l.length + 1 := by rw [sg_len, h]; simp
  unfold Txt.charAt
  refine StrLaws.at_neg (by decide) (by omega) ?_
  have e : ((-1 : Int) + (x.length : Int)).toNat = l.length := by omega
  rw [e]
  have : x.cps[l.length]? = x.cps.toList[l.length]? := by simp
  rw [this]
  show (sg x)[l.length]? = _
  rw [h]; simp
theorem char_first {x : Str} {l : List Nat} {c : Nat} (h : sg x = c :: l) : Txt.charAt x 0 = some c := by
  unfold Txt.charAt
  refine StrLaws.at_nonneg (by decide) ?_
  have : x.cps[(0 : Int).toNat]? = x.cps.toList[0]? := by simp
  rw [this]
  show (sg x)[0]? = _
  rw [h]; rfl
theorem item_last {x : Str} {l : List Nat} {c : Nat} (h : sg x = l ++ [c]) : Txt.item x (-1) = ⟨#[c]⟩ := by unfold Txt.item; rw [char_last h]; rfl
theorem item_first {x : Str} {l : List Nat} {c : Nat} (h : sg x = c :: l) : Txt.item x 0 = ⟨#[c]⟩ := by unfold Txt.item; rw [char_first h]; rfl
theorem slice_init {x : Str} {l : List Nat} {c : Nat} (h : sg x = l ++ [c]) : Txt.slice x none (some (-1)) = ⟨l.toArray⟩ := by
  have hl : x.length = l.length + 1 := by rw [sg_len, h]; simp
  have := StrLaws.sliceText_to_neg (x := x) (j := -1) (by decide) (by omega)
  refine Eq.trans this ?_
  have e : ((-1 : Int) + (x.length : Int) - 0).toNat = l.length := by omega
  rw [e]
  show (⟨(((sg x).drop 0).take l.length).toArray⟩ : Str) = _
  rw [h, List.drop_zero, List.take_left']
  rfl
theorem slice_mid {x : Str} {l : List Nat} {a b : Nat} (h : sg x = a :: (l ++ [b])) : Txt.slice x (some 1) (some (-1)) = ⟨l.toArray⟩ := by
  have hl : x.length = l.length + 2 := by rw [sg_len, h]; simp
  have hl' : (x.cps.toList.length : Int) = l.length + 2 := by
    have : x.cps.toList.length = x.length := by simp [PySem.Str.length]
    rw [this, hl]; push_cast; rfl
  have h1 := StrLaws.sliceText_neg_hi x (some 1) (j := -1) (by decide) (by omega)
  have h2 := StrLaws.sliceText_plain (x := x) (i := 1) (j := -1 + (x.length : Int)) ⟨by decide, by omega, by omega⟩
  refine Eq.trans (Eq.trans h1 h2) ?_
  have e : ((-1 : Int) + (x.length : Int) - 1).toNat = l.length := by omega
  rw [e]
  show (⟨(((sg x).drop 1).take l.length).toArray⟩ : Str) = _
  rw [h, List.drop_one, List.tail_cons, List.take_left']
  rfl
/-! # split after join -/
noncomputable abbrev one (c : Nat) : Str := ⟨#[c]⟩
theorem split_ne (x y : Str) : Txt.split x y ≠ [] := by
  unfold Txt.split
  split
  · intro h; cases h
  · split
    · intro h; cases h
    · intro h
      have := congrArg List.length h
      rw [length_partsBetween] at this
      simp at this
theorem free_cut {c : Nat} : ∀ {p q r s : List Nat}, c ∉ p → c ∉ q → p ++ c :: r = q ++ c :: s → p = q ∧ r = s
  | [], [], r, s, _, _, h => ⟨rfl, by simpa using h⟩
  | [], b :: q, r, s, _, hq, h => by
    simp only [List.nil_append, List.cons_append, List.cons.injEq] at h
    exact absurd (h.1 ▸ List.mem_cons_self) hq
  | a :: p, [], r, s, hp, _, h => by
    simp only [List.nil_append, List.cons_append, List.cons.injEq] at h
    exact absurd (h.1 ▸ List.mem_cons_self) hp
  | a :: p, b :: q, r, s, hp, hq, h => by
    simp only [List.cons_append, List.cons.injEq] at h
    obtain ⟨e1, e2⟩ := free_cut (fun m => hp (List.mem_cons_of_mem _ m)) (fun m => hq (List.mem_cons_of_mem _ m)) h.2
    exact ⟨by rw [h.1, e1], e2⟩
theorem join_sg (c : Nat) (x y : Str) (r : List Str) : sg (Str.join (one c) (x :: y :: r)) = sg x ++ c :: sg (Str.join (one c) (y :: r)) := by
  show sg (x ++ one c ++ Str.join (one c) (y :: r)) = _
  rw [sg_app, sg_app, List.append_assoc]
  rfl
theorem join_inj (c : Nat) : ∀ {ps qs : List Str}, ps ≠ [] → qs ≠ [] → (∀ p ∈ ps, c ∉ sg p) → (∀ q ∈ qs, c ∉ sg q) → Str.join (one c) ps = Str.join (one c) qs → ps = qs
  | [], _, h, _, _, _, _ => absurd rfl h
  | _, [], _, h, _, _, _ => absurd rfl h
  | [p], [q], _, _, _, _, h => by rw [show p = q from h]
  | [p], q :: q2 :: qs, _, _, hp, hq, h => by
    have e := congrArg sg h
    rw [join_sg] at e
    have e : sg p = sg q ++ c :: _ := e
    exact absurd (e ▸ List.mem_append_right _ List.mem_cons_self) (hp p List.mem_cons_self)
  | p :: p2 :: ps, [q], _, _, hp, hq, h => by
    have e := congrArg sg h
    rw [join_sg] at e
    have e : sg p ++ c :: _ = sg q := e
    exact absurd (e ▸ List.mem_append_right _ List.mem_cons_self) (hq q List.mem_cons_self)
  | p :: p2 :: ps, q :: q2 :: qs, _, _, hp, hq, h => by
    have e := congrArg sg h
    rw [join_sg, join_sg] at e
    obtain ⟨e1, e2⟩ := free_cut (hp p List.mem_cons_self) (hq q List.mem_cons_self) e
    rw [sg_ext e1, join_inj c (by intro h; cases h) (by intro h; cases h) (fun x hx => hp x (List.mem_cons_of_mem _ hx)) (fun x hx => hq x (List.mem_cons_of_mem _ hx)) (sg_ext e2)]
theorem split_join {c : Nat} {ws : List Str} (hne : ws ≠ []) (hf : ∀ p ∈ ws, c ∉ sg p) : Txt.split (Txt.join (one c) ws) (one c) = ws := by
  refine join_inj c (split_ne _ _) hne (StrLaws.split_free _ c) hf ?_
  have h1 := StrLaws.join_split (Txt.join (one c) ws) (one c)
  rw [h1]
  exact StrLaws.glued_eq_join _ _
/-! # Words -/
noncomputable def digs (i : Int) : List Nat := sg (dec i)
theorem digs_eq (m : Nat) : digs (m : Int) = (Nat.toDigits 10 m).map Char.toNat := KIN.signs_num m
theorem digs_range {i : Int} (h : 0 ≤ i) : ∀ c ∈ digs i, 48 ≤ c ∧ c ≤ 57 := by
  obtain ⟨m, rfl⟩ := Int.eq_ofNat_of_zero_le h
  intro c hc
  rw [digs_eq] at hc
  obtain ⟨ch, hch, e⟩ := List.mem_map.mp hc
  have r := digit_range (Nat.isDigit_of_mem_toDigits (by decide) (by decide) hch)
  rw [← e]
  exact r
theorem digs_ne {i : Int} (h : 0 ≤ i) : digs i ≠ [] := by
  obtain ⟨m, rfl⟩ := Int.eq_ofNat_of_zero_le h
  rw [digs_eq]
  intro e
  have h := toDigits_len_ge 10 m
  rw [List.map_eq_nil_iff.mp e] at h
  exact absurd h (by decide)
/-- the signs of a word -/
theorem sg_word {i : Int} {mark : Str} : sg (word i mark) = if i < HARD then digs i else digs (i - HARD) ++ sg mark := by
  unfold word
  split
  · rfl
  · rw [sg_app]; rfl
theorem word_range {i : Int} {mark : Str} (h : 0 ≤ i) : ∀ c ∈ sg (word i mark), (48 ≤ c ∧ c ≤ 57) ∨ c ∈ sg mark := by
  intro c hc
  rw [sg_word] at hc
  split at hc
  · exact .inl (digs_range h c hc)
  · rename_i hh
    rcases List.mem_append.mp hc with hc | hc
    · exact .inl (digs_range (by omega) c hc)
    · exact .inr hc
end Mine

/-! ## P45 -/
namespace Mine
section
variable {w : World} {n : Nat} {env : Env} {ρ : Rho}
theorem fmt_set {d : Str} (hd : d.length ≤ 100000) : Gives2 w n (binaryOp .Mod) (.str "Set is not allowed in derivation %s") (.str d) (.str ("Set is not allowed in derivation " ++ d)) := by
  refine ⟨fun A s q E Q va vb R sub ra rb k => ?_⟩
  cases ra; cases rb
  refine' KPc.mod_str (T := fun i => Str.ofString "Set is not allowed in derivation " ++ i) ?a (by omega) ?m ?_
  case a => kpc_eq
  case m => k_dflt kpc_run_s
  intro t' kk
  exact k s.heap kk q _ (.refl sub) (.str _ _)
theorem fmt_hard {d : Str} (hd : d.length ≤ 100000) : Gives2 w n (binaryOp .Mod) (.str "Hardened derivation is not allowed in %s") (.str d) (.str ("Hardened derivation is not allowed in " ++ d)) := by
  refine ⟨fun A s q E Q va vb R sub ra rb k => ?_⟩
  cases ra; cases rb
  refine' KPc.mod_str (T := fun i => Str.ofString "Hardened derivation is not allowed in " ++ i) ?a (by omega) ?m ?_
  case a => kpc_eq
  case m => k_dflt kpc_run_s
  intro t' kk
  exact k s.heap kk q _ (.refl sub) (.str _ _)
theorem fmt_range {i : Int} (h0 : 0 ≤ i) (h1 : i < 10 ^ 10) : Gives2 w n (binaryOp .Mod) (.str "Derivation index can be in a range [0, %d)") (.int i) (.str ("Derivation index can be in a range [0, " ++ dec i ++ ")")) := by
  refine ⟨fun A s q E Q va vb R sub ra rb k => ?_⟩
  cases ra; cases rb
  refine' KPc.mod_int (T := fun i => Str.ofString "Derivation index can be in a range [0, " ++ Str.ofString (toString i) ++ Str.ofString ")") ?a h0 h1 ?m ?_
  case a => kpc_eq
  case m => k_dflt kpc_run
  intro t' kk
  exact k s.heap kk q _ (.refl sub) (.str _ _)
/-- int of a written number -/
theorem int_text_ {i : Int} (h0 : 0 ≤ i) (h1 : i < 10 ^ 10) : FN w n (.type "int") [.str (dec i)] [] (.int i) := by
  refine ⟨fun A s q E Q vs ks R B r rk hks k => ?_⟩
  have : ks = [] := by cases ks with | nil => rfl | cons a b => cases hks
  subst this
  cases r with
  | cons h r => cases r with
    | nil => cases h; exact KIN.call_num h0 h1 (k s.heap _ q _ (.refl B.sub) (.int _ _))
/-- a call that gives a fresh list -/
structure FNO (w : World) (n : Nat) (f : Value) (args : List PV) (ds : List PV) : Prop where
  run : ∀ A s q E Q vs, Room n A → Bs w s.heap q → RepL q vs args →
    (∀ h' tk q' a us m, Grow s.heap q h' q' → h'.get? a = some (listOf us.toArray m) → RepL q' us ds → s.heap.get? a = none → q' a = none → Q (.ref a) { s with heap := h', toks := tk }) → wpAny (model pw w) A (call f vs []) Q E s
theorem evo_meth {o : Expr} {name : Str} {apos pos : Pos} {e : Expr} {rest : List Expr} {pl : Sem Bool} {a : PV} {ds us : List PV} {id : String} (ho : EV w n env ρ o a) (hm : GetM w n a name id) (ha : EVs w n env ρ (e :: rest) ds) (hf : FNO w n (.builtin id) (a :: ds) us)
    (he : eval (.Call (.Attribute o name apos) (e :: rest) [] pos) env = (do
      let ov ← eval o env
      standAt apos.atName
      let (f, first) ← holding [ov] (getMethod ov name pl)
      callWith pos f first (backTo pos (starEach (e :: rest) env)) []) := by rfl)
    (hs : starEach (e :: rest) env = (false, eval e env) :: starEach rest env := by rfl) (hplain : (backTo pos (starEach rest env)).any (·.1) = false := by rfl) : EVO w n env ρ (.Call (.Attribute o name apos) (e :: rest) [] pos) us := by
  refine ⟨fun A s q E Q R C k => ?_⟩
  refine MethodCall_ (ho.run A s q E _ R C fun h1 t1 q1 v g1 r1 => ?_) he
  refine hm.run A _ q1 E _ v pl R g1.sub r1 ?_
  refine callWith_method1 (ha.run pos A _ q1 E _ R (C.grow g1) fun h2 t2 q2 vs g2 r2 => ?_) hs hplain
  refine hf.run A _ q2 E _ (v :: vs) R ((C.grow g1).grow g2).bs (.cons (r1.mono g2.le) r2) fun h3 t3 q3 a us m g3 ho r3 hn hq => k h3 t3 q3 a us m (g1.trans (g2.trans g3)) ho r3 ?_ hq
  cases z : s.heap.get? a with
  | none => rfl
  | some o => rw [g2.keep _ _ (g1.keep _ _ z)] at hn; cases hn
theorem strs_rep {q : Gh} : ∀ (tk : Nat) (xs : List Str), RepL q (strsFrom tk xs) (xs.map .str)
  | _, [] => .nil
  | tk, x :: r => .cons (.str x tk) (strs_rep (tk + 1) r)
theorem get_split {x : Str} : GetM w n (.str x) "split" "str.split" := ⟨fun A s q E Q va pl R sub r k => by cases r; exact PySem.GM.split k⟩
/-- x.split(y) -/
theorem split_ {x y : Str} (hy : (y.length == 0) = false) (hx : x.length ≤ 100000) (hn : (Txt.split x y).length ≤ 100000) : FNO w n (.builtin "str.split") [.str x, .str y] ((Txt.split x y).map .str) := by
  refine ⟨fun A s q E Q vs R B r k => ?_⟩
  have pushed : ∀ (h : Heap) (us : List Value), (∀ b o, q b = some o → h.get? b = some o) → Grow h q (h.push (listOf us.toArray 0)) q ∧ (h.push (listOf us.toArray 0)).get? h.objs.size = some (listOf us.toArray 0) ∧ h.get? h.objs.size = none ∧ q h.objs.size = none := fun h us sub => by
    refine ⟨Grow.heap sub fun b o e => Heap.get?_push_of_some _ e, Heap.get?_push_size _ rfl, get_size_none _, ?_⟩
    cases z : q h.objs.size with
    | none => rfl
    | some o => exact absurd (Heap.lt_size (sub _ _ z)) (Nat.lt_irrefl _)
  cases r with
  | cons h1 r => cases r with
    | cons h2 r => cases r with
      | nil =>
        cases h1 with
        | str x t => cases h2 with
          | str y u =>
            cases hc : (decide (x.length < y.length) || decide (Builtin.Str.strKind x < Builtin.Str.strKind y))
            · cases hf : (Builtin.Str.occurrences x y 0 x.length (x.length + 1)).isEmpty
              · have e : Txt.split x y = Builtin.Str.partsBetween x (Builtin.Str.occurrences x y 0 x.length (x.length + 1)) y.length := by
                  unfold Txt.split; rw [if_neg (by rw [hc]; decide), if_neg (by rw [hf]; decide)]
                rw [e] at hn k
                refine call_meets PySem.F.slot_str_split (typeIs_str _ _ _) PySem.F.entry_str_split (PySem.F.args_str_split_2 _ _) (meets_str_split_sep x y t u hc hy hf (by rw [sizeLine_eq]; omega) (by rw [sizeLine_eq]; omega)) ?_
                obtain ⟨p1, p2, p3, p4⟩ := pushed s.heap (strsFrom s.toks (Builtin.Str.partsBetween x (Builtin.Str.occurrences x y 0 x.length (x.length + 1)) y.length)) B.sub
                exact k _ _ q _ _ 0 p1 p2 (strs_rep _ _) p3 p4
              · have e : Txt.split x y = [x] := by unfold Txt.split; rw [if_neg (by rw [hc]; decide), if_pos hf]
                rw [e] at k
                obtain ⟨p1, p2, p3, p4⟩ := pushed s.heap [.str x t] B.sub
                exact call_meets PySem.F.slot_str_split (typeIs_str _ _ _) PySem.F.entry_str_split (PySem.F.args_str_split_2 _ _) (meets_str_split_not_found x y t u hc hy hf) (k _ s.toks q _ _ 0 p1 p2 (.cons (.str x t) .nil) p3 p4)
            · have e : Txt.split x y = [x] := by unfold Txt.split; rw [if_pos hc]
              rw [e] at k
              obtain ⟨p1, p2, p3, p4⟩ := pushed s.heap [.str x t] B.sub
              exact call_meets PySem.F.slot_str_split (typeIs_str _ _ _) PySem.F.entry_str_split (PySem.F.args_str_split_2 _ _) (meets_str_split_cannot_occur x y t u hc) (k _ s.toks q _ _ 0 p1 p2 (.cons (.str x t) .nil) p3 p4)
theorem dat_str {x : Str} (h : PyData.strOk x = true) : Dat (.str x) := ⟨rfl, by simp [toD, PyData.canLay0, h], by simp [toD, PyData.depth]⟩
theorem dat_strs : ∀ {xs : List Str}, (∀ x ∈ xs, PyData.strOk x = true) → isDs (xs.map .str) = true ∧ PyData.canLayAll0 (toDs (xs.map .str)) = true ∧ PyData.depthAll (toDs (xs.map .str)) = 0
  | [], _ => ⟨rfl, rfl, rfl⟩
  | x :: r, h => by
    obtain ⟨a, b, c⟩ := dat_strs (xs := r) fun y hy => h y (List.mem_cons_of_mem _ hy)
    refine ⟨by simp [isDs, isD, a], by simp [toDs, toD, PyData.canLayAll0, PyData.canLay0, b, h x List.mem_cons_self], by simp [toDs, toD, PyData.depthAll, PyData.depth, c]⟩
theorem dat_strl {xs : List Str} (h : ∀ x ∈ xs, PyData.strOk x = true) : Dat (.list (xs.map .str)) := by
  obtain ⟨a, b, c⟩ := dat_strs h
  exact ⟨by simp [isD, a], by simp [toD, PyData.canLay0, b], by simp [toD, PyData.depth, c]⟩
theorem any_strs {xs : List Str} {x : Str} : ((toDs (xs.map .str)).any fun y => PyData.eqv y (toD (.str x))) = xs.any fun y => y == x := by
  induction xs with
  | nil => rfl
  | cons a r ih =>
    rw [List.any_cons, ← ih]
    show (PyData.eqv (toD (.str a)) (toD (.str x)) || _) = _
    simp only [toD, PyData.eqv]
end
end Mine

/-! ## P46 -/
namespace Mine
section
variable {w : World} {n : Nat} {env : Env} {ρ : Rho}
theorem tv_star {x : Str} {p1 p2 p3 : Pos} {k : Nat} (hx : ρ "d" = some (.pers (.str x))) : TV w n env ρ (.Compare (.Name "d" p1) [.Eq] [.Constant (.str "*") k p2] p3) (x == "*") := tv_cmp (ev_name hx) ev_str cmp_eq_str
theorem ev_first {x : Str} {f : Nat} {l : List Nat} {p1 p2 p3 : Pos} {k : Nat} {y : Str} (hx : ρ y = some (.pers (.str x))) (hd : (y == ("__debug__" : Str)) = false) (h : sg x = f :: l) : EV w n env ρ (.Subscript (.Name y p1) (.Constant (.int 0) k p2) p3) (.str (one f)) :=
  (ev_char (ev_name hx hd) ev_int (by decide) (by rw [char_first h]; rfl)).eq (by rw [item_first h])
theorem ev_last {x : Str} {f : Nat} {l : List Nat} {p1 p2 p3 p4 : Pos} {k : Nat} {y : Str} (hx : ρ y = some (.pers (.str x))) (hd : (y == ("__debug__" : Str)) = false) (h : sg x = l ++ [f]) : EV w n env ρ (.Subscript (.Name y p1) (.UnaryOp .USub (.Constant (.int 1) k p2) p3) p4) (.str (one f)) :=
  (ev_char (ev_name hx hd) (ev_neg ev_int) (by decide) (by rw [char_last h]; rfl)).eq (by rw [item_last h])
theorem tv_open {x a b : Str} {f g : Nat} {l r : List Nat} {p1 p2 p3 p4 p5 p6 p7 p8 p9 p10 p11 p12 : Pos} {k1 k2 k3 k4 : Nat} (hx : ρ "d" = some (.pers (.str x))) (h1 : sg x = f :: l) (h2 : sg x = r ++ [g]) :
    TV w n env ρ (.BoolOp .And [.Compare (.Subscript (.Name "d" p1) (.Constant (.int 0) k1 p2) p3) [.Eq] [.Constant (.str a) k2 p4] p5, .Compare (.Subscript (.Name "d" p6) (.UnaryOp .USub (.Constant (.int 1) k3 p7) p8) p9) [.Eq] [.Constant (.str b) k4 p10] p11] p12) ((one f == a) && (one g == b)) :=
  (tv_and (tv_cmp (ev_first hx (by decide) h1) ev_str cmp_eq_str) fun _ => tv_and (tv_cmp (ev_last hx (by decide) h2) ev_str cmp_eq_str) fun _ => tv_and_nil).eq (by simp)
noncomputable def isMark (f : Nat) : Bool := f == 104 || f == 72 || f == 39
theorem one_beq (a b : Nat) : (one a == one b) = (a == b) := by
  by_cases h : a = b
  · subst h; simp
  · rw [show (a == b) = false from beq_eq_false_iff_ne.mpr h]
    refine beq_eq_false_iff_ne.mpr fun e => h ?_
    have := congrArg sg e
    simpa [sg] using this
theorem strOk_one {f : Nat} (h : f < 0x110000) : PyData.strOk (one f) = true := by simp [PyData.strOk, h]
theorem tv_marks {x : Str} {g : Nat} {r : List Nat} {p1 p2 p3 p4 p5 p6 p7 p8 p9 : Pos} {k1 k2 k3 k4 : Nat} (hx : ρ "d" = some (.pers (.str x))) (h2 : sg x = r ++ [g]) (hg : g < 1000) :
    TV w n env ρ (.Compare (.Subscript (.Name "d" p1) (.UnaryOp .USub (.Constant (.int 1) k1 p2) p3) p4) [.In] [.List [.Constant (.str "h") k2 p5, .Constant (.str "H") k3 p6, .Constant (.str "'") k4 p7] p8] p9) (isMark g) := by
  have hl : Dat (.list (([Str.ofString "h", Str.ofString "H", Str.ofString "'"] : List Str).map .str)) := dat_strl (by decide +kernel)
  refine (tv_cmp (ev_last hx (by decide) h2) (EVO.ev (evo_list (ds := ([Str.ofString "h", Str.ofString "H", Str.ofString "'"] : List Str).map .str) (evs_cons ev_str (evs_cons ev_str (evs_cons ev_str evs_nil))) (by decide))) (cmp_in (dat_str (strOk_one (by omega))) hl) (by rfl)).eq ?_
  rw [any_strs]
  show ((one 104 == one g) || ((one 72 == one g) || ((one 39 == one g) || false))) = _
  rw [one_beq, one_beq, one_beq]
  unfold isMark
  rw [Bool.or_false, ← Bool.or_assoc]
  simp only [BEq.comm (a := g)]
end
/-! # parse_element on numbers -/
noncomputable def ntext (i : Int) : Option Nat → Str
  | none => dec i
  | some c => dec i ++ one c
theorem sg_ntext (i : Int) (m : Option Nat) : sg (ntext i m) = digs i ++ m.toList := by
  cases m with
  | none => show digs i = _; simp
  | some c => show sg (dec i ++ one c) = _; rw [sg_app]; rfl
structure NT (i : Int) (m : Option Nat) : Prop where
  lo : 0 ≤ i
  hi : i < 10 ^ 10
  mrk : ∀ c, m = some c → isMark c = true
theorem NT.first {i : Int} {m : Option Nat} (h : NT i m) : ∃ f l, sg (ntext i m) = f :: l ∧ 48 ≤ f ∧ f ≤ 57 := by
  have hne := digs_ne h.lo
  have hr := digs_range h.lo
  rw [sg_ntext]
  cases hd : digs i with
  | nil => exact absurd hd hne
  | cons f l => exact ⟨f, l ++ m.toList, rfl, hr f (by rw [hd]; exact List.mem_cons_self)⟩
theorem NT.last {i : Int} {m : Option Nat} (h : NT i m) : ∃ g r, sg (ntext i m) = r ++ [g] ∧ g < 1000 ∧ isMark g = m.isSome ∧ (g ≠ 125 ∧ g ≠ 62) ∧ (∀ c, m = some c → r = digs i) := by
  rw [sg_ntext]
  cases m with
  | none =>
    have hne := digs_ne h.lo
    have e := List.dropLast_concat_getLast hne
    have hr := digs_range h.lo _ (List.getLast_mem hne)
    refine ⟨(digs i).getLast hne, (digs i).dropLast, by rw [Option.toList_none, List.append_nil, e], by omega, ?_, by omega, fun c h => by cases h⟩
    unfold isMark
    simp only [Option.isSome_none, Bool.or_eq_false_iff, beq_eq_false_iff_ne]
    omega
  | some c =>
    have hc := h.mrk c rfl
    have hc' : c = 104 ∨ c = 72 ∨ c = 39 := by simpa [isMark, or_assoc] using hc
    exact ⟨c, digs i, rfl, by omega, hc, by omega, fun _ _ => rfl⟩
theorem one_ne {f : Nat} {c : Nat} (h : f ≠ c) : (one f == one c) = false := by rw [one_beq]; exact beq_eq_false_iff_ne.mpr h
theorem first_ne {x : Str} {f : Nat} {l : List Nat} {c : Nat} (h : sg x = f :: l) (hc : f ≠ c) : (x == one c) = false := by
  refine beq_eq_false_iff_ne.mpr fun e => hc ?_
  have := congrArg sg e
  rw [h] at this
  have h2 : f :: l = [c] := this
  exact (List.cons.inj h2).1
noncomputable abbrev rPE (x : Str) (ah as : Bool) : Rho := rho0 [("cls", .raw (.ref 903)), ("d", .str x), ("allow_hardened", .bool ah), ("allow_set", .bool as)]
noncomputable abbrev ePE (L : Addr) : Env := fEnv "AllowedDerivation.parse_element" S892 892 (.ref 891) L
theorem ntext_len {i : Int} {m : Option Nat} (h : NT i m) : (ntext i m).length ≤ 20 := by
  have h1 := dec_len (i := i) (by have := h.lo; have := h.hi; omega)
  cases m with
  | none => show (dec i).length ≤ 20; omega
  | some c => show (dec i ++ one c).length ≤ 20; rw [PySem.Str.length_append]; have : (one c).length = 1 := rfl; omega
section
variable {w : World} {n : Nat}
/-- a number's text is read -/
theorem pe_num {L : Addr} {i : Int} {m : Option Nat} {ah as : Bool} (h : NT i m) (hi : i < HARD) (hm : m.isSome = true → ah = true) : XS w n (ePE L) (rPE (ntext i m) ah as) B892 (.ret (.int ((if m.isSome then HARD else 0) + i))) := by
  obtain ⟨f, l, h1, f1, f2⟩ := h.first
  obtain ⟨g, r, h2, hg, hmk, ⟨hg1, hg2⟩, hr⟩ := h.last
  have hlen := ntext_len h
  refine xs_cons (x_ifF ((tv_star rfl).eq (first_ne h1 (c := 42) (by omega))) xs_nil) ?_
  refine xs_cons (x_ifF ((tv_open rfl h1 h2).eq (by rw [show (one f == Str.ofString "{") = false from one_ne (c := 123) (by omega)]; rfl)) xs_nil) ?_
  refine xs_cons (x_ifF ((tv_open rfl h1 h2).eq (by rw [show (one f == Str.ofString "<") = false from one_ne (c := 60) (by omega)]; rfl)) xs_nil) ?_
  refine xs_cons (x_assign (ev_int (i := 0)) rfl) ?_
  cases m with
  | none =>
    refine xs_cons (x_ifF ((tv_marks rfl h2 hg).eq (by rw [hmk]; rfl)) xs_nil) ?_
    refine xs_cons (x_assign (ev_callT (g_int rfl) (evs_cons (ev_name (d := .str (dec i)) rfl) evs_nil) (int_text_ h.lo h.hi)) rfl) ?_
    refine xs_cons (x_ifF ((tv_or (c := false) (tv_cmp (a := .int i) (ev_name rfl) ev_int cmp_lt_int) fun _ => (tv_or (c := false) (tv_cmp (a := .int i) (ev_name rfl) (g_hard rfl) cmp_ge_int) fun _ => tv_or_nil).eq ?_).eq ?_) xs_nil) ?_
    · simpa using hi
    · simpa using h.lo
    · exact xs_one (x_return (ev_bin (ev_name rfl) (ev_name rfl) op_add_int))
  | some c =>
    have hah : ah = true := hm rfl
    subst hah
    have hr' := hr c rfl
    have hdec : (⟨r.toArray⟩ : Str) = dec i := sg_ext (by rw [sg_mk, hr']; rfl)
    refine xs_cons (x_ifT ((tv_marks rfl h2 hg).eq (by rw [hmk]; rfl)) (xs_cons (x_ifF (tv_not (b := true) (tv_plain (ev_name rfl) truth_bool)) xs_nil)
      (xs_cons (x_assign (g_hard rfl) rfl) (xs_one (x_assign ((ev_slice (ev_name (d := .str (ntext i (some c))) rfl) ep_none (ep_some (ev_neg ev_int)) (by rw [sizeLine_eq]; omega)).eq (by rw [slice_init h2, hdec])) rfl))))) ?_
    refine xs_cons (x_assign (ev_callT (g_int rfl) (evs_cons (ev_name (d := .str (dec i)) rfl) evs_nil) (int_text_ h.lo h.hi)) rfl) ?_
    refine xs_cons (x_ifF ((tv_or (c := false) (tv_cmp (a := .int i) (ev_name rfl) ev_int cmp_lt_int) fun _ => (tv_or (c := false) (tv_cmp (a := .int i) (ev_name rfl) (g_hard rfl) cmp_ge_int) fun _ => tv_or_nil).eq ?_).eq ?_) xs_nil) ?_
    · simpa using hi
    · simpa using h.lo
    · exact xs_one (x_return (ev_bin (ev_name rfl) (ev_name rfl) op_add_int))
end
end Mine

/-! ## P47 -/
namespace Mine
section
variable {w : World} {n : Nat}
/-- a number's text is refused: hardened ones not let, or too great -/
theorem pe_numR {L : Addr} {i : Int} {m : Option Nat} {ah as : Bool} (h : NT i m) (hbad : (m.isSome = true ∧ ah = false) ∨ HARD ≤ i) : XSR w n (ePE L) (rPE (ntext i m) ah as) B892 := by
  obtain ⟨f, l, h1, f1, f2⟩ := h.first
  obtain ⟨g, r, h2, hg, hmk, ⟨hg1, hg2⟩, hr⟩ := h.last
  have hlen := ntext_len h
  refine xsr_cons (x_ifF ((tv_star rfl).eq (first_ne h1 (c := 42) (by omega))) xs_nil) ?_
  refine xsr_cons (x_ifF ((tv_open rfl h1 h2).eq (by rw [show (one f == Str.ofString "{") = false from one_ne (c := 123) (by omega)]; rfl)) xs_nil) ?_
  refine xsr_cons (x_ifF ((tv_open rfl h1 h2).eq (by rw [show (one f == Str.ofString "<") = false from one_ne (c := 60) (by omega)]; rfl)) xs_nil) ?_
  refine xsr_cons (x_assign (ev_int (i := 0)) rfl) ?_
  have hrange : ∀ ρ, ρ "i" = some (.pers (.int i)) → HARD ≤ i → ∀ {p1 p2 p3 p4 p5 p6 p7 : Pos} {k : Nat}, TV w n (ePE L) ρ (.BoolOp .Or [.Compare (.Name "i" p1) [.Lt] [.Constant (.int 0) k p2] p3, .Compare (.Name "i" p4) [.GtE] [.Name "HARDENED_INDEX" p5] p6] p7) true := by
    intro ρ hx hi p1 p2 p3 p4 p5 p6 p7 k
    refine (tv_or (c := true) (tv_cmp (a := .int i) (ev_name hx) ev_int cmp_lt_int) fun _ => (tv_or (c := false) (tv_cmp (a := .int i) (ev_name hx) (g_hard rfl) cmp_ge_int) fun _ => tv_or_nil).eq ?_).eq ?_
    · simpa using hi
    · simp
  cases m with
  | none =>
    have hi : HARD ≤ i := by rcases hbad with ⟨e, _⟩ | h; cases e; exact h
    refine xsr_cons (x_ifF ((tv_marks rfl h2 hg).eq (by rw [hmk]; rfl)) xs_nil) ?_
    refine xsr_cons (x_assign (ev_callT (g_int rfl) (evs_cons (ev_name (d := .str (dec i)) rfl) evs_nil) (int_text_ h.lo h.hi)) rfl) ?_
    exact xsr_here (xr_ifT (hrange _ rfl hi) (xsr_here (xr_raise (ev_bin ev_str (g_hard rfl) (fmt_range (by decide) (by decide))))))
  | some c =>
    cases ah with
    | false =>
      exact xsr_here (xr_ifT ((tv_marks rfl h2 hg).eq (by rw [hmk]; rfl)) (xsr_here (xr_ifT (tv_not (b := false) (tv_plain (ev_name rfl) truth_bool)) (xsr_here (xr_raise (ev_bin ev_str (ev_name (d := .str (ntext i (some c))) rfl) (fmt_hard (by omega))))))))
    | true =>
      have hi : HARD ≤ i := by rcases hbad with ⟨_, e⟩ | h; cases e; exact h
      have hr' := hr c rfl
      have hdec : (⟨r.toArray⟩ : Str) = dec i := sg_ext (by rw [sg_mk, hr']; rfl)
      refine xsr_cons (x_ifT ((tv_marks rfl h2 hg).eq (by rw [hmk]; rfl)) (xs_cons (x_ifF (tv_not (b := true) (tv_plain (ev_name rfl) truth_bool)) xs_nil)
        (xs_cons (x_assign (g_hard rfl) rfl) (xs_one (x_assign ((ev_slice (ev_name (d := .str (ntext i (some c))) rfl) ep_none (ep_some (ev_neg ev_int)) (by rw [sizeLine_eq]; omega)).eq (by rw [slice_init h2, hdec])) rfl))))) ?_
      refine xsr_cons (x_assign (ev_callT (g_int rfl) (evs_cons (ev_name (d := .str (dec i)) rfl) evs_nil) (int_text_ h.lo h.hi)) rfl) ?_
      exact xsr_here (xr_ifT (hrange _ rfl hi) (xsr_here (xr_raise (ev_bin ev_str (g_hard rfl) (fmt_range (by decide) (by decide))))))
theorem bind_pe4 {x : Str} {ah as : Bool} (s : Shared) (q : Gh) (vs : List Value) (ks : List (Str × Value)) (B : Bs w s.heap q) (r : RepL q vs [.raw (.ref 903), .str x, .bool ah, .bool as]) (rk : RepL q (ks.map (·.2)) (([] : List (Str × PV)).map (·.2))) (hk : ks.map (·.1) = ([] : List (Str × PV)).map (·.1)) :
    ∃ binds, BindsTo s (fnOf "parse_element" "AllowedDerivation.parse_element" A892 B892 S892 (.ref 887) .none .none (.str (Str.ofString "embit.descriptor.arguments") 1167) (some 895) (.ref 891) .none) ⟨vs, ks⟩ binds ∧ RepB q binds [("cls", .raw (.ref 903)), ("d", .str x), ("allow_hardened", .bool ah), ("allow_set", .bool as)] := by
  have : ks = [] := by cases ks with | nil => rfl | cons a b => cases hk
  subst this
  cases r with
  | cons h1 r => cases r with
    | cons h2 r => cases r with
      | cons h3 r => cases r with
        | cons h4 r => cases r with
          | nil => exact ⟨_, binds_K B.K rfl (by rfl) rfl rfl rfl, .cons h1 (.cons h2 (.cons h3 (.cons h4 .nil)))⟩
theorem bind_pe3 {x : Str} {ah as : Bool} (s : Shared) (q : Gh) (vs : List Value) (ks : List (Str × Value)) (B : Bs w s.heap q) (r : RepL q vs [.raw (.ref 903), .str x, .bool ah]) (rk : RepL q (ks.map (·.2)) (([("allow_set", .bool as)] : List (Str × PV)).map (·.2))) (hk : ks.map (·.1) = ([("allow_set", .bool as)] : List (Str × PV)).map (·.1)) :
    ∃ binds, BindsTo s (fnOf "parse_element" "AllowedDerivation.parse_element" A892 B892 S892 (.ref 887) .none .none (.str (Str.ofString "embit.descriptor.arguments") 1167) (some 895) (.ref 891) .none) ⟨vs, ks⟩ binds ∧ RepB q binds [("cls", .raw (.ref 903)), ("d", .str x), ("allow_hardened", .bool ah), ("allow_set", .bool as)] := by
  cases ks with
  | nil => cases hk
  | cons a ks => cases ks with
    | cons b c => have := congrArg List.length hk; simp at this
    | nil =>
      obtain ⟨nm, v⟩ := a
      have hn : nm = "allow_set" := by simpa using hk
      subst hn
      cases rk with
      | cons hk _ =>
        cases r with
        | cons h1 r => cases r with
          | cons h2 r => cases r with
            | cons h3 r => cases r with
              | nil => exact ⟨_, binds_K B.K rfl (by rfl) rfl rfl rfl, .cons h1 (.cons h2 (.cons h3 (.cons hk .nil)))⟩
theorem pe4 {x : Str} {ah as : Bool} {d : PV} (h : ∀ L, XS w n (ePE L) (rPE x ah as) B892 (.ret d)) : FCK w (n + 1) (.ref 892) [.raw (.ref 903), .str x, .bool ah, .bool as] [] d :=
  fck_intro (out := .ret d) (f := 892) (by rfl) (by rfl) bind_pe4 ["cls", "d", "allow_hardened", "allow_set"] (by rfl) (by decide) rfl rfl rfl h rfl
theorem pe3 {x : Str} {ah as : Bool} {d : PV} (h : ∀ L, XS w n (ePE L) (rPE x ah as) B892 (.ret d)) : FCK w (n + 1) (.ref 892) [.raw (.ref 903), .str x, .bool ah] [("allow_set", .bool as)] d :=
  fck_intro (out := .ret d) (f := 892) (by rfl) (by rfl) bind_pe3 ["cls", "d", "allow_hardened", "allow_set"] (by rfl) (by decide) rfl rfl rfl h rfl
theorem pe4R {x : Str} {ah as : Bool} (h : ∀ L, XSR w n (ePE L) (rPE x ah as) B892) : FCRK w (n + 1) (.ref 892) [.raw (.ref 903), .str x, .bool ah, .bool as] [] :=
  fcrk_intro (f := 892) (by rfl) (by rfl) bind_pe4 ["cls", "d", "allow_hardened", "allow_set"] (by rfl) (by decide) rfl rfl rfl h
theorem pe3R {x : Str} {ah as : Bool} (h : ∀ L, XSR w n (ePE L) (rPE x ah as) B892) : FCRK w (n + 1) (.ref 892) [.raw (.ref 903), .str x, .bool ah] [("allow_set", .bool as)] :=
  fcrk_intro (f := 892) (by rfl) (by rfl) bind_pe3 ["cls", "d", "allow_hardened", "allow_set"] (by rfl) (by decide) rfl rfl rfl h
theorem pe_star {L : Addr} {ah as : Bool} : XS w n (ePE L) (rPE "*" ah as) B892 (.ret .none) := xs_ret (x_ifT ((tv_star rfl).eq (by rfl)) (xs_one (x_return ev_none)))
end
/-- a word as a number's text -/
theorem word_nt {i : Int} {c : Nat} (h0 : 0 ≤ i) (h1 : i < 2 * HARD) (hc : isMark c = true) : word i (one c) = ntext (if i < HARD then i else i - HARD) (if i < HARD then none else some c) ∧ NT (if i < HARD then i else i - HARD) (if i < HARD then none else some c) ∧ (if i < HARD then i else i - HARD) < HARD := by
  unfold word
  unfold HARD at *
  by_cases h : i < 2147483648
  · simp only [if_pos h]
    exact ⟨rfl, ⟨h0, by omega, fun c h => by cases h⟩, h⟩
  · simp only [if_neg h]
    exact ⟨rfl, ⟨by omega, by omega, fun d e => by cases e; exact hc⟩, by omega⟩
section
variable {w : World} {n : Nat}
theorem pe_word {L : Addr} {i : Int} {c : Nat} {ah as : Bool} (h0 : 0 ≤ i) (h1 : i < 2 * HARD) (hc : isMark c = true) (ha : HARD ≤ i → ah = true) : XS w n (ePE L) (rPE (word i (one c)) ah as) B892 (.ret (.int i)) := by
  obtain ⟨e, nt, hl⟩ := word_nt h0 h1 hc
  rw [e]
  have := pe_num (w := w) (n := n) (L := L) (as := as) (ah := ah) nt hl (fun h => ha (by
    by_cases hh : i < HARD
    · rw [if_pos hh] at h; cases h
    · omega))
  have e2 : (if (if i < HARD then none else some c : Option Nat).isSome = true then HARD else 0) + (if i < HARD then i else i - HARD) = i := by
    by_cases hh : i < HARD
    · simp [hh]
    · simp [hh]; omega
  rw [e2] at this
  exact this
theorem pe_wordR {L : Addr} {i : Int} {c : Nat} {as : Bool} (h1 : i < 2 * HARD) (hc : isMark c = true) (ha : HARD ≤ i) : XSR w n (ePE L) (rPE (word i (one c)) false as) B892 := by
  have h0 : 0 ≤ i := by unfold HARD at ha; omega
  obtain ⟨e, nt, hl⟩ := word_nt h0 h1 hc
  rw [e]
  exact pe_numR nt (.inl ⟨by rw [if_neg (by omega)]; rfl, rfl⟩)
end
end Mine

/-! ## P48 -/
namespace Mine
theorem word_free {i : Int} {c z : Nat} (h0 : 0 ≤ i) (hc : isMark c = true) (hz : z < 48 ∨ 57 < z) (hz1 : isMark z = false) : z ∉ sg (word i (one c)) := by
  intro hm
  rcases word_range h0 z hm with h | h
  · omega
  · have : z = c := by simpa [sg] using h
    subst this
    rw [hz1] at hc; cases hc
theorem words_free {is : List Int} {c z : Nat} (h0 : ∀ i ∈ is, 0 ≤ i) (hc : isMark c = true) (hz : z < 48 ∨ 57 < z) (hz1 : isMark z = false) : ∀ p ∈ is.map (fun i => word i (one c)), z ∉ sg p := by
  intro p hp
  obtain ⟨i, hi, rfl⟩ := List.mem_map.mp hp
  exact word_free (h0 i hi) hc hz hz1
noncomputable def sepOf (braces : Bool) : Nat := if braces then 44 else 59
noncomputable def opOf (braces : Bool) : Nat := if braces then 123 else 60
noncomputable def clOf' (braces : Bool) : Nat := if braces then 125 else 62
theorem setText_eq (is : List Int) (braces : Bool) (mark : Str) : setText is braces mark = one (opOf braces) ++ Txt.join (one (sepOf braces)) (is.map fun i => word i mark) ++ one (clOf' braces) := by cases braces <;> rfl
theorem sg_set (is : List Int) (braces : Bool) (mark : Str) : sg (setText is braces mark) = opOf braces :: (sg (Txt.join (one (sepOf braces)) (is.map fun i => word i mark)) ++ [clOf' braces]) := by
  rw [setText_eq, sg_app, sg_app]; rfl
structure SetOk (is : List Int) : Prop where
  ne : is ≠ []
  len : is.length ≤ 10
  rng : ∀ i ∈ is, 0 ≤ i ∧ i < 2 * HARD
theorem SetOk.small {is : List Int} (h : SetOk is) : ∀ i ∈ is, i.natAbs < 10 ^ 11 := fun i hi => by have := h.rng i hi; unfold HARD at this; omega
section
variable {w : World} {n : Nat}
theorem setJoin_len' {is : List Int} {c : Nat} (h : SetOk is) (b : Bool) : (Txt.join (one (sepOf b)) (is.map fun i => word i (one c))).length ≤ 150 := setJoin_len h.len h.small (Nat.le_refl 1) (by cases b <;> rfl)
theorem set_split {is : List Int} {c : Nat} (h : SetOk is) (hc : isMark c = true) (b : Bool) : Txt.split (Txt.join (one (sepOf b)) (is.map fun i => word i (one c))) (one (sepOf b)) = is.map fun i => word i (one c) := by
  refine split_join (by intro e; exact h.ne (List.map_eq_nil_iff.mp e)) (words_free (fun i hi => (h.rng i hi).1) hc ?_ ?_)
  · cases b <;> simp [sepOf]
  · cases b <;> rfl
theorem set_len' {is : List Int} {c : Nat} (h : SetOk is) (b : Bool) : (setText is b (one c)).length ≤ 160 := by
  have := setJoin_len' (c := c) h b
  rw [setText_eq, PySem.Str.length_append, PySem.Str.length_append]
  have e : ∀ z, (one z).length = 1 := fun _ => rfl
  rw [e, e]; omega
theorem set_body {is : List Int} {c : Nat} (b : Bool) : Txt.slice (setText is b (one c)) (some 1) (some (-1)) = Txt.join (one (sepOf b)) (is.map fun i => word i (one c)) := by
  rw [slice_mid (sg_set is b (one c))]; rfl
theorem map_str {is : List Int} {c : Nat} : (is.map fun i => word i (one c)).map PV.str = is.map fun i => PV.str (word i (one c)) := by rw [List.map_map]; rfl
/-- a set's text is read -/
theorem pe_set {L : Addr} {is : List Int} {c : Nat} {ah b : Bool} (h : SetOk is) (hc : isMark c = true) (ha : ∀ i ∈ is, HARD ≤ i → ah = true) : XS w (n + 1) (ePE L) (rPE (setText is b (one c)) ah true) B892 (.ret (.list (is.map .int))) := by
  have hs := sg_set is b (one c)
  have hs2 : sg (setText is b (one c)) = (opOf b :: sg (Txt.join (one (sepOf b)) (is.map fun i => word i (one c)))) ++ [clOf' b] := hs
  have hl := set_len' (c := c) h b
  have hb := set_body (is := is) (c := c) b
  have hj := setJoin_len' (c := c) h b
  have hsp := set_split h hc b
  have hlen := h.len
  refine xs_cons (x_ifF ((tv_star rfl).eq (first_ne hs (c := 42) (by cases b <;> decide))) xs_nil) ?_
  cases b with
  | true =>
    have hspl : FNO w (n + 1) (.builtin "str.split") [.str (Txt.join (one 44) (is.map fun i => word i (one c))), .str ","] (is.map fun i => .str (word i (one c))) := by
      have := split_ (w := w) (n := n + 1) (x := Txt.join (one 44) (is.map fun i => word i (one c))) (y := one 44) rfl (Nat.le_trans hj (by decide)) (by have e := congrArg List.length hsp; rw [List.length_map] at e; show (Txt.split (Txt.join (one (sepOf true)) _) (one (sepOf true))).length ≤ _; omega)
      rw [show Txt.split (Txt.join (one 44) (is.map fun i => word i (one c))) (one 44) = is.map fun i => word i (one c) from hsp, map_str] at this
      exact this
    refine xs_ret (x_ifT ((tv_open rfl hs hs2).eq (by rfl)) (xs_cons (x_ifF (tv_not (b := true) (tv_plain (ev_name rfl) truth_bool)) xs_nil) (xs_one (x_return (EVO.ev (evo_compM (xs := is) (fun i => .str (word i (one c))) PV.int
      (it_list (EVO.ev (evo_meth ((ev_slice (ev_name rfl) (ep_some ev_int) (ep_some (ev_neg ev_int)) (by rw [sizeLine_eq]; omega)).eq (by rw [hb]; rfl)) get_split (evs_cons ev_str evs_nil) hspl)))
      (fun i hi C => ev_cm (ev_name rfl) (cm_elem w) (evs_cons (ev_name rfl) (evs_cons (ev_name rfl) evs_nil)) (kw_one ev_bool) ((pe3 (n := n) fun L => pe_word (h.rng i hi).1 (h.rng i hi).2 hc (ha i hi)).le (by omega))) (by omega)))))))
  | false =>
    have hspl : FNO w (n + 1) (.builtin "str.split") [.str (Txt.join (one 59) (is.map fun i => word i (one c))), .str ";"] (is.map fun i => .str (word i (one c))) := by
      have := split_ (w := w) (n := n + 1) (x := Txt.join (one 59) (is.map fun i => word i (one c))) (y := one 59) rfl (Nat.le_trans hj (by decide)) (by have e := congrArg List.length hsp; rw [List.length_map] at e; show (Txt.split (Txt.join (one (sepOf false)) _) (one (sepOf false))).length ≤ _; omega)
      rw [show Txt.split (Txt.join (one 59) (is.map fun i => word i (one c))) (one 59) = is.map fun i => word i (one c) from hsp, map_str] at this
      exact this
    refine xs_cons (x_ifF ((tv_open rfl hs hs2).eq (by rw [show (one (opOf false) == Str.ofString "{") = false from one_ne (c := 123) (by decide)]; rfl)) xs_nil) ?_
    refine xs_ret (x_ifT ((tv_open rfl hs hs2).eq (by rfl)) (xs_cons (x_ifF (tv_not (b := true) (tv_plain (ev_name rfl) truth_bool)) xs_nil) (xs_one (x_return (EVO.ev (evo_compM (xs := is) (fun i => .str (word i (one c))) PV.int
      (it_list (EVO.ev (evo_meth ((ev_slice (ev_name rfl) (ep_some ev_int) (ep_some (ev_neg ev_int)) (by rw [sizeLine_eq]; omega)).eq (by rw [hb]; rfl)) get_split (evs_cons ev_str evs_nil) hspl)))
      (fun i hi C => ev_cm (ev_name rfl) (cm_elem w) (evs_cons (ev_name rfl) (evs_cons (ev_name rfl) evs_nil)) (kw_one ev_bool) ((pe3 (n := n) fun L => pe_word (h.rng i hi).1 (h.rng i hi).2 hc (ha i hi)).le (by omega))) (by omega)))))))
/-- a set's text is refused: no set is let -/
theorem pe_setR1 {L : Addr} {is : List Int} {c : Nat} {ah b : Bool} (h : SetOk is) : XSR w n (ePE L) (rPE (setText is b (one c)) ah false) B892 := by
  have hs := sg_set is b (one c)
  have hs2 : sg (setText is b (one c)) = (opOf b :: sg (Txt.join (one (sepOf b)) (is.map fun i => word i (one c)))) ++ [clOf' b] := hs
  have hl := set_len' (c := c) h b
  refine xsr_cons (x_ifF ((tv_star rfl).eq (first_ne hs (c := 42) (by cases b <;> decide))) xs_nil) ?_
  cases b with
  | true => exact xsr_here (xr_ifT ((tv_open rfl hs hs2).eq (by rfl)) (xsr_here (xr_ifT (tv_not (b := false) (tv_plain (ev_name rfl) truth_bool)) (xsr_here (xr_raise (ev_bin ev_str (ev_name (d := .str (setText is true (one c))) rfl) (fmt_set (by omega))))))))
  | false =>
    refine xsr_cons (x_ifF ((tv_open rfl hs hs2).eq (by rw [show (one (opOf false) == Str.ofString "{") = false from one_ne (c := 123) (by decide)]; rfl)) xs_nil) ?_
    exact xsr_here (xr_ifT ((tv_open rfl hs hs2).eq (by rfl)) (xsr_here (xr_ifT (tv_not (b := false) (tv_plain (ev_name rfl) truth_bool)) (xsr_here (xr_raise (ev_bin ev_str (ev_name (d := .str (setText is false (one c))) rfl) (fmt_set (by omega))))))))
/-- a set's text is refused: a hardened one -/
theorem pe_setR2 {L : Addr} {is : List Int} {c : Nat} {b : Bool} (h : SetOk is) (hc : isMark c = true) (hh : ∃ i ∈ is, HARD ≤ i) : XSR w (n + 1) (ePE L) (rPE (setText is b (one c)) false true) B892 := by
  have hs := sg_set is b (one c)
  have hs2 : sg (setText is b (one c)) = (opOf b :: sg (Txt.join (one (sepOf b)) (is.map fun i => word i (one c)))) ++ [clOf' b] := hs
  have hl := set_len' (c := c) h b
  have hb := set_body (is := is) (c := c) b
  have hj := setJoin_len' (c := c) h b
  have hsp := set_split h hc b
  have hlen := h.len
  obtain ⟨j, x, hjx, hxb, hlow⟩ : ∃ (j : Nat) (e : Int), is[j]? = some e ∧ decide (HARD ≤ e) = true ∧ ∀ i, i < j → ∀ e', is[i]? = some e' → decide (HARD ≤ e') = false := by
    rcases first_or (fun i => decide (HARD ≤ i)) is with h0 | h0
    · obtain ⟨i, hi, hi2⟩ := hh
      have := h0 i hi
      rw [decide_eq_true hi2] at this; cases this
    · exact h0
  refine xsr_cons (x_ifF ((tv_star rfl).eq (first_ne hs (c := 42) (by cases b <;> decide))) xs_nil) ?_
  cases b with
  | true =>
    have hspl : FNO w (n + 1) (.builtin "str.split") [.str (Txt.join (one 44) (is.map fun i => word i (one c))), .str ","] (is.map fun i => .str (word i (one c))) := by
      have := split_ (w := w) (n := n + 1) (x := Txt.join (one 44) (is.map fun i => word i (one c))) (y := one 44) rfl (Nat.le_trans hj (by decide)) (by have e := congrArg List.length hsp; rw [List.length_map] at e; show (Txt.split (Txt.join (one (sepOf true)) _) (one (sepOf true))).length ≤ _; omega)
      rw [show Txt.split (Txt.join (one 44) (is.map fun i => word i (one c))) (one 44) = is.map fun i => word i (one c) from hsp, map_str] at this
      exact this
    refine xsr_here (xr_ifT ((tv_open rfl hs hs2).eq (by rfl)) (xsr_cons (x_ifF (tv_not (b := true) (tv_plain (ev_name rfl) truth_bool)) xs_nil) (xsr_here (xr_return (er_comp (xs := is) (fun i => .str (word i (one c))) PV.int j
      (it_list (EVO.ev (evo_meth ((ev_slice (ev_name rfl) (ep_some ev_int) (ep_some (ev_neg ev_int)) (by rw [sizeLine_eq]; omega)).eq (by rw [hb]; rfl)) get_split (evs_cons ev_str evs_nil) hspl)))
      (fun i a hi hij C => ev_cm (ev_name rfl) (cm_elem w) (evs_cons (ev_name rfl) (evs_cons (ev_name rfl) evs_nil)) (kw_one ev_bool) ((pe3 (n := n) fun L => pe_word (h.rng a (List.mem_of_getElem? hi)).1 (h.rng a (List.mem_of_getElem? hi)).2 hc (fun hx => by have := hlow i hij a hi; rw [decide_eq_true hx] at this; cases this)).le (by omega)))
      (get_lt hjx) (fun a hi C => er_cm (ev_name rfl) (cm_elem w) (evs_cons (ev_name rfl) (evs_cons (ev_name rfl) evs_nil)) (kw_one ev_bool) ((pe3R (n := n) fun L => pe_wordR (h.rng a (List.mem_of_getElem? hi)).2 hc (by rw [hjx] at hi; cases hi; exact of_decide_eq_true hxb)).le (by omega))) (by omega))))))
  | false =>
    have hspl : FNO w (n + 1) (.builtin "str.split") [.str (Txt.join (one 59) (is.map fun i => word i (one c))), .str ";"] (is.map fun i => .str (word i (one c))) := by
      have := split_ (w := w) (n := n + 1) (x := Txt.join (one 59) (is.map fun i => word i (one c))) (y := one 59) rfl (Nat.le_trans hj (by decide)) (by have e := congrArg List.length hsp; rw [List.length_map] at e; show (Txt.split (Txt.join (one (sepOf false)) _) (one (sepOf false))).length ≤ _; omega)
      rw [show Txt.split (Txt.join (one 59) (is.map fun i => word i (one c))) (one 59) = is.map fun i => word i (one c) from hsp, map_str] at this
      exact this
    refine xsr_cons (x_ifF ((tv_open rfl hs hs2).eq (by rw [show (one (opOf false) == Str.ofString "{") = false from one_ne (c := 123) (by decide)]; rfl)) xs_nil) ?_
    refine xsr_here (xr_ifT ((tv_open rfl hs hs2).eq (by rfl)) (xsr_cons (x_ifF (tv_not (b := true) (tv_plain (ev_name rfl) truth_bool)) xs_nil) (xsr_here (xr_return (er_comp (xs := is) (fun i => .str (word i (one c))) PV.int j
      (it_list (EVO.ev (evo_meth ((ev_slice (ev_name rfl) (ep_some ev_int) (ep_some (ev_neg ev_int)) (by rw [sizeLine_eq]; omega)).eq (by rw [hb]; rfl)) get_split (evs_cons ev_str evs_nil) hspl)))
      (fun i a hi hij C => ev_cm (ev_name rfl) (cm_elem w) (evs_cons (ev_name rfl) (evs_cons (ev_name rfl) evs_nil)) (kw_one ev_bool) ((pe3 (n := n) fun L => pe_word (h.rng a (List.mem_of_getElem? hi)).1 (h.rng a (List.mem_of_getElem? hi)).2 hc (fun hx => by have := hlow i hij a hi; rw [decide_eq_true hx] at this; cases this)).le (by omega)))
      (get_lt hjx) (fun a hi C => er_cm (ev_name rfl) (cm_elem w) (evs_cons (ev_name rfl) (evs_cons (ev_name rfl) evs_nil)) (kw_one ev_bool) ((pe3R (n := n) fun L => pe_wordR (h.rng a (List.mem_of_getElem? hi)).2 hc (by rw [hjx] at hi; cases hi; exact of_decide_eq_true hxb)).le (by omega))) (by omega))))))
end
end Mine

/-! ## P49 -/
namespace Mine
noncomputable abbrev rFS (x : Str) (ah as : Bool) : Rho := rho0 [("cls", .raw (.ref 903)), ("der", .str x), ("allow_hardened", .bool ah), ("allow_set", .bool as)]
noncomputable abbrev eFS (L : Addr) : Env := fEnv "AllowedDerivation.from_string" S883 883 (.ref 882) L
section
variable {w : World} {n : Nat}
theorem fs_len {L : Addr} {x : Str} {ah as : Bool} (h0 : 0 < x.length) (h1 : x.length ≤ 100000) {p1 p2 p3 p4 p5 : Pos} {k : Nat} : TV w n (eFS L) (rFS x ah as) (.Compare (.Call (.Name "len" p1) [.Name "der" p2] [] p3) [.Eq] [.Constant (.int 0) k p4] p5) false :=
  (tv_cmp (ev_callB (g_len rfl) (evs_cons (ev_name rfl) evs_nil) (len_str_ (by omega))) ev_int cmp_eq_int).eq (beq_eq_false_iff_ne.mpr (by omega))
theorem fs_split {x : Str} {ts : List Str} (hsp : Txt.split x (one 47) = ts) (h1 : x.length ≤ 100000) (hts : ts.length ≤ 100) : FNO w n (.builtin "str.split") [.str x, .str "/"] (ts.map .str) := by
  have := split_ (w := w) (n := n) (x := x) (y := one 47) rfl h1 (by rw [hsp]; omega)
  rw [hsp] at this
  exact this
theorem fs_ok {L : Addr} {x : Str} {α : Type} {xs : List α} {gt : α → Str} {f : α → PV} {els : List El} {ah as : Bool} (hn : 2 ≤ n) (hsp : Txt.split x (one 47) = xs.map gt) (h0 : 0 < x.length) (h1 : x.length ≤ 100000) (hts : xs.length ≤ 100)
    (hpe : ∀ t ∈ xs, FCK w n (.ref 892) [.raw (.ref 903), .str (gt t), .bool ah, .bool as] [] (f t)) (hf : xs.map f = els.map El.pv) (hw : (els.filter El.isWild).length ≤ 1) (hs : (els.filter El.isSet).length ≤ 1) :
    XS w n (eFS L) (rFS x ah as) B883 (.ret (der els)) := by
  have hel : els.length ≤ 100 := by have := congrArg List.length hf; rw [List.length_map, List.length_map] at this; omega
  have hspl : FNO w n (.builtin "str.split") [.str x, .str "/"] (xs.map fun a => .str (gt a)) := by
    have := fs_split (w := w) (n := n) hsp h1 (by rw [List.length_map]; exact hts)
    rw [List.map_map] at this; exact this
  refine xs_cons (x_ifF (fs_len h0 h1) xs_nil) ?_
  refine xs_cons (x_assign_compM (xs := xs) (fun a => .str (gt a)) f (it_list (EVO.ev (evo_meth (ev_name rfl) get_split (evs_cons ev_str evs_nil) hspl)))
    (fun t ht C => ev_cm (ev_name rfl) (cm_elem w) (evs_cons (ev_name rfl) (evs_cons (ev_name rfl) (evs_cons (ev_name rfl) evs_nil))) kw_nil (hpe t ht)) (by omega) rfl) ?_
  refine xs_freeze (x := "indexes") (ds := xs.map f) rfl ?_
  rw [hf]
  exact xs_one (x_return (ev_call (ev_name rfl) (evs_cons (ev_name rfl) evs_nil) ((fn_der hel hw hs).le hn) (by rfl)))
theorem fs_bad {L : Addr} {x : Str} {α : Type} {xs : List α} {gt : α → Str} {f : α → PV} {ah as : Bool} (j : Nat) (hsp : Txt.split x (one 47) = xs.map gt) (h0 : 0 < x.length) (h1 : x.length ≤ 100000) (hts : xs.length ≤ 100)
    (hpe : ∀ i t, xs[i]? = some t → i < j → FCK w n (.ref 892) [.raw (.ref 903), .str (gt t), .bool ah, .bool as] [] (f t)) (hj : j < xs.length) (hbad : ∀ t, xs[j]? = some t → FCRK w n (.ref 892) [.raw (.ref 903), .str (gt t), .bool ah, .bool as] []) :
    XSR w n (eFS L) (rFS x ah as) B883 := by
  have hspl : FNO w n (.builtin "str.split") [.str x, .str "/"] (xs.map fun a => .str (gt a)) := by
    have := fs_split (w := w) (n := n) hsp h1 (by rw [List.length_map]; exact hts)
    rw [List.map_map] at this; exact this
  refine xsr_cons (x_ifF (fs_len h0 h1) xs_nil) ?_
  exact xsr_here (xr_assign_comp (xs := xs) (fun a => .str (gt a)) f j (it_list (EVO.ev (evo_meth (ev_name rfl) get_split (evs_cons ev_str evs_nil) hspl)))
    (fun i t ht hij C => ev_cm (ev_name rfl) (cm_elem w) (evs_cons (ev_name rfl) (evs_cons (ev_name rfl) (evs_cons (ev_name rfl) evs_nil))) kw_nil (hpe i t ht hij))
    hj (fun t ht C => er_cm (ev_name rfl) (cm_elem w) (evs_cons (ev_name rfl) (evs_cons (ev_name rfl) (evs_cons (ev_name rfl) evs_nil))) kw_nil (hbad t ht)) (by omega))
theorem kw_nil' {q : Gh} {ks : List (Str × Value)} (hk : ks.map (·.1) = ([] : List (Str × PV)).map (·.1)) : ks = [] := by cases ks with | nil => rfl | cons a b => cases hk
noncomputable abbrev fnFS : FuncData := fnOf "from_string" "AllowedDerivation.from_string" A883 B883 S883 (.ref 878) .none .none (.str (Str.ofString "embit.descriptor.arguments") 1167) (some 886) (.ref 882) .none
theorem bind_fs4 {x : Str} {ah as : Bool} (s : Shared) (q : Gh) (vs : List Value) (ks : List (Str × Value)) (B : Bs w s.heap q) (r : RepL q vs [.raw (.ref 903), .str x, .bool ah, .bool as]) (rk : RepL q (ks.map (·.2)) (([] : List (Str × PV)).map (·.2))) (hk : ks.map (·.1) = ([] : List (Str × PV)).map (·.1)) :
    ∃ binds, BindsTo s fnFS ⟨vs, ks⟩ binds ∧ RepB q binds [("cls", .raw (.ref 903)), ("der", .str x), ("allow_hardened", .bool ah), ("allow_set", .bool as)] := by
  have := kw_nil' (q := q) hk
  subst this
  cases r with
  | cons h1 r => cases r with
    | cons h2 r => cases r with
      | cons h3 r => cases r with
        | cons h4 r => cases r with
          | nil => exact ⟨_, binds_K B.K rfl (by rfl) rfl rfl rfl, .cons h1 (.cons h2 (.cons h3 (.cons h4 .nil)))⟩
theorem bind_fs3 {x : Str} {ah : Bool} (s : Shared) (q : Gh) (vs : List Value) (ks : List (Str × Value)) (B : Bs w s.heap q) (r : RepL q vs [.raw (.ref 903), .str x, .bool ah]) (rk : RepL q (ks.map (·.2)) (([] : List (Str × PV)).map (·.2))) (hk : ks.map (·.1) = ([] : List (Str × PV)).map (·.1)) :
    ∃ binds, BindsTo s fnFS ⟨vs, ks⟩ binds ∧ RepB q binds [("cls", .raw (.ref 903)), ("der", .str x), ("allow_hardened", .bool ah), ("allow_set", .bool true)] := by
  have := kw_nil' (q := q) hk
  subst this
  cases r with
  | cons h1 r => cases r with
    | cons h2 r => cases r with
      | cons h3 r => cases r with
        | nil => exact ⟨_, binds_K B.K rfl (by rfl) rfl rfl rfl, .cons h1 (.cons h2 (.cons h3 (.cons (.bool true) .nil)))⟩
theorem bind_fs2 {x : Str} (s : Shared) (q : Gh) (vs : List Value) (ks : List (Str × Value)) (B : Bs w s.heap q) (r : RepL q vs [.raw (.ref 903), .str x]) (rk : RepL q (ks.map (·.2)) (([] : List (Str × PV)).map (·.2))) (hk : ks.map (·.1) = ([] : List (Str × PV)).map (·.1)) :
    ∃ binds, BindsTo s fnFS ⟨vs, ks⟩ binds ∧ RepB q binds [("cls", .raw (.ref 903)), ("der", .str x), ("allow_hardened", .bool false), ("allow_set", .bool true)] := by
  have := kw_nil' (q := q) hk
  subst this
  cases r with
  | cons h1 r => cases r with
    | cons h2 r => cases r with
      | nil => exact ⟨_, binds_K B.K rfl (by rfl) rfl rfl rfl, .cons h1 (.cons h2 (.cons (.bool false) (.cons (.bool true) .nil)))⟩
end
/-! # Elements -/
noncomputable def ElOk : El → Prop
  | .wild => True
  | .num i => 0 ≤ i ∧ i < 2 * HARD
  | .set is => SetOk is
theorem ElOk.small {e : El} (h : ElOk e) : e.small := by
  cases e with
  | wild => trivial
  | num i => have h' : 0 ≤ i ∧ i < 2 * HARD := h; show i.natAbs < 10 ^ 11; unfold HARD at h'; omega
  | set is => have h' : SetOk is := h; exact ⟨h'.len, h'.small⟩
section
variable {w : World} {n : Nat}
theorem pe_el {L : Addr} {e : El} {c : Nat} {ah as b : Bool} (h : ElOk e) (hc : isMark c = true) (ha : e.hard = true → ah = true) (hs : e.isSet = true → as = true) : XS w (n + 1) (ePE L) (rPE (elText b (one c) e) ah as) B892 (.ret e.pv) := by
  cases e with
  | wild => exact pe_star
  | num i =>
    have h' : 0 ≤ i ∧ i < 2 * HARD := h
    exact pe_word h'.1 h'.2 hc fun hh => ha (decide_eq_true hh)
  | set is =>
    have := hs rfl
    subst this
    exact pe_set h hc fun i hi hh => ha (List.any_eq_true.mpr ⟨i, hi, decide_eq_true hh⟩)
theorem pe_elR {L : Addr} {e : El} {c : Nat} {ah as b : Bool} (h : ElOk e) (hc : isMark c = true) (hbad : (e.hard = true ∧ ah = false ∧ as = true) ∨ (e.isSet = true ∧ as = false)) : XSR w (n + 1) (ePE L) (rPE (elText b (one c) e) ah as) B892 := by
  cases e with
  | wild => rcases hbad with ⟨h, _⟩ | ⟨h, _⟩ <;> cases h
  | num i =>
    rcases hbad with ⟨h1, rfl, rfl⟩ | ⟨h1, _⟩
    · exact pe_wordR (show 0 ≤ i ∧ i < 2 * HARD from h).2 hc (of_decide_eq_true h1)
    · cases h1
  | set is =>
    rcases hbad with ⟨h1, rfl, rfl⟩ | ⟨_, rfl⟩
    · obtain ⟨i, hi, h2⟩ := List.any_eq_true.mp h1
      exact pe_setR2 h hc ⟨i, hi, of_decide_eq_true h2⟩
    · exact pe_setR1 h
theorem elText_free {e : El} {c : Nat} {b : Bool} (h : ElOk e) (hc : isMark c = true) : 47 ∉ sg (elText b (one c) e) := by
  cases e with
  | wild =>
    show 47 ∉ sg (Str.ofString "*")
    decide +kernel
  | num i => exact word_free (show 0 ≤ i ∧ i < 2 * HARD from h).1 hc (.inl (by decide)) rfl
  | set is =>
    have h' : SetOk is := h
    intro hm
    have e := sg_set is b (one c)
    have hm' : 47 ∈ sg (setText is b (one c)) := hm
    rw [e] at hm'
    rcases List.mem_cons.mp hm' with h1 | h1
    · cases b <;> cases h1
    · rcases List.mem_append.mp h1 with h1 | h1
      · have hj : ∀ ps : List Str, (∀ p ∈ ps, 47 ∉ sg p) → 47 ∉ sg (Str.join (one (sepOf b)) ps) := by
          intro ps
          induction ps with
          | nil => intro _ h; cases h
          | cons x r ih =>
            intro hp
            cases r with
            | nil => exact hp x List.mem_cons_self
            | cons y r =>
              rw [join_sg]
              intro hm
              rcases List.mem_append.mp hm with hm | hm
              · exact hp x List.mem_cons_self hm
              · rcases List.mem_cons.mp hm with hm | hm
                · cases b <;> cases hm
                · exact ih (fun p hp' => hp p (List.mem_cons_of_mem _ hp')) hm
        have hje : Txt.join (one (sepOf b)) (is.map fun i => word i (one c)) = Str.join (one (sepOf b)) (is.map fun i => word i (one c)) := StrLaws.glued_eq_join _ _
        rw [hje] at h1
        exact hj _ (words_free (fun i hi => (h'.rng i hi).1) hc (.inl (by decide)) rfl) h1
      · cases b <;> simp [clOf'] at h1
theorem law_split {els : List El} {c : Nat} {b : Bool} (hne : els ≠ []) (h : ∀ e ∈ els, ElOk e) (hc : isMark c = true) : Txt.split (lawText els b (one c)) (one 47) = els.map (elText b (one c)) := by
  refine split_join (by intro e; exact hne (List.map_eq_nil_iff.mp e)) fun p hp => ?_
  obtain ⟨e, he, rfl⟩ := List.mem_map.mp hp
  exact elText_free (h e he) hc
theorem law_len {els : List El} {c : Nat} {b : Bool} (hl : els.length ≤ 10) (h : ∀ e ∈ els, ElOk e) : (lawText els b (one c)).length ≤ 2000 := by
  have h1 := join_len "/" (els.map (elText b (one c)))
  have h2 := sum_le (xs := els.map (elText b (one c))) (m := 152) (fun x hx => by
    obtain ⟨e, he, rfl⟩ := List.mem_map.mp hx
    exact elText_len (h e he).small (Nat.le_refl 1))
  rw [List.length_map] at h1 h2
  have c1 : (Str.ofString "/").length = 1 := rfl
  rw [c1] at h1
  have : (lawText els b (one c)).length = (Txt.join "/" (els.map (elText b (one c)))).length := rfl
  omega
theorem law_pos {els : List El} {c : Nat} {b : Bool} (hne : els ≠ []) (h : ∀ e ∈ els, ElOk e) (hc : isMark c = true) : 0 < (lawText els b (one c)).length := by
  rcases Nat.eq_zero_or_pos (lawText els b (one c)).length with h0 | h0
  · exfalso
    have h1 := law_split (b := b) hne h hc
    have h2 : lawText els b (one c) = Str.empty := sg_ext (List.eq_nil_of_length_eq_zero (by rw [← sg_len]; exact h0))
    rw [h2] at h1
    have h3 : Txt.split Str.empty (one 47) = [Str.empty] := by decide +kernel
    rw [h3] at h1
    cases els with
    | nil => exact hne rfl
    | cons e r =>
      have h4 : elText b (one c) e = Str.empty := ((List.cons.inj h1).1).symm
      have h5 := congrArg sg h4
      cases e with
      | wild =>
        have h6 : [42] = ([] : List Nat) := h5
        cases h6
      | num i =>
        have hi : 0 ≤ i ∧ i < 2 * HARD := h _ List.mem_cons_self
        have h6 : sg (word i (one c)) = [] := h5
        rw [sg_word] at h6
        split at h6
        · exact digs_ne hi.1 h6
        · exact digs_ne (by omega) (List.append_eq_nil_iff.mp h6).1
      | set is =>
        have h6 : sg (setText is b (one c)) = [] := h5
        rw [sg_set] at h6; cases h6
  · exact h0
end
end Mine

/-! ## P50 -/
namespace Mine
section
variable {w : World} {n : Nat} {els : List El} {c : Nat} {b ah as : Bool}
structure Lw (els : List El) : Prop where
  ne : els ≠ []
  len : els.length ≤ 10
  ok : ∀ e ∈ els, ElOk e
  wild : (els.filter El.isWild).length ≤ 1
  sets : (els.filter El.isSet).length ≤ 1
theorem fs_text {L : Addr} (h : Lw els) (hc : isMark c = true) (ha : ∀ e ∈ els, e.hard = true → ah = true) (hs : ∀ e ∈ els, e.isSet = true → as = true) : XS w (n + 2) (eFS L) (rFS (lawText els b (one c)) ah as) B883 (.ret (der els)) :=
  fs_ok (xs := els) (gt := elText b (one c)) (f := El.pv) (by omega) (law_split h.ne h.ok hc) (law_pos h.ne h.ok hc) (Nat.le_trans (law_len h.len h.ok) (by decide)) (by have := h.len; omega)
    (fun e he => (pe4 (n := n + 1) fun L => pe_el (h.ok e he) hc (ha e he) (hs e he))) rfl h.wild h.sets
theorem from3 (h : Lw els) (hc : isMark c = true) (ha : ∀ e ∈ els, e.hard = true → ah = true) : FCK w (n + 3) (.ref 883) [.raw (.ref 903), .str (lawText els b (one c)), .bool ah] [] (der els) :=
  fck_intro (out := .ret (der els)) (f := 883) (by rfl) (by rfl) bind_fs3 ["cls", "der", "allow_hardened", "allow_set"] (by rfl) (by decide) rfl rfl rfl (fun L => fs_text h hc ha fun _ _ _ => rfl) rfl
theorem from2 (h : Lw els) (hc : isMark c = true) (ha : ∀ e ∈ els, e.hard = false) : FCK w (n + 3) (.ref 883) [.raw (.ref 903), .str (lawText els b (one c))] [] (der els) :=
  fck_intro (out := .ret (der els)) (f := 883) (by rfl) (by rfl) bind_fs2 ["cls", "der", "allow_hardened", "allow_set"] (by rfl) (by decide) rfl rfl rfl (fun L => fs_text h hc (fun e he hh => by rw [ha e he] at hh; cases hh) fun _ _ _ => rfl) rfl
theorem from3R {x : Str} {ah : Bool} (h : ∀ L, XSR w n (eFS L) (rFS x ah true) B883) : FCRK w (n + 1) (.ref 883) [.raw (.ref 903), .str x, .bool ah] [] :=
  fcrk_intro (f := 883) (by rfl) (by rfl) bind_fs3 ["cls", "der", "allow_hardened", "allow_set"] (by rfl) (by decide) rfl rfl rfl h
theorem from4R {x : Str} {ah as : Bool} (h : ∀ L, XSR w n (eFS L) (rFS x ah as) B883) : FCRK w (n + 1) (.ref 883) [.raw (.ref 903), .str x, .bool ah, .bool as] [] :=
  fcrk_intro (f := 883) (by rfl) (by rfl) bind_fs4 ["cls", "der", "allow_hardened", "allow_set"] (by rfl) (by decide) rfl rfl rfl h
/-- hardened ones are refused -/
theorem fs_hard {L : Addr} (h : Lw els) (hc : isMark c = true) (hh : els.any El.hard = true) : XSR w (n + 2) (eFS L) (rFS (lawText els b (one c)) false true) B883 := by
  obtain ⟨j, e, hj, he, hlow⟩ : ∃ (j : Nat) (e : El), els[j]? = some e ∧ e.hard = true ∧ ∀ i, i < j → ∀ e', els[i]? = some e' → e'.hard = false := by
    rcases first_or El.hard els with h0 | h0
    · rw [List.any_eq_false.mpr fun e he => by rw [h0 e he]; decide] at hh; cases hh
    · exact h0
  exact fs_bad (xs := els) (gt := elText b (one c)) (f := El.pv) j (law_split h.ne h.ok hc) (law_pos h.ne h.ok hc) (Nat.le_trans (law_len h.len h.ok) (by decide)) (by have := h.len; omega)
    (fun i t ht hij => pe4 (n := n + 1) fun L => pe_el (h.ok t (List.mem_of_getElem? ht)) hc (fun hx => by rw [hlow i hij t ht] at hx; cases hx) fun _ => rfl) (get_lt hj)
    (fun t ht => by rw [hj] at ht; cases ht; exact pe4R (n := n + 1) fun L => pe_elR (h.ok e (List.mem_of_getElem? hj)) hc (.inl ⟨he, rfl, rfl⟩))
/-- a set is refused -/
theorem fs_set {L : Addr} (h : Lw els) (hc : isMark c = true) (hh : els.any El.isSet = true) : XSR w (n + 2) (eFS L) (rFS (lawText els b (one c)) true false) B883 := by
  obtain ⟨j, e, hj, he, hlow⟩ : ∃ (j : Nat) (e : El), els[j]? = some e ∧ e.isSet = true ∧ ∀ i, i < j → ∀ e', els[i]? = some e' → e'.isSet = false := by
    rcases first_or El.isSet els with h0 | h0
    · rw [List.any_eq_false.mpr fun e he => by rw [h0 e he]; decide] at hh; cases hh
    · exact h0
  exact fs_bad (xs := els) (gt := elText b (one c)) (f := El.pv) j (law_split h.ne h.ok hc) (law_pos h.ne h.ok hc) (Nat.le_trans (law_len h.len h.ok) (by decide)) (by have := h.len; omega)
    (fun i t ht hij => pe4 (n := n + 1) fun L => pe_el (h.ok t (List.mem_of_getElem? ht)) hc (fun _ => rfl) (fun hx => by rw [hlow i hij t ht] at hx; cases hx)) (get_lt hj)
    (fun t ht => by rw [hj] at ht; cases ht; exact pe4R (n := n + 1) fun L => pe_elR (h.ok e (List.mem_of_getElem? hj)) hc (.inr ⟨he, rfl⟩))
theorem ntext_free {i : Int} {m : Option Nat} (h : NT i m) : 47 ∉ sg (ntext i m) := by
  rw [sg_ntext]
  intro hm
  rcases List.mem_append.mp hm with hm | hm
  · have := digs_range h.lo 47 hm; omega
  · have e : m = some 47 := by simpa using hm
    have := h.mrk 47 e
    cases this
/-- a number of 2 ** 31 or more -/
theorem fs_great {L : Addr} {i : Int} {ah as : Bool} (h : NT i none) (hi : HARD ≤ i) : XSR w (n + 2) (eFS L) (rFS (dec i) ah as) B883 := by
  have hl : (dec i).length ≤ 20 := ntext_len h
  have hp : 0 < (dec i).length := by rw [sg_len]; exact List.length_pos_iff.mpr (digs_ne h.lo)
  refine fs_bad (xs := [()]) (gt := fun _ => dec i) (f := fun _ => .none) 0 ?_ hp (by omega) (by decide) (fun i t _ h => absurd h (Nat.not_lt_zero _)) (by decide) (fun t _ => pe4R (n := n + 1) fun L => pe_numR (i := i) (m := none) h (.inr hi))
  have : Txt.split (Txt.join (one 47) [dec i]) (one 47) = [dec i] := split_join (by intro h; cases h) fun p hp => by rw [List.mem_singleton] at hp; subst hp; exact ntext_free h
  exact this
/-- behind a wildcard -/
theorem fs_great2 {L : Addr} {i : Int} {c : Nat} {as : Bool} (h : NT i (some c)) (hi : HARD ≤ i) : XSR w (n + 2) (eFS L) (rFS ("*/" ++ dec i ++ one c) true as) B883 := by
  have hl : (ntext i (some c)).length ≤ 20 := ntext_len h
  have ex : ("*/" ++ dec i ++ one c : Str) = Txt.join (one 47) [one 42, ntext i (some c)] := by
    rw [str_assoc]; rfl
  have hxl : ("*/" ++ dec i ++ one c : Str).length = 2 + (ntext i (some c)).length := by rw [str_assoc, PySem.Str.length_append]; rfl
  refine fs_bad (xs := [one 42, ntext i (some c)]) (gt := id) (f := fun _ => .none) 1 ?_ (by omega) (by omega) (by simp) (fun j t ht hj => ?_) (by simp) (fun t ht => ?_)
  · rw [ex, List.map_id]
    refine split_join (by intro h; cases h) fun p hp => ?_
    rcases List.mem_cons.mp hp with rfl | hp
    · decide
    · rw [List.mem_singleton] at hp; subst hp; exact ntext_free h
  · have : j = 0 := by omega
    subst this
    cases ht
    exact pe4 (n := n + 1) fun L => pe_star
  · cases ht
    exact pe4R (n := n + 1) fun L => pe_numR (i := i) (m := some c) h (.inr hi)
end
end Mine

/-! ## P51 -/
namespace Mine
section
variable {w : World} {n : Nat} {env : Env} {ρ : Rho}
theorem er_methK {x name : Str} {np apos pos : Pos} {e : Expr} {rest : List Expr} {pl : Sem Bool} {C f : Addr} {fs : List (Str × PV)} {ds : List PV} (ho : EV w n env ρ (.Name x np) (.inst C fs)) (hd : fs.lookup name = none)
    (hg : plainGet (K w.params) C name = true) (hf : findIn (K w.params) (.ref C) name = some (some (.ref f))) (ht : isFn (K w.params) (.ref f) = true) (hk : keepIn (K w.params) (.ref f) = true)
    (ha : EVs w n env ρ (e :: rest) ds) (hF : FR w n (.ref f) (.inst C fs :: ds) [])
    (he : eval (.Call (.Attribute (.Name x np) name apos) (e :: rest) [] pos) env = (do
      let ov ← eval (.Name x np) env
      standAt apos.atName
      let (f, first) ← holding [ov] (getMethod ov name pl)
      callWith pos f first (backTo pos (starEach (e :: rest) env)) []) := by rfl)
    (hs : starEach (e :: rest) env = (false, eval e env) :: starEach rest env := by rfl) (hplain : (backTo pos (starEach rest env)).any (·.1) = false := by rfl) : ER w n env ρ (.Call (.Attribute (.Name x np) name apos) (e :: rest) [] pos) := by
  refine ⟨fun A s q base hc fe outer E Q R a C' B k => ?_⟩
  refine MethodCall_ (ho.run A s q E _ R C' fun h1 t1 q1 v g1 r1 => ?_) he
  have X1 := C'.grow g1
  have r1' := r1
  cases r1 with
  | @inst x dx C es m fs hx hdx r =>
    refine method_fn (s := { s with heap := h1, toks := t1 }) X1.K (instAt_of (g1.sub _ _ hx) (g1.sub _ _ hdx)) (plainGet_of hg).1 (plainGet_of hg).2 hf (beq_iff_eq.mp ht) (by show (lookIn name (dictOf es m)).map _ = _; rw [lookIn_dict, repF_getL_none r hd]; rfl) ?_
    refine callWith_K X1.K hk (ha.run pos A _ q1 E _ R X1 fun h2 t2 q2 vs g2 r2 => ⟨(X1.grow g2).K, ?_⟩) hs hplain
    exact hF.run A _ q2 base hc (fe :: outer) E _ (.ref x :: vs) [] R a.frames (X1.grow g2).bs (.cons (r1'.mono g2.le) r2) .nil rfl ((B.keep g1.keep).keep g2.keep) k
end
/-! # The refusals -/
section
variable {w : World} {n : Nat}
theorem tv_kind {L : Addr} {k j i : Int} {d t : PV} {cdv : Value} {p1 p2 p3 : Pos} {kk : Nat} : TV w n (fEnv "_law_refused" S931 931 cdv L) (rRef k d t i) (.Compare (.Name "kind" p1) [.Eq] [.Constant (.int j) kk p2] p3) (k == j) := tv_cmp (ev_name rfl) ev_int cmp_eq_int
theorem ref0 {x : Str} {d : PV} {i : Int} (h : ∀ L, XSR w n (eFS L) (rFS x false true) B883) : FX w (n + 2) (.ref 931) [.int 0, d, .str x, .int i] true :=
  fx_refused fun L cdv => xsr_here (xr_ifT (tv_kind.eq (by rfl)) (xsr_here (xr_expr (er_cm (g_fn rfl) (cm_from w) (evs_cons (ev_name rfl) (evs_cons ev_bool evs_nil)) kw_nil (from3R h)))))
theorem ref1 {x : Str} {d : PV} {i : Int} (h : ∀ L, XSR w n (eFS L) (rFS x true false) B883) : FX w (n + 2) (.ref 931) [.int 1, d, .str x, .int i] true :=
  fx_refused fun L cdv => xsr_here (xr_ifF (tv_kind.eq (by rfl)) (xsr_here (xr_ifT (tv_kind.eq (by rfl)) (xsr_here (xr_expr (er_cm (g_fn rfl) (cm_from w) (evs_cons (ev_name rfl) (evs_cons ev_bool (evs_cons ev_bool evs_nil))) kw_nil (from4R h)))))))
theorem ref2 {els : List El} {t : PV} {i : Int} (h : badIdx (some i) = true) : FX w (n + 2) (.ref 931) [.int 2, der els, t, .int i] true :=
  fx_refused fun L cdv => xsr_here (xr_ifF (tv_kind.eq (by rfl)) (xsr_here (xr_ifF (tv_kind.eq (by rfl)) (xsr_here (xr_ifT (tv_kind.eq (by rfl)) (xsr_here (xr_expr
    (er_methK (ev_name rfl) rfl (k_plain_fill w) (k_find_fill w) (by rfl) (by rfl) (evs_cons (ev_name rfl) evs_nil) ((fr_fill2 (els := els) (idx := some i) h).le (by omega))))))))))
theorem ref3 {els : List El} {t : PV} {i : Int} {j : Nat} {is : List Int} (hl : els.length ≤ 100) (hj : els[j]? = some (.set is)) (his : is.length ≤ 10) (hb : i < 0 ∨ (is.length : Int) ≤ i) (hno : ∀ k, k < j → ∀ e, els[k]? = some e → okF (some i) e) :
    FX w (n + 2) (.ref 931) [.int 3, der els, t, .int i] true :=
  fx_refused fun L cdv => xsr_here (xr_ifF (tv_kind.eq (by rfl)) (xsr_here (xr_ifF (tv_kind.eq (by rfl)) (xsr_here (xr_ifF (tv_kind.eq (by rfl)) (xsr_here (xr_ifT (tv_kind.eq (by rfl)) (xsr_here (xr_expr
    (er_methK (ev_name rfl) rfl (k_plain_fill w) (k_find_fill w) (by rfl) (by rfl) (evs_cons ev_int (evs_cons (ev_name rfl) evs_nil)) ((fr_fill3 (els := els) (idx := some 5) (r := i) hl (by rfl) hj his hb hno).le (by omega))))))))))))
noncomputable def four : List PV := [.list [.list [.int 0, .int 1], .none, .list [.int 2, .int 3]], .list [.list [.int 0, .int 1], .none, .none], .list [.list [.int 0, .none], .none], .list [.none, .int 7, .none]]
theorem itm_none : Itm .none := ⟨.inl rfl⟩
theorem itm_int {i : Int} : Itm (.int i) := ⟨.inr (.inl ⟨i, rfl⟩)⟩
theorem itm_two {a b : Int} : Itm (.list [.int a, .int b]) := ⟨.inr (.inr ⟨_, rfl, dat_ints (is := [a, b])⟩)⟩
theorem itm_mix {a : Int} : Itm (.list [.int a, .none]) := ⟨.inr (.inr ⟨_, rfl, dat_els (es := [.num a, .wild])⟩)⟩
theorem ref4 {d t : PV} {i : Nat} (hi : i < 4) : FX w (n + 3) (.ref 931) [.int 4, d, t, .int i] true := by
  have hfour : ∀ ds : List PV, four[i]? = some (.list ds) → (∀ d ∈ ds, Itm d) → ds.length ≤ 100 → (1 < (ds.filter wildP).length ∨ 1 < (ds.filter setP).length) → FX w (n + 3) (.ref 931) [.int 4, d, t, .int i] true := fun ds hds h1 h2 h3 =>
    fx_refused fun L cdv => xsr_here (xr_ifF (tv_kind.eq (by rfl)) (xsr_here (xr_ifF (tv_kind.eq (by rfl)) (xsr_here (xr_ifF (tv_kind.eq (by rfl)) (xsr_here (xr_ifF (tv_kind.eq (by rfl)) (xsr_here (xr_expr
      (er_call (g_fn rfl) (evs_cons (ev_item (ds := four) (j := (i : Int)) (EVO.ev (evo_list
        (evs_cons (EVO.ev (evo_list (evs_cons (EVO.ev (evo_list (evs_cons ev_int (evs_cons ev_int evs_nil)) (by simp))) (evs_cons ev_none (evs_cons (EVO.ev (evo_list (evs_cons ev_int (evs_cons ev_int evs_nil)) (by simp))) evs_nil))) (by simp)))
        (evs_cons (EVO.ev (evo_list (evs_cons (EVO.ev (evo_list (evs_cons ev_int (evs_cons ev_int evs_nil)) (by simp))) (evs_cons ev_none (evs_cons ev_none evs_nil))) (by simp)))
        (evs_cons (EVO.ev (evo_list (evs_cons (EVO.ev (evo_list (evs_cons ev_int (evs_cons ev_none evs_nil)) (by simp))) (evs_cons ev_none evs_nil)) (by simp)))
        (evs_cons (EVO.ev (evo_list (evs_cons ev_none (evs_cons ev_int (evs_cons ev_none evs_nil))) (by simp))) evs_nil)))) (by simp [four]))) (ev_name rfl) (by omega) (by omega) (by rw [Int.toNat_natCast]; exact hds)) evs_nil) ((fr_make_der h2 h1 h3).le (by omega)) (by rfl)))))))))))
  rcases Nat.lt_or_ge i 1 with h | h
  · obtain rfl : i = 0 := by omega
    refine hfour _ rfl (fun d hd => ?_) (by simp) (.inr (by decide +kernel))
    simp only [List.mem_cons, List.not_mem_nil, or_false] at hd
    rcases hd with rfl | rfl | rfl
    · exact itm_two
    · exact itm_none
    · exact itm_two
  rcases Nat.lt_or_ge i 2 with h2 | h2
  · obtain rfl : i = 1 := by omega
    refine hfour _ rfl (fun d hd => ?_) (by simp) (.inl (by decide +kernel))
    simp only [List.mem_cons, List.not_mem_nil, or_false] at hd
    rcases hd with rfl | rfl | rfl
    · exact itm_two
    · exact itm_none
    · exact itm_none
  rcases Nat.lt_or_ge i 3 with h3 | h3
  · obtain rfl : i = 2 := by omega
    refine hfour _ rfl (fun d hd => ?_) (by simp) (.inl (by decide +kernel))
    simp only [List.mem_cons, List.not_mem_nil, or_false] at hd
    rcases hd with rfl | rfl
    · exact itm_mix
    · exact itm_none
  · obtain rfl : i = 3 := by omega
    refine hfour _ rfl (fun d hd => ?_) (by simp) (.inl (by decide +kernel))
    simp only [List.mem_cons, List.not_mem_nil, or_false] at hd
    rcases hd with rfl | rfl | rfl
    · exact itm_none
    · exact itm_int
    · exact itm_none
end
end Mine

/-! ## P52 -/
namespace Mine
theorem RepL.drop {q : Gh} : ∀ {vs ds}, RepL q vs ds → ∀ k : Nat, RepL q (vs.drop k) (ds.drop k)
  | _, _, h, 0 => h
  | _, _, .nil, _ + 1 => .nil
  | _, _, .cons _ r, k + 1 => RepL.drop r k
theorem RepL.take {q : Gh} : ∀ {vs ds}, RepL q vs ds → ∀ k : Nat, RepL q (vs.take k) (ds.take k)
  | _, _, _, 0 => .nil
  | _, _, .nil, _ + 1 => .nil
  | _, _, .cons h r, k + 1 => .cons h (RepL.take r k)
theorem part_is (u : Option (Int × Tok)) : IsPart (partValue u) (u.map (·.1)) := by cases u with | none => exact .none | some p => exact .int _ _
section
variable {w : World} {n : Nat} {env : Env} {ρ : Rho}
/-- a slice of a list -/
theorem evo_lslice {e : Expr} {lo up : Option Expr} {p pos : Pos} {ds es : List PV} {l u : Option Int} (he : EV w n env ρ e (.list ds)) (hl : EP w n env ρ lo l) (hu : EP w n env ρ up u) (hsz : ds.length ≤ 1000000)
    (hp : ∀ (vs : List Value) (q : Gh), vs.length = ds.length → RepL q vs ds → RepL q (slicePick vs.toArray l u none).toList es)
    (ht : ∀ o r, letTemporaryGo e o r = pure () := by intro _ _; rfl) : EVO w n env ρ (.Subscript e (.Slice lo up none p) pos) es := by
  refine ⟨fun A s q E Q R C k => ?_⟩
  refine wpAny_Subscript_list_slice (he.run A s q E _ R C fun h1 t1 q1 v1 g1 r1 => ?_) ht
  refine hl.run A _ q1 E _ R (C.grow g1) fun h2 t2 q2 lv g2 e2 => ?_
  refine hu.run A _ q2 E _ R ((C.grow g1).grow g2) fun h3 t3 q3 uv g3 e3 => ?_
  subst e2; subst e3
  have g := (g1.trans g2).trans g3
  cases r1 with
  | @list a vs ds m ha r =>
    have ha3 := g3.sub _ _ (g3.le _ _ (g2.le _ _ ha))
    have r3 := (r.mono g2.le).mono g3.le
    refine ⟨a, vs.toArray, _, _, rfl, isList_of ha3, by rw [List.size_toArray, r.length, sizeLine_eq]; omega, part_is lv, part_is uv, ?_⟩
    have gp := g.trans (Grow.heap g3.sub (h' := h3.push { cls := .type "slice", data := .fields #[partValue lv, partValue uv, .none] }) fun b o e => Heap.get?_push_of_some _ e)
    have hs1 : (h3.push { cls := .type "slice", data := .fields #[partValue lv, partValue uv, .none] }).objs.size = h3.objs.size + 1 := Heap.size_push ..
    have gpp := gp.trans (Grow.heap gp.sub (h' := (h3.push { cls := .type "slice", data := .fields #[partValue lv, partValue uv, .none] }).push (listOf (slicePick vs.toArray (lv.map (·.1)) (uv.map (·.1)) none).toList.toArray 0)) fun b o e => Heap.get?_push_of_some _ e)
    have hget : ((h3.push { cls := .type "slice", data := .fields #[partValue lv, partValue uv, .none] }).push (listOf (slicePick vs.toArray (lv.map (·.1)) (uv.map (·.1)) none).toList.toArray 0)).get? (h3.objs.size + 1) = some (listOf (slicePick vs.toArray (lv.map (·.1)) (uv.map (·.1)) none).toList.toArray 0) := by
      rw [← hs1]; exact Heap.get?_push_size _ rfl
    have none1 : ∀ b, h3.objs.size ≤ b → s.heap.get? b = none ∧ q3 b = none := fun b hb => by
      constructor
      · cases z : s.heap.get? b with
        | none => rfl
        | some o => exact absurd (Heap.lt_size (g.keep _ _ z)) (Nat.not_lt.mpr hb)
      · cases z : q3 b with
        | none => rfl
        | some o => exact absurd (Heap.lt_size (g3.sub _ _ z)) (Nat.not_lt.mpr hb)
    exact k _ t3 q3 (h3.objs.size + 1) _ 0 gpp hget (hp vs q3 r.length r3) (none1 _ (Nat.le_succ _)).1 (none1 _ (Nat.le_succ _)).2
theorem evo_from1 {e : Expr} {p p2 pos : Pos} {k : Nat} {ds : List PV} (he : EV w n env ρ e (.list ds)) (hsz : ds.length ≤ 1000000) (ht : ∀ o r, letTemporaryGo e o r = pure () := by intro _ _; rfl) :
    EVO w n env ρ (.Subscript e (.Slice (some (.Constant (.int 1) k p2)) none none p) pos) (ds.drop 1) :=
  evo_lslice he (ep_some ev_int) ep_none hsz (fun vs q _ r => by rw [show ((1 : Int)) = ((1 : Nat) : Int) from rfl, slicePick_from']; exact r.drop 1) ht
theorem evo_butLast {e : Expr} {p p2 p3 pos : Pos} {k : Nat} {ds : List PV} (he : EV w n env ρ e (.list ds)) (hsz : ds.length ≤ 1000000) (ht : ∀ o r, letTemporaryGo e o r = pure () := by intro _ _; rfl) :
    EVO w n env ρ (.Subscript e (.Slice none (some (.UnaryOp .USub (.Constant (.int 1) k p2) p3)) none p) pos) (ds.take (ds.length - 1)) :=
  evo_lslice he ep_none (ep_some (ev_neg ev_int)) hsz (fun vs q hl r => by rw [show (-(1 : Int)) = -((1 : Nat) : Int) from rfl, slicePick_butLast _ _ (by decide)]; rw [List.size_toArray, hl]; exact r.take _) ht
/-! # _parse_der_item -/
theorem fn_item {i : Int} {c : Nat} (h0 : 0 ≤ i) (h1 : i < 2 * HARD) (hc : isMark c = true) : FN w 1 (.ref 759) [.str (word i (one c))] [] (.int i) := by
  obtain ⟨e, nt, hl⟩ := word_nt h0 h1 hc
  rw [e]
  obtain ⟨g, r, h2, hg, hmk, _, hr⟩ := nt.last
  have hlen := ntext_len nt
  refine fn_intro (ps := [("e", .str (ntext (if i < HARD then i else i - HARD) (if i < HARD then none else some c)))]) (out := .ret (.int i)) (f := 759) (by rfl) (by rfl) ?_ ["e"] (by rfl) (by decide) rfl rfl rfl ?_ rfl
  · intro s q vs B r
    cases r with
    | cons h1 r => cases r with
      | nil => exact ⟨_, BindsTo.of_eq rfl, .cons h1 .nil⟩
  · intro L
    have hin : (decide (one g = Str.ofString "h") || decide (one g = Str.ofString "H") || decide (one g = Str.ofString "'")) = isMark g := by
      have d : ∀ a b : Nat, decide (one a = one b) = (a == b) := fun a b => by rw [← one_beq]; rfl
      show (decide (one g = one 104) || decide (one g = one 72) || decide (one g = one 39)) = _
      rw [d, d, d]; rfl
    by_cases hh : i < HARD
    · simp only [if_pos hh] at *
      refine xs_one (x_ifF ((tv_in3 (ev_last (y := "e") rfl (by decide) h2) (by kernel_rfl) (by decide) (by decide) (by decide)).eq (by rw [hin, hmk]; rfl)) (xs_one (x_return (ev_callT (g_int rfl) (evs_cons (ev_name (d := .str (dec i)) rfl) evs_nil) (int_text_ nt.lo nt.hi)))))
    · simp only [if_neg hh] at *
      have hr' := hr c rfl
      have hdec : (⟨r.toArray⟩ : Str) = dec (i - HARD) := sg_ext (by rw [sg_mk, hr']; rfl)
      refine xs_one (x_ifT ((tv_in3 (ev_last (y := "e") rfl (by decide) h2) (by kernel_rfl) (by decide) (by decide) (by decide)).eq (by rw [hin, hmk]; rfl)) (xs_one (x_return ((ev_bin (ev_callT (g_int rfl) (evs_cons
        ((ev_slice (ev_name (d := .str (ntext (i - HARD) (some c))) rfl) ep_none (ep_some (ev_neg ev_int)) (by rw [sizeLine_eq]; omega)).eq (by rw [slice_init h2, hdec])) evs_nil) (int_text_ nt.lo nt.hi)) (g_hard rfl) op_add_int).eq (by congr 1; omega)))))
end
end Mine

/-! ## P53 -/
namespace Mine
theorem goes47 (c : Nat) : (one 47).cps.contains c = (c == 47) := by
  show (#[47] : Array Nat).contains c = _
  simp [Array.contains]
theorem rstrip_none {x : Str} {l : List Nat} {c : Nat} (h : sg x = l ++ [c]) (hc : c ≠ 47) : Txt.rstripChars x (one 47) = x := by
  have e1 : stripHi (one 47).cps.contains true x (stripLo (one 47).cps.contains false x) = x.length := by
    unfold stripHi stripLo
    simp only [Bool.false_eq_true, if_false, if_true, List.drop_zero]
    show x.length - ((sg x).reverse.takeWhile _).length = _
    rw [h, List.reverse_append, List.reverse_singleton, List.singleton_append, List.takeWhile_cons, goes47, show (c == 47) = false from beq_eq_false_iff_ne.mpr hc]
    simp
  unfold Txt.rstripChars Txt.stripBy stripSame
  rw [e1]
  simp [stripLo]
theorem rstrip_one {x : Str} {l : List Nat} {c : Nat} (h : sg x = l ++ [c] ++ [47]) (hc : c ≠ 47) : Txt.rstripChars x (one 47) = ⟨(l ++ [c]).toArray⟩ := by
  have hl : x.length = l.length + 2 := by rw [sg_len, h]; simp
  have e0 : stripLo (one 47).cps.contains false x = 0 := rfl
  have e1 : stripHi (one 47).cps.contains true x 0 = l.length + 1 := by
    unfold stripHi
    simp only [if_true, List.drop_zero]
    show x.length - ((sg x).reverse.takeWhile _).length = _
    rw [h, List.reverse_append, List.reverse_singleton, List.singleton_append, List.takeWhile_cons, goes47, List.reverse_append, List.reverse_singleton, List.singleton_append, List.takeWhile_cons, goes47, show (c == 47) = false from beq_eq_false_iff_ne.mpr hc, hl]
    simp
  unfold Txt.rstripChars Txt.stripBy stripSame PySem.stripped
  rw [e0, e1, if_neg (by rw [hl]; simp)]
  refine sg_ext ?_
  show (Builtin.Str.strSub x 0 (l.length + 1)).cps.toList = _
  rw [StrLaws.strSub_toList]
  show ((sg x).drop 0).take _ = _
  rw [h, List.drop_zero, List.take_left']
  · rfl
  · simp
section
variable {w : World} {n : Nat} {env : Env} {ρ : Rho}
theorem get_rstrip {x : Str} : GetM w n (.str x) "rstrip" "str.rstrip" := ⟨fun A s q E Q va pl R sub r k => by cases r; exact PySem.GM.rstrip k⟩
theorem rstrip_ {x y : Str} (hx : x.length ≤ 100000) : FN w n (.builtin "str.rstrip") [.str x, .str y] [] (.str (Txt.rstripChars x y)) := by
  refine ⟨fun A s q E Q vs ks R B r rk hks k => ?_⟩
  have : ks = [] := by cases ks with | nil => rfl | cons a b => cases hks
  subst this
  cases r with
  | cons h1 r => cases r with
    | cons h2 r => cases r with
      | nil => cases h1; cases h2; exact PySem.SC.rstripChars (fun t' kk => k s.heap kk q _ (.refl B.sub) (.str _ _)) (by rw [sizeLine_eq]; omega)
noncomputable def pathText (is : List Int) (mark : Str) : Str := Txt.join (one 47) (one 109 :: is.map fun i => word i mark)
theorem path_split {is : List Int} {c : Nat} (h : ∀ i ∈ is, 0 ≤ i ∧ i < 2 * HARD) (hc : isMark c = true) : Txt.split (pathText is (one c)) (one 47) = one 109 :: is.map fun i => word i (one c) := by
  refine split_join (by intro h; cases h) fun p hp => ?_
  rcases List.mem_cons.mp hp with rfl | hp
  · decide
  · exact words_free (fun i hi => (h i hi).1) hc (.inl (by decide)) rfl p hp
/-- parse_path -/
theorem fn_path {x : Str} {is : List Int} {c : Nat} (hn : is.length ≤ 90) (h : ∀ i ∈ is, 0 ≤ i ∧ i < 2 * HARD) (hc : isMark c = true) (hx : x.length ≤ 100000) (hr : Txt.rstripChars x (one 47) = pathText is (one c)) (hxl : (pathText is (one c)).length ≤ 100000) :
    FN w 2 (.ref 764) [.str x] [] (.list (is.map .int)) := by
  refine fn_intro (ps := [("path", .str x)]) (out := .ret (.list (is.map .int))) (f := 764) (by rfl) (by rfl) ?_ ["path"] (by rfl) (by decide) rfl rfl rfl ?_ rfl
  · intro s q vs B r
    cases r with
    | cons h1 r => cases r with
      | nil => exact ⟨_, BindsTo.of_eq rfl, .cons h1 .nil⟩
  · intro L
    have hsp := path_split h hc
    have hspl : FNO w 1 (.builtin "str.split") [.str (pathText is (one c)), .str "/"] (.str (one 109) :: is.map fun i => .str (word i (one c))) := by
      have := fs_split (w := w) (n := 1) hsp hxl (by rw [List.length_cons, List.length_map]; omega)
      rw [List.map_cons, map_str] at this
      exact this
    refine xs_cons (x_assign (EVO.ev (evo_meth ((ev_meth (ev_name rfl) get_rstrip (evs_cons ev_str evs_nil) (rstrip_ (y := one 47) hx)).eq (by rw [hr])) get_split (evs_cons ev_str evs_nil) hspl)) rfl) ?_
    refine xs_cons (x_ifT ((tv_cmp (ev_item (ds := .str (one 109) :: is.map fun i => .str (word i (one c))) (j := 0) (d := .str (one 109)) (ev_name rfl) ev_int (by decide) (by decide) rfl) ev_str cmp_eq_str).eq (by rfl))
      (xs_one (x_assign (EVO.ev (evo_from1 (ds := .str (one 109) :: is.map fun i => .str (word i (one c))) (ev_name rfl) (by simp; omega))) rfl))) ?_
    have hln : FN w 1 (.builtin "len") [.list (is.map fun i => .str (word i (one c)))] [] (.int ((is.map fun i => PV.str (word i (one c))).length : Nat)) := len_list_ (by rw [List.length_map]; omega)
    cases his : is with
    | nil =>
      rw [his] at hln
      refine xs_ret (x_ifT ((tv_cmp (ev_callB (g_len rfl) (evs_cons (ev_name rfl) evs_nil) hln) ev_int cmp_eq_int).eq (by rfl)) (xs_one (x_return (EVO.ev (evo_list evs_nil (by simp))))))
    | cons a r =>
      rw [← his]
      refine xs_cons (x_ifF ((tv_cmp (ev_callB (g_len rfl) (evs_cons (ev_name rfl) evs_nil) hln) ev_int cmp_eq_int).eq (by rw [List.length_map, his]; simp; omega)) xs_nil) ?_
      exact xs_one (x_return (EVO.ev (evo_compM (xs := is) (fun i => .str (word i (one c))) PV.int (it_list (ev_name rfl)) (fun i hi C => ev_call (g_fn rfl) (evs_cons (ev_name rfl) evs_nil) (fn_item (h i hi).1 (h i hi).2 hc) (by rfl)) (by omega))))
end
end Mine

/-! ## P54 -/
namespace Mine
/-! # Comprehensions of two clauses -/
section
variable {elt t0 i0 t1 i1 : Expr} {ifs : List Expr} {scope : Scope} {pos : Pos} {it acc : Value} {env : Env}
noncomputable abbrev lc2 (elt t0 i0 : Expr) (ifs : List Expr) (t1 i1 : Expr) (scope : Scope) (pos : Pos) : Expr := .ListComp elt [⟨t0, i0, ifs, 0⟩, ⟨t1, i1, [], 0⟩] scope pos
theorem turn_outer : compTurn (lc2 elt t0 i0 ifs t1 i1 scope pos) 0 it acc env = (do
      standAt i0.pos
      match ← pyNext it with
      | none => pure (.done .next)
      | some v =>
        letOwnedTupleGo t0 it v
        assign t0 env v
        let mut ok := true
        for c in ifs do
          if ok then ok ← isTrue c env (eval c env)
        if ok then do
            let x ← eval i1 env
            standAt i1.pos
            let x ← foldedSetIterable i1 env x
            let _ ← runOwn (.compStart (lc2 elt t0 i0 ifs t1 i1 scope pos) 1 (← holding [x] (pyIter x)) acc env) env
            again (.compLoop (lc2 elt t0 i0 ifs t1 i1 scope pos) 0 it acc env)
        else again (.compLoop (lc2 elt t0 i0 ifs t1 i1 scope pos) 0 it acc env)) := by rfl
theorem turn_inner : compTurn (lc2 elt t0 i0 ifs t1 i1 scope pos) 1 it acc env = (do
      standAt i1.pos
      match ← pyNext it with
      | none => pure (.done .next)
      | some v =>
        letOwnedTupleGo t1 it v
        assign t1 env v
        (do let _ ← call (.builtin "list.append") [acc, ← eval elt env])
        again (.compLoop (lc2 elt t0 i0 ifs t1 i1 scope pos) 1 it acc env)) := by rfl
end
section
variable {prog : Program} {w : World} {A : Around} {E : Value → Shared → Prop} {R : Result → Shared → Prop} {s : Shared} {elt t0 i0 t1 i1 : Expr} {ifs : List Expr} {scope : Scope} {pos : Pos} {it acc : Value} {env : Env}
theorem loop_outer (I : Nat → Shared → Prop)
    (turn : ∀ n s, I n s → wpAny (model prog w) A (pyNext it) (fun r s₁ => match r with
      | none => R (.ok .next) s₁
      | some v => wpAny (model prog w) A (assign t0 env v) (fun _ s₂ =>
          wpAny (model prog w) A (forIn ifs true fun c r => if r = true then do let ok ← isTrue c env (eval c env); pure (ForInStep.yield ok) else pure (ForInStep.yield r)) (fun ok s₃ =>
            if ok = true then wpAny (model prog w) A (eval i1 env) (fun x s₄ => wpAny (model prog w) A (pyIter x) (fun it' s₅ =>
              codeAny (model prog w) A (.compStart (lc2 elt t0 i0 ifs t1 i1 scope pos) 1 it' acc env) (fun r s₆ => match r with
                | .ok _ => ∃ m, m < n ∧ I m s₆
                | .error e => cameBackBy (model prog w) A env (notedBy (model prog w) A env fun e s' => R (.error e) s') e s₆) s₅) (notedBy (model prog w) A env fun e s' => R (.error e) s') s₄) (notedBy (model prog w) A env fun e s' => R (.error e) s') s₃
            else ∃ m, m < n ∧ I m s₃) (notedBy (model prog w) A env fun e s' => R (.error e) s') s₂) (notedBy (model prog w) A env fun e s' => R (.error e) s') s₁) (notedBy (model prog w) A env fun e s' => R (.error e) s') s)
    (n : Nat) (h : I n s) (ht : ∀ v, letOwnedTupleGo t0 it v = pure () := by intro _; rfl) (hs : ∀ x, foldedSetIterable i1 env x = pure x := by intro _; rfl) :
    codeAny (model prog w) A (.compLoop (lc2 elt t0 i0 ifs t1 i1 scope pos) 0 it acc env) R s := by
  refine codeAny_loop rfl I (fun n s hI => ?_) n h
  show wpAny _ A ((compTurn (lc2 elt t0 i0 ifs t1 i1 scope pos) 0 it acc env).onRaise (fun x => do noteFrame x env; theTreesLotGoes x)) _ _ s
  refine wpAny_noted ?_
  rw [turn_outer]
  refine wpAny_bind (wpAny_standAt (wpAny_bind (wpAny_mono (turn n s hI) (fun r s₁ h₁ => ?_) fun _ _ h' => h')))
  cases r with
  | none => exact wpAny_pure h₁
  | some v =>
    refine wpAny_bind (wpAny_of_eq (ht v) ?_)
    refine wpAny_bind (wpAny_mono h₁ (fun _ s₂ h₂ => wpAny_bind (wpAny_mono h₂ (fun ok s₃ h₃ => ?_) fun _ _ h' => h')) fun _ _ h' => h')
    cases ok with
    | false => exact wpAny_pure ⟨rfl, h₃⟩
    | true =>
      have h₃ := h₃
      rw [if_pos rfl] at h₃
      refine wpAny_bind (wpAny_mono h₃ (fun x s₄ h₄ => ?_) fun _ _ h' => h')
      refine wpAny_bind (wpAny_standAt (wpAny_bind (wpAny_of_eq (hs x) (wpAny_bind (wpAny_holding (wpAny_mono h₄ (fun it' s₅ h₅ => ?_) fun _ _ h' => h'))))))
      refine wpAny_bind (wpAny_runOwn (codeAny_mono h₅ fun r s₆ h₆ => ?_))
      cases r with
      | ok f => exact wpAny_pure ⟨rfl, h₆⟩
      | error e => exact h₆
theorem loop_inner (I : Nat → Shared → Prop)
    (turn : ∀ n s, I n s → wpAny (model prog w) A (pyNext it) (fun r s₁ => match r with
      | none => R (.ok .next) s₁
      | some v => wpAny (model prog w) A (assign t1 env v) (fun _ s₂ => wpAny (model prog w) A (eval elt env) (fun x s₄ =>
              wpAny (model prog w) A (call (.builtin "list.append") [acc, x]) (fun _ s₅ => ∃ m, m < n ∧ I m s₅) (notedBy (model prog w) A env fun e s' => R (.error e) s') s₄) (notedBy (model prog w) A env fun e s' => R (.error e) s') s₂)
              (notedBy (model prog w) A env fun e s' => R (.error e) s') s₁) (notedBy (model prog w) A env fun e s' => R (.error e) s') s)
    (n : Nat) (h : I n s) (ht : ∀ v, letOwnedTupleGo t1 it v = pure () := by intro _; rfl) :
    codeAny (model prog w) A (.compLoop (lc2 elt t0 i0 ifs t1 i1 scope pos) 1 it acc env) R s := by
  refine codeAny_loop rfl I (fun n s hI => ?_) n h
  show wpAny _ A ((compTurn (lc2 elt t0 i0 ifs t1 i1 scope pos) 1 it acc env).onRaise (fun x => do noteFrame x env; theTreesLotGoes x)) _ _ s
  refine wpAny_noted ?_
  rw [turn_inner]
  refine wpAny_bind (wpAny_standAt (wpAny_bind (wpAny_mono (turn n s hI) (fun r s₁ h₁ => ?_) fun _ _ h' => h')))
  cases r with
  | none => exact wpAny_pure h₁
  | some v =>
    refine wpAny_bind (wpAny_of_eq (ht v) ?_)
    refine wpAny_bind (wpAny_mono h₁ (fun _ s₂ h₂ => ?_) fun _ _ h' => h')
    exact wpAny_bind (wpAny_bind (wpAny_mono h₂ (fun x s₄ h₄ => wpAny_bind (wpAny_mono h₄ (fun _ s₅ h₅ => wpAny_pure (wpAny_pure ⟨rfl, h₅⟩)) fun _ _ h' => h')) fun _ _ h' => h'))
theorem start_inner (h0 : codeAny (model prog w) A (.compLoop (lc2 elt t0 i0 ifs t1 i1 scope pos) 1 it acc env) R s)
    (h : wpAny (model prog w) A (pyIter it) (fun it' s' => codeAny (model prog w) A (.compLoop (lc2 elt t0 i0 ifs t1 i1 scope pos) 1 it' acc env) R s')
      (notedBy (model prog w) A env fun x s' => R (.error x) s') s) :
    codeAny (model prog w) A (.compStart (lc2 elt t0 i0 ifs t1 i1 scope pos) 1 it acc env) R s := by
  refine codeAny_of_tree ?_
  show wpAny _ _ ((compStart (lc2 elt t0 i0 ifs t1 i1 scope pos) 1 it acc env).onRaise (fun x => do noteFrame x env; standAt theWindowsPlace)) _ _ s
  refine wpAny_notedAt ?_
  unfold compStart
  show wpAny _ _ (ask >>= _) _ _ s
  refine wpAny_bind (wpAny_askSetting (wpAny_ite ?_))
  split
  · first
      | exact wpAny_bind (wpAny_pure (wpAny_pure (And.intro rfl h0)))
      | exact wpAny_pure (And.intro rfl h0)
  · first
      | exact wpAny_bind (wpAny_rule (wpAny_bind (wpAny_standAt (wpAny_bind (wpAny_mono h (fun it' s' h' => wpAny_pure (And.intro rfl h')) fun _ _ x => x)))))
      | (refine wpAny_bind (wpAny_rule ?_); show wpAny _ _ (standAt i1.pos >>= _) _ _ s; exact wpAny_bind (wpAny_standAt (wpAny_bind (wpAny_mono h (fun it' s' h' => wpAny_pure (And.intro rfl h')) fun _ _ x => x))))
end
end Mine

/-! ## P55 -/
set_option maxHeartbeats 800000
namespace Mine
section
variable {w : World} {n : Nat} {env : Env} {ρ : Rho}
theorem ctx_add {h : Heap} {q : Gh} {y : Str} {v : Value} {d : PV} (X : Ctx w env ρ h q) (nv : NameVal env h y v) (r : Rep q v d) : Ctx w env (upd ρ y (.pers d)) h q := by
  refine ⟨X.K, X.top, X.sub, X.kind, X.globals, X.builtins, fun z e he => ?_, fun z ds he => ?_⟩
  · by_cases hz : z = y
    · subst hz; simp only [upd, if_pos] at he; cases he; exact ⟨v, nv, r⟩
    · simp only [upd, if_neg hz] at he; exact X.pers z e he
  · by_cases hz : z = y
    · subst hz; simp only [upd, if_pos] at he; cases he
    · simp only [upd, if_neg hz] at he; exact X.owns z ds he
noncomputable abbrev rho1 (scope : Scope) (env : Env) (ρ : Rho) (x : Str) (d : PV) : Rho := upd (rhoC scope env ρ) x (.pers d)
theorem inner_loop {x y : Str} {px py : Pos} {i0 i1 elt : Expr} {ifs : List Expr} {scope : Scope} {pos : Pos} {β : Type} {ys : List β} {hv : β → PV} {fe : β → PV} {d0 : PV} {v0 : Value}
    {A : Around} {s : Shared} {hs : Heap} {q q' : Gh} {C D : Addr} {h hb : Heap} {tk : Nat} {m : Str → Option Value} {vs : List Value} {k : Nat} {acc : List PV} {I : Addr} {fp wr : List Addr} {P : Nat → Value → Prop} {St : Nat → Heap → Prop} {R : Result → Shared → Prop}
    (hkind : scope.kind = .function) (hfree : freeOk scope env = true) (hx : scope.names.lookup x = some .local) (hy : scope.names.lookup y = some .local) (hxy : x ≠ y)
    (turn : ∀ b ∈ ys, EV w n (cEnv scope env C) (upd (rho1 scope env ρ x d0) y (.pers (hv b))) elt (fe b)) (hsz : ys.length ≤ 1000) (hvs : vs.length ≤ 900000)
    (RR : Room n A) (X : Ctx w env ρ hs q) (hC : hs.get? C = none) (hD : hs.get? D = none) (hDC : D ≠ C) (G : Grow hs q h q') (hn : h.Ns C m) (hm : m x = some v0) (r0 : Rep q' v0 d0) (hacc : h.get? D = some (listOf vs.toArray k)) (hrep : RepL q' vs acc)
    (qC : q' C = none) (qD : q' D = none) (IT : Iter w A hb h q' (ys.map hv) I fp wr P St) (hbC : ∃ o, hb.get? C = some o) (hbD : ∃ o, hb.get? D = some o)
    (hbs : ∀ b o, hs.get? b = some o → hb.get? b = some o)
    (hR : ∀ h' tk q'' vs' k' m', Grow hs q h' q'' → h'.Ns C m' → m' x = some v0 → h'.get? D = some (listOf vs'.toArray k') → RepL q'' vs' (acc ++ ys.map fe) → (∀ b o, q' b = some o → q'' b = some o) → q'' C = none → q'' D = none →
      (∀ b o, b ≠ C → b ≠ D → b ∉ wr → h.get? b = some o → h'.get? b = some o) → (∀ b o, h.get? b = some o → q' b = none → q'' b = none) → R (.ok .next) { s with heap := h', toks := tk }) :
    codeAny (model pw w) A (.compStart (lc2 elt (.Name x px) i0 ifs (.Name y py) i1 scope pos) 1 (.ref I) (.ref D) (cEnv scope env C)) R { s with heap := h, toks := tk } := by
  have hCw : C ∉ wr := fun hm => by obtain ⟨o, e⟩ := hbC; rw [IT.new C hm] at e; cases e
  have hDw : D ∉ wr := fun hm => by obtain ⟨o, e⟩ := hbD; rw [IT.new D hm] at e; cases e
  have hCf : C ∉ fp := fun hm => by rcases IT.src C hm with h1 | ⟨o, h1⟩; exact hCw h1; rw [qC] at h1; cases h1
  have hDf : D ∉ fp := fun hm => by rcases IT.src D hm with h1 | ⟨o, h1⟩; exact hDw h1; rw [qD] at h1; cases h1
  have hws : ∀ b ∈ wr, hs.get? b = none := fun b hb' => by
    cases z : hs.get? b with
    | none => rfl
    | some o => have := hbs b o z; rw [IT.new b hb'] at this; cases this
  have loop : codeAny (model pw w) A (.compLoop (lc2 elt (.Name x px) i0 ifs (.Name y py) i1 scope pos) 1 (.ref I) (.ref D) (cEnv scope env C)) R { s with heap := h, toks := tk } := by
    refine loop_inner (fun kk s' => ∃ j h' tk' m' q'' vs' k', s' = { s with heap := h', toks := tk' } ∧ kk = ys.length + 1 - j ∧ j ≤ ys.length ∧ St j h' ∧ h'.Ns C m' ∧ m' x = some v0 ∧ h'.get? D = some (listOf vs'.toArray k') ∧
      RepL q'' vs' (acc ++ (ys.take j).map fe) ∧ Grow hs q h' q'' ∧ (∀ b o, q' b = some o → q'' b = some o) ∧ q'' C = none ∧ q'' D = none ∧ (∀ b o, b ≠ C → b ≠ D → b ∉ wr → h.get? b = some o → h'.get? b = some o) ∧
      (∀ b o, h.get? b = some o → q' b = none → q'' b = none)) ?_ (ys.length + 1)
      ⟨0, h, tk, m, q', vs, k, rfl, by omega, Nat.zero_le _, IT.start, hn, hm, hacc, by simpa using hrep, G, fun _ _ e => e, qC, qD, fun _ _ _ _ _ e => e, fun _ _ _ e => e⟩
    rintro kk s' ⟨j, h', tk', m', q'', vs', k', rfl, hkk, hj, hst, hns, hmx, hD', hrep', g, hle, hqC, hqD, hkeep, hstill⟩
    have hwr : ∀ b ∈ wr, q'' b = none := fun b hb' => by obtain ⟨o, ho⟩ := IT.live _ _ IT.start b hb'; exact hstill b o ho (IT.gh b hb')
    by_cases hlt : j < ys.length
    · refine IT.walks.item j _ _ _ (by rw [List.length_map]; exact hlt) hst fun v h2 tk2 hP hst2 hk2 => ?_
      obtain ⟨d, hd, rd⟩ := IT.item j v (by rw [List.length_map]; exact hlt) hP
      obtain ⟨b, hbj, rfl⟩ := map_get hd
      have g2 : Grow hs q h2 q'' := ⟨fun b o e => hk2 b o (fun mm => by rw [hws b mm] at e; cases e) (g.keep b o e), g.le, fun b o e => hk2 b o (fun mm => by rw [hwr b mm] at e; cases e) (g.sub b o e), g.fresh⟩
      refine wpAny_assign_Name (wpAny_storeName_local (lookup_relabel_local hy) (hns.at' fun o e => hk2 _ o hCw e) (fun h3 hn3 hs3 => ?_) (by show (scope.kind == .class || (scope.kind == .module && _)) = false; rw [hkind]; rfl))
      have g3 : Grow hs q h3 q'' := ⟨fun b o e => hs3.extBut b o (by rintro rfl; rw [hC] at e; cases e) (g2.keep b o e), g.le, fun b o e => hs3.extBut b o (by rintro rfl; rw [hqC] at e; cases e) (g2.sub b o e), g.fresh⟩
      have hst3 : St (j + 1) h3 := IT.walks.frame _ _ _ hst2 fun b hb' o e => hs3.extBut b o (by rintro rfl; exact hCf hb') e
      have hD3 : h3.get? D = some (listOf vs'.toArray k') := hs3.extBut _ _ hDC (hk2 _ _ hDw hD')
      have hx3 : (fun z => if z = y then some v else m' z) x = some v0 := by show (if x = y then _ else _) = _; rw [if_neg hxy]; exact hmx
      have X1 := ctx_comp X g3 hkind hfree hn3 hx hx3 (r0.mono hle)
      have X3 := ctx_add (y := y) (v := v) (d := hv b) X1 (.loc (lookup_relabel_local hy) hn3 (by show (if y = y then _ else _) = _; rw [if_pos rfl])) (rd.mono hle)
      refine (turn b (List.mem_of_getElem? hbj)).run A _ q'' _ _ RR X3 fun h5 tk5 q5 v5 g5 r5 => ?_
      obtain ⟨oC, hoC⟩ : ∃ o, h3.get? C = some o := let ⟨o, _, _, e, _⟩ := hn3; ⟨o, e⟩
      have hD5 := g5.keep _ _ hD3
      have qC5 := ghost_still g5 hoC hqC
      have qD5 := ghost_still g5 hD3 hqD
      have hlen : vs'.length ≤ 901000 := by
        rw [hrep'.length, List.length_append, List.length_map, ← hrep.length]
        have := List.length_take_le j ys; omega
      refine append_exact (s := { s with heap := h5, toks := tk5 }) hD5 (by rw [sizeLine_eq]; omega) fun h6 k6 hD6 hs6 => ?_
      have g35 := g3.trans g5
      have g6 : Grow hs q h6 q5 := ⟨fun b o e => hs6.extBut b o (by rintro rfl; rw [hD] at e; cases e) (g35.keep b o e), g35.le, fun b o e => hs6.extBut b o (by rintro rfl; rw [qD5] at e; cases e) (g35.sub b o e), g35.fresh⟩
      refine ⟨ys.length + 1 - (j + 1), by omega, j + 1, h6, tk5, _, q5, vs' ++ [v5], k6, rfl, rfl, hlt, ?_, (hn3.keeps g5.keep).sameBut hs6 (Ne.symm hDC), hx3, hD6, ?_, g6, fun b o e => g5.le _ _ (hle _ _ e), qC5, qD5, fun b o nC nD nw e => ?_, fun b o e e2 => ?_⟩
      · exact IT.walks.frame _ _ _ hst3 fun b hb' o e => hs6.extBut b o (by rintro rfl; exact hDf hb') (g5.keep b o e)
      · rw [List.take_add_one, hbj, List.map_append, ← List.append_assoc]
        exact (hrep'.mono g5.le).append (.cons r5 .nil)
      · exact hs6.extBut b o nD (g5.keep b o (hs3.extBut b o nC (hk2 b o nw (hkeep b o nC nD nw e))))
      · by_cases hbC' : b = C
        · subst hbC'; exact qC5
        · by_cases hbD' : b = D
          · subst hbD'; exact qD5
          · have q2 := hstill b o e e2
            by_cases hbw : b ∈ wr
            · obtain ⟨o', ho'⟩ := IT.live _ _ hst3 b hbw
              exact ghost_still g5 ho' q2
            · exact ghost_still g5 (hs3.extBut b o hbC' (hk2 b o hbw (hkeep b o hbC' hbD' hbw e))) q2
    · have hj' : j = ys.length := by omega
      subst hj'
      refine IT.walks.done _ _ _ (by rw [List.length_map]; exact hst) fun h2 tk2 hk2 => ?_
      refine hR h2 tk2 q'' vs' k' m' ⟨fun b o e => hk2 b o (fun mm => by rw [hws b mm] at e; cases e) (g.keep b o e), g.le, fun b o e => hk2 b o (fun mm => by rw [hwr b mm] at e; cases e) (g.sub b o e), g.fresh⟩
        (hns.at' fun o e => hk2 _ o hCw e) hmx (hk2 _ _ hDw hD') (by rwa [List.take_length] at hrep') hle hqC hqD (fun b o nC nD nw e => hk2 b o nw (hkeep b o nC nD nw e)) hstill
  exact start_inner loop (IT.walks.self 0 _ _ _ IT.start loop)
end
end Mine

/-! ## P56 -/
namespace Mine
theorem flat_len {α : Type} {f : α → List PV} {m : Nat} (h : ∀ a, (f a).length ≤ m) : ∀ xs : List α, (xs.flatMap f).length ≤ m * xs.length
  | [] => by simp
  | a :: r => by
    have := flat_len h r
    have h1 := h a
    rw [List.flatMap_cons, List.length_append, List.length_cons, Nat.mul_add, Nat.mul_one]; omega
section
variable {w : World} {n : Nat} {env : Env} {ρ : Rho}
theorem comp2_core {x y : Str} {px py : Pos} {i0 i1 elt : Expr} {ifs : List Expr} {scope : Scope} {pos : Pos} {α β : Type} {xs : List α} {gv : α → PV} {ok : α → Bool} {ys : α → List β} {hv : α → β → PV} {fe : α → β → PV} {RR : Value → Addr → Result → Shared → Prop}
    (hi : IT w n env ρ i0 (xs.map gv)) (hfree : freeOk scope env = true) (hcell : (scope.names.all fun y => y.2 != .cell) = true) (hkind : scope.kind = .function) (hx : scope.names.lookup x = some .local) (hy : scope.names.lookup y = some .local) (hxy : x ≠ y)
    (test : ∀ a ∈ xs, ∀ C, IFS w n (cEnv scope env C) (rho1 scope env ρ x (gv a)) ifs (ok a))
    (inner : ∀ a ∈ xs, ok a = true → ∀ C, IT w n (cEnv scope env C) (rho1 scope env ρ x (gv a)) i1 ((ys a).map (hv a)))
    (turn : ∀ a ∈ xs, ok a = true → ∀ b ∈ ys a, ∀ C, EV w n (cEnv scope env C) (upd (rho1 scope env ρ x (gv a)) y (.pers (hv a b))) elt (fe a b))
    (hsz : xs.length ≤ 800) (hsz2 : ∀ a, (ys a).length ≤ 1000) (hs1 : ∀ C x, foldedSetIterable i1 (cEnv scope env C) x = pure x) {A : Around} {s : Shared} {q : Gh} {E : Value → Shared → Prop} (R : Room n A) (X : Ctx w env ρ s.heap q)
    (hR : ∀ D C h' tk m' q' vs k, Grow s.heap q h' q' → h'.Ns C m' → s.heap.get? C = none → q' C = none → s.heap.get? D = none → q' D = none → D ≠ C → h'.get? D = some (listOf vs.toArray k) →
      RepL q' vs (xs.flatMap fun a => if ok a then (ys a).map (fe a) else []) → RR (.ref D) C (.ok .next) { s with heap := h', toks := tk }) :
    wpAny (model pw w) A (eval i0 env) (fun xv s₁ => wpAny (model pw w) A (pyIter xv) (fun it s₂ => wpAny (model pw w) A (newList []) (fun acc s₃ =>
      wpAny (model pw w) A (newFunctionEnv scope env.globals (clOf env scope.names []) [] env.qual none .none (some env)) (fun cenv s₄ =>
        codeAny (model pw w) A (.compStart (lc2 elt (.Name x px) i0 ifs (.Name y py) i1 scope pos) 0 it acc { cenv with scope := relabel scope env }) (RR acc cenv.locals) s₄) E s₃) E s₂) E s₁) E s := by
  refine hi.run A s q E _ R X fun h1 t1 q1 I fp wr P St g1 IT => ?_
  refine wpAny_newObj_type (wpAny_newFunctionEnv (fun y hy => by have := List.all_eq_true.mp hcell y hy; simpa using this) (by intro y hy; simp at hy) (fun h₁ hns₁ hsb₁ => ?_) hkind)
  dsimp only at hns₁ hsb₁ ⊢
  generalize hH2 : h1.push { cls := .type "list", dict := none, data := .seq ([] : List Value).toArray } = H2 at hns₁ hsb₁ ⊢
  have hC : H2.objs.size = h1.objs.size + 1 := by rw [← hH2, Heap.size_push]
  generalize hDe : h1.objs.size = D at *
  generalize hCe : H2.objs.size = C at *
  have hDC : D ≠ C := by omega
  have ltD : ∀ b o, h1.get? b = some o → b < D := fun b o e => hDe ▸ Heap.lt_size e
  have neC : ∀ {b : Addr}, b < D → b ≠ C := fun {b} h => Nat.ne_of_lt (Nat.lt_of_lt_of_le h (hC ▸ Nat.le_succ D))
  have old : ∀ b o, h1.get? b = some o → h₁.get? b = some o := fun b o e => hsb₁.extBut b o (neC (ltD b o e)) (Heap.get?_push_of_some _ (hH2 ▸ Heap.get?_push_of_some _ e))
  have hD1 : h1.get? D = none := by rw [← hDe]; exact get_size_none _
  have hC1 : h1.get? C = none := by
    cases e : h1.get? C with
    | none => rfl
    | some o => exact absurd rfl (neC (ltD _ _ e))
  have n1 : ∀ {b}, h1.get? b = none → s.heap.get? b = none ∧ q1 b = none := fun {b} e => by
    constructor
    · cases z : s.heap.get? b with
      | none => rfl
      | some o => rw [g1.keep _ _ z] at e; cases e
    · cases z : q1 b with
      | none => rfl
      | some o => rw [g1.sub _ _ z] at e; cases e
  have hwrlt : ∀ b ∈ wr, b < D := fun b hb => let ⟨o, ho⟩ := IT.live _ _ IT.start b hb; ltD b o ho
  have hfplt : ∀ b ∈ fp, b < D := fun b hb => by
    rcases IT.src b hb with h | ⟨o, h⟩
    · exact hwrlt b h
    · exact ltD b o (g1.sub _ _ h)
  have hacc : h₁.get? D = some (listOf ([] : List Value).toArray 0) := hsb₁.extBut _ _ hDC (Heap.get?_push_of_some _ (hH2 ▸ hDe ▸ Heap.get?_push_size _ rfl))
  have hst₁ : St 0 h₁ := IT.walks.frame _ _ _ IT.start fun b _ o e => old b o e
  have g₁ : Grow s.heap q h₁ q1 := ⟨fun b o e => old b o (g1.keep b o e), g1.le, fun b o e => old b o (g1.sub b o e), g1.fresh⟩
  have hfl : ∀ l : List α, (l.flatMap fun a => if ok a then (ys a).map (fe a) else []).length ≤ 1000 * l.length := flat_len fun a => by
    split
    · rw [List.length_map]; exact hsz2 a
    · exact Nat.zero_le _
  have loop : codeAny (model pw w) A (.compLoop (lc2 elt (.Name x px) i0 ifs (.Name y py) i1 scope pos) 0 (.ref I) (.ref D) (cEnv scope env C)) (RR (.ref D) C) { s with heap := h₁, toks := t1 + ([] : List (Str × Value)).length } := by
    refine loop_outer (fun k s' => ∃ i h' tk m' q' vs kk, s' = { s with heap := h', toks := tk } ∧ k = xs.length + 1 - i ∧ i ≤ xs.length ∧ St i h' ∧ h'.Ns C m' ∧ h'.get? D = some (listOf vs.toArray kk) ∧
      RepL q' vs ((xs.take i).flatMap fun a => if ok a then (ys a).map (fe a) else []) ∧ Grow s.heap q h' q' ∧ (∀ b o, q1 b = some o → q' b = some o) ∧ (∀ b ∈ wr, q' b = none) ∧ q' C = none ∧ q' D = none) ?_ (xs.length + 1)
      ⟨0, h₁, _, _, q1, [], 0, rfl, by omega, Nat.zero_le _, hst₁, hns₁, hacc, .nil, g₁, fun _ _ e => e, IT.gh, (n1 hC1).2, (n1 hD1).2⟩ (by intro _; rfl) (hs1 C)
    rintro k s' ⟨i, h', tk, m', q', vs, kk, rfl, hk, hile, hst, hns, hD, hrep, g, hle, hwr, hqC, hqD⟩
    by_cases hlt : i < xs.length
    · refine IT.walks.item i _ _ _ (by rw [List.length_map]; exact hlt) hst fun v h2 tk2 hP hst2 hk2 => ?_
      obtain ⟨d, hd, rd⟩ := IT.item i v (by rw [List.length_map]; exact hlt) hP
      obtain ⟨a, ha, rfl⟩ := map_get hd
      have hCw : C ∉ wr := fun h => neC (hwrlt _ h) rfl
      have hDw : D ∉ wr := fun h => Nat.lt_irrefl _ (hwrlt _ h)
      have g2 : Grow s.heap q h2 q' := ⟨fun b o e => hk2 b o (fun m => by have := IT.new b m; rw [e] at this; cases this) (g.keep b o e), g.le, fun b o e => hk2 b o (fun m => by rw [hwr b m] at e; cases e) (g.sub b o e), g.fresh⟩
      refine wpAny_assign_Name (wpAny_storeName_local (lookup_relabel_local hx) (hns.at' fun o e => hk2 _ o hCw e) (fun h3 hn3 hs3 => ?_) (by show (scope.kind == .class || (scope.kind == .module && _)) = false; rw [hkind]; rfl))
      have g3 : Grow s.heap q h3 q' := ⟨fun b o e => hs3.extBut b o (by rintro rfl; rw [(n1 hC1).1] at e; cases e) (g2.keep b o e), g.le, fun b o e => hs3.extBut b o (by rintro rfl; rw [hqC] at e; cases e) (g2.sub b o e), g.fresh⟩
      have hst3 : St (i + 1) h3 := IT.walks.frame _ _ _ hst2 fun b hb o e => hs3.extBut b o (neC (hfplt b hb)) e
      have hD3 : h3.get? D = some (listOf vs.toArray kk) := hs3.extBut _ _ hDC (hk2 _ _ hDw hD)
      have ham := List.mem_of_getElem? ha
      have rd' := rd.mono hle
      have hmx : (fun z => if z = x then some v else m' z) x = some v := if_pos rfl
      have X3 := ctx_comp X g3 hkind hfree hn3 hx hmx rd'
      have hsplit : xs.take (i + 1) = xs.take i ++ [a] := by rw [List.take_add_one, ha]; rfl
      have live3 : ∀ b ∈ wr, ∃ o, h3.get? b = some o := fun b hb => IT.live _ _ hst3 b hb
      obtain ⟨oC, hoC⟩ : ∃ o, h3.get? C = some o := let ⟨o, _, _, e, _⟩ := hn3; ⟨o, e⟩
      refine (test a ham C).run A _ q' _ _ R X3 fun h4 tk4 q4 g4 => ?_
      have hst4 : St (i + 1) h4 := IT.walks.frame _ _ _ hst3 fun b _ o e => g4.keep b o e
      have qC4 := ghost_still g4 hoC hqC
      have qD4 := ghost_still g4 hD3 hqD
      cases hp : ok a with
      | false =>
        simp only [Bool.false_eq_true, if_false]
        refine ⟨xs.length + 1 - (i + 1), by omega, i + 1, h4, tk4, _, q4, vs, kk, rfl, rfl, hlt, hst4, hn3.keeps g4.keep, g4.keep _ _ hD3, ?_, g3.trans g4, fun b o e => g4.le _ _ (hle _ _ e), fun b hb => ?_, qC4, qD4⟩
        · rw [hsplit, List.flatMap_append]; simpa [hp] using hrep.mono g4.le
        · obtain ⟨o, ho⟩ := live3 b hb; exact ghost_still g4 ho (hwr b hb)
      | true =>
        rw [if_pos rfl]
        have X4 := X3.grow g4
        refine (inner a ham hp C).run A { s with heap := h4, toks := tk4 } q4 _ _ R X4 fun h5 tk5 q5 I2 fp2 wr2 P2 St2 g5 IT2 => ?_
        have g45 := g4.trans g5
        have G5 := g3.trans g45
        have hC4 := g4.keep _ _ hoC
        have hD4 := g4.keep _ _ hD3
        have qC5 := ghost_still g5 hC4 qC4
        have qD5 := ghost_still g5 hD4 qD4
        have hvs : vs.length ≤ 900000 := by
          have e1 := hrep.length
          have e2 := hfl (xs.take i)
          have e3 := List.length_take_le i xs
          omega
        refine inner_loop (s := s) (tk := tk5) (k := kk) (acc := (xs.take i).flatMap fun a => if ok a then (ys a).map (fe a) else []) (m := fun z => if z = x then some v else m' z) (vs := vs) hkind hfree hx hy hxy (fun b hb => turn a ham hp b hb C) (hsz2 a) hvs R X (n1 hC1).1 (n1 hD1).1 hDC G5 (hn3.keeps g45.keep) hmx (rd'.mono g45.le) (g45.keep _ _ hD3) (hrep.mono g45.le) qC5 qD5 IT2 ⟨_, hC4⟩ ⟨_, hD4⟩ (g3.trans g4).keep ?_
        intro h6 tk6 q6 vs6 k6 m6 G6 hn6 hm6 hD6 hr6 le6 qC6 qD6 keep6 still6
        refine ⟨xs.length + 1 - (i + 1), by omega, i + 1, h6, tk6, m6, q6, vs6, k6, rfl, rfl, hlt, ?_, hn6, hD6, ?_, G6, fun b o e => le6 _ _ (g45.le _ _ (hle _ _ e)), fun b hb => ?_, qC6, qD6⟩
        · refine IT.walks.frame _ _ _ hst4 fun b hb o e => keep6 b o (neC (hfplt b hb)) (Nat.ne_of_lt (hfplt b hb)) (fun mm => ?_) (g5.keep b o e)
          have := IT2.new b mm
          rw [e] at this; cases this
        · rw [hsplit, List.flatMap_append]
          simpa [hp] using hr6
        · obtain ⟨o, ho⟩ := live3 b hb
          exact still6 b o (g45.keep b o ho) (ghost_still g45 ho (hwr b hb))
    · have hi' : i = xs.length := by omega
      subst hi'
      have hCw : C ∉ wr := fun h => neC (hwrlt _ h) rfl
      have hDw : D ∉ wr := fun h => Nat.lt_irrefl _ (hwrlt _ h)
      refine IT.walks.done _ _ _ (by rw [List.length_map]; exact hst) fun h2 tk2 hk2 => ?_
      refine hR D C h2 tk2 m' q' vs kk ⟨fun b o e => hk2 b o (fun m => by have := IT.new b m; rw [e] at this; cases this) (g.keep b o e), g.le, fun b o e => hk2 b o (fun m => by rw [hwr b m] at e; cases e) (g.sub b o e), g.fresh⟩
        (hns.at' fun o e => hk2 _ o hCw e) (n1 hC1).1 hqC (n1 hD1).1 hqD hDC (hk2 _ _ hDw hD) ?_
      rwa [List.take_length] at hrep
  exact codeAny_compStart_list loop (IT.walks.self 0 _ _ _ hst₁ loop)
/-- [elt for x in i0 if .. for y in i1] -/
theorem evo_comp2 {x y : Str} {px py : Pos} {i0 i1 elt : Expr} {ifs : List Expr} {scope : Scope} {pos : Pos} {α β : Type} {xs : List α} (gv : α → PV) (ok : α → Bool) (ys : α → List β) (hv : α → β → PV) (fe : α → β → PV)
    (hi : IT w n env ρ i0 (xs.map gv)) (test : ∀ a ∈ xs, ∀ C, IFS w n (cEnv scope env C) (rho1 scope env ρ x (gv a)) ifs (ok a))
    (inner : ∀ a ∈ xs, ok a = true → ∀ C, IT w n (cEnv scope env C) (rho1 scope env ρ x (gv a)) i1 ((ys a).map (hv a)))
    (turn : ∀ a ∈ xs, ok a = true → ∀ b ∈ ys a, ∀ C, EV w n (cEnv scope env C) (upd (rho1 scope env ρ x (gv a)) y (.pers (hv a b))) elt (fe a b))
    (hsz : xs.length ≤ 800) (hsz2 : ∀ a, (ys a).length ≤ 1000) (hs1 : ∀ C x, foldedSetIterable i1 (cEnv scope env C) x = pure x := by intro _ _; rfl)
    (hfree : freeOk scope env = true := by rfl) (hcell : (scope.names.all fun y => y.2 != .cell) = true := by rfl) (hkind : scope.kind = .function := by rfl) (hx : scope.names.lookup x = some .local := by rfl) (hy : scope.names.lookup y = some .local := by rfl) (hxy : x ≠ y := by decide)
    (hnm : namesOk scope = true := by rfl) (hs : ∀ x, foldedSetIterable i0 env x = pure x := by intro _; rfl) : EVO w n env ρ (.ListComp elt [⟨.Name x px, i0, ifs, 0⟩, ⟨.Name y py, i1, [], 0⟩] scope pos) (xs.flatMap fun a => if ok a then (ys a).map (fe a) else []) := by
  refine ⟨fun A s q E Q R X k => ?_⟩
  rw [eval_ListComp]
  refine wpAny_comprehension_free (use := none) rfl hs (closureFor_cl hfree) hkind (namesOk_ hnm) ?_
  refine comp2_core (RR := fun acc C => compPost (model pw w) A E none Q acc C) hi hfree hcell hkind hx hy hxy test inner turn hsz hsz2 hs1 R X ?_
  intro D C h' tk m' q' vs kk g hn hC qC hD qD hDC ho r
  refine ⟨m', hn, fun h'' hs'' => ?_⟩
  exact k h'' tk q' D vs kk (g.dropC hs'' hC qC) (hs''.extBut _ _ hDC ho) r hD qD
end
end Mine

/-! ## P57 -/
set_option maxHeartbeats 400000
namespace Mine
section
variable {w : World} {n : Nat} {env : Env} {ρ : Rho}
theorem ev_bytes {x : List UInt8} {k : Nat} {pos : Pos} : EV w n env ρ (.Constant (.bytes x) k pos) (.bytes x.toArray) := ⟨fun A s q E Q r C kk => PySem.W.Constant_bytes (kk s.heap _ q _ (.refl C.sub) (.bytes _ _))⟩
/-- a byte of bytes -/
theorem ev_byteAt {e i : Expr} {pos : Pos} {l : List UInt8} {j : Int} (he : EV w n env ρ e (.bytes l.toArray)) (hi : EV w n env ρ i (.int j)) (hl : l.length ≤ 1000000) (h0 : 0 ≤ j) (h1 : j < l.length)
    (hs : ∀ t u, subscripted i false (.bytes l.toArray t) (.int j u) = operate [.bytes l.toArray t, .int j u] (getItem (.bytes l.toArray t) (.int j u)) := by intro _ _; with_unfolding_all rfl) : EV w n env ρ (.Subscript e i pos) (.int (l.getD j.toNat 0).toNat) := by
  refine ⟨fun A s q E Q R C k => ?_⟩
  refine Subscript_ (he.run A s q E _ R C fun h1' t1 q1 v1 g1 r1 => ?_)
  refine hi.run A _ q1 E _ R (C.grow g1) fun h2 t2 q2 v2 g2 r2 => ?_
  cases r1; cases r2
  exact tail_any (s := { s with heap := h2, toks := t2 }) (typeIs_bytes _ _ _) FB.slot_bytes_getitem.lookup (PySem.W.getItem_bytes (by omega) h0 h1 (k h2 _ q2 _ (g1.trans g2) (.int _ _))) (hs _ _)
theorem op_pow0 {a : Int} : Gives2 w n (binaryOp .Pow) (.int a) (.int 0) (.int 1) := by
  refine ⟨fun A s q E Q va vb R sub ra rb k => ?_⟩
  cases ra; cases rb
  exact AutoIntOps.pow_0 (by decide) (by decide) (k s.heap _ q _ (.refl sub) (.int _ _))
theorem op_pow16 : Gives2 w n (binaryOp .Pow) (.int 16) (.int 1) (.int 16) := by
  refine ⟨fun A s q E Q va vb R sub ra rb k => ?_⟩
  cases ra; cases rb
  exact AutoIntOps.pow_4 (by decide) (by decide) (by decide) (by decide) (by decide +kernel) (k s.heap _ q _ (.refl sub) (.int _ _))
theorem it_bytesL {e : Expr} {l : List UInt8} (he : EV w n env ρ e (.bytes l.toArray)) : IT w n env ρ e (l.map fun c => .int c.toNat) := it_bytes he
theorem bytes_ints_ {ns : List Int} (hr : ∀ n ∈ ns, 0 ≤ n ∧ n < 256) (hl : ns.length ≤ 100000) : FN w n (.type "bytes") [.list (ns.map .int)] [] (.bytes (byteArr ns)) := by
  refine ⟨fun A s q E Q vs ks R B r rk hks k => ?_⟩
  cases ks with
  | cons a b => cases hks
  | nil =>
  cases r with
  | cons h r' => cases r' with
    | nil => cases h with
      | @list a vs ds m h r =>
        have hi := ints_of r
        refine call_bytes_ints (isList_of (B.sub _ _ h)) hi hr (by rw [hi.length, sizeLine_eq]; omega) R.handled fun h' t kk hk => ?_
        exact k h' kk q _ (Grow.heap B.sub hk) (.bytes _ _)
end
noncomputable def hexTab : List UInt8 := [48, 49, 50, 51, 52, 53, 54, 55, 56, 57, 97, 98, 99, 100, 101, 102]
noncomputable def hexD (k : Nat) : Int := (hexTab.getD k 0).toNat
noncomputable def hexInts (l : List UInt8) : List Int := l.flatMap fun c => [hexD (c.toNat / 16), hexD (c.toNat % 16)]
theorem hexD_lt : ∀ k, k < 16 → 0 ≤ hexD k ∧ hexD k < 128 := by decide
theorem hexInts_lt {l : List UInt8} : ∀ n ∈ hexInts l, 0 ≤ n ∧ n < 128 := by
  intro n hn
  obtain ⟨c, _, hc⟩ := List.mem_flatMap.mp hn
  have : c.toNat < 256 := c.toNat_lt
  simp only [List.mem_cons, List.not_mem_nil, or_false] at hc
  rcases hc with rfl | rfl
  · exact hexD_lt _ (by omega)
  · exact hexD_lt _ (by omega)
theorem hexInts_len (l : List UInt8) : (hexInts l).length = 2 * l.length := by
  induction l with
  | nil => rfl
  | cons a r ih => simp only [hexInts, List.flatMap_cons, List.length_append, List.length_cons, List.length_nil] at ih ⊢; omega
theorem hexInts_pv (l : List UInt8) : (l.flatMap fun c => if true = true then ([1, 0] : List Int).map (fun k => PV.int (hexD ((c.toNat / 16 ^ k.toNat) % 16))) else []) = (hexInts l).map .int := by
  unfold hexInts
  rw [List.map_flatMap]
  congr 1
  funext c
  have : c.toNat < 256 := c.toNat_lt
  have h1 : c.toNat / 16 % 16 = c.toNat / 16 := Nat.mod_eq_of_lt (by omega)
  simp [h1]
section
variable {w : World} {n : Nat}
theorem noPylong {a b : Int} (hb : b = 1 ∨ b = 16) : Builtin.divisionGoesByPylong a b = false := by
  rcases hb with rfl | rfl <;> (unfold Builtin.divisionGoesByPylong; simp; intro h; exfalso; revert h; decide +kernel)
theorem fn_hexlify {l : List UInt8} (hl : l.length ≤ 100) : FN w 1 (.ref 26) [.bytes l.toArray] [] (.bytes (byteArr (hexInts l))) := by
  refine fn_intro (ps := [("data", .bytes l.toArray)]) (out := .ret (.bytes (byteArr (hexInts l)))) (f := 26) (by rfl) (by rfl) ?_ ["data"] (by rfl) (by decide) rfl rfl rfl ?_ rfl
  · intro s q vs B r
    cases r with
    | cons h1 r => cases r with
      | nil => exact ⟨_, BindsTo.of_eq rfl, .cons h1 .nil⟩
  · intro L
    refine xs_cons (x_assign ev_bytes rfl) ?_
    refine xs_one (x_return (ev_callT (g_bytes rfl) (evs_cons (EVO.ev (ds := (hexInts l).map .int) ?_) evs_nil) (bytes_ints_ (fun n hn => by have := hexInts_lt n hn; omega) (by rw [hexInts_len]; omega))))
    rw [← hexInts_pv]
    refine evo_comp2 (xs := l) (fun c => .int c.toNat) (fun _ => true) (fun _ => [1, 0]) (fun _ k => .int k) (fun c k => .int (hexD ((c.toNat / 16 ^ k.toNat) % 16))) ?_ ?_ ?_ ?_ (by omega) (fun _ => by decide)
    · exact it_bytesL (ev_name rfl)
    · intro a ha C
      exact ifs_nil
    · intro a ha _ C
      exact it_tuple (ev_tuple (evs_cons ev_int (evs_cons ev_int evs_nil)) (by decide))
    · intro a ha _ b hb C
      have hk : a.toNat < 256 := a.toNat_lt
      have h16 : (b = 1 ∨ b = 0) := by simpa using hb
      have hA : ((a.toNat : Int).fdiv 16).fmod 16 = ((a.toNat / 16 ^ 1 % 16 : Nat) : Int) := by
        rw [Int.fdiv_eq_ediv_of_nonneg _ (by decide), Int.fmod_eq_emod_of_nonneg _ (by decide)]; omega
      have hB : ((a.toNat : Int).fdiv 1).fmod 16 = ((a.toNat / 16 ^ 0 % 16 : Nat) : Int) := by
        rw [Int.fdiv_eq_ediv_of_nonneg _ (by decide), Int.fmod_eq_emod_of_nonneg _ (by decide)]; omega
      rcases h16 with rfl | rfl
      · refine EV.eq (ev_byteAt (ev_name rfl) (ev_bin (ev_bin (ev_name rfl) (ev_bin ev_int (ev_name rfl) op_pow16) (op_div_int (by decide) (noPylong (.inr rfl)))) ev_int (op_mod_int (by decide))) (by decide) ?_ ?_) ?_
        · rw [hA]; omega
        · rw [hA]; show _ < (16 : Int); omega
        · rw [hA]; rfl
      · refine EV.eq (ev_byteAt (ev_name rfl) (ev_bin (ev_bin (ev_name rfl) (ev_bin ev_int (ev_name rfl) op_pow0) (op_div_int (by decide) (noPylong (.inl rfl)))) ev_int (op_mod_int (by decide))) (by decide) ?_ ?_) ?_
        · rw [hB]; omega
        · rw [hB]; show _ < (16 : Int); omega
        · rw [hB]; rfl
end
end Mine

/-! ## P58 -/
namespace Mine
/-! # zip of two plain texts of one length -/
noncomputable abbrev SI (h : Heap) (i : Addr) (x : Str) (t : Tok) (k : Nat) : Prop := h.IsStrIter i "str_ascii_iterator" x t k
section
variable {prog : Program} {w : World} {A : Around} {E : Value → Shared → Prop} {s : Shared}
theorem SI.at' {h h' : Heap} {i : Addr} {x : Str} {t : Tok} {k : Nat} (a : SI h i x t k) (hk : ∀ o, h.get? i = some o → h'.get? i = some o) : SI h' i x t k := let ⟨o, ho, r⟩ := a; ⟨o, hk o ho, r⟩
theorem zs_item {z TI TO i1 i2 l1 l2 : Addr} {k c1 c2 : Nat} {x y : Str} {t u : Tok} {a b : Value} {Q : Value → Shared → Prop} (D : ZipApart z TI TO i1 i2 l1 l2)
    (hz : IsZip s.heap z TI TO .none) (hTI : IsPair s.heap TI (.ref i1) (.ref i2)) (hTO : IsPair s.heap TO a b)
    (h1 : SI s.heap i1 x t k) (h2 : SI s.heap i2 y u k) (hx : x.cps[k]? = some c1) (hy : y.cps[k]? = some c2)
    (hQ : ∀ h' tk v1 v2, (∃ t1, v1 = .str ⟨#[c1]⟩ t1) → (∃ t2, v2 = .str ⟨#[c2]⟩ t2) → IsZip h' z TI TO (rawInt s.heap.objs.size) → IsPair h' TO v1 v2 → SI h' i1 x t (k + 1) → SI h' i2 y u (k + 1) → IsPair h' s.heap.objs.size v1 v2 → h'.objs.size = s.heap.objs.size + 1 →
      (∀ c o, c ≠ z → c ≠ TO → c ≠ i1 → c ≠ i2 → s.heap.get? c = some o → h'.get? c = some o) → Q (.ref s.heap.objs.size) { s with heap := h', toks := tk }) :
    wpAny (model prog w) A (Builtin.«zip.__next__» ⟨[.ref z], []⟩) (fun fin s' => ∃ v, fin = .done (.ret v) ∧ Q v s') E s := by
  show wpAny _ _ (field (.ref z) 2 >>= _) _ _ _
  refine wpAny_bind (wpAny_field hz rfl (x := .bool false) rfl ?_)
  show wpAny _ _ (field (.ref z) 3 >>= _) _ _ _
  refine wpAny_bind (wpAny_field hz rfl (x := .ref TI) rfl ?_)
  refine wpAny_bind (wpAny_seqItems hTI rfl ?_)
  show wpAny _ _ (Builtin.SmallTypes.ownedTupleIsFree (.ref z) >>= _) _ _ _
  refine wpAny_bind ?_
  unfold Builtin.SmallTypes.ownedTupleIsFree
  refine wpAny_bind (wpAny_field hz rfl (x := .none) rfl (wpAny_pure ?_))
  simp only [if_true]
  refine wpAny_bind (wpAny_rule ?_)
  refine wpAny_bind (wpAny_field hz rfl (x := .ref TO) rfl ?_)
  refine wpAny_bind (wpAny_setField_rec hz (by simp) fun h₁ hz₁ hs₁ => ?_)
  replace hz₁ : IsZip h₁ z TI TO .ellipsis := hz₁
  refine wpAny_bind ?_
  simp only [List.zipIdx_cons, List.zipIdx_nil, List.forIn_cons, List.forIn_nil]
  refine wpAny_bind (wpAny_bind (wpAny_onRaise ?_))
  show wpAny _ _ (Builtin.SmallTypes.nextOf (.ref i1) >>= _) _ _ _
  refine wpAny_bind (wpAny_nextOf_ascii_item (h1.extBut hs₁.extBut D.i1z) hx fun h₂ h1₂ hs₂ => wpAny_pure ?_)
  dsimp only
  generalize hv1 : Value.str ⟨#[c1]⟩ s.toks = v1
  generalize htk1 : s.toks + 1 = tk1
  have hTO₂ : IsPair h₂ TO a b := hs₂.extBut _ _ D.TOi1 (hs₁.extBut _ _ D.TOz hTO)
  refine wpAny_bind (wpAny_seqItems hTO₂ rfl ?_)
  refine wpAny_bind (wpAny_updateSeq_pair hTO₂ fun h₃ hTO₃ hs₃ => ?_)
  replace hTO₃ : IsPair h₃ TO v1 b := hTO₃
  refine wpAny_bind (wpAny_letGo (wpAny_pure ?_))
  refine wpAny_bind (wpAny_bind (wpAny_onRaise ?_))
  show wpAny _ _ (Builtin.SmallTypes.nextOf (.ref i2) >>= _) _ _ _
  refine wpAny_bind (wpAny_nextOf_ascii_item (((h2.extBut hs₁.extBut D.i2z).extBut hs₂.extBut D.i12.symm).extBut hs₃.extBut D.TOi2.symm) hy fun h₄ h2₄ hs₄ => wpAny_pure ?_)
  dsimp only
  generalize hv2 : Value.str ⟨#[c2]⟩ _ = v2
  have hTO₄ : IsPair h₄ TO v1 b := hs₄.extBut _ _ D.TOi2 hTO₃
  refine wpAny_bind (wpAny_seqItems hTO₄ rfl ?_)
  refine wpAny_bind (wpAny_updateSeq_pair hTO₄ fun h₅ hTO₅ hs₅ => ?_)
  replace hTO₅ : IsPair h₅ TO v1 v2 := hTO₅
  refine wpAny_bind (wpAny_letGo (wpAny_pure (wpAny_pure ?_)))
  refine wpAny_bind (wpAny_seqItems hTO₅ rfl ?_)
  refine wpAny_bind (wpAny_newTuple ?_)
  have hsz : h₅.objs.size = s.heap.objs.size := by rw [hs₅.1, hs₄.1, hs₃.1, hs₂.1, hs₁.1]
  have hz₅ : IsZip h₅ z TI TO .ellipsis := hs₅.extBut _ _ D.TOz.symm (hs₄.extBut _ _ D.i2z.symm (hs₃.extBut _ _ D.TOz.symm (hs₂.extBut _ _ D.i1z.symm hz₁)))
  have hk₅ : ∀ c o, c ≠ z → c ≠ TO → c ≠ i1 → c ≠ i2 → s.heap.get? c = some o → h₅.get? c = some o := fun c o c1 c2 c3 c4 e =>
    hs₅.extBut _ _ c2 (hs₄.extBut _ _ c4 (hs₃.extBut _ _ c2 (hs₂.extBut _ _ c3 (hs₁.extBut _ _ c1 e))))
  have h1₅ : SI h₅ i1 x t (k + 1) := ((h1₂.extBut hs₃.extBut D.TOi1.symm).extBut hs₄.extBut D.i12).extBut hs₅.extBut D.TOi1.symm
  have h2₅ : SI h₅ i2 y u (k + 1) := h2₄.extBut hs₅.extBut D.TOi2.symm
  have hzlt : z < h₅.objs.size := Heap.lt_size hz₅
  show wpAny _ _ (Builtin.SmallTypes.ownedTupleHandOut (.ref z) (.ref h₅.objs.size) >>= _) _ _ _
  refine wpAny_bind ?_
  unfold Builtin.SmallTypes.ownedTupleHandOut
  have hz₆ : IsZip (h₅.push { cls := .type "tuple", data := .seq #[v1, v2] }) z TI TO .ellipsis := Heap.get?_push_of_some _ hz₅
  refine wpAny_bind (wpAny_setField_rec hz₆ (by simp) fun h₇ hz₇ hs₇ => ?_)
  replace hz₇ : IsZip h₇ z TI TO (rawInt h₅.objs.size) := hz₇
  refine wpAny_setField_rec hz₇ (by simp) fun h₈ hz₈ hs₈ => ?_
  replace hz₈ : IsZip h₈ z TI TO (rawInt h₅.objs.size) := hz₈
  have up : ∀ c o, c ≠ z → h₅.get? c = some o → h₈.get? c = some o := fun c o c1 e => hs₈.extBut _ _ c1 (hs₇.extBut _ _ c1 (Heap.get?_push_of_some _ e))
  have hT₈ : IsPair h₈ h₅.objs.size v1 v2 := hs₈.extBut _ _ (Nat.ne_of_gt hzlt) (hs₇.extBut _ _ (Nat.ne_of_gt hzlt) (Heap.get?_push_size _ rfl))
  have hz8 : h₈.objs.size = h₅.objs.size + 1 := by rw [hs₈.1, hs₇.1, Heap.size_push]
  rw [hsz] at hz₈ hT₈ hz8
  refine wpAny_pure ⟨_, rfl, ?_⟩
  show Q (.ref h₅.objs.size) _
  rw [hsz]
  exact hQ h₈ _ v1 v2 ⟨_, hv1.symm⟩ ⟨_, hv2.symm⟩ hz₈ (up _ _ D.TOz hTO₅) (h1₅.at' fun o e => up _ o D.i1z e) (h2₅.at' fun o e => up _ o D.i2z e) hT₈ hz8 fun c o c1 c2 c3 c4 e => up c o c1 (hk₅ c o c1 c2 c3 c4 e)
theorem zs_end {z TI TO i1 i2 l1 l2 : Addr} {k : Nat} {x y : Str} {t u : Tok} {a b : Value} {Q : Fin → Shared → Prop} (hh : A.handled = none) (D : ZipApart z TI TO i1 i2 l1 l2)
    (hz : IsZip s.heap z TI TO .none) (hTI : IsPair s.heap TI (.ref i1) (.ref i2)) (hTO : IsPair s.heap TO a b)
    (h1 : SI s.heap i1 x t k) (hx : x.cps[k]? = none)
    (hE : ∀ h' e, (∀ c o, c ≠ z → c ≠ TO → c ≠ i1 → c ≠ i2 → s.heap.get? c = some o → h'.get? c = some o) → (∃ o, h'.get? e = some o ∧ o.cls = .type "StopIteration") → E (.ref e) { s with heap := h' }) :
    wpAny (model prog w) A (Builtin.«zip.__next__» ⟨[.ref z], []⟩) Q E s := by
  show wpAny _ _ (field (.ref z) 2 >>= _) _ _ _
  refine wpAny_bind (wpAny_field hz rfl (x := .bool false) rfl ?_)
  show wpAny _ _ (field (.ref z) 3 >>= _) _ _ _
  refine wpAny_bind (wpAny_field hz rfl (x := .ref TI) rfl ?_)
  refine wpAny_bind (wpAny_seqItems hTI rfl ?_)
  show wpAny _ _ (Builtin.SmallTypes.ownedTupleIsFree (.ref z) >>= _) _ _ _
  refine wpAny_bind ?_
  unfold Builtin.SmallTypes.ownedTupleIsFree
  refine wpAny_bind (wpAny_field hz rfl (x := .none) rfl (wpAny_pure ?_))
  simp only [if_true]
  refine wpAny_bind (wpAny_rule ?_)
  refine wpAny_bind (wpAny_field hz rfl (x := .ref TO) rfl ?_)
  refine wpAny_bind (wpAny_setField_rec hz (by simp) fun h₁ hz₁ hs₁ => ?_)
  replace hz₁ : IsZip h₁ z TI TO .ellipsis := hz₁
  refine wpAny_bind ?_
  simp only [List.zipIdx_cons, List.zipIdx_nil, List.forIn_cons, List.forIn_nil]
  refine wpAny_bind (wpAny_bind (wpAny_onRaise ?_))
  show wpAny _ _ (Builtin.SmallTypes.nextOf (.ref i1) >>= _) _ _ _
  refine wpAny_bind (wpAny_nextOf_ascii_end hh (h1.extBut hs₁.extBut D.i1z) hx fun h₂ e hs₂ he => ?_)
  obtain ⟨oe, hoe, hce⟩ := he
  have hz₂ : IsZip h₂ z TI TO .ellipsis := hs₂ _ _ D.i1z.symm hz₁
  have hez : e ≠ z := fun x => by subst x; rw [hz₂] at hoe; cases hoe; simp at hce
  exact wpAny_setField_rec hz₂ (by simp) fun h₃ _ hs₃ => hE h₃ e (fun c o c1 _ c3 _ x => hs₃.extBut _ _ c1 (hs₂ _ _ c3 (hs₁.extBut _ _ c1 x))) ⟨oe, hs₃.extBut _ _ hez hoe, hce⟩
theorem next_zs_item {z TI TO i1 i2 l1 l2 : Addr} {k c1 c2 : Nat} {x y : Str} {t u : Tok} {a b : Value} {Q : Option Value → Shared → Prop} (D : ZipApart z TI TO i1 i2 l1 l2)
    (hz : IsZip s.heap z TI TO .none) (hTI : IsPair s.heap TI (.ref i1) (.ref i2)) (hTO : IsPair s.heap TO a b)
    (h1 : SI s.heap i1 x t k) (h2 : SI s.heap i2 y u k) (hx : x.cps[k]? = some c1) (hy : y.cps[k]? = some c2)
    (hQ : ∀ h' tk v1 v2, (∃ t1, v1 = .str ⟨#[c1]⟩ t1) → (∃ t2, v2 = .str ⟨#[c2]⟩ t2) → IsZip h' z TI TO (rawInt s.heap.objs.size) → IsPair h' TO v1 v2 → SI h' i1 x t (k + 1) → SI h' i2 y u (k + 1) → IsPair h' s.heap.objs.size v1 v2 → h'.objs.size = s.heap.objs.size + 1 →
      (∀ c o, c ≠ z → c ≠ TO → c ≠ i1 → c ≠ i2 → s.heap.get? c = some o → h'.get? c = some o) → Q (some (.ref s.heap.objs.size)) { s with heap := h', toks := tk }) :
    wpAny (model prog w) A (pyNext (.ref z)) Q E s := by
  have hT : s.TypeIs (.ref z) "zip" := ⟨_, hz, rfl⟩
  unfold pyNext
  exact wpAny_bind (wpAny_attempt (wpAny_callSpecial?_slot (name := Str.ofString "__next__") hT PySem.F.slot_zip_next
    (wpAny_call_entry PySem.F.slot_zip_next hT PySem.F.entry_zip_next
      (zs_item D hz hTI hTO h1 h2 hx hy fun h' tk v1 v2 e1 e2 a1 a2 a3 a4 a5 a6 a7 => wpAny_pure (hQ h' tk v1 v2 e1 e2 a1 a2 a3 a4 a5 a6 a7)) (PySem.F.args_zip_next_1 _))))
theorem next_zs_end {z TI TO i1 i2 l1 l2 : Addr} {k : Nat} {x : Str} {t : Tok} {a b : Value} {Q : Option Value → Shared → Prop} (hh : A.handled = none) (D : ZipApart z TI TO i1 i2 l1 l2)
    (hz : IsZip s.heap z TI TO .none) (hTI : IsPair s.heap TI (.ref i1) (.ref i2)) (hTO : IsPair s.heap TO a b)
    (h1 : SI s.heap i1 x t k) (hx : x.cps[k]? = none)
    (hQ : ∀ h', (∀ c o, c ≠ z → c ≠ TO → c ≠ i1 → c ≠ i2 → s.heap.get? c = some o → h'.get? c = some o) → Q none { s with heap := h' }) : wpAny (model prog w) A (pyNext (.ref z)) Q E s := by
  have hT : s.TypeIs (.ref z) "zip" := ⟨_, hz, rfl⟩
  unfold pyNext
  refine wpAny_bind (wpAny_attempt (wpAny_callSpecial?_slot (name := Str.ofString "__next__") hT PySem.F.slot_zip_next
    (wpAny_call_entry PySem.F.slot_zip_next hT PySem.F.entry_zip_next (zs_end (y := x) (u := 0) hh D hz hTI hTO h1 hx fun h' e hk he => ?_) (PySem.F.args_zip_next_1 _))))
  obtain ⟨o, ho, hc⟩ := he
  refine wpAny_bind (wpAny_isInstance (T := "StopIteration") (b := true) ⟨o, ho, hc⟩ isSubtype_stop ?_)
  exact wpAny_pure (hQ _ hk)
noncomputable abbrev zsH1 (h : Heap) (x : Str) (t : Tok) : Heap := h.push { cls := .type "str_ascii_iterator", data := .fields #[.str x t, .int 0 0] }
noncomputable abbrev zsH2 (h : Heap) (x : Str) (t : Tok) (y : Str) (u : Tok) : Heap := (zsH1 h x t).push { cls := .type "str_ascii_iterator", data := .fields #[.str y u, .int 0 0] }
noncomputable abbrev zsH3 (h : Heap) (x : Str) (t : Tok) (y : Str) (u : Tok) : Heap := (zsH2 h x t y u).push { cls := .type "tuple", data := .seq #[.ref h.objs.size, .ref (zsH1 h x t).objs.size] }
noncomputable abbrev zsH4 (h : Heap) (x : Str) (t : Tok) (y : Str) (u : Tok) : Heap := (zsH3 h x t y u).push { cls := .type "tuple", data := .seq #[.none, .none] }
noncomputable abbrev zsH5 (h : Heap) (x : Str) (t : Tok) (y : Str) (u : Tok) : Heap := (zsH4 h x t y u).push { cls := .type "zip", data := .fields #[.none, .bool false, .bool false, .ref (zsH2 h x t y u).objs.size, .ref (zsH3 h x t y u).objs.size] }
noncomputable abbrev IterOf (v : Value) (o : Obj) : Prop := ∀ (prog : Program) (w : World) (A : Around) (E Q : Value → Shared → Prop) (s : Shared), Q (.ref s.heap.objs.size) { s with heap := s.heap.push o } → wpAny (model prog w) A (pyIter v) Q E s
noncomputable abbrev zaH1 (h : Heap) (o1 : Obj) : Heap := h.push o1
noncomputable abbrev zaH2 (h : Heap) (o1 o2 : Obj) : Heap := (zaH1 h o1).push o2
noncomputable abbrev zaH3 (h : Heap) (o1 o2 : Obj) : Heap := (zaH2 h o1 o2).push { cls := .type "tuple", data := .seq #[.ref h.objs.size, .ref (zaH1 h o1).objs.size] }
noncomputable abbrev zaH4 (h : Heap) (o1 o2 : Obj) : Heap := (zaH3 h o1 o2).push { cls := .type "tuple", data := .seq #[.none, .none] }
noncomputable abbrev zaH5 (h : Heap) (o1 o2 : Obj) : Heap := (zaH4 h o1 o2).push { cls := .type "zip", data := .fields #[.none, .bool false, .bool false, .ref (zaH2 h o1 o2).objs.size, .ref (zaH3 h o1 o2).objs.size] }
theorem meets_zip_any (v1 v2 : Value) (o1 o2 : Obj) (h1 : IterOf v1 o1) (h2 : IterOf v2 o2) :
    Meets (Builtin.«zip.__new__» ⟨[.type "zip", v1, v2], []⟩) (fun _ R s => R (.ok (.ret (.ref (zaH4 s.heap o1 o2).objs.size))) { s with heap := zaH5 s.heap o1 o2 }) :=
  .of_wp fun prog w A R s h => by
    obtain ⟨hp, g, d, tk, os⟩ := s
    have hsub := sub_zip
    wp_walk using h1 prog w, h2 prog w
    exact ⟨_, rfl, h⟩
theorem meets_zs_new (x : Str) (t : Tok) (y : Str) (u : Tok) (hx : x.cps.all (· < 128) = true) (hy : y.cps.all (· < 128) = true) :
    Meets (Builtin.«zip.__new__» ⟨[.type "zip", .str x t, .str y u], []⟩) (fun _ R s => R (.ok (.ret (.ref (zsH4 s.heap x t y u).objs.size))) { s with heap := zsH5 s.heap x t y u }) :=
  meets_zip_any _ _ _ _ (fun prog w A E Q s h => wpAny_pyIter_ascii hx h) (fun prog w A E Q s h => wpAny_pyIter_ascii hy h)
end
end Mine

/-! ## P59 -/
namespace Mine
section
variable {prog : Program} {w : World} {A : Around} {E : Value → Shared → Prop} {s : Shared}
theorem call_zs {x y : Str} {t u : Tok} {Q : Value → Shared → Prop} (hx : x.cps.all (· < 128) = true) (hy : y.cps.all (· < 128) = true)
    (h : ∀ h', IsZip h' (s.heap.objs.size + 4) (s.heap.objs.size + 2) (s.heap.objs.size + 3) .none → IsPair h' (s.heap.objs.size + 2) (.ref s.heap.objs.size) (.ref (s.heap.objs.size + 1)) →
      IsPair h' (s.heap.objs.size + 3) .none .none → SI h' s.heap.objs.size x t 0 → SI h' (s.heap.objs.size + 1) y u 0 → h'.objs.size = s.heap.objs.size + 5 →
      (∀ c o, s.heap.get? c = some o → h'.get? c = some o) → Q (.ref (s.heap.objs.size + 4)) { s with heap := h' }) :
    wpAny (model prog w) A (call (.type "zip") [.str x t, .str y u]) Q E s := by
  refine callType_new PySem.F.called_zip (by decide) (PySem.F.typeCall_zip_2 _ _) (PySem.F.newCall_zip_2 _ _) (fun obj => PySem.F.args_object_init_3 obj _ _) PySem.F.entry_zip_new
    (meets_zs_new x t y u hx hy) ?_
  have z1 : (zsH1 s.heap x t).objs.size = s.heap.objs.size + 1 := Heap.size_push ..
  have z2 : (zsH2 s.heap x t y u).objs.size = s.heap.objs.size + 2 := by rw [Heap.size_push, z1]
  have z3 : (zsH3 s.heap x t y u).objs.size = s.heap.objs.size + 3 := by rw [Heap.size_push, z2]
  have z4 : (zsH4 s.heap x t y u).objs.size = s.heap.objs.size + 4 := by rw [Heap.size_push, z3]
  have z5 : (zsH5 s.heap x t y u).objs.size = s.heap.objs.size + 5 := by rw [Heap.size_push, z4]
  have g5 : (zsH5 s.heap x t y u).get? (zsH4 s.heap x t y u).objs.size = some _ := Heap.get?_push_size _ rfl
  have g4 : (zsH5 s.heap x t y u).get? (zsH3 s.heap x t y u).objs.size = some _ := Heap.get?_push_of_some _ (Heap.get?_push_size _ rfl)
  have g3 : (zsH5 s.heap x t y u).get? (zsH2 s.heap x t y u).objs.size = some _ := Heap.get?_push_of_some _ (Heap.get?_push_of_some _ (Heap.get?_push_size _ rfl))
  have g2 : (zsH5 s.heap x t y u).get? (zsH1 s.heap x t).objs.size = some _ := Heap.get?_push_of_some _ (Heap.get?_push_of_some _ (Heap.get?_push_of_some _ (Heap.get?_push_size _ rfl)))
  have g1 : (zsH5 s.heap x t y u).get? s.heap.objs.size = some _ := Heap.get?_push_of_some _ (Heap.get?_push_of_some _ (Heap.get?_push_of_some _ (Heap.get?_push_of_some _ (Heap.get?_push_size _ rfl))))
  rw [z2, z3, z4] at g5
  rw [z1, z2] at g3
  rw [z3] at g4
  rw [z1] at g2
  rw [z4]
  exact ⟨⟨_, g5, rfl⟩, h _ g5 g3 g4 ⟨_, g1, rfl, rfl⟩ ⟨_, g2, rfl, rfl⟩ z5 fun c o x =>
    Heap.get?_push_of_some _ (Heap.get?_push_of_some _ (Heap.get?_push_of_some _ (Heap.get?_push_of_some _ (Heap.get?_push_of_some _ x))))⟩
theorem walksZs (hh : A.handled = none) (z TI TO i1 i2 : Addr) (D : ZipApart z TI TO i1 i2 TI TI) (x y : Str) (t u : Tok) (hxy : y.cps.size = x.cps.size) :
    WalksT prog w A z [z, TI, TO, i1, i2] [z, TI, TO, i1, i2] x.cps.size
      (fun i vals => ∃ c1 c2 t1 t2, x.cps[i]? = some c1 ∧ y.cps[i]? = some c2 ∧ vals = #[.str ⟨#[c1]⟩ t1, .str ⟨#[c2]⟩ t2])
      (fun i h => IsZip h z TI TO .none ∧ IsPair h TI (.ref i1) (.ref i2) ∧ (∃ a b, IsPair h TO a b) ∧ SI h i1 x t i ∧ SI h i2 y u i)
      (fun i T h => IsZip h z TI TO (rawInt T) ∧ IsPair h TI (.ref i1) (.ref i2) ∧ (∃ a b, IsPair h TO a b) ∧ SI h i1 x t (i + 1) ∧ SI h i2 y u (i + 1) ∧
        T ≠ z ∧ T ≠ TO ∧ T ≠ i1 ∧ T ≠ i2 ∧ T ≠ TI) where
  sub := fun c hc => hc
  frame := fun i h h' hst hk => by
    obtain ⟨hz, hTI, ⟨a, b, hTO⟩, h1, h2⟩ := hst
    exact ⟨hk z (by simp) _ hz, hk TI (by simp) _ hTI, ⟨a, b, hk TO (by simp) _ hTO⟩, h1.at' fun o e => hk i1 (by simp) o e, h2.at' fun o e => hk i2 (by simp) o e⟩
  item := fun i s Q E hi hst hQ => by
    obtain ⟨hz, hTI, ⟨a, b, hTO⟩, h1, h2⟩ := hst
    have hiy : i < y.cps.size := by rw [hxy]; exact hi
    refine next_zs_item D hz hTI hTO h1 h2 (Array.getElem?_eq_getElem hi) (Array.getElem?_eq_getElem hiy) fun h' tk v1 v2 e1 e2 a1 a2 a3 a4 a5 a6 hk => ?_
    have lt : ∀ {c o}, s.heap.get? c = some o → s.heap.objs.size ≠ c := fun e => Nat.ne_of_gt (Heap.lt_size e)
    obtain ⟨t1, rfl⟩ := e1
    obtain ⟨t2, rfl⟩ := e2
    exact hQ s.heap.objs.size #[_, _] h' tk ⟨_, _, _, _, Array.getElem?_eq_getElem hi, Array.getElem?_eq_getElem hiy, rfl⟩ (Nat.le_refl _) ⟨_, a5, rfl, _, rfl⟩
      ⟨a1, hk _ _ D.TIz D.TITO D.TIi1 D.TIi2 hTI, ⟨_, _, a2⟩, a3, a4,
        lt hz, lt hTO, (by obtain ⟨_, e, _⟩ := h1; exact lt e), (by obtain ⟨_, e, _⟩ := h2; exact lt e), lt hTI⟩
      fun c o hc e => hk c o (fun x => hc (by simp [x])) (fun x => hc (by simp [x])) (fun x => hc (by simp [x])) (fun x => hc (by simp [x])) e
  go := fun elts k pos i T s Q E hm hQ => by
    obtain ⟨hz, hTI, ⟨a, b, hTO⟩, h1, h2, _⟩ := hm
    refine wpAny_letOwnedTupleGo_zip hz fun h' hz' hs' => hQ h' ⟨hz', hs'.extBut _ _ D.TIz hTI, ⟨a, b, hs'.extBut _ _ D.TOz hTO⟩, h1.extBut hs'.extBut D.i1z, h2.extBut hs'.extBut D.i2z⟩ fun c o hc e => hs'.extBut _ _ (fun x => hc (by simp [x])) e
  apart := fun i T h hm hT => by
    obtain ⟨_, _, _, _, _, t1, t2, t3, t4, t5⟩ := hm
    simp at hT
    rcases hT with rfl | rfl | rfl | rfl | rfl
    · exact t1 rfl
    · exact t5 rfl
    · exact t2 rfl
    · exact t3 rfl
    · exact t4 rfl
  done := fun s Q E hst hQ => by
    obtain ⟨hz, hTI, ⟨a, b, hTO⟩, h1, h2⟩ := hst
    exact next_zs_end hh D hz hTI hTO h1 (Array.getElem?_eq_none (Nat.le_refl _)) fun h' hk => hQ h' s.toks fun c o hc e =>
      hk c o (fun x => hc (by simp [x])) (fun x => hc (by simp [x])) (fun x => hc (by simp [x])) (fun x => hc (by simp [x])) e
  self := fun i s Q E hst hQ => wpAny_pyIter_zip hst.1 hQ
end
noncomputable def signPairs (x y : Str) : List (PV × PV) := (x.cps.toList.zip y.cps.toList).map fun p => (.str (one p.1), .str (one p.2))
theorem it2_zipS {w : World} {n : Nat} {env : Env} {ρ : Rho} {g : Str} {p pos : Pos} {e1 e2 : Expr} {x y : Str} (hg : EV w n env ρ (.Name g p) (.raw (.type "zip"))) (he1 : EV w n env ρ e1 (.str x)) (he2 : EV w n env ρ e2 (.str y))
    (hx : x.cps.all (· < 128) = true) (hy : y.cps.all (· < 128) = true) (hxy : y.cps.size = x.cps.size)
    (he : starEach [e1, e2] env = (false, eval e1 env) :: starEach [e2] env := by rfl) (he' : starEach [e2] env = (false, eval e2 env) :: starEach [] env := by rfl) (hplain : (backTo pos (starEach [e2] env)).any (·.1) = false := by rfl) : IT2 w n env ρ (.Call (.Name g p) [e1, e2] [] pos) (signPairs x y) := by
  have hlen : (signPairs x y).length = x.cps.size := by simp [signPairs, hxy]
  have ha : EVs w n env ρ [e1, e2] [.str x, .str y] := evs_cons he1 (evs_cons he2 evs_nil he') he
  refine ⟨fun A s q E Q R C k => ?_⟩
  refine wpAny_Call_NameR (hg.run A s q E _ R C fun h1 t1 q1 v g1 r1 => ?_)
  cases r1
  refine PyProof.Rows.callWith_type1 (ha.run pos A _ q1 E _ R (C.grow g1) fun h2 t2 q2 vs g2 r2 => ?_) he hplain
  have G := g1.trans g2
  cases r2 with
  | cons ra r2 => cases r2 with
    | cons rb r2 => cases r2 with
      | nil =>
        cases ra; cases rb
        refine call_zs (s := { s with heap := h2, toks := t2 }) hx hy fun h3 ez eTI eTO e1 e2 esz ek => ?_
        refine wpAny_pyIter_zip (s := { s with heap := h3, toks := t2 }) ez ?_
        have gH : Grow s.heap q h3 q2 := G.trans (Grow.heap g2.sub ek)
        have fresh : ∀ b, h2.objs.size ≤ b → s.heap.get? b = none ∧ q2 b = none := fun b hb => by
          constructor
          · cases z : s.heap.get? b with
            | none => rfl
            | some o => exact absurd (Heap.lt_size (G.keep _ _ z)) (Nat.not_lt.mpr hb)
          · cases z : q2 b with
            | none => rfl
            | some o => exact absurd (Heap.lt_size (g2.sub _ _ z)) (Nat.not_lt.mpr hb)
        have ne : ∀ i j : Nat, i ≠ j → h2.objs.size + i ≠ h2.objs.size + j := fun i j h e => h (Nat.add_left_cancel e)
        refine k h3 t2 q2 _ _ _ _ _ _ gH ⟨hlen ▸ walksZs (prog := pw) (w := w) R.handled (h2.objs.size + 4) (h2.objs.size + 2) (h2.objs.size + 3) h2.objs.size (h2.objs.size + 1)
          ⟨ne 2 4 (by decide), ne 3 4 (by decide), ne 0 4 (by decide), ne 1 4 (by decide), ne 2 3 (by decide), ne 2 0 (by decide), ne 2 1 (by decide), ne 3 0 (by decide), ne 3 1 (by decide), ne 0 1 (by decide),
            ne 2 4 (by decide), ne 2 3 (by decide), ne 2 0 (by decide), ne 2 1 (by decide), ne 2 4 (by decide), ne 2 3 (by decide), ne 2 0 (by decide), ne 2 1 (by decide)⟩ x y _ _ hxy, ⟨ez, eTI, ⟨_, _, eTO⟩, e1, e2⟩, ?_, ?_, ?_, ?_, ?_⟩
        · rintro i h ⟨x1, x2, ⟨a, b, x3⟩, ⟨o1, x4, _⟩, ⟨o2, x5, _⟩⟩ b hb
          simp only [List.mem_cons, List.not_mem_nil, or_false] at hb
          rcases hb with rfl | rfl | rfl | rfl | rfl
          · exact ⟨_, x1⟩
          · exact ⟨_, x2⟩
          · exact ⟨_, x3⟩
          · exact ⟨_, x4⟩
          · exact ⟨_, x5⟩
        · rintro i vals hi ⟨c1, c2, u1, u2, hc1, hc2, rfl⟩
          refine ⟨(.str (one c1), .str (one c2)), _, _, ?_, rfl, .str _ _, .str _ _⟩
          unfold signPairs
          have hz : (x.cps.toList.zip y.cps.toList)[i]? = some (c1, c2) := List.getElem?_zip_eq_some.mpr ⟨by simpa using hc1, by simpa using hc2⟩
          rw [List.getElem?_map, hz]
          rfl
        · intro b hb
          simp only [List.mem_cons, List.not_mem_nil, or_false] at hb
          rcases hb with rfl | rfl | rfl | rfl | rfl
          · exact (fresh _ (Nat.le_add_right _ _)).1
          · exact (fresh _ (Nat.le_add_right _ _)).1
          · exact (fresh _ (Nat.le_add_right _ _)).1
          · exact (fresh _ (Nat.le_refl _)).1
          · exact (fresh _ (Nat.le_add_right _ _)).1
        · intro b hb
          simp only [List.mem_cons, List.not_mem_nil, or_false] at hb
          rcases hb with rfl | rfl | rfl | rfl | rfl
          · exact (fresh _ (Nat.le_add_right _ _)).2
          · exact (fresh _ (Nat.le_add_right _ _)).2
          · exact (fresh _ (Nat.le_add_right _ _)).2
          · exact (fresh _ (Nat.le_refl _)).2
          · exact (fresh _ (Nat.le_add_right _ _)).2
        · exact fun b hb => .inl hb
end Mine

/-! ## P60 -/
namespace Mine
section
variable {w : World} {n : Nat} {env : Env} {ρ : Rho}
theorem compP_core {x y : Str} {px py tp : Pos} {kt : Nat} {iter elt : Expr} {scope : Scope} {pos : Pos} {α : Type} {xs : List α} {gv : α → PV × PV} {f : α → PV} {RR : Value → Addr → Result → Shared → Prop}
    (hi : IT2 w n env ρ iter (xs.map gv)) (hfree : freeOk scope env = true) (hcell : (scope.names.all fun y => y.2 != .cell) = true) (hkind : scope.kind = .function) (hx : scope.names.lookup x = some .local) (hy : scope.names.lookup y = some .local) (hxy : x ≠ y)
    (turn : ∀ a ∈ xs, ∀ C, EV w n (cEnv scope env C) (upd (upd (rhoC scope env ρ) x (.pers (gv a).1)) y (.pers (gv a).2)) elt (f a))
    (hsz : xs.length ≤ 1000000) {A : Around} {s : Shared} {q : Gh} {E : Value → Shared → Prop} (R : Room n A) (X : Ctx w env ρ s.heap q)
    (hR : ∀ D C h' tk m' q' vs k, Grow s.heap q h' q' → h'.Ns C m' → s.heap.get? C = none → q' C = none → s.heap.get? D = none → q' D = none → D ≠ C → h'.get? D = some (listOf vs.toArray k) →
      RepL q' vs (xs.map f) → RR (.ref D) C (.ok .next) { s with heap := h', toks := tk }) :
    wpAny (model pw w) A (eval iter env) (fun xv s₁ => wpAny (model pw w) A (pyIter xv) (fun it s₂ => wpAny (model pw w) A (newList []) (fun acc s₃ =>
      wpAny (model pw w) A (newFunctionEnv scope env.globals (clOf env scope.names []) [] env.qual none .none (some env)) (fun cenv s₄ =>
        codeAny (model pw w) A (.compStart (.ListComp elt [⟨.Tuple [.Name x px, .Name y py] kt tp, iter, [], 0⟩] scope pos) 0 it acc { cenv with scope := relabel scope env }) (RR acc cenv.locals) s₄) E s₃) E s₂) E s₁) E s := by
  refine hi.run A s q E _ R X fun h1 t1 q1 I fp wr P St Mid g1 IT => ?_
  refine wpAny_newObj_type (wpAny_newFunctionEnv (fun y hy => by have := List.all_eq_true.mp hcell y hy; simpa using this) (by intro y hy; simp at hy) (fun h₁ hns₁ hsb₁ => ?_) hkind)
  dsimp only at hns₁ hsb₁ ⊢
  generalize hH2 : h1.push { cls := .type "list", dict := none, data := .seq ([] : List Value).toArray } = H2 at hns₁ hsb₁ ⊢
  have hC : H2.objs.size = h1.objs.size + 1 := by rw [← hH2, Heap.size_push]
  generalize hDe : h1.objs.size = D at *
  generalize hCe : H2.objs.size = C at *
  have hDC : D ≠ C := by omega
  have ltD : ∀ b o, h1.get? b = some o → b < D := fun b o e => hDe ▸ Heap.lt_size e
  have neC : ∀ {b : Addr}, b < D → b ≠ C := fun {b} h => Nat.ne_of_lt (Nat.lt_of_lt_of_le h (hC ▸ Nat.le_succ D))
  have old : ∀ b o, h1.get? b = some o → h₁.get? b = some o := fun b o e => hsb₁.extBut b o (neC (ltD b o e)) (Heap.get?_push_of_some _ (hH2 ▸ Heap.get?_push_of_some _ e))
  have hD1 : h1.get? D = none := by rw [← hDe]; exact get_size_none _
  have hC1 : h1.get? C = none := by
    cases e : h1.get? C with
    | none => rfl
    | some o => exact absurd rfl (neC (ltD _ _ e))
  have n1 : ∀ {b}, h1.get? b = none → s.heap.get? b = none ∧ q1 b = none := fun {b} e => by
    constructor
    · cases z : s.heap.get? b with
      | none => rfl
      | some o => rw [g1.keep _ _ z] at e; cases e
    · cases z : q1 b with
      | none => rfl
      | some o => rw [g1.sub _ _ z] at e; cases e
  have hwrlt : ∀ b ∈ wr, b < D := fun b hb => let ⟨o, ho⟩ := IT.live _ _ IT.start b hb; ltD b o ho
  have hfplt : ∀ b ∈ fp, b < D := fun b hb => by
    rcases IT.src b hb with h | ⟨o, h⟩
    · exact hwrlt b h
    · exact ltD b o (g1.sub _ _ h)
  have hacc : h₁.get? D = some (listOf ([] : List Value).toArray 0) := hsb₁.extBut _ _ hDC (Heap.get?_push_of_some _ (hH2 ▸ hDe ▸ Heap.get?_push_size _ rfl))
  have hst₁ : St 0 h₁ := IT.walks.frame _ _ _ IT.start fun b _ o e => old b o e
  have g₁ : Grow s.heap q h₁ q1 := ⟨fun b o e => old b o (g1.keep b o e), g1.le, fun b o e => old b o (g1.sub b o e), g1.fresh⟩
  have loop : codeAny (model pw w) A (.compLoop (.ListComp elt [⟨.Tuple [.Name x px, .Name y py] kt tp, iter, [], 0⟩] scope pos) 0 (.ref I) (.ref D) (cEnv scope env C)) (RR (.ref D) C) { s with heap := h₁, toks := t1 + ([] : List (Str × Value)).length } := by
    refine LCp.codeAny_compLoop_pair (fun k s' => ∃ i h' tk m' q' vs kk, s' = { s with heap := h', toks := tk } ∧ k = xs.length + 1 - i ∧ i ≤ xs.length ∧ St i h' ∧ h'.Ns C m' ∧ h'.get? D = some (listOf vs.toArray kk) ∧
      RepL q' vs ((xs.take i).map f) ∧ Grow s.heap q h' q' ∧ (∀ b o, q1 b = some o → q' b = some o) ∧ (∀ b ∈ wr, q' b = none) ∧ q' C = none ∧ q' D = none) ?_ (xs.length + 1)
      ⟨0, h₁, _, _, q1, [], 0, rfl, by omega, Nat.zero_le _, hst₁, hns₁, hacc, .nil, g₁, fun _ _ e => e, IT.gh, (n1 hC1).2, (n1 hD1).2⟩
    rintro k s' ⟨i, h', tk, m', q', vs, kk, rfl, hk, hile, hst, hns, hD, hrep, g, hle, hwr, hqC, hqD⟩
    have hCw : C ∉ wr := fun h => neC (hwrlt _ h) rfl
    have hDw : D ∉ wr := fun h => Nat.lt_irrefl _ (hwrlt _ h)
    by_cases hlt : i < xs.length
    · refine IT.walks.item i _ _ _ (by rw [List.length_map]; exact hlt) hst fun T vals hA tk2 hP hTsz hTup hmid hkA => ?_
      obtain ⟨a', v1, v2, ha', rfl, rd1, rd2⟩ := IT.item i vals (by rw [List.length_map]; exact hlt) hP
      obtain ⟨a, ha, rfl⟩ : ∃ a, xs[i]? = some a ∧ gv a = a' := by
        rw [List.getElem?_map] at ha'
        cases hx : xs[i]? with
        | none => rw [hx] at ha'; cases ha'
        | some a => rw [hx] at ha'; exact ⟨a, rfl, Option.some.inj ha'⟩
      have hTw : T ∉ wr := IT.walks.apart _ _ _ hmid
      refine IT.walks.go _ _ _ i T _ _ _ hmid fun h2 hst2 hk2' => ?_
      have hk2 : ∀ b o, b ∉ wr → h'.get? b = some o → h2.get? b = some o := fun b o m e => hk2' b o m (hkA b o m e)
      have hTup : h2.IsTuple T #[v1, v2] := hTup.at fun o e => hk2' T o hTw e
      have g2 : Grow s.heap q h2 q' := ⟨fun b o e => hk2 b o (fun m => by have := IT.new b m; rw [e] at this; cases this) (g.keep b o e), g.le, fun b o e => hk2 b o (fun m => by rw [hwr b m] at e; cases e) (g.sub b o e), g.fresh⟩
      refine wpAny_assign_Tuple R.handled hTup rfl rfl fun h3 he => ?_
      have he' : ∀ b o, h2.get? b = some o → h3.get? b = some o := fun b o e => he b o (Nat.ne_of_lt (Heap.lt_size e)) e
      have hn3 := (hns.at' fun o e => hk2 _ o hCw e).at' fun o e => he' _ o e
      show wpAny _ A (do holding [v2] (assign (.Name x px) (cEnv scope env C) v1); do holding [] (assign (.Name y py) (cEnv scope env C) v2); pure ()) _ _ _
      refine wpAny_bind (wpAny_holding (wpAny_assign_Name (wpAny_storeName_local (lookup_relabel_local hx) hn3 (fun h4 hn4 hs4 => ?_) (by show (scope.kind == .class || (scope.kind == .module && _)) = false; rw [hkind]; rfl))))
      refine wpAny_bind (wpAny_holding (wpAny_assign_Name (wpAny_storeName_local (lookup_relabel_local hy) hn4 (fun h5 hn5 hs5 => wpAny_pure ?_) (by show (scope.kind == .class || (scope.kind == .module && _)) = false; rw [hkind]; rfl))))
      have up : ∀ b o, b ≠ C → h2.get? b = some o → h5.get? b = some o := fun b o hb e => hs5.extBut b o hb (hs4.extBut b o hb (he' b o e))
      have g5 : Grow s.heap q h5 q' := ⟨fun b o e => up b o (by rintro rfl; rw [(n1 hC1).1] at e; cases e) (g2.keep b o e), g.le, fun b o e => up b o (by rintro rfl; rw [hqC] at e; cases e) (g2.sub b o e), g.fresh⟩
      have hst5 : St (i + 1) h5 := IT.walks.frame _ _ _ hst2 fun b hb o e => up b o (neC (hfplt b hb)) e
      have hD5 : h5.get? D = some (listOf vs.toArray kk) := up _ _ hDC (hk2 _ _ hDw hD)
      have X4 := ctx_comp (x := x) (v := v1) (d := (gv a).1) X g5 hkind hfree hn5 hx (by show (if x = y then _ else _) = _; rw [if_neg hxy]; show (if x = x then _ else _) = _; rw [if_pos rfl]) (rd1.mono hle)
      have X5 := ctx_add (y := y) (v := v2) (d := (gv a).2) X4 (.loc (lookup_relabel_local hy) hn5 (by show (if y = y then _ else _) = _; rw [if_pos rfl])) (rd2.mono hle)
      have hsplit : xs.take (i + 1) = xs.take i ++ [a] := by rw [List.take_add_one, ha]; rfl
      have live5 : ∀ b ∈ wr, ∃ o, h5.get? b = some o := fun b hb => IT.live _ _ hst5 b hb
      obtain ⟨oC, hoC⟩ : ∃ o, h5.get? C = some o := let ⟨o, _, _, e, _⟩ := hn5; ⟨o, e⟩
      refine (turn a (List.mem_of_getElem? ha) C).run A _ q' _ _ R X5 fun h6 tk6 q6 v6 g6 r6 => ?_
      have hD6 := g6.keep _ _ hD5
      have qC6 := ghost_still g6 hoC hqC
      have qD6 := ghost_still g6 hD5 hqD
      refine append_exact (s := { s with heap := h6, toks := tk6 }) hD6 (by
        have e1 := hrep.length
        rw [List.length_map] at e1
        have e3 := List.length_take_le i xs
        rw [sizeLine_eq]; omega) fun h7 k7 hD7 hs7 => ?_
      have g56 := g5.trans g6
      have g7 : Grow s.heap q h7 q6 := ⟨fun b o e => hs7.extBut b o (by rintro rfl; rw [(n1 hD1).1] at e; cases e) (g56.keep b o e), g56.le, fun b o e => hs7.extBut b o (by rintro rfl; rw [qD6] at e; cases e) (g56.sub b o e), g56.fresh⟩
      refine ⟨xs.length + 1 - (i + 1), by omega, i + 1, h7, tk6, _, q6, vs ++ [v6], k7, rfl, rfl, hlt, ?_, (hn5.keeps g6.keep).sameBut hs7 (Ne.symm hDC), hD7, ?_, g7, fun b o e => g6.le _ _ (hle _ _ e), fun b hb => ?_, qC6, qD6⟩
      · exact IT.walks.frame _ _ _ hst5 fun b hb o e => hs7.extBut b o (Nat.ne_of_lt (hfplt b hb)) (g6.keep b o e)
      · rw [hsplit, List.map_append]
        exact (hrep.mono g6.le).append (.cons r6 .nil)
      · obtain ⟨o, ho⟩ := live5 b hb; exact ghost_still g6 ho (hwr b hb)
    · have hi' : i = xs.length := by omega
      subst hi'
      refine IT.walks.done _ _ _ (by rw [List.length_map]; exact hst) fun h2 tk2 hk2 => ?_
      refine hR D C h2 tk2 m' q' vs kk ⟨fun b o e => hk2 b o (fun m => by have := IT.new b m; rw [e] at this; cases this) (g.keep b o e), g.le, fun b o e => hk2 b o (fun m => by rw [hwr b m] at e; cases e) (g.sub b o e), g.fresh⟩
        (hns.at' fun o e => hk2 _ o hCw e) (n1 hC1).1 hqC (n1 hD1).1 hqD hDC (hk2 _ _ hDw hD) ?_
      rwa [List.take_length] at hrep
  exact codeAny_compStart_list loop (IT.walks.self 0 _ _ _ hst₁ loop)
/-- [elt for x, y in iter] -/
theorem evo_compP {x y : Str} {px py tp : Pos} {kt : Nat} {iter elt : Expr} {scope : Scope} {pos : Pos} {α : Type} {xs : List α} (gv : α → PV × PV) (f : α → PV)
    (hi : IT2 w n env ρ iter (xs.map gv))
    (turn : ∀ a ∈ xs, ∀ C, EV w n (cEnv scope env C) (upd (upd (rhoC scope env ρ) x (.pers (gv a).1)) y (.pers (gv a).2)) elt (f a))
    (hsz : xs.length ≤ 1000000) (hfree : freeOk scope env = true := by rfl) (hcell : (scope.names.all fun y => y.2 != .cell) = true := by rfl) (hkind : scope.kind = .function := by rfl) (hx : scope.names.lookup x = some .local := by rfl) (hy : scope.names.lookup y = some .local := by rfl) (hxy : x ≠ y := by decide)
    (hnm : namesOk scope = true := by rfl) (hs : ∀ x, foldedSetIterable iter env x = pure x := by intro _; rfl) : EVO w n env ρ (.ListComp elt [⟨.Tuple [.Name x px, .Name y py] kt tp, iter, [], 0⟩] scope pos) (xs.map f) := by
  refine ⟨fun A s q E Q R X k => ?_⟩
  rw [eval_ListComp]
  refine wpAny_comprehension_free (use := none) rfl hs (closureFor_cl hfree) hkind (namesOk_ hnm) ?_
  refine compP_core (RR := fun acc C => compPost (model pw w) A E none Q acc C) hi hfree hcell hkind hx hy hxy turn hsz R X ?_
  intro D C h' tk m' q' vs kk g hn hC qC hD qD hDC ho r
  refine ⟨m', hn, fun h'' hs'' => ?_⟩
  exact k h'' tk q' D vs kk (g.dropC hs'' hC qC) (hs''.extBut _ _ hDC ho) r hD qD
end
end Mine

/-! ## P61 -/
namespace Mine
noncomputable def hexC (d : Nat) : Nat := (hexTab.getD d 0).toNat
theorem hexC_low : ∀ d, d < 16 → Unicode.lowerOf (hexC d) = [hexC d] ∧ hexC d ≠ 0x3A3 ∧ hexC d < 128 := by decide +kernel
noncomputable def lowSign (c : Nat) : Prop := Unicode.lowerOf c = [c] ∧ c ≠ 0x3A3
theorem flatten_one (a : Array Nat) : (a.map fun c => #[c]).flatten = a := by
  apply Array.ext'
  rw [Array.toList_flatten]
  simp [List.flatten_eq_flatMap, List.flatMap_map]
theorem lower_same {x : Str} (h : ∀ c ∈ x.cps.toList, lowSign c) : Txt.lower x = x := by
  obtain ⟨a⟩ := x
  unfold Txt.lower
  congr 1
  unfold placed
  have : (a.mapIdx fun i (_ : Nat) => (Unicode.lowerAt a i).toArray) = a.map fun c => #[c] := by
    apply Array.ext
    · simp
    · intro i h1 h2
      have hi : i < a.size := by simpa using h1
      simp only [Array.getElem_mapIdx, Array.getElem_map]
      have hc := h a[i] (by simp)
      unfold Unicode.lowerAt
      rw [Array.getElem?_eq_getElem hi]
      dsimp only
      have : (a[i] == 0x3A3) = false := by simpa using hc.2
      rw [this, Bool.false_and, if_neg (by decide), hc.1]
  show (a.mapIdx fun i (_ : Nat) => (Unicode.lowerAt a i).toArray).flatten = a
  rw [this, flatten_one]
noncomputable def hexText : Str := Str.ofString "0123456789abcdef"
theorem hex_index : ∀ d, d < 16 → Builtin.Str.occurrences hexText (one (hexC d)) 0 hexText.length 1 = [d] := by decide +kernel
section
variable {w : World} {n : Nat} {env : Env} {ρ : Rho}
theorem get_lower {x : Str} : GetM w n (.str x) "lower" "str.lower" := ⟨fun A s q E Q va pl R sub r k => by cases r; exact PySem.GM.lower k⟩
theorem get_index {x : Str} : GetM w n (.str x) "index" "str.index" := ⟨fun A s q E Q va pl R sub r k => by cases r; exact PySem.GM.index k⟩
theorem lower_ {x : Str} (h : ∀ c ∈ x.cps.toList, lowSign c) (hl : x.length ≤ 100000) : FN w n (.builtin "str.lower") [.str x] [] (.str x) := by
  refine ⟨fun A s q E Q vs ks R B r rk hks k => ?_⟩
  have : ks = [] := by cases ks with | nil => rfl | cons a b => cases hks
  subst this
  cases r with
  | cons h1 r => cases r with
    | nil =>
      cases h1
      have e := lower_same h
      refine PySem.SC.lower (by rw [e]; exact decide_eq_false (by rw [sizeLine_eq]; omega)) ?_
      rw [e]
      exact k s.heap _ q _ (.refl B.sub) (.str _ _)
theorem index_ {x y : Str} {i : Nat} {rest : List Nat} (h : Builtin.Str.occurrences x y 0 x.length 1 = i :: rest) : FN w n (.builtin "str.index") [.str x, .str y] [] (.int i) := by
  refine ⟨fun A s q E Q vs ks R B r rk hks k => ?_⟩
  have : ks = [] := by cases ks with | nil => rfl | cons a b => cases hks
  subst this
  cases r with
  | cons h1 r => cases r with
    | cons h2 r => cases r with
      | nil =>
        cases h1; cases h2
        exact PySem.SC.index h (k s.heap _ q _ (.refl B.sub) (.int _ _))
/-- x[l:u:st], a step other than 1 -/
theorem ev_sliceS {e : Expr} {lo up st : Option Expr} {p pos : Pos} {x : Str} {l u : Option Int} {j : Int} (he : EV w n env ρ e (.str x)) (hl : EP w n env ρ lo l) (hu : EP w n env ρ up u) (ht : EP w n env ρ st (some j)) (hj0 : (j == 0) = false) (hj1 : (j == 1) = false)
    (hsz : (Builtin.Str.strSliceIndices l u j x.length).length ≤ 100000)
    (hs : ∀ t a, subscripted (.Slice lo up st p) false (.str x t) (.ref a) = operate [.ref a, .str x t] (getItem (.str x t) (.ref a)) := by intro _ _; with_unfolding_all rfl) :
    EV w n env ρ (.Subscript e (.Slice lo up st p) pos) (.str ⟨((Builtin.Str.strSliceIndices l u j x.length).filterMap (x.cps[·]?)).toArray⟩) := by
  refine ⟨fun A s q E Q R C k => ?_⟩
  refine Subscript_ (he.run A s q E _ R C fun h1 t1 q1 v1 g1 r1 => ?_)
  refine wpAny_Slice (hl.run A _ q1 E _ R (C.grow g1) fun h2 t2 q2 lv g2 e2 => ?_)
  refine hu.run A _ q2 E _ R ((C.grow g1).grow g2) fun h3 t3 q3 uv g3 e3 => ?_
  refine ht.run A _ q3 E _ R (((C.grow g1).grow g2).grow g3) fun h4 t4 q4 sv g4 e4 => ?_
  cases r1 with
  | str x t =>
    have g5 := (((g1.trans g2).trans g3).trans g4).trans (Grow.heap (h' := h4.push { cls := .type "slice", data := .fields #[partValue lv, partValue uv, partValue sv] }) g4.sub fun b o e => Heap.get?_push_of_some _ e)
    refine tail_any (s := { s with heap := h4.push { cls := .type "slice", data := .fields #[partValue lv, partValue uv, partValue sv] }, toks := t4 }) (typeIs_str _ _ _) PySem.F.slot_str_getitem.lookup ?_ (hs _ _)
    refine wpAny_getItem_str_slice (l := lv) (u := uv) (st := sv) ⟨_, Heap.get?_push_size _ rfl, rfl, rfl⟩ (by rw [e4]; exact hj0) ?_
    unfold sliceMade slicePicked
    rw [e4, e2, e3]
    simp only [Option.getD_some, hj1, Bool.false_and, Bool.false_eq_true, if_false]
    refine ⟨?_, k _ _ q4 _ g5 (.str _ _)⟩
    show (List.toArray _).size ≤ _
    rw [List.size_toArray, sizeLine_eq]
    have := List.length_filterMap_le (x.cps[·]?) (Builtin.Str.strSliceIndices l u j x.length)
    omega
end
/-! # unhexlify of eight signs -/
noncomputable abbrev hex8 (a b c d e f g h : Nat) : Str := ⟨#[hexC a, hexC b, hexC c, hexC d, hexC e, hexC f, hexC g, hexC h]⟩
theorem sl0 : Builtin.Str.strSliceIndices none none 2 8 = [0, 2, 4, 6] := by decide +kernel
theorem sl1 : Builtin.Str.strSliceIndices (some 1) none 2 8 = [1, 3, 5, 7] := by decide +kernel
theorem fn_unhex {w : World} {n : Nat} {a b c d e f g h : Nat} (ha : a < 16) (hb : b < 16) (hc : c < 16) (hd : d < 16) (he : e < 16) (hf : f < 16) (hg : g < 16) (hh : h < 16) :
    FN w (n + 1) (.ref 31) [.str (hex8 a b c d e f g h)] [] (.bytes (byteArr [16 * (a : Int) + b, 16 * (c : Int) + d, 16 * (e : Int) + f, 16 * (g : Int) + h])) := by
  have low : ∀ z ∈ (hex8 a b c d e f g h).cps.toList, lowSign z := by
    intro z hz
    simp only [hex8, List.mem_cons, List.not_mem_nil, or_false] at hz
    rcases hz with rfl | rfl | rfl | rfl | rfl | rfl | rfl | rfl
    · exact ⟨(hexC_low _ ha).1, (hexC_low _ ha).2.1⟩
    · exact ⟨(hexC_low _ hb).1, (hexC_low _ hb).2.1⟩
    · exact ⟨(hexC_low _ hc).1, (hexC_low _ hc).2.1⟩
    · exact ⟨(hexC_low _ hd).1, (hexC_low _ hd).2.1⟩
    · exact ⟨(hexC_low _ he).1, (hexC_low _ he).2.1⟩
    · exact ⟨(hexC_low _ hf).1, (hexC_low _ hf).2.1⟩
    · exact ⟨(hexC_low _ hg).1, (hexC_low _ hg).2.1⟩
    · exact ⟨(hexC_low _ hh).1, (hexC_low _ hh).2.1⟩
  refine fn_intro (ps := [("text", .str (hex8 a b c d e f g h))]) (out := .ret (.bytes (byteArr [16 * (a : Int) + b, 16 * (c : Int) + d, 16 * (e : Int) + f, 16 * (g : Int) + h]))) (f := 31) (by rfl) (by rfl) ?_ ["text"] (by rfl) (by decide) rfl rfl rfl ?_ rfl
  · intro s q vs B r
    cases r with
    | cons h1 r => cases r with
      | nil => exact ⟨_, BindsTo.of_eq rfl, .cons h1 .nil⟩
  · intro L
    refine xs_cons (x_assign ev_str rfl) ?_
    refine xs_cons (x_assign (ev_if (c := true) (tv_plain (ev_callB (g_isinstance rfl) (evs_cons (ev_name rfl) (evs_cons (g_str rfl) evs_nil)) isi_str_str) truth_bool) (ev_name rfl)) rfl) ?_
    refine xs_one (x_return (ev_callT (g_bytes rfl) (evs_cons (EVO.ev (ds := [16 * (a : Int) + b, 16 * (c : Int) + d, 16 * (e : Int) + f, 16 * (g : Int) + h].map .int) ?_) evs_nil) (bytes_ints_ ?_ (by simp))))
    · show EVO w n _ _ _ ([(a, b), (c, d), (e, f), (g, h)].map fun p : Nat × Nat => PV.int (16 * (p.1 : Int) + p.2))
      refine evo_compP (xs := [(a, b), (c, d), (e, f), (g, h)]) (fun p : Nat × Nat => (.str (one (hexC p.1)), .str (one (hexC p.2)))) (fun p => .int (16 * (p.1 : Int) + p.2)) ?_ ?_ (by simp)
      · show IT2 w n _ _ _ (signPairs ⟨#[hexC a, hexC c, hexC e, hexC g]⟩ ⟨#[hexC b, hexC d, hexC f, hexC h]⟩)
        refine it2_zipS (g_zip rfl) (EV.eq (ev_sliceS (ev_meth0 (ev_name rfl) get_lower (lower_ low (by show 8 ≤ 100000; decide))) ep_none ep_none (ep_some ev_int) rfl rfl ?_) ?_) (EV.eq (ev_sliceS (ev_meth0 (ev_name rfl) get_lower (lower_ low (by show 8 ≤ 100000; decide))) (ep_some ev_int) ep_none (ep_some ev_int) rfl rfl ?_) ?_) ?_ ?_ rfl
        · show (Builtin.Str.strSliceIndices none none 2 8).length ≤ _; rw [sl0]; decide
        · show PV.str ⟨(List.filterMap _ (Builtin.Str.strSliceIndices none none 2 8)).toArray⟩ = _; rw [sl0]; rfl
        · show (Builtin.Str.strSliceIndices (some 1) none 2 8).length ≤ _; rw [sl1]; decide
        · show PV.str ⟨(List.filterMap _ (Builtin.Str.strSliceIndices (some 1) none 2 8)).toArray⟩ = _; rw [sl1]; rfl
        · simp [(hexC_low _ ha).2.2, (hexC_low _ hc).2.2, (hexC_low _ he).2.2, (hexC_low _ hg).2.2]
        · simp [(hexC_low _ hb).2.2, (hexC_low _ hd).2.2, (hexC_low _ hf).2.2, (hexC_low _ hh).2.2]
      · intro p hp C
        have hp1 : p.1 < 16 ∧ p.2 < 16 := by
          simp only [List.mem_cons, List.not_mem_nil, or_false] at hp
          rcases hp with rfl | rfl | rfl | rfl <;> exact ⟨by assumption, by assumption⟩
        refine ev_bin (ev_bin ev_int (ev_meth (ev_name rfl) get_index (evs_cons (ev_name rfl) evs_nil) (index_ (hex_index _ hp1.1))) (op_mul_int (IntMulOk.of_left (by decide)))) (ev_meth (ev_name rfl) get_index (evs_cons (ev_name rfl) evs_nil) (index_ (hex_index _ hp1.2))) op_add_int
    · intro z hz
      simp only [List.mem_cons, List.not_mem_nil, or_false] at hz
      rcases hz with rfl | rfl | rfl | rfl <;> omega
end Mine

/-! ## P62 -/
namespace Mine
open PySem.Builtin
theorem forL {α σ : Type} (f : α → σ → Sem (ForInStep σ)) (inv : Nat → σ) : ∀ (l : List α) (k : Nat), (∀ x j, k ≤ j → j < k + l.length → f x (inv j) = pure (.yield (inv (j + 1)))) → forIn l (inv k) f = pure (inv (k + l.length))
  | [], k, _ => by simp
  | a :: r, k, h => by
    rw [List.forIn_cons, h a k (Nat.le_refl _) (by simp)]
    show forIn r (inv (k + 1)) f = _
    rw [forL f inv r (k + 1) fun x j h1 h2 => h x j (by omega) (by simp only [List.length_cons]; omega)]
    simp only [List.length_cons]
    congr 2
    omega
theorem dec_ascii {id : String} {b : Array UInt8} (h : ∀ c ∈ b.toList, c.toNat < 128) (hl : b.size ≤ sizeLine) : _codecs.runDecoder id _codecs.utf8Decoder none true b 0 [] = pure (b.map (·.toNat), b.size) := by
  unfold _codecs.runDecoder
  simp only [Std.Legacy.Range.forIn_eq_forIn_range']
  have hz : [:b.size].size = b.size := by simp [Std.Legacy.Range.size]
  let inv : Nat → Nat × Array Nat × _codecs.Faults := fun j => (j, ((b.toList.take j).map (·.toNat)).toArray, { held := [] })
  have key : ∀ f : Nat → Nat × Array Nat × _codecs.Faults → Sem (ForInStep (Nat × Array Nat × _codecs.Faults)), (∀ x j, j < b.size → f x (inv j) = pure (.yield (inv (j + 1)))) →
      forIn (List.range' 0 [:b.size].size) ((0, #[], { held := [] }) : Nat × Array Nat × _codecs.Faults) f = pure (inv b.size) := fun f hf => by
    have := forL f inv (List.range' 0 [:b.size].size) 0 (fun x j _ hj => hf x j (by rw [List.length_range', hz] at hj; omega))
    rw [List.length_range', hz] at this
    rw [Nat.zero_add] at this
    rw [hz]
    exact this
  rw [key]
  · show (pure (((b.toList.take b.size).map (·.toNat)).toArray, b.size) : Sem (Array Nat × Nat)) = _
    congr 2
    rw [List.take_of_length_le (by simp)]
    apply Array.ext'
    simp
  · intro x j hj
    have h1 : ¬ ((b.toList.take j).map (·.toNat)).toArray.size > sizeLine := by simp; omega
    dsimp only [inv]
    rw [if_neg h1, if_neg (by omega)]
    have hc : (b.getD j 0).toNat < 128 := h _ (by rw [Array.getD_eq_getD_getElem?, Array.getElem?_eq_getElem hj]; simp)
    have hu : Bytes.utf8At b j = (.char (b.getD j 0).toNat, j + 1) := by unfold Bytes.utf8At; dsimp only; rw [if_pos hc]
    have hf : _codecs.utf8Decoder.find true b j = .text [(b.getD j 0).toNat] (j + 1) := by
      unfold _codecs.utf8Decoder
      dsimp only
      rw [hu]; rfl
    rw [hf]
    dsimp only
    congr 3
    congr 1
    have hg : b.toList[j]? = some (b.getD j 0) := by rw [Array.getD_eq_getD_getElem?, Array.getElem?_eq_getElem hj]; simp [hj]
    rw [List.take_add_one, hg]
    simp
end Mine

/-! ## P63 -/
namespace Mine
theorem FCK.fn {w : World} {n : Nat} {f : Value} {args : List PV} {kw : List (Str × PV)} {d : PV} (h : FCK w n f args kw d) : FN w n f args kw d :=
  ⟨fun A s q E Q vs ks R B r rk hks k => wpAny_call (h.run A s q _ vs ks R B r rk hks fun h' tk q' v g rv => k h' tk q' v g rv)⟩
section
variable {w : World} {n : Nat} {env : Env} {ρ : Rho}
/-- a call of a def by its name, keywords too -/
theorem ev_callK {g : Str} {p pos : Pos} {e : Expr} {rest : List Expr} {kws : List Keyword} {f : Value} {ds : List PV} {kw : List (Str × PV)} {d : PV} (hg : EV w n env ρ (.Name g p) (.raw f)) (ha : EVs w n env ρ (e :: rest) ds) (hk : KW1 w n env ρ kws kw) (hf : FN w n f ds kw d)
    (hkp : keepIn (K w.params) f = true)
    (hc : eval (.Call (.Name g p) (e :: rest) kws pos) env = (do callWith pos (← eval (.Name g p) env) [] (backTo pos (starEach (e :: rest) env)) (backToKw pos (keywordEach kws env))) := by rfl)
    (he : starEach (e :: rest) env = (false, eval e env) :: starEach rest env := by rfl) (hplain : (backTo pos (starEach rest env)).any (·.1) = false := by rfl) :
    EV w n env ρ (.Call (.Name g p) (e :: rest) kws pos) d := by
  refine ⟨fun A s q E Q R C k => ?_⟩
  rw [hc]
  refine wpAny_bind (hg.run A s q E _ R C fun h1 t1 q1 v g1 r1 => ?_)
  cases r1
  have hnone : ((backToKw pos (keywordEach kws env)).any (·.1.isNone)) = false := by
    have := hk.all pos
    rw [List.any_eq_false]
    intro y hy
    have h2 : y.1.isSome = true := List.all_eq_true.mp this y hy
    cases hy1 : y.1 with
    | none => rw [hy1] at h2; cases h2
    | some z => simp
  refine callWith_of (P := fun h => (K w.params).In h) (by rw [he]; show ((false || (backTo pos (starEach rest env)).any (·.1)) || _) = false; rw [hplain, hnone]; rfl) (keeps_K hkp) ?_
  refine evalArgs_kw2 (hk.all pos) ?_ he
  refine ha.run pos A _ q1 E _ R (C.grow g1) fun h2 t2 q2 vs g2 r2 => ?_
  refine hk.run pos A _ q2 E _ R ((C.grow g1).grow g2) fun h3 t3 q3 ks g3 r3 => ⟨(((C.grow g1).grow g2).grow g3).K, ?_⟩
  have hlen : ks.length = kw.length := by have := r3.length; rwa [List.length_map] at this
  have e1 : (((backToKw pos (keywordEach kws env)).filterMap (·.1)).zip ks).map (·.2) = ks := by rw [hk.names]; exact List.map_snd_zip (by rw [List.length_map]; omega)
  have e2 : (((backToKw pos (keywordEach kws env)).filterMap (·.1)).zip ks).map (·.1) = kw.map (·.1) := by rw [hk.names]; exact List.map_fst_zip (by rw [List.length_map]; omega)
  exact hf.run A _ q3 E _ _ _ R (((C.grow g1).grow g2).grow g3).bs (r2.mono g3.le) (by rw [e1]; exact r3) e2 fun h4 t4 q4 v g4 r4 => k h4 t4 q4 v (((g1.trans g2).trans g3).trans g4) r4
theorem get_decode {b : Array UInt8} : GetM w n (.bytes b) "decode" "bytes.decode" := ⟨fun A s q E Q va pl R sub r k => by cases r; exact KBd.method k⟩
theorem decode_ {b : Array UInt8} (h : ∀ c ∈ b.toList, c.toNat < 128) (h0 : 0 < b.size) (hl : b.size ≤ 100000) : FN w n (.builtin "bytes.decode") [.bytes b] [] (.str ⟨b.map (·.toNat)⟩) := by
  obtain ⟨c, cs, rfl⟩ : ∃ c cs, b = (List.toArray (c :: cs)) := by
    obtain ⟨l⟩ := b
    cases l with
    | nil => exact absurd h0 (by decide)
    | cons c cs => exact ⟨c, cs, rfl⟩
  refine ⟨fun A s q E Q vs ks R B r rk hks k => ?_⟩
  have : ks = [] := by cases ks with | nil => rfl | cons a b => cases hks
  subst this
  cases r with
  | cons h1 r => cases r with
    | nil =>
      cases h1
      refine KBd.decode (x := ⟨(List.toArray (c :: cs)).map (·.toNat)⟩) (n := (List.toArray (c :: cs)).size) (fun id => dec_ascii h (by rw [sizeLine_eq]; omega)) (by show (Array.map _ _).size ≤ _; rw [Array.size_map]; omega) fun t' kk => ?_
      exact k s.heap kk q _ (.refl B.sub) (.str _ _)
end
/-- the text of a fingerprint -/
noncomputable def fpText (l : List UInt8) : Str := ⟨(byteArr (hexInts l)).map (·.toNat)⟩
theorem byteArr_ascii {ns : List Int} (h : ∀ n ∈ ns, 0 ≤ n ∧ n < 128) : ∀ c ∈ (byteArr ns).toList, c.toNat < 128 := by
  intro c hc
  simp only [byteArr, List.mem_map] at hc
  obtain ⟨n, hn, rfl⟩ := hc
  have := h n hn
  rw [Nat.toUInt8, UInt8.toNat_ofNat']
  omega
theorem fpText_len (l : List UInt8) : (fpText l).length = 2 * l.length := by
  show (Array.map _ _).size = _
  rw [Array.size_map, byteArr_size, hexInts_len]
theorem fn_path_fp {w : World} {is : List Int} {l : List UInt8} (hn : is.length ≤ 100) (hi : ∀ i ∈ is, 0 ≤ i ∧ i < 2 * HARD) (hl0 : 0 < l.length) (hl : l.length ≤ 100) :
    FN w 2 (.ref 772) [.list (is.map .int)] [("fingerprint", .bytes l.toArray)] (.str (steps (fpText l) is)) := by
  have hfl := fpText_len l
  refine FCK.fn (fck_intro (ps := [("path", .list (is.map .int)), ("fingerprint", .bytes l.toArray)]) (out := .ret (.str (steps (fpText l) is))) (f := 772) (by rfl) (by rfl) ?_ ["path", "fingerprint"] (by rfl) (by decide) rfl rfl rfl ?_ rfl)
  · intro s q vs ks B r rk hks
    cases r with
    | cons h1 r => cases r with
      | nil =>
        cases ks with
        | nil => cases hks
        | cons k1 kr =>
          obtain ⟨kn, kv⟩ := k1
          simp only [List.map_cons, List.cons.injEq] at hks
          obtain ⟨rfl, hkr⟩ := hks
          cases kr with
          | cons a b => cases hkr
          | nil =>
            cases rk with
            | cons hk _ => exact ⟨_, binds_K B.K rfl (by rfl) rfl rfl rfl, .cons h1 (.cons hk .nil)⟩
  · intro L
    have big : ∀ i ∈ is, i.natAbs < 10 ^ 11 := fun i h => by have := hi i h; unfold HARD at this; omega
    refine xs_cons (x_assign (d := .str (fpText l)) (ev_if (c := false) (tv_cmp (ev_name rfl) ev_none (cmp_is_none (d := .bytes l.toArray) (by intro u h; cases h)))
      (ev_meth0 (ev_call (g_fn rfl) (evs_cons (ev_name rfl) evs_nil) (fn_hexlify hl) (by rfl)) get_decode (decode_ (byteArr_ascii hexInts_lt) (by rw [byteArr_size, hexInts_len]; omega) (by rw [byteArr_size, hexInts_len]; omega)))) rfl) ?_
    refine xs_cons (x_forN (ds := is.map .int) (fun i => upd (rho0 [("path", .list (is.map .int)), ("fingerprint", .bytes l.toArray)]) "s" (.pers (.str (steps (fpText l) (is.take i))))) (it_list (ev_name rfl)) rfl sub_refl ?_) ?_
    · intro i d hd
      obtain ⟨j, hj, rfl⟩ := map_get hd
      have hj' := hi j (List.mem_of_getElem? hj)
      unfold HARD at hj'
      have hls := steps_len (is := is.take i) (s := fpText l) fun k hk => big k (List.mem_of_mem_take hk)
      have h1 : (Str.ofString "/").length = 1 := rfl
      have h2 : (Str.ofString "h").length = 1 := rfl
      rw [List.length_take] at hls
      have hb := steps_take (s := fpText l) hj
      by_cases hh : j < HARD
      · have hw : word j "h" = dec j := by unfold word; rw [if_pos hh]
        rw [hw] at hb
        have hdl := dec_len (i := j) (by omega)
        refine ⟨_, xs_one (x_ifF ((tv_cmp (ev_name rfl) (g_hard rfl) cmp_ge_int).eq (by simpa using hh)) (xs_one (x_aug (a := .str (steps (fpText l) (is.take i))) rfl (ev_bin ev_str (ev_name rfl) (fmt_d hj'.1 (by unfold HARD at hh; omega))) (iadd_str_ (by rw [sizeLine_eq, PySem.Str.length_append]; omega)) rfl))), ?_⟩
        show Sub (upd _ "s" _) _
        rw [hb]
        refine sub_over (sub_skip ?_ (sub_skip ?_ sub_refl)) <;> rfl
      · have hw : word j "h" = dec (j - HARD) ++ "h" := by unfold word; rw [if_neg hh]
        rw [hw, ← str_assoc (Str.ofString "/") (dec (j - HARD)) (Str.ofString "h")] at hb
        have hdl := dec_len (i := j - HARD) (by unfold HARD; omega)
        refine ⟨_, xs_one (x_ifT ((tv_cmp (ev_name rfl) (g_hard rfl) cmp_ge_int).eq (by simpa using hh)) (xs_one (x_aug (a := .str (steps (fpText l) (is.take i))) rfl (ev_bin ev_str (ev_bin (ev_name rfl) (g_hard rfl) op_sub_int) (fmt_dh (by unfold HARD at *; omega) (by unfold HARD at *; omega))) (iadd_str_ (by rw [sizeLine_eq, PySem.Str.length_append, PySem.Str.length_append]; omega)) rfl))), ?_⟩
        show Sub (upd _ "s" _) _
        rw [hb]
        refine sub_over (sub_skip ?_ (sub_skip ?_ sub_refl)) <;> rfl
    · have e : is.take (is.map PV.int).length = is := by rw [List.length_map, List.take_length]
      rw [e]
      exact xs_one (x_return (ev_name rfl))
end Mine

/-! ## P64 -/
namespace Mine
section
variable {w : World} {n : Nat} {env : Env} {ρ ρ' : Rho}
theorem x_assert {t : Expr} {msg : Option Expr} {pos : Pos} (ht : TV w n env ρ t true) : X w n env ρ (.Assert t msg pos) (.next ρ) := by
  refine ⟨fun A s q h0 q0 E Q R F k => wpAny_Assert_holds (ht.run A s q E _ R F.ctx fun h1 t1 q1 g1 => ⟨rfl, k h1 t1 q1 _ ⟨rfl, F.grow g1⟩⟩)⟩
theorem load_own {x : Str} {p : Pos} {a : Addr} {A : Around} {s : Shared} {E Q : Value → Shared → Prop} (hk : env.scope.kind = .function) (nv : NameVal env s.heap x (.ref a)) (hQ : Q (.ref a) s) (hd : (x == ("__debug__" : Str)) = false) : wpAny (model pw w) A (eval (.Name x p) env) Q E s := by
  refine wpAny_Name ?_ hd
  cases nv with
  | loc h1 h2 h3 => exact wpAny_loadName_local hk h1 h2 h3 hQ
  | cell h1 h2 h3 => exact wpAny_loadName_cell hk h1 h2 h3 hQ
/-- an item of a list of one's own -/
theorem ev_itemOwn {x : Str} {p pos : Pos} {i : Expr} {ds : List PV} {j : Int} {d : PV} (hx : ρ x = some (.own ds)) (hi : EV w n env ρ i (.int j)) (h0 : 0 ≤ j) (hj : j < 2 ^ 62) (hd : ds[j.toNat]? = some d)
    (hs : ∀ a u, subscripted i false (.ref a) (.int j u) = operate [.ref a, .int j u] (getItem (.ref a) (.int j u)) := by intro _ _; with_unfolding_all rfl) (hdb : (x == ("__debug__" : Str)) = false := by decide) : EV w n env ρ (.Subscript (.Name x p) i pos) d := by
  refine ⟨fun A s q E Q R C k => ?_⟩
  obtain ⟨a, vs, m, nv, ho, r, hq⟩ := C.owns x ds hx
  refine Subscript_ (load_own C.kind nv ?_ hdb)
  refine hi.run A s q E _ R C fun h2 t2 q2 v2 g2 r2 => ?_
  cases r2
  obtain ⟨v, hv, rv⟩ := r.get hd
  have hl := isList_of (g2.keep _ _ ho)
  exact tail_any (s := { s with heap := h2, toks := t2 }) hl.typeIs slot_list_getitem.lookup (wpAny_getItem_list hl h0 (by omega) (by simpa using hv) (k h2 t2 q2 v g2 (rv.mono g2.le))) (hs _ _)
/-- x[i] = e on a list of one's own -/
theorem x_setitemE {x : Str} {p sp pos : Pos} {i e : Expr} {ds : List PV} {j : Int} {d : PV} (hx : ρ x = some (.own ds)) (hi : EV w n env ρ i (.int j)) (he : EV w n env ρ e d) (h0j : 0 ≤ j) (hj : j < ds.length) (hsz : ds.length ≤ 1000000)
    (hd : (x == ("__debug__" : Str)) = false := by decide) (hs : swapsWith e (some (.Subscript (.Name x p) i sp)) pos.line env = pure false := by rfl) :
    X w n env ρ (.Assign [.Subscript (.Name x p) i sp] e pos) (.next (upd ρ x (.own (ds.set j.toNat d)))) := by
  refine ⟨fun A s q h0 q0 E Q R F k => ?_⟩
  obtain ⟨a, vs, m, nv, ho, r, hq⟩ := F.ctx.owns x ds hx
  refine wpAny_Assign_Subscript (he.run A s q E _ R F.ctx fun h1 t1 q1 v g1 r1 => ?_) hs
  have F1 := F.grow g1
  have nv1 := nv.keep g1.keep
  refine load_own F1.ctx.kind nv1 (hi.run A _ q1 E _ R F1.ctx fun h2 t2 q2 u g2 r2 => ?_) hd
  cases r2
  have g12 := g1.trans g2
  have F2 := F1.grow g2
  have ho2 := g12.keep _ _ ho
  refine setitem_exact (s := { s with heap := h2, toks := t2 }) ho2 h0j (by rw [r.length]; exact hj) (by rw [r.length]; exact hsz) fun h3 m' ho3 hs3 => ?_
  have nv2 := nv1.keep g2.keep
  have F3 := F2.writeOwn hx nv2 ho2 hs3 ho3 ((r.mono g12.le).set (r1.mono g2.le))
  exact k h3 t2 q2 _ ⟨rfl, F3⟩
theorem len_bytes_ {b : Array UInt8} (hl : b.size ≤ 100000) : FN w n (.builtin "len") [.bytes b] [] (.int b.size) := by
  refine ⟨fun A s q E Q vs ks R B r rk hks k => ?_⟩
  have : ks = [] := by cases ks with | nil => rfl | cons a b => cases hks
  subst this
  cases r with
  | cons h r' => cases r' with
    | nil => cases h; exact PySem.W.len_bytes (by omega) (k s.heap _ q _ (.refl B.sub) (.int _ _))
end
/-! # KeyOrigin -/
section
variable {w : World} {n : Nat} {env : Env} {ρ : Rho}
/-- an attribute of what an expression gives -/
theorem ev_attrE {e : Expr} {name : Str} {pos : Pos} {C : Addr} {fs : List (Str × PV)} {d : PV} {attr : Option Value} (he : EV w n env ρ e (.inst C fs)) (hd : fs.lookup name = some d) (hr : ∀ u, d ≠ .raw u)
    (hg : plainGet (K w.params) C name = true) (hh : hasDictIn (K w.params) C = true) (ha : findIn (K w.params) (.ref C) name = some attr) (hn : noGet (K w.params) attr = true)
    (hb : attributeBase e name env (eval e env) = eval e env := by rfl) : EV w n env ρ (.Attribute e name pos) d := by
  refine ⟨fun A s q E Q R X k => ?_⟩
  rw [arm_eval_Attribute, hb]
  refine wpAny_bind (he.run A s q E _ R X fun h1 t1 q1 v g1 r1 => wpAny_bind (wpAny_standAt (wpAny_bind (wpAny_holding ?_))))
  cases r1 with
  | @inst a dx C es m fs hx hdx r =>
    obtain ⟨v, hv, rv⟩ := repF_getL r hd
    exact get_value (s := { s with heap := h1, toks := t1 }) (X.grow g1).K (instAt_of (g1.sub _ _ hx) (g1.sub _ _ hdx)) (plainGet_of hg).1 (findObj_own hh ha hn hv) (rep_handed rv hr) (wpAny_bind (wpAny_letTemporaryGo (wpAny_pure (k h1 _ q1 v g1 rv))))
theorem ev_idxE {e : Expr} {pos : Pos} {els : List El} (he : EV w n env ρ e (der els)) (hb : attributeBase e "indexes" env (eval e env) = eval e env := by rfl) : EV w n env ρ (.Attribute e "indexes" pos) (.list (els.map El.pv)) :=
  ev_attrE (attr := none) he rfl (by intro u h; cases h) (k_plain_idx w) (k_dict w) (k_find_idx w) rfl hb
end
noncomputable def origin (fp : Array UInt8) (is : List Int) : PV := .inst 806 [("fingerprint", .bytes fp), ("derivation", .list (is.map .int))]
theorem o_makes (w : World) : makesIn (K w.params) 806 = true := by kernel_rfl
theorem o_init (w : World) : findIn (K w.params) (.ref 806) "__init__" = some (some (.ref 786)) := by kernel_rfl
theorem o_setattr (w : World) : findIn (K w.params) (.ref 806) "__setattr__" = some (some (.builtin "object.__setattr__")) := by kernel_rfl
theorem o_over (w : World) : plainOver (K w.params) 806 = true := by kernel_rfl
theorem o_taker1 (w : World) : takerIn (K w.params) 806 "fingerprint" = some none := by kernel_rfl
theorem o_taker2 (w : World) : takerIn (K w.params) 806 "derivation" = some none := by kernel_rfl
theorem o_dict (w : World) : hasDictIn (K w.params) 806 = true := by kernel_rfl
theorem o_str (w : World) : findIn (K w.params) (.ref 806) "__str__" = some (some (.ref 803)) := by kernel_rfl
theorem o_keep (w : World) : keepIn (K w.params) (.ref 806) = true := by kernel_rfl
theorem o_plain1 (w : World) : plainGet (K w.params) 806 "fingerprint" = true := by kernel_rfl
theorem o_plain2 (w : World) : plainGet (K w.params) 806 "derivation" = true := by kernel_rfl
theorem o_find1 (w : World) : findIn (K w.params) (.ref 806) "fingerprint" = some none := by kernel_rfl
theorem o_find2 (w : World) : findIn (K w.params) (.ref 806) "derivation" = some none := by kernel_rfl
section
variable {w : World} {n : Nat}
theorem fn_origin {fp : Array UInt8} {is : List Int} : FN w 2 (.ref 806) [.bytes fp, .list (is.map .int)] [] (origin fp is) := by
  refine fn_make (f := 786) (ps := [("fingerprint", .bytes fp), ("derivation", .list (is.map .int))]) (by rfl) (by rfl) (fun s q v vs B r => ?_) ["fingerprint", "derivation"] (by rfl) (by decide) (o_makes w) (o_init w) (by rfl) rfl rfl rfl ?_
  · cases r with
    | cons h1 r => cases r with
      | cons h2 r => cases r with
        | nil => exact ⟨_, BindsTo.of_eq rfl, .cons (.raw _) (.cons h1 (.cons h2 .nil))⟩
  · intro L x
    refine xi_store (ev_name rfl) rfl rfl (by decide) ?_ (o_setattr w) (o_over w) (o_taker1 w) (o_dict w)
    exact xi_store (ev_name rfl) rfl rfl (by simp) xi_nil (o_setattr w) (o_over w) (o_taker2 w) (o_dict w)
theorem fn_ostr {l : List UInt8} {is : List Int} (hn : is.length ≤ 100) (hi : ∀ i ∈ is, 0 ≤ i ∧ i < 2 * HARD) (hl0 : 0 < l.length) (hl : l.length ≤ 100) : FN w 3 (.ref 803) [origin l.toArray is] [] (.str (steps (fpText l) is)) := by
  refine fn_intro (ps := [("self", origin l.toArray is)]) (out := .ret (.str (steps (fpText l) is))) (f := 803) (by rfl) (by rfl) ?_ ["self"] (by rfl) (by decide) rfl rfl rfl ?_ rfl
  · intro s q vs B r
    cases r with
    | cons h1 r => cases r with
      | nil => exact ⟨_, BindsTo.of_eq rfl, .cons h1 .nil⟩
  · intro L
    refine xs_one (x_return (ev_callK (g_fn rfl) (evs_cons ?_ evs_nil) (kw_one ?_) (fn_path_fp hn hi hl0 hl) (by rfl)))
    · exact ev_attrE (attr := none) (ev_name rfl) rfl (by intro u h; cases h) (o_plain2 w) (o_dict w) (o_find2 w) rfl
    · exact ev_attrE (attr := none) (ev_name rfl) rfl (by intro u h; cases h) (o_plain1 w) (o_dict w) (o_find1 w) rfl
/-- str(origin) -/
theorem fn_str_origin {l : List UInt8} {is : List Int} (hn : is.length ≤ 100) (hi : ∀ i ∈ is, 0 ≤ i ∧ i < 2 * HARD) (hl0 : 0 < l.length) (hl : l.length ≤ 100) : FN w 4 (.type "str") [origin l.toArray is] [] (.str (steps (fpText l) is)) :=
  fn_str_inst (o_str w) (by rfl) (fn_ostr hn hi hl0 hl)
end
end Mine

/-! ## P65 -/
namespace Mine
/-- an origin's text -/
noncomputable def origText (fp : Str) (is : List Int) (mark : Str) : Str := Txt.join (one 47) (fp :: is.map fun i => word i mark)
theorem hexC_hex : ∀ d, d < 16 → hexC d ≠ 47 := by decide
theorem hex8_free {a b c d e f g h : Nat} (ha : a < 16) (hb : b < 16) (hc : c < 16) (hd : d < 16) (he : e < 16) (hf : f < 16) (hg : g < 16) (hh : h < 16) : 47 ∉ sg (hex8 a b c d e f g h) := by
  intro hm
  have hm : 47 ∈ [hexC a, hexC b, hexC c, hexC d, hexC e, hexC f, hexC g, hexC h] := hm
  simp only [List.mem_cons, List.not_mem_nil, or_false] at hm
  rcases hm with h1 | h1 | h1 | h1 | h1 | h1 | h1 | h1
  · exact hexC_hex _ ha h1.symm
  · exact hexC_hex _ hb h1.symm
  · exact hexC_hex _ hc h1.symm
  · exact hexC_hex _ hd h1.symm
  · exact hexC_hex _ he h1.symm
  · exact hexC_hex _ hf h1.symm
  · exact hexC_hex _ hg h1.symm
  · exact hexC_hex _ hh h1.symm
theorem orig_split {fp : Str} {is : List Int} {c : Nat} (hfp : 47 ∉ sg fp) (h : ∀ i ∈ is, 0 ≤ i ∧ i < 2 * HARD) (hc : isMark c = true) : Txt.split (origText fp is (one c)) (one 47) = fp :: is.map fun i => word i (one c) := by
  refine split_join (by intro h; cases h) fun p hp => ?_
  rcases List.mem_cons.mp hp with rfl | hp
  · exact hfp
  · exact words_free (fun i hi => (h i hi).1) hc (.inl (by decide)) rfl p hp
theorem words_sum {mark : Str} (hm : mark.length ≤ 1) : ∀ {is : List Int}, (∀ i ∈ is, 0 ≤ i ∧ i < 2 * HARD) → ((is.map fun i => word i mark).map (·.length)).sum ≤ 14 * is.length
  | [], _ => by simp
  | a :: r, h => by
    have h1 := word_len (i := a) (mark := mark) (by have := h a List.mem_cons_self; unfold HARD at this; omega) hm
    have h2 := words_sum hm (is := r) fun i hi => h i (List.mem_cons_of_mem _ hi)
    simp only [List.map_cons, List.sum_cons, List.length_cons]
    omega
section
variable {w : World} {n : Nat}
theorem fn_origin_from {a b c' d e f g h : Nat} {is : List Int} {c : Nat} (ha : a < 16) (hb : b < 16) (hc' : c' < 16) (hd : d < 16) (he : e < 16) (hf : f < 16) (hg : g < 16) (hh : h < 16)
    (hn : is.length ≤ 90) (hi : ∀ i ∈ is, 0 ≤ i ∧ i < 2 * HARD) (hc : isMark c = true) (hr : Txt.rstripChars (pathText is (one c)) (one 47) = pathText is (one c)) (hxl : (pathText is (one c)).length ≤ 100000) (hol : (origText (hex8 a b c' d e f g h) is (one c)).length ≤ 100000) :
    FCK w 3 (.ref 793) [.raw (.ref 806), .str (origText (hex8 a b c' d e f g h) is (one c))] [] (origin (byteArr [16 * (a : Int) + b, 16 * (c' : Int) + d, 16 * (e : Int) + f, 16 * (g : Int) + h]) is) := by
  refine fck_intro (ps := [("cls", .raw (.ref 806)), ("s", .str (origText (hex8 a b c' d e f g h) is (one c)))]) (out := .ret (origin (byteArr [16 * (a : Int) + b, 16 * (c' : Int) + d, 16 * (e : Int) + f, 16 * (g : Int) + h]) is)) (f := 793) (by rfl) (by rfl) ?_ ["cls", "s"] (by rfl) (by decide) rfl rfl rfl ?_ rfl
  · intro s q vs ks B r rk hks
    have : ks = [] := by cases ks with | nil => rfl | cons a b => cases hks
    subst this
    cases r with
    | cons h1 r => cases r with
      | cons h2 r => cases r with
        | nil => exact ⟨_, BindsTo.of_eq rfl, .cons h1 (.cons h2 .nil)⟩
  · intro L
    have hsp := orig_split (hex8_free ha hb hc' hd he hf hg hh) hi hc
    have hspl : FNO w 2 (.builtin "str.split") [.str (origText (hex8 a b c' d e f g h) is (one c)), .str "/"] (.str (hex8 a b c' d e f g h) :: is.map fun i => .str (word i (one c))) := by
      have := fs_split (w := w) (n := 2) hsp hol (by rw [List.length_cons, List.length_map]; omega)
      rw [List.map_cons, map_str] at this
      exact this
    have hj : FN w 2 (.builtin "str.join") [.str "/", .list (.str "m" :: is.map fun i => .str (word i (one c)))] [] (.str (pathText is (one c))) := by
      have := join_ (w := w) (n := 2) (x := "/") (xs := "m" :: is.map fun i => word i (one c)) (by decide) ?_
      · rw [List.map_cons, map_str] at this
        exact this
      · have h1 := words_sum (mark := one c) (by show 1 ≤ 1; decide) hi
        have h2 : (Str.ofString "m").length = 1 := rfl
        simp only [List.map_cons, List.sum_cons, List.length_cons, List.length_map] at h1 ⊢
        omega
    refine xs_cons (x_assign_own (evo_meth (ev_name rfl) get_split (evs_cons ev_str evs_nil) hspl) rfl) ?_
    refine xs_cons (x_assign (ev_call (g_fn rfl) (evs_cons (ev_itemOwn (d := .str (hex8 a b c' d e f g h)) rfl ev_int (by decide) (by decide) rfl) evs_nil) (fn_unhex ha hb hc' hd he hf hg hh) (by rfl)) rfl) ?_
    refine xs_cons (x_assert ((tv_cmp (ev_callB (g_len rfl) (evs_cons (ev_name rfl) evs_nil) (len_bytes_ (by rw [byteArr_size]; simp))) ev_int cmp_eq_int).eq (by rfl))) ?_
    refine xs_cons (x_setitemE (d := .str "m") rfl ev_int ev_str (by decide) (by simp) (by simp; omega)) ?_
    refine xs_freeze (x := "arr") rfl ?_
    refine xs_cons (x_assign (ev_meth ev_str get_join (evs_cons (ev_name rfl) evs_nil) hj) rfl) ?_
    refine xs_cons (x_assign (ev_call (g_fn rfl) (evs_cons (ev_name rfl) evs_nil) (fn_path hn hi hc hxl hr hxl) (by rfl)) rfl) ?_
    exact xs_one (x_return (ev_call (ev_name rfl) (evs_cons (ev_name rfl) (evs_cons (ev_name rfl) evs_nil)) fn_origin (o_keep w)))
end
end Mine

/-! ## P66 -/
namespace Mine
/-! # The law's own frame: calls that catch an exception write its slots -/
section
variable {w : World} {env : Env} {h0 h h' : Heap} {q0 q : Gh} {ρ : Rho}
theorem Fs.slots (F : Fs w env h0 q0 ρ h q) (hk : ∀ b o, b ≠ env.locals → h.get? b = some o → h'.get? b = some o) (hn : ∀ m, h.Ns env.locals m → h'.Ns env.locals m) : Fs w env h0 q0 ρ h' q := by
  have k0 : Keep h0 h' := fun b o e => hk b o (by rintro rfl; rw [F.locNew] at e; cases e) (F.g.keep b o e)
  have sub : ∀ b o, q b = some o → h'.get? b = some o := fun b o e => hk b o (by rintro rfl; rw [F.locGh] at e; cases e) (F.ctx.sub b o e)
  have lne : ∀ b o, h.get? b = some o → ((∃ v n, o = listOf v n) ∨ ∃ v, o.data = .cell v) → b ≠ env.locals := fun b o e hd z => by
    obtain ⟨m, oo, es, ep, h1, h2, _⟩ := F.loc
    rw [z, h1] at e; cases e
    rcases hd with ⟨v, n, rfl⟩ | ⟨v, hd⟩
    · cases h2
    · rw [hd] at h2; cases h2
  have nv : ∀ y u, NameVal env h y u → NameVal env h' y u := fun y u n => by
    cases n with
    | loc a b c => exact .loc a (hn _ b) c
    | cell a b c => obtain ⟨o, e, d⟩ := c; exact .cell a b ⟨o, hk _ _ (lne _ _ e (.inr ⟨_, d⟩)) e, d⟩
  have nb : ∀ y u, (∃ v, NameVal env h y v) → NameVal env h' y u → NameVal env h y u := fun y u ⟨v, n⟩ n' => by
    cases (nv y v n).fun n'
    exact n
  exact {
    K0 := F.K0
    top0 := F.top0
    ctx := ⟨F.K0.keeps k0, let ⟨mg, mb, t⟩ := F.top0; ⟨mg, mb, t.keeps k0⟩, sub, F.ctx.kind, F.ctx.globals, F.ctx.builtins, fun x d e => let ⟨v, n, r⟩ := F.ctx.pers x d e; ⟨v, nv _ _ n, r⟩,
      fun x ds e => let ⟨a, vs, n, b1, b2, b3, b4⟩ := F.ctx.owns x ds e; ⟨a, vs, n, nv _ _ b1, hk _ _ (lne _ _ b2 (.inl ⟨_, _, rfl⟩)) b2, b3, b4⟩⟩
    g := ⟨k0, F.g.le, sub, F.g.fresh⟩
    loc := let ⟨m, n⟩ := F.loc; ⟨m, hn m n⟩
    locNew := F.locNew
    locGh := F.locGh
    cells := fun x c e => by
      obtain ⟨⟨v, o, a, d⟩, r⟩ := F.cells x c e
      exact ⟨⟨v, o, hk _ _ (lne _ _ a (.inr ⟨_, d⟩)) a, d⟩, r⟩
    apart := F.apart
    ownsNew := fun x ds a e n => F.ownsNew x ds a e (nb _ _ (let ⟨a, vs, n, b1, _⟩ := F.ctx.owns x ds e; ⟨_, b1⟩) n)
    ownsApart := fun x y dx dy a ex ey nx ny => F.ownsApart x y dx dy a ex ey (nb _ _ (let ⟨a, vs, n, b1, _⟩ := F.ctx.owns x dx ex; ⟨_, b1⟩) nx) (nb _ _ (let ⟨a, vs, n, b1, _⟩ := F.ctx.owns y dy ey; ⟨_, b1⟩) ny) }
/-- the frame's own name, and what an exception may write -/
theorem Fs.belL (F : Fs w env h0 q0 ρ h q) (hf : env.frame = some env.locals) : Bel (hideP h fun b => b = env.locals) h [env] h ∧ Bs w (hideP h fun b => b = env.locals) q := by
  have e1 : ∀ b o, (hideP h fun b => b = env.locals).get? b = some o → h.get? b = some o := fun b o e => by
    by_cases p : b = env.locals
    · rw [hideP_none (P := fun b => b = env.locals) p] at e; cases e
    · rw [hideP_eq (P := fun b => b = env.locals) p] at e; exact e
  have e2 : ∀ b o, b ≠ env.locals → h.get? b = some o → (hideP h fun b => b = env.locals).get? b = some o := fun b o p e => by rw [hideP_eq (P := fun b => b = env.locals) p]; exact e
  have k0 : Keep h0 (hideP h fun b => b = env.locals) := fun b o e => e2 b o (by rintro rfl; rw [F.locNew] at e; cases e) (F.g.keep b o e)
  refine ⟨⟨e1, .refl _, ?_, ?_, trivial⟩, F.K0.keeps k0, let ⟨mg, mb, t⟩ := F.top0; ⟨mg, mb, t.keeps k0⟩, fun b o e => e2 b o (by rintro rfl; rw [F.locGh] at e; cases e) (F.ctx.sub b o e)⟩
  · rw [F.ctx.kind]; decide
  · obtain ⟨m, o, es, ep, ho, hd, _⟩ := F.loc
    exact ⟨env.locals, o, hf, hideP_none rfl, ho, fun vs q => by rw [hd] at q; cases q⟩
theorem Fs.afterX (F : Fs w env h0 q0 ρ h q) {l : List Env} (B : Bel (hideP h fun b => b = env.locals) h l h') : Fs w env h0 q0 ρ h' q :=
  F.slots (fun b o p e => B.stays b o (by rw [hideP_eq (P := fun b => b = env.locals) p]; exact e)) fun m hn => B.up.ns hn
end
section
variable (w : World) (n : Nat) (env : Env) (ρ : Rho)
/-- a test in the law's frame -/
structure LT (e : Expr) (b : Bool) : Prop where
  run : ∀ A s q h0 q0 E Q, Room n A → A.frames = some [env] → Fs w env h0 q0 ρ s.heap q → (∀ h' tk q', Fs w env h0 q0 ρ h' q' → Q b { s with heap := h', toks := tk }) → wpAny (model pw w) A (isTrue e env (eval e env)) Q E s
/-- the law's statements -/
structure LS (ss : List Stmt) (d : PV) : Prop where
  run : ∀ A s q h0 q0 E Q, Room n A → A.frames = some [env] → Fs w env h0 q0 ρ s.heap q → (∀ h' tk q' v, Rep q' v d → Grow h0 q0 h' q' → Q (.ret v) { s with heap := h', toks := tk }) → wpAny (model pw w) A (execs ss env) Q E s
end
section
variable {w : World} {n : Nat} {env : Env} {ρ ρ' : Rho}
theorem TV.lt {e : Expr} {b : Bool} (h : TV w n env ρ e b) : LT w n env ρ e b := ⟨fun A s q h0 q0 E Q R fr F k => h.run A s q E Q R F.ctx fun h' tk q' g => k h' tk q' (F.grow g)⟩
theorem LT.eq {e : Expr} {b c : Bool} (h : LT w n env ρ e b) (hb : b = c) : LT w n env ρ e c := hb ▸ h
theorem lt_not {x : Expr} {pos : Pos} {b : Bool} (h : LT w n env ρ x b) : LT w n env ρ (.UnaryOp .Not x pos) (!b) := ⟨fun A s q h0 q0 E Q R fr F k => wpAny_isTrue_Not (h.run A s q h0 q0 E _ R fr F k)⟩
theorem lt_and {x : Expr} {rest : List Expr} {pos : Pos} {b c : Bool} (hx : LT w n env ρ x b) (hr : b = true → LT w n env ρ (.BoolOp .And rest pos) c) : LT w n env ρ (.BoolOp .And (x :: rest) pos) (b && c) := by
  refine ⟨fun A s q h0 q0 E Q R fr F k => ?_⟩
  refine isTrue_and (hx.run A s q h0 q0 E _ R fr F fun h1 t1 q1 F1 => ?_)
  cases b with
  | true => exact (hr rfl).run A _ q1 h0 q0 E _ R fr F1 k
  | false => exact k h1 t1 q1 F1
theorem lt_or {x : Expr} {rest : List Expr} {pos : Pos} {b c : Bool} (hx : LT w n env ρ x b) (hr : b = false → LT w n env ρ (.BoolOp .Or rest pos) c) : LT w n env ρ (.BoolOp .Or (x :: rest) pos) (b || c) := by
  refine ⟨fun A s q h0 q0 E Q R fr F k => ?_⟩
  refine isTrue_or (hx.run A s q h0 q0 E _ R fr F fun h1 t1 q1 F1 => ?_)
  cases b with
  | true => exact k h1 t1 q1 F1
  | false => exact (hr rfl).run A _ q1 h0 q0 E _ R fr F1 k
theorem lt_and_nil {pos : Pos} : LT w n env ρ (.BoolOp .And [] pos) true := TV.lt tv_and_nil
theorem lt_or_nil {pos : Pos} : LT w n env ρ (.BoolOp .Or [] pos) false := TV.lt tv_or_nil
/-- _law_refused(..) -/
theorem lt_refused {g : Str} {p pos : Pos} {e : Expr} {rest : List Expr} {f : Value} {ds : List PV} {b : Bool} (hg : EV w n env ρ (.Name g p) (.raw f)) (ha : EVs w n env ρ (e :: rest) ds) (hf : FX w n f ds b)
    (hk : keepIn (K w.params) f = true) (hfr : env.frame = some env.locals := by rfl) (he : starEach (e :: rest) env = (false, eval e env) :: starEach rest env := by rfl) (hplain : (backTo pos (starEach rest env)).any (·.1) = false := by rfl)
    (hp : ∀ whole, isTrue (.Call (.Name g p) (e :: rest) [] pos) env whole = (do let v ← whole; standAt (Expr.Call (.Name g p) (e :: rest) [] pos).pos; holding [v] (truthy v)) := by intro _; rfl) : LT w n env ρ (.Call (.Name g p) (e :: rest) [] pos) b := by
  refine ⟨fun A s q h0 q0 E Q R fr F k => ?_⟩
  refine isTrue_plain (wpAny_Call_NameR (hg.run A s q E _ R F.ctx fun h1 t1 q1 v g1 r1 => ?_)) (hp _)
  cases r1
  have F1 := F.grow g1
  refine callWith_K F1.ctx.K hk (ha.run pos A _ q1 E _ R F1.ctx fun h2 t2 q2 vs g2 r2 => ⟨(F1.grow g2).ctx.K, ?_⟩) he hplain
  have F2 := F1.grow g2
  obtain ⟨B, BB⟩ := F2.belL hfr
  refine hf.run A _ q2 _ _ [env] E _ vs R fr BB r2 B fun h3 t3 B3 => ?_
  exact wpAny_truthy_bool (k h3 t3 q2 (F2.afterX B3))
theorem ls_cons {st : Stmt} {rest : List Stmt} {d : PV} (h : X w n env ρ st (.next ρ')) (hr : LS w n env ρ' rest d) : LS w n env ρ (st :: rest) d := by
  refine ⟨fun A s q h0 q0 E Q R fr F k => ?_⟩
  refine wpAny_execs_cons (h.run A s q h0 q0 E _ R F fun h' tk q' f p => ?_)
  obtain ⟨rfl, F'⟩ := p
  exact hr.run A _ q' h0 q0 E Q R fr F' k
theorem ls_ret {st : Stmt} {rest : List Stmt} {d : PV} (h : X w n env ρ st (.ret d)) : LS w n env ρ (st :: rest) d := by
  refine ⟨fun A s q h0 q0 E Q R fr F k => ?_⟩
  refine wpAny_execs_cons (h.run A s q h0 q0 E _ R F fun h' tk q' f p => ?_)
  obtain ⟨v, rfl, r, g⟩ := p
  exact k h' tk q' v r g
/-- if test: return False, passed by -/
theorem ls_pass {t : Expr} {body rest : List Stmt} {pos : Pos} {d : PV} (ht : LT w n env ρ t false) (hr : LS w n env ρ rest d) : LS w n env ρ (.If t body [] pos :: rest) d := by
  refine ⟨fun A s q h0 q0 E Q R fr F k => ?_⟩
  refine wpAny_execs_cons (wpAny_If (ht.run A s q h0 q0 E _ R fr F fun h1 t1 q1 F1 => ?_))
  exact wpAny_execs_nil (hr.run A _ q1 h0 q0 E Q R fr F1 k)
theorem ls_freeze {ss : List Stmt} {x : Str} {ds : List PV} {d : PV} (hx : ρ x = some (.own ds)) (h : LS w n env (upd ρ x (.pers (.list ds))) ss d) : LS w n env ρ ss d := by
  refine ⟨fun A s q h0 q0 E Q R fr F k => ?_⟩
  obtain ⟨q', F', _⟩ := F.freeze hx
  exact h.run A s q' h0 q0 E Q R fr F' k
theorem LS.less {ρ1 : Rho} {ss : List Stmt} {d : PV} (h : LS w n env ρ1 ss d) (hs : Sub ρ1 ρ) : LS w n env ρ ss d := ⟨fun A s q h0 q0 E Q R fr F k => h.run A s q h0 q0 E Q R fr (F.less hs) k⟩
end
end Mine

/-! ## P67 -/
namespace Mine
/-! # More rules for the law -/
section
variable {w : World} {n : Nat} {env : Env} {ρ ρ' : Rho}
/-- a, b = (c, d): the stores go from behind -/
theorem x_pair {x1 x2 : Str} {p1 p2 tp pos : Pos} {kk : Nat} {value : Expr} {d1 d2 : PV} (he : EV w n env ρ value (.tuple [d1, d2])) (c1 : canStore env x1 = true) (c2 : canStore env x2 = true)
    (hs : swapsWithSole [.Tuple [.Name x1 p1, .Name x2 p2] kk tp] value pos.line env = pure false := by rfl) (hw : swappedStores [.Tuple [.Name x1 p1, .Name x2 p2] kk tp] value env = pure (some [x1, x2]) := by rfl) :
    X w n env ρ (.Assign [.Tuple [.Name x1 p1, .Name x2 p2] kk tp] value pos) (.next (upd (upd ρ x2 (.pers d2)) x1 (.pers d1))) := by
  refine ⟨fun A s q h0 q0 E Q R F k => ?_⟩
  refine Assign_Tuple_swapped (names := [x1, x2]) (he.run A s q E _ R F.ctx fun h1 t1 q1 v g1 r1 => ?_) hs hw
  have F1 := F.grow g1
  cases r1 with
  | @tuple a vs ds m ha r =>
    cases r with
    | cons ra r => cases r with
      | cons rb r => cases r with
        | nil =>
          rename_i v1 v2
          have hT : h1.IsTuple a #[v1, v2] := isTuple_of (vs := [v1, v2]) (g1.sub _ _ ha)
          refine unpackItems_tuple (items := #[v1, v2]) (s := { s with heap := h1, toks := t1 }) R.handled hT fun h2 he2 => ?_
          have g2 : Grow h1 q1 h2 q1 := Grow.heap F1.ctx.sub fun b o e => he2 b o (Nat.ne_of_lt (Heap.lt_size e)) e
          have F2 := F1.grow g2
          show wpAny _ A (assignInOrder [bindName env x2, bindName env x1] [v2, v1]) _ _ _
          refine assignInOrder_cons (wpAny_bindName (store_pers (s := { s with heap := h2, toks := t1 }) F2 c2 rb fun h3 t3 F3 => ?_))
          refine assignInOrder_cons (wpAny_bindName (store_pers (s := { s with heap := h3, toks := t3 }) F3 c1 ra fun h4 t4 F4 => ?_))
          exact assignInOrder_nil (k h4 t4 q1 _ ⟨rfl, F4⟩)
theorem ev_and {e1 e2 : Expr} {rest : List Expr} {pos : Pos} {a d : PV} (h1 : EV w n env ρ e1 a) (ht : Truth w n a true) (h2 : EV w n env ρ (.BoolOp .And (e2 :: rest) pos) d) : EV w n env ρ (.BoolOp .And (e1 :: e2 :: rest) pos) d := by
  refine ⟨fun A s q E Q R C k => ?_⟩
  refine BoolOp_and (h1.run A s q E _ R C fun h1 t1 q1 v g1 r1 => ?_)
  refine ht.run A _ q1 E _ v R (C.grow g1).bs r1 fun h2' t2 q2 g2 => ?_
  rw [if_pos rfl]
  exact h2.run A _ q2 E _ R ((C.grow g1).grow g2) fun h3 t3 q3 v3 g3 r3 => k h3 t3 q3 v3 ((g1.trans g2).trans g3) r3
theorem ev_andF {e1 e2 : Expr} {rest : List Expr} {pos : Pos} {a : PV} (h1 : EV w n env ρ e1 a) (ht : Truth w n a false) : EV w n env ρ (.BoolOp .And (e1 :: e2 :: rest) pos) a := by
  refine ⟨fun A s q E Q R C k => ?_⟩
  refine BoolOp_and (h1.run A s q E _ R C fun h1 t1 q1 v g1 r1 => ?_)
  refine ht.run A _ q1 E _ v R (C.grow g1).bs r1 fun h2' t2 q2 g2 => ?_
  rw [if_neg (by decide)]
  exact k h2' t2 q2 v (g1.trans g2) (r1.mono g2.le)
theorem ev_one {op : BoolOp} {e : Expr} {pos : Pos} {d : PV} (h : EV w n env ρ e d) : EV w n env ρ (.BoolOp op [e] pos) d := ⟨fun A s q E Q R C k => BoolOp_one (h.run A s q E Q R C k)⟩
/-- list(x) -/
theorem list_copy_ {ds : List PV} (hl : ds.length ≤ 100000) : FN w n (.type "list") [.list ds] [] (.list ds) := by
  refine ⟨fun A s q E Q vs ks R B r rk hks k => ?_⟩
  have : ks = [] := by cases ks with | nil => rfl | cons a b => cases hks
  subst this
  cases r with
  | cons h1 r => cases r with
    | nil => cases h1 with
      | @list a vs ds m h r =>
        refine call_list_seq (T := "list") (items := vs.toArray) (n := m) a (.inl rfl) (B.sub _ _ h) rfl rfl (fun h' c' hk hD => ?_) (by rw [List.size_toArray, r.length, sizeLine_eq]; omega)
        have hn := get_size_none s.heap
        have hq : q s.heap.objs.size = none := by
          cases z : q s.heap.objs.size with
          | none => rfl
          | some o => rw [B.sub _ _ z] at hn; cases hn
        exact k h' s.toks (put q s.heap.objs.size (listOf vs.toArray c')) _ ((Grow.heap B.sub hk).put hn hq hD) (.list put_self (r.mono (put_le hq)))
/-- a list and a list -/
theorem op_add_list {a b : List PV} (hl : a.length + b.length ≤ 100000) : Gives2 w n (binaryOp .Add) (.list a) (.list b) (.list (a ++ b)) := by
  refine ⟨fun A s q E Q va vb R sub ra rb k => ?_⟩
  cases ra with
  | @list l vs ds m h r => cases rb with
    | @list l2 vs2 ds2 m2 h2 r2 =>
      refine P.add_list (sub _ _ h) (sub _ _ h2) ?_ (by rw [List.size_toArray, List.size_toArray, r.length, r2.length, sizeLine_eq]; omega)
      have hn := get_size_none s.heap
      have hq : q s.heap.objs.size = none := by
        cases z : q s.heap.objs.size with
        | none => rfl
        | some o => rw [sub _ _ z] at hn; cases hn
      have e : vs.toArray ++ vs2.toArray = (vs ++ vs2).toArray := by simp
      rw [e]
      have g : Grow s.heap q (s.heap.push (listOf (vs ++ vs2).toArray 0)) (put q s.heap.objs.size (listOf (vs ++ vs2).toArray 0)) := (Grow.heap sub fun b o e => Heap.get?_push_of_some _ e).put hn hq (Heap.get?_push_size _ rfl)
      exact k _ s.toks _ _ g (.list put_self ((r.append r2).mono (put_le hq)))
theorem eqAt_bytes {A : Around} {s : Shared} (a : Array UInt8) (t : Tok) (b : Array UInt8) (u : Tok) : SeqAt.EqAt A s (.bytes a t) (.bytes b u) (a.toList == b.toList) := fun prog w E Q h => by
  unfold eqBool
  refine wpAny_holding ?_
  refine wpAny_ite_split (fun hab => ?_) (fun _ => ?_)
  · have e : a = b := by have := eq_of_beq hab; injection this
    subst e
    exact wpAny_bind (wpAny_rule (wpAny_pure (by simpa using h)))
  · refine wpAny_bind (richCompare_gives (typeIs_bytes s a t) (typeIs_bytes s b u) FB.slot_bytes_eq FB.entry_bytes_eq (FB.args_bytes_eq_2 _ _) (gives_bytes_eq a b t u) (fun e => nomatch e) (wpAny_truthy_bool h))
/-- pairs of bytes and a list -/
theorem cmp_eq_fp {b : Array UInt8} {is : List Int} : Gives2 w n (compareOp .Eq) (.tuple [.bytes b, .list (is.map .int)]) (.tuple [.bytes b, .list (is.map .int)]) (.bool true) := by
  refine ⟨fun A s q E Q va vb R sub ra rb k => ?_⟩
  cases ra with
  | @tuple l vs ds m h r => cases rb with
    | @tuple l2 vs2 ds2 m2 h2 r2 =>
      cases r with
      | cons r11 r => cases r with
        | cons r12 r => cases r with
          | nil => cases r2 with
            | cons r21 r2 => cases r2 with
              | cons r22 r2 => cases r2 with
                | nil =>
                  rename_i v1 v2 u1 u2
                  have hT1 : s.heap.IsTuple l #[v1, v2] := isTuple_of (vs := [v1, v2]) (sub _ _ h)
                  have hT2 : s.heap.IsTuple l2 #[u1, u2] := isTuple_of (vs := [u1, u2]) (sub _ _ h2)
                  have hu := room_units R
                  refine SeqAt.eq_tupleAt (e := fun _ => true) hT1 hT2 (by show A.units < 9900; omega) (fun j j1 j2 => ?_) (k s.heap s.toks q _ (.refl sub) (by exact .bool true))
                  have hj : j = 0 ∨ j = 1 := by have : j < 2 := j1; omega
                  rcases hj with rfl | rfl
                  · show SeqAt.EqAt A.in1 s v1 u1 true
                    cases r11; cases r21
                    have e : (b.toList == b.toList) = true := by simp
                    exact Eq.subst (motive := fun c => SeqAt.EqAt A.in1 s _ _ c) e (eqAt_bytes b _ b _)
                  · show SeqAt.EqAt A.in1 s v2 u2 true
                    obtain ⟨as, xa⟩ := rep_reads sub r12 dat_ints.is
                    obtain ⟨bs, xb⟩ := rep_reads sub r22 dat_ints.is
                    have := SeqAt.eqAt_reads _ _ A.in1 s _ _ as bs xa xb dat_ints.lay dat_ints.lay (by
                      have h2 := (dat_ints (is := is)).depth
                      show A.units + 1 + min _ _ < 9900; omega)
                    rwa [SeqAt.eqv_refl _ dat_ints.lay] at this
end
end Mine

/-! ## P68 -/
namespace Mine
/-! # What the law builds, in plain Lean -/
section
variable (ns : List Int)
noncomputable abbrev N (k : Nat) : Int := num ns k
noncomputable def cnt : Nat := 1 + (N ns 0 % 5).toNat
noncomputable def hrd : Bool := N ns 1 % 3 == 0
noncomputable def pickI (hard : Bool) (p : Int) : Int := p * 65537 % HARD + (if hard && p % 2 != 0 then HARD else 0)
noncomputable def nums : List Int := (List.range (cnt ns)).map fun k => pickI (hrd ns) (N ns (2 + k))
noncomputable def bn : Nat := 2 + (N ns 7 % 3).toNat
noncomputable def brI (hard : Bool) (p : Int) (k : Nat) : Int := 3 * (p % 1000) + 3000 * k + (if hard && p % 2 != 0 then HARD else 0)
noncomputable def brs : List Int := (List.range (bn ns)).map fun k => brI (hrd ns) (N ns (8 + k)) k
noncomputable def at_ : Nat := (N ns 12 % (cnt ns + 1)).toNat
noncomputable def wild_ : Nat := (N ns 13 % (cnt ns + 1)).toNat
noncomputable def els0 : List El := (nums ns).map El.num
noncomputable def els1 : List El := if at_ ns < cnt ns then (els0 ns).set (at_ ns) (.set (brs ns)) else els0 ns
noncomputable def els : List El := if wild_ ns < cnt ns then (els1 ns).set (wild_ ns) .wild else els1 ns
noncomputable def hasSet : Bool := decide (at_ ns < cnt ns) && at_ ns != wild_ ns
noncomputable def hasWild : Bool := decide (wild_ ns < cnt ns)
end
section
variable {w : World} {n : Nat} {env : Env} {ρ ρ' : Rho}
theorem op_mod_pos {a b : Int} (hb : 0 < b) : Gives2 w n (binaryOp .Mod) (.int a) (.int b) (.int (a % b)) := by
  have := op_mod_int (w := w) (n := n) (a := a) (b := b) (by omega)
  rwa [Int.fmod_eq_emod_of_nonneg _ (by omega)] at this
theorem op_div_pos {a b : Int} (hb : 0 < b) (hp : Builtin.divisionGoesByPylong a b = false) : Gives2 w n (binaryOp .FloorDiv) (.int a) (.int b) (.int (a / b)) := by
  have := op_div_int (w := w) (n := n) (a := a) (b := b) (by omega) hp
  rwa [Int.fdiv_eq_ediv_of_nonneg _ (by omega)] at this
noncomputable def rhoM (ps : List (Str × LV)) : Rho := fun x => ps.lookup x
theorem subM_nil : Sub (rhoM []) ρ := fun y l h => by cases h
theorem subM_cons {x : Str} {l : LV} {ps : List (Str × LV)} (h : ρ x = some l) (r : Sub (rhoM ps) ρ) : Sub (rhoM ((x, l) :: ps)) ρ := fun y m e => by
  unfold rhoM at e
  rw [List.lookup_cons] at e
  cases hb : y == x with
  | true =>
    rw [hb] at e
    have : y = x := by simpa using hb
    subst this
    cases e; exact h
  | false => rw [hb] at e; exact r y m e
/-- _law_number(script, k) -/
theorem ev_num {ns : List Int} {p1 p2 p3 : Pos} {e : Expr} {k : Nat} (hl : ns.length ≤ 63) (hk : k < 1000) (hs : ρ "script" = some (.pers (.list (ns.map .int)))) (hf : env.kindOf "_law_number" = some .globalImplicit) (he : EV w (n + 1) env ρ e (.int k))
    (hs1 : starEach [.Name "script" p2, e] env = (false, eval (.Name "script" p2) env) :: starEach [e] env := by rfl) (hs2 : starEach [e] env = (false, eval e env) :: starEach [] env := by rfl) (hpl : (backTo p3 (starEach [e] env)).any (·.1) = false := by rfl) :
    EV w (n + 1) env ρ (.Call (.Name "_law_number" p1) [.Name "script" p2, e] [] p3) (.int (N ns k)) :=
  ev_call (g_fn hf (by rfl)) (evs_cons (ev_name hs) (evs_cons he evs_nil hs2) hs1) ((fn_num (by omega) hk).le (by omega)) (by rfl) hs1 hpl
end
noncomputable abbrev eLaw (L : Addr) : Env := fEnv "law" S936 936 (.ref 935) L
noncomputable abbrev R0 (ns : List Int) : Rho := rhoM [("script", .pers (.list (ns.map .int)))]
noncomputable abbrev R1 (ns : List Int) : Rho := rhoM [("script", .pers (.list (ns.map .int))), ("count", .pers (.int (cnt ns))), ("hard", .pers (.bool (hrd ns)))]
theorem seg1 {w : World} {n : Nat} {ns : List Int} {L : Addr} {d : PV} (hl : ns.length ≤ 63) (h : LS w (n + 1) (eLaw L) (R1 ns) (B936.drop 2) d) : LS w (n + 1) (eLaw L) (R0 ns) B936 d := by
  refine ls_cons (x_assign (d := .int (cnt ns)) (EV.eq (ev_bin ev_int (ev_bin (ev_num (k := 0) hl (by decide) rfl rfl ev_int) ev_int (op_mod_pos (by decide))) op_add_int) ?_) rfl) ?_
  · unfold cnt; congr 1; omega
  refine ls_cons (x_assign (d := .bool (hrd ns)) (EV.eq (ev_cmp (ev_bin (ev_num (k := 1) hl (by decide) rfl rfl ev_int) ev_int (op_mod_pos (by decide))) ev_int cmp_eq_int) rfl) rfl) ?_
  exact h.less (subM_cons rfl (subM_cons rfl (subM_cons rfl subM_nil)))
end Mine

/-! ## P69 -/
namespace Mine
theorem range_get {m i : Nat} {d : PV} (h : (rangePV m)[i]? = some d) : i < m ∧ d = .int (i : Int) := by
  unfold rangePV at h
  rw [List.getElem?_map] at h
  by_cases hi : i < m
  · rw [List.getElem?_range hi] at h
    exact ⟨hi, (Option.some.inj h).symm⟩
  · rw [List.getElem?_eq_none (by simpa using hi)] at h; cases h
theorem rangePV_len (m : Nat) : (rangePV m).length = m := by simp [rangePV]
theorem cnt_range (ns : List Int) : 1 ≤ cnt ns ∧ cnt ns ≤ 5 := by unfold cnt; omega
theorem bn_range (ns : List Int) : 2 ≤ bn ns ∧ bn ns ≤ 4 := by unfold bn; omega
theorem nums_len (ns : List Int) : (nums ns).length = cnt ns := by simp [nums]
theorem brs_len (ns : List Int) : (brs ns).length = bn ns := by simp [brs]
theorem nums_get {ns : List Int} {i : Nat} (h : i < cnt ns) : (nums ns)[i]? = some (pickI (hrd ns) (N ns (2 + i))) := by
  unfold nums; rw [List.getElem?_map, List.getElem?_range h]; rfl
theorem brs_get {ns : List Int} {i : Nat} (h : i < bn ns) : (brs ns)[i]? = some (brI (hrd ns) (N ns (8 + i)) i) := by
  unfold brs; rw [List.getElem?_map, List.getElem?_range h]; rfl
theorem els0_pv (ns : List Int) : (els0 ns).map El.pv = (nums ns).map .int := by unfold els0; rw [List.map_map]; rfl
section
variable {w : World} {n : Nat} {env : Env} {ρ ρ' : Rho}
/-- (_law_hardened if hard and e % 2 else 0) -/
theorem ev_hard0 {t : Expr} {p1 p2 : Pos} {k : Nat} {c : Bool} (ht : TV w n env ρ t c) (hx : env.kindOf "_law_hardened" = some .globalImplicit) : EV w n env ρ (.IfExp t (.Name "_law_hardened" p1) (.Constant (.int 0) k p2) pos) (.int (if c then HARD else 0)) :=
  ev_if ht (by cases c; exact ev_int; exact g_lawhard hx)
end
noncomputable abbrev R2 (ns : List Int) : Rho := rhoM [("script", .pers (.list (ns.map .int))), ("count", .pers (.int (cnt ns))), ("hard", .pers (.bool (hrd ns))), ("indexes", .own ((els0 ns).map El.pv)), ("branches", .pers (.list ((brs ns).map .int)))]
theorem seg2 {w : World} {n : Nat} {ns : List Int} {L : Addr} {d : PV} (hl : ns.length ≤ 63) (h : LS w (n + 1) (eLaw L) (R2 ns) (B936.drop 6) d) : LS w (n + 1) (eLaw L) (R1 ns) (B936.drop 2) d := by
  have hc := cnt_range ns
  have hb := bn_range ns
  refine ls_cons (x_assign_own (evo_list evs_nil (by simp)) rfl) ?_
  refine ls_cons (x_forN (ds := rangePV (cnt ns)) (fun i => upd (R1 ns) "indexes" (.own (((nums ns).take i).map .int))) (it_range (g_range rfl) (ev_name rfl) (by omega)) rfl sub_refl ?_) ?_
  · intro i d hd
    obtain ⟨hi, rfl⟩ := range_get hd
    have e1 : ((nums ns).take (i + 1)).map PV.int = ((nums ns).take i).map PV.int ++ [.int (pickI (hrd ns) (N ns (2 + i)))] := by rw [List.take_add_one, nums_get hi, List.map_append]; rfl
    refine ⟨_, xs_cons (x_assign (ev_num (k := 2 + i) hl (by omega) rfl rfl (EV.eq (ev_bin ev_int (ev_name rfl) op_add_int) (by congr 1))) rfl) (xs_one (x_append (ds := ((nums ns).take i).map .int) (d := .int (pickI (hrd ns) (N ns (2 + i)))) rfl ?_ (by rw [List.length_map, List.length_take]; omega))), ?_⟩
    · refine ev_bin (ev_bin (ev_bin (ev_name rfl) ev_int (op_mul_int (IntMulOk.of_right (by decide)))) (g_lawhard rfl) (op_mod_pos (by decide))) (ev_hard0 ?_ rfl) op_add_int
      exact (tv_and (tv_plain (ev_name rfl) truth_bool) fun _ => tv_and (tv_plain (ev_bin (ev_name rfl) ev_int (op_mod_pos (by decide))) truth_int) fun _ => tv_and_nil).eq (by simp)
    · show Sub (upd (R1 ns) "indexes" _) _
      rw [e1]
      exact sub_over (sub_skip rfl (sub_skip rfl (sub_skip rfl sub_refl)))
  have e : (nums ns).take (rangePV (cnt ns)).length = nums ns := by rw [rangePV_len, ← nums_len, List.take_length]
  rw [e]
  refine ls_cons (x_assign_own (evo_list evs_nil (by simp)) rfl) ?_
  refine ls_cons (x_forN (ds := rangePV (bn ns)) (fun i => upd (upd (R1 ns) "indexes" (.own ((nums ns).map .int))) "branches" (.own (((brs ns).take i).map .int)))
    (it_range (g_range rfl) (EV.eq (ev_bin ev_int (ev_bin (ev_num (k := 7) hl (by decide) rfl rfl ev_int) ev_int (op_mod_pos (by decide))) op_add_int) (by unfold bn; congr 1; omega)) (by omega)) rfl sub_refl ?_) ?_
  · intro i d hd
    obtain ⟨hi, rfl⟩ := range_get hd
    have e1 : ((brs ns).take (i + 1)).map PV.int = ((brs ns).take i).map PV.int ++ [.int (brI (hrd ns) (N ns (8 + i)) i)] := by rw [List.take_add_one, brs_get hi, List.map_append]; rfl
    refine ⟨_, xs_one (x_append (ds := ((brs ns).take i).map .int) (d := .int (brI (hrd ns) (N ns (8 + i)) i)) rfl ?_ (by rw [List.length_map, List.length_take]; omega)), ?_⟩
    · refine ev_bin (ev_bin (ev_bin ev_int (ev_bin (ev_num (k := 8 + i) hl (by omega) rfl rfl (EV.eq (ev_bin ev_int (ev_name rfl) op_add_int) (by congr 1))) ev_int (op_mod_pos (by decide))) (op_mul_int (IntMulOk.of_left (by decide))))
        (ev_bin ev_int (ev_name rfl) (op_mul_int (IntMulOk.of_left (by decide)))) op_add_int) (ev_hard0 ?_ rfl) op_add_int
      exact (tv_and (tv_plain (ev_name rfl) truth_bool) fun _ => tv_and (tv_plain (ev_bin (ev_num (k := 8 + i) hl (by omega) rfl rfl (EV.eq (ev_bin ev_int (ev_name rfl) op_add_int) (by congr 1))) ev_int (op_mod_pos (by decide))) truth_int) fun _ => tv_and_nil).eq (by simp)
    · show Sub (upd _ "branches" _) _
      rw [e1]
      exact sub_over (sub_skip rfl (sub_skip rfl sub_refl))
  have e' : (brs ns).take (rangePV (bn ns)).length = brs ns := by rw [rangePV_len, ← brs_len, List.take_length]
  rw [e']
  refine ls_freeze (x := "branches") (ds := (brs ns).map .int) rfl ?_
  rw [show R2 ns = rhoM [("script", .pers (.list (ns.map .int))), ("count", .pers (.int (cnt ns))), ("hard", .pers (.bool (hrd ns))), ("indexes", .own ((nums ns).map .int)), ("branches", .pers (.list ((brs ns).map .int)))] by rw [← els0_pv]] at h
  exact h.less (subM_cons rfl (subM_cons rfl (subM_cons rfl (subM_cons rfl (subM_cons rfl subM_nil)))))
end Mine

/-! ## P70 -/
namespace Mine
theorem filter_set_le {α : Type} {p : α → Bool} {x : α} : ∀ (l : List α) (i : Nat), ((l.set i x).filter p).length ≤ (l.filter p).length + (if p x then 1 else 0)
  | [], i => by simp
  | a :: r, 0 => by
    simp only [List.set_cons_zero, List.filter_cons]
    cases p x <;> cases p a <;> simp <;> omega
  | a :: r, i + 1 => by
    have ih := filter_set_le (p := p) (x := x) r i
    simp only [List.set_cons_succ, List.filter_cons]
    cases p a <;> simp <;> omega
theorem els0_len (ns : List Int) : (els0 ns).length = cnt ns := by unfold els0; rw [List.length_map, nums_len]
theorem els1_len (ns : List Int) : (els1 ns).length = cnt ns := by unfold els1; split <;> simp [els0_len]
theorem els_len (ns : List Int) : (els ns).length = cnt ns := by unfold els; split <;> simp [els1_len]
theorem els0_filter (ns : List Int) (p : El → Bool) (hp : ∀ i, p (.num i) = false) : (els0 ns).filter p = [] := by
  unfold els0
  rw [List.filter_eq_nil_iff]
  intro e he
  obtain ⟨i, _, rfl⟩ := List.mem_map.mp he
  simp [hp]
theorem els_wild1 (ns : List Int) : ((els ns).filter El.isWild).length ≤ 1 := by
  have h0 : ((els0 ns).filter El.isWild).length = 0 := by rw [els0_filter ns _ fun _ => rfl]; rfl
  have h1 : ((els1 ns).filter El.isWild).length = 0 := by
    unfold els1
    split
    · have := filter_set_le (p := El.isWild) (x := .set (brs ns)) (els0 ns) (at_ ns)
      have e : El.isWild (.set (brs ns)) = false := rfl
      rw [h0, e] at this
      simpa using this
    · exact h0
  unfold els
  split
  · have := filter_set_le (p := El.isWild) (x := .wild) (els1 ns) (wild_ ns)
    rw [h1] at this
    have e : El.isWild .wild = true := rfl
    rw [e] at this
    simpa using this
  · omega
theorem els_set1 (ns : List Int) : ((els ns).filter El.isSet).length ≤ 1 := by
  have h0 : ((els0 ns).filter El.isSet).length = 0 := by rw [els0_filter ns _ fun _ => rfl]; rfl
  have h1 : ((els1 ns).filter El.isSet).length ≤ 1 := by
    unfold els1
    split
    · have := filter_set_le (p := El.isSet) (x := .set (brs ns)) (els0 ns) (at_ ns)
      have e : El.isSet (.set (brs ns)) = true := rfl
      rw [h0, e] at this
      simpa using this
    · omega
  unfold els
  split
  · have := filter_set_le (p := El.isSet) (x := .wild) (els1 ns) (wild_ ns)
    have e : El.isSet .wild = false := rfl
    rw [e] at this
    simp at this
    omega
  · exact h1
theorem pickI_rng (h : Bool) (p : Int) : 0 ≤ pickI h p ∧ pickI h p < 2 * HARD := by
  unfold pickI HARD
  have h1 := Int.emod_nonneg (p * 65537) (b := 2147483648) (by decide)
  have h2 := Int.emod_lt_of_pos (p * 65537) (b := 2147483648) (by decide)
  split <;> omega
theorem brI_rng (h : Bool) (p : Int) (k : Nat) (hk : k < 4) : 0 ≤ brI h p k ∧ brI h p k < 2 * HARD := by
  unfold brI HARD
  split <;> omega
theorem nums_rng {ns : List Int} : ∀ i ∈ nums ns, 0 ≤ i ∧ i < 2 * HARD := by
  intro i hi
  obtain ⟨k, _, rfl⟩ := List.mem_map.mp hi
  exact pickI_rng _ _
theorem brs_ok (ns : List Int) : SetOk (brs ns) := by
  have hb := bn_range ns
  have hl := brs_len ns
  refine ⟨fun h => by rw [h] at hl; simp at hl; omega, by omega, fun i hi => ?_⟩
  obtain ⟨k, hk, rfl⟩ := List.mem_map.mp hi
  have := List.mem_range.mp hk
  exact brI_rng _ _ _ (by omega)
theorem els_mem {ns : List Int} {e : El} (h : e ∈ els ns) : e = .wild ∨ e = .set (brs ns) ∨ ∃ i ∈ nums ns, e = .num i := by
  have h0 : ∀ e ∈ els0 ns, ∃ i ∈ nums ns, e = .num i := fun e he => by
    obtain ⟨i, hi, rfl⟩ := List.mem_map.mp he; exact ⟨i, hi, rfl⟩
  have h1 : ∀ e ∈ els1 ns, e = .set (brs ns) ∨ ∃ i ∈ nums ns, e = .num i := fun e he => by
    unfold els1 at he
    split at he
    · rcases List.mem_or_eq_of_mem_set he with h | h
      · exact .inr (h0 e h)
      · exact .inl h
    · exact .inr (h0 e he)
  unfold els at h
  split at h
  · rcases List.mem_or_eq_of_mem_set h with h | h
    · exact .inr (h1 e h)
    · exact .inl h
  · exact .inr (h1 e h)
theorem els_ok {ns : List Int} : ∀ e ∈ els ns, ElOk e := fun e he => by
  rcases els_mem he with rfl | rfl | ⟨i, hi, rfl⟩
  · trivial
  · exact brs_ok ns
  · exact nums_rng i hi
theorem els_small {ns : List Int} : ∀ e ∈ els ns, e.small := fun e he => (els_ok e he).small
theorem els_lw (ns : List Int) : Lw (els ns) := by
  have h1 := els_len ns
  have h2 := cnt_range ns
  exact ⟨fun h => by rw [h] at h1; simp at h1; omega, by omega, els_ok, els_wild1 ns, els_set1 ns⟩
noncomputable abbrev R3 (ns : List Int) : Rho := rhoM [("script", .pers (.list (ns.map .int))), ("count", .pers (.int (cnt ns))), ("branches", .pers (.list ((brs ns).map .int))), ("has_set", .pers (.bool (hasSet ns))), ("has_wild", .pers (.bool (hasWild ns))),
  ("copy", .pers (.list ((els ns).map El.pv))), ("derivation", .pers (der (els ns)))]
noncomputable abbrev R3a (ns : List Int) (l : List El) : Rho := rhoM [("script", .pers (.list (ns.map .int))), ("count", .pers (.int (cnt ns))), ("branches", .pers (.list ((brs ns).map .int))), ("indexes", .own (l.map El.pv)), ("at", .pers (.int (at_ ns))), ("wild", .pers (.int (wild_ ns)))]
section
variable {w : World} {n : Nat} {ns : List Int} {L : Addr} {d : PV}
theorem seg3a (hl : ns.length ≤ 63) (h : LS w (n + 1) (eLaw L) (R3a ns (els0 ns)) (B936.drop 7) d) : LS w (n + 1) (eLaw L) (R2 ns) (B936.drop 6) d := by
  refine ls_cons (x_pair (d1 := .int (at_ ns)) (d2 := .int (wild_ ns)) (ev_tuple (evs_cons (EV.eq (ev_bin (ev_num (k := 12) hl (by decide) rfl rfl ev_int) (ev_bin (ev_name rfl) ev_int op_add_int) (op_mod_pos (by omega))) ?_)
    (evs_cons (EV.eq (ev_bin (ev_num (k := 13) hl (by decide) rfl rfl ev_int) (ev_bin (ev_name rfl) ev_int op_add_int) (op_mod_pos (by omega))) ?_) evs_nil)) (by simp)) rfl rfl) ?_
  · unfold at_; congr 1; have := Int.emod_nonneg (N ns 12) (b := (cnt ns : Int) + 1) (by omega); omega
  · unfold wild_; congr 1; have := Int.emod_nonneg (N ns 13) (b := (cnt ns : Int) + 1) (by omega); omega
  exact h.less (subM_cons rfl (subM_cons rfl (subM_cons rfl (subM_cons rfl (subM_cons rfl (subM_cons rfl subM_nil))))))
theorem map_set_pv {l : List El} {i : Nat} {e : El} : (l.map El.pv).set i e.pv = (l.set i e).map El.pv := by rw [List.map_set]
theorem seg3b (h : LS w (n + 1) (eLaw L) (R3a ns (els1 ns)) (B936.drop 8) d) : LS w (n + 1) (eLaw L) (R3a ns (els0 ns)) (B936.drop 7) d := by
  have hc := cnt_range ns
  by_cases hat : at_ ns < cnt ns
  · refine ls_cons (x_ifT ((tv_cmp (ev_name rfl) (ev_name rfl) cmp_lt_int).eq (by simpa using hat)) (xs_one (x_setitem (ds := (els0 ns).map El.pv) (j := (at_ ns : Int)) (d := .list ((brs ns).map .int)) rfl rfl (ev_name rfl) (by omega) (by rw [List.length_map, els0_len]; omega) (by rw [List.length_map, els0_len]; omega)))) ?_
    have e : ((els0 ns).map El.pv).set ((at_ ns : Int)).toNat (.list ((brs ns).map .int)) = (els1 ns).map El.pv := by
      rw [show PV.list ((brs ns).map .int) = El.pv (.set (brs ns)) from rfl, map_set_pv, Int.toNat_natCast]; unfold els1; rw [if_pos hat]
    rw [e]
    exact h.less (subM_cons rfl (subM_cons rfl (subM_cons rfl (subM_cons rfl (subM_cons rfl (subM_cons rfl subM_nil))))))
  · refine ls_cons (x_ifF ((tv_cmp (ev_name rfl) (ev_name rfl) cmp_lt_int).eq (by simpa using hat)) xs_nil) ?_
    have e : els1 ns = els0 ns := by unfold els1; rw [if_neg hat]
    rwa [e] at h
theorem seg3c (h : LS w (n + 1) (eLaw L) (R3a ns (els ns)) (B936.drop 9) d) : LS w (n + 1) (eLaw L) (R3a ns (els1 ns)) (B936.drop 8) d := by
  have hc := cnt_range ns
  by_cases hat : wild_ ns < cnt ns
  · refine ls_cons (x_ifT ((tv_cmp (ev_name rfl) (ev_name rfl) cmp_lt_int).eq (by simpa using hat)) (xs_one (x_setitem (ds := (els1 ns).map El.pv) (j := (wild_ ns : Int)) (d := .none) rfl rfl ev_none (by omega) (by rw [List.length_map, els1_len]; omega) (by rw [List.length_map, els1_len]; omega)))) ?_
    have e : ((els1 ns).map El.pv).set ((wild_ ns : Int)).toNat .none = (els ns).map El.pv := by
      rw [show PV.none = El.pv .wild from rfl, map_set_pv, Int.toNat_natCast]; unfold els; rw [if_pos hat]
    rw [e]
    exact h.less (subM_cons rfl (subM_cons rfl (subM_cons rfl (subM_cons rfl (subM_cons rfl (subM_cons rfl subM_nil))))))
  · refine ls_cons (x_ifF ((tv_cmp (ev_name rfl) (ev_name rfl) cmp_lt_int).eq (by simpa using hat)) xs_nil) ?_
    have e : els ns = els1 ns := by unfold els; rw [if_neg hat]
    rwa [e] at h
/-- has_set .. derivation -/
theorem seg3d (h : LS w (n + 2) (eLaw L) (R3 ns) (B936.drop 13) d) : LS w (n + 2) (eLaw L) (R3a ns (els ns)) (B936.drop 9) d := by
  have hc := cnt_range ns
  have hlen := els_len ns
  refine ls_freeze (x := "indexes") (ds := (els ns).map El.pv) rfl ?_
  refine ls_cons (x_assign (d := .bool (hasSet ns)) ?_ rfl) ?_
  · by_cases hat : at_ ns < cnt ns
    · refine EV.eq (ev_and (EV.eq (ev_cmp (ev_name rfl) (ev_name rfl) cmp_lt_int) (by rw [decide_eq_true (by omega)])) truth_bool (ev_one (ev_cmp (ev_name rfl) (ev_name rfl) cmp_ne_int))) ?_
      unfold hasSet
      rw [decide_eq_true hat, Bool.true_and]
      congr 1
      rw [Bool.eq_iff_iff]; simp; omega
    · refine EV.eq (ev_andF (EV.eq (ev_cmp (ev_name rfl) (ev_name rfl) cmp_lt_int) (by rw [decide_eq_false (by omega)])) truth_bool) ?_
      unfold hasSet
      rw [decide_eq_false hat, Bool.false_and]
  refine ls_cons (x_assign (d := .bool (hasWild ns)) (EV.eq (ev_cmp (ev_name rfl) (ev_name rfl) cmp_lt_int) (by unfold hasWild; simp)) rfl) ?_
  refine ls_cons (x_assign_compM (xs := els ns) El.pv El.pv (it_list (ev_name rfl)) (fun e he C => ev_if (c := e.isSet) (tv_plain (ev_callB (g_isinstance rfl) (evs_cons (ev_name rfl) (evs_cons (g_list rfl) evs_nil)) (isi_el e)) truth_bool) ?_) (by omega) rfl) ?_
  · cases e with
    | wild => exact ev_name rfl
    | num i => exact ev_name rfl
    | set is => exact ev_callT (g_list rfl) (evs_cons (ev_name rfl) evs_nil) (list_copy_ (by have h := els_small _ he; have h : is.length ≤ 10 ∧ _ := h; rw [List.length_map]; omega))
  refine ls_freeze (x := "copy") (ds := (els ns).map El.pv) rfl ?_
  refine ls_cons (x_assign (d := der (els ns)) (ev_call (g_fn rfl) (evs_cons (ev_name rfl) evs_nil) ((fn_der (by omega) (els_wild1 ns) (els_set1 ns)).le (by omega)) (by rfl)) rfl) ?_
  exact h.less (subM_cons rfl (subM_cons rfl (subM_cons rfl (subM_cons rfl (subM_cons rfl (subM_cons rfl (subM_cons rfl subM_nil)))))))
end
end Mine

/-! ## P71 -/
namespace Mine
theorem any_set_wild {l : List El} (h : l.any El.isWild = false) (i : Nat) : (l.set i .wild).any El.isWild = decide (i < l.length) := by
  induction l generalizing i with
  | nil => simp
  | cons a r ih =>
    rw [List.any_cons, Bool.or_eq_false_iff] at h
    cases i with
    | zero => simp [El.isWild]
    | succ i => rw [List.set_cons_succ, List.any_cons, h.1, ih h.2]; simp
theorem els1_nowild (ns : List Int) : (els1 ns).any El.isWild = false := by
  rw [List.any_eq_false]
  intro e he
  unfold els1 els0 at he
  split at he
  · rcases List.mem_or_eq_of_mem_set he with h | rfl
    · obtain ⟨i, _, rfl⟩ := List.mem_map.mp h; simp [El.isWild]
    · simp [El.isWild]
  · obtain ⟨i, _, rfl⟩ := List.mem_map.mp he; simp [El.isWild]
theorem els_anyWild (ns : List Int) : (els ns).any El.isWild = hasWild ns := by
  unfold els hasWild
  by_cases h : wild_ ns < cnt ns
  · rw [if_pos h, any_set_wild (els1_nowild ns), els1_len]
  · rw [if_neg h, els1_nowild, decide_eq_false h]
/-- where the set stands -/
theorem els_at {ns : List Int} (h : hasSet ns = true) : (els ns)[at_ ns]? = some (.set (brs ns)) ∧ ∀ k, k < at_ ns → ∀ e, (els ns)[k]? = some e → e.isSet = false := by
  unfold hasSet at h
  simp only [Bool.and_eq_true, decide_eq_true_eq, bne_iff_ne, ne_eq] at h
  obtain ⟨h1, h2⟩ := h
  have e1 : els1 ns = (els0 ns).set (at_ ns) (.set (brs ns)) := by unfold els1; rw [if_pos h1]
  have hl := els0_len ns
  have g1 : ∀ k, (els ns)[k]? = if wild_ ns < cnt ns ∧ wild_ ns = k then (if k < cnt ns then some .wild else none) else (els1 ns)[k]? := fun k => by
    unfold els
    by_cases hw : wild_ ns < cnt ns
    · rw [if_pos hw, List.getElem?_set, els1_len]
      by_cases hk : wild_ ns = k
      · subst hk; simp [hw]
      · simp [hk, hw]
    · rw [if_neg hw, if_neg (fun h => hw h.1)]
  constructor
  · rw [g1, if_neg (fun h => h2 h.2.symm), e1, List.getElem?_set]
    simp [hl, h1]
  · intro k hk e he
    rw [g1] at he
    split at he
    · split at he
      · cases he; rfl
      · cases he
    · rw [e1, List.getElem?_set, if_neg (by omega)] at he
      unfold els0 at he
      rw [List.getElem?_map] at he
      cases z : (nums ns)[k]? with
      | none => rw [z] at he; cases he
      | some i => rw [z] at he; cases he; rfl
theorem els_noset {ns : List Int} (h : hasSet ns = false) : ∀ e ∈ els ns, e.isSet = false := by
  have h0 : ∀ e ∈ els0 ns, e.isSet = false := fun e he => by obtain ⟨i, _, rfl⟩ := List.mem_map.mp he; rfl
  intro e he
  by_cases h1 : at_ ns < cnt ns
  · have h2 : at_ ns = wild_ ns := by
      unfold hasSet at h
      rw [decide_eq_true h1, Bool.true_and] at h
      simpa using h
    unfold els els1 at he
    rw [if_pos h1, if_pos (h2 ▸ h1), ← h2, List.set_set] at he
    rcases List.mem_or_eq_of_mem_set he with h | rfl
    · exact h0 e h
    · rfl
  · unfold els els1 at he
    rw [if_neg h1] at he
    split at he
    · rcases List.mem_or_eq_of_mem_set he with h | rfl
      · exact h0 e h
      · rfl
    · exact h0 e he
theorem els_first (ns : List Int) : firstSet (els ns) = if hasSet ns then .list ((brs ns).map .int) else .none := by
  cases h : hasSet ns with
  | true => obtain ⟨h1, h2⟩ := els_at h; exact firstSet_at h1 h2
  | false => exact firstSet_none (els_noset h)
theorem els_anySet (ns : List Int) : (els ns).any El.isSet = hasSet ns := by
  cases h : hasSet ns with
  | true => rw [List.any_eq_true]; exact ⟨_, List.mem_of_getElem? (els_at h).1, rfl⟩
  | false => rw [List.any_eq_false]; intro e he; simp [els_noset h e he]
/-! the text behind a stroke -/
theorem txt_join (s : Str) (ws : List Str) : Txt.join s ws = Str.join s ws := StrLaws.glued_eq_join _ _
theorem join_foldl (f : El → Str) : ∀ (r : List El) (a : El) (s : Str), r.foldl (fun s e => s ++ ("/" ++ f e)) (s ++ ("/" ++ f a)) = s ++ ("/" ++ Txt.join "/" ((a :: r).map f))
  | [], a, s => rfl
  | b :: r, a, s => by
    rw [List.foldl_cons, join_foldl f r b]
    have : Txt.join (Str.ofString "/") ((a :: b :: r).map f) = f a ++ "/" ++ Txt.join "/" ((b :: r).map f) := by rw [txt_join, txt_join]; rfl
    rw [this]
    simp only [str_assoc]
theorem dstr_law {l : List El} (h : l ≠ []) : dstr l = "/" ++ lawText l false "h" := by
  cases l with
  | nil => exact absurd rfl h
  | cons a r =>
    unfold dstr lawText
    rw [List.foldl_cons, join_foldl]
    have : ∀ x : Str, (Str.ofString "") ++ x = x := fun x => sg_ext (by rw [sg_app]; rfl)
    exact this _
end Mine

/-! ## P72 -/
namespace Mine
noncomputable def markC (ns : List Int) : Nat := [104, 72, 39].getD (N ns 14 % 3).toNat 104
theorem mark_is (ns : List Int) : isMark (markC ns) = true := by
  have h1 := Int.emod_nonneg (N ns 14) (b := 3) (by decide)
  have h2 := Int.emod_lt_of_pos (N ns 14) (b := 3) (by decide)
  unfold markC
  generalize N ns 14 % 3 = m at *
  have : m = 0 ∨ m = 1 ∨ m = 2 := by omega
  rcases this with rfl | rfl | rfl <;> rfl
theorem k_derstr (w : World) : findIn (K w.params) (.ref 903) "__str__" = some (some (.ref 900)) := by kernel_rfl
section
variable {w : World} {n : Nat} {env : Env} {ρ : Rho}
theorem cmp_ne_same {a : PV} (ha : Dat a) : Gives2 w n (compareOp .NotEq) a a (.bool false) := by
  have := cmp_ne (w := w) (n := n) ha ha
  rwa [SeqAt.eqv_refl _ ha.lay] at this
theorem cmp_eq_same {a : PV} (ha : Dat a) : Gives2 w n (compareOp .Eq) a a (.bool true) := by
  have := cmp_eq (w := w) (n := n) ha ha
  rwa [SeqAt.eqv_refl _ ha.lay] at this
theorem cmp_ne_str {a b : Str} : Gives2 w n (compareOp .NotEq) (.str a) (.str b) (.bool (a.cps.toList != b.cps.toList)) := by
  refine ⟨fun A s q E Q va vb R sub ra rb k => ?_⟩
  cases ra; cases rb
  exact P.ne_str (k s.heap _ q _ (.refl sub) (.bool _))
theorem cmp_ne_strS {a : Str} : Gives2 w n (compareOp .NotEq) (.str a) (.str a) (.bool false) := by
  have := cmp_ne_str (w := w) (n := n) (a := a) (b := a)
  rwa [show (a.cps.toList != a.cps.toList) = false by simp] at this
end
theorem law_text_len {l : List El} (h : Lw l) : (lawText l false "h").length ≤ 2000 := law_len (c := 104) h.len h.ok
noncomputable abbrev R4 (ns : List Int) : Rho := rhoM [("script", .pers (.list (ns.map .int))), ("count", .pers (.int (cnt ns))), ("branches", .pers (.list ((brs ns).map .int))), ("has_set", .pers (.bool (hasSet ns))), ("has_wild", .pers (.bool (hasWild ns))),
  ("copy", .pers (.list ((els ns).map El.pv))), ("derivation", .pers (der (els ns))), ("mark", .pers (.str (one (markC ns))))]
section
variable {w : World} {n : Nat} {ns : List Int} {L : Addr} {d : PV}
theorem seg4 (hl : ns.length ≤ 63) (h : LS w 6 (eLaw L) (R4 ns) (B936.drop 16) d) : LS w 6 (eLaw L) (R3 ns) (B936.drop 13) d := by
  have hm1 := Int.emod_nonneg (N ns 14) (b := 3) (by decide)
  have hm2 := Int.emod_lt_of_pos (N ns 14) (b := 3) (by decide)
  have lw := els_lw ns
  refine ls_cons (x_assign (d := .str (one (markC ns))) (ev_item (EVO.ev (evo_list (evs_cons ev_str (evs_cons ev_str (evs_cons ev_str evs_nil))) (by simp))) (ev_bin (ev_num (k := 14) hl (by decide) rfl rfl ev_int) ev_int (op_mod_pos (by decide))) hm1 (by omega) ?_) rfl) ?_
  · unfold markC
    generalize N ns 14 % 3 = m at *
    have : m = 0 ∨ m = 1 ∨ m = 2 := by omega
    rcases this with rfl | rfl | rfl <;> rfl
  refine ls_cons (x_assign (d := .str (lawText (els ns) false "h")) (ev_call (g_fn rfl) (evs_cons (ev_name rfl) (evs_cons ev_bool (evs_cons ev_str evs_nil))) ((fn_text lw.len els_small (by decide)).le (by decide)) (by rfl)) rfl) ?_
  refine ls_pass (LT.eq (lt_or (TV.lt (tv_cmp (b := .str (dstr (els ns))) (ev_callT (g_str rfl) (evs_cons (ev_name rfl) evs_nil) ((fn_str_inst (k_derstr w) (by rfl) (fn_dstr lw.len els_small ?_)).le (by decide))) ((ev_bin ev_str (ev_name rfl) (op_add_str ?_)).eq ?_) cmp_ne_strS))
    fun _ => lt_or (TV.lt (tv_cmp (b := .bool (hasWild ns)) ((ev_wild (n := 4) (ev_name rfl)).eq (by rw [els_anyWild])) (ev_name rfl) (cmp_ne_same dat_bool)))
    fun _ => lt_or (TV.lt (tv_cmp (b := firstSet (els ns)) (ev_branches (n := 4) (ev_name rfl)) (ev_if (c := hasSet ns) (tv_plain (ev_name rfl) truth_bool) ?_) (cmp_ne_same ?_))) fun _ => lt_or_nil) rfl) ?_
  · intro e he i hi
    subst hi
    exact els_ok _ he
  · have := law_text_len lw
    have c1 : (Str.ofString "/").length = 1 := rfl
    rw [sizeLine_eq]; omega
  · rw [dstr_law lw.ne]
  · rw [els_first]
    cases hasSet ns
    · exact ev_none
    · exact ev_name rfl
  · rw [els_first]
    split
    · exact dat_ints
    · exact dat_none
  exact h.less (subM_cons rfl (subM_cons rfl (subM_cons rfl (subM_cons rfl (subM_cons rfl (subM_cons rfl (subM_cons rfl (subM_cons rfl subM_nil))))))))
end
end Mine

/-! ## P73 -/
set_option maxHeartbeats 800000
namespace Mine
section
variable {w : World} {n : Nat} {env : Env} {ρ : Rho}
/-- t = [elt for x in i0 if .. for z in i1] -/
theorem x_assign_comp2 {x z t : Str} {px pz pt : Pos} {i0 i1 elt : Expr} {ifs : List Expr} {scope : Scope} {pos spos : Pos} {α β : Type} {xs : List α} (gv : α → PV) (ok : α → Bool) (ys : α → List β) (hv : α → β → PV) (fe : α → β → PV)
    (hi : IT w n env ρ i0 (xs.map gv)) (test : ∀ a ∈ xs, ∀ C, IFS w n (cEnv scope env C) (rho1 scope env ρ x (gv a)) ifs (ok a))
    (inner : ∀ a ∈ xs, ok a = true → ∀ C, IT w n (cEnv scope env C) (rho1 scope env ρ x (gv a)) i1 ((ys a).map (hv a)))
    (turn : ∀ a ∈ xs, ok a = true → ∀ b ∈ ys a, ∀ C, EV w n (cEnv scope env C) (upd (rho1 scope env ρ x (gv a)) z (.pers (hv a b))) elt (fe a b))
    (hsz : xs.length ≤ 800) (hsz2 : ∀ a, (ys a).length ≤ 1000) (ht : canStore env t = true) (hs1 : ∀ C x, foldedSetIterable i1 (cEnv scope env C) x = pure x := by intro _ _; rfl)
    (hsw : swapsWith (lc2 elt (.Name x px) i0 ifs (.Name z pz) i1 scope pos) (some (.Name t pt)) spos.line env = pure true := by rfl)
    (hfree : freeOk scope env = true := by rfl) (hcell : (scope.names.all fun y => y.2 != .cell) = true := by rfl) (hkind : scope.kind = .function := by rfl) (hx : scope.names.lookup x = some .local := by rfl) (hy : scope.names.lookup z = some .local := by rfl) (hxy : x ≠ z := by decide)
    (hnm : namesOk scope = true := by rfl) (hs : ∀ x, foldedSetIterable i0 env x = pure x := by intro _; rfl) :
    X w n env ρ (.Assign [.Name t pt] (.ListComp elt [⟨.Name x px, i0, ifs, 0⟩, ⟨.Name z pz, i1, [], 0⟩] scope pos) spos) (.next (upd ρ t (.own (xs.flatMap fun a => if ok a then (ys a).map (fe a) else [])))) := by
  refine ⟨fun A s q h0 q0 E Q R F k => ?_⟩
  rw [exec_Assign_Name_used _ _ _ _ hsw]
  refine wpAny_bind (wpAny_standAt (wpAny_bind ?_))
  show wpAny _ A (do let _ ← comprehension (lc2 elt (.Name x px) i0 ifs (.Name z pz) i1 scope pos) scope env _ (newList []) false (eval i0 env) (some (assign (.Name t pt) env))) _ _ s
  refine wpAny_bind (wpAny_mono (wpAny_comprehension_free (use := some (assign (.Name t pt) env)) (Q := fun _ s' => Q .next s') rfl hs (closureFor_cl hfree) hkind (namesOk_ hnm) ?_) (fun _ s' hq => wpAny_pure (wpAny_pure hq)) fun _ _ e => e)
  refine comp2_core (RR := fun acc C => compPost (model pw w) A E (some (assign (.Name t pt) env)) (fun _ s' => Q .next s') acc C) hi hfree hcell hkind hx hy hxy test inner turn hsz hsz2 hs1 R F.ctx ?_
  intro D C h' tk m' q' vs kk g hn hC qC hD qD hDC ho r
  show wpAny _ A (assign (.Name t pt) env (.ref D)) _ _ _
  have F1 := F.grow g
  have h0n : ∀ {a}, s.heap.get? a = none → h0.get? a = none := fun {a} hn => by
    cases z : h0.get? a with
    | none => rfl
    | some o => rw [F.g.keep _ _ z] at hn; cases hn
  refine wpAny_assign_Name (store_own (s := { s with heap := h', toks := tk }) F1 ht ho r qD (h0n hD) ?_ fun h2 t2 c hs2 hcw F2 => ?_)
  · intro zz dy ey nv
    obtain ⟨b, us, l, nb, hb, _⟩ := F.ctx.owns zz dy ey
    cases (nb.keep g.keep).fun nv
    rw [hb] at hD; cases hD
  · have cC : C ≠ c := by
      rintro rfl
      rcases hcw with e | ⟨z, e⟩
      · obtain ⟨_, o, _, _, e1, _⟩ := F.loc
        rw [← e, hC] at e1; cases e1
      · obtain ⟨⟨_, o, e1, _⟩, _⟩ := F.cells z C e
        rw [hC] at e1; cases e1
    refine ⟨m', hn.sameBut hs2 cC, fun h3 hs3 => ?_⟩
    refine k h3 t2 q' _ ⟨rfl, ?_⟩
    have nP : ¬ Priv env (upd ρ t (.own (xs.flatMap fun a => if ok a then (ys a).map (fe a) else []))) h2 C := by
      intro pv
      rcases pv with e | ⟨z, e⟩ | ⟨z, ds', e, nv⟩
      · obtain ⟨_, o, _, _, e1, _⟩ := F.loc
        rw [← e, hC] at e1; cases e1
      · obtain ⟨⟨_, o, e1, _⟩, _⟩ := F.cells z C e
        rw [hC] at e1; cases e1
      · obtain ⟨a, us, l, na, ha, _⟩ := F2.ctx.owns z ds' e
        cases na.fun nv
        obtain ⟨o, es, ep, e1, e2, _⟩ := hn.sameBut hs2 cC
        rw [ha] at e1; cases e1; cases e2
    exact F2.moved (wr := [C]) (fun b hb => by rw [List.mem_singleton] at hb; subst hb; exact ⟨h0n hC, qC, nP⟩) fun b o hb e => hs3.extBut b o (by simpa using hb) e
end
end Mine

/-! ## P74 -/
set_option maxHeartbeats 400000
namespace Mine
noncomputable def flatE : El → List Int
  | .wild => []
  | .num i => [i]
  | .set is => is.take 10
noncomputable def flatL (l : List El) : List Int := l.flatMap flatE
theorem flatE_len (e : El) : (flatE e).length ≤ 1000 := by
  cases e with
  | wild => simp [flatE]
  | num i => simp [flatE]
  | set is => simp only [flatE, List.length_take]; omega
theorem flatL_pv (l : List El) : (l.flatMap fun e => if (!e.isWild) = true then (flatE e).map PV.int else []) = (flatL l).map .int := by
  unfold flatL
  rw [List.map_flatMap]
  congr 1
  funext e
  cases e <;> rfl
theorem flatL_len {l : List El} (h : ∀ e ∈ l, e.small) (hl : l.length ≤ 10) : (flatL l).length ≤ 100 := by
  have : ∀ e : El, (flatE e).length ≤ 10 := fun e => by cases e <;> simp [flatE]; omega
  have h2 : (l.flatMap flatE).length ≤ 10 * l.length := by
    clear h hl
    induction l with
    | nil => simp
    | cons a r ih => have := this a; rw [List.flatMap_cons, List.length_append, List.length_cons]; omega
  unfold flatL
  omega
theorem flat_hard {l : List El} (h : ∀ e ∈ l, e.small) : ((flatL l).filter fun i => decide (HARD ≤ i)) = [] ↔ l.any El.hard = false := by
  rw [List.filter_eq_nil_iff, List.any_eq_false]
  constructor
  · intro k e he hh
    cases e with
    | wild => cases hh
    | num i => exact k i (List.mem_flatMap.mpr ⟨_, he, List.mem_singleton.mpr rfl⟩) hh
    | set is =>
      obtain ⟨i, hi, hi2⟩ := List.any_eq_true.mp hh
      have hs : is.length ≤ 10 ∧ _ := h _ he
      refine k i (List.mem_flatMap.mpr ⟨_, he, ?_⟩) hi2
      show i ∈ is.take 10
      rw [List.take_of_length_le hs.1]; exact hi
  · intro k i hi hh
    obtain ⟨e, he, hi⟩ := List.mem_flatMap.mp hi
    refine k e he ?_
    cases e with
    | wild => cases hi
    | num j => rw [List.mem_singleton.mp hi] at hh; exact hh
    | set is => exact List.any_eq_true.mpr ⟨i, List.mem_of_mem_take hi, hh⟩
noncomputable def hardB (ns : List Int) : Bool := (els ns).any El.hard
noncomputable abbrev R5 (ns : List Int) : Rho := rhoM [("script", .pers (.list (ns.map .int))), ("count", .pers (.int (cnt ns))), ("branches", .pers (.list ((brs ns).map .int))), ("has_set", .pers (.bool (hasSet ns))), ("has_wild", .pers (.bool (hasWild ns))),
  ("copy", .pers (.list ((els ns).map El.pv))), ("derivation", .pers (der (els ns))), ("mark", .pers (.str (one (markC ns)))), ("hardened", .pers (.bool (hardB ns)))]
theorem one_len (c : Nat) : (one c).length ≤ 1 := Nat.le_refl 1
section
variable {w : World} {n : Nat} {ns : List Int} {L : Addr} {d : PV}
theorem flatten_opt {l : List Int} : l.filterMap (fun i => if HARD ≤ i then some (PV.int i) else none) = (l.filter fun i => decide (HARD ≤ i)).map .int := by
  induction l with
  | nil => rfl
  | cons a r ih =>
    rw [List.filterMap_cons, List.filter_cons]
    by_cases h : HARD ≤ a
    · simp [h, ih]
    · simp [h, ih]
theorem seg5 (hl : ns.length ≤ 63) (h : LS w 6 (eLaw L) (R5 ns) (B936.drop 19) d) : LS w 6 (eLaw L) (R4 ns) (B936.drop 16) d := by
  have lw := els_lw ns
  have hc := cnt_range ns
  have hlen := els_len ns
  have hfl := flatL_len (l := els ns) els_small lw.len
  refine ls_cons (x_assign_comp2 (xs := els ns) El.pv (fun e => !e.isWild) flatE (fun _ i => .int i) (fun _ i => .int i) (it_list (ev_name rfl)) (fun e he C => ifs_one ?_) (fun e he hw C => it_list (ds := (flatE e).map .int) ?_) (fun e he hw i hi C => ev_name rfl) (by omega) flatE_len rfl) ?_
  · refine (tv_cmp (ev_name rfl) ev_none (cmp_isnot_none (by intro u h; cases e <;> cases h))).eq ?_
    cases e <;> rfl
  · cases e with
    | wild => cases hw
    | num i => exact ev_if (c := false) (tv_plain (ev_callB (g_isinstance rfl) (evs_cons (ev_name rfl) (evs_cons (g_list rfl) evs_nil)) isi_int_list) truth_bool) (EVO.ev (evo_list (evs_cons (ev_name rfl) evs_nil) (by simp [flatE])))
    | set is =>
      have hs : is.length ≤ 10 ∧ _ := els_small _ he
      have e1 : flatE (.set is) = is := List.take_of_length_le hs.1
      rw [e1]
      exact ev_if (c := true) (tv_plain (ev_callB (g_isinstance rfl) (evs_cons (ev_name rfl) (evs_cons (g_list rfl) evs_nil)) isi_list_list) truth_bool) (ev_name rfl)
  rw [flatL_pv]
  refine ls_freeze (x := "flat") (ds := (flatL (els ns)).map .int) rfl ?_
  refine ls_cons (x_assign (d := .bool (hardB ns)) (EV.eq (ev_cmp (EVO.ev (evo_comp (xs := flatL (els ns)) PV.int (fun i => if HARD ≤ i then some (PV.int i) else none) (it_list (ev_name rfl)) (fun i hi C => ⟨ifs_one ?_, fun d hd => ?_⟩) (by omega)))
    (EVO.ev (ds := ([] : List Int).map .int) (evo_list evs_nil (by simp))) (b := .list (([] : List Int).map .int)) (a := .list ((flatL (els ns)).filterMap (fun i => if HARD ≤ i then some (PV.int i) else none))) ?_) rfl) rfl) ?_
  · refine (tv_cmp (ev_name rfl) (g_lawhard rfl) cmp_ge_int).eq ?_
    by_cases hh : HARD ≤ i <;> simp [hh]
  · by_cases hh : HARD ≤ i
    · rw [if_pos hh] at hd; cases hd; exact ev_name rfl
    · rw [if_neg hh] at hd; cases hd
  · rw [flatten_opt]
    have hne := cmp_ne (w := w) (n := 6) (dat_ints (is := (flatL (els ns)).filter fun i => decide (HARD ≤ i))) (dat_ints (is := []))
    have e1 : (!PyData.eqv (toD (.list (((flatL (els ns)).filter fun i => decide (HARD ≤ i)).map .int))) (toD (.list (([] : List Int).map .int)))) = hardB ns := by
      simp only [toD, PyData.eqv, eqv_ints]
      have hf := flat_hard (l := els ns) els_small
      unfold hardB
      cases hb : (els ns).any El.hard with
      | false => rw [hf.mpr hb]; rfl
      | true =>
        have : ¬ ((flatL (els ns)).filter fun i => decide (HARD ≤ i)) = [] := fun k => by rw [hf.mp k] at hb; cases hb
        simp [this]
    rw [e1] at hne
    exact hne
  refine ls_pass (LT.eq (lt_or (TV.lt (tv_cmp (b := .bool (hardB ns)) (ev_hardend (n := 4) els_small (ev_name rfl)) (ev_name rfl) (cmp_ne_same dat_bool)))
    fun _ => lt_or (TV.lt (tv_cmp (ev_idxE (ev_cm (g_fn rfl) (cm_from w) (evs_cons (ev_call (g_fn rfl) (evs_cons (ev_name rfl) (evs_cons (ev_cmp (ev_bin (ev_num (k := 15) hl (by decide) rfl rfl ev_int) ev_int (op_mod_pos (by decide))) ev_int cmp_eq_int) (evs_cons (ev_name rfl) evs_nil)))
      ((fn_text lw.len els_small (one_len _)).le (by decide)) (by rfl)) (evs_cons ev_bool evs_nil)) kw_nil ((from3 (n := 0) lw (mark_is ns) (ah := true) (fun _ _ _ => rfl)).le (by decide)))) (ev_name rfl) (cmp_ne_same dat_els))) fun _ => lt_or_nil) rfl) ?_
  exact h.less (subM_cons rfl (subM_cons rfl (subM_cons rfl (subM_cons rfl (subM_cons rfl (subM_cons rfl (subM_cons rfl (subM_cons rfl (subM_cons rfl subM_nil)))))))))
end
end Mine

/-! ## P75 -/
namespace Mine
noncomputable abbrev R6a (ns : List Int) (b : Bool) : Rho := rhoM [("script", .pers (.list (ns.map .int))), ("count", .pers (.int (cnt ns))), ("branches", .pers (.list ((brs ns).map .int))), ("has_set", .pers (.bool (hasSet ns))), ("has_wild", .pers (.bool (hasWild ns))),
  ("copy", .pers (.list ((els ns).map El.pv))), ("derivation", .pers (der (els ns))), ("mark", .pers (.str (one (markC ns)))), ("hardened", .pers (.bool (hardB ns))), ("text", .pers (.str (lawText (els ns) b (one (markC ns)))))]
section
variable {w : World} {n : Nat} {ns : List Int} {L : Addr} {d : PV}
theorem seg6 (hl : ns.length ≤ 63) (h : LS w 6 (eLaw L) (R4 ns) (B936.drop 24) d) : LS w 6 (eLaw L) (R5 ns) (B936.drop 19) d := by
  have lw := els_lw ns
  have hm := mark_is ns
  have hg1 := Int.emod_nonneg (N ns 24) (b := 1000) (by decide)
  have hg2 := Int.emod_lt_of_pos (N ns 24) (b := 1000) (by decide)
  have hrd : HARD = 2147483648 := rfl
  refine ls_cons (x_assign (ev_call (g_fn rfl) (evs_cons (ev_name rfl) (evs_cons (ev_cmp (ev_bin (ev_num (k := 23) hl (by decide) rfl rfl ev_int) ev_int (op_mod_pos (by decide))) ev_int cmp_eq_int) (evs_cons (ev_name rfl) evs_nil)))
      ((fn_text lw.len els_small (one_len _)).le (by decide)) (by rfl)) rfl) ?_
  generalize (N ns 23 % 2 == 1) = b
  refine LS.less (ρ1 := R6a ns b) ?_ (subM_cons rfl (subM_cons rfl (subM_cons rfl (subM_cons rfl (subM_cons rfl (subM_cons rfl (subM_cons rfl (subM_cons rfl (subM_cons rfl (subM_cons rfl subM_nil))))))))))
  refine ls_pass ?_ ?_
  · cases hh : hardB ns with
    | true =>
      have hn : R6a ns b "hardened" = some (.pers (.bool true)) := by rw [← hh]; rfl
      exact LT.eq (lt_or (lt_and (TV.lt (tv_plain (ev_name hn) truth_bool)) fun _ => lt_and (lt_not (lt_refused (g_fn rfl) (evs_cons ev_int (evs_cons (ev_name rfl) (evs_cons (ev_name rfl) (evs_cons ev_int evs_nil)))) (ref0 (n := 4) fun L => fs_hard (n := 2) lw hm hh) (by rfl))) fun _ => lt_and_nil)
        fun _ => lt_or (lt_and (c := false) (lt_not (TV.lt (tv_plain (ev_name hn) truth_bool))) fun h => by cases h) fun _ => lt_or_nil) rfl
    | false =>
      have hn : R6a ns b "hardened" = some (.pers (.bool false)) := by rw [← hh]; rfl
      exact LT.eq (lt_or (lt_and (c := false) (TV.lt (tv_plain (ev_name hn) truth_bool)) fun h => by cases h)
        fun _ => lt_or (lt_and (lt_not (TV.lt (tv_plain (ev_name hn) truth_bool))) fun _ => lt_and (TV.lt (tv_cmp (ev_idxE (ev_cm (g_fn rfl) (cm_from w) (evs_cons (ev_name rfl) evs_nil) kw_nil ((from2 (n := 0) lw hm (fun e he => by
          unfold hardB at hh; rw [List.any_eq_false] at hh; simpa using hh e he)).le (by decide)))) (ev_name rfl) (cmp_ne_same dat_els))) fun _ => lt_and_nil) fun _ => lt_or_nil) rfl
  refine ls_pass ?_ ?_
  · cases hh : hasSet ns with
    | true =>
      have hn : R6a ns b "has_set" = some (.pers (.bool true)) := by rw [← hh]; rfl
      exact LT.eq (lt_and (TV.lt (tv_plain (ev_name hn) truth_bool)) fun _ => lt_and (lt_not (lt_refused (g_fn rfl) (evs_cons ev_int (evs_cons (ev_name rfl) (evs_cons (ev_name rfl) (evs_cons ev_int evs_nil)))) (ref1 (n := 4) fun L => fs_set (n := 2) lw hm (by rw [els_anySet]; exact hh)) (by rfl))) fun _ => lt_and_nil) rfl
    | false =>
      have hn : R6a ns b "has_set" = some (.pers (.bool false)) := by rw [← hh]; rfl
      exact LT.eq (lt_and (c := false) (TV.lt (tv_plain (ev_name hn) truth_bool)) fun h => by cases h) rfl
  refine ls_cons (x_assign (d := .str (dec (HARD + N ns 24 % 1000))) (ev_callT (g_str rfl) (evs_cons (ev_bin (g_lawhard rfl) (ev_bin (ev_num (k := 24) hl (by decide) rfl rfl ev_int) ev_int (op_mod_pos (by decide))) op_add_int) evs_nil) (str_int_ (by omega))) rfl) ?_
  have hdl := dec_len (i := HARD + N ns 24 % 1000) (by omega)
  have c2 : (Str.ofString "*/").length = 2 := rfl
  have c1 : (one (markC ns)).length = 1 := rfl
  refine ls_pass (LT.eq (lt_or (lt_not (lt_refused (g_fn rfl) (evs_cons ev_int (evs_cons (ev_name rfl) (evs_cons (ev_name rfl) (evs_cons ev_int evs_nil)))) (ref0 (n := 4) fun L => fs_great (n := 2) ⟨by omega, by omega, fun c h => by cases h⟩ (by omega)) (by rfl)))
    fun _ => lt_or (lt_not (lt_refused (g_fn rfl) (evs_cons ev_int (evs_cons (ev_name rfl) (evs_cons (ev_bin (ev_bin ev_str (ev_name rfl) (op_add_str ?_)) (ev_name rfl) (op_add_str ?_)) (evs_cons ev_int evs_nil)))) (ref1 (n := 4) fun L => fs_great2 (n := 2) ⟨by omega, by omega, fun c h => by cases h; exact hm⟩ (by omega)) (by rfl))) fun _ => lt_or_nil) rfl) ?_
  · rw [sizeLine_eq]; omega
  · rw [sizeLine_eq, PySem.Str.length_append]; omega
  exact h.less (subM_cons rfl (subM_cons rfl (subM_cons rfl (subM_cons rfl (subM_cons rfl (subM_cons rfl (subM_cons rfl (subM_cons rfl subM_nil))))))))
end
end Mine

/-! ## P76 -/
namespace Mine
noncomputable def idx (ns : List Int) : Int := N ns 16 * 4099 % HARD
noncomputable def rnk (ns : List Int) : Nat := (N ns 17 % (bn ns : Int)).toNat
noncomputable def pathE (i b : Int) : El → Int
  | .wild => i
  | .set _ => b
  | .num j => j
noncomputable def pth (ns : List Int) : List Int := (els ns).map (pathE (idx ns) ((brs ns).getD (rnk ns) 0))
theorem idx_rng (ns : List Int) : 0 ≤ idx ns ∧ idx ns < HARD := ⟨Int.emod_nonneg _ (by decide), Int.emod_lt_of_pos _ (by decide)⟩
theorem rnk_lt (ns : List Int) : rnk ns < bn ns := by
  have hb := bn_range ns
  have := Int.emod_lt_of_pos (N ns 17) (b := (bn ns : Int)) (by omega)
  unfold rnk; omega
theorem brs_rng {ns : List Int} {r : Nat} (h : r < bn ns) : 0 ≤ (brs ns).getD r 0 ∧ (brs ns).getD r 0 < 2 * HARD := by
  rw [List.getD_eq_getElem?_getD, brs_get h]
  have hb := bn_range ns
  exact brI_rng _ _ _ (by omega)
theorem fill_path (ns : List Int) (r : Nat) (b : Option Int) (hb : (b.getD 0).toNat = r) : ((els ns).map (fillE (some (idx ns)) b)).map El.pv = ((els ns).map (pathE (idx ns) ((brs ns).getD r 0))).map .int := by
  rw [List.map_map, List.map_map]
  refine List.map_congr_left fun e he => ?_
  rcases els_mem he with rfl | rfl | ⟨i, hi, rfl⟩
  · rfl
  · show El.pv (.num ((brs ns).getD (b.getD 0).toNat 0)) = _; rw [hb]; rfl
  · rfl
theorem els_okF {ns : List Int} {b : Option Int} (hb : ∀ r, b = some r → 0 ≤ r ∧ r < bn ns) : ∀ e ∈ els ns, okF b e := fun e he => by
  have h1 := bn_range ns
  have h2 := brs_len ns
  rcases els_mem he with rfl | rfl | ⟨i, hi, rfl⟩
  · trivial
  · exact ⟨by omega, by omega, fun r hr => by have := hb r hr; omega⟩
  · trivial
theorem bad_no {i : Int} (h0 : 0 ≤ i) (h1 : i < HARD) : badIdx (some i) = false := by
  show (decide (i < 0) || decide (HARD ≤ i)) = false
  rw [decide_eq_false (by omega), decide_eq_false (by omega)]; rfl
theorem bad_lo {i : Int} (h0 : i < 0) : badIdx (some i) = true := by
  show (decide (i < 0) || decide (HARD ≤ i)) = true
  rw [decide_eq_true h0]; rfl
theorem bad_hi {i : Int} (h0 : HARD ≤ i) : badIdx (some i) = true := by
  show (decide (i < 0) || decide (HARD ≤ i)) = true
  rw [decide_eq_true h0, Bool.or_true]
noncomputable abbrev R7 (ns : List Int) : Rho := rhoM [("script", .pers (.list (ns.map .int))), ("count", .pers (.int (cnt ns))), ("branches", .pers (.list ((brs ns).map .int))), ("has_set", .pers (.bool (hasSet ns))), ("has_wild", .pers (.bool (hasWild ns))),
  ("copy", .pers (.list ((els ns).map El.pv))), ("derivation", .pers (der (els ns))), ("mark", .pers (.str (one (markC ns)))), ("index", .pers (.int (idx ns))), ("rank", .pers (.int (rnk ns))), ("path", .pers (.list ((pth ns).map .int)))]
section
variable {w : World} {n : Nat} {ns : List Int} {L : Addr} {d : PV}
theorem seg7 (hl : ns.length ≤ 63) (h : LS w 6 (eLaw L) (R7 ns) (B936.drop 30) d) : LS w 6 (eLaw L) (R4 ns) (B936.drop 24) d := by
  have lw := els_lw ns
  have hb := bn_range ns
  have hbl := brs_len ns
  have hr := rnk_lt ns
  have hi := idx_rng ns
  have hlen := lw.len
  refine ls_cons (x_assign (d := .int (idx ns)) (ev_bin (ev_bin (ev_num (k := 16) hl (by decide) rfl rfl ev_int) ev_int (op_mul_int (IntMulOk.of_right (by decide)))) (g_lawhard rfl) (op_mod_pos (by decide))) rfl) ?_
  refine ls_cons (x_assign (d := .int (rnk ns)) (EV.eq (ev_bin (ev_num (k := 17) hl (by decide) rfl rfl ev_int) (ev_callB (g_len rfl) (evs_cons (ev_name rfl) evs_nil) (len_list_ (ds := (brs ns).map .int) (by rw [List.length_map]; omega))) (op_mod_pos (by rw [List.length_map]; omega))) ?_) rfl) ?_
  · unfold rnk
    rw [List.length_map, hbl]
    have := Int.emod_nonneg (N ns 17) (b := (bn ns : Int)) (by omega)
    congr 1; omega
  refine ls_cons (x_assign_compM (xs := els ns) El.pv (fun e => .int (pathE (idx ns) ((brs ns).getD (rnk ns) 0) e)) (it_list (ev_name rfl)) (fun e he C => ?_) (by omega) rfl) ?_
  · refine ev_if (c := e.isWild) ((tv_cmp (ev_name rfl) ev_none (cmp_is_none (by intro u h; cases e <;> cases h))).eq (by cases e <;> rfl)) ?_
    cases e with
    | wild => exact ev_name rfl
    | num i => exact ev_if (c := false) (tv_plain (ev_callB (g_isinstance rfl) (evs_cons (ev_name rfl) (evs_cons (g_list rfl) evs_nil)) isi_int_list) truth_bool) (ev_name rfl)
    | set is =>
      refine ev_if (c := true) (tv_plain (ev_callB (g_isinstance rfl) (evs_cons (ev_name rfl) (evs_cons (g_list rfl) evs_nil)) isi_list_list) truth_bool) ?_
      refine ev_item (ds := (brs ns).map .int) (j := (rnk ns : Int)) (ev_name rfl) (ev_name rfl) (by omega) (by omega) ?_
      rw [Int.toNat_natCast, List.getElem?_map, List.getElem?_eq_getElem (by omega)]
      show some (PV.int _) = some (PV.int _)
      rw [List.getD_eq_getElem?_getD, List.getElem?_eq_getElem (by omega)]
      rfl
  have e1 : ((els ns).map fun e => PV.int (pathE (idx ns) ((brs ns).getD (rnk ns) 0) e)) = (pth ns).map .int := by unfold pth; rw [List.map_map]; rfl
  rw [e1]
  refine ls_freeze (x := "path") rfl ?_
  refine LS.less (ρ1 := R7 ns) ?_ (subM_cons rfl (subM_cons rfl (subM_cons rfl (subM_cons rfl (subM_cons rfl (subM_cons rfl (subM_cons rfl (subM_cons rfl (subM_cons rfl (subM_cons rfl (subM_cons rfl subM_nil)))))))))))
  have hbad : badIdx (some (idx ns)) = false := bad_no hi.1 hi.2
  have hf3 : FN w 6 (.ref 839) [der (els ns), .int (idx ns), .int (rnk ns)] [] (.list ((pth ns).map .int)) := by
    have := (fn_fill3 (w := w) (els := els ns) (idx := some (idx ns)) (b := some (rnk ns : Int)) (by omega) hbad (els_okF fun r hr => by cases hr; omega)).le (m := 6) (by decide)
    rw [fill_path ns (rnk ns) _ (by simp)] at this
    exact this
  have hf2 : FN w 6 (.ref 839) [der (els ns), .int (idx ns)] [] (.list (((els ns).map (pathE (idx ns) ((brs ns).getD 0 0))).map .int)) := by
    have := (fn_fill2 (w := w) (els := els ns) (idx := some (idx ns)) (by omega) hbad (els_okF fun r hr => by cases hr)).le (m := 6) (by decide)
    rw [fill_path ns 0 none rfl] at this
    exact this
  refine ls_pass (LT.eq (lt_or (TV.lt (tv_cmp (ev_fill (ev_name rfl) (evs_cons (ev_name rfl) (evs_cons (ev_name rfl) evs_nil)) hf3) (ev_name rfl) (cmp_ne_same dat_ints)))
    fun _ => lt_or (TV.lt (tv_cmp (ev_fill (ev_name rfl) (evs_cons (ev_name rfl) evs_nil) hf2) (EVO.ev (ds := ((els ns).map (pathE (idx ns) ((brs ns).getD 0 0))).map .int) ?_) (cmp_ne_same dat_ints))) fun _ => lt_or_nil) rfl) ?_
  · have e2 : ((els ns).map (pathE (idx ns) ((brs ns).getD 0 0))).map PV.int = (els ns).map fun e => PV.int (pathE (idx ns) ((brs ns).getD 0 0) e) := by rw [List.map_map]; rfl
    rw [e2]
    refine evo_compM (xs := els ns) El.pv (fun e => .int (pathE (idx ns) ((brs ns).getD 0 0) e)) (it_list (ev_name rfl)) (fun e he C => ?_) (by omega)
    refine ev_if (c := e.isWild) ((tv_cmp (ev_name rfl) ev_none (cmp_is_none (by intro u h; cases e <;> cases h))).eq (by cases e <;> rfl)) ?_
    cases e with
    | wild => exact ev_name rfl
    | num i => exact ev_if (c := false) (tv_plain (ev_callB (g_isinstance rfl) (evs_cons (ev_name rfl) (evs_cons (g_list rfl) evs_nil)) isi_int_list) truth_bool) (ev_name rfl)
    | set is =>
      refine ev_if (c := true) (tv_plain (ev_callB (g_isinstance rfl) (evs_cons (ev_name rfl) (evs_cons (g_list rfl) evs_nil)) isi_list_list) truth_bool) ?_
      refine ev_item (ds := (brs ns).map .int) (j := 0) (ev_name rfl) ev_int (by omega) (by omega) ?_
      show ((brs ns).map PV.int)[0]? = some (PV.int _)
      rw [List.getElem?_map, List.getElem?_eq_getElem (by omega)]
      show some (PV.int _) = some (PV.int _)
      rw [List.getD_eq_getElem?_getD, List.getElem?_eq_getElem (by omega)]
      rfl
  refine ls_pass (LT.eq (lt_or (lt_not (lt_refused (g_fn rfl) (evs_cons ev_int (evs_cons (ev_name rfl) (evs_cons ev_str (evs_cons (ev_bin (ev_neg ev_int) (ev_name rfl) op_sub_int) evs_nil)))) (ref2 (n := 4) (bad_lo (by omega))) (by rfl)))
    fun _ => lt_or (lt_not (lt_refused (g_fn rfl) (evs_cons ev_int (evs_cons (ev_name rfl) (evs_cons ev_str (evs_cons (ev_bin (g_lawhard rfl) (ev_name rfl) op_add_int) evs_nil)))) (ref2 (n := 4) (bad_hi (by omega))) (by rfl))) fun _ => lt_or_nil) rfl) ?_
  refine ls_pass ?_ h
  cases hh : hasSet ns with
  | false =>
    have hn : R7 ns "has_set" = some (.pers (.bool false)) := by rw [← hh]; rfl
    exact LT.eq (lt_and (c := false) (TV.lt (tv_plain (ev_name hn) truth_bool)) fun h => by cases h) rfl
  | true =>
    have hn : R7 ns "has_set" = some (.pers (.bool true)) := by rw [← hh]; rfl
    obtain ⟨hj, hno⟩ := els_at hh
    have hno' : ∀ (i : Int) k, k < at_ ns → ∀ e, (els ns)[k]? = some e → okF (some i) e := fun i k hk e he => by
      have := hno k hk e he
      cases e with
      | wild => trivial
      | num j => trivial
      | set is => cases this
    have hm5 := Int.emod_nonneg (idx ns) (b := 5) (by decide)
    exact LT.eq (lt_and (TV.lt (tv_plain (ev_name hn) truth_bool)) fun _ => lt_and (lt_or (lt_not (lt_refused (g_fn rfl) (evs_cons ev_int (evs_cons (ev_name rfl) (evs_cons ev_str (evs_cons (ev_bin (ev_callB (g_len rfl) (evs_cons (ev_name rfl) evs_nil) (len_list_ (ds := (brs ns).map .int) (by rw [List.length_map]; omega))) (ev_bin (ev_name rfl) ev_int (op_mod_pos (by decide))) op_add_int) evs_nil))))
        (ref3 (n := 4) (j := at_ ns) (is := brs ns) (by omega) hj (by omega) (.inr (by rw [List.length_map]; omega)) (hno' _)) (by rfl)))
      fun _ => lt_or (lt_not (lt_refused (g_fn rfl) (evs_cons ev_int (evs_cons (ev_name rfl) (evs_cons ev_str (evs_cons (ev_bin (ev_neg ev_int) (ev_bin (ev_name rfl) ev_int (op_mod_pos (by decide))) op_sub_int) evs_nil))))
        (ref3 (n := 4) (j := at_ ns) (is := brs ns) (by omega) hj (by omega) (.inl (by omega)) (hno' _)) (by rfl))) fun _ => lt_or_nil) fun _ => lt_and_nil) rfl
end
end Mine

/-! ## P77 -/
namespace Mine
/-! # check_derivation on the law's paths -/
theorem pth_len (ns : List Int) : (pth ns).length = cnt ns := by unfold pth; rw [List.length_map, els_len]
theorem check_len {l : List El} {p : List Int} (h : p.length ≠ l.length) : checkC l p = .none := by unfold checkC; rw [if_neg (fun k => h k.1)]
theorem check_bad {l : List El} {p : List Int} {j : Nat} {e : El} {d : Int} (he : l[j]? = some e) (hd : p[j]? = some d) (h : okC e d = false) : checkC l p = .none := by
  unfold checkC
  rw [if_neg]
  rintro ⟨_, k⟩
  have := List.all_eq_true.mp k (e, d) (List.mem_of_getElem? (List.getElem?_zip_eq_some.mpr ⟨he, hd⟩))
  rw [this] at h; cases h
theorem zip_map (l : List El) (f : El → Int) : l.zip (l.map f) = l.map fun e => (e, f e) := by
  induction l with
  | nil => rfl
  | cons a r ih => rw [List.map_cons, List.zip_cons_cons, ih, List.map_cons]
/-- a branch's number less its mark -/
theorem brI_mod (h : Bool) (p : Int) (k : Nat) (hk : k < 4) : brI h p k % HARD = 3 * (p % 1000) + 3000 * k ∧ 0 ≤ p % 1000 ∧ p % 1000 < 1000 := by
  have h1 := Int.emod_nonneg p (b := 1000) (by decide)
  have h2 := Int.emod_lt_of_pos p (b := 1000) (by decide)
  unfold brI HARD
  refine ⟨?_, h1, h2⟩
  split <;> omega
theorem brs_mem {ns : List Int} {d : Int} (h : d ∈ brs ns) : ∃ k, k < bn ns ∧ d = brI (hrd ns) (N ns (8 + k)) k := by
  obtain ⟨k, hk, rfl⟩ := List.mem_map.mp h
  exact ⟨k, List.mem_range.mp hk, rfl⟩
theorem brs_getD {ns : List Int} {k : Nat} (h : k < bn ns) : (brs ns).getD k 0 = brI (hrd ns) (N ns (8 + k)) k := by
  rw [List.getD_eq_getElem?_getD, brs_get h]; rfl
theorem brs_idx {ns : List Int} {r : Nat} (h : r < bn ns) : (brs ns).idxOf ((brs ns).getD r 0) = r := by
  have hb := bn_range ns
  have hl := brs_len ns
  have hm : (brs ns).getD r 0 ∈ brs ns := by rw [brs_getD h]; exact List.mem_of_getElem? (brs_get h)
  have hlt := List.idxOf_lt_length_of_mem hm
  have hg := List.getElem_idxOf hlt
  generalize hj : (brs ns).idxOf ((brs ns).getD r 0) = j at *
  have h1 := brs_get (ns := ns) (i := j) (by omega)
  rw [List.getElem?_eq_getElem hlt, hg, brs_getD h] at h1
  have h2 := Option.some.inj h1
  have m1 := brI_mod (hrd ns) (N ns (8 + r)) r (by omega)
  have m2 := brI_mod (hrd ns) (N ns (8 + j)) j (by omega)
  rw [h2] at m1
  omega
theorem br_form (h : Bool) (p : Int) (k : Nat) : ∃ u : Int, 0 ≤ u ∧ u < 1000 ∧ (brI h p k = 3 * u + 3000 * k ∨ brI h p k = 3 * u + 3000 * k + 2147483648) := by
  refine ⟨p % 1000, Int.emod_nonneg p (by decide), Int.emod_lt_of_pos p (by decide), ?_⟩
  unfold brI HARD
  split
  · exact .inr rfl
  · exact .inl (by omega)
theorem wrap0 {a : Int} (h0 : 0 ≤ a) (h1 : a < 4294967296) : a % 4294967296 = a := Int.emod_eq_of_lt h0 h1
theorem wrap1 {a : Int} (h0 : 0 ≤ a) (h1 : a < 2147483648) : (a + 2147483648 + 2147483648) % 4294967296 = a := by
  have e : a + 2147483648 + 2147483648 = a + 4294967296 := by omega
  rw [e, Int.add_emod_right, wrap0 h0 (by omega)]
/-- neither one more nor the other kind of number is in the set -/
theorem brs_spoilt {ns : List Int} {r : Nat} {x : Int} (h : r < bn ns) (hx : x = 1 ∨ x = HARD) : ((brs ns).contains (((brs ns).getD r 0 + x) % (2 * HARD))) = false := by
  have hb := bn_range ns
  rw [Bool.eq_false_iff]
  intro hc
  rw [List.contains_iff_mem] at hc
  obtain ⟨k, hk, e⟩ := brs_mem hc
  rw [brs_getD h] at e
  obtain ⟨u, u0, u1, hu⟩ := br_form (hrd ns) (N ns (8 + r)) r
  obtain ⟨v, v0, v1, hv⟩ := br_form (hrd ns) (N ns (8 + k)) k
  have hr4 : r < 4 := by omega
  have hk4 : k < 4 := by omega
  have e2 : (2 : Int) * HARD = 4294967296 := rfl
  rw [e2] at e
  by_cases hrk : r = k
  · subst hrk
    rcases hx with rfl | rfl
    · rcases hu with hu | hu
      · rw [hu, wrap0 (by omega) (by omega)] at e; omega
      · rw [hu, wrap0 (by omega) (by omega)] at e; omega
    · rcases hu with hu | hu
      · rw [hu, show HARD = 2147483648 from rfl, wrap0 (by omega) (by omega)] at e; omega
      · rw [hu, show HARD = 2147483648 from rfl, wrap1 (by omega) (by omega)] at e; omega
  · rcases hx with rfl | rfl
    · rcases hu with hu | hu <;> rw [hu, wrap0 (by omega) (by omega)] at e <;> rcases hv with hv | hv <;> rw [hv] at e <;> omega
    · rcases hu with hu | hu
      · rw [hu, show HARD = 2147483648 from rfl, wrap0 (by omega) (by omega)] at e
        rcases hv with hv | hv <;> rw [hv] at e <;> omega
      · rw [hu, show HARD = 2147483648 from rfl, wrap1 (by omega) (by omega)] at e
        rcases hv with hv | hv <;> rw [hv] at e <;> omega
theorem num_spoilt {i x : Int} (h0 : 0 ≤ i) (h1 : i < 2 * HARD) (hx : x = 1 ∨ x = HARD) : (i == (i + x) % (2 * HARD)) = false := by
  rw [beq_eq_false_iff_ne]
  unfold HARD at *
  omega
theorem path_ok {ns : List Int} {e : El} (he : e ∈ els ns) (i : Int) (r : Nat) (hr : r < bn ns) : okC e (pathE i ((brs ns).getD r 0) e) = true := by
  rcases els_mem he with rfl | rfl | ⟨j, hj, rfl⟩
  · rfl
  · show (brs ns).contains _ = true
    rw [List.contains_iff_mem, brs_getD hr]
    exact List.mem_of_getElem? (brs_get hr)
  · show (j == j) = true; simp
/-! the fold over a path -/
theorem fold_rank {ns : List Int} {i : Int} {r : Nat} (hr : r < bn ns) : ∀ (l : List El) (st : Int × Option Int), (∀ e ∈ l, e ∈ els ns) →
    (l.map fun e => (e, pathE i ((brs ns).getD r 0) e)).foldl stepC st = (if l.any El.isSet then (r : Int) else st.1, if l.any El.isWild then some i else st.2)
  | [], st, _ => rfl
  | a :: l, st, h => by
    rw [List.map_cons, List.foldl_cons, fold_rank hr l _ fun e he => h e (List.mem_cons_of_mem _ he)]
    rcases els_mem (h a List.mem_cons_self) with rfl | rfl | ⟨j, hj, rfl⟩
    · show (_, _) = (_, _)
      simp [stepC, pathE, El.isSet, El.isWild]
    · have := brs_idx hr
      simp only [stepC, pathE, List.any_cons, El.isSet, El.isWild, Bool.true_or, Bool.false_or, if_true, this]
      cases l.any El.isSet <;> simp
    · simp [stepC, El.isSet, El.isWild]
theorem check_path (ns : List Int) : checkC (els ns) (pth ns) = if hasWild ns then .tuple [.int (idx ns), .int (if hasSet ns then (rnk ns : Int) else 0)] else .none := by
  have hr := rnk_lt ns
  unfold checkC
  rw [if_pos]
  · unfold foldC pth
    rw [zip_map, fold_rank hr _ _ fun e he => he, els_anySet, els_anyWild]
    cases hasWild ns <;> rfl
  · refine ⟨by rw [pth_len, els_len], ?_⟩
    unfold pth
    rw [zip_map, List.all_map, List.all_eq_true]
    intro e he
    exact path_ok he _ _ hr
end Mine

/-! ## P78 -/
namespace Mine
section
variable {w : World} {n : Nat} {env : Env} {ρ : Rho}
/-- a call of a type that gives a fresh list -/
theorem evo_callT {g : Str} {p pos : Pos} {T : String} {e : Expr} {rest : List Expr} {ds us : List PV} (hg : EV w n env ρ (.Name g p) (.raw (.type T))) (ha : EVs w n env ρ (e :: rest) ds) (hf : FNO w n (.type T) ds us)
    (he : starEach (e :: rest) env = (false, eval e env) :: starEach rest env := by rfl) (hplain : (backTo pos (starEach rest env)).any (·.1) = false := by rfl) :
    EVO w n env ρ (.Call (.Name g p) (e :: rest) [] pos) us := by
  refine ⟨fun A s q E Q R C k => ?_⟩
  refine wpAny_Call_NameR (hg.run A s q E _ R C fun h1 t1 q1 v g1 r1 => ?_)
  cases r1
  refine PyProof.Rows.callWith_type1 (ha.run pos A _ q1 E _ R (C.grow g1) fun h2 t2 q2 vs g2 r2 => ?_) he hplain
  refine hf.run A _ q2 E _ vs R ((C.grow g1).grow g2).bs r2 fun h3 t3 q3 a us m g3 ho r3 hn hq => k h3 t3 q3 a us m (g1.trans (g2.trans g3)) ho r3 ?_ hq
  cases z : s.heap.get? a with
  | none => rfl
  | some o => rw [g2.keep _ _ (g1.keep _ _ z)] at hn; cases hn
theorem list_copyO {ds : List PV} (hl : ds.length ≤ 100000) : FNO w n (.type "list") [.list ds] ds := by
  refine ⟨fun A s q E Q vs R B r k => ?_⟩
  cases r with
  | cons h1 r => cases r with
    | nil => cases h1 with
      | @list a vs ds m h r =>
        refine call_list_seq (T := "list") (items := vs.toArray) (n := m) a (.inl rfl) (B.sub _ _ h) rfl rfl (fun h' c' hk hD => ?_) (by rw [List.size_toArray, r.length, sizeLine_eq]; omega)
        have hn := get_size_none s.heap
        have hq : q s.heap.objs.size = none := by
          cases z : q s.heap.objs.size with
          | none => rfl
          | some o => rw [B.sub _ _ z] at hn; cases hn
        exact k h' s.toks q s.heap.objs.size vs c' (Grow.heap B.sub hk) hD r hn hq
/-- a method of the text's own on what an expression gives, like ev_methK, for check_derivation and branch -/
theorem k_plain_chk (w : World) : plainGet (K w.params) 903 "check_derivation" = true := by kernel_rfl
theorem k_find_chk (w : World) : findIn (K w.params) (.ref 903) "check_derivation" = some (some (.ref 853)) := by kernel_rfl
theorem k_plain_br (w : World) : plainGet (K w.params) 903 "branch" = true := by kernel_rfl
theorem k_find_br (w : World) : findIn (K w.params) (.ref 903) "branch" = some (some (.ref 846)) := by kernel_rfl
theorem ev_chk {x : Str} {np apos pos : Pos} {e : Expr} {pl : Sem Bool} {l : List El} {p : List Int} {m : Nat} (hx : EV w (m + 1) env ρ (.Name x np) (der l)) (ha : EV w (m + 1) env ρ e (.list (p.map .int))) (hs : ∀ e ∈ l, e.small) (hl : l.length ≤ 100) (hp : p.length ≤ 100)
    (he : eval (.Call (.Attribute (.Name x np) "check_derivation" apos) [e] [] pos) env = (do
      let ov ← eval (.Name x np) env
      standAt apos.atName
      let (f, first) ← holding [ov] (getMethod ov "check_derivation" pl)
      callWith pos f first (backTo pos (starEach [e] env)) []) := by rfl)
    (hs1 : starEach [e] env = (false, eval e env) :: starEach [] env := by rfl) (hplain : (backTo pos (starEach [] env)).any (·.1) = false := by rfl) : EV w (m + 1) env ρ (.Call (.Attribute (.Name x np) "check_derivation" apos) [e] [] pos) (checkC l p) :=
  ev_methK hx rfl (k_plain_chk w) (k_find_chk w) (by rfl) (by rfl) (evs_cons ha evs_nil hs1) ((fn_check hs hl hp).le (by omega)) he hs1 hplain
theorem dat_pair {a b : Int} : Dat (.tuple [.int a, .int b]) := ⟨by simp [isD, isDs], by simp [toD, toDs, PyData.canLay0, PyData.canLayAll0], by simp [toD, toDs, PyData.depth, PyData.depthAll]⟩
end
noncomputable def plc (ns : List Int) : Nat := (N ns 18 % (cnt ns : Int)).toNat
theorem plc_lt (ns : List Int) : plc ns < cnt ns := by
  have hc := cnt_range ns
  have := Int.emod_lt_of_pos (N ns 18) (b := (cnt ns : Int)) (by omega)
  unfold plc; omega
noncomputable def spI (ns : List Int) : Int := if N ns 25 % 2 != 0 then 1 else HARD
theorem spI_is (ns : List Int) : spI ns = 1 ∨ spI ns = HARD := by unfold spI; split; exact .inl rfl; exact .inr rfl
noncomputable def spV (ns : List Int) : Int := ((pth ns).getD (plc ns) 0 + spI ns) % (2 * HARD)
noncomputable def spoiltL (ns : List Int) : List Int := (pth ns).set (plc ns) (spV ns)
theorem plc_el (ns : List Int) : ∃ e, (els ns)[plc ns]? = some e ∧ e ∈ els ns ∧ (pth ns)[plc ns]? = some (pathE (idx ns) ((brs ns).getD (rnk ns) 0) e) := by
  have h : plc ns < (els ns).length := by rw [els_len]; exact plc_lt ns
  refine ⟨(els ns)[plc ns], List.getElem?_eq_getElem h, List.getElem_mem h, ?_⟩
  unfold pth
  rw [List.getElem?_map, List.getElem?_eq_getElem h]; rfl
theorem check_spoilt {ns : List Int} {e : El} (he : (els ns)[plc ns]? = some e) (hw : e.isWild = false) : checkC (els ns) (spoiltL ns) = .none := by
  obtain ⟨e', h1, h2, h3⟩ := plc_el ns
  rw [he] at h1; cases h1
  have hp : plc ns < (pth ns).length := by rw [pth_len]; exact plc_lt ns
  refine check_bad (j := plc ns) (d := spV ns) he (by unfold spoiltL; rw [List.getElem?_set]; simp [hp]) ?_
  unfold spV
  rw [List.getD_eq_getElem?_getD, h3]
  rcases els_mem h2 with rfl | rfl | ⟨j, hj, rfl⟩
  · cases hw
  · exact brs_spoilt (rnk_lt ns) (spI_is ns)
  · have := nums_rng j hj
    exact num_spoilt this.1 this.2 (spI_is ns)
section
variable {w : World} {n : Nat} {ns : List Int} {L : Addr} {d : PV}
theorem seg8 (hl : ns.length ≤ 63) (h : LS w 6 (eLaw L) (R7 ns) (B936.drop 34) d) : LS w 6 (eLaw L) (R7 ns) (B936.drop 30) d := by
  have lw := els_lw ns
  have hc := cnt_range ns
  have hlen := els_len ns
  have hpl := pth_len ns
  have hp := plc_lt ns
  refine ls_pass (LT.eq (lt_or (TV.lt (tv_cmp (ev_idx (ev_name rfl)) (ev_name rfl) (cmp_ne_same dat_els)))
    fun _ => lt_or (TV.lt (tv_cmp (ev_chk (p := pth ns) (ev_name rfl) (ev_name rfl) els_small (by omega) (by omega)) ?_ (cmp_ne_same ?_))) fun _ => lt_or_nil) rfl) ?_
  · rw [check_path]
    refine ev_if (c := hasWild ns) (tv_plain (ev_name rfl) truth_bool) ?_
    cases hasWild ns with
    | false => exact ev_none
    | true =>
      refine ev_tuple (evs_cons (ev_name rfl) (evs_cons ?_ evs_nil)) (by simp)
      refine ev_if (c := hasSet ns) (tv_plain (ev_name rfl) truth_bool) ?_
      cases hasSet ns
      · exact ev_int
      · exact ev_name rfl
  · rw [check_path]
    split
    · exact dat_pair
    · exact dat_none
  refine ls_pass (LT.eq (lt_or (TV.lt (tv_cmp (EV.eq (ev_chk (p := pth ns ++ [1]) (ev_name rfl) (EV.eq (ev_bin (ev_name rfl) (EVO.ev (evo_list (evs_cons ev_int evs_nil) (by simp))) (op_add_list (by rw [List.length_map]; simp; omega))) (by rw [List.map_append]; rfl)) els_small (by omega) (by simp; omega)) (check_len (by simp; omega))) ev_none (cmp_isnot_none (by intro u h; cases h))))
    fun _ => lt_or (TV.lt (tv_cmp (EV.eq (ev_chk (p := (pth ns).take (cnt ns - 1)) (ev_name rfl) (EV.eq (EVO.ev (evo_butLast (ev_name rfl) (by rw [List.length_map]; omega))) (by rw [List.length_map, hpl, List.map_take])) els_small (by omega) (by simp; omega)) (check_len (by simp; omega))) ev_none (cmp_isnot_none (by intro u h; cases h)))) fun _ => lt_or_nil) rfl) ?_
  refine ls_cons (x_assign (d := .int (plc ns)) (EV.eq (ev_bin (ev_num (k := 18) hl (by decide) rfl rfl ev_int) (ev_name rfl) (op_mod_pos (by omega))) ?_) rfl) ?_
  · unfold plc
    have := Int.emod_nonneg (N ns 18) (b := (cnt ns : Int)) (by omega)
    congr 1; omega
  obtain ⟨e, he, hem, hpe⟩ := plc_el ns
  have hcp : ((els ns).map El.pv)[((plc ns : Nat) : Int).toNat]? = some e.pv := by rw [Int.toNat_natCast, List.getElem?_map, he]; rfl
  by_cases hw : e.isWild = true
  · refine ls_cons (x_ifF ((tv_cmp (ev_item (d := e.pv) (ev_name rfl) (ev_name rfl) (by omega) (by omega) hcp) ev_none (cmp_isnot_none (by intro u h; cases e <;> cases h))).eq (by cases e <;> first | rfl | cases hw)) xs_nil) ?_
    exact h.less (subM_cons rfl (subM_cons rfl (subM_cons rfl (subM_cons rfl (subM_cons rfl (subM_cons rfl (subM_cons rfl (subM_cons rfl (subM_cons rfl (subM_cons rfl (subM_cons rfl subM_nil)))))))))))
  · have hw : e.isWild = false := by simpa using hw
    have hpv : ((pth ns).map PV.int)[((plc ns : Nat) : Int).toNat]? = some (.int ((pth ns).getD (plc ns) 0)) := by rw [Int.toNat_natCast, List.getElem?_map, List.getD_eq_getElem?_getD, hpe]; rfl
    refine ls_cons (x_ifT ((tv_cmp (ev_item (d := e.pv) (ev_name rfl) (ev_name rfl) (by omega) (by omega) hcp) ev_none (cmp_isnot_none (by intro u h; cases e <;> cases h))).eq (by cases e <;> first | rfl | cases hw))
      (xs_cons (x_assign_own (evo_callT (g_list rfl) (evs_cons (ev_name rfl) evs_nil) (list_copyO (ds := (pth ns).map .int) (by rw [List.length_map]; omega))) rfl)
      (xs_cons (x_setitem (ds := (pth ns).map .int) (j := (plc ns : Int)) (d := .int (spV ns)) rfl rfl
        (ev_bin (ev_bin (ev_item (ds := (pth ns).map .int) (ev_name rfl) (ev_name rfl) (by omega) (by omega) hpv) (EV.eq (ev_if (c := N ns 25 % 2 != 0) (d := .int (spI ns)) (tv_plain (ev_bin (ev_num (k := 25) hl (by decide) rfl rfl ev_int) ev_int (op_mod_pos (by decide))) truth_int) ?_) rfl) op_add_int)
          (ev_bin ev_int (g_lawhard rfl) (op_mul_int (IntMulOk.of_left (by decide)))) (op_mod_pos (by decide))) (by omega) (by rw [List.length_map]; omega) (by rw [List.length_map]; omega))
      (xs_freeze (x := "spoilt") rfl
      (xs_one (x_ifF ((tv_cmp (EV.eq (ev_chk (p := spoiltL ns) (ev_name rfl) (EV.eq (ev_name rfl) ?_) els_small (by omega) (by unfold spoiltL; rw [List.length_set]; omega)) (check_spoilt he hw)) ev_none (cmp_isnot_none (by intro u h; cases h))).eq rfl) xs_nil)))))) ?_
    · unfold spI
      cases N ns 25 % 2 != 0
      · exact g_lawhard rfl
      · exact ev_int
    · unfold spoiltL; rw [List.map_set, Int.toNat_natCast]
    exact h.less (subM_cons rfl (subM_cons rfl (subM_cons rfl (subM_cons rfl (subM_cons rfl (subM_cons rfl (subM_cons rfl (subM_cons rfl (subM_cons rfl (subM_cons rfl (subM_cons rfl subM_nil)))))))))))
end
end Mine

/-! ## P79 -/
namespace Mine
noncomputable def brE (b : Int) : El → El
  | .wild => .wild
  | .set _ => .num b
  | .num j => .num j
theorem branch_els (ns : List Int) : (els ns).map (fillE none (some (rnk ns : Int))) = (els ns).map (brE ((brs ns).getD (rnk ns) 0)) := by
  refine List.map_congr_left fun e he => ?_
  rcases els_mem he with rfl | rfl | ⟨i, hi, rfl⟩
  · rfl
  · show El.num ((brs ns).getD (rnk ns : Int).toNat 0) = _; rw [Int.toNat_natCast]; rfl
  · rfl
section
variable {w : World} {n : Nat} {ns : List Int} {L : Addr} {d : PV}
theorem seg9 (hl : ns.length ≤ 63) (h : LS w 6 (eLaw L) (R7 ns) (B936.drop 36) d) : LS w 6 (eLaw L) (R7 ns) (B936.drop 34) d := by
  have lw := els_lw ns
  have hb := bn_range ns
  have hbl := brs_len ns
  have hr := rnk_lt ns
  have hlen := lw.len
  have hbr : FN w 6 (.ref 846) [der (els ns), .int (rnk ns)] [] (der ((els ns).map (brE ((brs ns).getD (rnk ns) 0)))) := by
    have := (fn_branch (w := w) (els := els ns) (r := (rnk ns : Int)) (by omega) (els_okF fun r hr' => by cases hr'; omega) lw.wild).le (m := 6) (by decide)
    rw [branch_els] at this
    exact this
  have e2 : (((els ns).map (brE ((brs ns).getD (rnk ns) 0))).map El.pv) = (els ns).map fun e => (brE ((brs ns).getD (rnk ns) 0) e).pv := by rw [List.map_map]; rfl
  refine ls_pass (LT.eq (TV.lt (tv_cmp (ev_idxE (ev_methK (ev_name rfl) rfl (k_plain_br w) (k_find_br w) (by rfl) (by rfl) (evs_cons (ev_name rfl) evs_nil) hbr)) (EVO.ev (ds := ((els ns).map (brE ((brs ns).getD (rnk ns) 0))).map El.pv) ?_) (cmp_ne_same dat_els))) rfl) ?_
  · rw [e2]
    refine evo_compM (xs := els ns) El.pv (fun e => (brE ((brs ns).getD (rnk ns) 0) e).pv) (it_list (ev_name rfl)) (fun e he C => ?_) (by omega)
    refine ev_if (c := e.isWild) ((tv_cmp (ev_name rfl) ev_none (cmp_is_none (by intro u h; cases e <;> cases h))).eq (by cases e <;> rfl)) ?_
    cases e with
    | wild => exact ev_none
    | num i => exact ev_if (c := false) (tv_plain (ev_callB (g_isinstance rfl) (evs_cons (ev_name rfl) (evs_cons (g_list rfl) evs_nil)) isi_int_list) truth_bool) (ev_name rfl)
    | set is =>
      refine ev_if (c := true) (tv_plain (ev_callB (g_isinstance rfl) (evs_cons (ev_name rfl) (evs_cons (g_list rfl) evs_nil)) isi_list_list) truth_bool) ?_
      refine ev_item (ds := (brs ns).map .int) (j := (rnk ns : Int)) (ev_name rfl) (ev_name rfl) (by omega) (by omega) ?_
      rw [Int.toNat_natCast, List.getElem?_map, List.getElem?_eq_getElem (by omega)]
      show some (PV.int _) = some (PV.int _)
      rw [List.getD_eq_getElem?_getD, List.getElem?_eq_getElem (by omega)]
      rfl
  refine ls_pass (LT.eq (lt_or (lt_not (lt_refused (g_fn rfl) (evs_cons ev_int (evs_cons (ev_name rfl) (evs_cons ev_str (evs_cons ev_int evs_nil)))) (ref4 (n := 3) (i := 0) (by decide)) (by rfl)))
    fun _ => lt_or (lt_not (lt_refused (g_fn rfl) (evs_cons ev_int (evs_cons (ev_name rfl) (evs_cons ev_str (evs_cons ev_int evs_nil)))) (ref4 (n := 3) (i := 1) (by decide)) (by rfl)))
    fun _ => lt_or (lt_not (lt_refused (g_fn rfl) (evs_cons ev_int (evs_cons (ev_name rfl) (evs_cons ev_str (evs_cons ev_int evs_nil)))) (ref4 (n := 3) (i := 2) (by decide)) (by rfl)))
    fun _ => lt_or (lt_not (lt_refused (g_fn rfl) (evs_cons ev_int (evs_cons (ev_name rfl) (evs_cons ev_str (evs_cons ev_int evs_nil)))) (ref4 (n := 3) (i := 3) (by decide)) (by rfl))) fun _ => lt_or_nil) rfl) ?_
  exact h
end
end Mine

/-! ## P80 -/
namespace Mine
/-! # Paths as texts -/
noncomputable def strokes (mark : Str) : List Int → Str
  | [] => Str.ofString ""
  | i :: r => "/" ++ word i mark ++ strokes mark r
theorem sg_empty : sg (Str.ofString "") = [] := rfl
theorem str_nil (x : Str) : x ++ Str.ofString "" = x := sg_ext (by rw [sg_app, sg_empty, List.append_nil])
theorem join_nil_strokes (mark : Str) : ∀ is : List Int, Txt.join (Str.ofString "") (is.map fun i => "/" ++ word i mark) = strokes mark is
  | [] => by rw [txt_join]; rfl
  | [i] => by rw [txt_join]; show "/" ++ word i mark = "/" ++ word i mark ++ Str.ofString ""; rw [str_nil]
  | i :: j :: r => by
    have ih := join_nil_strokes mark (j :: r)
    rw [txt_join] at ih ⊢
    show ("/" ++ word i mark) ++ Str.ofString "" ++ Str.join (Str.ofString "") ((j :: r).map fun i => "/" ++ word i mark) = "/" ++ word i mark ++ strokes mark (j :: r)
    rw [ih, str_nil]
theorem join_strokes (mark : Str) : ∀ (is : List Int) (x : Str), Txt.join (one 47) (x :: is.map fun i => word i mark) = x ++ strokes mark is
  | [], x => by rw [txt_join]; show x = x ++ Str.ofString ""; rw [str_nil]
  | i :: r, x => by
    have ih := join_strokes mark r (word i mark)
    rw [txt_join] at ih ⊢
    show x ++ one 47 ++ Str.join (one 47) (word i mark :: r.map fun i => word i mark) = x ++ ("/" ++ word i mark ++ strokes mark r)
    rw [ih, show Str.ofString "/" = one 47 from rfl]
    simp only [str_assoc]
theorem steps_strokes : ∀ (is : List Int) (s : Str), steps s is = s ++ strokes "h" is
  | [], s => by show s = s ++ Str.ofString ""; rw [str_nil]
  | i :: r, s => by
    show steps (s ++ ("/" ++ word i "h")) r = s ++ ("/" ++ word i "h" ++ strokes "h" r)
    rw [steps_strokes r]
    simp only [str_assoc]
theorem strokes_len {mark : Str} (hm : mark.length ≤ 1) : ∀ {is : List Int}, (∀ i ∈ is, 0 ≤ i ∧ i < 2 * HARD) → (strokes mark is).length ≤ 15 * is.length
  | [], _ => by show (Str.ofString "").length ≤ _; exact Nat.zero_le _
  | i :: r, h => by
    have h1 := word_len (i := i) (mark := mark) (by have := h i List.mem_cons_self; unfold HARD at this; omega) hm
    have h2 := strokes_len hm (is := r) fun i hi => h i (List.mem_cons_of_mem _ hi)
    have c : (Str.ofString "/").length = 1 := rfl
    show (_ ++ _ ++ _ : Str).length ≤ _
    rw [PySem.Str.length_append, PySem.Str.length_append, List.length_cons]
    omega
theorem word_last {i : Int} {c : Nat} (h : 0 ≤ i) (hc : isMark c = true) : ∃ l g, sg (word i (one c)) = l ++ [g] ∧ g ≠ 47 := by
  have hne : sg (word i (one c)) ≠ [] := by
    rw [sg_word]
    split
    · exact digs_ne h
    · intro e; have := (List.append_eq_nil_iff.mp e).2; cases this
  refine ⟨_, _, (List.dropLast_concat_getLast hne).symm, fun e => ?_⟩
  have hm := word_range (mark := one c) h _ (List.getLast_mem hne)
  rw [e] at hm
  rcases hm with hm | hm
  · omega
  · have : 47 = c := List.mem_singleton.mp (show 47 ∈ [c] from hm)
    subst this
    cases hc
theorem strokes_last {c : Nat} (hc : isMark c = true) : ∀ (is : List Int) (x : Str) (l0 : List Nat) (g0 : Nat), (∀ i ∈ is, 0 ≤ i) → sg x = l0 ++ [g0] → g0 ≠ 47 → ∃ l g, sg (x ++ strokes (one c) is) = l ++ [g] ∧ g ≠ 47
  | [], x, l0, g0, _, hx, hg => ⟨l0, g0, by show sg (x ++ Str.ofString "") = _; rw [str_nil, hx], hg⟩
  | i :: r, x, l0, g0, h, hx, hg => by
    obtain ⟨l, g, hl, hg'⟩ := word_last (c := c) (h i List.mem_cons_self) hc
    have := strokes_last hc r (x ++ ("/" ++ word i (one c))) (sg x ++ (sg (Str.ofString "/") ++ l)) g (fun i hi => h i (List.mem_cons_of_mem _ hi)) (by rw [sg_app, sg_app, hl]; simp only [List.append_assoc]) hg'
    obtain ⟨l2, g2, h2, hg2⟩ := this
    refine ⟨l2, g2, ?_, hg2⟩
    show sg (x ++ ("/" ++ word i (one c) ++ strokes (one c) r)) = _
    rw [← h2]
    simp only [str_assoc]
theorem pathText_eq (is : List Int) (mark : Str) : pathText is mark = "m" ++ strokes mark is := join_strokes mark is (one 109)
theorem origText_eq (fp : Str) (is : List Int) (mark : Str) : origText fp is mark = fp ++ strokes mark is := join_strokes mark is fp
theorem pathText_last {is : List Int} {c : Nat} (h : ∀ i ∈ is, 0 ≤ i) (hc : isMark c = true) : ∃ l g, sg (pathText is (one c)) = l ++ [g] ∧ g ≠ 47 := by
  rw [pathText_eq]
  exact strokes_last hc is "m" [] 109 h rfl (by decide)
theorem path_rstrip {is : List Int} {c : Nat} (h : ∀ i ∈ is, 0 ≤ i) (hc : isMark c = true) : Txt.rstripChars (pathText is (one c)) (one 47) = pathText is (one c) := by
  obtain ⟨l, g, h1, h2⟩ := pathText_last h hc
  exact rstrip_none h1 h2
theorem path_rstrip1 {is : List Int} {c : Nat} (h : ∀ i ∈ is, 0 ≤ i) (hc : isMark c = true) : Txt.rstripChars (pathText is (one c) ++ "/") (one 47) = pathText is (one c) := by
  obtain ⟨l, g, h1, h2⟩ := pathText_last h hc
  rw [rstrip_one (l := l) (c := g) (by rw [sg_app, h1]; rfl) h2]
  exact sg_ext h1.symm
/-! # Octets -/
noncomputable def oct (ns : List Int) (k : Nat) : Int := N ns (19 + k) % 256
theorem oct_rng (ns : List Int) (k : Nat) : 0 ≤ oct ns k ∧ oct ns k < 256 := ⟨Int.emod_nonneg _ (by decide), Int.emod_lt_of_pos _ (by decide)⟩
noncomputable def octL (ns : List Int) : List Int := [oct ns 0, oct ns 1, oct ns 2, oct ns 3]
noncomputable def octB (ns : List Int) : List UInt8 := (octL ns).map fun n => n.toNat.toUInt8
theorem octB_arr (ns : List Int) : byteArr (octL ns) = (octB ns).toArray := rfl
noncomputable def hi4 (ns : List Int) (k : Nat) : Nat := (oct ns k).toNat / 16
noncomputable def lo4 (ns : List Int) (k : Nat) : Nat := (oct ns k).toNat % 16
theorem hi4_lt (ns : List Int) (k : Nat) : hi4 ns k < 16 := by have := oct_rng ns k; unfold hi4; omega
theorem lo4_lt (ns : List Int) (k : Nat) : lo4 ns k < 16 := by unfold lo4; omega
theorem hl4 (ns : List Int) (k : Nat) : 16 * (hi4 ns k : Int) + lo4 ns k = oct ns k := by have := oct_rng ns k; unfold hi4 lo4; omega
noncomputable def wordH (ns : List Int) : Str := hex8 (hi4 ns 0) (lo4 ns 0) (hi4 ns 1) (lo4 ns 1) (hi4 ns 2) (lo4 ns 2) (hi4 ns 3) (lo4 ns 3)
theorem oct_nat (ns : List Int) (k : Nat) : ((oct ns k).toNat.toUInt8).toNat = (oct ns k).toNat := by
  have := oct_rng ns k
  rw [Nat.toUInt8, UInt8.toNat_ofNat']
  omega
theorem hexD_C (k : Nat) : ((hexD k).toNat.toUInt8).toNat = hexC k := by
  unfold hexD hexC
  rw [Int.toNat_natCast, Nat.toUInt8, UInt8.ofNat_toNat]
theorem fp_word (ns : List Int) : fpText (octB ns) = wordH ns := by
  refine sg_ext ?_
  show ((byteArr (hexInts (octB ns))).map (·.toNat)).toList = _
  simp only [octB, octL, List.map_cons, List.map_nil, hexInts, List.flatMap_cons, List.flatMap_nil, List.append_nil, List.cons_append, List.nil_append, byteArr, Array.toList_map, oct_nat, hexD_C]
  rfl
end Mine

/-! ## P81 -/
namespace Mine
noncomputable def way (ns : List Int) : List Int := if N ns 26 % 4 == 0 then [] else pth ns
theorem pth_rng {ns : List Int} : ∀ i ∈ pth ns, 0 ≤ i ∧ i < 2 * HARD := by
  intro i hi
  obtain ⟨e, he, rfl⟩ := List.mem_map.mp hi
  rcases els_mem he with rfl | rfl | ⟨j, hj, rfl⟩
  · have := idx_rng ns; show 0 ≤ idx ns ∧ idx ns < 2 * HARD; have h2 : HARD = 2147483648 := rfl; omega
  · exact brs_rng (rnk_lt ns)
  · exact nums_rng j hj
theorem way_rng {ns : List Int} : ∀ i ∈ way ns, 0 ≤ i ∧ i < 2 * HARD := by
  unfold way
  split
  · intro i hi; cases hi
  · exact pth_rng
theorem way_len (ns : List Int) : (way ns).length ≤ 5 := by
  unfold way
  have h1 := pth_len ns
  have h2 := cnt_range ns
  split
  · simp
  · omega
theorem hx_item : ∀ k : Nat, k < 16 → fitsSsize (k : Int) = true ∧ (Txt.charAt hexText (k : Int)).isSome = true ∧ Txt.item hexText (k : Int) = one (hexC k) := by decide +kernel
theorem word_join (ns : List Int) : Txt.join (Str.ofString "") ((octB ns).map fun c => one (hexC (c.toNat / 16)) ++ one (hexC (c.toNat % 16))) = wordH ns := by
  rw [txt_join]
  refine sg_ext ?_
  simp only [octB, octL, List.map_cons, List.map_nil, Str.join, sg_app, sg_empty, oct_nat]
  rfl
noncomputable abbrev R10 (ns : List Int) : Rho := rhoM [("script", .pers (.list (ns.map .int))), ("mark", .pers (.str (one (markC ns)))), ("octets", .pers (.bytes (octB ns).toArray)), ("word", .pers (.str (wordH ns))), ("way", .pers (.list ((way ns).map .int)))]
section
variable {w : World} {n : Nat} {ns : List Int} {L : Addr} {d : PV}
theorem seg10 (hl : ns.length ≤ 63) (h : LS w 6 (eLaw L) (R10 ns) (B936.drop 39) d) : LS w 6 (eLaw L) (R7 ns) (B936.drop 36) d := by
  refine ls_cons (x_assign (d := .bytes (byteArr (octL ns))) (ev_callT (g_bytes rfl) (evs_cons (EVO.ev (ds := (octL ns).map .int) ?_) evs_nil) (bytes_ints_ ?_ (by simp [octL]))) rfl) ?_
  · show EVO w 6 _ _ _ ((List.range 4).map fun k => PV.int (oct ns k))
    refine evo_compM (xs := List.range 4) (fun k => .int (k : Int)) (fun k => .int (oct ns k)) (it_range (m := 4) (g_range rfl) ev_int (by decide)) (fun k hk C => ?_) (by simp)
    have hk4 := List.mem_range.mp hk
    exact ev_bin (ev_num (k := 19 + k) hl (by omega) rfl rfl (EV.eq (ev_bin ev_int (ev_name rfl) op_add_int) (by congr 1))) ev_int (op_mod_pos (by decide))
  · intro n hn
    simp only [octL, List.mem_cons, List.not_mem_nil, or_false] at hn
    rcases hn with rfl | rfl | rfl | rfl <;> exact oct_rng ns _
  rw [octB_arr]
  have hj : FN w 6 (.builtin "str.join") [.str (Str.ofString ""), .list ((octB ns).map fun c => .str (one (hexC (c.toNat / 16)) ++ one (hexC (c.toNat % 16))))] [] (.str (wordH ns)) := by
    have := join_ (w := w) (n := 6) (x := Str.ofString "") (xs := (octB ns).map fun c => one (hexC (c.toNat / 16)) ++ one (hexC (c.toNat % 16))) (by decide) (by
      simp only [octB, octL, List.map_cons, List.map_nil, PySem.Str.length_append, List.sum_cons, List.sum_nil, List.length_cons, List.length_nil]
      have ol : ∀ k, (one k).length = 1 := fun _ => rfl
      simp only [ol]
      decide)
    rw [word_join, List.map_map] at this
    exact this
  refine ls_cons (x_assign (d := .str (wordH ns)) (ev_meth ev_str get_join (evs_cons (EVO.ev (evo_compM (xs := octB ns) (fun c => .int c.toNat) (fun c => .str (one (hexC (c.toNat / 16)) ++ one (hexC (c.toNat % 16)))) (it_bytesL (ev_name rfl)) (fun c hc C => ?_) (by simp [octB, octL]))) evs_nil) hj) rfl) ?_
  · have hc : c.toNat < 256 := c.toNat_lt
    obtain ⟨a1, a2, a3⟩ := hx_item (c.toNat / 16) (by omega)
    obtain ⟨b1, b2, b3⟩ := hx_item (c.toNat % 16) (by omega)
    have e1 : ((c.toNat : Int) / 16) = ((c.toNat / 16 : Nat) : Int) := by omega
    have e2 : ((c.toNat : Int) % 16) = ((c.toNat % 16 : Nat) : Int) := by omega
    rw [← a3, ← b3]
    refine ev_bin (ev_char (x := hexText) ev_str (EV.eq (ev_bin (ev_name rfl) ev_int (op_div_pos (by decide) (noPylong (.inr rfl)))) (by rw [e1])) a1 a2) (ev_char (x := hexText) ev_str (EV.eq (ev_bin (ev_name rfl) ev_int (op_mod_pos (by decide))) (by rw [e2])) b1 b2) (op_add_str ?_)
    rw [a3, b3]; show 1 + 1 ≤ _; rw [sizeLine_eq]; decide
  refine ls_cons (x_assign (d := .list ((way ns).map .int)) (ev_if (c := N ns 26 % 4 == 0) (tv_cmp (ev_bin (ev_num (k := 26) hl (by decide) rfl rfl ev_int) ev_int (op_mod_pos (by decide))) ev_int cmp_eq_int) ?_) rfl) ?_
  · unfold way
    cases N ns 26 % 4 == 0
    · exact ev_name rfl
    · exact EVO.ev (ds := ([] : List Int).map .int) (evo_list evs_nil (by simp))
  exact h.less (subM_cons rfl (subM_cons rfl (subM_cons rfl (subM_cons rfl (subM_cons rfl subM_nil)))))
/-- ''.join(['/' + _law_word(one, mark) for one in way]) -/
theorem join_way {m : Nat} {mk : Str} (hm : mk.length ≤ 1) : FN w m (.builtin "str.join") [.str (Str.ofString ""), .list ((way ns).map fun i => .str ("/" ++ word i mk))] [] (.str (strokes mk (way ns))) := by
  have hwl := way_len ns
  have := join_ (w := w) (n := m) (x := Str.ofString "") (xs := (way ns).map fun i => "/" ++ word i mk) (by decide) (by
    have := sum_le (xs := (way ns).map fun i => "/" ++ word i mk) (m := 15) (fun x hx => by
      obtain ⟨i, hi, rfl⟩ := List.mem_map.mp hx
      have h1 := word_len (i := i) (mark := mk) (by have := way_rng i hi; unfold HARD at this; omega) hm
      have c : (Str.ofString "/").length = 1 := rfl
      rw [PySem.Str.length_append]; omega)
    rw [List.length_map] at this ⊢; omega)
  rw [join_nil_strokes, List.map_map] at this
  exact this
theorem ev_stroke {env : Env} {ρ : Rho} {m : Nat} {mk : Str} {i : Int} {p1 p2 p3 p4 p5 : Pos} {k : Nat} {e : Expr} (hi : 0 ≤ i ∧ i < 2 * HARD) (hm : mk.length ≤ 1) (hx : ρ "one" = some (.pers (.int i))) (he : EV w (m + 1) env ρ e (.str mk)) (hf : env.kindOf "_law_word" = some .globalImplicit)
    (hs1 : starEach [.Name "one" p3, e] env = (false, eval (.Name "one" p3) env) :: starEach [e] env := by rfl) (hs2 : starEach [e] env = (false, eval e env) :: starEach [] env := by rfl) (hpl : (backTo p4 (starEach [e] env)).any (·.1) = false := by rfl) :
    EV w (m + 1) env ρ (.BinOp (.Constant (.str "/") k p1) .Add (.Call (.Name "_law_word" p2) [.Name "one" p3, e] [] p4) p5) (.str ("/" ++ word i mk)) := by
  have hb : i.natAbs < 10 ^ 11 := by unfold HARD at hi; omega
  refine ev_bin ev_str (ev_call (g_fn hf (by rfl)) (evs_cons (ev_name hx) (evs_cons he evs_nil hs2) hs1) ((fn_word hb hm).le (by omega)) (by rfl) hs1 hpl) (op_add_str ?_)
  have h1 := word_len (i := i) (mark := mk) hb hm
  have c : (Str.ofString "/").length = 1 := rfl
  rw [sizeLine_eq]; omega
end
end Mine

/-! ## P82 -/
namespace Mine
section
variable {w : World} {n : Nat} {ns : List Int} {L : Addr} {d : PV}
theorem oct_back (ns : List Int) : byteArr [16 * (hi4 ns 0 : Int) + lo4 ns 0, 16 * (hi4 ns 1 : Int) + lo4 ns 1, 16 * (hi4 ns 2 : Int) + lo4 ns 2, 16 * (hi4 ns 3 : Int) + lo4 ns 3] = (octB ns).toArray := by
  rw [hl4, hl4, hl4, hl4]; rfl
/-- ''.join(['/' + _law_word(one, mark) for one in way]) in the law's frame -/
theorem seg11 : LS w 6 (eLaw L) (R10 ns) (B936.drop 39) (.bool true) := by
  have hwl := way_len ns
  have hwr := way_rng (ns := ns)
  have hw0 : ∀ i ∈ way ns, 0 ≤ i := fun i hi => (hwr i hi).1
  have hm := mark_is ns
  have hsm := strokes_len (mark := one (markC ns)) (one_len _) hwr
  have hsh := strokes_len (mark := Str.ofString "h") (by decide) hwr
  have c8 : (wordH ns).length = 8 := rfl
  have cm : (Str.ofString "m").length = 1 := rfl
  have c1 : (Str.ofString "/").length = 1 := rfl
  have hpt : pathText (way ns) (one (markC ns)) = "m" ++ strokes (one (markC ns)) (way ns) := pathText_eq _ _
  have hpl : (pathText (way ns) (one (markC ns))).length ≤ 100000 := by rw [hpt, PySem.Str.length_append]; omega
  have hot : origText (wordH ns) (way ns) (one (markC ns)) = wordH ns ++ strokes (one (markC ns)) (way ns) := origText_eq _ _ _
  have hol : (origText (wordH ns) (way ns) (one (markC ns))).length ≤ 100000 := by rw [hot, PySem.Str.length_append]; omega
  refine ls_cons (x_assign (d := origin (octB ns).toArray (way ns)) (ev_call (g_fn rfl) (evs_cons (ev_name rfl) (evs_cons (ev_name rfl) evs_nil)) (fn_origin.le (by decide)) (o_keep w)) rfl) ?_
  have hso : FN w 6 (.type "str") [origin (octB ns).toArray (way ns)] [] (.str (wordH ns ++ strokes "h" (way ns))) := by
    have := (fn_str_origin (w := w) (l := octB ns) (is := way ns) (by omega) hwr (by simp [octB, octL]) (by simp [octB, octL])).le (m := 6) (by decide)
    rw [fp_word, steps_strokes] at this
    exact this
  refine ls_pass (LT.eq (TV.lt (tv_cmp (ev_callT (g_str rfl) (evs_cons (ev_name rfl) evs_nil) hso) (ev_bin (ev_name rfl) (ev_meth ev_str get_join (evs_cons (EVO.ev (evo_compM (xs := way ns) PV.int (fun i => .str ("/" ++ word i "h")) (it_list (ev_name rfl)) (fun i hi C => ev_stroke (hwr i hi) (by decide) rfl ev_str rfl) (by omega))) evs_nil) (join_way (by decide))) (op_add_str (by rw [sizeLine_eq]; omega))) cmp_ne_strS)) rfl) ?_
  have hfr : FCK w 6 (.ref 793) [.raw (.ref 806), .str (wordH ns ++ strokes (one (markC ns)) (way ns))] [] (origin (octB ns).toArray (way ns)) := by
    have := (fn_origin_from (w := w) (hi4_lt ns 0) (lo4_lt ns 0) (hi4_lt ns 1) (lo4_lt ns 1) (hi4_lt ns 2) (lo4_lt ns 2) (hi4_lt ns 3) (lo4_lt ns 3) (is := way ns) (c := markC ns) (by omega) hwr hm (path_rstrip hw0 hm) hpl hol).le (m := 6) (by decide)
    rw [oct_back] at this
    rw [← hot]
    exact this
  refine ls_cons (x_assign (d := origin (octB ns).toArray (way ns)) (ev_cm (g_fn rfl) (cm_origin w) (evs_cons (ev_bin (ev_name rfl) (ev_meth ev_str get_join (evs_cons (EVO.ev (evo_compM (xs := way ns) PV.int (fun i => .str ("/" ++ word i (one (markC ns)))) (it_list (ev_name rfl)) (fun i hi C => ev_stroke (hwr i hi) (one_len _) rfl (ev_name rfl) rfl) (by omega))) evs_nil) (join_way (one_len _))) (op_add_str (by rw [sizeLine_eq]; omega))) evs_nil) kw_nil hfr) rfl) ?_
  refine ls_ret (x_return ?_)
  refine ev_and (a := .bool true) (ev_cmp (ev_tuple (evs_cons (ev_attrE (attr := none) (ev_name rfl) rfl (by intro u h; cases h) (o_plain1 w) (o_dict w) (o_find1 w) rfl) (evs_cons (ev_attrE (attr := none) (ev_name rfl) rfl (by intro u h; cases h) (o_plain2 w) (o_dict w) (o_find2 w) rfl) evs_nil)) (by simp))
    (ev_tuple (evs_cons (ev_name rfl) (evs_cons (ev_name rfl) evs_nil)) (by simp)) cmp_eq_fp) truth_bool ?_
  have hpp : FN w 6 (.ref 764) [.str ("m" ++ strokes (one (markC ns)) (way ns) ++ "/")] [] (.list ((way ns).map .int)) := by
    rw [← hpt]
    exact (fn_path (by omega) hwr hm (by rw [PySem.Str.length_append, hpt, PySem.Str.length_append]; omega) (path_rstrip1 hw0 hm) hpl).le (by decide)
  refine ev_and (a := .bool true) (ev_cmp (ev_call (g_fn rfl) (evs_cons (ev_bin (ev_bin ev_str (ev_meth ev_str get_join (evs_cons (EVO.ev (evo_compM (xs := way ns) PV.int (fun i => .str ("/" ++ word i (one (markC ns)))) (it_list (ev_name rfl)) (fun i hi C => ev_stroke (hwr i hi) (one_len _) rfl (ev_name rfl) rfl) (by omega))) evs_nil) (join_way (one_len _))) (op_add_str (by rw [sizeLine_eq]; omega)))
    ev_str (op_add_str (by rw [sizeLine_eq, PySem.Str.length_append]; omega))) evs_nil) hpp (by rfl)) (ev_name rfl) (cmp_eq_same dat_ints)) truth_bool ?_
  have hps : FN w 6 (.ref 772) [.list ((way ns).map .int)] [] (.str ("m" ++ strokes "h" (way ns))) := by
    have := (fn_path_none (w := w) (is := way ns) (by omega) hwr).le (m := 6) (by decide)
    rw [steps_strokes] at this
    exact this
  refine ev_one (EV.eq (ev_cmp (ev_call (g_fn rfl) (evs_cons (ev_name rfl) evs_nil) hps (by rfl)) (ev_bin ev_str (ev_meth ev_str get_join (evs_cons (EVO.ev (evo_compM (xs := way ns) PV.int (fun i => .str ("/" ++ word i "h")) (it_list (ev_name rfl)) (fun i hi C => ev_stroke (hwr i hi) (by decide) rfl ev_str rfl) (by omega))) evs_nil) (join_way (by decide))) (op_add_str (by rw [sizeLine_eq]; omega))) cmp_eq_str) (by simp))
end
end Mine

/-! ## HB -/
set_option maxHeartbeats 4000000
namespace Mine
theorem pre : ∀ (w : World) (os : OsState), topGo treeTable pw w 11 ann0 12 ⟨boot_heap w.params, #[], boot_drawn, boot_toks, os⟩ (topStub pw) = some ((Sb w os).abs, ⟨denote treeTable cE, cE, p0, FB⟩) := by
  intro w os
  kernel_rfl
theorem get_abs (t : BT) (n : Nat) (life : Life) (a : Nat) : (absHeap t n life).get? a = match Nat.blt a n with
    | true => alive ((t.get a).getD default)
    | false => none := by
  unfold Heap.get?
  rw [absHeap_at]
  cases h : Nat.blt a n with
  | true =>
    have h' : a < n := by have := Nat.le_of_ble_eq_true h; omega
    rw [if_pos h']
    dsimp only
    generalize (t.get a).getD default = o
    show (match some o with | some ⟨_, _, .freed, _⟩ => none | o => o) = alive o
    obtain ⟨c, d, dt, sl⟩ := o
    cases dt <;> rfl
  | false =>
    have h' : ¬ a < n := fun q => by
      have : Nat.blt a n = true := Nat.ble_eq_true_of_le q
      rw [h] at this; cases this
    rw [if_neg h']
theorem fin_gen (tb : String → Option Builtin) (p : Program) (w : World) (m₀ : Nat) (ann : Option Value) (c : Code) (pos q : Pos) (s : Shared) : topRun tb p w m₀ ann 2 s ⟨doneF .next, c, pos, [topFrame q]⟩ = some s := by
  obtain ⟨h, g, d, k, os⟩ := s
  rfl
theorem run_gen {tb : String → Option Builtin} {p : Program} {w : World} {m₀ : Nat} {ann : Option Value} {b : List Stmt} {env : Env} {pos pos' q : Pos} {n₁ n₂ n₃ : Nat} {s₀ s₁ s₂ : Shared} {t₀ : Thread}
    (h1 : topGo tb p w m₀ ann n₁ s₀ t₀ = some (s₁, ⟨denote tb (.body b env), .body b env, pos, [topFrame q]⟩))
    (h2 : segRun tb p w m₀ ann 1 n₂ s₁ (blockOf b env (.body b env) pos [topFrame q]) = some (.next, s₁, .body b env, pos))
    (h3 : segRun tb p w m₀ ann 1 n₃ s₁ (piecesOf b env (.body b env) pos [topFrame q]) = some (.next, s₂, .body b env, pos')) :
    topRun tb p w m₀ ann (n₁ + (n₂ + (n₃ + 2))) s₀ t₀ = some s₂ := by
  have r0 : topRun tb p w m₀ ann (n₃ + 2) s₁ (restOf (b ++ []) env (.body b env) pos [topFrame q]) = some s₂ :=
    piece_app (l := b) (rest := []) h3 (piece_nil (fin_gen tb p w m₀ ann _ _ _ _))
  rw [List.append_nil] at r0
  exact go_top h1 (piece_block h2 r0)
theorem left_gen {p q : Program} {loose : List Str} {Xt : Shared → Bool} {α : Type} {Yf : Shared → α} {Ya : World → α} {N M : Nat} {g0 : Bool} {H₀ : Params → Heap} {gs₀ : Array GenState} {d₀ : Drawn} {k₀ m₀ : Nat} {ann : Option Value}
    (open_ : ∀ w : World, (fencedOpening treeTable p w N).map (fun s => (s.heap, s.gens, s.drawn, s.toks)) = some (H₀ w.params, gs₀, d₀, k₀))
    (size : ∀ w : World, ((H₀ w.params).isNs mainGlobals && gs₀.size == 0, (H₀ w.params).objs.size, (H₀ w.params).nsMap mainGlobals "__annotations__") = (true, m₀, ann))
    (run : ∀ (w : World) (os : OsState), ∃ s, topRun treeTable p w m₀ ann M ⟨H₀ w.params, gs₀, d₀, k₀, os⟩ (topStub p) = some s ∧
      (staticsOk (importedModules p.main.body) (H₀ w.params) s.heap && namesBound p s.heap && gensDone s && laidKept (H₀ w.params) s.heap) = true ∧
      openSeen q loose (importedModules p.main.body) Xt g0 s = openGood q loose ∧ Yf s = Ya w) (le : Nat.ble M N = true) : LeftO p q loose Xt Yf Ya N g0 := fun w => by
  obtain ⟨⟨h, gs, d, k, os⟩, e, e'⟩ := Option.map_eq_some_iff.mp (open_ w)
  obtain ⟨rfl, rfl, rfl, rfl⟩ : h = H₀ w.params ∧ gs = gs₀ ∧ d = d₀ ∧ k = k₀ := by simpa using e'
  obtain ⟨z1, z2, z3⟩ : _ ∧ _ ∧ _ := by simpa only [Prod.mk.injEq] using size w
  obtain ⟨s, r, l1, l2, l3⟩ := run w os
  have r := topRun_mono (N - M) _ _ _ _ r
  rw [show M + (N - M) = N by have := Nat.le_of_ble_eq_true le; omega] at r
  have t : topFrom treeTable p w N ⟨H₀ w.params, gs, d, k, os⟩ = some s := by
    unfold topFrom
    dsimp only
    rw [z1, z2, z3, r]
    show (match staticsOk (importedModules p.main.body) (H₀ w.params) s.heap && namesBound p s.heap && gensDone s && laidKept (H₀ w.params) s.heap with | true => _ | false => _) = _
    rw [l1]
  unfold openEnds
  rw [e]
  show (topFrom treeTable p w N _).map _ = _
  rw [t]
  exact congrArg some (Prod.ext l2 l3)
theorem opens : opening pw = plainProg pw.main.scope.names := by kernel_rfl
theorem size0 : ∀ w : World, ((boot_heap w.params).isNs mainGlobals && (#[] : Array GenState).size == 0, (boot_heap w.params).objs.size, (boot_heap w.params).nsMap mainGlobals "__annotations__") = (true, 11, ann0) := by
  intro w
  kernel_rfl
theorem run0 (w : World) (os : OsState) : ∃ s, topRun treeTable pw w 11 ann0 (12 + (1 + (8100 + 2))) ⟨boot_heap w.params, #[], boot_drawn, boot_toks, os⟩ (topStub pw) = some s ∧
      G1 w s = true ∧ G2 s = openGood qv loose ∧ G3 s = (K w.params).map fun p => some p.2 := by
  obtain ⟨⟨f, s', c, p'⟩, hr, hv⟩ := Option.map_eq_some_iff.mp (congrFun (main1 w) os)
  simp only [Prod.mk.injEq] at hv
  obtain ⟨rfl, rfl, rfl, l1, l2, l3⟩ := hv
  refine ⟨s'.abs, run_gen (pre w os) (blk w os) (segRun_of hr), l1, l2, Eq.trans ?_ l3⟩
  show Kas.map _ = Kas.map _
  refine List.map_congr_left fun a _ => ?_
  exact get_abs _ _ _ a
theorem left : LeftO pw qv loose Xt G3 (fun w => (K w.params).map fun p => some p.2) 20000 :=
  left_gen (boot_open opens (by decide) fun s => rfl) size0 run0 rfl
noncomputable def dlaw : DefRec := ⟨Str.ofString "law", fA (nth 37), fB (nth 37), fS (nth 37), pE⟩
theorem hIn : ∀ P, Kas = (K P).map (·.1) := fun P => rfl
theorem well0 : Fast.tw9446332074065402090 PySem.Challenge.rw_kk0015_01 = true := by decide +kernel
theorem well : PySem.Challenge.rw_kk0015_01.wellSaid = true := (congrFun Fast.te9446332074065402090 _).trans well0
set_option maxHeartbeats 8000000 in
theorem holds_of (call : WalkO qv loose (XL qv []) (kHook K Kas hIn).says rwr dlaw [] fun f vs => PySem.call f vs) : PySem.Challenge.rw_kk0015_01.Holds := by
  refine holds_law well fun said => ?_
  refine holds_open (q := qv) (loose := loose) (Xt := Xt) (XP := XL qv []) (Yf := (kHook K Kas hIn).obs) (Ya := (kHook K Kas hIn).val) (YP := (kHook K Kas hIn).says) (N := 20000) (d := dlaw) (kwd := [])
    left (kHook K Kas hIn).of (kHook K Kas hIn).keeps (fun s e => xl_of s (Bool.and_eq_true_iff.mp e).1) XL.keeps ?h1 ?h2 ?h3 (fun s e => recFacts_of (Bool.and_eq_true_iff.mp e).2) ?h4 said ?h5 ?h6 ?h7 call
  case h1 => kernel_rfl
  case h2 => kernel_rfl
  case h3 => kernel_rfl
  case h4 => rfl
  case h5 => decide +kernel
  case h6 => exact ⟨rfl, rfl, rfl, rfl, rfl, by decide +kernel⟩
  case h7 => w_witness2
end Mine

/-! ## P83 -/
set_option maxHeartbeats 400000
namespace Mine
theorem law_body {w : World} {ns : List Int} {L : Addr} (hl : ns.length ≤ 63) : LS w 6 (eLaw L) (R0 ns) B936 (.bool true) :=
  seg1 (n := 5) hl (seg2 (n := 5) hl (seg3a (n := 5) hl (seg3b (n := 5) (seg3c (n := 5) (seg3d (n := 4) (seg4 hl (seg5 hl (seg6 hl (seg7 hl (seg8 hl (seg9 hl (seg10 hl seg11))))))))))))
theorem K_law (w : World) : (K w.params).lookup 936 = some (o936 w.params) := by rfl
/-- ints that were laid -/
theorem ints_laid {R : WRecords} {xs : List WData} (h : WShape.hasItems R xs .int = true) : ∃ ns : List Int, xs = ns.map .int := by
  induction xs with
  | nil => exact ⟨[], rfl⟩
  | cons a r ih =>
    simp only [WShape.hasItems, Bool.and_eq_true] at h
    obtain ⟨ns, rfl⟩ := ih h.2
    cases a <;> simp [WShape.has, WShape.arms] at h
    rename_i i
    exact ⟨i :: ns, rfl⟩
theorem ints_rep {P : Params} {h : Heap} {q : Gh} {ns : List Int} : ∀ {vs : List Value}, WellAll P h vs (ns.map .int) → RepL q vs (ns.map .int) := by
  induction ns with
  | nil =>
    intro vs x
    cases x
    exact .nil
  | cons i r ih =>
    intro vs x
    cases x with
    | cons a b =>
      cases a
      exact .cons (.int i _) (ih b)
theorem list_laid {R : WRecords} {d : WData} (h : WShape.has R d (.list .int) = true) : ∃ ns : List Int, d = .list (ns.map .int) := by
  cases d <;> simp [WShape.has, WShape.arms] at h
  rename_i xs
  obtain ⟨ns, rfl⟩ := ints_laid h
  exact ⟨ns, rfl⟩
theorem law_args {args : List WData} (h : rwr.claim.pre args = true) : ∃ ns : List Int, args = [.list (ns.map .int)] ∧ ns.length ≤ 63 := by
  obtain ⟨h1, h2⟩ := pre_splitW h
  have h1 : WShape.hasAll rwr.records args [.list .int] = true := h1
  obtain ⟨d, r, rfl, hd, hr⟩ := hasAllW_cons h1
  have := hasAllW_nil hr
  subst this
  obtain ⟨ns, rfl⟩ := list_laid hd
  refine ⟨ns, rfl, ?_⟩
  have h2 : WTm.holds rwr.records (.and (.not (.lt (.lit (.int 63)) (.len (.arg 0)))) (.lit (.bool true))) { args := [.list (ns.map .int)] } = true := h2
  have hv := w_and (R := rwr.records) (e := { args := [.list (ns.map .int)] }) (w_not (w_lt (w_lit (d := .int 63)) (w_len_list (w_arg (i := 0) rfl)))) (w_lit (d := .bool true))
  unfold WTm.holds at h2
  rw [hv] at h2
  rw [List.length_map] at h2
  by_cases hk : ((63 : Int) < (ns.length : Int))
  · rw [decide_eq_true hk] at h2; cases h2
  · omega
theorem law_post {args ds : List WData} : rwr.claim.post args (.bool true) ds = true := by
  show (WShape.has rwr.records (.bool true) .bool && WTm.holds rwr.records (.eq .res (.lit (.bool true))) { args := args, res := some (.bool true), after := ds }) = true
  have hv := w_eq_bool (R := rwr.records) (e := { args := args, res := some (.bool true), after := ds }) (a := .res) (b := .lit (.bool true)) (k := true) (l := true) (w_res rfl) w_lit
  unfold WTm.holds
  rw [hv]
  simp [WShape.has, WShape.arms]
theorem call_law : WalkO qv loose (XL qv []) (kHook K Kas hIn).says rwr dlaw [] fun f vs => PySem.call f vs := by
  intro w s₀ s₁ mg mb G Y fa o pm cd doc dV kV ho hd hcd hD hmg hg args vals as hpre hlay hrd hwl hlo
  obtain ⟨ns, rfl, hl⟩ := law_args hpre
  have X : (K w.params).In s₁.heap := kIn_of Y
  have T := topRead_of G.T
  have e1 : mg "law" = some (.ref 936) := mg_of X T.g (by rfl)
  have e2 : (some (Value.ref fa)) = some (.ref 936) := hmg.symm.trans e1
  have e3 : fa = 936 := by injection e2 with e2; injection e2
  subst e3
  cases hwl with
  | cons hv hr =>
    cases hr
    cases hv with
    | @list l vs xs hl1 hl2 =>
      let q : Gh := put (fun _ => none) l (listOf vs.toArray 0)
      have sub : ∀ b o, q b = some o → s₁.heap.get? b = some o := fun b o e => by
        by_cases hb : b = l
        · subst hb
          have : q b = some (listOf vs.toArray 0) := put_self
          rw [this] at e; cases e; exact hl1
        · have : q b = none := put_ne hb
          rw [this] at e; cases e
      have B : Bs w s₁.heap q := ⟨X, ⟨mg, mb, T⟩, sub⟩
      have rep : Rep q (.ref l) (.list (ns.map .int)) := .list put_self (ints_rep hl2)
      have R : Room 7 callerA := ⟨rfl, by decide, by decide⟩
      have hb : ∃ binds, BindsTo s₁ (fnOf (Str.ofString "law") (Str.ofString "law") A936 B936 S936 .none .none .none (.str (Str.ofString "law_kk0015_01") 1369) none (.ref 935) .none) ⟨[.ref l], []⟩ binds ∧ RepB q binds [("script", .list (ns.map .int))] :=
        ⟨_, BindsTo.of_eq rfl, .cons rep .nil⟩
      obtain ⟨binds, hb1, hb2⟩ := hb
      refine wpAny_call (codeAny_frame (K_law w) (by rfl) hb1 hb2 (by rfl) (by show (["script"] : List Str).Nodup; decide) rfl rfl rfl R B B (Grow.refl B.sub) fun L h₁ tk _ F RR k₁ => ?_)
      have hfr : callerA.frames = some [] := rfl
      have hfr' := Around.frames_deeper (env := eLaw L) hfr
      refine ((law_body hl).less (ρ := rho0 [("script", .list (ns.map .int))]) (subM_cons rfl subM_nil)).run _ { s₁ with heap := h₁, toks := tk } q s₁.heap q _ _ RR hfr' F fun h' tk' q' v rv g => ?_
      cases rv
      refine ⟨.inl ⟨_, .bool true, [], rfl, fun cls => rfl, .bool true, ?_, fun _ => ⟨.nil, fun a ha => by cases ha⟩⟩, .of_keep g.keep, rfl, ?_⟩
      · exact law_post
      · exact .of_eq hg
theorem law_holds : PySem.Challenge.rw_kk0015_01.Holds := holds_of call_law
end Mine

theorem PySem.Challenge.cw_kk0015_01_holds : PySem.Challenge.rw_kk0015_01.Holds :=
  Mine.law_holds
