import PyProof.Rows.All
import Wide.All
import OpenK.AllK
import Wide.FinOn
import Lean
import PySem.Challenge.RW_iw0015_02
open PySem PySem.W PyProof.Rows
set_option linter.all false
set_option linter.unusedSectionVars false
set_option Elab.async false
set_option maxRecDepth 100000
set_option maxHeartbeats 4000000
namespace Mine
noncomputable def at1 (i : Nat) : Stmt := match PySem.Challenge.pw_iw0015_02.main.body.drop i with | s :: _ => s | [] => .Pass ⟨0, 0, 0, 0⟩
noncomputable def at2 (i j : Nat) : Stmt := match at1 i with | .ClassDef _ _ _ b _ _ _ _ _ _ _ => (match b.drop j with | s :: _ => s | [] => .Pass ⟨0, 0, 0, 0⟩) | _ => .Pass ⟨0, 0, 0, 0⟩
noncomputable def fA : Stmt → Arguments | .FunctionDef _ a _ _ _ _ _ _ _ _ => a | _ => { posonlyargs := [], args := [], vararg := none, kwonlyargs := [], kw_defaults := [], kwarg := none, defaults := [] }
noncomputable def fB : Stmt → List Stmt | .FunctionDef _ _ b _ _ _ _ _ _ _ => b | _ => []
noncomputable def fS : Stmt → Scope | .FunctionDef _ _ _ _ _ _ s _ _ _ => s | _ => { kind := .module, names := [], isGenerator := false, isCoroutine := false }
noncomputable def KF (P : Params) : Frag := 
  (nat_lit 2, ⟨.none, none, (.dict (List.toArray [⟨PyData.keyHash P (Str.ofString "type.__subclasses__.Exception.0"), .str (Str.ofString "type.__subclasses__.Exception.0") 377, (.int 128 0)⟩, ⟨PyData.keyHash P (Str.ofString "type.__subclasses__.Exception.n"), .str (Str.ofString "type.__subclasses__.Exception.n") 378, (.int 2 0)⟩, ⟨PyData.keyHash P (Str.ofString "type.__subclasses__.Exception.1"), .str (Str.ofString "type.__subclasses__.Exception.1") 425, (.int 162 0)⟩]) 3), #[]⟩) ::
  (nat_lit 3, ⟨(.type "dict"), none, (.dict (List.toArray [⟨PyData.keyHash P (Str.ofString "__name__"), .str (Str.ofString "__name__") 165, (.str (Str.ofString "law_iw0015_02") 1247)⟩, ⟨PyData.keyHash P (Str.ofString "__doc__"), .str (Str.ofString "__doc__") 166, .none⟩, ⟨PyData.keyHash P (Str.ofString "__package__"), .str (Str.ofString "__package__") 167, .none⟩, ⟨PyData.keyHash P (Str.ofString "__loader__"), .str (Str.ofString "__loader__") 168, (.builtin "__main__.__loader__#opaque")⟩, ⟨PyData.keyHash P (Str.ofString "__spec__"), .str (Str.ofString "__spec__") 169, .none⟩, ⟨PyData.keyHash P (Str.ofString "__annotations__"), .str (Str.ofString "__annotations__") 170, (.ref 6)⟩, ⟨PyData.keyHash P (Str.ofString "__builtins__"), .str (Str.ofString "__builtins__") 171, (.ref 4)⟩, ⟨PyData.keyHash P (Str.ofString "__file__"), .str (Str.ofString "__file__") 173, (.str (Str.ofString "/claim/cut.py") 172)⟩, ⟨PyData.keyHash P (Str.ofString "__cached__"), .str (Str.ofString "__cached__") 174, .none⟩, ⟨PyData.keyHash P (Str.ofString "_wall"), .str (Str.ofString "_wall") 193, (.ref 21)⟩, ⟨PyData.keyHash P (Str.ofString "DosTime"), .str (Str.ofString "DosTime") 228, (.ref 38)⟩, ⟨PyData.keyHash P (Str.ofString "DosDateTime"), .str (Str.ofString "DosDateTime") 346, (.ref 104)⟩, ⟨PyData.keyHash P (Str.ofString "PyFATException"), .str (Str.ofString "PyFATException") 380, (.ref 128)⟩, ⟨PyData.keyHash P (Str.ofString "BrokenLFNEntryException"), .str (Str.ofString "BrokenLFNEntryException") 396, (.ref 141)⟩, ⟨PyData.keyHash P (Str.ofString "NotAFatEntryException"), .str (Str.ofString "NotAFatEntryException") 428, (.ref 162)⟩, ⟨PyData.keyHash P (Str.ofString "errno"), .str (Str.ofString "errno") 478, (.ref 175)⟩, ⟨PyData.keyHash P (Str.ofString "FAT_OEM_ENCODING"), .str (Str.ofString "FAT_OEM_ENCODING") 480, (.str (Str.ofString "latin-1") 479)⟩, ⟨PyData.keyHash P (Str.ofString "decoded"), .str (Str.ofString "decoded") 486, (.ref 184)⟩, ⟨PyData.keyHash P (Str.ofString "decoded16"), .str (Str.ofString "decoded16") 492, (.ref 189)⟩, ⟨PyData.keyHash P (Str.ofString "init_check"), .str (Str.ofString "init_check") 499, (.ref 196)⟩, ⟨PyData.keyHash P (Str.ofString "FATDirectoryEntry"), .str (Str.ofString "FATDirectoryEntry") 916, (.ref 482)⟩, ⟨PyData.keyHash P (Str.ofString "FATLongDirectoryEntry"), .str (Str.ofString "FATLongDirectoryEntry") 1038, (.ref 557)⟩, ⟨PyData.keyHash P (Str.ofString "EightDotThree"), .str (Str.ofString "EightDotThree") 1246, (.ref 680)⟩, ⟨PyData.keyHash P (Str.ofString "_law_field"), .str (Str.ofString "_law_field") 1258, (.ref 691)⟩, ⟨PyData.keyHash P (Str.ofString "_law_name"), .str (Str.ofString "_law_name") 1264, (.ref 696)⟩, ⟨PyData.keyHash P (Str.ofString "_law_low"), .str (Str.ofString "_law_low") 1274, (.ref 703)⟩, ⟨PyData.keyHash P (Str.ofString "_law_laid"), .str (Str.ofString "_law_laid") 1295, (.ref 710)⟩, ⟨PyData.keyHash P (Str.ofString "_law_sum"), .str (Str.ofString "_law_sum") 1304, (.ref 717)⟩, ⟨PyData.keyHash P (Str.ofString "_law_short"), .str (Str.ofString "_law_short") 1312, (.ref 724)⟩, ⟨PyData.keyHash P (Str.ofString "_law_entry"), .str (Str.ofString "_law_entry") 1322, (.ref 731)⟩, ⟨PyData.keyHash P (Str.ofString "_law_sized"), .str (Str.ofString "_law_sized") 1331, (.ref 738)⟩, ⟨PyData.keyHash P (Str.ofString "_law_is"), .str (Str.ofString "_law_is") 1339, (.ref 745)⟩, ⟨PyData.keyHash P (Str.ofString "_law_bits"), .str (Str.ofString "_law_bits") 1345, (.ref 750)⟩, ⟨PyData.keyHash P (Str.ofString "_law_part"), .str (Str.ofString "_law_part") 1355, (.ref 757)⟩, ⟨PyData.keyHash P (Str.ofString "_law_holds"), .str (Str.ofString "_law_holds") 1365, (.ref 764)⟩, ⟨PyData.keyHash P (Str.ofString "law"), .str (Str.ofString "law") 1371, (.ref 769)⟩]) 36), #[]⟩) ::
  (nat_lit 34, ⟨(.type "code"), none, (.fields #[(.str (Str.ofString "__init__") 208), (.str (Str.ofString "DosTime.__init__") 209), (.str (Str.ofString "/claim/cut.py") 210), (.int 7 0), (.int 4 0), (.int 0 0), (.int 0 0), (.int 3 0), (.ref 29), (.bool true), (.int 181 0), (.ref 30), .none, (.ref 31), (.ref 32), (.ref 33), (.int 215 0), (.int 7 0), (.str (Str.ofString "/claim/cut.py") 216)]), #[]⟩) ::
  (nat_lit 35, ⟨(.type "function"), none, (.func { name := (Str.ofString "__init__"), qualname := (Str.ofString "DosTime.__init__"), params := fA (at2 2 0), body := .stmts (fB (at2 2 0)), scope := fS (at2 2 0), globals := 3, closure := [], defaults := .none, kwdefaults := .none, doc := .none, pyModule := (.str (Str.ofString "pyfatfs.DosDateTime") 194), annotations := none, code := (.ref 34), closureTuple := .none, builtins := 0 }), #[]⟩) ::
  (nat_lit 37, ⟨(.type "dict"), none, (.dict (List.toArray [⟨PyData.keyHash P (Str.ofString "__module__"), .str (Str.ofString "__module__") 203, (.str (Str.ofString "pyfatfs.DosDateTime") 194)⟩, ⟨PyData.keyHash P (Str.ofString "__firstlineno__"), .str (Str.ofString "__firstlineno__") 207, (.int 5 206)⟩, ⟨PyData.keyHash P (Str.ofString "__init__"), .str (Str.ofString "__init__") 217, (.ref 35)⟩, ⟨PyData.keyHash P (Str.ofString "__static_attributes__"), .str (Str.ofString "__static_attributes__") 221, (.ref 36)⟩, ⟨PyData.keyHash P (Str.ofString "__dict__"), .str (Str.ofString "__dict__") 223, (.ref 39)⟩, ⟨PyData.keyHash P (Str.ofString "__weakref__"), .str (Str.ofString "__weakref__") 225, (.ref 40)⟩, ⟨PyData.keyHash P (Str.ofString "__doc__"), .str (Str.ofString "__doc__") 226, .none⟩]) 4), #[]⟩) ::
  (nat_lit 38, ⟨(.type "type"), none, (.cls { name := (Str.ofString "DosTime"), bases := [(.type "object")], mro := [(.ref 38), (.type "object")], ns := 37, qualname := (Str.ofString "DosTime"), hasDict := true, slotNames := [], subclasses := [], abstract := false, collection := none, hasDel := false }), #[none, none, (some (.str (Str.ofString "DosTime") 196)), (some (.str (Str.ofString "DosTime") 204)), (some (.builtin "object.__new__")), (some (.bool true))]⟩) ::
  (nat_lit 50, ⟨(.type "tuple"), none, (.seq #[(.int 0 241), (.int 0 242), (.int 0 243)] 0), #[]⟩) ::
  (nat_lit 56, ⟨(.type "code"), none, (.fields #[(.str (Str.ofString "__init__") 244), (.str (Str.ofString "DosDateTime.__init__") 245), (.str (Str.ofString "/claim/cut.py") 246), (.int 15 0), (.int 7 0), (.int 0 0), (.int 0 0), (.int 3 0), (.ref 51), (.bool true), (.int 181 0), (.ref 52), .none, (.ref 53), (.ref 54), (.ref 55), (.int 256 0), (.int 15 0), (.str (Str.ofString "/claim/cut.py") 257)]), #[]⟩) ::
  (nat_lit 57, ⟨(.type "function"), none, (.func { name := (Str.ofString "__init__"), qualname := (Str.ofString "DosDateTime.__init__"), params := fA (at2 3 0), body := .stmts (fB (at2 3 0)), scope := fS (at2 3 0), globals := 3, closure := [], defaults := (.ref 50), kwdefaults := .none, doc := .none, pyModule := (.str (Str.ofString "pyfatfs.DosDateTime") 194), annotations := none, code := (.ref 56), closureTuple := .none, builtins := 0 }), #[]⟩) ::
  (nat_lit 66, ⟨(.type "staticmethod"), (some 65), (.fields #[(.ref 64), (.bool false)]), #[]⟩) ::
  (nat_lit 73, ⟨(.type "code"), none, (.fields #[(.str (Str.ofString "serialize_date") 279), (.str (Str.ofString "DosDateTime.serialize_date") 280), (.str (Str.ofString "/claim/cut.py") 281), (.int 35 0), (.int 1 0), (.int 0 0), (.int 0 0), (.int 3 0), (.ref 68), (.bool true), (.int 181 0), (.ref 69), .none, (.ref 70), (.ref 71), (.ref 72), (.int 284 0), (.int 35 0), (.str (Str.ofString "/claim/cut.py") 285)]), #[]⟩) ::
  (nat_lit 74, ⟨(.type "function"), none, (.func { name := (Str.ofString "serialize_date"), qualname := (Str.ofString "DosDateTime.serialize_date"), params := fA (at2 3 2), body := .stmts (fB (at2 3 2)), scope := fS (at2 3 2), globals := 3, closure := [], defaults := .none, kwdefaults := .none, doc := .none, pyModule := (.str (Str.ofString "pyfatfs.DosDateTime") 194), annotations := none, code := (.ref 73), closureTuple := .none, builtins := 0 }), #[]⟩) ::
  (nat_lit 80, ⟨(.type "code"), none, (.fields #[(.str (Str.ofString "serialize_time") 287), (.str (Str.ofString "DosDateTime.serialize_time") 288), (.str (Str.ofString "/claim/cut.py") 289), (.int 39 0), (.int 1 0), (.int 0 0), (.int 0 0), (.int 3 0), (.ref 75), (.bool true), (.int 181 0), (.ref 76), .none, (.ref 77), (.ref 78), (.ref 79), (.int 292 0), (.int 39 0), (.str (Str.ofString "/claim/cut.py") 293)]), #[]⟩) ::
  (nat_lit 81, ⟨(.type "function"), none, (.func { name := (Str.ofString "serialize_time"), qualname := (Str.ofString "DosDateTime.serialize_time"), params := fA (at2 3 3), body := .stmts (fB (at2 3 3)), scope := fS (at2 3 3), globals := 3, closure := [], defaults := .none, kwdefaults := .none, doc := .none, pyModule := (.str (Str.ofString "pyfatfs.DosDateTime") 194), annotations := none, code := (.ref 80), closureTuple := .none, builtins := 0 }), #[]⟩) ::
  (nat_lit 90, ⟨(.type "staticmethod"), (some 89), (.fields #[(.ref 88), (.bool false)]), #[]⟩) ::
  (nat_lit 100, ⟨(.type "staticmethod"), (some 99), (.fields #[(.ref 98), (.bool false)]), #[]⟩) ::
  (nat_lit 103, ⟨(.type "dict"), none, (.dict (List.toArray [⟨PyData.keyHash P (Str.ofString "__module__"), .str (Str.ofString "__module__") 236, (.str (Str.ofString "pyfatfs.DosDateTime") 194)⟩, ⟨PyData.keyHash P (Str.ofString "__firstlineno__"), .str (Str.ofString "__firstlineno__") 240, (.int 13 239)⟩, ⟨PyData.keyHash P (Str.ofString "__init__"), .str (Str.ofString "__init__") 258, (.ref 57)⟩, ⟨PyData.keyHash P (Str.ofString "combine"), .str (Str.ofString "combine") 278, (.ref 66)⟩, ⟨PyData.keyHash P (Str.ofString "serialize_date"), .str (Str.ofString "serialize_date") 286, (.ref 74)⟩, ⟨PyData.keyHash P (Str.ofString "serialize_time"), .str (Str.ofString "serialize_time") 294, (.ref 81)⟩, ⟨PyData.keyHash P (Str.ofString "deserialize_date"), .str (Str.ofString "deserialize_date") 313, (.ref 90)⟩, ⟨PyData.keyHash P (Str.ofString "deserialize_time"), .str (Str.ofString "deserialize_time") 332, (.ref 100)⟩, ⟨PyData.keyHash P (Str.ofString "__static_attributes__"), .str (Str.ofString "__static_attributes__") 339, (.ref 102)⟩, ⟨PyData.keyHash P (Str.ofString "__dict__"), .str (Str.ofString "__dict__") 341, (.ref 105)⟩, ⟨PyData.keyHash P (Str.ofString "__weakref__"), .str (Str.ofString "__weakref__") 343, (.ref 106)⟩, ⟨PyData.keyHash P (Str.ofString "__doc__"), .str (Str.ofString "__doc__") 344, .none⟩]) 4), #[]⟩) ::
  (nat_lit 104, ⟨(.type "type"), none, (.cls { name := (Str.ofString "DosDateTime"), bases := [(.type "object")], mro := [(.ref 104), (.type "object")], ns := 103, qualname := (Str.ofString "DosDateTime"), hasDict := true, slotNames := [], subclasses := [], abstract := false, collection := none, hasDel := false }), #[none, none, (some (.str (Str.ofString "DosDateTime") 229)), (some (.str (Str.ofString "DosDateTime") 237)), (some (.builtin "object.__new__")), (some (.bool true))]⟩) ::
  (nat_lit 112, ⟨(.type "cell"), none, (.cell (some (.ref 128))), #[]⟩) ::
  (nat_lit 117, ⟨(.type "tuple"), none, (.seq #[.none] 0), #[]⟩) ::
  (nat_lit 118, ⟨(.type "tuple"), none, (.seq #[(.ref 112)] 0), #[]⟩) ::
  (nat_lit 124, ⟨(.type "code"), none, (.fields #[(.str (Str.ofString "__init__") 361), (.str (Str.ofString "PyFATException.__init__") 362), (.str (Str.ofString "/claim/cut.py") 363), (.int 54 0), (.int 3 0), (.int 0 0), (.int 0 0), (.int 3 0), (.ref 119), (.bool true), (.int 181 0), (.ref 120), .none, (.ref 121), (.ref 122), (.ref 123), (.int 368 0), (.int 54 0), (.str (Str.ofString "/claim/cut.py") 369)]), #[]⟩) ::
  (nat_lit 125, ⟨(.type "function"), none, (.func { name := (Str.ofString "__init__"), qualname := (Str.ofString "PyFATException.__init__"), params := fA (at2 5 0), body := .stmts (fB (at2 5 0)), scope := fS (at2 5 0), globals := 3, closure := [((Str.ofString "__class__"), 112)], defaults := (.ref 117), kwdefaults := .none, doc := .none, pyModule := (.str (Str.ofString "pyfatfs._exceptions") 347), annotations := none, code := (.ref 124), closureTuple := (.ref 118), builtins := 0 }), #[]⟩) ::
  (nat_lit 127, ⟨(.type "dict"), none, (.dict (List.toArray [⟨PyData.keyHash P (Str.ofString "__module__"), .str (Str.ofString "__module__") 356, (.str (Str.ofString "pyfatfs._exceptions") 347)⟩, ⟨PyData.keyHash P (Str.ofString "__firstlineno__"), .str (Str.ofString "__firstlineno__") 360, (.int 52 359)⟩, ⟨PyData.keyHash P (Str.ofString "__init__"), .str (Str.ofString "__init__") 370, (.ref 125)⟩, ⟨PyData.keyHash P (Str.ofString "__static_attributes__"), .str (Str.ofString "__static_attributes__") 372, (.ref 126)⟩, ⟨PyData.keyHash P (Str.ofString "__weakref__"), .str (Str.ofString "__weakref__") 375, (.ref 129)⟩, ⟨PyData.keyHash P (Str.ofString "__doc__"), .str (Str.ofString "__doc__") 376, .none⟩]) 4), #[]⟩) ::
  (nat_lit 128, ⟨(.type "type"), none, (.cls { name := (Str.ofString "PyFATException"), bases := [(.type "Exception")], mro := [(.ref 128), (.type "Exception"), (.type "BaseException"), (.type "object")], ns := 127, qualname := (Str.ofString "PyFATException"), hasDict := true, slotNames := [], subclasses := [(.ref 141)], abstract := false, collection := none, hasDel := false }), #[(some (.ref 109)), none, (some (.str (Str.ofString "PyFATException") 349)), (some (.str (Str.ofString "PyFATException") 357)), (some (.builtin "Exception.__new__")), (some (.bool true))]⟩) ::
  (nat_lit 140, ⟨(.type "dict"), none, (.dict (List.toArray [⟨PyData.keyHash P (Str.ofString "__module__"), .str (Str.ofString "__module__") 388, (.str (Str.ofString "pyfatfs._exceptions") 347)⟩, ⟨PyData.keyHash P (Str.ofString "__firstlineno__"), .str (Str.ofString "__firstlineno__") 392, (.int 57 391)⟩, ⟨PyData.keyHash P (Str.ofString "__static_attributes__"), .str (Str.ofString "__static_attributes__") 393, (.ref 139)⟩, ⟨PyData.keyHash P (Str.ofString "__doc__"), .str (Str.ofString "__doc__") 394, .none⟩]) 2), #[]⟩) ::
  (nat_lit 141, ⟨(.type "type"), none, (.cls { name := (Str.ofString "BrokenLFNEntryException"), bases := [(.ref 128)], mro := [(.ref 141), (.ref 128), (.type "Exception"), (.type "BaseException"), (.type "object")], ns := 140, qualname := (Str.ofString "BrokenLFNEntryException"), hasDict := true, slotNames := [], subclasses := [], abstract := false, collection := none, hasDel := false }), #[(some (.ref 132)), none, (some (.str (Str.ofString "BrokenLFNEntryException") 381)), (some (.str (Str.ofString "BrokenLFNEntryException") 389)), (some (.builtin "Exception.__new__")), (some (.bool true))]⟩) ::
  (nat_lit 161, ⟨(.type "dict"), none, (.dict (List.toArray [⟨PyData.keyHash P (Str.ofString "__module__"), .str (Str.ofString "__module__") 404, (.str (Str.ofString "pyfatfs._exceptions") 347)⟩, ⟨PyData.keyHash P (Str.ofString "__firstlineno__"), .str (Str.ofString "__firstlineno__") 408, (.int 59 407)⟩, ⟨PyData.keyHash P (Str.ofString "__init__"), .str (Str.ofString "__init__") 418, (.ref 159)⟩, ⟨PyData.keyHash P (Str.ofString "__static_attributes__"), .str (Str.ofString "__static_attributes__") 420, (.ref 160)⟩, ⟨PyData.keyHash P (Str.ofString "__weakref__"), .str (Str.ofString "__weakref__") 423, (.ref 163)⟩, ⟨PyData.keyHash P (Str.ofString "__doc__"), .str (Str.ofString "__doc__") 424, .none⟩]) 4), #[]⟩) ::
  (nat_lit 162, ⟨(.type "type"), none, (.cls { name := (Str.ofString "NotAFatEntryException"), bases := [(.type "Exception")], mro := [(.ref 162), (.type "Exception"), (.type "BaseException"), (.type "object")], ns := 161, qualname := (Str.ofString "NotAFatEntryException"), hasDict := true, slotNames := [], subclasses := [], abstract := false, collection := none, hasDel := false }), #[(some (.ref 144)), none, (some (.str (Str.ofString "NotAFatEntryException") 397)), (some (.str (Str.ofString "NotAFatEntryException") 405)), (some (.builtin "Exception.__new__")), (some (.bool true))]⟩) ::
  (nat_lit 174, ⟨(.type "dict"), none, (.dict (List.toArray [⟨PyData.keyHash P (Str.ofString "__module__"), .str (Str.ofString "__module__") 436, (.str (Str.ofString "pyfatfs._exceptions") 347)⟩, ⟨PyData.keyHash P (Str.ofString "__firstlineno__"), .str (Str.ofString "__firstlineno__") 440, (.int 64 439)⟩, ⟨PyData.keyHash P (Str.ofString "ENOENT"), .str (Str.ofString "ENOENT") 442, (.int 2 441)⟩, ⟨PyData.keyHash P (Str.ofString "ENXIO"), .str (Str.ofString "ENXIO") 444, (.int 6 443)⟩, ⟨PyData.keyHash P (Str.ofString "E2BIG"), .str (Str.ofString "E2BIG") 446, (.int 7 445)⟩, ⟨PyData.keyHash P (Str.ofString "EFAULT"), .str (Str.ofString "EFAULT") 448, (.int 14 447)⟩, ⟨PyData.keyHash P (Str.ofString "EEXIST"), .str (Str.ofString "EEXIST") 450, (.int 17 449)⟩, ⟨PyData.keyHash P (Str.ofString "ENOTDIR"), .str (Str.ofString "ENOTDIR") 452, (.int 20 451)⟩, ⟨PyData.keyHash P (Str.ofString "EISDIR"), .str (Str.ofString "EISDIR") 454, (.int 21 453)⟩, ⟨PyData.keyHash P (Str.ofString "EINVAL"), .str (Str.ofString "EINVAL") 456, (.int 22 455)⟩, ⟨PyData.keyHash P (Str.ofString "EMFILE"), .str (Str.ofString "EMFILE") 458, (.int 24 457)⟩, ⟨PyData.keyHash P (Str.ofString "EACCES"), .str (Str.ofString "EACCES") 460, (.int 13 459)⟩, ⟨PyData.keyHash P (Str.ofString "ENOSPC"), .str (Str.ofString "ENOSPC") 462, (.int 28 461)⟩, ⟨PyData.keyHash P (Str.ofString "EROFS"), .str (Str.ofString "EROFS") 464, (.int 30 463)⟩, ⟨PyData.keyHash P (Str.ofString "ENAMETOOLONG"), .str (Str.ofString "ENAMETOOLONG") 466, (.int 36 465)⟩, ⟨PyData.keyHash P (Str.ofString "EBADE"), .str (Str.ofString "EBADE") 468, (.int 52 467)⟩, ⟨PyData.keyHash P (Str.ofString "ETOOMANYREFS"), .str (Str.ofString "ETOOMANYREFS") 470, (.int 109 469)⟩, ⟨PyData.keyHash P (Str.ofString "__static_attributes__"), .str (Str.ofString "__static_attributes__") 471, (.ref 173)⟩, ⟨PyData.keyHash P (Str.ofString "__dict__"), .str (Str.ofString "__dict__") 473, (.ref 176)⟩, ⟨PyData.keyHash P (Str.ofString "__weakref__"), .str (Str.ofString "__weakref__") 475, (.ref 177)⟩, ⟨PyData.keyHash P (Str.ofString "__doc__"), .str (Str.ofString "__doc__") 476, .none⟩]) 4), #[]⟩) ::
  (nat_lit 175, ⟨(.type "type"), none, (.cls { name := (Str.ofString "errno"), bases := [(.type "object")], mro := [(.ref 175), (.type "object")], ns := 174, qualname := (Str.ofString "errno"), hasDict := true, slotNames := [], subclasses := [], abstract := false, collection := none, hasDel := false }), #[none, none, (some (.str (Str.ofString "errno") 429)), (some (.str (Str.ofString "errno") 437)), (some (.builtin "object.__new__")), (some (.bool true))]⟩) ::
  (nat_lit 183, ⟨(.type "code"), none, (.fields #[(.str (Str.ofString "decoded") 481), (.str (Str.ofString "decoded") 482), (.str (Str.ofString "/claim/cut.py") 483), (.int 81 0), (.int 1 0), (.int 0 0), (.int 0 0), (.int 3 0), (.ref 180), (.bool true), (.int 181 0), (.ref 181), .none, .none, .none, (.ref 182), (.int 484 0), (.int 81 0), (.str (Str.ofString "/claim/cut.py") 485)]), #[]⟩) ::
  (nat_lit 184, ⟨(.type "function"), none, (.func { name := (Str.ofString "decoded"), qualname := (Str.ofString "decoded"), params := fA (at1 10), body := .stmts (fB (at1 10)), scope := fS (at1 10), globals := 3, closure := [], defaults := .none, kwdefaults := .none, doc := .none, pyModule := (.str (Str.ofString "pyfatfs._exceptions") 347), annotations := none, code := (.ref 183), closureTuple := .none, builtins := 0 }), #[]⟩) ::
  (nat_lit 195, ⟨(.type "code"), none, (.fields #[(.str (Str.ofString "init_check") 493), (.str (Str.ofString "init_check") 494), (.str (Str.ofString "/claim/cut.py") 495), (.int 99 0), (.int 1 0), (.int 0 0), (.int 0 0), (.int 3 0), (.ref 190), (.bool true), (.int 181 0), (.ref 191), .none, (.ref 192), (.ref 193), (.ref 194), (.int 497 0), (.int 99 0), (.str (Str.ofString "/claim/cut.py") 498)]), #[]⟩) ::
  (nat_lit 196, ⟨(.type "function"), none, (.func { name := (Str.ofString "init_check"), qualname := (Str.ofString "init_check"), params := fA (at1 12), body := .stmts (fB (at1 12)), scope := fS (at1 12), globals := 3, closure := [], defaults := .none, kwdefaults := .none, doc := .none, pyModule := (.str (Str.ofString "pyfatfs._exceptions") 347), annotations := none, code := (.ref 195), closureTuple := .none, builtins := 0 }), #[]⟩) ::
  (nat_lit 204, ⟨(.type "list"), none, (.seq #[(.str (Str.ofString "DIR_Name") 538), (.str (Str.ofString "DIR_Attr") 539), (.str (Str.ofString "DIR_NTRes") 540), (.str (Str.ofString "DIR_CrtTimeTenth") 541), (.str (Str.ofString "DIR_CrtTime") 542), (.str (Str.ofString "DIR_CrtDate") 543), (.str (Str.ofString "DIR_LstAccessDate") 544), (.str (Str.ofString "DIR_FstClusHI") 545), (.str (Str.ofString "DIR_WrtTime") 546), (.str (Str.ofString "DIR_WrtDate") 547), (.str (Str.ofString "DIR_FstClusLO") 548), (.str (Str.ofString "DIR_FileSize") 549)] 0), #[]⟩) ::
  (nat_lit 205, ⟨(.type "tuple"), none, (.seq #[(.str (Str.ofString "latin-1") 479), .none, (.bool false), .none] 0), #[]⟩) ::
  (nat_lit 211, ⟨(.type "code"), none, (.fields #[(.str (Str.ofString "__init__") 551), (.str (Str.ofString "FATDirectoryEntry.__init__") 552), (.str (Str.ofString "/claim/cut.py") 553), (.int 118 0), (.int 17 0), (.int 0 0), (.int 0 0), (.int 3 0), (.ref 206), (.bool true), (.int 181 0), (.ref 207), .none, (.ref 208), (.ref 209), (.ref 210), (.int 571 0), (.int 118 0), (.str (Str.ofString "/claim/cut.py") 572)]), #[]⟩) ::
  (nat_lit 212, ⟨(.type "function"), none, (.func { name := (Str.ofString "__init__"), qualname := (Str.ofString "FATDirectoryEntry.__init__"), params := fA (at2 14 13), body := .stmts (fB (at2 14 13)), scope := fS (at2 14 13), globals := 3, closure := [], defaults := (.ref 205), kwdefaults := .none, doc := .none, pyModule := (.str (Str.ofString "pyfatfs.FATDirectoryEntry") 500), annotations := none, code := (.ref 211), closureTuple := .none, builtins := 0 }), #[]⟩) ::
  (nat_lit 218, ⟨(.type "code"), none, (.fields #[(.str (Str.ofString "set_size") 574), (.str (Str.ofString "FATDirectoryEntry.set_size") 575), (.str (Str.ofString "/claim/cut.py") 576), (.int 142 0), (.int 2 0), (.int 0 0), (.int 0 0), (.int 3 0), (.ref 213), (.bool true), (.int 181 0), (.ref 214), .none, (.ref 215), (.ref 216), (.ref 217), (.int 579 0), (.int 142 0), (.str (Str.ofString "/claim/cut.py") 580)]), #[]⟩) ::
  (nat_lit 219, ⟨(.type "function"), none, (.func { name := (Str.ofString "set_size"), qualname := (Str.ofString "FATDirectoryEntry.set_size"), params := fA (at2 14 14), body := .stmts (fB (at2 14 14)), scope := fS (at2 14 14), globals := 3, closure := [], defaults := .none, kwdefaults := .none, doc := .none, pyModule := (.str (Str.ofString "pyfatfs.FATDirectoryEntry") 500), annotations := none, code := (.ref 218), closureTuple := .none, builtins := 0 }), #[]⟩) ::
  (nat_lit 220, ⟨(.type "tuple"), none, (.seq #[(.int 0 582), (.int 0 583), (.int 0 584), (.int 0 585)] 0), #[]⟩) ::
  (nat_lit 226, ⟨(.type "code"), none, (.fields #[(.str (Str.ofString "new") 586), (.str (Str.ofString "FATDirectoryEntry.new") 587), (.str (Str.ofString "/claim/cut.py") 588), (.int 147 0), (.int 7 0), (.int 0 0), (.int 0 0), (.int 3 0), (.ref 221), (.bool true), (.int 181 0), (.ref 222), .none, (.ref 223), (.ref 224), (.ref 225), (.int 598 0), (.int 147 0), (.str (Str.ofString "/claim/cut.py") 599)]), #[]⟩) ::
  (nat_lit 227, ⟨(.type "function"), none, (.func { name := (Str.ofString "new"), qualname := (Str.ofString "FATDirectoryEntry.new"), params := fA (at2 14 15), body := .stmts (fB (at2 14 15)), scope := fS (at2 14 15), globals := 3, closure := [], defaults := (.ref 220), kwdefaults := .none, doc := .none, pyModule := (.str (Str.ofString "pyfatfs.FATDirectoryEntry") 500), annotations := (some 230), code := (.ref 226), closureTuple := .none, builtins := 0 }), #[]⟩) ::
  (nat_lit 229, ⟨(.type "staticmethod"), (some 228), (.fields #[(.ref 227), (.bool false)]), #[]⟩) ::
  (nat_lit 260, ⟨(.type "staticmethod"), (some 259), (.fields #[(.ref 258), (.bool false)]), #[]⟩) ::
  (nat_lit 267, ⟨(.type "code"), none, (.fields #[(.str (Str.ofString "get_checksum") 654), (.str (Str.ofString "FATDirectoryEntry.get_checksum") 655), (.str (Str.ofString "/claim/cut.py") 656), (.int 167 0), (.int 1 0), (.int 0 0), (.int 0 0), (.int 3 0), (.ref 262), (.bool true), (.int 181 0), (.ref 263), .none, (.ref 264), (.ref 265), (.ref 266), (.int 658 0), (.int 167 0), (.str (Str.ofString "/claim/cut.py") 659)]), #[]⟩) ::
  (nat_lit 268, ⟨(.type "function"), none, (.func { name := (Str.ofString "get_checksum"), qualname := (Str.ofString "FATDirectoryEntry.get_checksum"), params := fA (at2 14 20), body := .stmts (fB (at2 14 20)), scope := fS (at2 14 20), globals := 3, closure := [], defaults := .none, kwdefaults := .none, doc := .none, pyModule := (.str (Str.ofString "pyfatfs.FATDirectoryEntry") 500), annotations := none, code := (.ref 267), closureTuple := .none, builtins := 0 }), #[]⟩) ::
  (nat_lit 274, ⟨(.type "code"), none, (.fields #[(.str (Str.ofString "set_lfn_entry") 661), (.str (Str.ofString "FATDirectoryEntry.set_lfn_entry") 662), (.str (Str.ofString "/claim/cut.py") 663), (.int 170 0), (.int 2 0), (.int 0 0), (.int 0 0), (.int 3 0), (.ref 269), (.bool true), (.int 181 0), (.ref 270), .none, (.ref 271), (.ref 272), (.ref 273), (.int 669 0), (.int 170 0), (.str (Str.ofString "/claim/cut.py") 670)]), #[]⟩) ::
  (nat_lit 275, ⟨(.type "function"), none, (.func { name := (Str.ofString "set_lfn_entry"), qualname := (Str.ofString "FATDirectoryEntry.set_lfn_entry"), params := fA (at2 14 21), body := .stmts (fB (at2 14 21)), scope := fS (at2 14 21), globals := 3, closure := [], defaults := .none, kwdefaults := .none, doc := .none, pyModule := (.str (Str.ofString "pyfatfs.FATDirectoryEntry") 500), annotations := none, code := (.ref 274), closureTuple := .none, builtins := 0 }), #[]⟩) ::
  (nat_lit 288, ⟨(.type "code"), none, (.fields #[(.str (Str.ofString "get_cluster") 679), (.str (Str.ofString "FATDirectoryEntry.get_cluster") 680), (.str (Str.ofString "/claim/cut.py") 681), (.int 183 0), (.int 1 0), (.int 0 0), (.int 0 0), (.int 3 0), (.ref 283), (.bool true), (.int 181 0), (.ref 284), .none, (.ref 285), (.ref 286), (.ref 287), (.int 683 0), (.int 183 0), (.str (Str.ofString "/claim/cut.py") 684)]), #[]⟩) ::
  (nat_lit 289, ⟨(.type "function"), none, (.func { name := (Str.ofString "get_cluster"), qualname := (Str.ofString "FATDirectoryEntry.get_cluster"), params := fA (at2 14 23), body := .stmts (fB (at2 14 23)), scope := fS (at2 14 23), globals := 3, closure := [], defaults := .none, kwdefaults := .none, doc := .none, pyModule := (.str (Str.ofString "pyfatfs.FATDirectoryEntry") 500), annotations := none, code := (.ref 288), closureTuple := .none, builtins := 0 }), #[]⟩) ::
  (nat_lit 295, ⟨(.type "code"), none, (.fields #[(.str (Str.ofString "set_cluster") 686), (.str (Str.ofString "FATDirectoryEntry.set_cluster") 687), (.str (Str.ofString "/claim/cut.py") 688), (.int 186 0), (.int 2 0), (.int 0 0), (.int 0 0), (.int 3 0), (.ref 290), (.bool true), (.int 181 0), (.ref 291), .none, (.ref 292), (.ref 293), (.ref 294), (.int 691 0), (.int 186 0), (.str (Str.ofString "/claim/cut.py") 692)]), #[]⟩) ::
  (nat_lit 296, ⟨(.type "function"), none, (.func { name := (Str.ofString "set_cluster"), qualname := (Str.ofString "FATDirectoryEntry.set_cluster"), params := fA (at2 14 24), body := .stmts (fB (at2 14 24)), scope := fS (at2 14 24), globals := 3, closure := [], defaults := .none, kwdefaults := .none, doc := .none, pyModule := (.str (Str.ofString "pyfatfs.FATDirectoryEntry") 500), annotations := none, code := (.ref 295), closureTuple := .none, builtins := 0 }), #[]⟩) ::
  (nat_lit 302, ⟨(.type "code"), none, (.fields #[(.str (Str.ofString "as_bytes") 694), (.str (Str.ofString "FATDirectoryEntry.as_bytes") 695), (.str (Str.ofString "/claim/cut.py") 696), (.int 190 0), (.int 1 0), (.int 0 0), (.int 0 0), (.int 3 0), (.ref 297), (.bool true), (.int 181 0), (.ref 298), .none, (.ref 299), (.ref 300), (.ref 301), (.int 700 0), (.int 190 0), (.str (Str.ofString "/claim/cut.py") 701)]), #[]⟩) ::
  (nat_lit 303, ⟨(.type "function"), none, (.func { name := (Str.ofString "as_bytes"), qualname := (Str.ofString "FATDirectoryEntry.as_bytes"), params := fA (at2 14 25), body := .stmts (fB (at2 14 25)), scope := fS (at2 14 25), globals := 3, closure := [], defaults := .none, kwdefaults := .none, doc := .none, pyModule := (.str (Str.ofString "pyfatfs.FATDirectoryEntry") 500), annotations := none, code := (.ref 302), closureTuple := .none, builtins := 0 }), #[]⟩) ::
  (nat_lit 337, ⟨(.type "code"), none, (.fields #[(.str (Str.ofString "is_special") 733), (.str (Str.ofString "FATDirectoryEntry.is_special") 734), (.str (Str.ofString "/claim/cut.py") 735), (.int 217 0), (.int 1 0), (.int 0 0), (.int 0 0), (.int 3 0), (.ref 332), (.bool true), (.int 181 0), (.ref 333), .none, (.ref 334), (.ref 335), (.ref 336), (.int 737 0), (.int 217 0), (.str (Str.ofString "/claim/cut.py") 738)]), #[]⟩) ::
  (nat_lit 338, ⟨(.type "function"), none, (.func { name := (Str.ofString "is_special"), qualname := (Str.ofString "FATDirectoryEntry.is_special"), params := fA (at2 14 30), body := .stmts (fB (at2 14 30)), scope := fS (at2 14 30), globals := 3, closure := [], defaults := .none, kwdefaults := .none, doc := .none, pyModule := (.str (Str.ofString "pyfatfs.FATDirectoryEntry") 500), annotations := none, code := (.ref 337), closureTuple := .none, builtins := 0 }), #[]⟩) ::
  (nat_lit 344, ⟨(.type "code"), none, (.fields #[(.str (Str.ofString "is_read_only") 740), (.str (Str.ofString "FATDirectoryEntry.is_read_only") 741), (.str (Str.ofString "/claim/cut.py") 742), (.int 220 0), (.int 1 0), (.int 0 0), (.int 0 0), (.int 3 0), (.ref 339), (.bool true), (.int 181 0), (.ref 340), .none, (.ref 341), (.ref 342), (.ref 343), (.int 744 0), (.int 220 0), (.str (Str.ofString "/claim/cut.py") 745)]), #[]⟩) ::
  (nat_lit 345, ⟨(.type "function"), none, (.func { name := (Str.ofString "is_read_only"), qualname := (Str.ofString "FATDirectoryEntry.is_read_only"), params := fA (at2 14 31), body := .stmts (fB (at2 14 31)), scope := fS (at2 14 31), globals := 3, closure := [], defaults := .none, kwdefaults := .none, doc := .none, pyModule := (.str (Str.ofString "pyfatfs.FATDirectoryEntry") 500), annotations := none, code := (.ref 344), closureTuple := .none, builtins := 0 }), #[]⟩) ::
  (nat_lit 351, ⟨(.type "code"), none, (.fields #[(.str (Str.ofString "is_hidden") 747), (.str (Str.ofString "FATDirectoryEntry.is_hidden") 748), (.str (Str.ofString "/claim/cut.py") 749), (.int 223 0), (.int 1 0), (.int 0 0), (.int 0 0), (.int 3 0), (.ref 346), (.bool true), (.int 181 0), (.ref 347), .none, (.ref 348), (.ref 349), (.ref 350), (.int 751 0), (.int 223 0), (.str (Str.ofString "/claim/cut.py") 752)]), #[]⟩) ::
  (nat_lit 352, ⟨(.type "function"), none, (.func { name := (Str.ofString "is_hidden"), qualname := (Str.ofString "FATDirectoryEntry.is_hidden"), params := fA (at2 14 32), body := .stmts (fB (at2 14 32)), scope := fS (at2 14 32), globals := 3, closure := [], defaults := .none, kwdefaults := .none, doc := .none, pyModule := (.str (Str.ofString "pyfatfs.FATDirectoryEntry") 500), annotations := none, code := (.ref 351), closureTuple := .none, builtins := 0 }), #[]⟩) ::
  (nat_lit 358, ⟨(.type "code"), none, (.fields #[(.str (Str.ofString "is_system") 754), (.str (Str.ofString "FATDirectoryEntry.is_system") 755), (.str (Str.ofString "/claim/cut.py") 756), (.int 226 0), (.int 1 0), (.int 0 0), (.int 0 0), (.int 3 0), (.ref 353), (.bool true), (.int 181 0), (.ref 354), .none, (.ref 355), (.ref 356), (.ref 357), (.int 758 0), (.int 226 0), (.str (Str.ofString "/claim/cut.py") 759)]), #[]⟩) ::
  (nat_lit 359, ⟨(.type "function"), none, (.func { name := (Str.ofString "is_system"), qualname := (Str.ofString "FATDirectoryEntry.is_system"), params := fA (at2 14 33), body := .stmts (fB (at2 14 33)), scope := fS (at2 14 33), globals := 3, closure := [], defaults := .none, kwdefaults := .none, doc := .none, pyModule := (.str (Str.ofString "pyfatfs.FATDirectoryEntry") 500), annotations := none, code := (.ref 358), closureTuple := .none, builtins := 0 }), #[]⟩) ::
  (nat_lit 365, ⟨(.type "code"), none, (.fields #[(.str (Str.ofString "is_volume_id") 761), (.str (Str.ofString "FATDirectoryEntry.is_volume_id") 762), (.str (Str.ofString "/claim/cut.py") 763), (.int 229 0), (.int 1 0), (.int 0 0), (.int 0 0), (.int 3 0), (.ref 360), (.bool true), (.int 181 0), (.ref 361), .none, (.ref 362), (.ref 363), (.ref 364), (.int 765 0), (.int 229 0), (.str (Str.ofString "/claim/cut.py") 766)]), #[]⟩) ::
  (nat_lit 366, ⟨(.type "function"), none, (.func { name := (Str.ofString "is_volume_id"), qualname := (Str.ofString "FATDirectoryEntry.is_volume_id"), params := fA (at2 14 34), body := .stmts (fB (at2 14 34)), scope := fS (at2 14 34), globals := 3, closure := [], defaults := .none, kwdefaults := .none, doc := .none, pyModule := (.str (Str.ofString "pyfatfs.FATDirectoryEntry") 500), annotations := none, code := (.ref 365), closureTuple := .none, builtins := 0 }), #[]⟩) ::
  (nat_lit 379, ⟨(.type "code"), none, (.fields #[(.str (Str.ofString "is_directory") 775), (.str (Str.ofString "FATDirectoryEntry.is_directory") 776), (.str (Str.ofString "/claim/cut.py") 777), (.int 236 0), (.int 1 0), (.int 0 0), (.int 0 0), (.int 3 0), (.ref 374), (.bool true), (.int 181 0), (.ref 375), .none, (.ref 376), (.ref 377), (.ref 378), (.int 779 0), (.int 236 0), (.str (Str.ofString "/claim/cut.py") 780)]), #[]⟩) ::
  (nat_lit 380, ⟨(.type "function"), none, (.func { name := (Str.ofString "is_directory"), qualname := (Str.ofString "FATDirectoryEntry.is_directory"), params := fA (at2 14 36), body := .stmts (fB (at2 14 36)), scope := fS (at2 14 36), globals := 3, closure := [], defaults := .none, kwdefaults := .none, doc := .none, pyModule := (.str (Str.ofString "pyfatfs.FATDirectoryEntry") 500), annotations := none, code := (.ref 379), closureTuple := .none, builtins := 0 }), #[]⟩) ::
  (nat_lit 386, ⟨(.type "code"), none, (.fields #[(.str (Str.ofString "is_archive") 782), (.str (Str.ofString "FATDirectoryEntry.is_archive") 783), (.str (Str.ofString "/claim/cut.py") 784), (.int 239 0), (.int 1 0), (.int 0 0), (.int 0 0), (.int 3 0), (.ref 381), (.bool true), (.int 181 0), (.ref 382), .none, (.ref 383), (.ref 384), (.ref 385), (.int 786 0), (.int 239 0), (.str (Str.ofString "/claim/cut.py") 787)]), #[]⟩) ::
  (nat_lit 387, ⟨(.type "function"), none, (.func { name := (Str.ofString "is_archive"), qualname := (Str.ofString "FATDirectoryEntry.is_archive"), params := fA (at2 14 37), body := .stmts (fB (at2 14 37)), scope := fS (at2 14 37), globals := 3, closure := [], defaults := .none, kwdefaults := .none, doc := .none, pyModule := (.str (Str.ofString "pyfatfs.FATDirectoryEntry") 500), annotations := none, code := (.ref 386), closureTuple := .none, builtins := 0 }), #[]⟩) ::
  (nat_lit 471, ⟨(.type "code"), none, (.fields #[(.str (Str.ofString "get_short_name") 877), (.str (Str.ofString "FATDirectoryEntry.get_short_name") 878), (.str (Str.ofString "/claim/cut.py") 879), (.int 293 0), (.int 1 0), (.int 0 0), (.int 0 0), (.int 3 0), (.ref 466), (.bool true), (.int 181 0), (.ref 467), .none, (.ref 468), (.ref 469), (.ref 470), (.int 881 0), (.int 293 0), (.str (Str.ofString "/claim/cut.py") 882)]), #[]⟩) ::
  (nat_lit 472, ⟨(.type "function"), none, (.func { name := (Str.ofString "get_short_name"), qualname := (Str.ofString "FATDirectoryEntry.get_short_name"), params := fA (at2 14 49), body := .stmts (fB (at2 14 49)), scope := fS (at2 14 49), globals := 3, closure := [], defaults := .none, kwdefaults := .none, doc := .none, pyModule := (.str (Str.ofString "pyfatfs.FATDirectoryEntry") 500), annotations := none, code := (.ref 471), closureTuple := .none, builtins := 0 }), #[]⟩) ::
  (nat_lit 481, ⟨(.type "dict"), none, (.dict (List.toArray [⟨PyData.keyHash P (Str.ofString "__module__"), .str (Str.ofString "__module__") 509, (.str (Str.ofString "pyfatfs.FATDirectoryEntry") 500)⟩, ⟨PyData.keyHash P (Str.ofString "__firstlineno__"), .str (Str.ofString "__firstlineno__") 513, (.int 103 512)⟩, ⟨PyData.keyHash P (Str.ofString "FREE_DIR_ENTRY_MARK"), .str (Str.ofString "FREE_DIR_ENTRY_MARK") 515, (.int 229 514)⟩, ⟨PyData.keyHash P (Str.ofString "LAST_DIR_ENTRY_MARK"), .str (Str.ofString "LAST_DIR_ENTRY_MARK") 517, (.int 0 516)⟩, ⟨PyData.keyHash P (Str.ofString "ATTR_READ_ONLY"), .str (Str.ofString "ATTR_READ_ONLY") 519, (.int 1 518)⟩, ⟨PyData.keyHash P (Str.ofString "ATTR_HIDDEN"), .str (Str.ofString "ATTR_HIDDEN") 521, (.int 2 520)⟩, ⟨PyData.keyHash P (Str.ofString "ATTR_SYSTEM"), .str (Str.ofString "ATTR_SYSTEM") 523, (.int 4 522)⟩, ⟨PyData.keyHash P (Str.ofString "ATTR_VOLUME_ID"), .str (Str.ofString "ATTR_VOLUME_ID") 525, (.int 8 524)⟩, ⟨PyData.keyHash P (Str.ofString "ATTR_DIRECTORY"), .str (Str.ofString "ATTR_DIRECTORY") 527, (.int 16 526)⟩, ⟨PyData.keyHash P (Str.ofString "ATTR_ARCHIVE"), .str (Str.ofString "ATTR_ARCHIVE") 529, (.int 32 528)⟩, ⟨PyData.keyHash P (Str.ofString "ATTR_LONG_NAME"), .str (Str.ofString "ATTR_LONG_NAME") 531, (.int 15 530)⟩, ⟨PyData.keyHash P (Str.ofString "ATTR_LONG_NAME_MASK"), .str (Str.ofString "ATTR_LONG_NAME_MASK") 533, (.int 63 532)⟩, ⟨PyData.keyHash P (Str.ofString "FAT_DIRECTORY_HEADER_SIZE"), .str (Str.ofString "FAT_DIRECTORY_HEADER_SIZE") 535, (.int 32 534)⟩, ⟨PyData.keyHash P (Str.ofString "MAX_FILE_SIZE"), .str (Str.ofString "MAX_FILE_SIZE") 537, (.int 4294967295 536)⟩, ⟨PyData.keyHash P (Str.ofString "FAT_DIRECTORY_VARS"), .str (Str.ofString "FAT_DIRECTORY_VARS") 550, (.ref 204)⟩, ⟨PyData.keyHash P (Str.ofString "__init__"), .str (Str.ofString "__init__") 573, (.ref 212)⟩, ⟨PyData.keyHash P (Str.ofString "set_size"), .str (Str.ofString "set_size") 581, (.ref 219)⟩, ⟨PyData.keyHash P (Str.ofString "new"), .str (Str.ofString "new") 612, (.ref 229)⟩, ⟨PyData.keyHash P (Str.ofString "get_ctime"), .str (Str.ofString "get_ctime") 619, (.ref 237)⟩, ⟨PyData.keyHash P (Str.ofString "get_mtime"), .str (Str.ofString "get_mtime") 626, (.ref 244)⟩, ⟨PyData.keyHash P (Str.ofString "get_atime"), .str (Str.ofString "get_atime") 633, (.ref 251)⟩, ⟨PyData.keyHash P (Str.ofString "_combine_dosdatetime"), .str (Str.ofString "_combine_dosdatetime") 653, (.ref 260)⟩, ⟨PyData.keyHash P (Str.ofString "get_checksum"), .str (Str.ofString "get_checksum") 660, (.ref 268)⟩, ⟨PyData.keyHash P (Str.ofString "set_lfn_entry"), .str (Str.ofString "set_lfn_entry") 671, (.ref 275)⟩, ⟨PyData.keyHash P (Str.ofString "get_entry_size"), .str (Str.ofString "get_entry_size") 678, (.ref 282)⟩, ⟨PyData.keyHash P (Str.ofString "get_cluster"), .str (Str.ofString "get_cluster") 685, (.ref 289)⟩, ⟨PyData.keyHash P (Str.ofString "set_cluster"), .str (Str.ofString "set_cluster") 693, (.ref 296)⟩, ⟨PyData.keyHash P (Str.ofString "as_bytes"), .str (Str.ofString "as_bytes") 702, (.ref 303)⟩, ⟨PyData.keyHash P (Str.ofString "_add_parent"), .str (Str.ofString "_add_parent") 710, (.ref 310)⟩, ⟨PyData.keyHash P (Str.ofString "_get_parent_dir"), .str (Str.ofString "_get_parent_dir") 718, (.ref 317)⟩, ⟨PyData.keyHash P (Str.ofString "get_full_path"), .str (Str.ofString "get_full_path") 725, (.ref 324)⟩, ⟨PyData.keyHash P (Str.ofString "get_parent_dir"), .str (Str.ofString "get_parent_dir") 732, (.ref 331)⟩, ⟨PyData.keyHash P (Str.ofString "is_special"), .str (Str.ofString "is_special") 739, (.ref 338)⟩, ⟨PyData.keyHash P (Str.ofString "is_read_only"), .str (Str.ofString "is_read_only") 746, (.ref 345)⟩, ⟨PyData.keyHash P (Str.ofString "is_hidden"), .str (Str.ofString "is_hidden") 753, (.ref 352)⟩, ⟨PyData.keyHash P (Str.ofString "is_system"), .str (Str.ofString "is_system") 760, (.ref 359)⟩, ⟨PyData.keyHash P (Str.ofString "is_volume_id"), .str (Str.ofString "is_volume_id") 767, (.ref 366)⟩, ⟨PyData.keyHash P (Str.ofString "_verify_is_directory"), .str (Str.ofString "_verify_is_directory") 774, (.ref 373)⟩, ⟨PyData.keyHash P (Str.ofString "is_directory"), .str (Str.ofString "is_directory") 781, (.ref 380)⟩, ⟨PyData.keyHash P (Str.ofString "is_archive"), .str (Str.ofString "is_archive") 788, (.ref 387)⟩, ⟨PyData.keyHash P (Str.ofString "is_empty"), .str (Str.ofString "is_empty") 795, (.ref 394)⟩, ⟨PyData.keyHash P (Str.ofString "_populate_dirs"), .str (Str.ofString "_populate_dirs") 804, (.ref 401)⟩, ⟨PyData.keyHash P (Str.ofString "_get_entries_raw"), .str (Str.ofString "_get_entries_raw") 811, (.ref 408)⟩, ⟨PyData.keyHash P (Str.ofString "get_entries"), .str (Str.ofString "get_entries") 822, (.ref 415)⟩, ⟨PyData.keyHash P (Str.ofString "_search_entry"), .str (Str.ofString "_search_entry") 830, (.ref 422)⟩, ⟨PyData.keyHash P (Str.ofString "get_entry"), .str (Str.ofString "get_entry") 838, (.ref 429)⟩, ⟨PyData.keyHash P (Str.ofString "walk"), .str (Str.ofString "walk") 845, (.ref 436)⟩, ⟨PyData.keyHash P (Str.ofString "add_subdirectory"), .str (Str.ofString "add_subdirectory") 854, (.ref 444)⟩, ⟨PyData.keyHash P (Str.ofString "mark_empty"), .str (Str.ofString "mark_empty") 861, (.ref 451)⟩, ⟨PyData.keyHash P (Str.ofString "remove_dir_entry"), .str (Str.ofString "remove_dir_entry") 869, (.ref 458)⟩, ⟨PyData.keyHash P (Str.ofString "as_name"), .str (Str.ofString "as_name") 876, (.ref 465)⟩, ⟨PyData.keyHash P (Str.ofString "get_short_name"), .str (Str.ofString "get_short_name") 883, (.ref 472)⟩, ⟨PyData.keyHash P (Str.ofString "get_long_name"), .str (Str.ofString "get_long_name") 890, (.ref 479)⟩, ⟨PyData.keyHash P (Str.ofString "__static_attributes__"), .str (Str.ofString "__static_attributes__") 909, (.ref 480)⟩, ⟨PyData.keyHash P (Str.ofString "__dict__"), .str (Str.ofString "__dict__") 911, (.ref 483)⟩, ⟨PyData.keyHash P (Str.ofString "__weakref__"), .str (Str.ofString "__weakref__") 913, (.ref 484)⟩, ⟨PyData.keyHash P (Str.ofString "__doc__"), .str (Str.ofString "__doc__") 914, .none⟩]) 4), #[]⟩) ::
  (nat_lit 482, ⟨(.type "type"), none, (.cls { name := (Str.ofString "FATDirectoryEntry"), bases := [(.type "object")], mro := [(.ref 482), (.type "object")], ns := 481, qualname := (Str.ofString "FATDirectoryEntry"), hasDict := true, slotNames := [], subclasses := [], abstract := false, collection := none, hasDel := false }), #[none, none, (some (.str (Str.ofString "FATDirectoryEntry") 502)), (some (.str (Str.ofString "FATDirectoryEntry") 510)), (some (.builtin "object.__new__")), (some (.bool true))]⟩) ::
  (nat_lit 494, ⟨(.type "list"), none, (.seq #[(.str (Str.ofString "LDIR_Ord") 929), (.str (Str.ofString "LDIR_Name1") 930), (.str (Str.ofString "LDIR_Attr") 931), (.str (Str.ofString "LDIR_Type") 932), (.str (Str.ofString "LDIR_Chksum") 933), (.str (Str.ofString "LDIR_Name2") 934), (.str (Str.ofString "LDIR_FstClusLO") 935), (.str (Str.ofString "LDIR_Name3") 936)] 0), #[]⟩) ::
  (nat_lit 536, ⟨(.type "code"), none, (.fields #[(.str (Str.ofString "is_lfn_entry") 985), (.str (Str.ofString "FATLongDirectoryEntry.is_lfn_entry") 986), (.str (Str.ofString "/claim/cut.py") 987), (.int 334 0), (.int 2 0), (.int 0 0), (.int 0 0), (.int 3 0), (.ref 531), (.bool true), (.int 181 0), (.ref 532), .none, (.ref 533), (.ref 534), (.ref 535), (.int 993 0), (.int 334 0), (.str (Str.ofString "/claim/cut.py") 994)]), #[]⟩) ::
  (nat_lit 537, ⟨(.type "function"), none, (.func { name := (Str.ofString "is_lfn_entry"), qualname := (Str.ofString "FATLongDirectoryEntry.is_lfn_entry"), params := fA (at2 15 8), body := .stmts (fB (at2 15 8)), scope := fS (at2 15 8), globals := 3, closure := [], defaults := .none, kwdefaults := .none, doc := .none, pyModule := (.str (Str.ofString "pyfatfs.FATDirectoryEntry") 500), annotations := (some 540), code := (.ref 536), closureTuple := .none, builtins := 0 }), #[]⟩) ::
  (nat_lit 539, ⟨(.type "staticmethod"), (some 538), (.fields #[(.ref 537), (.bool false)]), #[]⟩) ::
  (nat_lit 556, ⟨(.type "dict"), none, (.dict (List.toArray [⟨PyData.keyHash P (Str.ofString "__module__"), .str (Str.ofString "__module__") 924, (.str (Str.ofString "pyfatfs.FATDirectoryEntry") 500)⟩, ⟨PyData.keyHash P (Str.ofString "__firstlineno__"), .str (Str.ofString "__firstlineno__") 928, (.int 298 927)⟩, ⟨PyData.keyHash P (Str.ofString "FAT_LONG_DIRECTORY_VARS"), .str (Str.ofString "FAT_LONG_DIRECTORY_VARS") 937, (.ref 494)⟩, ⟨PyData.keyHash P (Str.ofString "LAST_LONG_ENTRY"), .str (Str.ofString "LAST_LONG_ENTRY") 939, (.int 64 938)⟩, ⟨PyData.keyHash P (Str.ofString "LFN_ENTRY_LENGTH"), .str (Str.ofString "LFN_ENTRY_LENGTH") 941, (.int 26 940)⟩, ⟨PyData.keyHash P (Str.ofString "__init__"), .str (Str.ofString "__init__") 948, (.ref 501)⟩, ⟨PyData.keyHash P (Str.ofString "get_entries"), .str (Str.ofString "get_entries") 958, (.ref 509)⟩, ⟨PyData.keyHash P (Str.ofString "mark_empty"), .str (Str.ofString "mark_empty") 965, (.ref 516)⟩, ⟨PyData.keyHash P (Str.ofString "as_bytes"), .str (Str.ofString "as_bytes") 974, (.ref 523)⟩, ⟨PyData.keyHash P (Str.ofString "as_text"), .str (Str.ofString "as_text") 984, (.ref 530)⟩, ⟨PyData.keyHash P (Str.ofString "is_lfn_entry"), .str (Str.ofString "is_lfn_entry") 1007, (.ref 539)⟩, ⟨PyData.keyHash P (Str.ofString "add_lfn_entry"), .str (Str.ofString "add_lfn_entry") 1022, (.ref 547)⟩, ⟨PyData.keyHash P (Str.ofString "is_lfn_entry_complete"), .str (Str.ofString "is_lfn_entry_complete") 1029, (.ref 554)⟩, ⟨PyData.keyHash P (Str.ofString "__static_attributes__"), .str (Str.ofString "__static_attributes__") 1031, (.ref 555)⟩, ⟨PyData.keyHash P (Str.ofString "__dict__"), .str (Str.ofString "__dict__") 1033, (.ref 558)⟩, ⟨PyData.keyHash P (Str.ofString "__weakref__"), .str (Str.ofString "__weakref__") 1035, (.ref 559)⟩, ⟨PyData.keyHash P (Str.ofString "__doc__"), .str (Str.ofString "__doc__") 1036, .none⟩]) 4), #[]⟩) ::
  (nat_lit 557, ⟨(.type "type"), none, (.cls { name := (Str.ofString "FATLongDirectoryEntry"), bases := [(.type "object")], mro := [(.ref 557), (.type "object")], ns := 556, qualname := (Str.ofString "FATLongDirectoryEntry"), hasDict := true, slotNames := [], subclasses := [], abstract := false, collection := none, hasDel := false }), #[(some (.ref 487)), none, (some (.str (Str.ofString "FATLongDirectoryEntry") 917)), (some (.str (Str.ofString "FATLongDirectoryEntry") 925)), (some (.builtin "object.__new__")), (some (.bool true))]⟩) ::
  (nat_lit 569, ⟨(.type "list"), none, (.seq #[(.int 34 1055), (.int 42 1056), (.int 43 1057), (.int 44 1058), (.int 46 1059), (.int 47 1060), (.int 58 1061), (.int 59 1062), (.int 60 1063), (.int 61 1064), (.int 62 1065), (.int 63 1066), (.int 91 1067), (.int 92 1068), (.int 93 1069), (.int 124 1070)] 0), #[]⟩) ::
  (nat_lit 570, ⟨(.type "tuple"), none, (.seq #[(.str (Str.ofString "latin-1") 479)] 0), #[]⟩) ::
  (nat_lit 576, ⟨(.type "code"), none, (.fields #[(.str (Str.ofString "__init__") 1072), (.str (Str.ofString "EightDotThree.__init__") 1073), (.str (Str.ofString "/claim/cut.py") 1074), (.int 351 0), (.int 2 0), (.int 0 0), (.int 0 0), (.int 3 0), (.ref 571), (.bool true), (.int 181 0), (.ref 572), .none, (.ref 573), (.ref 574), (.ref 575), (.int 1077 0), (.int 351 0), (.str (Str.ofString "/claim/cut.py") 1078)]), #[]⟩) ::
  (nat_lit 577, ⟨(.type "function"), none, (.func { name := (Str.ofString "__init__"), qualname := (Str.ofString "EightDotThree.__init__"), params := fA (at2 17 2), body := .stmts (fB (at2 17 2)), scope := fS (at2 17 2), globals := 3, closure := [], defaults := (.ref 570), kwdefaults := .none, doc := .none, pyModule := (.str (Str.ofString "pyfatfs.EightDotThree") 1039), annotations := none, code := (.ref 576), closureTuple := .none, builtins := 0 }), #[]⟩) ::
  (nat_lit 583, ⟨(.type "code"), none, (.fields #[(.str (Str.ofString "as_text") 1080), (.str (Str.ofString "EightDotThree.as_text") 1081), (.str (Str.ofString "/claim/cut.py") 1082), (.int 356 0), (.int 1 0), (.int 0 0), (.int 0 0), (.int 3 0), (.ref 578), (.bool true), (.int 181 0), (.ref 579), .none, (.ref 580), (.ref 581), (.ref 582), (.int 1088 0), (.int 356 0), (.str (Str.ofString "/claim/cut.py") 1089)]), #[]⟩) ::
  (nat_lit 584, ⟨(.type "function"), none, (.func { name := (Str.ofString "as_text"), qualname := (Str.ofString "EightDotThree.as_text"), params := fA (at2 17 3), body := .stmts (fB (at2 17 3)), scope := fS (at2 17 3), globals := 3, closure := [], defaults := .none, kwdefaults := .none, doc := .none, pyModule := (.str (Str.ofString "pyfatfs.EightDotThree") 1039), annotations := none, code := (.ref 583), closureTuple := .none, builtins := 0 }), #[]⟩) ::
  (nat_lit 597, ⟨(.type "code"), none, (.fields #[(.str (Str.ofString "get_unpadded_filename") 1098), (.str (Str.ofString "EightDotThree.get_unpadded_filename") 1099), (.str (Str.ofString "/claim/cut.py") 1100), (.int 368 0), (.int 1 0), (.int 0 0), (.int 0 0), (.int 3 0), (.ref 592), (.bool true), (.int 181 0), (.ref 593), .none, (.ref 594), (.ref 595), (.ref 596), (.int 1102 0), (.int 368 0), (.str (Str.ofString "/claim/cut.py") 1103)]), #[]⟩) ::
  (nat_lit 598, ⟨(.type "function"), none, (.func { name := (Str.ofString "get_unpadded_filename"), qualname := (Str.ofString "EightDotThree.get_unpadded_filename"), params := fA (at2 17 5), body := .stmts (fB (at2 17 5)), scope := fS (at2 17 5), globals := 3, closure := [], defaults := .none, kwdefaults := .none, doc := .none, pyModule := (.str (Str.ofString "pyfatfs.EightDotThree") 1039), annotations := none, code := (.ref 597), closureTuple := .none, builtins := 0 }), #[]⟩) ::
  (nat_lit 607, ⟨(.type "staticmethod"), (some 606), (.fields #[(.ref 605), (.bool false)]), #[]⟩) ::
  (nat_lit 614, ⟨(.type "code"), none, (.fields #[(.str (Str.ofString "_set_name") 1124), (.str (Str.ofString "EightDotThree._set_name") 1125), (.str (Str.ofString "/claim/cut.py") 1126), (.int 376 0), (.int 2 0), (.int 0 0), (.int 0 0), (.int 3 0), (.ref 609), (.bool true), (.int 181 0), (.ref 610), .none, (.ref 611), (.ref 612), (.ref 613), (.int 1129 0), (.int 376 0), (.str (Str.ofString "/claim/cut.py") 1130)]), #[]⟩) ::
  (nat_lit 615, ⟨(.type "function"), none, (.func { name := (Str.ofString "_set_name"), qualname := (Str.ofString "EightDotThree._set_name"), params := fA (at2 17 7), body := .stmts (fB (at2 17 7)), scope := fS (at2 17 7), globals := 3, closure := [], defaults := .none, kwdefaults := .none, doc := .none, pyModule := (.str (Str.ofString "pyfatfs.EightDotThree") 1039), annotations := none, code := (.ref 614), closureTuple := .none, builtins := 0 }), #[]⟩) ::
  (nat_lit 621, ⟨(.type "code"), none, (.fields #[(.str (Str.ofString "set_byte_name") 1132), (.str (Str.ofString "EightDotThree.set_byte_name") 1133), (.str (Str.ofString "/claim/cut.py") 1134), (.int 382 0), (.int 2 0), (.int 0 0), (.int 0 0), (.int 3 0), (.ref 616), (.bool true), (.int 181 0), (.ref 617), .none, (.ref 618), (.ref 619), (.ref 620), (.int 1137 0), (.int 382 0), (.str (Str.ofString "/claim/cut.py") 1138)]), #[]⟩) ::
  (nat_lit 622, ⟨(.type "function"), none, (.func { name := (Str.ofString "set_byte_name"), qualname := (Str.ofString "EightDotThree.set_byte_name"), params := fA (at2 17 8), body := .stmts (fB (at2 17 8)), scope := fS (at2 17 8), globals := 3, closure := [], defaults := .none, kwdefaults := .none, doc := .none, pyModule := (.str (Str.ofString "pyfatfs.EightDotThree") 1039), annotations := none, code := (.ref 621), closureTuple := .none, builtins := 0 }), #[]⟩) ::
  (nat_lit 635, ⟨(.type "code"), none, (.fields #[(.str (Str.ofString "checksum") 1148), (.str (Str.ofString "EightDotThree.checksum") 1149), (.str (Str.ofString "/claim/cut.py") 1150), (.int 395 0), (.int 1 0), (.int 0 0), (.int 0 0), (.int 3 0), (.ref 630), (.bool true), (.int 181 0), (.ref 631), .none, (.ref 632), (.ref 633), (.ref 634), (.int 1154 0), (.int 395 0), (.str (Str.ofString "/claim/cut.py") 1155)]), #[]⟩) ::
  (nat_lit 636, ⟨(.type "function"), none, (.func { name := (Str.ofString "checksum"), qualname := (Str.ofString "EightDotThree.checksum"), params := fA (at2 17 10), body := .stmts (fB (at2 17 10)), scope := fS (at2 17 10), globals := 3, closure := [], defaults := .none, kwdefaults := .none, doc := .none, pyModule := (.str (Str.ofString "pyfatfs.EightDotThree") 1039), annotations := none, code := (.ref 635), closureTuple := .none, builtins := 0 }), #[]⟩) ::
  (nat_lit 645, ⟨(.type "staticmethod"), (some 644), (.fields #[(.ref 643), (.bool false)]), #[]⟩) ::
  (nat_lit 656, ⟨(.type "staticmethod"), (some 655), (.fields #[(.ref 654), (.bool false)]), #[]⟩) ::
  (nat_lit 666, ⟨(.type "staticmethod"), (some 665), (.fields #[(.ref 664), (.bool false)]), #[]⟩) ::
  (nat_lit 676, ⟨(.type "staticmethod"), (some 675), (.fields #[(.ref 674), (.bool false)]), #[]⟩) ::
  (nat_lit 679, ⟨(.type "dict"), none, (.dict (List.toArray [⟨PyData.keyHash P (Str.ofString "__module__"), .str (Str.ofString "__module__") 1048, (.str (Str.ofString "pyfatfs.EightDotThree") 1039)⟩, ⟨PyData.keyHash P (Str.ofString "__firstlineno__"), .str (Str.ofString "__firstlineno__") 1052, (.int 347 1051)⟩, ⟨PyData.keyHash P (Str.ofString "SFN_LENGTH"), .str (Str.ofString "SFN_LENGTH") 1054, (.int 11 1053)⟩, ⟨PyData.keyHash P (Str.ofString "INVALID_CHARACTERS"), .str (Str.ofString "INVALID_CHARACTERS") 1071, (.ref 569)⟩, ⟨PyData.keyHash P (Str.ofString "__init__"), .str (Str.ofString "__init__") 1079, (.ref 577)⟩, ⟨PyData.keyHash P (Str.ofString "as_text"), .str (Str.ofString "as_text") 1090, (.ref 584)⟩, ⟨PyData.keyHash P (Str.ofString "as_bytes"), .str (Str.ofString "as_bytes") 1097, (.ref 591)⟩, ⟨PyData.keyHash P (Str.ofString "get_unpadded_filename"), .str (Str.ofString "get_unpadded_filename") 1104, (.ref 598)⟩, ⟨PyData.keyHash P (Str.ofString "_raise_8dot3_nonconformant"), .str (Str.ofString "_raise_8dot3_nonconformant") 1123, (.ref 607)⟩, ⟨PyData.keyHash P (Str.ofString "_set_name"), .str (Str.ofString "_set_name") 1131, (.ref 615)⟩, ⟨PyData.keyHash P (Str.ofString "set_byte_name"), .str (Str.ofString "set_byte_name") 1139, (.ref 622)⟩, ⟨PyData.keyHash P (Str.ofString "set_str_name"), .str (Str.ofString "set_str_name") 1147, (.ref 629)⟩, ⟨PyData.keyHash P (Str.ofString "checksum"), .str (Str.ofString "checksum") 1156, (.ref 636)⟩, ⟨PyData.keyHash P (Str.ofString "_check_characters"), .str (Str.ofString "_check_characters") 1176, (.ref 645)⟩, ⟨PyData.keyHash P (Str.ofString "is_8dot3_conform"), .str (Str.ofString "is_8dot3_conform") 1196, (.ref 656)⟩, ⟨PyData.keyHash P (Str.ofString "_pad_8dot3_name"), .str (Str.ofString "_pad_8dot3_name") 1215, (.ref 666)⟩, ⟨PyData.keyHash P (Str.ofString "make_8dot3_name"), .str (Str.ofString "make_8dot3_name") 1235, (.ref 676)⟩, ⟨PyData.keyHash P (Str.ofString "__static_attributes__"), .str (Str.ofString "__static_attributes__") 1239, (.ref 678)⟩, ⟨PyData.keyHash P (Str.ofString "__dict__"), .str (Str.ofString "__dict__") 1241, (.ref 681)⟩, ⟨PyData.keyHash P (Str.ofString "__weakref__"), .str (Str.ofString "__weakref__") 1243, (.ref 682)⟩, ⟨PyData.keyHash P (Str.ofString "__doc__"), .str (Str.ofString "__doc__") 1244, .none⟩]) 4), #[]⟩) ::
  (nat_lit 680, ⟨(.type "type"), none, (.cls { name := (Str.ofString "EightDotThree"), bases := [(.type "object")], mro := [(.ref 680), (.type "object")], ns := 679, qualname := (Str.ofString "EightDotThree"), hasDict := true, slotNames := [], subclasses := [], abstract := false, collection := none, hasDel := false }), #[none, none, (some (.str (Str.ofString "EightDotThree") 1041)), (some (.str (Str.ofString "EightDotThree") 1049)), (some (.builtin "object.__new__")), (some (.bool true))]⟩) ::
  (nat_lit 690, ⟨(.type "code"), none, (.fields #[(.str (Str.ofString "_law_field") 1249), (.str (Str.ofString "_law_field") 1250), (.str (Str.ofString "/claim/cut.py") 1251), (.int 419 0), (.int 3 0), (.int 0 0), (.int 0 0), (.int 3 0), (.ref 685), (.bool true), (.int 181 0), (.ref 686), .none, (.ref 687), (.ref 688), (.ref 689), (.int 1256 0), (.int 419 0), (.str (Str.ofString "/claim/cut.py") 1257)]), #[]⟩) ::
  (nat_lit 691, ⟨(.type "function"), none, (.func { name := (Str.ofString "_law_field"), qualname := (Str.ofString "_law_field"), params := fA (at1 19), body := .stmts (fB (at1 19)), scope := fS (at1 19), globals := 3, closure := [], defaults := .none, kwdefaults := .none, doc := .none, pyModule := (.str (Str.ofString "law_iw0015_02") 1247), annotations := none, code := (.ref 690), closureTuple := .none, builtins := 0 }), #[]⟩) ::
  (nat_lit 695, ⟨(.type "code"), none, (.fields #[(.str (Str.ofString "_law_name") 1259), (.str (Str.ofString "_law_name") 1260), (.str (Str.ofString "/claim/cut.py") 1261), (.int 422 0), (.int 1 0), (.int 0 0), (.int 0 0), (.int 3 0), (.ref 692), (.bool true), (.int 181 0), (.ref 693), .none, .none, .none, (.ref 694), (.int 1262 0), (.int 422 0), (.str (Str.ofString "/claim/cut.py") 1263)]), #[]⟩) ::
  (nat_lit 696, ⟨(.type "function"), none, (.func { name := (Str.ofString "_law_name"), qualname := (Str.ofString "_law_name"), params := fA (at1 20), body := .stmts (fB (at1 20)), scope := fS (at1 20), globals := 3, closure := [], defaults := .none, kwdefaults := .none, doc := .none, pyModule := (.str (Str.ofString "law_iw0015_02") 1247), annotations := none, code := (.ref 695), closureTuple := .none, builtins := 0 }), #[]⟩) ::
  (nat_lit 702, ⟨(.type "code"), none, (.fields #[(.str (Str.ofString "_law_low") 1265), (.str (Str.ofString "_law_low") 1266), (.str (Str.ofString "/claim/cut.py") 1267), (.int 432 0), (.int 2 0), (.int 0 0), (.int 0 0), (.int 3 0), (.ref 697), (.bool true), (.int 181 0), (.ref 698), .none, (.ref 699), (.ref 700), (.ref 701), (.int 1272 0), (.int 432 0), (.str (Str.ofString "/claim/cut.py") 1273)]), #[]⟩) ::
  (nat_lit 703, ⟨(.type "function"), none, (.func { name := (Str.ofString "_law_low"), qualname := (Str.ofString "_law_low"), params := fA (at1 21), body := .stmts (fB (at1 21)), scope := fS (at1 21), globals := 3, closure := [], defaults := .none, kwdefaults := .none, doc := .none, pyModule := (.str (Str.ofString "law_iw0015_02") 1247), annotations := none, code := (.ref 702), closureTuple := .none, builtins := 0 }), #[]⟩) ::
  (nat_lit 709, ⟨(.type "code"), none, (.fields #[(.str (Str.ofString "_law_laid") 1275), (.str (Str.ofString "_law_laid") 1276), (.str (Str.ofString "/claim/cut.py") 1277), (.int 438 0), (.int 3 0), (.int 0 0), (.int 0 0), (.int 3 0), (.ref 704), (.bool true), (.int 181 0), (.ref 705), .none, (.ref 706), (.ref 707), (.ref 708), (.int 1293 0), (.int 438 0), (.str (Str.ofString "/claim/cut.py") 1294)]), #[]⟩) ::
  (nat_lit 710, ⟨(.type "function"), none, (.func { name := (Str.ofString "_law_laid"), qualname := (Str.ofString "_law_laid"), params := fA (at1 22), body := .stmts (fB (at1 22)), scope := fS (at1 22), globals := 3, closure := [], defaults := .none, kwdefaults := .none, doc := .none, pyModule := (.str (Str.ofString "law_iw0015_02") 1247), annotations := none, code := (.ref 709), closureTuple := .none, builtins := 0 }), #[]⟩) ::
  (nat_lit 716, ⟨(.type "code"), none, (.fields #[(.str (Str.ofString "_law_sum") 1296), (.str (Str.ofString "_law_sum") 1297), (.str (Str.ofString "/claim/cut.py") 1298), (.int 444 0), (.int 1 0), (.int 0 0), (.int 0 0), (.int 3 0), (.ref 711), (.bool true), (.int 181 0), (.ref 712), .none, (.ref 713), (.ref 714), (.ref 715), (.int 1302 0), (.int 444 0), (.str (Str.ofString "/claim/cut.py") 1303)]), #[]⟩) ::
  (nat_lit 717, ⟨(.type "function"), none, (.func { name := (Str.ofString "_law_sum"), qualname := (Str.ofString "_law_sum"), params := fA (at1 23), body := .stmts (fB (at1 23)), scope := fS (at1 23), globals := 3, closure := [], defaults := .none, kwdefaults := .none, doc := .none, pyModule := (.str (Str.ofString "law_iw0015_02") 1247), annotations := none, code := (.ref 716), closureTuple := .none, builtins := 0 }), #[]⟩) ::
  (nat_lit 723, ⟨(.type "code"), none, (.fields #[(.str (Str.ofString "_law_short") 1305), (.str (Str.ofString "_law_short") 1306), (.str (Str.ofString "/claim/cut.py") 1307), (.int 449 0), (.int 1 0), (.int 0 0), (.int 0 0), (.int 3 0), (.ref 718), (.bool true), (.int 181 0), (.ref 719), .none, (.ref 720), (.ref 721), (.ref 722), (.int 1310 0), (.int 449 0), (.str (Str.ofString "/claim/cut.py") 1311)]), #[]⟩) ::
  (nat_lit 724, ⟨(.type "function"), none, (.func { name := (Str.ofString "_law_short"), qualname := (Str.ofString "_law_short"), params := fA (at1 24), body := .stmts (fB (at1 24)), scope := fS (at1 24), globals := 3, closure := [], defaults := .none, kwdefaults := .none, doc := .none, pyModule := (.str (Str.ofString "law_iw0015_02") 1247), annotations := none, code := (.ref 723), closureTuple := .none, builtins := 0 }), #[]⟩) ::
  (nat_lit 730, ⟨(.type "code"), none, (.fields #[(.str (Str.ofString "_law_entry") 1313), (.str (Str.ofString "_law_entry") 1314), (.str (Str.ofString "/claim/cut.py") 1315), (.int 453 0), (.int 3 0), (.int 0 0), (.int 0 0), (.int 3 0), (.ref 725), (.bool true), (.int 181 0), (.ref 726), .none, (.ref 727), (.ref 728), (.ref 729), (.int 1320 0), (.int 453 0), (.str (Str.ofString "/claim/cut.py") 1321)]), #[]⟩) ::
  (nat_lit 731, ⟨(.type "function"), none, (.func { name := (Str.ofString "_law_entry"), qualname := (Str.ofString "_law_entry"), params := fA (at1 25), body := .stmts (fB (at1 25)), scope := fS (at1 25), globals := 3, closure := [], defaults := .none, kwdefaults := .none, doc := .none, pyModule := (.str (Str.ofString "law_iw0015_02") 1247), annotations := none, code := (.ref 730), closureTuple := .none, builtins := 0 }), #[]⟩) ::
  (nat_lit 737, ⟨(.type "code"), none, (.fields #[(.str (Str.ofString "_law_sized") 1323), (.str (Str.ofString "_law_sized") 1324), (.str (Str.ofString "/claim/cut.py") 1325), (.int 458 0), (.int 2 0), (.int 0 0), (.int 0 0), (.int 3 0), (.ref 732), (.bool true), (.int 181 0), (.ref 733), .none, (.ref 734), (.ref 735), (.ref 736), (.int 1329 0), (.int 458 0), (.str (Str.ofString "/claim/cut.py") 1330)]), #[]⟩) ::
  (nat_lit 738, ⟨(.type "function"), none, (.func { name := (Str.ofString "_law_sized"), qualname := (Str.ofString "_law_sized"), params := fA (at1 26), body := .stmts (fB (at1 26)), scope := fS (at1 26), globals := 3, closure := [], defaults := .none, kwdefaults := .none, doc := .none, pyModule := (.str (Str.ofString "law_iw0015_02") 1247), annotations := none, code := (.ref 737), closureTuple := .none, builtins := 0 }), #[]⟩) ::
  (nat_lit 744, ⟨(.type "code"), none, (.fields #[(.str (Str.ofString "_law_is") 1332), (.str (Str.ofString "_law_is") 1333), (.str (Str.ofString "/claim/cut.py") 1334), (.int 464 0), (.int 2 0), (.int 0 0), (.int 0 0), (.int 3 0), (.ref 739), (.bool true), (.int 181 0), (.ref 740), .none, (.ref 741), (.ref 742), (.ref 743), (.int 1337 0), (.int 464 0), (.str (Str.ofString "/claim/cut.py") 1338)]), #[]⟩) ::
  (nat_lit 745, ⟨(.type "function"), none, (.func { name := (Str.ofString "_law_is"), qualname := (Str.ofString "_law_is"), params := fA (at1 27), body := .stmts (fB (at1 27)), scope := fS (at1 27), globals := 3, closure := [], defaults := .none, kwdefaults := .none, doc := .none, pyModule := (.str (Str.ofString "law_iw0015_02") 1247), annotations := none, code := (.ref 744), closureTuple := .none, builtins := 0 }), #[]⟩) ::
  (nat_lit 749, ⟨(.type "code"), none, (.fields #[(.str (Str.ofString "_law_bits") 1340), (.str (Str.ofString "_law_bits") 1341), (.str (Str.ofString "/claim/cut.py") 1342), (.int 466 0), (.int 2 0), (.int 0 0), (.int 0 0), (.int 3 0), (.ref 746), (.bool true), (.int 181 0), (.ref 747), .none, .none, .none, (.ref 748), (.int 1343 0), (.int 466 0), (.str (Str.ofString "/claim/cut.py") 1344)]), #[]⟩) ::
  (nat_lit 750, ⟨(.type "function"), none, (.func { name := (Str.ofString "_law_bits"), qualname := (Str.ofString "_law_bits"), params := fA (at1 28), body := .stmts (fB (at1 28)), scope := fS (at1 28), globals := 3, closure := [], defaults := .none, kwdefaults := .none, doc := .none, pyModule := (.str (Str.ofString "law_iw0015_02") 1247), annotations := none, code := (.ref 749), closureTuple := .none, builtins := 0 }), #[]⟩) ::
  (nat_lit 756, ⟨(.type "code"), none, (.fields #[(.str (Str.ofString "_law_part") 1346), (.str (Str.ofString "_law_part") 1347), (.str (Str.ofString "/claim/cut.py") 1348), (.int 473 0), (.int 2 0), (.int 0 0), (.int 0 0), (.int 3 0), (.ref 751), (.bool true), (.int 181 0), (.ref 752), .none, (.ref 753), (.ref 754), (.ref 755), (.int 1353 0), (.int 473 0), (.str (Str.ofString "/claim/cut.py") 1354)]), #[]⟩) ::
  (nat_lit 757, ⟨(.type "function"), none, (.func { name := (Str.ofString "_law_part"), qualname := (Str.ofString "_law_part"), params := fA (at1 29), body := .stmts (fB (at1 29)), scope := fS (at1 29), globals := 3, closure := [], defaults := .none, kwdefaults := .none, doc := .none, pyModule := (.str (Str.ofString "law_iw0015_02") 1247), annotations := none, code := (.ref 756), closureTuple := .none, builtins := 0 }), #[]⟩) ::
  (nat_lit 763, ⟨(.type "code"), none, (.fields #[(.str (Str.ofString "_law_holds") 1356), (.str (Str.ofString "_law_holds") 1357), (.str (Str.ofString "/claim/cut.py") 1358), (.int 479 0), (.int 4 0), (.int 0 0), (.int 0 0), (.int 3 0), (.ref 758), (.bool true), (.int 181 0), (.ref 759), .none, (.ref 760), (.ref 761), (.ref 762), (.int 1363 0), (.int 479 0), (.str (Str.ofString "/claim/cut.py") 1364)]), #[]⟩) ::
  (nat_lit 764, ⟨(.type "function"), none, (.func { name := (Str.ofString "_law_holds"), qualname := (Str.ofString "_law_holds"), params := fA (at1 30), body := .stmts (fB (at1 30)), scope := fS (at1 30), globals := 3, closure := [], defaults := .none, kwdefaults := .none, doc := .none, pyModule := (.str (Str.ofString "law_iw0015_02") 1247), annotations := none, code := (.ref 763), closureTuple := .none, builtins := 0 }), #[]⟩) ::
  (nat_lit 768, ⟨(.type "code"), none, (.fields #[(.str (Str.ofString "law") 1366), (.str (Str.ofString "law") 1367), (.str (Str.ofString "/claim/cut.py") 1368), (.int 483 0), (.int 1 0), (.int 0 0), (.int 0 0), (.int 3 0), (.ref 765), (.bool true), (.int 181 0), (.ref 766), .none, .none, .none, (.ref 767), (.int 1369 0), (.int 483 0), (.str (Str.ofString "/claim/cut.py") 1370)]), #[]⟩) ::
  (nat_lit 769, ⟨(.type "function"), none, (.func { name := (Str.ofString "law"), qualname := (Str.ofString "law"), params := fA (at1 31), body := .stmts (fB (at1 31)), scope := fS (at1 31), globals := 3, closure := [], defaults := .none, kwdefaults := .none, doc := .none, pyModule := (.str (Str.ofString "law_iw0015_02") 1247), annotations := none, code := (.ref 768), closureTuple := .none, builtins := 0 }), #[]⟩) ::
  []
theorem ne_all_of {i : Addr} {l : List (Addr × Obj)} (h : ∀ p ∈ l, p.1 < i) : ∀ p ∈ l, p.1 ≠ i := fun p hp => Nat.ne_of_lt (h p hp)
theorem weight_mk (C : Addr) (vals : List Value) (kw : List (Str × Value)) : (Code.builtin "type.__call__" ⟨.ref C :: vals, kw⟩).weight = 1 := rfl
theorem cunits_mk (C : Addr) (vals : List Value) (kw : List (Str × Value)) : (Code.builtin "type.__call__" ⟨.ref C :: vals, kw⟩).cUnits = 1 := rfl
section
open PySem.Sem (wp)
/-- a decoder's code, that may hold a buffer -/
def isDec : Code → Bool
  | .builtin id _ => Builtin.Bytes.decodersThatHold.contains id
  | _ => false
structure Clean (Γ : Ctx) : Prop where
  code : isDec Γ.code = false
  below : ∀ x ∈ Γ.below, isDec x.1 = false
theorem Clean.enter {Γ : Ctx} (h : Clean Γ) (c : Code) (hd : Option Value) (p : Pos) (hc : isDec c = false) : Clean (Γ.enter c hd p) :=
  ⟨hc, fun x hx => by
    rcases List.mem_cons.mp hx with rfl | hx
    · exact h.code
    · exact h.below x hx⟩
theorem Clean.goto {Γ : Ctx} (h : Clean Γ) (c : Code) (hc : isDec c = false) : Clean (Γ.goto c) := ⟨hc, h.below⟩
/-- as wpAny, over the stacks that hold no decoder -/
def wpC {α : Type} (M : Model) (A : Around) (t : Sem α) (Q : α → Shared → Prop) (E : Value → Shared → Prop) (s : Shared) : Prop :=
  ∀ Γ p, Γ.In A → Clean Γ → wp M Γ t (fun a _ s' => Q a s') (fun e _ s' => E e s') p s
def codeC (M : Model) (A : Around) (c : Code) (R : Result → Shared → Prop) (s : Shared) : Prop :=
  ∀ Γ p, Γ.code = c → Γ.Below A → Clean Γ → wpCode M Γ R p s
variable {α β : Type} {M : Model} {A : Around} {E : Value → Shared → Prop} {s : Shared} {env : Env}
theorem wpC_of {t : Sem α} {Q : α → Shared → Prop} (h : wpAny M A t Q E s) : wpC M A t Q E s := fun Γ p hΓ _ => h Γ p hΓ
theorem wpC_mono {t : Sem α} {Q Q' : α → Shared → Prop} {E' : Value → Shared → Prop} (h : wpC M A t Q E s) (hQ : ∀ a s, Q a s → Q' a s) (hE : ∀ e s, E e s → E' e s) : wpC M A t Q' E' s :=
  fun Γ p hΓ hC => Sem.wp_mono M Γ t (fun a _ s => hQ a s) (fun e _ s => hE e s) p s (h Γ p hΓ hC)
theorem wpC_bind {m : Sem α} {f : α → Sem β} {Q : β → Shared → Prop} (h : wpC M A m (fun a s' => wpC M A (f a) Q E s') E s) : wpC M A (m >>= f) Q E s := fun Γ p hΓ hC => by
  rw [Sem.wp_bind']
  exact Sem.wp_mono M Γ m (fun a p' s' h' => h' Γ p' hΓ hC) (fun _ _ _ h' => h') p s (h Γ p hΓ hC)
theorem wpC_bindA {m : Sem α} {f : α → Sem β} {Q : β → Shared → Prop} (h : wpAny M A m (fun a s' => wpC M A (f a) Q E s') E s) : wpC M A (m >>= f) Q E s := wpC_bind (wpC_of h)
theorem wpC_pure {a : α} {Q : α → Shared → Prop} (h : Q a s) : wpC M A (pure a) Q E s := fun _ _ _ _ => h
theorem wpC_holding {vs : List Value} {m : Sem α} {Q : α → Shared → Prop} (h : wpC M A m Q E s) : wpC M A (holding vs m) Q E s := fun Γ p hΓ hC => by rw [Sem.wp_holding]; exact h Γ p hΓ hC
theorem wpC_attempt {m : Sem α} {Q : Except Value α → Shared → Prop} (h : wpC M A m (fun a => Q (.ok a)) (fun e => Q (.error e)) s) : wpC M A m.attempt Q E s := fun Γ p hΓ hC => by rw [Sem.wp_attempt]; exact h Γ p hΓ hC
theorem wpC_onRaise {m : Sem α} {k : Value → Sem Unit} {Q : α → Shared → Prop} (h : wpC M A m Q (fun e s' => wpAny M A (k e) (fun _ s'' => E e s'') E s') s) : wpC M A (m.onRaise k) Q E s := fun Γ p hΓ hC => by
  rw [Sem.wp_onRaise]
  exact Sem.wp_mono M Γ m (fun _ _ _ h' => h') (fun e p' s' h' => h' Γ p' hΓ) p s (h Γ p hΓ hC)
theorem wpC_onRaise' {m : Sem α} {k : Value → Sem Unit} {Q : α → Shared → Prop} (h : wpC M A m Q (fun e s' => wpAny M A (k e) (fun _ s'' => E e s'') E s') s) : wpC M A (m.onRaise k) Q E s := wpC_onRaise h
theorem codeC_mono {c : Code} {R R' : Result → Shared → Prop} (h : codeC M A c R s) (hR : ∀ r s, R r s → R' r s) : codeC M A c R' s := fun Γ p hc hΓ hC => wpCode_mono hR (h Γ p hc hΓ hC)
theorem wpC_run {c : Code} {h : Option Value} {Q : Flow → Shared → Prop} (hd : isDec c = false) (hc : codeC M (A.mark h) c (fun r s' => match r with | .ok f => Q f s' | .error e => E e s') s) (hnb : h ≠ some byPass := by intro x; cases x) :
    wpC M A (run c h) Q E s := fun Γ p hΓ hC => by rw [Sem.wp_run]; exact hc _ p rfl (hΓ.enter c h p hnb) (hC.enter c h p hd)
theorem wpC_call {f : Value} {pos : List Value} {kw : List (Str × Value)} {Q : Value → Shared → Prop}
    (hc : codeC M A (.call f ⟨pos, kw⟩) (fun r s' => match r with | .ok (.ret v) => Q v s' | .ok _ => False | .error e => E e s') s) : wpC M A (call f pos kw) Q E s :=
  fun Γ p hΓ hC => by
    show wp M Γ (runValue _) _ _ p s
    rw [Sem.wp_runValue]; exact hc _ p rfl (hΓ.enter _ none p (by intro x; cases x)) (hC.enter _ none p rfl)
theorem codeC_of_tree {c : Code} {R : Result → Shared → Prop}
    (h : wpC M (A.under c) (M.den c) (fun fin s' => match fin with | .done f => R (.ok f) s' | .again c' => c'.quiet = true ∧ isDec c' = false ∧ codeC M A c' R s') (fun e s' => R (.error e) s') s) : codeC M A c R s := fun Γ p hc hΓ hC => by
  rw [wpCode_iff_wp, hc]
  refine Sem.wp_mono M Γ _ (fun fin p' s' h' => ?_) (fun _ _ _ h' => h') p s (h Γ p (hc ▸ hΓ.in) hC)
  cases fin with
  | done f => exact h'
  | again c' => exact ⟨h'.1, h'.2.2 (Γ.goto c') p' rfl (hΓ.goto c') (hC.goto c' h'.2.1)⟩
theorem codeC_of {c : Code} {R : Result → Shared → Prop} (h : codeAny M A c R s) : codeC M A c R s := fun Γ p hc hΓ _ => h Γ p hc hΓ
/-- the stack's look, in a clean stack with no guard -/
theorem wpC_stackAny {f : Code × Pos → Bool} {Q : Bool → Shared → Prop} (hg : A.guards = some []) (hf : ∀ c p, c.isGuard = false → isDec c = false → f (c, p) = false) (h : Q false s) : wpC M A (do return (← stack).any f) Q E s := fun Γ p hΓ hC => by
  show Q (((Γ.code, p) :: Γ.below).any f) s
  have e : ((Γ.code, p) :: Γ.below).any f = false := by
    have hg' := hΓ.2.2.2.1 [] hg
    rw [← guardsOf_cons Γ.code p] at hg'
    refine List.any_eq_false.mpr fun x hx => ?_
    have hx1 : x.1.isGuard = false := by
      cases q : x.1.isGuard with
      | false => rfl
      | true =>
        have : x.1 ∈ guardsOf ((Γ.code, p) :: Γ.below) := List.mem_filter.mpr ⟨List.mem_map_of_mem hx, q⟩
        rw [hg'] at this; cases this
    have hx2 : isDec x.1 = false := by
      rcases List.mem_cons.mp hx with rfl | hx
      · exact hC.code
      · exact hC.below x hx
    rw [show x = (x.1, x.2) from rfl, hf x.1 x.2 hx1 hx2]; exact Bool.false_ne_true
  rw [e]; exact h
theorem execsC_cons {st : Stmt} {rest : List Stmt} {Q : Flow → Shared → Prop} (h : wpC M A (exec st env) (fun f s' => match f with | .next => wpC M A (execs rest env) Q E s' | f => Q f s') E s) : wpC M A (execs (st :: rest) env) Q E s := fun Γ p hΓ hC => by
  rw [execs_cons, Sem.wp_bind']
  refine Sem.wp_mono M Γ _ (fun f p' s' h' => ?_) (fun _ _ _ h' => h') _ _ (h Γ p hΓ hC)
  cases f <;> first | exact h' Γ p' hΓ hC | exact h'
theorem execsC_any {st : Stmt} {rest : List Stmt} {Q : Flow → Shared → Prop} (h : wpAny M A (exec st env) (fun f s' => match f with | .next => wpC M A (execs rest env) Q E s' | f => Q f s') E s) : wpC M A (execs (st :: rest) env) Q E s := execsC_cons (wpC_of h)
theorem execC_If {test : Expr} {body orelse : List Stmt} {pos : Pos} {Q : Flow → Shared → Prop}
    (h : wpAny M A (isTrue test env (eval test env)) (fun b s₂ => if b then wpC M A (execs body env) Q E s₂ else wpC M A (execs orelse env) Q E s₂) E s) : wpC M A (exec (.If test body orelse pos) env) Q E s := fun Γ p hΓ hC => by
  simp only [exec_If, Sem.wp_bind', Sem.wp_cmd_standAt]
  refine Sem.wp_mono M Γ _ (fun b p₂ s₂ h₂ => ?_) (fun _ _ _ h' => h') _ _ (h Γ _ hΓ)
  cases b <;> exact h₂ Γ p₂ hΓ hC
theorem execC_IfNe {l r : Expr} {op : CmpOp} {body orelse : List Stmt} {pos cpos : Pos} {Q : Flow → Shared → Prop}
    (h : wpC M A (eval l env) (fun a s₁ => wpAny M A (eval r env) (fun b s₂ => wpAny M A (compareOp op a b) (fun c s₃ => wpAny M A (truthy c) (fun b s₂ => if b then wpC M A (execs body env) Q E s₂ else wpC M A (execs orelse env) Q E s₂) E s₃) E s₂) E s₁) E s)
    (hm : behindInMarks op r = false := by with_unfolding_all rfl) : wpC M A (exec (.If (.Compare l [op] [r] cpos) body orelse pos) env) Q E s := fun Γ p hΓ hC => by
  simp only [exec_If, isTrue_Compare1, markedBehindIn_of_false hm, Sem.wp_bind', Sem.wp_holding, Sem.wp_cmd_standAt, Sem.wp_operate]
  refine Sem.wp_mono M Γ _ (fun a p₁ s₁ h₁ => Sem.wp_mono M Γ _ (fun b _ s₂ h₂ => Sem.wp_mono M Γ _ (fun c p₃ s₃ h₃ => Sem.wp_mono M Γ _ (fun b p₄ s₄ h₄ => ?_) (fun _ _ _ h' => h') _ _ (h₃ Γ p₃ hΓ))
    (fun _ _ _ h' => h') _ _ (h₂ Γ _ hΓ)) (fun _ _ _ h' => h') _ _ (h₁ Γ p₁ hΓ)) (fun _ _ _ h' => h') _ _ (h Γ _ hΓ hC)
  cases b <;> exact h₄ Γ p₄ hΓ hC
theorem execC_Assign_Name {x : Str} {pos' pos : Pos} {value : Expr} {Q : Flow → Shared → Prop} (h : wpC M A (eval value env) (fun v s₁ => wpAny M A (storeName env x v) (fun _ => Q .next) E s₁) E s)
    (hs : swapsWith value (some (.Name x pos')) pos.line env = pure false := by rfl) : wpC M A (exec (.Assign [.Name x pos'] value pos) env) Q E s := fun Γ p hΓ hC => by
  simp only [exec_Assign_Name env x pos' value pos hs, Sem.wp_bind', Sem.wp_cmd_standAt, Sem.wp_bindName, Sem.wp_pure']
  exact Sem.wp_mono M Γ _ (fun v _ s₁ h₁ => h₁ Γ _ hΓ) (fun _ _ _ h' => h') _ _ (h Γ _ hΓ hC)
theorem execC_Expr {e : Expr} {pos : Pos} {Q : Flow → Shared → Prop} (h : wpC M A (eval e env) (fun v s' => match v with | .ref _ => False | _ => Q .next s') E s)
    (hi : interactive env = false := by rfl) (hs : swapsWith e none pos.line env = pure false := by rfl) : wpC M A (exec (.Expr e pos) env) Q E s := by
  rw [exec_Expr env e pos hi hs]
  refine wpC_bind (wpC_of (wpAny_standAt (wpC_bind (wpC_mono h (fun v s' h' => ?_) fun _ _ x => x))))
  have hv : ∀ a, v ≠ .ref a := fun a hva => by subst hva; exact h'
  rw [dropValue_plain hv]
  refine wpC_pure ?_
  cases v <;> first | exact h' | exact (hv _ rfl).elim
theorem execC_Return {e : Expr} {pos : Pos} {Q : Flow → Shared → Prop} (h : wpC M A (eval e env) (fun v => Q (.ret v)) E s) : wpC M A (exec (.Return (some e) pos) env) Q E s := fun Γ p hΓ hC => by
  simp only [exec_Return_some, Sem.wp_bind', Sem.wp_cmd_standAt, Sem.wp_pure']; exact h Γ _ hΓ hC
/-- the arguments read, then the call -/
theorem callWithC_of {pos : Pos} {f : Value} {first : List Value} {P : Heap → Prop} {args : List (Bool × Sem Value)} {Q : Value → Shared → Prop} (hplain : args.any (·.1) = false)
    (hk : ∀ h, P h → ∃ k, (k = Keeper.frame ∨ k = Keeper.machine ∨ k = Keeper.boundFrame) ∧ Looks M h (keeperOf f) k)
    (h : wpC M A (evalArgs f true args []) (fun a s₁ => P s₁.heap ∧ wpC M A (call f (first ++ a.pos) a.kw) Q E s₁) E s) : wpC M A (callWith pos f first args []) Q E s := by
  unfold callWith
  refine wpC_bind (wpC_holding (wpC_mono h (fun a s₁ h₁ => wpC_bind (wpC_of (wpAny_standAt ?_))) fun _ _ x => x))
  obtain ⟨k, hk', L⟩ := hk _ h₁.1
  simp only [hplain, Bool.false_or, List.any_nil]
  refine wpC_bindA (L.here ?_)
  have tail : ∀ {t : Sem Value}, wpC M A t Q E s₁ → wpC M A (t >>= fun r => holding [r] point >>= fun _ => pure r) Q E s₁ :=
    fun ht => wpC_bind (wpC_mono ht (fun r s₂ hr => wpC_of (wpAny_bind (wpAny_holding (wpAny_point (wpAny_pure hr))))) fun _ _ x => x)
  have marked (mk : Value) : wpC M A (callMarked mk f (first ++ a.pos) a.kw) Q E s₁ := by
    unfold callMarked
    intro Γ p hΓ hC
    have := h₁.2 Γ p hΓ hC
    exact (Sem.wp_keep M Γ _ _ _ _ _ _).mpr this
  rcases hk' with rfl | rfl | rfl <;> dsimp only <;> first | exact tail h₁.2 | (split <;> first | exact tail h₁.2 | exact tail (marked _))
theorem evalArgsC_plain {f : Value} {x : Sem Value} {rest : List (Bool × Sem Value)} {Q : Args → Shared → Prop} (h : wpC M A (spliced ((false, x) :: rest)) (fun vs s' => Q ⟨vs, []⟩ s') E s) : wpC M A (evalArgs f true ((false, x) :: rest) []) Q E s := by
  unfold evalArgs
  show wpC M A (spliced ((false, x) :: rest) >>= _) Q E s
  refine wpC_bind (wpC_mono h (fun vs s₁ h₁ => ?_) fun _ _ x => x)
  refine wpC_holding (wpC_of ?_)
  exact wpAny_bind (wpAny_pure (wpAny_bind (wpAny_pure (wpAny_pure h₁))))
theorem splicedC_cons {x : Sem Value} {rest : List (Bool × Sem Value)} {Q : List Value → Shared → Prop} (h : wpC M A x (fun v s₁ => wpC M A (spliced rest) (fun vs s₂ => Q (v :: vs) s₂) E s₁) E s) : wpC M A (spliced ((false, x) :: rest)) Q E s := by
  rw [spliced]
  refine wpC_bind (wpC_mono h (fun v s₁ h₁ => ?_) fun _ _ x => x)
  refine wpC_bind (wpC_pure ?_)
  exact wpC_bind (wpC_holding (wpC_mono h₁ (fun vs s₂ h₂ => wpC_pure h₂) fun _ _ x => x))
theorem evalC_Call {fn : Str} {fp pos : Pos} {args : List Expr} {Q : Value → Shared → Prop} (h : wpAny M A (eval (.Name fn fp) env) (fun f s₁ => wpC M A (callWith pos f [] (backTo pos (starEach args env)) []) Q E s₁) E s) : wpC M A (eval (.Call (.Name fn fp) args [] pos) env) Q E s := by
  show wpC M A (eval (.Name fn fp) env >>= fun f => callWith pos f [] (backTo pos (starEach args env)) []) Q E s
  exact wpC_bindA h
theorem evalC_MethodCall {x : Str} {np : Pos} {name : Str} {apos pos : Pos} {args : List Expr} {pl : Sem Bool} {Q : Value → Shared → Prop}
    (h : wpAny M A (eval (.Name x np) env) (fun ov s₁ => wpAny M A (getMethod ov name pl) (fun fx s₂ => wpC M A (callWith pos fx.1 fx.2 (backTo pos (starEach args env)) []) Q E s₂) E s₁) E s)
    (he : eval (.Call (.Attribute (.Name x np) name apos) args [] pos) env = (do
      let ov ← eval (.Name x np) env
      standAt apos.atName
      let (f, first) ← holding [ov] (getMethod ov name pl)
      callWith pos f first (backTo pos (starEach args env)) []) := by rfl) : wpC M A (eval (.Call (.Attribute (.Name x np) name apos) args [] pos) env) Q E s := by
  rw [he]
  exact wpC_bindA (wpAny_mono h (fun ov s₁ h₁ => wpC_bindA (wpAny_standAt (wpC_bindA (wpAny_holding h₁)))) fun _ _ x => x)
theorem codeC_func {prog : Program} {w : World} {body : List Stmt} {R : Result → Shared → Prop}
    (h : wpC (model prog w) (A.deeper env) (execs body env) (fun f s' => R (.ok (.ret (match f with | .ret v => v | _ => .none))) s')
      (fun e s' => wpAny (model prog w) (A.deeper env) (leaving env e) (fun _ s'' => R (.error e) s'') (fun e' s'' => R (.error e') s'') s') s) :
    codeC (model prog w) A (.func body env) R s := by
  refine codeC_of_tree ?_
  show wpC _ (A.deeper env) (do point; match ← (execs body env).onRaise (leaving env) with | .ret v => ret v | _ => ret .none) _ _ s
  refine wpC_bindA (wpAny_point (wpC_bind (wpC_onRaise' (wpC_mono h (fun f s' h' => ?_) fun _ _ h' => h'))))
  cases f <;> exact wpC_pure h'
theorem codeC_call_function {prog : Program} {w : World} {R : Result → Shared → Prop} {a : Addr} {args : Args} {o : Obj} {fd : FuncData} {body : List Stmt} (hroom : A.depth < recursionLimit)
    (ho : s.heap.get? a = some o) (hd' : o.data = .func fd) (hco : fd.scope.isCoroutine = false) (hgen : fd.scope.isGenerator = false) (hbody : fd.body = .stmts body) (hcd : s.heap.CodeRec fd.code fd.qualname)
    (h : wpAny (model prog w) A.in1 (bindArgs fd args) (fun binds s₁ =>
      wpAny (model prog w) A.in1 (newFunctionEnv fd.scope fd.globals fd.closure binds (fd.qualname ++ ".<locals>.") (some a) fd.code none fd.builtins)
        (fun env s₂ => s₂.heap.NoLimit ∧ codeC (model prog w) A (.func body env) R s₂) (fun e s' => R (.error e) s') s₁) (fun e s' => R (.error e) s') s) :
    codeC (model prog w) A (.call (.ref a) args) R s := by
  refine codeC_of_tree (wpC_of ?_)
  show wpAny _ A.in1 (callAny (.ref a) args) _ _ s
  simp only [callAny]
  refine wpAny_bind (wpAny_load ho ?_)
  obtain ⟨c, oc, vs, tq, hc, hoc, hdc, hq⟩ := hcd
  simp only [hd', callFunction, hco, hgen, hbody, hc]
  rw [hc] at h
  refine wpAny_bind (m := field (.ref c) 1) (wpAny_field hoc hdc hq (wpAny_bind (wpAny_pure ?_)))
  exact wpAny_bind (wpAny_mono h (fun binds s₁ h₁ => wpAny_bind (wpAny_mono h₁ (fun env s₂ h₂ => wpAny_bind (wpAny_enterFrame h₂.1 hroom
    (wpAny_pure ⟨rfl, rfl, h₂.2⟩))) fun _ _ h' => h')) fun _ _ h' => h')
end
section
variable {prog : Program} {w : World} {A A₀ : Around} {E : Value → Shared → Prop} {s : Shared} {K : Frag} {L : Addr} {h₀ base : Heap} {m mg mb : Str → Option Value} {news : List (Addr × Obj)} {p : Program} {loose : List Str} {mean : ExcName → Option Value}
  {env : Env} {outer : List Env} {R : Result → Shared → Prop} {name qual : Str} {params : Arguments} {body : List Stmt} {scope : Scope} {dV kV doc pm cdv ct oc : Value} {an od : Option Addr} {osl : Array (Option Value)} {f : Addr} {args : Args} {binds : List (Str × Value)}
theorem codeC_def (B : Below A₀ base outer h₀) (F : Fr h₀ L s.heap m) (X₀ : K.In h₀) (N : News h₀ L s.heap news) (T : Top p loose mean mg mb h₀) (hA : A.frames = some (env :: outer)) (hf : env.frame = some L) (hke : env.scope.kind = .function)
    (ho : K.lookup f = some ⟨oc, od, .func (fnOf name qual params body scope dV kV doc pm an cdv ct), osl⟩) (hcd : codeIn K cdv qual = true) (hroom : A.depth < recursionLimit)
    (hbind : BindsTo s (fnOf name qual params body scope dV kV doc pm an cdv ct) args binds) (hloc : ∀ y ∈ binds, scope.names.lookup y.1 = some .local)
    (h : ∀ g L' h₁, Fr h₀ L g m → Fr g L' h₁ (fun y => binds.reverse.lookup y) → News g L' h₁ news → Below A base (env :: outer) g → K.In g → Top p loose mean mg mb g →
      wpC (model prog w) (A.deeper (envOf qual scope L' f cdv)) (execs body (envOf qual scope L' f cdv))
        (fun fl s' => LeaveK h₀ L m g R (match fl with | .ret v => v | _ => .none) s')
        (fun e s' => wpAny (model prog w) (A.deeper (envOf qual scope L' f cdv)) (leaving (envOf qual scope L' f cdv) e) (fun _ s'' => R (.error e) s'') (fun e' s'' => R (.error e') s'') s')
        { s with heap := h₁, toks := s.toks + binds.length })
    (hco : scope.isCoroutine = false) (hgen : scope.isGenerator = false) (hk : scope.kind = .function) (hcell : ∀ x ∈ scope.names, x.2 ≠ .cell) : codeC (model prog w) A (.call (.ref f) args) R s := by
  obtain ⟨FG, BG, st, lv⟩ := groundX (R := R) B F N hA hf hke
  refine codeC_call_function hroom ((X₀.keeps F.keep) _ _ ho) rfl hco hgen rfl (codeRec_of (X₀.keeps F.keep) hcd) (hbind _ _ _ _ ?_)
  refine wpAny_newFunctionEnv hcell hloc (fun h₁ hns hsb => ⟨(T.nolimit.keeps F.keep).fresh _ hsb, codeC_func ?_⟩) hk
  have kept : ∀ b o, s.heap.get? b = some o → h₁.get? b = some o := fun b o e => hsb.extBut b o (Nat.ne_of_lt (Heap.lt_size e)) (Heap.get?_push_of_some _ e)
  exact wpC_mono (h _ _ h₁ FG ⟨hns, fun b o e => kept b o (of_hideAll _ e), Nat.le_of_eq (hideAll_size _ _)⟩
    (fun p hp => ⟨kept _ _ (N p hp).1, Nat.ne_of_lt (Heap.lt_size (N p hp).1), hideAll_none _ (List.mem_map_of_mem hp)⟩) BG (X₀.keeps st) (T.keeps st)) (fun fl s' hl => lv _ _ hl) fun _ _ y => y
/-- the entry from the claim's caller, into a def with cells -/
theorem codeC_top (X₀ : K.In s.heap) (T : Top p loose mean mg mb s.heap)
    (ho : K.lookup f = some ⟨oc, od, .func (fnOf name qual params body scope dV kV doc pm an cdv ct), osl⟩) (hcd : codeIn K cdv qual = true)
    (hbind : BindsTo s (fnOf name qual params body scope dV kV doc pm an cdv ct) args binds) (hkind : (binds.all fun y => scope.names.lookup y.1 == some .local || scope.names.lookup y.1 == some .cell) = true)
    (hnd : ((cellsFrom 0 scope.names []).map (·.1)).Nodup)
    (h : ∀ L' h₁ tk cells, Fr s.heap L' h₁ (bindL (envOfC qual scope L' f cdv).kindOf binds fun _ => none) → News s.heap L' h₁ cells →
      CellsAre (bindC (envOfC qual scope L' f cdv).kindOf binds fun _ => none) (cellsFrom (L' + 1) scope.names []) cells →
      wpC (model prog w) (callerA.deeper (envOfC qual scope L' f cdv)) (execs body (envOfC qual scope L' f cdv))
        (fun fl s' => R (.ok (.ret (match fl with | .ret v => v | _ => .none))) s')
        (fun e s' => wpAny (model prog w) (callerA.deeper (envOfC qual scope L' f cdv)) (leaving (envOfC qual scope L' f cdv) e) (fun _ s'' => R (.error e) s'') (fun e' s'' => R (.error e') s'') s')
        { s with heap := h₁, toks := tk })
    (hco : scope.isCoroutine = false) (hgen : scope.isGenerator = false) (hk : scope.kind = .function) : codeC (model prog w) callerA (.call (.ref f) args) R s := by
  refine codeC_call_function (by decide) (X₀ _ _ ho) rfl hco hgen rfl (codeRec_of X₀ hcd) (hbind _ _ _ _ ?_)
  refine wpAny_newFunctionEnv_cells hk (kindsX hkind _) fun env' he s' x => ?_
  subst he
  have kept := x.toInCall.keep
  refine ⟨T.nolimit.keeps kept, codeC_func ?_⟩
  obtain ⟨h₁, tk, rfl, _⟩ := x.done
  obtain ⟨cells, NC, Y⟩ := Cl.news (h₀ := s.heap) (Nat.le_refl _) fun n c hm => ⟨x.cell n c (lookup_of_mem_nodup (cellsFrom_names scope.names 0 (s.heap.objs.size + 1) [] [] rfl ▸ hnd) hm), x.above n c hm⟩
  exact h s.heap.objs.size h₁ tk cells ⟨x.toInCall.ns, kept, Nat.le_refl _⟩ NC Y
end
section
variable {M : Model} {A : Around} {E : Value → Shared → Prop} {s : Shared} {K : Frag} {env : Env} {pos : Pos} {f : Value} {first : List Value} {Q : Value → Shared → Prop}
theorem callWithC_K {e : Expr} {rest : List Expr} (hk : keepIn K f = true) (h : wpC M A (spliced (backTo pos (starEach (e :: rest) env))) (fun vs s₁ => K.In s₁.heap ∧ wpC M A (call f (first ++ vs) []) Q E s₁) E s)
    (he : starEach (e :: rest) env = (false, eval e env) :: starEach rest env := by rfl) (hplain : (backTo pos (starEach rest env)).any (·.1) = false := by rfl) :
    wpC M A (callWith pos f first (backTo pos (starEach (e :: rest) env)) []) Q E s := by
  rw [he] at h ⊢
  exact callWithC_of (by show (false || (backTo pos (starEach rest env)).any (·.1)) = false; rw [hplain]; rfl) (keeps_K hk) (evalArgsC_plain h)
theorem callWithC_T {T : String} {e : Expr} {rest : List Expr} (hT : keeperOf (.type T) = pure .machine) (h : wpC M A (spliced (backTo pos (starEach (e :: rest) env))) (fun vs s₁ => wpC M A (call (.type T) (first ++ vs) []) Q E s₁) E s)
    (he : starEach (e :: rest) env = (false, eval e env) :: starEach rest env := by rfl) (hplain : (backTo pos (starEach rest env)).any (·.1) = false := by rfl) :
    wpC M A (callWith pos (.type T) first (backTo pos (starEach (e :: rest) env)) []) Q E s := by
  rw [he] at h ⊢
  exact callWithC_of (P := fun _ => True) (by show (false || (backTo pos (starEach rest env)).any (·.1)) = false; rw [hplain]; rfl) (fun h _ => ⟨.machine, .inr (.inl rfl), by rw [hT]; exact .now⟩) (evalArgsC_plain (wpC_mono h (fun _ _ h' => ⟨trivial, h'⟩) fun _ _ x => x))
end

local macro_rules | `(tactic| k_room) => `(tactic| ((try simp only [depth_mark, depth_under_make, depth_under_kw, depth_in1, depth_deeper, depth_caller, ktrTop, recursionLimit, weight_mk]); omega))
local macro_rules | `(tactic| k_units) => `(tactic| ((try simp only [units_in1, units_deeper, units_under_make, Around.mark_units, units_caller, ktrTop, cLine, cunits_mk]); omega))
local macro_rules | `(tactic| k_mem) => `(tactic| (with_reducible_and_instances assumption))
local macro_rules | `(tactic| k_all) => `(tactic| with_reducible first | assumption | exact ne_all_of (by assumption) | exact tbn_neAll (by assumption))
local macro_rules | `(tactic| walk_at $s:str) => `(tactic| k_extra $s)
section
variable {prog : Program} {w : World} {A : Around} {env : Env} {Q : Flow → Shared → Prop} {E : Value → Shared → Prop} {s : Shared} {h₀ : Heap} {L : Addr} {m : Str → Option Value} {news : List (Addr × Obj)}
theorem joinC {st : Stmt} {rest : List Stmt} (F : Fr h₀ L s.heap m) (N : News h₀ L s.heap news) (h : Fr h₀ L s.heap m → News h₀ L s.heap news → ∀ P : Flow → Shared → Prop, (∀ h' tk', Fr h₀ L h' m → News h₀ L h' news → P .next { s with heap := h', toks := tk' }) → wpAny (model prog w) A (exec st env) P E s)
    (k : ∀ h' tk', Fr h₀ L h' m → News h₀ L h' news → wpC (model prog w) A (execs rest env) Q E { s with heap := h', toks := tk' }) : wpC (model prog w) A (execs (st :: rest) env) Q E s :=
  execsC_any (h F N _ fun h' tk' F' N' => k h' tk' F' N')
end
theorem fr_as {h₀ h : Heap} {L : Addr} {m m' : Str → Option Value} (F : Fr h₀ L h m) (e : ∀ y, m y = m' y) : Fr h₀ L h m' := by rw [← funext e]; exact F

namespace BA
open Builtin
theorem mro : mroOf (.type "bytearray") = pure [.type "bytearray", .type "object"] := by rw [mroOf_type]; kernel_rfl
theorem look_new : typeLookup (.type "bytearray") "__new__" = pure (some (.builtin "bytearray.__new__")) := by rw [typeLookup_type, builtinLookup_eq_fast]; kernel_rfl
theorem slot_init : Slot "bytearray" "__init__" "bytearray.__init__" :=
  .of (owner := "bytearray") (n := "__init__") (by rw [typeLookup_type, builtinLookup_eq_fast]; kernel_rfl) (by decide +kernel) (by decide +kernel) (by decide +kernel)
    (by first | exact .inl (by decide +kernel) | exact .inr (by decide +kernel)) (by rw [isSubtype_type]; kernel_rfl)
theorem called : TypeCalled "bytearray" "bytearray.__new__" "bytearray.__init__" :=
  ⟨by decide +kernel, by decide +kernel, ⟨_, _, mro⟩, madeBy_type mro look_new (by decide +kernel), by decide +kernel, by rw [isSubtype_type]; kernel_rfl, slot_init⟩
theorem typeCall (a : Value) : checkTypeCall "bytearray" ⟨[a], []⟩ = pure () := by kernel_rfl
theorem newCall (a : Value) : checkBuiltinCall "bytearray.__new__" ⟨[.type "bytearray", a], []⟩ = pure () := by kernel_rfl
theorem plain_new : plainId "bytearray.__new__" = true := by decide +kernel
theorem plain_init : plainId "bytearray.__init__" = true := by decide +kernel
theorem entry_new : entryFor table "bytearray.__new__" = some «list.__new__» := entryFor_alias (id' := "list.__new__") (by kernel_rfl) (by decide +kernel) (by decide +kernel) (by kernel_rfl)
theorem entry_init : entryFor table "bytearray.__init__" = some «bytearray.__init__» := by first | exact entryFor_of_fast (by kernel_rfl) | exact entryFor_of_tree (by kernel_rfl)
theorem bind (v : Value) : Bytes.bindOptional "bytearray.__init__" "bytearray" ["source", "encoding", "errors"] [v] [] = pure [some v, none, none] := by kernel_rfl
theorem look_release : typeLookup (.type "bytearray") "__release_buffer__" = pure (some (.builtin "bytearray.__release_buffer__")) := by rw [typeLookup_type, builtinLookup_eq_fast]; kernel_rfl
theorem index_none : typeLookup (.type "bytes") "__index__" = pure none := by rw [typeLookup_type, builtinLookup_eq_fast]; kernel_rfl
set_option maxRecDepth 1000000 in
theorem owner_new : ("bytearray.__new__".splitOn ".__new__").headD "" = "bytearray" := by simp +decide [String.splitOn, String.splitOnAux]
end BA

section
open Builtin
variable {prog : Program} {w : World} {A : Around} {E : Value → Shared → Prop} {s : Shared}
theorem ba_new (a : Value) {Q₁ : Value → Shared → Prop}
    (h : Q₁ (.ref s.heap.objs.size) { s with heap := s.heap.push { cls := .type "bytearray", data := .bytearray #[] } }) :
    codeAny (model prog w) A (.call (.builtin "bytearray.__new__") ⟨[.type "bytearray", a], []⟩) (wants Q₁ E) s := by
  refine codeAny_of_tree ?_
  show wpAny _ A.in1 (do checkBuiltinCall "bytearray.__new__" ⟨[.type "bytearray", a], []⟩; again (.builtin "bytearray.__new__" ⟨[.type "bytearray", a], []⟩)) _ _ s
  refine wpAny_bind (wpAny_of_eq (BA.newCall a) (wpAny_pure ⟨plainId_quiet BA.plain_new _, codeAny_builtin_stack BA.entry_new rfl fun p st => ?_⟩))
  rw [Around.under_plainId BA.plain_new _]
  have hsub := F.isi_self_bytearray
  have hown := BA.owner_new
  obtain ⟨hp, g, d, tk, os⟩ := s
  simp only [hown]
  wp_walk
  exact h
theorem wpC_if_false {α : Type} {M : Model} {c : Bool} {a b : Sem α} {Q : α → Shared → Prop} (hc : c = false) (h : wpC M A b Q E s) : wpC M A (if c = true then a else b) Q E s := by
  subst hc
  exact h
theorem wpC_if_true {α : Type} {M : Model} {c : Bool} {a b : Sem α} {Q : α → Shared → Prop} (hc : c = true) (h : wpC M A a Q E s) : wpC M A (if c = true then a else b) Q E s := by
  subst hc
  exact h
theorem codeC_builtin {id : String} {args : Args} {b : Builtin} {R : Result → Shared → Prop} (hb : entryFor table id = some b)
    (h : wpC (model prog w) (A.under (.builtin id args)) (b args) (fun fin s' => match fin with | .done f => R (.ok f) s' | .again c' => c'.quiet = true ∧ isDec c' = false ∧ codeC (model prog w) A c' R s') (fun e s' => R (.error e) s') s) :
    codeC (model prog w) A (.builtin id args) R s := by
  refine codeC_of_tree ?_
  have hden : (model prog w).den (.builtin id args) = b args := by
    show (match entryFor table id with | some b => b args | none => unsupported ((withoutEnding? id "#data").getD id)) = _
    rw [hb]
  rw [hden]; exact h
/-- type.__call__ of bytearray: made, then __init__ -/
theorem ba_call {b : Array UInt8} {t : Tok} {Q : Value → Shared → Prop} 
    (h : codeC (model prog w) A.in1 (.call (.builtin "bytearray.__init__") ⟨[.ref s.heap.objs.size, .bytes b t], []⟩) (wants (fun r s₂ => r = .none ∧ Q (.ref s.heap.objs.size) s₂) E) { s with heap := s.heap.push { cls := .type "bytearray", data := .bytearray #[] } }) :
    wpC (model prog w) A (call (.type "bytearray") [.bytes b t] []) Q E s := by
  refine wpC_call (codeC_of_tree ?_)
  show wpC _ _ (callAny (.type "bytearray") _) _ _ _
  refine wpC_pure ⟨Code.quiet_builtin _ (by decide +kernel), rfl, codeC_builtin F.entry_type_call ?_⟩
  rw [Around.under_plain (weight_type_call_type "bytearray" _ []) rfl]
  unfold Builtin.«type.__call__»
  dsimp only
  refine wpC_if_false (by decide +kernel) ?_
  refine wpC_if_false BA.called.canCreate ?_
  refine wpC_bindA (wpAny_of_eq (BA.typeCall _) ?_)
  refine wpC_bindA (wpAny_of_eq BA.mro ?_)
  refine wpC_if_false rfl ?_
  refine wpC_bindA (wpAny_of_eq BA.called.made ?_)
  refine wpC_bindA (wpAny_pure ?_)
  refine wpC_bindA (wpAny_holding (wpAny_call (codeAny_mono (ba_new (E := E) (.bytes b t) (Q₁ := fun v s' => v = .ref s.heap.objs.size ∧ s' = { s with heap := s.heap.push { cls := .type "bytearray", data := .bytearray #[] } }) ⟨rfl, rfl⟩) fun r s₁ hr => ?_)))
  rcases r with e | (_ | v | _ | _)
  all_goals first | exact hr | (rcases hr with ⟨rfl, rfl⟩; skip)
  have hT : ({ s with heap := s.heap.push { cls := .type "bytearray", data := .bytearray #[] } } : Shared).TypeIs (.ref s.heap.objs.size) "bytearray" := ⟨_, Heap.get?_push_size _ rfl, rfl⟩
  show wpC _ _ (isInstance (.ref s.heap.objs.size) (.type "bytearray") >>= _) _ _ _
  refine wpC_bindA (wpAny_isInstance hT F.isi_self_bytearray ?_)
  refine wpC_if_false rfl ?_
  refine wpC_bind (wpC_holding ?_)
  unfold callSpecial?
  refine wpC_bindA (wpAny_specialOf hT BA.slot_init.lookup ?_)
  refine wpC_holding ?_
  refine wpC_bindA (wpAny_of_eq (BA.slot_init.bind _) ?_)
  refine wpC_bind (wpC_call (codeC_mono h fun r s₂ hr => ?_))
  rcases r with e | (_ | v | _ | _)
  all_goals first | exact hr | (rcases hr with ⟨rfl, hq⟩; skip)
  refine wpC_pure ?_
  show wpC _ _ (if (Value.none != Value.none) = true then _ else _) _ _ _
  exact wpC_if_false (by decide) (wpC_pure hq)
theorem own_release {M : Model} {v : Value} {Q : Bool → Shared → Prop} (hT : s.TypeIs v "bytearray") (hQ : Q false s) : wpAny M A (Bytes.ownRelease v) Q E s := by
  have key : ∀ x : String, x = "bytearray" → wpAny M A (isInstance v (.type x)) (fun r s' => r = true ∧ s' = s) E s := fun x hx => by subst hx; exact wpAny_isInstance hT F.isi_self_bytearray ⟨rfl, rfl⟩
  unfold Bytes.ownRelease Bytes.slotIsOwn
  refine wpAny_bind (wpAny_bind (wpAny_specialOf hT BA.look_release ?_))
  dsimp only
  refine bm_if_false (by decide +kernel) ?_
  refine wpAny_mono (key _ (by decide +kernel)) (fun r s' hr => ?_) fun _ _ x => x
  obtain ⟨rfl, rfl⟩ := hr
  exact wpAny_pure hQ
theorem exportedC {M : Model} {v : Value} {Q : Bool → Shared → Prop} (hg : A.guards = some []) (h : Q false s) : wpC M A (Bytes.exported v) Q E s := by
  unfold Bytes.exported
  refine wpC_stackAny hg (fun c p h1 h2 => ?_) h
  cases c with
  | builtin id args =>
    have n1 : id ≠ "bytearray.__contains__" := fun e => by subst e; exact Bool.noConfusion (h1.symm.trans (show Code.isGuard (.builtin "bytearray.__contains__" args) = true by kernel_rfl))
    have n2 : id ≠ "bytearray.__mod__" := fun e => by subst e; exact Bool.noConfusion (h1.symm.trans (show Code.isGuard (.builtin "bytearray.__mod__" args) = true by kernel_rfl))
    have n3 : id ≠ "bytearray.__rmod__" := fun e => by subst e; exact Bool.noConfusion (h1.symm.trans (show Code.isGuard (.builtin "bytearray.__rmod__" args) = true by kernel_rfl))
    have n4 : id ≠ "_struct.pack_into.held" := fun e => by subst e; exact Bool.noConfusion (h1.symm.trans (show Code.isGuard (.builtin "_struct.pack_into.held" args) = true by kernel_rfl))
    have n5 : id ≠ "bytearray.find.held" := fun e => by subst e; exact Bool.noConfusion (h1.symm.trans (show Code.isGuard (.builtin "bytearray.find.held" args) = true by kernel_rfl))
    have h3 : Bytes.decodersThatHold.contains id = false := h2
    obtain ⟨pos, kw⟩ := args
    delta Bytes.exported.match_1
    simp only [dif_neg n1, dif_neg n2, dif_neg n3, dif_neg n4, dif_neg n5]
    cases pos with
    | nil => rfl
    | cons v r => simp only [h3, Bool.and_false]
  | _ => rfl
theorem ba_write {M : Model} {a : Addr} {b : Array UInt8} {f : Array UInt8 → Array UInt8} {Q : Unit → Shared → Prop} (ha : s.heap.get? a = some { cls := .type "bytearray", data := .bytearray b }) (hz : (f b).size ≤ 1000)
    (h : ∀ h', (∀ c o, c ≠ a → s.heap.get? c = some o → h'.get? c = some o) → Heap.SameBut a s.heap h' → h'.get? a = some { cls := .type "bytearray", data := .bytearray (f b) } → Q () { s with heap := h' }) :
    wpAny M A (Bytes.write (.ref a) f) Q E s := by
  show wpAny _ _ (updateBytearray a f) _ _ _
  unfold updateBytearray
  refine wpAny_bind (wpAny_load ha ?_)
  show wpAny _ _ (update a (Obj.mapBytearray f) >>= fun _ => lookBehind a) _ _ _
  have h2 : (s.heap.update a (Obj.mapBytearray f)).get? a = some { cls := .type "bytearray", data := .bytearray (f b) } := Heap.get?_update_self (Obj.mapBytearray f) ha rfl
  refine wpAny_bind (wpAny_update ha (wpAny_lookBehind h2 ?_ (h _ (fun c o hc e => (Heap.get?_update_ne _ _ _ _ hc).trans e) (Heap.SameBut.update ..) h2)))
  show (if (f b).size > sizeLine then some "bytearray:memory" else none) = none
  rw [if_neg]
  rw [sizeLine_eq]; omega
theorem ba_init {a : Addr} {b : Array UInt8} {t : Tok} {R : Result → Shared → Prop} (hg : A.guards = some []) (ha : s.heap.get? a = some { cls := .type "bytearray", data := .bytearray #[] }) (hz : b.size ≤ 1000)
    (h : ∀ h', (∀ c o, c ≠ a → s.heap.get? c = some o → h'.get? c = some o) → h'.get? a = some { cls := .type "bytearray", data := .bytearray b } → R (.ok (.ret .none)) { s with heap := h' }) :
    codeC (model prog w) A (.call (.builtin "bytearray.__init__") ⟨[.ref a, .bytes b t], []⟩) R s := by
  have hT : s.TypeIs (.ref a) "bytearray" := ⟨_, ha, rfl⟩
  refine codeC_of_tree ?_
  show wpC _ A.in1 (do checkBuiltinCall "bytearray.__init__" ⟨[.ref a, .bytes b t], []⟩; again (.builtin "bytearray.__init__" ⟨[.ref a, .bytes b t], []⟩)) _ _ s
  refine wpC_bindA (BA.slot_init.check _ _ _ _ _ _ _ _ hT (by kernel_rfl) (wpC_pure ⟨plainId_quiet BA.plain_init _, rfl, codeC_builtin BA.entry_init ?_⟩))
  rw [Around.under_plainId BA.plain_init _]
  unfold Builtin.«bytearray.__init__»
  dsimp only
  refine wpC_bindA (own_release hT ?_)
  refine wpC_if_false rfl ?_
  refine wpC_bindA (wpAny_of_eq (BA.bind _) ?_)
  dsimp only
  refine wpC_bindA (wpAny_of_eq (a := ()) rfl ?_)
  refine wpC_bindA (wpAny_of_eq (a := ()) rfl ?_)
  refine wpC_bind (wpC_bind (exportedC hg (wpC_of ?_)))
  unfold Bytes.exportsOf
  refine wpAny_bind (wpAny_bind (wpAny_load ha (wpAny_pure (wpAny_pure ?_))))
  refine wpC_if_false (by decide) (wpC_of ?_)
  refine wpAny_bind (ba_write ha (by show (0:Nat) ≤ _; omega) fun h₁ k₁ _ g₁ => ?_)
  refine wpAny_bind (wpAny_of_eq (a := none) rfl ?_)
  refine bm_if_false rfl ?_
  refine wpAny_bind (wpAny_of_eq (a := ()) rfl ?_)
  refine wpAny_bind (wpAny_of_eq (KBy.special_eq BA.index_none) ?_)
  refine bm_if_false rfl ?_
  refine wpAny_bind (wpAny_of_eq KBy.buffer_eq ?_)
  dsimp only
  refine wpAny_bind (wpAny_rule ?_)
  refine wpAny_bind (ba_write g₁ hz fun h₂ k₂ _ g₂ => ?_)
  exact wpAny_pure (h h₂ (fun c o hc e => k₂ c o hc (k₁ c o hc e)) g₂)
/-- a bytes made a bytearray, in the ledger -/
theorem ba_K {h₀ : Heap} {L : Addr} {m : Str → Option Value} {news : List (Addr × Obj)} {b : Array UInt8} {t : Tok} {Q : Value → Shared → Prop} (F : Fr h₀ L s.heap m) (N : News h₀ L s.heap news) (hg : A.guards = some []) (hz : b.size ≤ 1000)
    (h : ∀ x h', Fr h₀ L h' m → News h₀ L h' ((x, { cls := .type "bytearray", data := .bytearray b }) :: news) → (∀ p ∈ news, p.1 < x) → Q (.ref x) { s with heap := h' }) :
    wpC (model prog w) A (call (.type "bytearray") [.bytes b t] []) Q E s := by
  refine ba_call (ba_init (s := { s with heap := s.heap.push { cls := .type "bytearray", data := .bytearray #[] } }) (by exact hg) (Heap.get?_push_size _ rfl) hz fun h' k g => ⟨rfl, ?_⟩)
  have k' : ∀ c o, s.heap.get? c = some o → h'.get? c = some o := fun c o e => k c o (Nat.ne_of_lt (Heap.lt_size e)) (Heap.get?_push_of_some _ e)
  refine h _ h' (F.keeps k') (fun p hp => ?_) fun p hp => Heap.lt_size (N p hp).1
  rcases List.mem_cons.mp hp with rfl | hp
  · obtain ⟨oL, _, _, hL, _⟩ := F.ns
    refine ⟨g, Nat.ne_of_gt (Heap.lt_size hL), ?_⟩
    cases q : h₀.get? s.heap.objs.size with
    | none => rfl
    | some o => exact absurd (Heap.lt_size (F.keep _ _ q)) (Nat.lt_irrefl _)
  · exact ⟨k' _ _ (N p hp).1, (N p hp).2.1, (N p hp).2.2⟩
end

abbrev baOf (b : Array UInt8) : Obj := { cls := .type "bytearray", data := .bytearray b }
namespace BA
open Builtin
theorem slot_len : Slot "bytearray" "__len__" "bytearray.__len__" :=
  .of (owner := "bytearray") (n := "__len__") (by rw [typeLookup_type, builtinLookup_eq_fast]; kernel_rfl) (by decide +kernel) (by decide +kernel) (by decide +kernel)
    (by first | exact .inl (by decide +kernel) | exact .inr (by decide +kernel)) (by rw [isSubtype_type]; kernel_rfl)
theorem slot_getitem : Slot "bytearray" "__getitem__" "bytearray.__getitem__" :=
  .of (owner := "bytearray") (n := "__getitem__") (by rw [typeLookup_type, builtinLookup_eq_fast]; kernel_rfl) (by decide +kernel) (by decide +kernel) (by decide +kernel)
    (by first | exact .inl (by decide +kernel) | exact .inr (by decide +kernel)) (by rw [isSubtype_type]; kernel_rfl)
theorem entry_len : entryFor table "bytearray.__len__" = some «bytearray.__len__» := by first | exact entryFor_of_fast (by kernel_rfl) | exact entryFor_of_tree (by kernel_rfl)
theorem entry_getitem : entryFor table "bytearray.__getitem__" = some «bytearray.__getitem__» := by first | exact entryFor_of_fast (by kernel_rfl) | exact entryFor_of_tree (by kernel_rfl)
theorem args_len (v : Value) : argsOk "bytearray.__len__" ⟨[v], []⟩ := by kernel_rfl
theorem args_getitem (v i : Value) : argsOk "bytearray.__getitem__" ⟨[v, i], []⟩ := by kernel_rfl
theorem len_meets {x : Addr} : Meets («bytearray.__len__» ⟨[.ref x], []⟩) (fun _ R s => ∃ b, s.heap.get? x = some (baOf b) ∧ R (.ok (.ret (.int b.size s.toks))) { s with toks := s.toks + 1 }) := by
  refine Meets.of_wp fun prog w A R s hs => ?_
  obtain ⟨b, ha, hq⟩ := hs
  unfold «bytearray.__len__»
  refine wpAny_bind (wpAny_of_eq (a := (.ref x, [])) rfl ?_)
  unfold Bytes.payload Bytes.payload?
  refine wpAny_bind (wpAny_bind (wpAny_bind (wpAny_load ha (wpAny_pure (wpAny_pure ?_)))))
  exact wpAny_bind (wpAny_mkInt (wpAny_pure ⟨_, rfl, hq⟩))
theorem subscript_int {M : Model} {A : Around} {E : Value → Shared → Prop} {s : Shared} {i : Int} {u : Tok} {Q : Option Int → Shared → Prop} (h0 : 0 ≤ i) (h1 : i < 1000) (h : Q (some i) s) : wpAny M A (Bytes.subscript? (.int i u)) Q E s := by
  unfold Bytes.subscript?
  refine wpAny_bind (wpAny_specialOf (T := "int") (typeIs_int _ _ _) F.slot_int_index.lookup ?_)
  show wpAny _ _ (if (!Bytes.fitsIndex i) = true then _ else pure (some i)) _ _ _
  rw [if_neg (by simp only [Bytes.fitsIndex]; simp only [Bool.not_eq_true', Bool.not_eq_false, Bool.and_eq_true, decide_eq_true_eq]; omega)]
  exact wpAny_pure h
theorem item_meets {x : Addr} {i : Int} {u : Tok} (h0 : 0 ≤ i) (h1 : i < 1000) : Meets («bytearray.__getitem__» ⟨[.ref x, .int i u], []⟩) (fun _ R s => ∃ b, s.heap.get? x = some (baOf b) ∧ i < (KBw.bInts b).length ∧ R (.ok (.ret (.int ((KBw.bInts b).getD i.toNat 0) s.toks))) { s with toks := s.toks + 1 }) := by
  refine Meets.of_wp fun prog w A R s hs => ?_
  obtain ⟨b, ha, hi, hq⟩ := hs
  unfold «bytearray.__getitem__»
  refine wpAny_bind (wpAny_of_eq (a := (.ref x, [.int i u])) rfl ?_)
  dsimp only
  refine wpAny_bind (subscript_int h0 h1 ?_)
  dsimp only
  unfold Bytes.payload Bytes.payload?
  refine wpAny_bind (wpAny_bind (wpAny_bind (wpAny_load ha (wpAny_pure (wpAny_pure ?_)))))
  rw [KBw.ints_length] at hi
  have hlt : i.toNat < b.size := by omega
  have e : (seqIndex? i b.size).bind (b[·]?) = some b[i.toNat] := by
    have e1 : seqIndex? i b.size = some i.toNat := by simp only [seqIndex?, if_neg (show ¬ i < 0 by omega), Bool.and_eq_true, decide_eq_true_eq]; exact if_pos ⟨h0, by omega⟩
    rw [e1]; simp [hlt]
  rw [e]
  have hg : (KBw.bInts b).getD i.toNat 0 = ((b[i.toNat].toNat : Nat) : Int) := by
    unfold KBw.bInts
    rw [List.getD_eq_getElem?_getD, List.getElem?_map]
    simp [hlt]
  rw [hg] at hq
  exact wpAny_bind (wpAny_mkInt (wpAny_pure ⟨_, rfl, hq⟩))
theorem slice_meets {x a : Addr} {l u : Value} {lo hi : Option Int} (hl : IsPart l lo) (hu : IsPart u hi) :
    Meets («bytearray.__getitem__» ⟨[.ref x, .ref a], []⟩) (fun _ R s => s.heap.IsSliceOf a l u .none ∧ ∃ b, s.heap.get? x = some (baOf b) ∧ b.size ≤ 1000 ∧ R (.ok (.ret (.ref s.heap.objs.size))) { s with heap := s.heap.push (baOf (KBy.picked b lo hi)) }) := by
  refine Meets.of_wp fun prog w A R s hs => ?_
  obtain ⟨⟨o, ho, hc, hd⟩, b, ha, hz, hq⟩ := hs
  have hT : s.TypeIs (.ref a) "slice" := ⟨o, ho, hc⟩
  unfold «bytearray.__getitem__»
  refine wpAny_bind (wpAny_of_eq (a := (.ref x, [.ref a])) rfl ?_)
  dsimp only
  refine wpAny_bind ?_
  unfold Bytes.subscript?
  refine wpAny_bind (wpAny_specialOf hT slice_no_index (wpAny_pure ?_))
  dsimp only
  refine wpAny_bind (wpAny_typeOf hT ?_)
  refine bm_if_false rfl ?_
  refine wpAny_bind ?_
  unfold Bytes.sliceParts
  refine wpAny_bind (wpAny_field (x := .none) ho hd rfl ?_)
  kby_none
  refine wpAny_ite (KBy.ite_no (show ¬ ((Value.none == rawInt 0) = true) from Bool.false_ne_true) ?_)
  refine wpAny_bind (wpAny_field (x := l) ho hd rfl ?_)
  have go : wpAny (model prog w) A.in1 (sliceIndices (rawPart lo) (rawPart hi) (rawPart none) b.size) (fun r s' => r = sliceBounds lo hi none b.size ∧ s' = s) (fun _ _ => False) s :=
    wpAny_of_eq (sliceIndices_raw lo hi none b.size (fun e => nomatch e)) ⟨rfl, rfl⟩
  have hp : (KBy.picked b lo hi).size ≤ sizeLine := by have := KBc.size_picked_le b lo hi; rw [sizeLine_eq]; omega
  cases hl <;> cases hu <;> (first
    | (kby_none; (refine wpAny_bind (wpAny_field (x := .none) ho hd rfl ?_)); kby_none)
    | (kby_none; (refine wpAny_bind (wpAny_field (x := .int _ _) ho hd rfl ?_)); kby_int)
    | (kby_int; (refine wpAny_bind (wpAny_field (x := .none) ho hd rfl ?_)); kby_none)
    | (kby_int; (refine wpAny_bind (wpAny_field (x := .int _ _) ho hd rfl ?_)); kby_int)) <;> refine wpAny_pure ?_
  all_goals
    unfold Bytes.payload Bytes.payload?
    refine wpAny_bind (wpAny_bind (wpAny_bind (wpAny_load ha (wpAny_pure (wpAny_pure ?_)))))
    refine wpAny_bind (wpAny_mono go (fun r s' hr => ?_) fun _ _ e => e.elim)
    obtain ⟨hr1, hr2⟩ := hr
    subst hr1 hr2
    exact wpAny_bind (wpAny_newObj_type (wpAny_pure ⟨_, rfl, hq⟩) hp)
end BA
section
variable {prog : Program} {w : World} {A : Around} {E : Value → Shared → Prop} {s : Shared}
theorem ba_len {x : Addr} {b : Array UInt8} {Q : Value → Shared → Prop} (ha : s.heap.get? x = some (baOf b)) (hz : b.size ≤ 1000) (h : Q (.int b.size (s.toks + 1)) { s with toks := s.toks + 1 + 1 }) : wpAny (model prog w) A (call (.builtin "len") [.ref x]) Q E s :=
  call_len_slot ⟨_, ha, rfl⟩ BA.slot_len (fun Q' hq => call_meets BA.slot_len ⟨_, ha, rfl⟩ BA.entry_len (BA.args_len _) BA.len_meets ⟨b, ha, hq⟩) (by omega) (by omega) h
theorem ba_item {x : Addr} {b : Array UInt8} {ks : List Int} {i : Int} {u : Tok} {value slice : Expr} {Q : Value → Shared → Prop} (ha : s.heap.get? x = some (baOf b)) (hk : KBw.bInts b = ks) (h0 : 0 ≤ i) (h1 : i < ks.length) (hz : ks.length ≤ 1000)
    (h : ∀ t k, Q (.int (ks.getD i.toNat 0) t) { s with toks := k }) (hs : subscripted slice false (.ref x) (.int i u) = operate [.ref x, .int i u] (getItem (.ref x) (.int i u)) := by with_unfolding_all rfl)
    (ht : ∀ r, letTemporaryGo value (.ref x) r = pure () := by intro _; with_unfolding_all rfl) : wpAny (model prog w) A (subscriptTail value slice (.ref x) (.int i u)) Q E s := by
  subst hk
  exact tail_of_ItemOn ⟨"bytearray", _, BA.slot_getitem.lookup, ⟨_, ha, rfl⟩, getItem_meets ⟨_, ha, rfl⟩ (by decide) BA.slot_getitem BA.entry_getitem (BA.args_getitem _ _) (BA.item_meets h0 (by omega)) ⟨b, ha, h1, h _ _⟩⟩ hs ht
theorem ba_slice {h₀ : Heap} {L : Addr} {m : Str → Option Value} {news : List (Addr × Obj)} {x : Addr} {b : Array UInt8} {ks : List Int} {l u : Value} {lo hi : Option Int} {value slice : Expr} {Q : Value → Shared → Prop} (F : Fr h₀ L s.heap m) (N : News h₀ L s.heap news) (hx : (x, baOf b) ∈ news) (hk : KBw.bInts b = ks)
    (hl : IsPart l lo) (hu : IsPart u hi) (hz : ks.length ≤ 1000)
    (h : ∀ y b' h', Fr h₀ L h' m → News h₀ L h' ((y, baOf b') :: news) → (∀ p ∈ news, p.1 < y) → KBw.bInts b' = (ks.drop (lo.elim 0 (clipAt ks.length))).take (hi.elim ks.length (clipAt ks.length) - lo.elim 0 (clipAt ks.length)) → Q (.ref y) { s with heap := h' })
    (hs : subscripted slice false (.ref x) (.ref s.heap.objs.size) = operate [.ref s.heap.objs.size, .ref x] (getItem (.ref x) (.ref s.heap.objs.size)) := by with_unfolding_all rfl)
    (ht : ∀ r, letTemporaryGo value (.ref x) r = pure () := by intro _; with_unfolding_all rfl) :
    wpAny (model prog w) A (subscriptTail value slice (.ref x) (.ref s.heap.objs.size)) Q E { s with heap := s.heap.push { cls := .type "slice", data := .fields #[l, u, .none] } } := by
  have ha := (News.pushKeep N { cls := .type "slice", data := .fields #[l, u, .none] } (x, baOf b) hx).1
  have hT : ({ s with heap := s.heap.push { cls := .type "slice", data := .fields #[l, u, .none] } } : Shared).TypeIs (.ref x) "bytearray" := ⟨_, ha, rfl⟩
  have N1 := News.pushKeep N { cls := .type "slice", data := .fields #[l, u, .none] }
  exact tail_of_ItemOn ⟨"bytearray", _, BA.slot_getitem.lookup, hT, getItem_meets hT (by decide) BA.slot_getitem BA.entry_getitem (BA.args_getitem _ _) (BA.slice_meets hl hu)
    ⟨Heap.IsSliceOf.new _ _ _ _, b, ha, by rw [← KBw.ints_length, hk]; exact hz, h _ _ _ ((F.push _).push _) (News.push (F.push _) N1 _) (fun p hp => Heap.lt_size (N1 p hp).1) (KBc.ints_picked hk lo hi)⟩⟩ hs ht
end

namespace BA
open Builtin
theorem slot_iter : Slot "bytearray" "__iter__" "bytearray.__iter__" :=
  .of (owner := "bytearray") (n := "__iter__") (by rw [typeLookup_type, builtinLookup_eq_fast]; kernel_rfl) (by decide +kernel) (by decide +kernel) (by decide +kernel)
    (by first | exact .inl (by decide +kernel) | exact .inr (by decide +kernel)) (by rw [isSubtype_type]; kernel_rfl)
theorem slot_next : Slot "bytearray_iterator" "__next__" "bytearray_iterator.__next__" :=
  .of (owner := "bytearray_iterator") (n := "__next__") (by rw [typeLookup_type, builtinLookup_eq_fast]; kernel_rfl) (by decide +kernel) (by decide +kernel) (by decide +kernel)
    (by first | exact .inl (by decide +kernel) | exact .inr (by decide +kernel)) (by rw [isSubtype_type]; kernel_rfl)
theorem slot_self : Slot "bytearray_iterator" "__iter__" "bytearray_iterator.__iter__" :=
  .of (owner := "bytearray_iterator") (n := "__iter__") (by rw [typeLookup_type, builtinLookup_eq_fast]; kernel_rfl) (by decide +kernel) (by decide +kernel) (by decide +kernel)
    (by first | exact .inl (by decide +kernel) | exact .inr (by decide +kernel)) (by rw [isSubtype_type]; kernel_rfl)
theorem entry_iter : entryFor table "bytearray.__iter__" = some «bytearray.__iter__» := by first | exact entryFor_of_fast (by kernel_rfl) | exact entryFor_of_tree (by kernel_rfl)
theorem entry_next : entryFor table "bytearray_iterator.__next__" = some «bytearray_iterator.__next__» := by first | exact entryFor_of_fast (by kernel_rfl) | exact entryFor_of_tree (by kernel_rfl)
theorem entry_self : entryFor table "bytearray_iterator.__iter__" = some «dict_keyiterator.__iter__» := entryFor_alias (id' := "dict_keyiterator.__iter__") (by kernel_rfl) (by decide +kernel) (by decide +kernel) (by kernel_rfl)
theorem args_iter (v : Value) : argsOk "bytearray.__iter__" ⟨[v], []⟩ := by kernel_rfl
theorem args_next (v : Value) : argsOk "bytearray_iterator.__next__" ⟨[v], []⟩ := by kernel_rfl
theorem args_self (v : Value) : argsOk "bytearray_iterator.__iter__" ⟨[v], []⟩ := by kernel_rfl
end BA
def BaIter (h : Heap) (I x : Addr) (i : Nat) : Prop := ∃ o, h.get? I = some o ∧ o.cls = .type "bytearray_iterator" ∧ o.data = .fields #[.ref x, .int i 0]
theorem BaIter.type {s : Shared} {I x : Addr} {i : Nat} (y : BaIter s.heap I x i) : s.TypeIs (.ref I) "bytearray_iterator" := let ⟨o, ho, hc, _⟩ := y; ⟨o, ho, hc⟩
section
open Builtin
variable {prog : Program} {w : World} {A : Around} {E : Value → Shared → Prop} {s : Shared} {x I : Addr} {b : Array UInt8} {i : Nat}
theorem ba_iter {Q : Value → Shared → Prop} (ha : s.heap.get? x = some (baOf b)) (hQ : Q (.ref s.heap.objs.size) { s with heap := s.heap.push { cls := .type "bytearray_iterator", data := .fields #[.ref x, .int 0 0] } }) : wpAny (model prog w) A (pyIter (.ref x)) Q E s := by
  refine wpAny_pyIter_slot ⟨_, ha, rfl⟩ BA.slot_iter (wpAny_call_entry BA.slot_iter ⟨_, ha, rfl⟩ BA.entry_iter ?_ (BA.args_iter _))
  show wpAny _ _ (do ret (← newFields "bytearray_iterator" [.ref x, rawInt 0])) _ _ s
  exact wpAny_bind (wpAny_newObj_type (wpAny_pure ⟨_, rfl, "bytearray_iterator", _, ⟨_, Heap.get?_push_size _ rfl, rfl⟩, BA.slot_next.lookup, hQ⟩))
theorem ba_iter_self {Q : Value → Shared → Prop} (hit : BaIter s.heap I x i) (h : Q (.ref I) s) : wpAny (model prog w) A (pyIter (.ref I)) Q E s := by
  refine wpAny_pyIter_slot hit.type BA.slot_self (wpAny_call_entry BA.slot_self hit.type BA.entry_self ?_ (BA.args_self _))
  show wpAny _ _ (ret (.ref I)) _ _ s
  exact wpAny_pure ⟨_, rfl, "bytearray_iterator", _, hit.type, BA.slot_next.lookup, h⟩
theorem ba_next {c : UInt8} {Q : Option Value → Shared → Prop} (hit : BaIter s.heap I x i) (ha : s.heap.get? x = some (baOf b)) (hc : b[i]? = some c)
    (hQ : ∀ h', BaIter h' I x (i + 1) → Heap.SameBut I s.heap h' → Q (some (.int (c.toNat : Int) s.toks)) { s with heap := h', toks := s.toks + 1 }) : wpAny (model prog w) A (pyNext (.ref I)) Q E s := by
  obtain ⟨o, ho, hcl, hd⟩ := id hit
  unfold pyNext
  refine wpAny_bind (wpAny_attempt (wpAny_callSpecial?_slot (name := Str.ofString "__next__") hit.type BA.slot_next (wpAny_call_entry BA.slot_next hit.type BA.entry_next ?_ (BA.args_next _))))
  unfold «bytearray_iterator.__next__»
  refine wpAny_bind (wpAny_of_eq (a := (.ref I, [])) rfl ?_)
  dsimp only
  refine wpAny_bind (wpAny_field ho hd (x := .ref x) rfl ?_)
  dsimp only
  refine wpAny_bind (wpAny_load ha ?_)
  dsimp only
  refine wpAny_bind (wpAny_field ho hd (x := .int i 0) rfl ?_)
  simp only [Int.toNat_natCast, hc]
  refine wpAny_bind (wpAny_setField ho hd (by simp) (wpAny_bind (wpAny_mkInt (wpAny_pure ⟨_, rfl, wpAny_pure (hQ _ ?_ (Heap.SameBut.update ..))⟩))))
  exact ⟨_, Heap.get?_update_self _ ho (Obj.isFreed_of_fields (Obj.data_mapFields hd _)), (Obj.cls_mapFields ..).trans hcl, by rw [Obj.data_mapFields hd]; simp [rawInt]⟩
theorem ba_end {Q : Option Value → Shared → Prop} (hh : A.handled = none) (hit : BaIter s.heap I x i) (ha : s.heap.get? x = some (baOf b)) (hc : b[i]? = none)
    (hQ : ∀ h', Heap.ExtBut I s.heap h' → Q none { s with heap := h' }) : wpAny (model prog w) A (pyNext (.ref I)) Q E s := by
  obtain ⟨o, ho, hcl, hd⟩ := id hit
  unfold pyNext
  refine wpAny_bind (wpAny_attempt (wpAny_callSpecial?_slot (name := Str.ofString "__next__") hit.type BA.slot_next (wpAny_call_entry BA.slot_next hit.type BA.entry_next ?_ (BA.args_next _))))
  unfold «bytearray_iterator.__next__»
  refine wpAny_bind (wpAny_of_eq (a := (.ref I, [])) rfl ?_)
  dsimp only
  refine wpAny_bind (wpAny_field ho hd (x := .ref x) rfl ?_)
  dsimp only
  refine wpAny_bind (wpAny_load ha ?_)
  dsimp only
  refine wpAny_bind (wpAny_field ho hd (x := .int i 0) rfl ?_)
  simp only [Int.toNat_natCast, hc]
  refine wpAny_bind (wpAny_rule (wpAny_bind (wpAny_setField ho hd (by simp) (wpAny_bind (wpAny_letGo ?_)))))
  show wpAny _ _ (newExc (.type "StopIteration") [] >>= _) _ _ _
  refine wpAny_bind ?_
  simp only [newExc, newTuple]
  refine wpAny_bind (wpAny_newObj_type ?_ (by size_fits))
  refine wpAny_bind (m := firstArgMember _ _) (wpAny_of_eq (a := Value.none) (by first | rfl | (simp only [firstArgMember]; rfl)) ?_)
  refine wpAny_newObj_type ?_ (by size_fits)
  simp only [raiseNew]
  refine wpAny_bind (wpAny_handled ?_)
  rw [show A.in1.handled = none from hh]
  refine wpAny_bind (wpAny_pure (wpAny_throw ?_))
  refine wpAny_bind (wpAny_isInstance (T := "StopIteration") (b := true) ⟨_, Heap.get?_push_size _ rfl, rfl⟩ isSubtype_stop ?_)
  exact wpAny_pure (hQ _ (((Heap.SameBut.update ..).extBut.push _).push _))
theorem ba_walks (hh : A.handled = none) (I x : Addr) (b : Array UInt8) (hne : x ≠ I) :
    Walks prog w A I [I, x] [I] b.size (fun i v => ∃ c u, b[i]? = some c ∧ v = .int (c.toNat : Int) u) (fun i h => BaIter h I x i ∧ h.get? x = some (baOf b)) where
  sub := fun _ hb => List.mem_cons.mpr (.inl (List.mem_singleton.mp hb))
  frame := fun _ _ _ st hk => ⟨let ⟨o, ho, r⟩ := st.1; ⟨o, hk I (by simp) o ho, r⟩, hk x (by simp) _ st.2⟩
  item := fun i s Q E hi st hQ => by
    refine ba_next st.1 st.2 (c := b[i]) (by simp [hi]) fun h' hit' hs' => ?_
    exact hQ _ h' (s.toks + 1) ⟨_, _, by simp [hi], rfl⟩ ⟨hit', (hs'.2 x hne).trans st.2⟩ fun b o hb e => hs'.extBut b o (fun h => hb (by simp [h])) e
  done := fun s Q E st hQ => ba_end hh st.1 st.2 (by simp) fun h' he' => hQ h' s.toks fun b o hb e => he' b o (fun h => hb (by simp [h])) e
  self := fun _ _ _ _ st hQ => ba_iter_self st.1 hQ
end
section
variable {prog : Program} {w : World} {A : Around} {E : Value → Shared → Prop} {s : Shared} {env : Env} {h₀ : Heap} {v : Str} {body : List Stmt} {Q : Flow → Shared → Prop}
theorem iter_ba {x : Addr} {b : Array UInt8} {ks : List Int} {m₀ : Str → Option Value} {news : List (Addr × Obj)} (J : Nat → (Str → Option Value) → Prop)
    (hh : A.handled = none) (F : Fr h₀ env.locals s.heap m₀) (N : News h₀ env.locals s.heap news) (hx : (x, baOf b) ∈ news) (hk : KBw.bInts b = ks) (hj : J 0 m₀)
    (turn : ∀ i k t m₁ h tk own, ks[i]? = some k → J i m₁ → Fr h₀ env.locals h (fun y => if y = v then some (.int k t) else m₁ y) → News h₀ env.locals h (own ++ news) →
      wpAny (model prog w) A (execs body env) (InvPost h₀ env.locals (J (i + 1)) (own ++ news) { s with heap := h, toks := tk } Q) E { s with heap := h, toks := tk })
    (done : ∀ m₁ h tk, J ks.length m₁ → Fr h₀ env.locals h m₁ → News h₀ env.locals h news → Q .next { s with heap := h, toks := tk }) :
    wpAny (model prog w) A (pyIter (.ref x)) (fun it s₂ => LoopAtV prog w A h₀ env v body Q E it s₂) E s := by
  subst hk
  have hax := N _ hx
  have hne : x ≠ s.heap.objs.size := Nat.ne_of_lt (Heap.lt_size hax.1)
  refine ba_iter hax.1 ?_
  let J' : Nat → (Str → Option Value) → List (Addr × Obj) → Prop := fun i m₁ news₁ => news₁ = news ∧ J i m₁
  refine ⟨_, _, _, b.size, _, _, m₀, news, J', rfl, ba_walks (prog := prog) (w := w) hh s.heap.objs.size x b hne, ?_, ?_, ?_, ⟨⟨_, Heap.get?_push_size _ rfl, rfl, rfl⟩, Heap.get?_push_of_some _ hax.1⟩, F.push _, (fun p hp => ⟨Heap.get?_push_of_some _ (N p hp).1, (N p hp).2⟩), ⟨rfl, hj⟩, ?_, ?_⟩
  · intro hm
    rcases List.mem_cons.mp hm with e | hm
    · exact absurd F.ns.lt (e ▸ Nat.lt_irrefl _)
    · exact hax.2.1 (List.mem_singleton.mp hm).symm
  · intro c hc
    rw [List.mem_singleton.mp hc]
    exact next_is_new F
  · intro p hp hI
    exact absurd (Heap.lt_size (N p hp).1) ((List.mem_singleton.mp hI) ▸ Nat.lt_irrefl _)
  · rintro i u m₁ news₁ s₁ own ⟨hh', tk', rfl⟩ hin ⟨c, t, hc, rfl⟩ ⟨rfl, hJ⟩ hoff _ _ _ _ F₁ N₁
    refine wpAny_mono (turn i (c.toNat : Int) t m₁ hh' tk' own (KBw.ints_get hc) hJ F₁ N₁) (fun f s₂ p => ?_) fun _ _ e => e
    have fin : InvEnd h₀ env.locals (J (i + 1)) (own ++ news₁) { s with heap := hh', toks := tk' } s₂ → LoopStepU h₀ env.locals [s.heap.objs.size] own (J' (i + 1)) { s with heap := hh', toks := tk' } .next s₂ := by
      rintro ⟨h', tk, m', news', e, F', N', hn, hm⟩
      exact ⟨rfl, h', tk, m', news₁, e, F', fun p hp => N' p (hn p hp), hoff, rfl, hm⟩
    cases f with
    | ret v => exact .ret p
    | brk => exact .brk p
    | next => exact .next (fin p)
    | cont => exact .cont (fin p)
  · rintro h' tk m' news' F' N' _ ⟨rfl, hJ⟩
    rw [← KBw.ints_length] at hJ
    exact done m' h' tk hJ F' N'
end
section
variable {prog : Program} {w : World} {A : Around} {E : Value → Shared → Prop} {s : Shared} {env : Env} {h₀ : Heap} {v : Str} {body : List Stmt} {Q : Flow → Shared → Prop}
/-- a loop over a list of the ledger that the body leaves as it is -/
theorem iter_ls {x : Addr} {vs : List Value} {ks : List Int} {c : Nat} {m₀ : Str → Option Value} {news : List (Addr × Obj)} (J : Nat → (Str → Option Value) → Prop)
    (hh : A.handled = none) (F : Fr h₀ env.locals s.heap m₀) (N : News h₀ env.locals s.heap news) (hx : (x, listOf vs.toArray c) ∈ news) (hi : IntsAre vs ks) (hj : J 0 m₀)
    (turn : ∀ i k t m₁ h tk own, ks[i]? = some k → J i m₁ → Fr h₀ env.locals h (fun y => if y = v then some (.int k t) else m₁ y) → News h₀ env.locals h (own ++ news) →
      wpAny (model prog w) A (execs body env) (InvPost h₀ env.locals (J (i + 1)) (own ++ news) { s with heap := h, toks := tk } Q) E { s with heap := h, toks := tk })
    (done : ∀ m₁ h tk, J ks.length m₁ → Fr h₀ env.locals h m₁ → News h₀ env.locals h news → Q .next { s with heap := h, toks := tk }) :
    wpAny (model prog w) A (pyIter (.ref x)) (fun it s₂ => LoopAtV prog w A h₀ env v body Q E it s₂) E s := by
  have hax := N _ hx
  have hls : s.heap.IsList x vs.toArray := N.isList hx
  have hne : x ≠ s.heap.objs.size := Nat.ne_of_lt (Heap.lt_size hax.1)
  refine wpAny_pyIter_list hls ?_
  have W := Walks.list (prog := prog) (w := w) hh s.heap.objs.size x hne vs.toArray
  have hlen : vs.toArray.size = ks.length := by simp [hi.length]
  rw [hlen] at W
  let J' : Nat → (Str → Option Value) → List (Addr × Obj) → Prop := fun i m₁ news₁ => news₁ = news ∧ J i m₁
  refine ⟨_, _, _, ks.length, _, _, m₀, news, J', rfl, W, ?_, ?_, ?_, ⟨⟨_, Heap.get?_push_size _ rfl, rfl, rfl⟩, hls.at fun o e => Heap.get?_push_of_some _ e⟩, F.push _, (fun p hp => ⟨Heap.get?_push_of_some _ (N p hp).1, (N p hp).2⟩), ⟨rfl, hj⟩, ?_, ?_⟩
  · intro hm
    rcases List.mem_cons.mp hm with e | hm
    · exact absurd F.ns.lt (e ▸ Nat.lt_irrefl _)
    · exact hax.2.1 (List.mem_singleton.mp hm).symm
  · intro c hc
    rw [List.mem_singleton.mp hc]
    exact next_is_new F
  · intro p hp hI
    exact absurd (Heap.lt_size (N p hp).1) ((List.mem_singleton.mp hI) ▸ Nat.lt_irrefl _)
  · rintro i u m₁ news₁ s₁ own ⟨hh', tk', rfl⟩ hin hP ⟨rfl, hJ⟩ hoff _ _ _ _ F₁ N₁
    have hlt : i < ks.length := hin
    obtain ⟨t, ht⟩ := hi.get i ks[i] (by simp [hlt])
    have hu : u = .int ks[i] t := by
      have hP' : vs[i]? = some u := by simpa using hP
      rw [ht] at hP'
      exact (Option.some.inj hP').symm
    subst hu
    refine wpAny_mono (turn i ks[i] t m₁ hh' tk' own (by simp [hlt]) hJ F₁ N₁) (fun f s₂ p => ?_) fun _ _ e => e
    have fin : InvEnd h₀ env.locals (J (i + 1)) (own ++ news₁) { s with heap := hh', toks := tk' } s₂ → LoopStepU h₀ env.locals [s.heap.objs.size] own (J' (i + 1)) { s with heap := hh', toks := tk' } .next s₂ := by
      rintro ⟨h', tk, m', news', e, F', N', hn, hm⟩
      exact ⟨rfl, h', tk, m', news₁, e, F', fun p hp => N' p (hn p hp), hoff, rfl, hm⟩
    cases f with
    | ret v => exact .ret p
    | brk => exact .brk p
    | next => exact .next (fin p)
    | cont => exact .cont (fin p)
  · rintro h' tk m' news' F' N' _ ⟨rfl, hJ⟩
    exact done m' h' tk hJ F' N'
end
section
variable {prog : Program} {w : World} {A : Around} {E : Value → Shared → Prop} {s : Shared} {env : Env} {h₀ : Heap} {v : Str} {body : List Stmt} {Q : Flow → Shared → Prop}
theorem fold_keeps {g : Int → Int → Int} {ks : List Int} {a₀ : Int} (P : Int → Prop) (p0 : P a₀) (pn : ∀ a n, n ∈ ks → P a → P (g a n)) (i : Nat) : P ((ks.take i).foldl g a₀) := by
  have h : ∀ (l : List Int) (a : Int), (∀ n ∈ l, n ∈ ks) → P a → P (l.foldl g a) := fun l => by
    induction l with
    | nil => exact fun a _ ha => ha
    | cons n r ih => exact fun a hl ha => ih _ (fun k hk => hl k (.tail _ hk)) (pn a n (hl n (.head _)) ha)
  exact h _ _ (fun n hn => List.mem_of_mem_take hn) p0
theorem iter_ls1 {x : Addr} {vs : List Value} {c : Nat} {ks : List Int} {m₀ : Str → Option Value} {news : List (Addr × Obj)} {y : Str} {a₀ : Int} {t₀ : Tok} (g : Int → Int → Int) (P : Int → Prop) (p0 : P a₀) (pn : ∀ a n, n ∈ ks → P a → P (g a n))
    (hh : A.handled = none) (F : Fr h₀ env.locals s.heap m₀) (N : News h₀ env.locals s.heap news) (hx : (x, listOf vs.toArray c) ∈ news) (hi : IntsAre vs ks) (hy : m₀ y = some (.int a₀ t₀))
    (turn : ∀ n t a ta h tk own, n ∈ ks → P a → Fr h₀ env.locals h (fun z => if z = v then some (.int n t) else if z = y then some (.int a ta) else m₀ z) → News h₀ env.locals h (own ++ news) →
      wpAny (model prog w) A (execs body env) (InvPost h₀ env.locals (fun m' => (∃ t', m' y = some (.int (g a n) t')) ∧ ∀ z, z ≠ v → z ≠ y → m' z = m₀ z) (own ++ news) { s with heap := h, toks := tk } Q) E { s with heap := h, toks := tk })
    (done : ∀ (u : Str → Option Value) t h tk, Fr h₀ env.locals h (fun z => if z = v then u z else if z = y then some (.int (ks.foldl g a₀) t) else m₀ z) → News h₀ env.locals h news → Q .next { s with heap := h, toks := tk }) :
    wpAny (model prog w) A (pyIter (.ref x)) (fun it s₂ => LoopAtV prog w A h₀ env v body Q E it s₂) E s := by
  refine iter_ls (fun i m => (∃ t, m y = some (.int ((ks.take i).foldl g a₀) t)) ∧ ∀ z, z ≠ v → z ≠ y → m z = m₀ z) hh F N hx hi ⟨⟨t₀, by simpa using hy⟩, fun _ _ _ => rfl⟩ ?_ ?_
  · rintro i n t m₁ h tk own hn ⟨⟨ta, ha⟩, hm⟩ F₁ N₁
    rw [map_one ha hm] at F₁
    have hs : (ks.take (i + 1)).foldl g a₀ = g ((ks.take i).foldl g a₀) n := by
      rw [List.take_add_one, hn]; simp
    rw [hs]
    exact turn n t _ ta h tk own (List.mem_of_getElem? hn) (fold_keeps P p0 pn i) F₁ N₁
  · rintro m₁ h tk ⟨⟨t, ha⟩, hm⟩ F₁ N₁
    rw [List.take_length] at ha
    refine done m₁ t h tk ?_ N₁
    rw [done_one ha hm]; exact F₁
theorem iter_ba1 {x : Addr} {b : Array UInt8} {ks : List Int} {m₀ : Str → Option Value} {news : List (Addr × Obj)} {y : Str} {a₀ : Int} {t₀ : Tok} (g : Int → Int → Int) (P : Int → Prop) (p0 : P a₀) (pn : ∀ a n, n ∈ ks → P a → P (g a n))
    (hh : A.handled = none) (F : Fr h₀ env.locals s.heap m₀) (N : News h₀ env.locals s.heap news) (hx : (x, baOf b) ∈ news) (hi : KBw.bInts b = ks) (hy : m₀ y = some (.int a₀ t₀))
    (turn : ∀ n t a ta h tk own, n ∈ ks → P a → Fr h₀ env.locals h (fun z => if z = v then some (.int n t) else if z = y then some (.int a ta) else m₀ z) → News h₀ env.locals h (own ++ news) →
      wpAny (model prog w) A (execs body env) (InvPost h₀ env.locals (fun m' => (∃ t', m' y = some (.int (g a n) t')) ∧ ∀ z, z ≠ v → z ≠ y → m' z = m₀ z) (own ++ news) { s with heap := h, toks := tk } Q) E { s with heap := h, toks := tk })
    (done : ∀ (u : Str → Option Value) t h tk, Fr h₀ env.locals h (fun z => if z = v then u z else if z = y then some (.int (ks.foldl g a₀) t) else m₀ z) → News h₀ env.locals h news → Q .next { s with heap := h, toks := tk }) :
    wpAny (model prog w) A (pyIter (.ref x)) (fun it s₂ => LoopAtV prog w A h₀ env v body Q E it s₂) E s := by
  refine iter_ba (fun i m => (∃ t, m y = some (.int ((ks.take i).foldl g a₀) t)) ∧ ∀ z, z ≠ v → z ≠ y → m z = m₀ z) hh F N hx hi ⟨⟨t₀, by simpa using hy⟩, fun _ _ _ => rfl⟩ ?_ ?_
  · rintro i n t m₁ h tk own hn ⟨⟨ta, ha⟩, hm⟩ F₁ N₁
    rw [map_one ha hm] at F₁
    have hs : (ks.take (i + 1)).foldl g a₀ = g ((ks.take i).foldl g a₀) n := by
      rw [List.take_add_one, hn]; simp
    rw [hs]
    exact turn n t _ ta h tk own (List.mem_of_getElem? hn) (fold_keeps P p0 pn i) F₁ N₁
  · rintro m₁ h tk ⟨⟨t, ha⟩, hm⟩ F₁ N₁
    rw [List.take_length] at ha
    refine done m₁ t h tk ?_ N₁
    rw [done_one ha hm]; exact F₁
end

def fieldX (ns : List Int) (k many : Int) : Int := ((((ns.getD (k.fmod ns.length).toNat 0).natAbs : Int) + k * 7919 + ((ns.getD (k.fmod ns.length).toNat 0).natAbs : Int).fdiv 256 * k.fmod 5).fmod many)
theorem fieldX_is (ns : List Int) (k many : Int) : ∃ v, v = fieldX ns k many := ⟨_, rfl⟩
noncomputable def fieldV (ns : List Int) (k many : Int) : Int := Classical.choose (fieldX_is ns k many)
theorem fieldV_eq (ns : List Int) (k many : Int) : fieldV ns k many = fieldX ns k many := Classical.choose_spec (fieldX_is ns k many)
theorem fieldV_lo {ns : List Int} {k many : Int} (h : 0 < many) : 0 ≤ fieldV ns k many := by rw [fieldV_eq]; unfold fieldX; rw [Int.fmod_eq_emod_of_nonneg _ (by omega)]; exact Int.emod_nonneg _ (by omega)
theorem fieldV_hi {ns : List Int} {k many : Int} (h : 0 < many) : fieldV ns k many < many := by rw [fieldV_eq]; unfold fieldX; rw [Int.fmod_eq_emod_of_nonneg _ (by omega)]; exact Int.emod_lt_of_pos _ h
theorem fieldV_nil {ns : List Int} {k many : Int} (h : ¬ 0 < ns.length) : ((0 + k * 7919 + Int.fdiv 0 256 * k.fmod 5).fmod many) = fieldV ns k many := by
  have e : ns = [] := List.eq_nil_of_length_eq_zero (by omega)
  subst e; rw [fieldV_eq]; rfl

theorem kge {a k : Int} (h : 0 ≤ k) (ha : 0 ≤ a) : 0 ≤ a + k := Int.add_nonneg ha h
theorem klt {a k : Int} {n : Nat} (h : k < 0 + (n : Int)) (hn : a + n ≤ 64) : a + k < 64 := by omega
section
variable {w : World} {dp un : Nat} {gd : Option (List Code)} {cn : Str} {cs : Scope} {a : Addr} {ccd : Value} {cl : List (Str × Addr)} {outer : List Env} {A₀ : Around} {base h₀ : Heap} {L : Addr} {m : Str → Option Value} {news : List (Addr × Obj)} {s : Shared} {Q E : Value → Shared → Prop} {loose : List Str} {mean : ExcName → Option Value} {mg mb : Str → Option Value}
  (B : Below A₀ base outer h₀) (F : Fr h₀ L s.heap m) (X : (Mine.KF w.params).In h₀) (N : News h₀ L s.heap news) (T : Top topProg loose mean mg mb h₀) (hk : cs.kind = .function) (hd : dp + 2 ≤ 500) (hu : un + 40 ≤ 5000)
include B F X N T hk hd hu
theorem ct_field {l : Addr} {vs : List Value} {ns : List Int} {k many : Int} {tk tm : Tok} (hl : base.IsList l vs.toArray) (hi : IntsAre vs ns) (hn : ns.length ≤ 63) (hk0 : 0 ≤ k) (hk1 : k < 64) (hm : 0 < many) (ret : ∀ t h' tk', Fr h₀ L h' m → News h₀ L h' news → 0 ≤ fieldV ns k many → fieldV ns k many < many → Q (.int (fieldV ns k many) t) { s with heap := h', toks := tk' }) :
    wpAny (model PySem.Challenge.rw_iw0015_02.row.prog w) (ktrTop dp un gd cn cs L a ccd cl outer) (call (.ref 691) [.ref l, .int k tk, .int many tm]) Q E s := by
  have ret := fun t h' tk' a b => ret t h' tk' a b (fieldV_lo hm) (fieldV_hi hm)
  k_with_none
  (k_with "ite" => (k_closed; first | refine ite_pos (by decide) ?_ | refine ite_neg (by decide) ?_))
  (k_with "execs nil" => (k_here; dsimp only))
  (k_with "execs cons" => (k_here; dsimp only))
  revert X; k_fill; intro X
  refine wpAny_call ?_
  k_dflt (refine' code_def ?k1 ?k2 ?k3 ?k4 ?k5 ?kA ?kF ?kK ?k6 ?k7 ?k8 ?k9 ?kB ?_ ?c2 ?c3 ?c4 ?c5; (case kA => exact rfl); (case kF => exact rfl); (case kK => first | exact rfl | assumption); (case k1 => k_asm); (case k2 => k_asm); (case k3 => k_asm); (case k4 => k_asm); (case k5 => k_asm); (case k6 => k_is); (case k7 => k_is); (case k8 => k_room); (case k9 => exact kp_binds (binds := [(Str.ofString "script", Value.ref l), (Str.ofString "k", Value.int k tk), (Str.ofString "many", Value.int many tm)]) (by k_in) (fun S => by kernel_rfl)); (case c5 => decide); (case kB => exact locs rfl); (case c2 => exact rfl); (case c3 => exact rfl); (case c4 => exact rfl); k_whole; intro g' L' h' FG' F' N' B' X' T'; (try dsimp only); (try k_lift B'); (try k_fold))
  (replace F' : Fr g' L' h' (fun y => List.lookup y [(Str.ofString "many", Value.int many tm), (Str.ofString "k", Value.int k tk), (Str.ofString "script", Value.ref l)]) := F')
  k_steps
  · refine cb_retI (Q := Q) (s := s) ret ?_ ?_ ?_
    · rw [ite_abs', fieldV_eq]; rfl
    · k_asm
    · k_asm
  · refine cb_retI (Q := Q) (s := s) ret ?_ ?_ ?_
    · exact fieldV_nil (by assumption)
    · k_asm
    · k_asm
theorem ct_way {l : Addr} {vs : List Value} {ns : List Int} {tk tm : Tok} (hl : base.IsList l vs.toArray) (hi : IntsAre vs ns) (hn : ns.length ≤ 63) (ret : ∀ v t h' tk', Fr h₀ L h' m → News h₀ L h' news → (v = 0 ∨ v = 1 ∨ v = 2 ∨ v = 3 ∨ v = 4 ∨ v = 5) → Q (.int v t) { s with heap := h', toks := tk' }) :
    wpAny (model PySem.Challenge.rw_iw0015_02.row.prog w) (ktrTop dp un gd cn cs L a ccd cl outer) (call (.ref 691) [.ref l, .int 3 tk, .int 6 tm]) Q E s :=
  ct_field B F X N T hk hd hu hl hi hn (by decide) (by decide) (by decide) fun t h' tk' F' N' lo hi => ret _ t h' tk' F' N' (by omega)
end

def NmOk (nm : List Int) (b : Bool) : Prop := nm.length = 11 ∧ (∀ x ∈ nm, 32 ≤ x ∧ x ≤ 90) ∧ ((b = true ∧ (nm = [46, 32, 32, 32, 32, 32, 32, 32, 32, 32, 32] ∨ nm = [46, 46, 32, 32, 32, 32, 32, 32, 32, 32, 32])) ∨ (b = false ∧ 65 ≤ nm.getD 2 0))
theorem cons_len {n : Nat} {xs : List Int} (h : xs.length = n + 1) : ∃ a t, xs = a :: t ∧ t.length = n := by
  cases xs with
  | nil => cases h
  | cons a t => exact ⟨a, t, rfl, Nat.succ.inj h⟩
theorem len11 {xs : List Int} (h : xs.length = 11) : ∃ a b c d e f g i j k l, xs = [a, b, c, d, e, f, g, i, j, k, l] := by
  obtain ⟨a, t0, e0, h⟩ := cons_len h
  obtain ⟨b, t1, e1, h⟩ := cons_len h
  obtain ⟨c, t2, e2, h⟩ := cons_len h
  obtain ⟨d, t3, e3, h⟩ := cons_len h
  obtain ⟨e, t4, e4, h⟩ := cons_len h
  obtain ⟨f, t5, e5, h⟩ := cons_len h
  obtain ⟨g, t6, e6, h⟩ := cons_len h
  obtain ⟨i, t7, e7, h⟩ := cons_len h
  obtain ⟨j, t8, e8, h⟩ := cons_len h
  obtain ⟨k, t9, e9, h⟩ := cons_len h
  obtain ⟨l, t10, e10, h⟩ := cons_len h
  rw [List.eq_nil_of_length_eq_zero h] at e10
  rw [e10] at e9
  rw [e9] at e8
  rw [e8] at e7
  rw [e7] at e6
  rw [e6] at e5
  rw [e5] at e4
  rw [e4] at e3
  rw [e3] at e2
  rw [e2] at e1
  rw [e1] at e0
  exact ⟨_, _, _, _, _, _, _, _, _, _, _, e0⟩
theorem nmOk_a : NmOk [46, 32, 32, 32, 32, 32, 32, 32, 32, 32, 32] true := ⟨rfl, by decide, .inl ⟨rfl, .inl rfl⟩⟩
theorem nmOk_b : NmOk [46, 46, 32, 32, 32, 32, 32, 32, 32, 32, 32] true := ⟨rfl, by decide, .inl ⟨rfl, .inr rfl⟩⟩
theorem nmOk_row {xs : List Int} (h : xs.length = 11) (hx : ∀ x ∈ xs, 65 ≤ x ∧ x ≤ 90) : NmOk xs false ∧ NmOk (List.take 5 xs ++ (List.replicate (Int.toNat 6) [32]).flatten) false ∧ NmOk ((List.replicate (4 - 3 : Int).toNat [46]).flatten ++ List.drop (4 - 3 : Int).toNat xs) false ∧ NmOk ((List.replicate (5 - 3 : Int).toNat [46]).flatten ++ List.drop (5 - 3 : Int).toNat xs) false := by
  have lo : ∀ x ∈ xs, 32 ≤ x ∧ x ≤ 90 := fun x q => ⟨Int.le_trans (by decide) (hx x q).1, (hx x q).2⟩
  have k1 : ∀ x ∈ List.take 5 xs ++ (List.replicate (Int.toNat 6) [32]).flatten, 32 ≤ x ∧ x ≤ 90 := fun x q => by
    rcases List.mem_append.mp q with q | q
    · exact lo x (List.mem_of_mem_take q)
    · exact (by decide : ∀ x ∈ (List.replicate (Int.toNat 6) [(32 : Int)]).flatten, 32 ≤ x ∧ x ≤ 90) x q
  have k2 : ∀ x ∈ (List.replicate (4 - 3 : Int).toNat [46]).flatten ++ List.drop (4 - 3 : Int).toNat xs, 32 ≤ x ∧ x ≤ 90 := fun x q => by
    rcases List.mem_append.mp q with q | q
    · exact (by decide : ∀ x ∈ (List.replicate (4 - 3 : Int).toNat [(46 : Int)]).flatten, 32 ≤ x ∧ x ≤ 90) x q
    · exact lo x (List.mem_of_mem_drop q)
  have k3 : ∀ x ∈ (List.replicate (5 - 3 : Int).toNat [46]).flatten ++ List.drop (5 - 3 : Int).toNat xs, 32 ≤ x ∧ x ≤ 90 := fun x q => by
    rcases List.mem_append.mp q with q | q
    · exact (by decide : ∀ x ∈ (List.replicate (5 - 3 : Int).toNat [(46 : Int)]).flatten, 32 ≤ x ∧ x ≤ 90) x q
    · exact lo x (List.mem_of_mem_drop q)
  obtain ⟨a, b, c, d, e, f, g, i, j, k, l, rfl⟩ := len11 h
  have hc : 65 ≤ c := (hx c (.tail _ (.tail _ (.head _)))).1
  exact ⟨⟨rfl, lo, .inr ⟨rfl, hc⟩⟩, ⟨rfl, k1, .inr ⟨rfl, hc⟩⟩, ⟨rfl, k2, .inr ⟨rfl, hc⟩⟩, ⟨rfl, k3, .inr ⟨rfl, hc⟩⟩⟩
theorem nm_map {ns : List Int} : (List.map (fun k' => 65 + fieldV ns (20 + k') 26) (rangeKs 0 (11 - 0 : Int).toNat)).length = 11 ∧ ∀ x ∈ List.map (fun k' => 65 + fieldV ns (20 + k') 26) (rangeKs 0 (11 - 0 : Int).toNat), 65 ≤ x ∧ x ≤ 90 := by
  refine ⟨by rw [List.length_map, rangeKs_length]; rfl, fun x hx => ?_⟩
  obtain ⟨k, _, rfl⟩ := List.mem_map.mp hx
  have := @fieldV_lo ns (20 + k) 26 (by decide)
  have := @fieldV_hi ns (20 + k) 26 (by decide)
  omega
section
variable {w : World} {dp un : Nat} {gd : Option (List Code)} {cn : Str} {cs : Scope} {a : Addr} {ccd : Value} {cl : List (Str × Addr)} {outer : List Env} {A₀ : Around} {base h₀ : Heap} {L : Addr} {m : Str → Option Value} {news : List (Addr × Obj)} {s : Shared} {Q E : Value → Shared → Prop} {loose : List Str} {mean : ExcName → Option Value} {mg mb : Str → Option Value}
  (B : Below A₀ base outer h₀) (F : Fr h₀ L s.heap m) (X : (Mine.KF w.params).In h₀) (N : News h₀ L s.heap news) (T : Top topProg loose mean mg mb h₀) (hk : cs.kind = .function) (hd : dp + 2 ≤ 500) (hu : un + 40 ≤ 5000)
include B F X N T hk hd hu
theorem ct_wayS {l : Addr} {vs : List Value} {ns : List Int} {tk tm : Tok} (hl : base.IsList l vs.toArray) (hi : IntsAre vs ns) (hn : ns.length ≤ 63) (ret : ∀ v t h' tk', Fr h₀ L h' m → News h₀ L h' news → 0 ≤ v → v < 6 → Q (.int v t) { s with heap := h', toks := tk' }) :
    wpAny (model PySem.Challenge.rw_iw0015_02.row.prog w) (ktrTop dp un gd cn cs L a ccd cl outer) (call (.ref 691) [.ref l, .int 3 tk, .int 6 tm]) Q E s :=
  ct_field B F X N T hk hd hu hl hi hn (by decide) (by decide) (by decide) fun t h' tk' F' N' lo hi => ret _ t h' tk' F' N' lo hi
end
theorem two_of {v : Int} (h0 : 0 ≤ v) (h2 : v < 2) : v = 0 ∨ v = 1 := by omega
theorem four_of {v : Int} (h6 : v < 6) (h3 : 3 < v) : v = 4 ∨ v = 5 := by omega
section
variable {w : World} {dp un : Nat} {gd : Option (List Code)} {cn : Str} {cs : Scope} {a : Addr} {ccd : Value} {cl : List (Str × Addr)} {outer : List Env} {A₀ : Around} {base h₀ : Heap} {L : Addr} {m : Str → Option Value} {news : List (Addr × Obj)} {s : Shared} {Q E : Value → Shared → Prop} {loose : List Str} {mean : ExcName → Option Value} {mg mb : Str → Option Value}
  (B : Below A₀ base outer h₀) (F : Fr h₀ L s.heap m) (X : (Mine.KF w.params).In h₀) (N : News h₀ L s.heap news) (T : Top topProg loose mean mg mb h₀) (hk : cs.kind = .function) (hd : dp + 4 ≤ 500) (hu : un + 80 ≤ 5000)
include B F X N T hk hd hu
theorem ct_name {l : Addr} {vs : List Value} {ns : List Int} (hl : base.IsList l vs.toArray) (hi : IntsAre vs ns) (hn : ns.length ≤ 63)
    (ret : ∀ T R vs' nm b c h' tk', Fr h₀ L h' m → News h₀ L h' ((T, { cls := .type "tuple", data := .seq #[.ref R, .bool b] }) :: (R, listOf vs'.toArray c) :: news) → IntsAre vs' nm → NmOk nm b → Q (.ref T) { s with heap := h', toks := tk' }) :
    wpAny (model PySem.Challenge.rw_iw0015_02.row.prog w) (ktrTop dp un gd cn cs L a ccd cl outer) (call (.ref 696) [.ref l]) Q E s := by
  k_with_none
  (k_with "ite" => (k_closed; first | refine ite_pos (by decide) ?_ | refine ite_neg (by decide) ?_))
  (k_with "execs nil" => (k_here; dsimp only))
  (k_with "execs cons" => (k_here; dsimp only))
  (k_with "call ref" => (k_here; (with_reducible show wpAny _ _ (call (Value.ref (nat_lit 691)) _) _ _ _); k_dflt (refine' ct_field ?kB ?kF ?kX ?kN ?kT ?kk ?kd ?ku ?e0 ?e1 ?e2 ?e3 ?e4 ?e5 ?_; (case kB => k_asm); (case kF => k_asm); (case kX => k_asm); (case kN => k_asm); (case kT => k_asm); (case kk => first | exact rfl | assumption); (case kd => k_room); (case ku => k_units); (case e0 => k_asm); (case e1 => first | with_reducible assumption | assumption); (case e2 => first | assumption | omega); (case e3 => first | decide | exact kge (by assumption) (by decide) | omega); (case e4 => first | decide | exact klt (by assumption) (by decide) | omega); (case e5 => (first | decide | omega)); k_whole); intro t9 h9 tk9 F9 N9 lo9 hi9; clear lo9 hi9; (try dsimp only); (try k_fold)))
  (k_with "call ref" => (k_here; (with_reducible show wpAny _ _ (call (Value.ref (nat_lit 691)) _) _ _ _); k_dflt (refine' ct_wayS ?kB ?kF ?kX ?kN ?kT ?kk ?kd ?ku ?e0 ?e1 ?e2 ?_; (case kB => k_asm); (case kF => k_asm); (case kX => k_asm); (case kN => k_asm); (case kT => k_asm); (case kk => first | exact rfl | assumption); (case kd => k_room); (case ku => k_units); (case e0 => k_asm); (case e1 => first | with_reducible assumption | assumption); (case e2 => first | assumption | omega); k_whole); intro v9 t9 h9 tk9 F9 N9 lo9 hi9; (try dsimp only); (try k_fold)))
  revert X; k_fill; intro X
  refine wpAny_call ?_
  k_dflt (refine' code_defC ?k1 ?k2 ?k3 ?k4 ?k5 ?kA ?kF ?kK ?k6 ?k7 ?k8 ?k9 ?kB ?kD ?_ ?c2 ?c3 ?c4; (case kA => exact rfl); (case kF => exact rfl); (case kK => first | exact rfl | assumption); (case k1 => k_asm); (case k2 => k_asm); (case k3 => k_asm); (case k4 => k_asm); (case k5 => k_asm); (case k6 => k_is); (case k7 => k_is); (case k8 => k_room); (case k9 => first | exact BindsTo.of_eq rfl | exact binds_K (by k_in) rfl (by k_is) rfl rfl rfl); (case kB => exact rfl); (case kD => decide +kernel); (case c2 => exact rfl); (case c3 => exact rfl); (case c4 => exact rfl); k_whole; intro g' L' h' tk' cells' FG' F' N' Y' B' X' T' l1; (try k_lt l1); k_cells Y'; (try simp only [List.cons_append, List.nil_append] at N'); (try dsimp only); (try k_lift B'); (try k_fold))
  (replace F' : Fr g' L' h' (fun _ => none) := by with_unfolding_all exact F')
  k_steps
  · rcases two_of (v := v9) (by assumption) (by assumption) with rfl | rfl
    · k_steps
      refine' ret _ _ _ [46, [32, 46].getD (Int.toNat 0) 0, 32, 32, 32, 32, 32, 32, 32, 32, 32] true _ _ _ ?f (cb_drop ?cbN ?cbS) ?i nmOk_a
      case f => k_asm
      case cbN => assumption
      case cbS => kcj_all
      case i => l_ints
    · k_steps
      refine' ret _ _ _ [46, [32, 46].getD (Int.toNat 1) 0, 32, 32, 32, 32, 32, 32, 32, 32, 32] true _ _ _ ?f (cb_drop ?cbN ?cbS) ?i nmOk_b
      case f => k_asm
      case cbN => assumption
      case cbS => kcj_all
      case i => l_ints
  · refine' ret _ _ _ _ false _ _ _ ?f (cb_drop ?cbN ?cbS) ?i (nmOk_row (nm_map (ns := ns)).1 nm_map.2).2.1
    case f => k_asm
    case cbN => assumption
    case cbS => kcj_all
    case i => assumption
  · rcases four_of (v := v9) (by assumption) (by assumption) with rfl | rfl
    · k_steps
      refine' ret _ _ _ _ false _ _ _ ?f (cb_drop ?cbN ?cbS) ?i (nmOk_row (nm_map (ns := ns)).1 nm_map.2).2.2.1
      case f => k_asm
      case cbN => assumption
      case cbS => kcj_all
      case i => assumption
    · k_steps
      refine' ret _ _ _ _ false _ _ _ ?f (cb_drop ?cbN ?cbS) ?i (nmOk_row (nm_map (ns := ns)).1 nm_map.2).2.2.2
      case f => k_asm
      case cbN => assumption
      case cbS => kcj_all
      case i => assumption
  · refine' ret _ _ _ _ false _ _ _ ?f (cb_drop ?cbN ?cbS) ?i (nmOk_row (nm_map (ns := ns)).1 nm_map.2).1
    case f => k_asm
    case cbN => assumption
    case cbS => kcj_all
    case i => assumption
end

theorem NmOk.bytes {nm : List Int} {b : Bool} (h : NmOk nm b) : ∀ n ∈ nm, 0 ≤ n ∧ n < 256 := fun n hn => by have := h.2.1 n hn; omega
theorem bInts_of {ns : List Int} (h : ∀ n ∈ ns, 0 ≤ n ∧ n < 256) : KBw.bInts (ns.map fun n => n.toNat.toUInt8).toArray = ns := by
  unfold KBw.bInts
  rw [List.toList_toArray, List.map_map]
  refine (List.map_congr_left fun n hn => ?_).trans (List.map_id ns)
  exact byte_back (h n hn).1 (h n hn).2
section
variable {prog : Program} {w : World} {A : Around} {E : Value → Shared → Prop} {s : Shared} {h₀ : Heap} {L : Addr} {m : Str → Option Value} {news : List (Addr × Obj)} {x : Addr} {b : Array UInt8} {ks : List Int} {bb : Bool} {Q : Value → Shared → Prop}
theorem ba_len11 (N : News h₀ L s.heap news) (hx : (x, baOf b) ∈ news) (hk : KBw.bInts b = ks) (ok : NmOk ks bb) (h : ∀ t k, Q (.int 11 t) { s with toks := k }) : wpAny (model prog w) A (call (.builtin "len") [.ref x]) Q E s := by
  have e : b.size = 11 := by rw [← KBw.ints_length, hk]; exact ok.1
  exact ba_len (N _ hx).1 (by omega) (by rw [e]; exact h _ _)
theorem ba_item0 {u : Tok} {value slice : Expr} (N : News h₀ L s.heap news) (hx : (x, baOf b) ∈ news) (hk : KBw.bInts b = ks) (ok : NmOk ks bb) (h : ∀ n t k, 32 ≤ n → n ≤ 90 → Q (.int n t) { s with toks := k })
    (hs : subscripted slice false (.ref x) (.int 0 u) = operate [.ref x, .int 0 u] (getItem (.ref x) (.int 0 u)) := by with_unfolding_all rfl)
    (ht : ∀ r, letTemporaryGo value (.ref x) r = pure () := by intro _; with_unfolding_all rfl) : wpAny (model prog w) A (subscriptTail value slice (.ref x) (.int 0 u)) Q E s := by
  have l := ok.1
  have r : 32 ≤ ks.getD 0 0 ∧ ks.getD 0 0 ≤ 90 := by
    cases ks with
    | nil => cases l
    | cons k r => exact ok.2.1 k (.head _)
  exact ba_item (N _ hx).1 hk (by decide) (by rw [l]; decide) (by rw [l]; decide) (fun t k => h _ t k r.1 r.2) hs ht
end
theorem perm3 {h₀ h : Heap} {L : Addr} {a b c : Addr × Obj} {l : List (Addr × Obj)} (N : News h₀ L h (a :: b :: c :: l)) : News h₀ L h (b :: c :: a :: l) := fun p hp => N p (by
  rcases List.mem_cons.mp hp with rfl | hp
  · exact .tail _ (.head _)
  rcases List.mem_cons.mp hp with rfl | hp
  · exact .tail _ (.tail _ (.head _))
  rcases List.mem_cons.mp hp with rfl | hp
  · exact .head _
  exact .tail _ (.tail _ (.tail _ hp)))

def EndI (h₀ : Heap) (L I : Addr) (J : (Str → Option Value) → List (Addr × Obj) → Prop) (own : List (Addr × Obj)) (s₁ s₂ : Shared) : Prop :=
  ∃ h' tk m' nx news', s₂ = { s₁ with heap := h', toks := tk } ∧ Fr h₀ L h' m' ∧ News h₀ L h' news' ∧ (∀ p ∈ own, p ∈ news') ∧ (∀ p ∈ nx, p ∈ news') ∧ (∀ p ∈ nx, p.1 ≠ I) ∧ J m' nx
def PostI (h₀ : Heap) (L I : Addr) (J : (Str → Option Value) → List (Addr × Obj) → Prop) (own : List (Addr × Obj)) (s₁ : Shared) (Q : Flow → Shared → Prop) (f : Flow) (s₂ : Shared) : Prop :=
  match f with
  | .ret v => Q (.ret v) s₂
  | .brk => Q .next s₂
  | _ => EndI h₀ L I J own s₁ s₂
section
variable {prog : Program} {w : World} {A : Around} {E : Value → Shared → Prop} {s : Shared} {env : Env} {h₀ : Heap} {v : Str} {body : List Stmt} {Q : Flow → Shared → Prop}
theorem stepV_of {J : (Str → Option Value) → List (Addr × Obj) → Prop} {I : Addr} {own : List (Addr × Obj)} {s₁ s₂ : Shared} {f : Flow} (h : PostI h₀ env.locals I J own s₁ Q f s₂) :
    LoopStepV h₀ env.locals [I] own J s₁ (fun v s' => Q (.ret v) s') (fun s' => Q .next s') f s₂ := by
  have fin : EndI h₀ env.locals I J own s₁ s₂ → LoopStepU h₀ env.locals [I] own J s₁ .next s₂ := by
    rintro ⟨h', tk, m', nx, news', e, F', N', ho, hn, hI, hj⟩
    exact ⟨rfl, h', tk, m', nx, e, F', fun p hp => N' p ((List.mem_append.mp hp).elim (ho p) (hn p)), fun p hp q => hI p hp (List.mem_singleton.mp q), hj⟩
  cases f with
  | ret v => exact .ret h
  | brk => exact .brk h
  | next => exact .next (fin h)
  | cont => exact .cont (fin h)
theorem atV_of {I : Addr} {fp : List Addr} {n : Nat} {P : Nat → Value → Prop} {St : Nat → Heap → Prop} {m₀ : Str → Option Value} {news : List (Addr × Obj)} (g : Nat → Int) (J : Nat → (Str → Option Value) → List (Addr × Obj) → Prop)
    (W : Walks prog w A I fp [I] n P St) (hLf : env.locals ∉ fp) (hI0 : h₀.get? I = none) (hnI : ∀ p ∈ news, p.1 ≠ I) (hIf : I ∈ fp) (hSI : ∀ i h, St i h → ∃ o, h.get? I = some o) (hst : St 0 s.heap) (hP : ∀ i v, i < n → P i v → ∃ t, v = .int (g i) t)
    (F : Fr h₀ env.locals s.heap m₀) (N : News h₀ env.locals s.heap news) (hj : J 0 m₀ news)
    (turn : ∀ i t m₁ news₁ h tk own oI, i < n → (I, oI) ∈ own → (∀ p ∈ news₁, p.1 ≠ I) → J i m₁ news₁ → Fr h₀ env.locals h (fun y => if y = v then some (.int (g i) t) else m₁ y) → News h₀ env.locals h (own ++ news₁) →
      wpAny (model prog w) A (execs body env) (PostI h₀ env.locals I (J (i + 1)) own { s with heap := h, toks := tk } Q) E { s with heap := h, toks := tk })
    (done : ∀ m₁ news₁ h tk, J n m₁ news₁ → Fr h₀ env.locals h m₁ → News h₀ env.locals h news₁ → Q .next { s with heap := h, toks := tk }) :
    LoopAtV prog w A h₀ env v body Q E (.ref I) s := by
  refine ⟨I, fp, [I], n, P, St, m₀, news, J, rfl, W, hLf, fun b hb => by rw [List.mem_singleton.mp hb]; exact hI0, fun p hp q => hnI p hp (List.mem_singleton.mp q), hst, F, N, hj, ?_, ?_⟩
  · rintro i u m₁ news₁ s₁ own ⟨hh', tk', rfl⟩ hin hPi hJ hoff hown _ hfp hst' F₁ N₁
    obtain ⟨t, rfl⟩ := hP i u hin hPi
    obtain ⟨oI, hoI⟩ := hSI _ _ hst'
    refine wpAny_mono (turn i t m₁ news₁ hh' tk' own oI hin (hfp I hIf hI0 _ hoI) (fun p hp q => hoff p hp (List.mem_singleton.mpr q)) hJ F₁ N₁) (fun f s₂ p => stepV_of p) fun _ _ e => e
  · rintro h' tk m' news' F' N' _ hJ
    exact done m' news' h' tk hJ F' N'
theorem iter_tuG {x : Addr} {o : Obj} {vs : List Value} {ks : List Int} {c : Nat} {m₀ : Str → Option Value} {news : List (Addr × Obj)} (J : Nat → (Str → Option Value) → List (Addr × Obj) → Prop)
    (hh : A.handled = none) (F : Fr h₀ env.locals s.heap m₀) (N : News h₀ env.locals s.heap news) (hx : (x, o) ∈ news) (hoc : o.cls = .type "tuple") (hod : o.data = .seq vs.toArray c) (hi : IntsAre vs ks) (hj : J 0 m₀ news)
    (turn : ∀ I i t m₁ news₁ h tk own oI, i < ks.length → (I, oI) ∈ own → (∀ p ∈ news₁, p.1 ≠ I) → J i m₁ news₁ → Fr h₀ env.locals h (fun y => if y = v then some (.int (ks.getD i 0) t) else m₁ y) → News h₀ env.locals h (own ++ news₁) →
      wpAny (model prog w) A (execs body env) (PostI h₀ env.locals I (J (i + 1)) own { s with heap := h, toks := tk } Q) E { s with heap := h, toks := tk })
    (done : ∀ m₁ news₁ h tk, J ks.length m₁ news₁ → Fr h₀ env.locals h m₁ → News h₀ env.locals h news₁ → Q .next { s with heap := h, toks := tk }) :
    wpAny (model prog w) A (pyIter (.ref x)) (fun it s₂ => LoopAtV prog w A h₀ env v body Q E it s₂) E s := by
  have hax := N _ hx
  have hls : s.heap.IsTuple x vs.toArray := ⟨o, hax.1, hoc, c, hod⟩
  have hne : x ≠ s.heap.objs.size := Nat.ne_of_lt (Heap.lt_size hax.1)
  refine wpAny_pyIter_tuple hls ?_
  have W := Walks.tuple (prog := prog) (w := w) hh s.heap.objs.size x hne vs.toArray
  have hlen : vs.toArray.size = ks.length := by simp [hi.length]
  rw [hlen] at W
  refine atV_of (s := { s with heap := _ }) (fun i => ks.getD i 0) J W ?_ (next_is_new F) (fun p hp q => absurd (Heap.lt_size (N p hp).1) (q ▸ Nat.lt_irrefl _)) (List.mem_cons_self ..) (fun i h st => let ⟨⟨o, ho, _⟩, _⟩ := st; ⟨o, ho⟩)
    ⟨⟨_, Heap.get?_push_size _ rfl, rfl, rfl⟩, hls.at fun o e => Heap.get?_push_of_some _ e⟩ ?_ (F.push _) (fun p hp => ⟨Heap.get?_push_of_some _ (N p hp).1, (N p hp).2⟩) hj (turn _) done
  · intro hm
    rcases List.mem_cons.mp hm with e | hm
    · exact absurd F.ns.lt (e ▸ Nat.lt_irrefl _)
    · exact hax.2.1 (List.mem_singleton.mp hm).symm
  · intro i u hlt hP
    obtain ⟨t, ht⟩ := hi.get i ks[i] (by simp [hlt])
    refine ⟨t, ?_⟩
    have hP' : vs[i]? = some u := by simpa using hP
    rw [ht] at hP'
    rw [List.getD_eq_getElem?_getD, List.getElem?_eq_getElem hlt]
    exact (Option.some.inj hP').symm
end
section
variable {prog : Program} {w : World} {A : Around} {E : Value → Shared → Prop} {s : Shared} {h₀ : Heap} {L : Addr} {news : List (Addr × Obj)} {Q : Value → Shared → Prop}
theorem item_led {value slice : Expr} {l : Addr} {o : Obj} {arr : Array Value} {n : Nat} {k : Int} {u : Tok} {v : Value} (N : News h₀ L s.heap news) (hm : (l, o) ∈ news) (hc : o.cls = .type "list") (hd : o.data = .seq arr n) (h0 : 0 ≤ k) (hhi : k < 2 ^ 63) (hx : arr[k.toNat]? = some v) (h : Q v s)
    (hs : subscripted slice false (.ref l) (.int k u) = operate [.ref l, .int k u] (getItem (.ref l) (.int k u)) := by with_unfolding_all rfl) : wpAny (model prog w) A (subscriptTail value slice (.ref l) (.int k u)) Q E s :=
  have hl : s.heap.IsList l arr := ⟨o, (N _ hm).1, hc, n, hd⟩
  tail_any hl.typeIs slot_list_getitem.lookup (wpAny_getItem_list hl h0 hhi hx h) hs
end
section
variable {prog : Program} {w : World} {A : Around} {E : Value → Shared → Prop} {s : Shared} {env : Env} {h₀ : Heap} {v : Str} {body : List Stmt} {Q : Flow → Shared → Prop}
theorem iter_raG {r : Addr} {a b : Int} {t u x : Tok} {n : Nat} {m₀ : Str → Option Value} {news : List (Addr × Obj)} (J : Nat → (Str → Option Value) → List (Addr × Obj) → Prop)
    (hh : A.handled = none) (F : Fr h₀ env.locals s.heap m₀) (N : News h₀ env.locals s.heap news) (hr : IsRange s.heap r a b 1 t u x) (hsm : Builtin.Range.small a b 1 = true) (hn : Builtin.Range.rangeSize a b 1 = ((n : Nat) : Int)) (hj : J 0 m₀ news)
    (turn : ∀ I i t m₁ news₁ h tk own oI, i < n → (I, oI) ∈ own → (∀ p ∈ news₁, p.1 ≠ I) → J i m₁ news₁ → Fr h₀ env.locals h (fun y => if y = v then some (.int (a + (i : Int)) t) else m₁ y) → News h₀ env.locals h (own ++ news₁) →
      wpAny (model prog w) A (execs body env) (PostI h₀ env.locals I (J (i + 1)) own { s with heap := h, toks := tk } Q) E { s with heap := h, toks := tk })
    (done : ∀ m₁ news₁ h tk, J n m₁ news₁ → Fr h₀ env.locals h m₁ → News h₀ env.locals h news₁ → Q .next { s with heap := h, toks := tk }) :
    wpAny (model prog w) A (pyIter (.ref r)) (fun it s₂ => LoopAtV prog w A h₀ env v body Q E it s₂) E s := by
  refine wpAny_pyIter_range hr hsm ?_
  refine atV_of (s := { s with heap := _ }) (fun i => a + (i : Int)) J (LCg.range_walks (prog := prog) (w := w) hh a n) ?_ (next_is_new F) (fun p hp q => absurd (Heap.lt_size (N p hp).1) (q ▸ Nat.lt_irrefl _)) (List.mem_cons_self ..) (fun i h st => ⟨_, st⟩)
    (by show IsRangeIter _ _ _ _ _; rw [hn]; simpa using Heap.get?_push_size _ rfl) (fun i v _ hv => hv) (F.push _) (fun p hp => ⟨Heap.get?_push_of_some _ (N p hp).1, (N p hp).2⟩) hj (turn _) done
  intro hm
  exact absurd F.ns.lt ((List.mem_singleton.mp hm) ▸ Nat.lt_irrefl _)
theorem map_hv {y : Str} {m₁ m₀ : Str → Option Value} {k : Value} (hm : ∀ z, z ≠ v → z ≠ y → m₁ z = m₀ z) : (fun z => if z = v then some k else m₁ z) = fun z => if z = v then some k else if z = y then m₁ z else m₀ z := by
  funext z
  by_cases h1 : z = v
  · rw [if_pos h1, if_pos h1]
  · rw [if_neg h1, if_neg h1]
    by_cases h2 : z = y
    · rw [if_pos h2]
    · rw [if_neg h2]; exact hm z h1 h2
theorem done_hv {y : Str} {m₁ m₀ : Str → Option Value} (hm : ∀ z, z ≠ v → z ≠ y → m₁ z = m₀ z) : (fun z => if z = v then m₁ z else if z = y then m₁ z else m₀ z) = m₁ := by
  funext z
  by_cases h1 : z = v
  · rw [if_pos h1]
  · rw [if_neg h1]
    by_cases h2 : z = y
    · rw [if_pos h2]
    · rw [if_neg h2]; exact (hm z h1 h2).symm
/-- a loop over a range that stores its own name and one other -/
theorem iter_ra2 {r : Addr} {a b : Int} {t u x : Tok} {n : Nat} {m₀ : Str → Option Value} {news : List (Addr × Obj)} {y : Str}
    (hh : A.handled = none) (F : Fr h₀ env.locals s.heap m₀) (N : News h₀ env.locals s.heap news) (hr : IsRange s.heap r a b 1 t u x) (hsm : Builtin.Range.small a b 1 = true) (hn : Builtin.Range.rangeSize a b 1 = ((n : Nat) : Int))
    (turn : ∀ k t (u : Str → Option Value) h tk own, a ≤ k → k < a + (n : Int) → Fr h₀ env.locals h (fun z => if z = v then some (.int k t) else if z = y then u z else m₀ z) → News h₀ env.locals h (own ++ news) →
      wpAny (model prog w) A (execs body env) (InvPost h₀ env.locals (fun m' => ∀ z, z ≠ v → z ≠ y → m' z = m₀ z) (own ++ news) { s with heap := h, toks := tk } Q) E { s with heap := h, toks := tk })
    (done : ∀ (u : Str → Option Value) h tk, Fr h₀ env.locals h (fun z => if z = v then u z else if z = y then u z else m₀ z) → News h₀ env.locals h news → Q .next { s with heap := h, toks := tk }) :
    wpAny (model prog w) A (pyIter (.ref r)) (fun it s₂ => LoopAtV prog w A h₀ env v body Q E it s₂) E s := by
  refine iter_raG (fun i m news₁ => news₁ = news ∧ ∀ z, z ≠ v → z ≠ y → m z = m₀ z) hh F N hr hsm hn ⟨rfl, fun _ _ _ => rfl⟩ ?_ ?_
  · rintro I i t m₁ news₁ h tk own oI hlt hI hoff ⟨rfl, hm⟩ F₁ N₁
    rw [map_hv hm] at F₁
    refine wpAny_mono (turn (a + (i : Int)) t m₁ h tk own (by omega) (by omega) F₁ N₁) (fun f s₂ p => ?_) fun _ _ e => e
    have fin : InvEnd h₀ env.locals (fun m' => ∀ z, z ≠ v → z ≠ y → m' z = m₀ z) (own ++ news₁) { s with heap := h, toks := tk } s₂ → EndI h₀ env.locals I (fun m news₂ => news₂ = news₁ ∧ ∀ z, z ≠ v → z ≠ y → m z = m₀ z) own { s with heap := h, toks := tk } s₂ := by
      rintro ⟨h', tk', m', news', e, F', N', hn', hm'⟩
      exact ⟨h', tk', m', news₁, news', e, F', N', fun p hp => hn' p (List.mem_append_left _ hp), fun p hp => hn' p (List.mem_append_right _ hp), hoff, rfl, hm'⟩
    cases f with
    | ret v => exact p
    | brk => exact p
    | next => exact fin p
    | cont => exact fin p
  · rintro m₁ news₁ h tk ⟨rfl, hm⟩ F₁ N₁
    refine done m₁ h tk ?_ N₁
    rw [done_hv hm]; exact F₁
end

section
variable {M : Model} {A : Around} {E : Value → Shared → Prop} {s : Shared} {env : Env}
theorem execC_Try {body : List Stmt} {hd : ExceptHandler} {tl : List ExceptHandler} {pos : Pos} {Q : Flow → Shared → Prop}
    (h : wpC M A (execs body env) Q (fun e s' => wpAny M A (noteFrame e env) (fun _ s₂ => wpAny M A (setFlight e none) (fun _ s₃ => wpAny M A (handleBy e env (hd :: tl)) Q E s₃) E s₂) E s') s) :
    wpC M A (exec (.Try body (hd :: tl) [] [] pos) env) Q E s := by
  show wpC M A (do standAt pos; tryStmt false (execs body env) (hd :: tl) (execs [] env) [] env) Q E s
  refine wpC_bindA (wpAny_standAt ?_)
  unfold tryStmt
  dsimp only
  refine wpC_if_true rfl ?_
  refine wpC_bind ?_
  refine wpC_attempt (wpC_mono h (fun f s' h' => ?_) fun e s' h' => ?_)
  · cases f <;> first
      | exact wpC_of (wpAny_execs_nil h')
      | exact wpC_pure h'
  · refine wpC_of (wpAny_bind (wpAny_mono h' (fun _ s₂ h₂ => ?_) fun _ _ x => x))
    refine wpAny_bind (wpAny_mono h₂ (fun _ s₃ h₃ => ?_) fun _ _ x => x)
    exact h₃
end
section
variable {prog : Program} {w : World} {A A₀ : Around} {E : Value → Shared → Prop} {s : Shared} {K : Frag} {L : Addr} {h₀ base : Heap} {m mg mb : Str → Option Value} {news : List (Addr × Obj)} {p : Program} {loose : List Str} {mean : ExcName → Option Value}
  {env : Env} {outer : List Env} {R : Result → Shared → Prop} {name qual : Str} {params : Arguments} {body : List Stmt} {scope : Scope} {dV kV doc pm cdv ct oc : Value} {an od : Option Addr} {osl : Array (Option Value)} {f : Addr} {args : Args} {binds : List (Str × Value)}
/-- the entry of a def that may catch: its end is the call's own -/
theorem codeC_defT (B : Below A₀ base outer h₀) (F : Fr h₀ L s.heap m) (X₀ : K.In h₀) (N : News h₀ L s.heap news) (T : Top p loose mean mg mb h₀) (hA : A.frames = some (env :: outer)) (hf : env.frame = some L) (hke : env.scope.kind = .function)
    (ho : K.lookup f = some ⟨oc, od, .func (fnOf name qual params body scope dV kV doc pm an cdv ct), osl⟩) (hcd : codeIn K cdv qual = true) (hroom : A.depth < recursionLimit)
    (hbind : BindsTo s (fnOf name qual params body scope dV kV doc pm an cdv ct) args binds) (hloc : ∀ y ∈ binds, scope.names.lookup y.1 = some .local)
    (h : ∀ g L' h₁, Fr h₀ L g m → Fr g L' h₁ (fun y => binds.reverse.lookup y) → News g L' h₁ news → Below A base (env :: outer) g → K.In g → Top p loose mean mg mb g → (∀ v s', LeaveK h₀ L m g R v s' → R (.ok (.ret v)) s') → (∀ b o, s.heap.get? b = some o → h₁.get? b = some o) → L < L' →
      wpC (model prog w) (A.deeper (envOf qual scope L' f cdv)) (execs body (envOf qual scope L' f cdv))
        (fun fl s' => R (.ok (.ret (match fl with | .ret v => v | _ => .none))) s')
        (fun e s' => wpAny (model prog w) (A.deeper (envOf qual scope L' f cdv)) (leaving (envOf qual scope L' f cdv) e) (fun _ s'' => R (.error e) s'') (fun e' s'' => R (.error e') s'') s')
        { s with heap := h₁, toks := s.toks + binds.length })
    (hco : scope.isCoroutine = false) (hgen : scope.isGenerator = false) (hk : scope.kind = .function) (hcell : ∀ x ∈ scope.names, x.2 ≠ .cell) : codeC (model prog w) A (.call (.ref f) args) R s := by
  obtain ⟨FG, BG, st, lv⟩ := groundX (R := R) B F N hA hf hke
  refine codeC_call_function hroom ((X₀.keeps F.keep) _ _ ho) rfl hco hgen rfl (codeRec_of (X₀.keeps F.keep) hcd) (hbind _ _ _ _ ?_)
  refine wpAny_newFunctionEnv hcell hloc (fun h₁ hns hsb => ⟨(T.nolimit.keeps F.keep).fresh _ hsb, codeC_func ?_⟩) hk
  have kept : ∀ b o, s.heap.get? b = some o → h₁.get? b = some o := fun b o e => hsb.extBut b o (Nat.ne_of_lt (Heap.lt_size e)) (Heap.get?_push_of_some _ e)
  exact h _ _ h₁ FG ⟨hns, fun b o e => kept b o (of_hideAll _ e), Nat.le_of_eq (hideAll_size _ _)⟩
    (fun p hp => ⟨kept _ _ (N p hp).1, Nat.ne_of_lt (Heap.lt_size (N p hp).1), hideAll_none _ (List.mem_map_of_mem hp)⟩) BG (X₀.keeps st) (T.keeps st) lv kept F.ns.lt
end

section
variable {M : Model} {A : Around} {E : Value → Shared → Prop} {s : Shared}
theorem codeC_loop {c : Code} {R : Result → Shared → Prop} (hq : c.quiet = true) (hd : isDec c = false) (I : Nat → Shared → Prop)
    (turn : ∀ n s, I n s → wpC M (A.under c) (M.den c) (fun fin s' => match fin with
      | .done f => R (.ok f) s'
      | .again c' => (c' = c ∧ ∃ m, m < n ∧ I m s') ∨ (c'.quiet = true ∧ isDec c' = false ∧ codeC M A c' R s')) (fun e s' => R (.error e) s') s) (n : Nat) (h : I n s) : codeC M A c R s := by
  induction n using Nat.strongRecOn generalizing s with
  | ind n ih =>
    refine codeC_of_tree (wpC_mono (turn n s h) (fun fin s' hf => ?_) fun _ _ h' => h')
    cases fin with
    | done f => exact hf
    | again c' =>
      rcases hf with ⟨rfl, m, hm, hI⟩ | hf
      · exact ⟨hq, hd, ih m hm hI⟩
      · exact hf
end
section
variable {prog : Program} {w : World} {A : Around} {E : Value → Shared → Prop} {s : Shared} {env : Env}
/-- a loop's turns over the clean stacks; nothing raises out of it -/
theorem codeC_forLoop {R : Result → Shared → Prop} {target : Expr} {it : Value} {body : List Stmt} (I : Nat → Shared → Prop)
    (turn : ∀ n s, I n s → wpAny (model prog w) A (pyNext it) (fun r s₁ => match r with
      | none => R (.ok .next) s₁
      | some v => wpAny (model prog w) A (assign target env v) (fun _ s₂ => wpC (model prog w) A (execs body env) (fun f s₃ => match f with
          | .next | .cont => ∃ m, m < n ∧ I m s₃
          | .brk => R (.ok .next) s₃
          | .ret v => R (.ok (.ret v)) s₃) (fun _ _ => False) s₂) (fun _ _ => False) s₁) (fun _ _ => False) s)
    (n : Nat) (h : I n s) (ht : ∀ v, letOwnedTupleGo target it v = pure () := by intro _; rfl) : codeC (model prog w) A (.forLoop target it body [] env) R s := by
  refine codeC_loop rfl rfl I (fun n s hI => ?_) n h
  show wpC _ A ((forTurn target it body [] env).onRaise (fun x => do noteFrame x env; theTreesLotGoes x)) _ _ s
  refine wpC_onRaise (wpC_mono (E := fun _ _ => False) ?_ (fun _ _ x => x) (fun _ _ x => x.elim))
  simp only [forTurn]
  refine wpC_bindA (wpAny_standAt (wpC_bindA (wpAny_onRaise (wpAny_mono (turn n s hI) (fun r s₁ h₁ => ?_) fun _ _ h' => h'.elim))))
  cases r with
  | none => exact wpC_pure (.inr ⟨rfl, rfl, codeC_of (codeAny_block (wpAny_execs_nil h₁))⟩)
  | some v =>
    refine wpC_bindA (wpAny_of_eq (ht v) ?_)
    refine wpC_bindA (wpAny_mono h₁ (fun _ s₂ h₂ => wpC_bind (wpC_mono h₂ (fun f s₃ h₃ => ?_) fun _ _ h' => h'.elim)) fun _ _ h' => h'.elim)
    cases f with
    | next => exact wpC_pure (.inl ⟨rfl, h₃⟩)
    | cont => exact wpC_pure (.inl ⟨rfl, h₃⟩)
    | brk => exact wpC_pure h₃
    | ret v => exact wpC_pure h₃
theorem execC_For {target iter : Expr} {body : List Stmt} {pos : Pos} {Q : Flow → Shared → Prop}
    (h : wpAny (model prog w) A (eval iter env) (fun x s₁ => wpAny (model prog w) A (pyIter x) (fun it s₂ => codeC (model prog w) A (.forLoop target it body [] env) (fun r s' => match r with | .ok f => Q f s' | .error _ => False) s₂) E s₁) E s)
    (hs : ∀ x, foldedSetIterable iter env x = pure x := by intro _; rfl) (hm : A.mark none = A := by rfl) : wpC (model prog w) A (exec (.For target iter body [] pos) env) Q E s := by
  rw [exec_For]
  refine wpC_bindA (wpAny_standAt (wpC_bindA (wpAny_mono h (fun x s₁ h₁ => ?_) fun _ _ e => e)))
  refine wpC_bindA (wpAny_of_eq (hs x) (wpC_bindA (wpAny_standAt (wpC_bindA (wpAny_holding (wpAny_mono h₁ (fun it s₂ h₂ => ?_) fun _ _ e => e))))))
  unfold runOwn
  have k : wpC (model prog w) A (run (.forLoop target it body [] env) none) Q (fun _ _ => False) s₂ := wpC_run rfl (by rw [hm]; exact codeC_mono h₂ fun r s' x => by cases r <;> exact x)
  exact wpC_onRaise (wpC_mono k (fun _ _ x => x) (fun _ _ x => x.elim))
theorem loopC_of {v : Str} {px : Pos} {body : List Stmt} {Q : Flow → Shared → Prop} {h₀ : Heap} {I : Addr} {fp : List Addr} {n : Nat} {P : Nat → Value → Prop} {St : Nat → Heap → Prop} {m₀ : Str → Option Value} {news : List (Addr × Obj)} (g : Nat → Int) (J : Nat → (Str → Option Value) → List (Addr × Obj) → Prop)
    (W : Walks prog w A I fp [I] n P St) (hv : env.kindOf v = some .local) (hp : (env.scope.kind == .class || (env.scope.kind == .module && env.locals != env.globals)) = false)
    (hLf : env.locals ∉ fp) (hI0 : h₀.get? I = none) (hnI : ∀ p ∈ news, p.1 ≠ I) (hIf : I ∈ fp) (hSI : ∀ i h, St i h → ∃ o, h.get? I = some o) (hst : St 0 s.heap) (hP : ∀ i v, i < n → P i v → ∃ t, v = .int (g i) t)
    (F : Fr h₀ env.locals s.heap m₀) (N : News h₀ env.locals s.heap news) (hj : J 0 m₀ news)
    (turn : ∀ i t m₁ news₁ h tk own oI, i < n → (I, oI) ∈ own → (∀ p ∈ own, p.1 ∈ fp) → (∀ p ∈ news₁, p.1 ≠ I) → J i m₁ news₁ → Fr h₀ env.locals h (fun y => if y = v then some (.int (g i) t) else m₁ y) → News h₀ env.locals h (own ++ news₁) →
      wpC (model prog w) A (execs body env) (PostI h₀ env.locals I (J (i + 1)) own { s with heap := h, toks := tk } Q) (fun _ _ => False) { s with heap := h, toks := tk })
    (done : ∀ m₁ news₁ h tk, J n m₁ news₁ → Fr h₀ env.locals h m₁ → News h₀ env.locals h news₁ → Q .next { s with heap := h, toks := tk }) :
    codeC (model prog w) A (.forLoop (.Name v px) (.ref I) body [] env) (fun r s' => match r with | .ok f => Q f s' | .error _ => False) s := by
  have hLI : env.locals ≠ I := fun e => hLf (e ▸ hIf)
  refine codeC_forLoop (fun k s' => ∃ h' tk m' nx i, s' = { s with heap := h', toks := tk } ∧ St i h' ∧ Fr h₀ env.locals h' m' ∧ News h₀ env.locals h' nx ∧ (∀ p ∈ nx, p.1 ≠ I) ∧ J i m' nx ∧ i ≤ n ∧ k = n + 1 - i) ?_ (n + 1)
    ⟨s.heap, s.toks, m₀, news, 0, rfl, hst, F, N, hnI, hj, Nat.zero_le _, rfl⟩
  rintro k s' ⟨h', tk, m', nx, i, rfl, hst', F', N', hnI', hJ, hi, rfl⟩
  have step : ∀ h₁ : Heap, (∀ b o, b ∉ [I] → h'.get? b = some o → h₁.get? b = some o) → Fr h₀ env.locals h₁ m' ∧ News h₀ env.locals h₁ nx := fun h₁ hk =>
    ⟨⟨F'.ns.at' fun o e => hk _ o (fun q => hLI (List.mem_singleton.mp q)) e, fun b o e => hk b o (fun q => by rw [List.mem_singleton.mp q, hI0] at e; cases e) (F'.keep b o e), F'.above⟩,
      fun p hp => ⟨hk _ _ (fun q => hnI' p hp (List.mem_singleton.mp q)) (N' p hp).1, (N' p hp).2⟩⟩
  by_cases hlt : i < n
  · refine W.item i _ _ _ hlt hst' fun u h₁ tk₁ hPu hst₁ hk₁ => ?_
    obtain ⟨F₁, N₁⟩ := step h₁ hk₁
    obtain ⟨t, rfl⟩ := hP i u hlt hPu
    refine wpAny_assign_Name (wpAny_storeName_local hv F₁.ns (fun h₂ hn₂ hs₂ => ?_) hp)
    have keep₂ : ∀ b ∈ fp, ∀ o, h₁.get? b = some o → h₂.get? b = some o := fun b hb o e => (hs₂.2 b fun q => hLf (q ▸ hb)).trans e
    have Nown : News h₀ env.locals h₂ (ownOf h₀ fp h₂) := news_ownOf hLf
    obtain ⟨oI, hoI⟩ := hSI _ _ (W.frame _ _ _ hst₁ keep₂)
    refine wpC_mono (turn i t m' nx h₂ _ (ownOf h₀ fp h₂) oI hlt (mem_ownOf hIf hI0 hoI) ownOf_sub hnI' hJ (F₁.set hn₂ hs₂) (Nown.append (N₁.set hs₂))) (fun f s₃ h₃ => ?_) fun _ _ e => e
    have fin : EndI h₀ env.locals I (J (i + 1)) (ownOf h₀ fp h₂) { s with heap := h₂, toks := tk₁ + 1 } s₃ → ∃ k, k < n + 1 - i ∧ ∃ h' tk m' nx i, s₃ = { s with heap := h', toks := tk } ∧ St i h' ∧ Fr h₀ env.locals h' m' ∧ News h₀ env.locals h' nx ∧ (∀ p ∈ nx, p.1 ≠ I) ∧ J i m' nx ∧ i ≤ n ∧ k = n + 1 - i := by
      rintro ⟨h₄, tk₃, m₃, nx₃, news₃, rfl, F₃, N₃, ho, hn, hI, hj₃⟩
      refine ⟨n + 1 - (i + 1), by omega, h₄, tk₃, m₃, nx₃, i + 1, rfl, W.frame _ _ _ hst₁ fun b hb o e => ?_, F₃, fun p hp => N₃ p (hn p hp), hI, hj₃, hlt, rfl⟩
      have e₂ := keep₂ b hb o e
      cases q : h₀.get? b with
      | some o₀ =>
        have e₃ := (F₁.set hn₂ hs₂).keep b o₀ q
        rw [e₂] at e₃
        cases e₃
        exact F₃.keep b _ q
      | none => exact (N₃ _ (ho _ (mem_ownOf hb q e₂))).1
    cases f with
    | next => exact fin h₃
    | cont => exact fin h₃
    | brk => exact h₃
    | ret v => exact h₃
  · have hin : i = n := by omega
    subst hin
    refine W.done _ _ _ hst' fun h₁ tk₁ hk₁ => ?_
    obtain ⟨F₁, N₁⟩ := step h₁ hk₁
    exact done m' nx h₁ tk₁ hJ F₁ N₁
def EndC (h₀ : Heap) (L : Addr) (it : Addr × Obj) (J : (Str → Option Value) → List (Addr × Obj) → Prop) (s₁ s₂ : Shared) : Prop :=
  ∃ h' tk m' nx, s₂ = { s₁ with heap := h', toks := tk } ∧ Fr h₀ L h' m' ∧ News h₀ L h' (it :: nx) ∧ (∀ p ∈ nx, p.1 ≠ it.1) ∧ J m' nx
def PostC (h₀ : Heap) (L : Addr) (it : Addr × Obj) (J : (Str → Option Value) → List (Addr × Obj) → Prop) (s₁ : Shared) (f : Flow) (s₂ : Shared) : Prop :=
  match f with
  | .ret _ => False
  | .brk => False
  | _ => EndC h₀ L it J s₁ s₂
theorem iter_lsC {v : Str} {px : Pos} {body : List Stmt} {Q : Flow → Shared → Prop} {h₀ : Heap} {x : Addr} {vs : List Value} {ks : List Int} {c : Nat} {m₀ : Str → Option Value} {news : List (Addr × Obj)} (J : Nat → (Str → Option Value) → List (Addr × Obj) → Prop)
    (hh : A.handled = none) (hv : env.kindOf v = some .local) (hp : (env.scope.kind == .class || (env.scope.kind == .module && env.locals != env.globals)) = false)
    (F : Fr h₀ env.locals s.heap m₀) (N : News h₀ env.locals s.heap news) (hx : (x, listOf vs.toArray c) ∈ news) (hi : IntsAre vs ks) (hj : J 0 m₀ news) (hJ : ∀ i m nx, J i m nx → (x, listOf vs.toArray c) ∈ nx)
    (turn : ∀ I oI i t m₁ nx h tk, i < ks.length → (∀ p ∈ nx, p.1 ≠ I) → J i m₁ nx → Fr h₀ env.locals h (fun y => if y = v then some (.int (ks.getD i 0) t) else m₁ y) → News h₀ env.locals h ((I, oI) :: nx) →
      wpC (model prog w) A (execs body env) (PostC h₀ env.locals (I, oI) (J (i + 1)) { s with heap := h, toks := tk }) (fun _ _ => False) { s with heap := h, toks := tk })
    (done : ∀ m₁ nx h tk, J ks.length m₁ nx → Fr h₀ env.locals h m₁ → News h₀ env.locals h nx → Q .next { s with heap := h, toks := tk }) :
    wpAny (model prog w) A (pyIter (.ref x)) (fun it s₂ => codeC (model prog w) A (.forLoop (.Name v px) it body [] env) (fun r s' => match r with | .ok f => Q f s' | .error _ => False) s₂) E s := by
  have hax := N _ hx
  have hls : s.heap.IsList x vs.toArray := N.isList hx
  have hne : x ≠ s.heap.objs.size := Nat.ne_of_lt (Heap.lt_size hax.1)
  refine wpAny_pyIter_list hls ?_
  have W := Walks.list (prog := prog) (w := w) hh s.heap.objs.size x hne vs.toArray
  have hlen : vs.toArray.size = ks.length := by simp [hi.length]
  rw [hlen] at W
  refine loopC_of (s := { s with heap := _ }) (fun i => ks.getD i 0) J W hv hp ?_ (next_is_new F) (fun p hp q => absurd (Heap.lt_size (N p hp).1) (q ▸ Nat.lt_irrefl _)) (List.mem_cons_self ..) (fun i h st => let ⟨⟨o, ho, _⟩, _⟩ := st; ⟨o, ho⟩)
    ⟨⟨_, Heap.get?_push_size _ rfl, rfl, rfl⟩, hls.at fun o e => Heap.get?_push_of_some _ e⟩ ?_ (F.push _) (fun p hp => ⟨Heap.get?_push_of_some _ (N p hp).1, (N p hp).2⟩) hj ?_ done
  · intro hm
    rcases List.mem_cons.mp hm with e | hm
    · exact absurd F.ns.lt (e ▸ Nat.lt_irrefl _)
    · exact hax.2.1 (List.mem_singleton.mp hm).symm
  · intro i u hlt hP
    obtain ⟨t, ht⟩ := hi.get i ks[i] (by simp [hlt])
    refine ⟨t, ?_⟩
    have hP' : vs[i]? = some u := by simpa using hP
    rw [ht] at hP'
    rw [List.getD_eq_getElem?_getD, List.getElem?_eq_getElem hlt]
    exact (Option.some.inj hP').symm
  · intro i t m₁ nx h tk own oI hlt hI hown hnI hJi F₁ N₁
    have known : ∀ p ∈ own, p = (s.heap.objs.size, oI) ∨ p = (x, listOf vs.toArray c) := fun p hp => by
      have h1 := (N₁ p (List.mem_append_left _ hp)).1
      rcases List.mem_cons.mp (hown p hp) with e | hm
      · have h2 := (N₁ _ (List.mem_append_left _ hI)).1
        rw [e] at h1
        exact .inl (Prod.ext e (Option.some.inj (h1.symm.trans h2)))
      · have e := List.mem_singleton.mp hm
        have h2 := (N₁ _ (List.mem_append_right _ (hJ _ _ _ hJi))).1
        rw [e] at h1
        exact .inr (Prod.ext e (Option.some.inj (h1.symm.trans h2)))
    refine wpC_mono (turn _ oI i t m₁ nx h tk hlt hnI hJi F₁ fun p hp => ?_) (fun f s₂ hx => ?_) fun _ _ e => e
    · rcases List.mem_cons.mp hp with rfl | hp
      · exact N₁ _ (List.mem_append_left _ hI)
      · exact N₁ _ (List.mem_append_right _ hp)
    have fin : EndC h₀ env.locals (s.heap.objs.size, oI) (J (i + 1)) { s with heap := h, toks := tk } s₂ → EndI h₀ env.locals s.heap.objs.size (J (i + 1)) own { s with heap := h, toks := tk } s₂ := by
      rintro ⟨h', tk', m', nx', e, F', N', hn', hj'⟩
      refine ⟨h', tk', m', nx', _, e, F', N', fun p hp => ?_, fun p hp => .tail _ hp, hn', hj'⟩
      rcases known p hp with rfl | rfl
      · exact .head _
      · exact .tail _ (hJ _ _ _ hj')
    cases f with
    | next => exact fin hx
    | cont => exact fin hx
    | brk => exact hx.elim
    | ret v => exact hx.elim
end

def IntIn (s : Shared) (lo hi : Int) (v : Value) (s' : Shared) : Prop := ∃ g t tk, v = .int g t ∧ s' = { s with toks := tk } ∧ lo ≤ g ∧ g < hi
theorem int_in {M : Model} {A : Around} {t : Sem Value} {lo hi : Int} {Q : Value → Shared → Prop} {E : Value → Shared → Prop} {s : Shared} (h : wpAny M A t (IntIn s lo hi) E s) (k : ∀ g u tk, lo ≤ g ∧ g < hi → Q (.int g u) { s with toks := tk }) : wpAny M A t Q E s :=
  wpAny_mono h (fun v s' hq => by obtain ⟨g, u, tk, rfl, rfl, h1, h2⟩ := hq; exact k g u tk ⟨h1, h2⟩) fun _ _ e => e
def IntAt (s : Shared) (g : Int) (v : Value) (s' : Shared) : Prop := ∃ u tk, v = .int g u ∧ s' = { s with toks := tk }
theorem int_at {M : Model} {A : Around} {t : Sem Value} (g : Int) {Q : Value → Shared → Prop} {E : Value → Shared → Prop} {s : Shared} (h : wpAny M A t (IntAt s g) E s) (k : ∀ u tk, Q (.int g u) { s with toks := tk }) : wpAny M A t Q E s :=
  wpAny_mono h (fun v s' hq => by obtain ⟨u, tk, rfl, rfl⟩ := hq; exact k u tk) fun _ _ e => e
theorem fm {x k : Int} (hk : 0 < k) : 0 ≤ x.fmod k ∧ x.fmod k < k := ⟨Int.fmod_nonneg_of_pos _ hk, Int.fmod_lt_of_pos _ hk⟩
theorem fd {x k : Int} (h0 : 0 ≤ x ∧ x < k * 65536) (hk : 65536 = k) : 0 ≤ x.fdiv k ∧ x.fdiv k < 65536 := by
  subst hk
  rw [Int.fdiv_eq_ediv_of_nonneg _ (by decide)]
  omega
theorem canon {m m₀ : Str → Option Value} {k z : Value} (hs : m (Str.ofString "size") = some z) (hr : ∀ y, y ≠ Str.ofString "number" → y ≠ Str.ofString "n" → y ≠ Str.ofString "great" → y ≠ Str.ofString "cluster" → y ≠ Str.ofString "size" → m y = m₀ y) (y : Str) :
    (if y = Str.ofString "number" then some k else m y) = if y = Str.ofString "number" then some k else if y = Str.ofString "n" then m (Str.ofString "n") else if y = Str.ofString "great" then m (Str.ofString "great") else if y = Str.ofString "cluster" then m (Str.ofString "cluster") else if y = Str.ofString "size" then some z else m₀ y := by
  by_cases h1 : y = Str.ofString "number"
  · rw [if_pos h1, if_pos h1]
  rw [if_neg h1, if_neg h1]
  by_cases h2 : y = Str.ofString "n"
  · rw [if_pos h2, h2]
  rw [if_neg h2]
  by_cases h3 : y = Str.ofString "great"
  · rw [if_pos h3, h3]
  rw [if_neg h3]
  by_cases h4 : y = Str.ofString "cluster"
  · rw [if_pos h4, h4]
  rw [if_neg h4]
  by_cases h5 : y = Str.ofString "size"
  · rw [if_pos h5, h5, hs]
  rw [if_neg h5]
  exact hr y h1 h2 h3 h4 h5
theorem news_rot {h₀ h : Heap} {L : Addr} {a b c d : Addr × Obj} {l : List (Addr × Obj)} (N : News h₀ L h (a :: b :: c :: d :: l)) : News h₀ L h (b :: c :: d :: a :: l) := fun p hp => N p (by
  simp only [List.mem_cons] at hp ⊢
  rcases hp with h | h | h | h | h
  · exact .inr (.inl h)
  · exact .inr (.inr (.inl h))
  · exact .inr (.inr (.inr (.inl h)))
  · exact .inl h
  · exact .inr (.inr (.inr (.inr h))))
theorem mem_move {α : Type} {a b c d : α} {l : List α} : ∀ q ∈ a :: b :: c :: d :: l, q ∈ b :: c :: a :: d :: l := fun q hq => by
  simp only [List.mem_cons] at hq ⊢
  rcases hq with h | h | h | h
  · exact .inr (.inr (.inl h))
  · exact .inl h
  · exact .inr (.inl h)
  · exact .inr (.inr (.inr h))
theorem mem_back {α : Type} {a b c d : α} {l : List α} : ∀ q ∈ b :: c :: a :: d :: l, q ∈ a :: b :: c :: d :: l := fun q hq => by
  simp only [List.mem_cons] at hq ⊢
  rcases hq with h | h | h | h
  · exact .inr (.inl h)
  · exact .inr (.inr (.inl h))
  · exact .inl h
  · exact .inr (.inr (.inr h))
theorem list_not_dict {vs : List Value} {c n : Nat} {es : List DictEntry} (e : listOf vs.toArray c = dictOf es n) : False := absurd (Value.type.inj (congrArg Obj.cls e : Value.type "list" = Value.type "dict")) (by decide)
theorem list_size {a b : Array Value} {c n : Nat} (e : listOf a c = listOf b n) : a.size = b.size := by cases e; rfl
section
variable {prog : Program} {w : World} {A : Around} {E : Value → Shared → Prop} {s : Shared} {env : Env}
/-- the law's loop: the entry's dict and the fields' list change together -/
theorem iter_lj {px : Pos} {body : List Stmt} {Q : Flow → Shared → Prop} {h₀ : Heap} {xl : Addr} {vs : List Value} {ks : List Int} {c : Nat} {m₀ : Str → Option Value} {fix : List (Addr × Obj)} {O D Rf : Addr} {oO : Obj} {ed : Int → Int → Int → Tok → Tok → Tok → Obj} {rf : Int → Int → Tok → Tok → Obj} {a6 a9 az : Int} {u6 u9 uz w6 w9 tz₀ : Tok}
    (hh : A.handled = none) (hv : env.kindOf (Str.ofString "number") = some .local) (hp : (env.scope.kind == .class || (env.scope.kind == .module && env.locals != env.globals)) = false)
    (F : Fr h₀ env.locals s.heap m₀) (N : News h₀ env.locals s.heap ((xl, listOf vs.toArray c) :: (O, oO) :: (D, ed a6 a9 az u6 u9 uz) :: (Rf, rf a6 a9 w6 w9) :: fix)) (hi : IntsAre vs ks) (hk : ks.length ≤ 9) (hs : m₀ (Str.ofString "size") = some (.int az tz₀))
    (hed : (ed a6 a9 az u6 u9 uz).cls = .type "dict") (hrf : ∃ arr n, rf a6 a9 w6 w9 = listOf arr n ∧ arr.size = 10)
    (q6 : 0 ≤ a6 ∧ a6 < 65536) (q9 : 0 ≤ a9 ∧ a9 < 65536) (qz : 0 ≤ az ∧ az < 4294967296) (nD : ∀ p ∈ fix, p.1 ≠ D) (nR : ∀ p ∈ fix, p.1 ≠ Rf) (nOR : O ≠ Rf) (nDR : D ≠ Rf)
    (turn : ∀ I oI num t vn vg vc (b6 b9 bz : Int) (tz v6 v9 vz x6 x9 : Tok) h tk, (0 ≤ b6 ∧ b6 < 65536) → (0 ≤ b9 ∧ b9 < 65536) → (0 ≤ bz ∧ bz < 4294967296) → I ≠ Rf → (∀ p ∈ (I, oI) :: (Rf, rf b6 b9 x6 x9) :: (xl, listOf vs.toArray c) :: fix, p.1 ≠ D) → (∀ p ∈ (xl, listOf vs.toArray c) :: fix, p.1 ≠ Rf) →
      Fr h₀ env.locals h (fun y => if y = Str.ofString "number" then some (.int num t) else if y = Str.ofString "n" then vn else if y = Str.ofString "great" then vg else if y = Str.ofString "cluster" then vc else if y = Str.ofString "size" then some (.int bz tz) else m₀ y) → News h₀ env.locals h ((O, oO) :: (D, ed b6 b9 bz v6 v9 vz) :: (I, oI) :: (Rf, rf b6 b9 x6 x9) :: (xl, listOf vs.toArray c) :: fix) →
      ∀ P : Flow → Shared → Prop, (∀ h' tk' m' (b6 b9 bz : Int) (tz v6 v9 vz x6 x9 : Tok), Fr h₀ env.locals h' m' → News h₀ env.locals h' ((O, oO) :: (D, ed b6 b9 bz v6 v9 vz) :: (I, oI) :: (Rf, rf b6 b9 x6 x9) :: (xl, listOf vs.toArray c) :: fix) → m' (Str.ofString "size") = some (.int bz tz) → (∀ y, y ≠ Str.ofString "number" → y ≠ Str.ofString "n" → y ≠ Str.ofString "great" → y ≠ Str.ofString "cluster" → y ≠ Str.ofString "size" → m' y = m₀ y) → (0 ≤ b6 ∧ b6 < 65536) → (0 ≤ b9 ∧ b9 < 65536) → (0 ≤ bz ∧ bz < 4294967296) → P .next { s with heap := h', toks := tk' }) →
      wpC (model prog w) A (execs body env) P (fun _ _ => False) { s with heap := h, toks := tk })
    (done : ∀ v₁ v₂ v₃ v₄ (b6 b9 bz : Int) (tz v6 v9 vz x6 x9 : Tok) h tk, (0 ≤ b6 ∧ b6 < 65536) → (0 ≤ b9 ∧ b9 < 65536) → (0 ≤ bz ∧ bz < 4294967296) →
      Fr h₀ env.locals h (fun y => if y = Str.ofString "number" then v₁ else if y = Str.ofString "n" then v₂ else if y = Str.ofString "great" then v₃ else if y = Str.ofString "cluster" then v₄ else if y = Str.ofString "size" then some (.int bz tz) else m₀ y) → News h₀ env.locals h ((O, oO) :: (D, ed b6 b9 bz v6 v9 vz) :: (Rf, rf b6 b9 x6 x9) :: (xl, listOf vs.toArray c) :: fix) → Q .next { s with heap := h, toks := tk }) :
    wpAny (model prog w) A (pyIter (.ref xl)) (fun it s₂ => codeC (model prog w) A (.forLoop (.Name (Str.ofString "number") px) it body [] env) (fun r s' => match r with | .ok f => Q f s' | .error _ => False) s₂) E s := by
  have nxD : xl ≠ D := fun e => by
    have h1 := (N _ (.head _)).1
    have h2 := (N _ (.tail _ (.tail _ (.head _)))).1
    rw [e, h2] at h1
    have h3 := congrArg Obj.cls (Option.some.inj h1)
    rw [hed] at h3
    exact absurd (Value.type.inj h3) (by decide)
  have nxR : xl ≠ Rf := fun e => by
    obtain ⟨arr, n, e1, e2⟩ := hrf
    have h1 := (N _ (.head _)).1
    have h2 := (N _ (.tail _ (.tail _ (.tail _ (.head _))))).1
    rw [e, h2, e1] at h1
    have := list_size (Option.some.inj h1)
    have q : vs.toArray.size = ks.length := by simp [hi.length]
    rw [q, e2] at this
    rw [← this] at hk
    exact absurd hk (by decide)
  refine iter_lsC (fun _ m nx => ∃ (b6 b9 bz : Int) (tz v6 v9 vz x6 x9 : Tok), m (Str.ofString "size") = some (.int bz tz) ∧ (∀ y, y ≠ Str.ofString "number" → y ≠ Str.ofString "n" → y ≠ Str.ofString "great" → y ≠ Str.ofString "cluster" → y ≠ Str.ofString "size" → m y = m₀ y) ∧ nx = (O, oO) :: (D, ed b6 b9 bz v6 v9 vz) :: (Rf, rf b6 b9 x6 x9) :: (xl, listOf vs.toArray c) :: fix ∧ (0 ≤ b6 ∧ b6 < 65536) ∧ (0 ≤ b9 ∧ b9 < 65536) ∧ 0 ≤ bz ∧ bz < 4294967296)
    hh hv hp F (news_rot N) (.tail _ (.tail _ (.tail _ (.head _)))) hi ⟨a6, a9, az, _, _, _, _, _, _, hs, fun _ _ _ _ _ _ => rfl, rfl, q6, q9, qz⟩ ?_ ?_ ?_
  · rintro i m nx ⟨b6, b9, bz, tz, v6, v9, vz, x6, x9, hs', hr, rfl, _⟩
    exact .tail _ (.tail _ (.tail _ (.head _)))
  · rintro I oI i t m nx h tk hlt hnI ⟨b6, b9, bz, tz, v6, v9, vz, x6, x9, hs', hr, rfl, p6, p9, pz⟩ F' N'
    have F' := fr_as F' (canon hs' hr)
    have iD : I ≠ D := (hnI _ (.tail _ (.head _))).symm
    have iR : I ≠ Rf := (hnI _ (.tail _ (.tail _ (.head _)))).symm
    refine turn I oI _ t _ _ _ b6 b9 bz tz v6 v9 vz x6 x9 h tk p6 p9 pz iR (fun p hp => ?_) (fun p hp => ?_) F' (PyProof.Rows.News.perm N' mem_back) _ fun h' tk' m' c6 c9 cz tz' v6' v9' vz' x6' x9' F'' N'' hs'' hr'' k6 k9 kz => ?_
    · rcases List.mem_cons.mp hp with rfl | hp
      · exact iD
      rcases List.mem_cons.mp hp with rfl | hp
      · exact nDR.symm
      rcases List.mem_cons.mp hp with rfl | hp
      · exact nxD
      exact nD p hp
    · rcases List.mem_cons.mp hp with rfl | hp
      · exact nxR
      exact nR p hp
    refine ⟨h', tk', m', _, rfl, F'', PyProof.Rows.News.perm N'' mem_move, ?_, c6, c9, cz, tz', v6', v9', vz', x6', x9', hs'', hr'', rfl, k6, k9, kz⟩
    intro p hp
    rcases List.mem_cons.mp hp with rfl | hp
    · exact hnI _ (.head _)
    rcases List.mem_cons.mp hp with rfl | hp
    · exact iD.symm
    rcases List.mem_cons.mp hp with rfl | hp
    · exact iR.symm
    exact hnI p (.tail _ (.tail _ (.tail _ hp)))
  · rintro m nx h tk ⟨b6, b9, bz, tz, v6, v9, vz, x6, x9, hs', hr, rfl, p6, p9, pz⟩ F' N'
    refine done (m (Str.ofString "number")) (m (Str.ofString "n")) (m (Str.ofString "great")) (m (Str.ofString "cluster")) b6 b9 bz tz v6 v9 vz x6 x9 h tk p6 p9 pz (fr_as F' fun y => ?_) N'
    by_cases h1 : y = Str.ofString "number"
    · rw [if_pos h1, h1]
    rw [if_neg h1]
    by_cases h2 : y = Str.ofString "n"
    · rw [if_pos h2, h2]
    rw [if_neg h2]
    by_cases h3 : y = Str.ofString "great"
    · rw [if_pos h3, h3]
    rw [if_neg h3]
    by_cases h4 : y = Str.ofString "cluster"
    · rw [if_pos h4, h4]
    rw [if_neg h4]
    by_cases h5 : y = Str.ofString "size"
    · rw [if_pos h5, h5, hs']
    rw [if_neg h5]
    exact hr y h1 h2 h3 h4 h5
end

section
open LCg
variable {prog : Program} {w : World} {A : Around} {E : Value → Shared → Prop} {s : Shared} {h₀ : Heap} {L : Addr} {m : Str → Option Value} {env : Env}
def SrcBa (prog : Program) (w : World) (A : Around) (h₀ : Heap) (L : Addr) (m : Str → Option Value) (env : Env) (elt : Expr) (v : Str) (scope : Scope) (cl : List (Str × Addr)) (ax : Addr) (b : Array UInt8) (news : List (Addr × Obj)) (Q : Value → Shared → Prop) (xv : Value) (s₁ : Shared) : Prop :=
  xv = .ref ax ∧ A.handled = none ∧ Fr h₀ L s₁.heap m ∧ News h₀ L s₁.heap news ∧ (ax, baOf b) ∈ news ∧ b.size ≤ 1000 ∧
      ∀ g, CompRest prog w A h₀ L m env elt v scope cl { s₁ with heap := g } (fun nw => (ax, baOf b) ∈ nw) (fun i u => ∃ c t, b[i]? = some c ∧ u = .int (c.toNat : Int) t) (FinE h₀ L m { s₁ with heap := g } Q) b.size 0 [] news
/-- a list comprehension over a bytearray of the ledger -/
theorem ListComp_ba {elt iter : Expr} {v : Str} {px : Pos} {scope : Scope} {cl : List (Str × Addr)} {pos : Pos} {Q : Value → Shared → Prop} {ax : Addr} {b : Array UInt8} {news : List (Addr × Obj)} (_F : Fr h₀ L s.heap m)
    (hclos : closureFor scope env = pure cl) (hcell : ∀ y ∈ scope.names, y.2 ≠ .cell) (hkind : scope.kind = .function)
    (hnames : ∀ y ∈ scope.names, y.2 = .local → scope.names.lookup y.1 = some .local) (hx : scope.names.lookup v = some .local)
    (h : wpAny (model prog w) A (eval iter env) (fun xv s₁ => SrcBa prog w A h₀ L m env elt v scope cl ax b news Q xv s₁) E s)
    (hs : ∀ x, foldedSetIterable iter env x = pure x := by intro _; rfl) :
    wpAny (model prog w) A (eval (.ListComp elt [⟨.Name v px, iter, [], 0⟩] scope pos) env) Q E s := by
  rw [eval_ListComp]
  refine wpAny_comprehension_free (use := none) rfl hs hclos hkind hnames (wpAny_mono h (fun xv s₁ h₁ => ?_) fun _ _ e => e)
  obtain ⟨rfl, hh, F, N, hm, hz, R⟩ := h₁
  have ha := (N _ hm).1
  have hlt : ax < s₁.heap.objs.size := Heap.lt_size ha
  refine ba_iter ha ?_
  have up : ∀ c o, s₁.heap.get? c = some o → (s₁.heap.push { cls := .type "bytearray_iterator", data := .fields #[.ref ax, .int 0 0] }).get? c = some o := fun c o e => Heap.get?_push_of_some _ e
  refine block_U (S := fun nw => (ax, baOf b) ∈ nw) (ba_walks hh s₁.heap.objs.size ax b (Nat.ne_of_lt hlt)) (by rw [sizeLine_eq]; omega) (fun i h st => by obtain ⟨o, e, _⟩ := st.1; exact ⟨o, e⟩)
    (fun i h h' o nw st e e' k N' S => ⟨by obtain ⟨o', q, r⟩ := st.1; rw [e] at q; cases q; exact ⟨o, e', r⟩, (N' _ S).1⟩) hcell hkind hx ⟨⟨_, Heap.get?_push_size _ rfl, rfl, rfl⟩, up _ _ ha⟩ (fun c hc => ?_)
    (F.keeps up) (N.grown up) (Nat.ne_of_lt F.ns.lt) (next_is_new F) (fun p hp => Nat.ne_of_lt (Heap.lt_size (N p hp).1)) hm (R _) ?_
  · show c < (s₁.heap.push _).objs.size
    rw [Heap.size_push]
    rcases List.mem_cons.mp hc with rfl | hc
    · exact Nat.lt_succ_self _
    · rw [List.mem_singleton.mp hc]; exact Nat.lt_succ_of_lt hlt
  · intro D C h tk m' ys news' F' N' o1 hn hC₀ hD₀ hCL hDL hCD offC fin
    refine ⟨m', hn, fun h'' hs'' => fin D h'' tk (F'.change hs'' hCL hC₀) (fun p hp => ?_) o1⟩
    refine ⟨hs''.extBut _ _ ?_ (N' p hp).1, (N' p hp).2⟩
    rcases List.mem_cons.mp hp with rfl | hp
    · exact Ne.symm hCD
    · exact offC p hp
/-- the turns of a comprehension, each made by R -/
theorem comp_turns {elt : Expr} {v : Str} {scope : Scope} {cl : List (Str × Addr)} {S : List (Addr × Obj) → Prop} {P : Nat → Value → Prop} {Fin : List Value → List (Addr × Obj) → Prop} {news : List (Addr × Obj)} {n : Nat} (R : Nat → Value → Prop) (hS : S news)
    (turn : ∀ i u I oI C oC D ys m₂ h tk (E' : Value → Shared → Prop), P i u → NsObj oC m₂ → m₂ v = some u → Fr h₀ L h m → News h₀ L h ((I, oI) :: (C, oC) :: (D, lst ys) :: news) → Off3 I C D news → ((@Ne Nat I C) ∧ (@Ne Nat I D) ∧ (@Ne Nat C D)) →
      wpAny (model prog w) A (eval elt (compEnvC scope cl C env)) (fun y s' => ∃ h' tk', s' = { s with heap := h', toks := tk' } ∧ Fr h₀ L h' m ∧ News h₀ L h' ((I, oI) :: (C, oC) :: (D, lst ys) :: news) ∧ R i y) E' { s with heap := h, toks := tk })
    (fin : ∀ ys, ys.length = n → (∀ i y, ys[i]? = some y → R i y) → Fin ys news) :
    ∀ k i (ys : List Value), i + k = n → ys.length = i → (∀ j y, ys[j]? = some y → R j y) → CompRest prog w A h₀ L m env elt v scope cl s S P Fin k i ys news
  | 0, i, ys, hk, hl, hr => fin ys (by omega) hr
  | k + 1, i, ys, hk, hl, hr => fun u I oI C oC D m₂ h tk E' hP hns hm F N off ne =>
    wpAny_mono (turn i u I oI C oC D ys m₂ h tk E' hP hns hm F N off ne) (fun y s' hy => by
      obtain ⟨h', tk', rfl, F', N', hR⟩ := hy
      exact ⟨h', tk', news, rfl, F', N', off, hS, comp_turns R hS turn fin k (i + 1) (ys ++ [y]) (by omega) (by simp [hl]) (fun j z hz => by
        rcases Nat.lt_or_ge j ys.length with hj | hj
        · rw [List.getElem?_append_left hj] at hz; exact hr j z hz
        · rw [List.getElem?_append_right hj] at hz
          have : j - ys.length = 0 := by
            rcases Nat.eq_zero_or_pos (j - ys.length) with h0 | h0
            · exact h0
            · rw [List.getElem?_eq_none (by simp; omega)] at hz; cases hz
          rw [this] at hz
          cases Option.some.inj hz
          have : j = i := by omega
          rw [this]; exact hR)⟩) fun _ _ e => e
end

theorem strs_of : ∀ (l : List Nat) (ys : List Value), ys.length = l.length → (∀ (i : Nat) (y : Value), ys[i]? = some y → ∃ (c : Nat) (t : Tok), l[i]? = some c ∧ y = Value.str ⟨#[c]⟩ t) → StrsAre ys (l.map fun c => ⟨#[c]⟩)
  | [], [], _, _ => .nil
  | [], _ :: _, h, _ => nomatch h
  | _ :: _, [], h, _ => nomatch h
  | c :: l, y :: ys, hl, h => by
    obtain ⟨c', t, e, rfl⟩ := h 0 y rfl
    cases e
    exact .cons _ _ (strs_of l ys (Nat.succ.inj hl) fun i y hy => h (i + 1) y hy)
theorem join_ones (l : List Nat) : Txt.join (Str.ofString "") (l.map fun c => ⟨#[c]⟩) = ⟨l.toArray⟩ := by
  have e := join_nil_signs ⟨l.toArray⟩
  rw [show Txt.join (Str.ofString "") (l.map fun c => (⟨#[c]⟩ : Str)) = Builtin.Str.glued (Str.ofString "") (l.map fun c => (⟨#[c]⟩ : Str)) from rfl, StrLaws.glued_eq_join]
  exact e
theorem toNat_ints (b : Array UInt8) : (KBw.bInts b).map Int.toNat = b.toList.map (·.toNat) := by
  unfold KBw.bInts
  rw [List.map_map]
  rfl
section
variable {w : World} {dp un : Nat} {gd : Option (List Code)} {cn : Str} {cs : Scope} {a : Addr} {ccd : Value} {cl : List (Str × Addr)} {outer : List Env} {A₀ : Around} {base h₀ : Heap} {L : Addr} {m : Str → Option Value} {news : List (Addr × Obj)} {s : Shared} {Q E : Value → Shared → Prop} {loose : List Str} {mean : ExcName → Option Value} {mg mb : Str → Option Value}
  (B : Below A₀ base outer h₀) (F : Fr h₀ L s.heap m) (X : (Mine.KF w.params).In h₀) (N : News h₀ L s.heap news) (T : Top topProg loose mean mg mb h₀) (hk : cs.kind = .function) (hd : dp + 8 ≤ 500) (hu : un + 160 ≤ 5000)
include B F X N T hk hd hu
theorem ct_decoded {x : Addr} {b : Array UInt8} {ks : List Int} (hx : (x, baOf b) ∈ news) (hb : KBw.bInts b = ks) (hz : ks.length ≤ 11)
    (ret : ∀ t h' tk', Fr h₀ L h' m → News h₀ L h' news → Q (.str ⟨(ks.map Int.toNat).toArray⟩ t) { s with heap := h', toks := tk' }) :
    wpAny (model PySem.Challenge.rw_iw0015_02.row.prog w) (ktrTop dp un gd cn cs L a ccd cl outer) (call (.ref 184) [.ref x]) Q E s := by
  k_with_none
  (k_with "ite" => (k_closed; first | refine ite_pos (by decide) ?_ | refine ite_neg (by decide) ?_))
  (k_with "execs nil" => (k_here; dsimp only))
  (k_with "execs cons" => (k_here; dsimp only))
  k_with "eval ListComp" => (k_here; k_dflt (refine' ListComp_ba (b := b) (ax := x) (news := news) ?f0 ?c1 ?c2 ?c3 ?c4 ?c5 ?_ ?hs; (case f0 => k_asm); (case c1 => with_unfolding_all rfl); (case c2 => decide); (case c3 => rfl); (case c4 => decide); (case c5 => rfl); (case hs => intro _; rfl)))
  revert X; k_fill; intro X
  refine wpAny_call ?_
  k_dflt (refine' code_def ?k1 ?k2 ?k3 ?k4 ?k5 ?kA ?kF ?kK ?k6 ?k7 ?k8 ?k9 ?kB ?_ ?c2 ?c3 ?c4 ?c5; (case kA => exact rfl); (case kF => exact rfl); (case kK => first | exact rfl | assumption); (case k1 => k_asm); (case k2 => k_asm); (case k3 => k_asm); (case k4 => k_asm); (case k5 => k_asm); (case k6 => k_is); (case k7 => k_is); (case k8 => k_room); (case k9 => exact kp_binds (binds := [(Str.ofString "octets", Value.ref x)]) (by k_in) (fun S => by kernel_rfl)); (case c5 => decide); (case kB => exact locs rfl); (case c2 => exact rfl); (case c3 => exact rfl); (case c4 => exact rfl); k_whole; intro g' L' h' FG' F' N' B' X' T'; (try dsimp only); (try k_lift B'); (try k_fold))
  (replace F' : Fr g' L' h' (fun y => List.lookup y [(Str.ofString "octets", Value.ref x)]) := F')
  k_steps
  refine' ⟨rfl, ?a, ?f, ?n, ?x, ?z, fun g => comp_turns (fun i y => ∃ c t, b[i]? = some c ∧ y = .str ⟨#[c.toNat]⟩ t) ?s ?t ?e _ _ _ (Nat.zero_add _) rfl ?r⟩
  case a => rfl
  case f => k_asm
  case n => k_asm
  case x => exact hx
  case z => rw [← KBw.ints_length, hb]; omega
  case s => exact hx
  case r => exact fun _ _ h => nomatch h
  case t =>
    rintro i u I oI C oC D ys m₂ h8 tk8 E' ⟨c, t, hc, rfl⟩ hn hm F8 N8 off ne
    k_steps
    refine chr_of_range (by omega) (by have := c.toNat_lt; omega) ?_
    exact ⟨_, _, rfl, F8, N8, c, _, hc, rfl⟩
  case e =>
    intro ys hl hr D h8 tk8 F8 N8 off
    have hs := strs_of (b.toList.map (·.toNat)) ys (by simp [hl]) (fun i y hy => by
      obtain ⟨c, t, hc, rfl⟩ := hr i y hy
      exact ⟨c.toNat, t, by simp [hc], rfl⟩)
    dsimp only
    k_steps
    refine join_listW (N8.isList (.head _)) (by rw [List.toList_toArray]; exact hs) (by decide) (by simp only [signLens_sum, List.length_map, Array.length_toList]; rw [← KBw.ints_length, hb]; omega) fun t9 k9 => ?_
    rw [join_ones, ← toNat_ints, hb]
    k_steps
    refine' ret _ _ _ ?f ?n
    case f => k_asm
    case n => (rename News h₀ L _ _ => N7; exact fun p hp => N7 p (.tail _ hp))
end
section
variable {prog : Program} {w : World} {A : Around} {E : Value → Shared → Prop} {s : Shared} {Q : Value → Shared → Prop}
theorem rstrip11 {l : List Nat} {t : Tok} (hz : l.length ≤ 11) (h : ∀ t k, (Txt.rstrip ⟨l.toArray⟩).length ≤ 11 → Q (.str (Txt.rstrip ⟨l.toArray⟩) t) { s with toks := k }) : wpAny (model prog w) A (call (.builtin "str.rstrip") [.str ⟨l.toArray⟩ t]) Q E s := by
  have e : (⟨l.toArray⟩ : Str).length = l.length := List.size_toArray ..
  exact SCL.rstrip (fun t k hl => h t k (by omega)) (by rw [e, sizeLine_eq]; omega)
theorem len11s {x : Str} {t : Tok} (hz : x.length ≤ 11) (h : ∀ t k, Q (.int (x.length : Int) t) { s with toks := k }) : wpAny (model prog w) A (call (.builtin "len") [.str x t]) Q E s :=
  SBL.len (by omega) (h _ _)
end

noncomputable def baseOf (ks : List Int) : Str := Txt.rstrip ⟨(List.map Int.toNat (List.take (clipAt ks.length 8) ks)).toArray⟩
noncomputable def extOf (ks : List Int) : Str := Txt.rstrip ⟨(List.map Int.toNat (List.take (clipAt ks.length 11 - clipAt ks.length 8) (List.drop (clipAt ks.length 8) ks))).toArray⟩
noncomputable def textOf (ks : List Int) : Str := Txt.join (if 0 < (extOf ks).length then Str.ofString "." else Str.ofString "") [baseOf ks, extOf ks]
section
variable {w : World} {dp un : Nat} {gd : Option (List Code)} {cn : Str} {cs : Scope} {a : Addr} {ccd : Value} {cl : List (Str × Addr)} {outer : List Env} {A₀ : Around} {base h₀ : Heap} {L : Addr} {m : Str → Option Value} {news : List (Addr × Obj)} {s : Shared} {Q E : Value → Shared → Prop} {loose : List Str} {mean : ExcName → Option Value} {mg mb : Str → Option Value}
  (B : Below A₀ base outer h₀) (F : Fr h₀ L s.heap m) (X : (Mine.KF w.params).In h₀) (N : News h₀ L s.heap news) (T : Top topProg loose mean mg mb h₀) (hk : cs.kind = .function) (hd : dp + 16 ≤ 500) (hu : un + 320 ≤ 5000)
include B F X N T hk hd hu
theorem ct_text {S D x : Addr} {b : Array UInt8} {ks : List Int} {bb : Bool} {t1 t2 t3 : Tok} (hS : (S, instObj 680 D) ∈ news) (hD : (D, dictOf [{ hash := PyData.keyHash w.params (Str.ofString "name"), key := Value.str (Str.ofString "name") t1, val := Value.ref x }, { hash := PyData.keyHash w.params (Str.ofString "encoding"), key := Value.str (Str.ofString "encoding") t2, val := Value.str (Str.ofString "latin-1") 479 }, { hash := PyData.keyHash w.params (Str.ofString "initialized"), key := Value.str (Str.ofString "initialized") t3, val := Value.bool true }] 3) ∈ news) (hx : (x, baOf b) ∈ news) (hb : KBw.bInts b = ks) (ok : NmOk ks bb)
    (ret : ∀ t h' tk', Fr h₀ L h' m → News h₀ L h' news → Q (.str (textOf ks) t) { s with heap := h', toks := tk' }) :
    wpAny (model PySem.Challenge.rw_iw0015_02.row.prog w) (ktrTop dp un gd cn cs L a ccd cl outer) (call (.ref 584) [.ref S]) Q E s := by
  have hz := ok.1
  k_with_none
  (k_with "ite" => (k_closed; first | refine ite_pos (by decide) ?_ | refine ite_neg (by decide) ?_))
  (k_with "execs nil" => (k_here; dsimp only))
  (k_with "execs cons" => (k_here; dsimp only))
  (k_with "subscriptTail" => (k_here; (with_reducible show wpAny _ _ (subscriptTail _ _ (Value.ref _) (Value.int _ _)) _ _ _); k_dflt (refine' ba_item0 ?N ?x ?k ?o ?_ ?s ?t; (case N => k_asm); (case x => k_mem); (case k => k_asm); (case o => k_asm); (case s => with_unfolding_all rfl); (case t => intro _; with_unfolding_all rfl); k_whole); intro _ _ _ lo9 hi9))
  (k_with "subscriptTail" => (k_here; (with_reducible show wpAny _ _ (subscriptTail _ (Expr.Slice _ _ none _) (Value.ref _) (Value.ref _)) _ _ _); (with_reducible rename Fr _ _ _ _ => F9); (with_reducible rename News _ _ _ _ => N9); k_dflt (refine' ba_slice (s := ⟨_, _, _, _, _⟩) F9 N9 ?x ?k ?l ?u ?z ?_ ?s ?t; (case x => k_mem); (case k => k_asm); (case l => constructor); (case u => constructor); (case z => first | assumption | omega | (simp only [List.length_take, List.length_drop]; omega)); (case s => with_unfolding_all rfl); (case t => intro _; with_unfolding_all rfl)); intro y9 b9 h9 F9 N9 l9 hb9; (try k_lt l9); (try simp only [Option.elim, KBc.clip_lit, clipAt_nat, List.drop_zero, Nat.sub_zero] at hb9)))
  (k_with "call ref" => (k_here; (with_reducible show wpAny _ _ (call (Value.ref (nat_lit 184)) _) _ _ _); k_dflt (refine' ct_decoded ?kB ?kF ?kX ?kN ?kT ?kk ?kd ?ku ?e0 ?e1 ?e2 ?_; (case kB => k_asm); (case kF => k_asm); (case kX => k_asm); (case kN => k_asm); (case kT => k_asm); (case kk => first | exact rfl | assumption); (case kd => k_room); (case ku => k_units); (case e0 => k_mem); (case e1 => k_asm); (case e2 => first | assumption | omega | (simp only [List.length_take, List.length_drop]; omega)); k_whole); intro t9 h9 tk9 F9 N9; (try dsimp only); (try k_fold)))
  (k_with "call builtin:str.rstrip" => (k_here; (with_reducible show wpAny _ _ (call (Value.builtin "str.rstrip") [Value.str _ _]) _ _ _); k_dflt (refine' rstrip11 ?z ?_; (case z => (simp only [List.length_map, List.length_take, List.length_drop]; omega)); k_whole); intro _ _ ls9))
  (k_with "call builtin:len" => (k_here; (with_reducible show wpAny _ _ (call (Value.builtin "len") [Value.str _ _]) _ _ _); k_dflt (refine' len11s ?z ?_; (case z => assumption); k_whole); intro _ _))
  k_with "setItem ref int" => (exfalso; omega)
  revert X; k_fill; intro X
  refine wpAny_call ?_
  k_dflt (refine' code_def ?k1 ?k2 ?k3 ?k4 ?k5 ?kA ?kF ?kK ?k6 ?k7 ?k8 ?k9 ?kB ?_ ?c2 ?c3 ?c4 ?c5; (case kA => exact rfl); (case kF => exact rfl); (case kK => first | exact rfl | assumption); (case k1 => k_asm); (case k2 => k_asm); (case k3 => k_asm); (case k4 => k_asm); (case k5 => k_asm); (case k6 => k_is); (case k7 => k_is); (case k8 => k_room); (case k9 => exact kp_binds (binds := [(Str.ofString "self", Value.ref S)]) (by k_in) (fun S => by kernel_rfl)); (case c5 => decide); (case kB => exact locs rfl); (case c2 => exact rfl); (case c3 => exact rfl); (case c4 => exact rfl); k_whole; intro g' L' h' FG' F' N' B' X' T'; (try dsimp only); (try k_lift B'); (try k_fold))
  (replace F' : Fr g' L' h' (fun y => List.lookup y [(Str.ofString "self", Value.ref S)]) := F')
  k_steps
  · have e : Txt.join (Str.ofString ".") [baseOf ks, extOf ks] = textOf ks := by
      unfold textOf
      rw [if_pos (by unfold extOf; omega)]
    show Q (.str (Txt.join (Str.ofString ".") [baseOf ks, extOf ks]) _) _
    rw [e]
    refine' ret _ _ _ ?f (cb_drop ?cbN ?cbS)
    case f => k_asm
    case cbN => assumption
    case cbS => kcj_all
  · have e : Txt.join (Str.ofString "") [baseOf ks, extOf ks] = textOf ks := by
      unfold textOf
      rw [if_neg (by unfold extOf; omega)]
    show Q (.str (Txt.join (Str.ofString "") [baseOf ks, extOf ks]) _) _
    rw [e]
    refine' ret _ _ _ ?f (cb_drop ?cbN ?cbS)
    case f => k_asm
    case cbN => assumption
    case cbS => kcj_all
end

section
variable {w : World} {dp un : Nat} {gd : Option (List Code)} {cn : Str} {cs : Scope} {a : Addr} {ccd : Value} {cl : List (Str × Addr)} {outer : List Env} {A₀ : Around} {base h₀ : Heap} {L : Addr} {m : Str → Option Value} {news : List (Addr × Obj)} {s : Shared} {Q E : Value → Shared → Prop} {loose : List Str} {mean : ExcName → Option Value} {mg mb : Str → Option Value}
  (B : Below A₀ base outer h₀) (F : Fr h₀ L s.heap m) (X : (Mine.KF w.params).In h₀) (N : News h₀ L s.heap news) (T : Top topProg loose mean mg mb h₀) (hk : cs.kind = .function) (hd : dp + 4 ≤ 500) (hu : un + 80 ≤ 5000)
include B F X N T hk hd hu
theorem ct_low2 {v : Int} {tv tm : Tok}
    (ret : ∀ R vs c h' tk', Fr h₀ L h' m → News h₀ L h' ((R, listOf vs.toArray c) :: news) → (∀ p ∈ news, p.1 < R) → IntsAre vs [v.fmod 256, (v.fdiv 256).fmod 256] → Q (.ref R) { s with heap := h', toks := tk' }) :
    wpAny (model PySem.Challenge.rw_iw0015_02.row.prog w) (ktrTop dp un gd cn cs L a ccd cl outer) (call (.ref 703) [.int v tv, .int 2 tm]) Q E s := by
  k_with_none
  (k_with "ite" => (k_closed; first | refine ite_pos (by decide) ?_ | refine ite_neg (by decide) ?_))
  (k_with "execs nil" => (k_here; dsimp only))
  (k_with "execs cons" => (k_here; dsimp only))
  (k_with "UnrEnd" => ((rename Fr _ _ _ _ => F9); (rename News _ _ _ _ => N9); refine ⟨_, _, _, _, rfl, F9, N9, ?_, ?_⟩; (first | exact tbn_neAll (by assumption) | (rename _ ∧ AllLt _ _ => l9; exact tbn_neAll l9))))
  revert X; k_fill; intro X
  refine wpAny_call ?_
  k_dflt (refine' code_def ?k1 ?k2 ?k3 ?k4 ?k5 ?kA ?kF ?kK ?k6 ?k7 ?k8 ?k9 ?kB ?_ ?c2 ?c3 ?c4 ?c5; (case kA => exact rfl); (case kF => exact rfl); (case kK => first | exact rfl | assumption); (case k1 => k_asm); (case k2 => k_asm); (case k3 => k_asm); (case k4 => k_asm); (case k5 => k_asm); (case k6 => k_is); (case k7 => k_is); (case k8 => k_room); (case k9 => exact kp_binds (binds := [(Str.ofString "value", Value.int v tv), (Str.ofString "many", Value.int 2 tm)]) (by k_in) (fun S => by kernel_rfl)); (case c5 => decide); (case kB => exact locs rfl); (case c2 => exact rfl); (case c3 => exact rfl); (case c4 => exact rfl); k_whole; intro g' L' h' FG' F' N' B' X' T'; (try dsimp only); (try k_lift B'); (try k_fold))
  (replace F' : Fr g' L' h' (fun y => List.lookup y [(Str.ofString "many", Value.int 2 tm), (Str.ofString "value", Value.int v tv)]) := F')
  k_steps
  refine' ret _ [.int (v.fmod 256) _, .int ((v.fdiv 256).fmod 256) _] _ _ _ ?f ?n ?l ?i
  case f => k_asm
  case n => assumption
  case l => assumption
  case i => l_ints
theorem ct_low4 {v : Int} {tv tm : Tok}
    (ret : ∀ R vs c h' tk', Fr h₀ L h' m → News h₀ L h' ((R, listOf vs.toArray c) :: news) → (∀ p ∈ news, p.1 < R) → IntsAre vs [v.fmod 256, (v.fdiv 256).fmod 256, ((v.fdiv 256).fdiv 256).fmod 256, (((v.fdiv 256).fdiv 256).fdiv 256).fmod 256] → Q (.ref R) { s with heap := h', toks := tk' }) :
    wpAny (model PySem.Challenge.rw_iw0015_02.row.prog w) (ktrTop dp un gd cn cs L a ccd cl outer) (call (.ref 703) [.int v tv, .int 4 tm]) Q E s := by
  k_with_none
  (k_with "ite" => (k_closed; first | refine ite_pos (by decide) ?_ | refine ite_neg (by decide) ?_))
  (k_with "execs nil" => (k_here; dsimp only))
  (k_with "execs cons" => (k_here; dsimp only))
  (k_with "UnrEnd" => ((rename Fr _ _ _ _ => F9); (rename News _ _ _ _ => N9); refine ⟨_, _, _, _, rfl, F9, N9, ?_, ?_⟩; (first | exact tbn_neAll (by assumption) | (rename _ ∧ AllLt _ _ => l9; exact tbn_neAll l9))))
  revert X; k_fill; intro X
  refine wpAny_call ?_
  k_dflt (refine' code_def ?k1 ?k2 ?k3 ?k4 ?k5 ?kA ?kF ?kK ?k6 ?k7 ?k8 ?k9 ?kB ?_ ?c2 ?c3 ?c4 ?c5; (case kA => exact rfl); (case kF => exact rfl); (case kK => first | exact rfl | assumption); (case k1 => k_asm); (case k2 => k_asm); (case k3 => k_asm); (case k4 => k_asm); (case k5 => k_asm); (case k6 => k_is); (case k7 => k_is); (case k8 => k_room); (case k9 => exact kp_binds (binds := [(Str.ofString "value", Value.int v tv), (Str.ofString "many", Value.int 4 tm)]) (by k_in) (fun S => by kernel_rfl)); (case c5 => decide); (case kB => exact locs rfl); (case c2 => exact rfl); (case c3 => exact rfl); (case c4 => exact rfl); k_whole; intro g' L' h' FG' F' N' B' X' T'; (try dsimp only); (try k_lift B'); (try k_fold))
  (replace F' : Fr g' L' h' (fun y => List.lookup y [(Str.ofString "many", Value.int 4 tm), (Str.ofString "value", Value.int v tv)]) := F')
  k_steps
  refine' ret _ [.int (v.fmod 256) _, .int ((v.fdiv 256).fmod 256) _, .int (((v.fdiv 256).fdiv 256).fmod 256) _, .int ((((v.fdiv 256).fdiv 256).fdiv 256).fmod 256) _] _ _ _ ?f ?n ?l ?i
  case f => k_asm
  case n => assumption
  case l => assumption
  case i => l_ints
end

theorem ints10 {ws : List Value} {f0 f1 f2 f3 f4 f5 f6 f7 f8 f9 : Int} (h : IntsAre ws [f0, f1, f2, f3, f4, f5, f6, f7, f8, f9]) : ∃ u0 u1 u2 u3 u4 u5 u6 u7 u8 u9, ws = [.int f0 u0, .int f1 u1, .int f2 u2, .int f3 u3, .int f4 u4, .int f5 u5, .int f6 u6, .int f7 u7, .int f8 u8, .int f9 u9] := by
  obtain ⟨t0, ws0, e0, h⟩ := IntsAre.cons_inv h
  obtain ⟨t1, ws1, e1, h⟩ := IntsAre.cons_inv h
  obtain ⟨t2, ws2, e2, h⟩ := IntsAre.cons_inv h
  obtain ⟨t3, ws3, e3, h⟩ := IntsAre.cons_inv h
  obtain ⟨t4, ws4, e4, h⟩ := IntsAre.cons_inv h
  obtain ⟨t5, ws5, e5, h⟩ := IntsAre.cons_inv h
  obtain ⟨t6, ws6, e6, h⟩ := IntsAre.cons_inv h
  obtain ⟨t7, ws7, e7, h⟩ := IntsAre.cons_inv h
  obtain ⟨t8, ws8, e8, h⟩ := IntsAre.cons_inv h
  obtain ⟨t9, ws9, e9, h⟩ := IntsAre.cons_inv h
  rw [IntsAre.nil_inv h] at e9
  rw [e9] at e8
  rw [e8] at e7
  rw [e7] at e6
  rw [e6] at e5
  rw [e5] at e4
  rw [e4] at e3
  rw [e3] at e2
  rw [e2] at e1
  rw [e1] at e0
  exact ⟨_, _, _, _, _, _, _, _, _, _, e0⟩
def low2I (v : Int) : List Int := [v.fmod 256, (v.fdiv 256).fmod 256]
def low4I (v : Int) : List Int := [v.fmod 256, (v.fdiv 256).fmod 256, ((v.fdiv 256).fdiv 256).fmod 256, (((v.fdiv 256).fdiv 256).fdiv 256).fmod 256]
def laidI (ns : List Int) (f0 f1 f2 f3 f4 f5 f6 f7 f8 f9 z : Int) : List Int := (ns ++ [f0, f1, f2] ++ [f3, f4, f5, f6, f7, f8, f9].flatMap low2I) ++ low4I z
def bytesI (l : List Int) : Array UInt8 := (l.map fun n => n.toNat.toUInt8).toArray
def RowEnd (h₀ : Heap) (L I : Addr) (v y : Str) (m₀ : Str → Option Value) (need : List (Addr × Obj)) (tgt : List Int) (s : Shared) (f : Flow) (s₂ : Shared) : Prop :=
  f = .next ∧ ∃ h' tk' m' R' vs' c' news', s₂ = { s with heap := h', toks := tk' } ∧ Fr h₀ L h' m' ∧ News h₀ L h' news' ∧ (∀ p ∈ need, p ∈ news') ∧ (R', listOf vs'.toArray c') ∈ news' ∧ R' ≠ I ∧ m' y = some (.ref R') ∧ (∀ z, z ≠ v → z ≠ y → m' z = m₀ z) ∧ IntsAre vs' tgt
theorem RowEnd.intro {h₀ h' : Heap} {L I : Addr} {v y : Str} {m₀ m' : Str → Option Value} {need news' : List (Addr × Obj)} {tgt : List Int} {s : Shared} {tk' : Nat} {R' : Addr} {vs' : List Value} {c' : Nat}
    (F : Fr h₀ L h' m') (N : News h₀ L h' news') (hs : ∀ p ∈ need, p ∈ news') (hR : (R', listOf vs'.toArray c') ∈ news') (hne : R' ≠ I) (hy : m' y = some (.ref R')) (hm : ∀ z, z ≠ v → z ≠ y → m' z = m₀ z) (hi : IntsAre vs' tgt) :
    RowEnd h₀ L I v y m₀ need tgt s .next { s with heap := h', toks := tk' } := ⟨rfl, h', tk', m', R', vs', c', news', rfl, F, N, hs, hR, hne, hy, hm, hi⟩
section
variable {prog : Program} {w : World} {A : Around} {E : Value → Shared → Prop} {s : Shared} {env : Env} {h₀ : Heap} {v : Str} {body : List Stmt} {Q : Flow → Shared → Prop}
theorem iter_row {x : Addr} {o : Obj} {vs : List Value} {ks : List Int} {c : Nat} {m₀ : Str → Option Value} {news : List (Addr × Obj)} {y : Str} {R₀ : Addr} {vs₀ : List Value} {c₀ : Nat} {rs : List Int} (g : Int → List Int)
    (hh : A.handled = none) (F : Fr h₀ env.locals s.heap m₀) (N : News h₀ env.locals s.heap news) (hx : (x, o) ∈ news) (hoc : o.cls = .type "tuple") (hod : o.data = .seq vs.toArray c) (hi : IntsAre vs ks)
    (hy : m₀ y = some (.ref R₀)) (hR : (R₀, listOf vs₀.toArray c₀) ∈ news) (hr : IntsAre vs₀ rs)
    (turn : ∀ I i k t R vs c ws news₁ h tk own oI, i < ks.length → k ∈ ks → (I, oI) ∈ own → (∀ p ∈ news₁, p.1 ≠ I) → (∀ p ∈ news, p ∈ news₁) → (R, listOf vs.toArray c) ∈ news₁ → IntsAre vs ws → ws.length = rs.length + ((ks.take i).flatMap g).length →
      Fr h₀ env.locals h (fun z => if z = v then some (.int k t) else if z = y then some (.ref R) else m₀ z) → News h₀ env.locals h (own ++ news₁) →
      wpAny (model prog w) A (execs body env) (RowEnd h₀ env.locals I v y m₀ (own ++ news₁) (ws ++ g k) s) E { s with heap := h, toks := tk })
    (done : ∀ (u : Str → Option Value) R vs c news₁ h tk, (R, listOf vs.toArray c) ∈ news₁ → IntsAre vs (rs ++ ks.flatMap g) → (∀ p ∈ news, p ∈ news₁) →
      Fr h₀ env.locals h (fun z => if z = v then u z else if z = y then some (.ref R) else m₀ z) → News h₀ env.locals h news₁ → Q .next { s with heap := h, toks := tk }) :
    wpAny (model prog w) A (pyIter (.ref x)) (fun it s₂ => LoopAtV prog w A h₀ env v body Q E it s₂) E s := by
  refine iter_tuG (fun i m news₁ => (∀ p ∈ news, p ∈ news₁) ∧ (∀ z, z ≠ v → z ≠ y → m z = m₀ z) ∧ ∃ R vs c, m y = some (.ref R) ∧ (R, listOf vs.toArray c) ∈ news₁ ∧ IntsAre vs (rs ++ (ks.take i).flatMap g)) hh F N hx hoc hod hi ⟨fun _ h => h, fun _ _ _ => rfl, R₀, vs₀, c₀, hy, hR, by simpa using hr⟩ ?_ ?_
  · rintro I i t m₁ news₁ h tk own oI hlt hI hoff ⟨hsub, hm, R, vs', c', hmy, hRm, hiv⟩ F₁ N₁
    have hk : ks[i]? = some (ks.getD i 0) := by rw [List.getD_eq_getElem?_getD, List.getElem?_eq_getElem hlt]; rfl
    rw [map_one hmy hm] at F₁
    refine wpAny_mono (turn I i _ t R vs' c' _ news₁ h tk own oI hlt (List.mem_of_getElem? hk) hI hoff hsub hRm hiv (List.length_append ..) F₁ N₁) (fun f s₂ p => ?_) fun _ _ e => e
    obtain ⟨rfl, h', tk', m', R', vs'', c'', news', rfl, F', N', hn', hR', hne, hmy', hm', hiv'⟩ := p
    refine ⟨h', tk', m', (R', listOf vs''.toArray c'') :: news₁, news', rfl, F', N', fun p hp => hn' p (List.mem_append_left _ hp), fun p hp => ?_, fun p hp => ?_, fun p hp => .tail _ (hsub p hp), hm', R', vs'', c'', hmy', .head _, ?_⟩
    · rcases List.mem_cons.mp hp with rfl | hp
      · exact hR'
      · exact hn' p (List.mem_append_right _ hp)
    · rcases List.mem_cons.mp hp with rfl | hp
      · exact hne
      · exact hoff p hp
    · rw [List.take_add_one, hk]
      simpa using hiv'
  · rintro m₁ news₁ h tk ⟨hsub, hm, R, vs', c', hmy, hRm, hiv⟩ F₁ N₁
    rw [List.take_length] at hiv
    refine done m₁ R vs' c' news₁ h tk hRm hiv hsub ?_ N₁
    rw [done_one hmy hm]; exact F₁
end
theorem flat_len (l : List Int) : (l.flatMap low2I).length = 2 * l.length := by
  induction l with
  | nil => rfl
  | cons a l ih => rw [List.flatMap_cons, List.length_append, ih]; simp only [low2I, List.length_cons, List.length_nil]; omega
theorem low_range (v : Int) : ∀ n ∈ low2I v, 0 ≤ n ∧ n < 256 := by
  intro n hn
  simp only [low2I, List.mem_cons, List.not_mem_nil, or_false] at hn
  rcases hn with rfl | rfl <;> exact ⟨Int.fmod_nonneg_of_pos _ (by decide), Int.fmod_lt_of_pos _ (by decide)⟩
theorem low4_range (v : Int) : ∀ n ∈ low4I v, 0 ≤ n ∧ n < 256 := by
  intro n hn
  simp only [low4I, List.mem_cons, List.not_mem_nil, or_false] at hn
  rcases hn with rfl | rfl | rfl | rfl <;> exact ⟨Int.fmod_nonneg_of_pos _ (by decide), Int.fmod_lt_of_pos _ (by decide)⟩
theorem laid_range {ns : List Int} (hb : ∀ n ∈ ns, 0 ≤ n ∧ n < 256) {f0 f1 f2 : Int} (r0 : 0 ≤ f0 ∧ f0 < 256) (r1 : 0 ≤ f1 ∧ f1 < 256) (r2 : 0 ≤ f2 ∧ f2 < 256) (f3 f4 f5 f6 f7 f8 f9 z : Int) : ∀ n ∈ laidI ns f0 f1 f2 f3 f4 f5 f6 f7 f8 f9 z, 0 ≤ n ∧ n < 256 := by
  intro n hn
  unfold laidI at hn
  rcases List.mem_append.mp hn with hn | hn
  · rcases List.mem_append.mp hn with hn | hn
    · rcases List.mem_append.mp hn with hn | hn
      · exact hb n hn
      · simp only [List.mem_cons, List.not_mem_nil, or_false] at hn
        rcases hn with rfl | rfl | rfl
        · exact r0
        · exact r1
        · exact r2
    · obtain ⟨k, _, hk⟩ := List.mem_flatMap.mp hn
      exact low_range k n hk
  · exact low4_range z n hn
section
variable {w : World} {dp un : Nat} {gd : Option (List Code)} {cn : Str} {cs : Scope} {a : Addr} {ccd : Value} {cl : List (Str × Addr)} {outer : List Env} {A₀ : Around} {base h₀ : Heap} {L : Addr} {m : Str → Option Value} {news : List (Addr × Obj)} {s : Shared} {Q E : Value → Shared → Prop} {loose : List Str} {mean : ExcName → Option Value} {mg mb : Str → Option Value}
  (B : Below A₀ base outer h₀) (F : Fr h₀ L s.heap m) (X : (Mine.KF w.params).In h₀) (N : News h₀ L s.heap news) (T : Top topProg loose mean mg mb h₀) (hk : cs.kind = .function) (hd : dp + 8 ≤ 500) (hu : un + 160 ≤ 5000)
include B F X N T hk hd hu
theorem ct_laid {R W0 : Addr} {vs ws : List Value} {ns : List Int} {cR cW : Nat} {z : Int} {tz : Tok} {f0 f1 f2 f3 f4 f5 f6 f7 f8 f9 : Int} {bb : Bool} (hR : (R, listOf vs.toArray cR) ∈ news) (hi : IntsAre vs ns) (ok : NmOk ns bb) (hW : (W0, listOf ws.toArray cW) ∈ news) (hj : IntsAre ws [f0, f1, f2, f3, f4, f5, f6, f7, f8, f9]) (r0 : 0 ≤ f0 ∧ f0 < 256) (r1 : 0 ≤ f1 ∧ f1 < 256) (r2 : 0 ≤ f2 ∧ f2 < 256)
    (ret : ∀ t h' tk', Fr h₀ L h' m → News h₀ L h' news → Q (.bytes (bytesI (laidI ns f0 f1 f2 f3 f4 f5 f6 f7 f8 f9 z)) t) { s with heap := h', toks := tk' }) :
    wpAny (model PySem.Challenge.rw_iw0015_02.row.prog w) (ktrTop dp un gd cn cs L a ccd cl outer) (call (.ref 710) [.ref R, .ref W0, .int z tz]) Q E s := by
  obtain ⟨u0, u1, u2, u3, u4, u5, u6, u7, u8, u9, rfl⟩ := ints10 hj
  k_with_none
  (k_with "ite" => (k_closed; first | refine ite_pos (by decide) ?_ | refine ite_neg (by decide) ?_))
  (k_with "execs nil" => (k_here; dsimp only))
  (k_with "execs cons" => (k_here; dsimp only))
  (k_with "UnrEnd" => ((rename Fr _ _ _ _ => F9); (rename News _ _ _ _ => N9); refine ⟨_, _, _, _, rfl, F9, N9, ?_, ?_⟩; (first | exact tbn_neAll (by assumption) | (rename _ ∧ AllLt _ _ => l9; exact tbn_neAll l9))))
  (k_with "call ref" => (k_here; (with_reducible show wpAny _ _ (call (Value.ref (nat_lit 703)) _) _ _ _); k_dflt (refine' ct_low2 ?kB ?kF ?kX ?kN ?kT ?kk ?kd ?ku  ?_; (case kB => k_asm); (case kF => k_asm); (case kX => k_asm); (case kN => k_asm); (case kT => k_asm); (case kk => first | exact rfl | assumption); (case kd => k_room); (case ku => k_units); k_whole); intro R9 vs9 c9 h9 tk9 F9 N9 l9 hi9; (try dsimp only); (try k_fold)))
  (k_with "call ref" => (k_here; (with_reducible show wpAny _ _ (call (Value.ref (nat_lit 703)) _) _ _ _); k_dflt (refine' ct_low4 ?kB ?kF ?kX ?kN ?kT ?kk ?kd ?ku  ?_; (case kB => k_asm); (case kF => k_asm); (case kX => k_asm); (case kN => k_asm); (case kT => k_asm); (case kk => first | exact rfl | assumption); (case kd => k_room); (case ku => k_units); k_whole); intro R9 vs9 c9 h9 tk9 F9 N9 l9 hi9; (try dsimp only); (try k_fold)))
  (k_with "binaryOp Add ref ref" => (k_here; (with_reducible show wpAny _ _ (binaryOp _ (Value.ref _) (Value.ref _)) _ _ _); (with_reducible rename News _ _ _ _ => NN9); k_dflt (refine' kmk_add_ints ?F ?N ?a ?b ?i ?j ?_ ?z; (case F => k_asm); (case N => exact NN9); (case a => exact NN9.isList (by k_mem)); (case b => exact NN9.isList (by k_mem)); (case i => first | assumption | l_ints); (case j => first | assumption | l_ints); (case z => (simp only [List.length_cons, List.length_nil, List.length_append, ok.1, sizeLine_eq]; first | omega | (have := ok.1; omega)))); intro D9 ws9 h9 F9 N9 l9 hI9; (try k_lt l9)))
  (k_with "exec For Name Tuple cons nil" => (k_here; (with_reducible rename Fr _ _ _ _ => F9); k_dflt (with_unfolding_all refine' For_invVF F9 ?k1 ?k2 ?_; (case k1 => exact rfl); (case k2 => exact rfl); k_whole)))
  revert X; k_fill; intro X
  refine wpAny_call ?_
  k_dflt (refine' code_def ?k1 ?k2 ?k3 ?k4 ?k5 ?kA ?kF ?kK ?k6 ?k7 ?k8 ?k9 ?kB ?_ ?c2 ?c3 ?c4 ?c5; (case kA => exact rfl); (case kF => exact rfl); (case kK => first | exact rfl | assumption); (case k1 => k_asm); (case k2 => k_asm); (case k3 => k_asm); (case k4 => k_asm); (case k5 => k_asm); (case k6 => k_is); (case k7 => k_is); (case k8 => k_room); (case k9 => exact kp_binds (binds := [(Str.ofString "name", Value.ref R), (Str.ofString "fields", Value.ref W0), (Str.ofString "size", Value.int z tz)]) (by k_in) (fun S => by kernel_rfl)); (case c5 => decide); (case kB => exact locs rfl); (case c2 => exact rfl); (case c3 => exact rfl); (case c4 => exact rfl); k_whole; intro g' L' h' FG' F' N' B' X' T'; (try dsimp only); (try k_lift B'); (try k_fold))
  (replace F' : Fr g' L' h' (fun y => List.lookup y [(Str.ofString "size", Value.int z tz), (Str.ofString "fields", Value.ref W0), (Str.ofString "name", Value.ref R)]) := F')
  k_steps
  rename Fr g' L' _ _ => F9
  rename News g' L' _ _ => N9
  k_dflt (refine' iter_row (y := Str.ofString "row") (ks := [f3, f4, f5, f6, f7, f8, f9]) (rs := ns ++ [f0, f1, f2]) low2I ?a ?f ?n ?x ?oc ?od ?i ?y ?R ?r ?_ ?_; (case a => exact rfl); (case f => k_asm); (case n => k_asm); (case x => exact .head _); (case oc => exact rfl); (case od => exact rfl); (case i => l_ints); (case y => exact rfl); (case R => exact .tail _ (.head _)); (case r => assumption); k_whole)
  · intro I8 i8 k8 t8 R8 vs8 c8 ws8 news8 h8 tk8 own8 oI8 hlt8 hk8 hI8 hoff8 hsub8 hR8 hi8 hz8 F8 N8
    have hz8 : ws8.length ≤ 64 := by
      rw [hz8, flat_len, List.length_append, ok.1]
      have q : (List.take i8 [f3, f4, f5, f6, f7, f8, f9]).length ≤ 7 := List.length_take_le' ..
      have q2 : [f0, f1, f2].length = 3 := rfl
      omega
    have hR8 := List.mem_append_right own8 hR8
    have hI8 := List.mem_append_left news8 hI8
    clear N9 F9
    (try k_fold)
    k_steps
    rename Fr g' L' _ _ => F9
    rename News g' L' _ _ => N9
    rename _ ∧ AllLt _ (own8 ++ news8) => q9
    refine RowEnd.intro F9 N9 (fun p hp => .tail _ (.tail _ hp)) (.head _) (Nat.ne_of_gt (kst_ltOf q9.2 _ hI8)) rfl ?_ (by assumption)
    intro z h1 h2
    simp only [if_neg h1, if_neg h2]
  · intro u8 R8 vs8 c8 news8 h8 tk8 hR8 hi8 hsub8 F8 N8
    have hz8 : (ns ++ [f0, f1, f2] ++ [f3, f4, f5, f6, f7, f8, f9].flatMap low2I).length ≤ 64 := by
      rw [List.length_append, List.length_append, flat_len, ok.1]
      have q : [f3, f4, f5, f6, f7, f8, f9].length = 7 := rfl
      have q2 : [f0, f1, f2].length = 3 := rfl
      omega
    obtain ⟨ws8, e8⟩ : ∃ ws, ws = ns ++ [f0, f1, f2] ++ [f3, f4, f5, f6, f7, f8, f9].flatMap low2I := ⟨_, rfl⟩
    rw [← e8] at hi8 hz8
    dsimp only
    k_steps
    rename News g' L' _ _ => N9
    rename IntsAre _ (ws8 ++ _) => q9
    rw [e8] at q9
    have r9 := laid_range ok.bytes r0 r1 r2 f3 f4 f5 f6 f7 f8 f9 z
    k_dflt (refine' bytes_K ?F ?N ?l ?i ?r ?z ?h ?_; (case F => k_asm); (case N => exact N9); (case l => exact N9.isList (.head _)); (case i => exact q9); (case r => exact r9); (case z => rw [q9.length, List.length_append, ← e8, sizeLine_eq]; simp only [List.length_cons, List.length_nil]; omega); (case h => with_unfolding_all rfl))
    intro h9 t9 k9 F9 N9 _
    k_steps
    refine' ret _ _ _ ?f ?n
    case f => k_asm
    case n => (rename News h₀ L _ _ => N7; exact fun p hp => N7 p (.tail _ (.tail _ (hsub8 _ (.tail _ (.tail _ (.tail _ hp)))))))
end

namespace BA
open Builtin
theorem no_bytes : typeLookup (.type "bytearray") "__bytes__" = pure none := by rw [typeLookup_type, builtinLookup_eq_fast]; kernel_rfl
theorem index_not : typeLookup (.type "bytearray") "__index__" = pure none := by rw [typeLookup_type, builtinLookup_eq_fast]; kernel_rfl
theorem look_buffer : typeLookup (.type "bytearray") "__buffer__" = pure (some (.builtin "bytearray.__buffer__")) := by rw [typeLookup_type, builtinLookup_eq_fast]; kernel_rfl
end BA
section
open Builtin
variable {prog : Program} {w : World} {A : Around} {E : Value → Shared → Prop} {s : Shared}
theorem own_buffer {M : Model} {v : Value} {Q : Bool → Shared → Prop} (hT : s.TypeIs v "bytearray") (hQ : Q true s) : wpAny M A (Bytes.slotIsOwn v "__buffer__") Q E s := by
  have key : ∀ x : String, x = "bytearray" → wpAny M A (isInstance v (.type x)) (fun r s' => r = true ∧ s' = s) E s := fun x hx => by subst hx; exact wpAny_isInstance hT F.isi_self_bytearray ⟨rfl, rfl⟩
  unfold Bytes.slotIsOwn
  refine wpAny_bind (wpAny_specialOf hT BA.look_buffer ?_)
  (try dsimp only)
  refine bm_if_false (by decide +kernel) ?_
  refine wpAny_mono (key _ (by decide +kernel)) (fun r s' hr => ?_) fun _ _ x => x
  obtain ⟨rfl, rfl⟩ := hr
  exact hQ
theorem bab_new {x : Addr} {b : Array UInt8} {Q : Value → Shared → Prop} (hx : s.heap.get? x = some { cls := .type "bytearray", data := .bytearray b }) (hz : b.size ≤ sizeLine)
    (hQ : ∀ t k, Q (.bytes b t) { s with toks := k }) :
    codeAny (model prog w) A (.call (.builtin "bytes.__new__") ⟨[.type "bytes", .ref x], []⟩) (wants Q E) s := by
  refine codeAny_of_tree ?_
  show wpAny _ A.in1 (do checkBuiltinCall "bytes.__new__" ⟨[.type "bytes", .ref x], []⟩; again (.builtin "bytes.__new__" ⟨[.type "bytes", .ref x], []⟩)) _ _ s
  refine wpAny_bind (wpAny_of_eq (F.bm_newCall _) (wpAny_pure ⟨plainId_quiet F.bm_plain _, codeAny_builtin F.bm_entry ?_⟩))
  rw [Around.under_plainId F.bm_plain _]
  have hT : s.TypeIs (.ref x) "bytearray" := ⟨_, hx, rfl⟩
  unfold Builtin.«bytes.__new__»
  refine wpAny_bind (wpAny_of_eq (a := true) rfl ?_)
  refine bm_if_false rfl ?_
  refine wpAny_bind (wpAny_of_eq F.bm_sub ?_)
  refine bm_if_false rfl ?_
  refine wpAny_bind (wpAny_of_eq (F.bm_bind _) ?_)
  refine wpAny_bind (wpAny_of_eq (a := ()) rfl ?_)
  refine wpAny_bind (wpAny_of_eq (a := ()) rfl ?_)
  refine bm_if_false rfl ?_
  refine wpAny_bind (wpAny_specialOf hT BA.no_bytes ?_)
  refine wpAny_bind (wpAny_bind ?_)
  show wpAny _ _ (load x >>= _) _ _ _
  refine wpAny_bind (wpAny_load hx ?_)
  refine wpAny_pure (wpAny_pure ?_)
  refine bm_if_false rfl ?_
  refine wpAny_bind (wpAny_specialOf hT BA.index_not ?_)
  refine bm_if_true rfl ?_
  first
    | show wpAny _ _ (Builtin.Bytes.buffer? "bytes.__new__" (.ref x) true >>= _) _ _ _
    | (refine wpAny_bind ?_; show wpAny _ _ (Builtin.Bytes.buffer? "bytes.__new__" (.ref x) true >>= _) _ _ _)
  refine wpAny_bind ?_
  unfold Builtin.Bytes.buffer?
  refine wpAny_bind (wpAny_specialOf hT BA.look_buffer ?_)
  (try dsimp only)
  refine wpAny_bind (own_buffer hT ?_)
  refine bm_if_false rfl ?_
  refine wpAny_bind (wpAny_specialOf hT BA.look_buffer ?_)
  (try dsimp only)
  refine wpAny_bind (own_release hT ?_)
  refine bm_if_false rfl ?_
  unfold Bytes.payload Bytes.payload?
  refine wpAny_bind (wpAny_bind (wpAny_bind (wpAny_load hx ?_)))
  refine wpAny_pure ?_
  refine wpAny_pure (wpAny_pure ?_)
  refine wpAny_bind (wpAny_rule ?_)
  refine wpAny_bind (wpAny_mkBytes ?_ hz)
  show wpAny _ _ (if (Value.type "bytes" == Value.type "bytes") = true then _ else _) _ _ _
  refine bm_if_true (by decide) ?_
  first
    | exact wpAny_pure (hQ _ _)
    | exact wpAny_bind (wpAny_pure (wpAny_pure (hQ _ _)))
theorem bab_K {h₀ : Heap} {L : Addr} {news : List (Addr × Obj)} {x : Addr} {b : Array UInt8} {Q : Value → Shared → Prop} (N : News h₀ L s.heap news) (hx : (x, baOf b) ∈ news) (hz : b.size ≤ sizeLine)
    (h : ∀ t k, Q (.bytes b t) { s with toks := k }) : wpAny (model prog w) A (call (.type "bytes") [.ref x]) Q E s := by
  refine callType_codes (Q₁ := fun obj s₁ => s₁.TypeIs obj "bytes" ∧ Q obj s₁) F.bm_called (F.bm_typeCall _) F.entry_object_init
    (bab_new (N _ hx).1 hz fun t k => ⟨PySem.W.typeIs_bytes _ _ _, h t k⟩) fun obj s₁ h₁ => ?_
  exact ⟨h₁.1, F.args_object_init_2 obj _, object_init_meets F.bm_called.init.lookup F.bm_called.made (by decide) prog w A.in1 _ s₁ ⟨h₁.1, rfl, h₁.2⟩⟩
end
theorem noI_bytes_add : typeLookup (.type "bytes") (dunderI "add") = pure none := by rw [typeLookup_type, builtinLookup_eq_fast]; kernel_rfl
theorem ints_append (b c : Array UInt8) : KBw.bInts (b ++ c) = KBw.bInts b ++ KBw.bInts c := by
  unfold KBw.bInts
  rw [Array.toList_append, List.map_append]
section
variable {prog : Program} {w : World} {A : Around} {E : Value → Shared → Prop} {s : Shared} {b c : Array UInt8} {t u : Tok} {Q : Value → Shared → Prop}
theorem iaddB {l₁ l₂ : List Int} (eb : KBw.bInts b = l₁) (ec : KBw.bInts c = l₂) (hz : l₁.length + l₂.length ≤ 1000) (h : ∀ d t' k, KBw.bInts d = l₁ ++ l₂ → Q (.bytes d t') { s with toks := k }) : wpAny (model prog w) A (inplaceOp .Add (.bytes b t) (.bytes c u)) Q E s := by
  have zb : b.size = l₁.length := by rw [← eb, KBw.ints_length]
  have zc : c.size = l₂.length := by rw [← ec, KBw.ints_length]
  have hsz : b.size + c.size ≤ 16777216 := by omega
  refine iconcat_gives (typeIs_bytes s b t) (typeIs_bytes s c u) noI_bytes_add KBy.noFill_bytes_add KBy.seq_bytes_add FB.slot_bytes_add FB.entry_bytes_add (FB.args_bytes_add_2 _ _) (KBy.gives_bytes_add (KBy.tooLong_not hsz)) ?_
  by_cases hb : b.isEmpty = true
  · rw [if_pos hb]
    have e : b = #[] := Array.isEmpty_iff.1 hb
    refine h c u s.toks ?_
    rw [ec, ← eb, e]; rfl
  · rw [if_neg hb]
    by_cases hc : c.isEmpty = true
    · rw [if_pos hc]
      have e : c = #[] := Array.isEmpty_iff.1 hc
      refine h b t s.toks ?_
      rw [eb, ← ec, e]; exact (List.append_nil _).symm
    · rw [if_neg hc]
      exact ⟨by rw [Array.size_append, sizeLine_eq]; exact hsz, h _ s.toks (s.toks + 1) (by rw [ints_append, eb, ec])⟩
end
theorem bInts3 {a b c : Int} (ha : 0 ≤ a ∧ a < 256) (hb : 0 ≤ b ∧ b < 256) (hc : 0 ≤ c ∧ c < 256) : KBw.bInts #[a.toNat.toUInt8, b.toNat.toUInt8, c.toNat.toUInt8] = [a, b, c] := by
  show [((a.toNat.toUInt8.toNat : Nat) : Int), ((b.toNat.toUInt8.toNat : Nat) : Int), ((c.toNat.toUInt8.toNat : Nat) : Int)] = _
  rw [byte_back ha.1 ha.2, byte_back hb.1 hb.2, byte_back hc.1 hc.2]

def lit2 (x : Int) : List Int := [x % 256, x / 256 % 256]
section
variable {prog : Program} {w : World} {A : Around} {E : Value → Shared → Prop} {s : Shared} {env : Env} {h₀ : Heap} {v : Str} {body : List Stmt} {Q : Flow → Shared → Prop}
theorem iter_bytes {x : Addr} {vs : List Value} {ks : List Int} {c : Nat} {m₀ : Str → Option Value} {news : List (Addr × Obj)} {y : Str} {d₀ : Array UInt8} {t₀ : Tok} {l₀ : List Int} (g : Int → List Int)
    (hh : A.handled = none) (F : Fr h₀ env.locals s.heap m₀) (N : News h₀ env.locals s.heap news) (hx : (x, listOf vs.toArray c) ∈ news) (hi : IntsAre vs ks) (hy : m₀ y = some (.bytes d₀ t₀)) (h0 : KBw.bInts d₀ = l₀)
    (turn : ∀ i n t d td l h tk own, n ∈ ks → KBw.bInts d = l → l.length = l₀.length + ((ks.take i).flatMap g).length → Fr h₀ env.locals h (fun z => if z = v then some (.int n t) else if z = y then some (.bytes d td) else m₀ z) → News h₀ env.locals h (own ++ news) →
      wpAny (model prog w) A (execs body env) (InvPost h₀ env.locals (fun m' => (∃ d' t', m' y = some (.bytes d' t') ∧ KBw.bInts d' = l ++ g n) ∧ ∀ z, z ≠ v → z ≠ y → m' z = m₀ z) (own ++ news) { s with heap := h, toks := tk } Q) E { s with heap := h, toks := tk })
    (done : ∀ (u : Str → Option Value) d t h tk, KBw.bInts d = l₀ ++ ks.flatMap g → Fr h₀ env.locals h (fun z => if z = v then u z else if z = y then some (.bytes d t) else m₀ z) → News h₀ env.locals h news → Q .next { s with heap := h, toks := tk }) :
    wpAny (model prog w) A (pyIter (.ref x)) (fun it s₂ => LoopAtV prog w A h₀ env v body Q E it s₂) E s := by
  refine iter_ls (fun i m => (∃ d t, m y = some (.bytes d t) ∧ KBw.bInts d = l₀ ++ (ks.take i).flatMap g) ∧ ∀ z, z ≠ v → z ≠ y → m z = m₀ z) hh F N hx hi ⟨⟨d₀, t₀, hy, by simpa using h0⟩, fun _ _ _ => rfl⟩ ?_ ?_
  · rintro i n t m₁ h tk own hn ⟨⟨d, td, hd, hb⟩, hm⟩ F₁ N₁
    rw [map_one hd hm] at F₁
    have e : l₀ ++ (ks.take (i + 1)).flatMap g = (l₀ ++ (ks.take i).flatMap g) ++ g n := by
      rw [List.take_add_one, hn]; simp
    rw [e]
    exact turn i n t d td _ h tk own (List.mem_of_getElem? hn) hb (List.length_append ..) F₁ N₁
  · rintro m₁ h tk ⟨⟨d, td, hd, hb⟩, hm⟩ F₁ N₁
    rw [List.take_length] at hb
    refine done m₁ d td h tk hb ?_ N₁
    rw [done_one hd hm]; exact F₁
end
theorem flat2_len (l : List Int) : (l.flatMap lit2).length = 2 * l.length := by
  induction l with
  | nil => rfl
  | cons a l ih => rw [List.flatMap_cons, List.length_append, ih]; simp only [lit2, List.length_cons, List.length_nil]; omega
theorem bytes_of (b : Array UInt8) : bytesI (KBw.bInts b) = b := by
  unfold bytesI KBw.bInts
  rw [List.map_map]
  have e : (fun n : Int => n.toNat.toUInt8) ∘ (fun c : UInt8 => (c.toNat : Int)) = id := by
    funext c
    show (((c.toNat : Nat) : Int).toNat).toUInt8 = c
    rw [Int.toNat_natCast]
    simp
  rw [e, List.map_id]
theorem lit2_eq (x : Int) : lit2 x = low2I x := by
  unfold lit2 low2I
  rw [Int.fmod_eq_emod_of_nonneg _ (by decide), Int.fmod_eq_emod_of_nonneg _ (by decide), Int.fdiv_eq_ediv_of_nonneg _ (by decide)]
theorem lit4_eq (x : Int) : [x % 256, x / 256 % 256, x / 256 / 256 % 256, x / 256 / 256 / 256 % 256] = low4I x := by
  unfold low4I
  rw [Int.fmod_eq_emod_of_nonneg _ (by decide), Int.fmod_eq_emod_of_nonneg _ (by decide), Int.fmod_eq_emod_of_nonneg _ (by decide), Int.fmod_eq_emod_of_nonneg _ (by decide), Int.fdiv_eq_ediv_of_nonneg _ (by decide), Int.fdiv_eq_ediv_of_nonneg _ (by decide), Int.fdiv_eq_ediv_of_nonneg _ (by decide)]
section
variable {w : World} {dp un : Nat} {gd : Option (List Code)} {cn : Str} {cs : Scope} {a : Addr} {ccd : Value} {cl : List (Str × Addr)} {outer : List Env} {A₀ : Around} {base h₀ : Heap} {L : Addr} {m : Str → Option Value} {news : List (Addr × Obj)} {s : Shared} {Q E : Value → Shared → Prop} {loose : List Str} {mean : ExcName → Option Value} {mg mb : Str → Option Value}
  (B : Below A₀ base outer h₀) (F : Fr h₀ L s.heap m) (X : (Mine.KF w.params).In h₀) (N : News h₀ L s.heap news) (T : Top topProg loose mean mg mb h₀) (hk : cs.kind = .function) (hd : dp + 8 ≤ 500) (hu : un + 160 ≤ 5000)
include B F X N T hk hd hu
theorem ct_asb {O D S R D2 x : Addr} {b : Array UInt8} {ks : List Int} {bb : Bool} {a0 a1 a2 a3 a4 a5 a6 a7 a8 a9 az : Int} {u0 u1 u2 u3 u4 u5 u6 u7 u8 u9 uz G0 G1 G2 G3 G4 G5 G6 G7 G8 G9 G10 G11 G12 G13 G14 G15 G16 G17 ue t1 t2 t3 : Tok} (hO : (O, instObj 482 D) ∈ news) (hD : (D, dictOf [{ hash := PyData.keyHash w.params (Str.ofString "name"), key := Value.str (Str.ofString "name") G0, val := Value.ref S }, { hash := PyData.keyHash w.params (Str.ofString "attr"), key := Value.str (Str.ofString "attr") G1, val := Value.int a0 u0 }, { hash := PyData.keyHash w.params (Str.ofString "ntres"), key := Value.str (Str.ofString "ntres") G2, val := Value.int a1 u1 }, { hash := PyData.keyHash w.params (Str.ofString "crttimetenth"), key := Value.str (Str.ofString "crttimetenth") G3, val := Value.int a2 u2 }, { hash := PyData.keyHash w.params (Str.ofString "crttime"), key := Value.str (Str.ofString "crttime") G4, val := Value.int a3 u3 }, { hash := PyData.keyHash w.params (Str.ofString "crtdate"), key := Value.str (Str.ofString "crtdate") G5, val := Value.int a4 u4 }, { hash := PyData.keyHash w.params (Str.ofString "lstaccessdate"), key := Value.str (Str.ofString "lstaccessdate") G6, val := Value.int a5 u5 }, { hash := PyData.keyHash w.params (Str.ofString "fstclushi"), key := Value.str (Str.ofString "fstclushi") G7, val := Value.int a6 u6 }, { hash := PyData.keyHash w.params (Str.ofString "wrttime"), key := Value.str (Str.ofString "wrttime") G8, val := Value.int a7 u7 }, { hash := PyData.keyHash w.params (Str.ofString "wrtdate"), key := Value.str (Str.ofString "wrtdate") G9, val := Value.int a8 u8 }, { hash := PyData.keyHash w.params (Str.ofString "fstcluslo"), key := Value.str (Str.ofString "fstcluslo") G10, val := Value.int a9 u9 }, { hash := PyData.keyHash w.params (Str.ofString "filesize"), key := Value.str (Str.ofString "filesize") G11, val := Value.int az uz }, { hash := PyData.keyHash w.params (Str.ofString "_lazy_load"), key := Value.str (Str.ofString "_lazy_load") G12, val := Value.bool false }, { hash := PyData.keyHash w.params (Str.ofString "_fs"), key := Value.str (Str.ofString "_fs") G13, val := Value.none }, { hash := PyData.keyHash w.params (Str.ofString "_parent"), key := Value.str (Str.ofString "_parent") G14, val := Value.none }, { hash := PyData.keyHash w.params (Str.ofString "lfn_entry"), key := Value.str (Str.ofString "lfn_entry") G15, val := Value.none }, { hash := PyData.keyHash w.params (Str.ofString "_dirs"), key := Value.str (Str.ofString "_dirs") G16, val := Value.ref R }, { hash := PyData.keyHash w.params (Str.ofString "_encoding"), key := Value.str (Str.ofString "_encoding") G17, val := Value.str (Str.ofString "latin-1") ue }] 18) ∈ news) (hS : (S, instObj 680 D2) ∈ news) (hD2 : (D2, dictOf [{ hash := PyData.keyHash w.params (Str.ofString "name"), key := Value.str (Str.ofString "name") t1, val := Value.ref x }, { hash := PyData.keyHash w.params (Str.ofString "encoding"), key := Value.str (Str.ofString "encoding") t2, val := Value.str (Str.ofString "latin-1") 479 }, { hash := PyData.keyHash w.params (Str.ofString "initialized"), key := Value.str (Str.ofString "initialized") t3, val := Value.bool true }] 3) ∈ news) (hx : (x, baOf b) ∈ news) (hb : KBw.bInts b = ks) (ok : NmOk ks bb)
    (r0 : 0 ≤ a0 ∧ a0 < 256) (r1 : 0 ≤ a1 ∧ a1 < 256) (r2 : 0 ≤ a2 ∧ a2 < 256) (r3 : 0 ≤ a3 ∧ a3 < 65536) (r4 : 0 ≤ a4 ∧ a4 < 65536) (r5 : 0 ≤ a5 ∧ a5 < 65536) (r6 : 0 ≤ a6 ∧ a6 < 65536) (r7 : 0 ≤ a7 ∧ a7 < 65536) (r8 : 0 ≤ a8 ∧ a8 < 65536) (r9 : 0 ≤ a9 ∧ a9 < 65536) (rz : 0 ≤ az ∧ az < 4294967296)
    (ret : ∀ t h' tk', Fr h₀ L h' m → News h₀ L h' news → Q (.bytes (bytesI (laidI ks a0 a1 a2 a3 a4 a5 a6 a7 a8 a9 az)) t) { s with heap := h', toks := tk' }) :
    wpAny (model PySem.Challenge.rw_iw0015_02.row.prog w) (ktrTop dp un gd cn cs L a ccd cl outer) (call (.ref 303) [.ref O]) Q E s := by
  have hl11 : ks.length = 11 := ok.1
  have hzb : b.size ≤ sizeLine := by rw [← KBw.ints_length, hb, ok.1, sizeLine_eq]; decide
  k_with_none
  (k_with "ite" => (k_closed; first | refine ite_pos (by decide) ?_ | refine ite_neg (by decide) ?_))
  (k_with "execs nil" => (k_here; dsimp only))
  (k_with "execs cons" => (k_here; dsimp only))
  (k_with "call type:bytes" => (k_here; (with_reducible show wpAny _ _ (call (Value.type "bytes") [Value.ref _]) _ _ _); (with_reducible rename News _ _ _ _ => NN9); k_dflt (refine' bab_K NN9 ?x ?z ?_; (case x => k_mem); (case z => first | assumption | (rw [sizeLine_eq]; omega)); k_whole); intro _ _))
  (k_with "inplaceOp Add bytes bytes" => (k_here; (with_reducible show wpAny _ _ (inplaceOp Operator.Add (Value.bytes _ _) (Value.bytes _ _)) _ _ _); k_dflt (refine' iaddB ?b ?c ?z ?_; (case b => first | assumption | exact (rfl : KBw.bInts #[] = [])); (case c => first | assumption | exact (rfl : KBw.bInts #[] = []) | exact bInts3 (by omega) (by omega) (by omega)); (case z => (try simp only [show KBw.bInts #[] = [] from rfl]); (try simp only [List.length_cons, List.length_nil, List.length_append]); omega); k_whole); intro d9 t9 k9 hd9; (try simp only [show KBw.bInts #[] = [] from rfl, List.nil_append] at hd9); (try dsimp only)))
  (k_with "exec For Name List cons nil" => (k_here; (with_reducible rename Fr _ _ _ _ => F9); k_dflt (with_unfolding_all refine' For_invVF F9 ?k1 ?k2 ?_; (case k1 => exact rfl); (case k2 => exact rfl); k_whole)))
  revert X; k_fill; intro X
  refine wpAny_call ?_
  k_dflt (refine' code_def ?k1 ?k2 ?k3 ?k4 ?k5 ?kA ?kF ?kK ?k6 ?k7 ?k8 ?k9 ?kB ?_ ?c2 ?c3 ?c4 ?c5; (case kA => exact rfl); (case kF => exact rfl); (case kK => first | exact rfl | assumption); (case k1 => k_asm); (case k2 => k_asm); (case k3 => k_asm); (case k4 => k_asm); (case k5 => k_asm); (case k6 => k_is); (case k7 => k_is); (case k8 => k_room); (case k9 => exact kp_binds (binds := [(Str.ofString "self", Value.ref O)]) (by k_in) (fun S => by kernel_rfl)); (case c5 => decide); (case kB => exact locs rfl); (case c2 => exact rfl); (case c3 => exact rfl); (case c4 => exact rfl); k_whole; intro g' L' h' FG' F' N' B' X' T'; (try dsimp only); (try k_lift B'); (try k_fold))
  (replace F' : Fr g' L' h' (fun y => List.lookup y [(Str.ofString "self", Value.ref O)]) := F')
  k_steps
  rename Fr g' L' _ _ => F9
  rename News g' L' _ _ => N9
  rename KBw.bInts _ = ks ++ [a0, a1, a2] => hd9
  k_dflt (refine' iter_bytes (y := Str.ofString "entry") (ks := [a3, a4, a5, a6, a7, a8, a9]) lit2 ?a ?f ?n ?x ?i ?y ?r ?_ ?_; (case a => exact rfl); (case f => k_asm); (case n => k_asm); (case x => exact .head _); (case i => l_ints); (case y => exact rfl); (case r => exact hd9); k_whole)
  · intro i8 n8 t8 d8 td8 l8 h8 tk8 own8 hn8 hd8 hz8 F8 N8
    have hz8 : l8.length ≤ 64 := by
      rw [hz8, flat2_len, List.length_append, hl11]
      have q : (List.take i8 [a3, a4, a5, a6, a7, a8, a9]).length ≤ 7 := List.length_take_le' ..
      have q2 : [a0, a1, a2].length = 3 := rfl
      omega
    have r8 : 0 ≤ n8 ∧ n8 < 65536 := by
      simp only [List.mem_cons, List.not_mem_nil, or_false] at hn8
      rcases hn8 with rfl | rfl | rfl | rfl | rfl | rfl | rfl <;> assumption
    clear N9 F9
    (try k_fold)
    k_steps
    rename Fr g' L' _ _ => F9
    rename News g' L' _ _ => N9
    rename KBw.bInts _ = l8 ++ _ => q9
    refine InvEnd.intro F9 N9 (fun p hp => hp) ⟨⟨_, _, rfl, q9⟩, ?_⟩
    intro z h1 h2
    simp only [if_neg h1, if_neg h2]
  · intro u8 d8 t8 h8 tk8 hd8 F8 N8
    have hz8 : (ks ++ [a0, a1, a2] ++ [a3, a4, a5, a6, a7, a8, a9].flatMap lit2).length ≤ 64 := by
      rw [List.length_append, List.length_append, flat2_len, hl11]
      have q : [a3, a4, a5, a6, a7, a8, a9].length = 7 := rfl
      have q2 : [a0, a1, a2].length = 3 := rfl
      omega
    obtain ⟨l8, e8⟩ : ∃ l, l = ks ++ [a0, a1, a2] ++ [a3, a4, a5, a6, a7, a8, a9].flatMap lit2 := ⟨_, rfl⟩
    rw [← e8] at hd8 hz8
    dsimp only
    k_steps
    rename KBw.bInts _ = l8 ++ _ => q9
    rw [e8, show (lit2 : Int → List Int) = low2I from funext lit2_eq, lit4_eq] at q9
    rename Array UInt8 => d9
    have e9 : d9 = bytesI (laidI ks a0 a1 a2 a3 a4 a5 a6 a7 a8 a9 az) := by rw [← bytes_of d9, q9]; rfl
    rw [e9]
    refine' ret _ _ _ ?f ?n
    case f => k_asm
    case n => (rename News h₀ L _ _ => N7; exact fun p hp => N7 p (.tail _ (.tail _ hp)))
end

section
variable {w : World} {h₀ h : Heap} {L : Addr}
theorem seq_cell {a : Array Value} {n : Nat} {o : Obj} {v : Option Value} (e : listOf a n = o) (ho : o.data = .cell v) : False := by
  subst e
  cases ho
theorem law_tidy {P : Prop} {O D S R D2 x Rf Rn cl : Addr} {oc : Obj} {e1 e2 e3 : Addr × Obj} {c8 cn' cc : Nat} {ws nv : List Value} {b : Array UInt8} {ks : List Int} {bb : Bool} {cv : Option Value} {a0 a1 a2 a3 a4 a5 a6 a7 a8 a9 az : Int} {u0 u1 u2 u3 u4 u5 u6 u7 u8 u9 uz G0 G1 G2 G3 G4 G5 G6 G7 G8 G9 G10 G11 G12 G13 G14 G15 G16 G17 t1 t2 t3 : Tok}
    (N : News h₀ L h [(O, instObj 482 D), (D, dictOf [{ hash := PyData.keyHash w.params (Str.ofString "name"), key := Value.str (Str.ofString "name") G0, val := Value.ref S }, { hash := PyData.keyHash w.params (Str.ofString "attr"), key := Value.str (Str.ofString "attr") G1, val := Value.int a0 u0 }, { hash := PyData.keyHash w.params (Str.ofString "ntres"), key := Value.str (Str.ofString "ntres") G2, val := Value.int a1 u1 }, { hash := PyData.keyHash w.params (Str.ofString "crttimetenth"), key := Value.str (Str.ofString "crttimetenth") G3, val := Value.int a2 u2 }, { hash := PyData.keyHash w.params (Str.ofString "crttime"), key := Value.str (Str.ofString "crttime") G4, val := Value.int a3 u3 }, { hash := PyData.keyHash w.params (Str.ofString "crtdate"), key := Value.str (Str.ofString "crtdate") G5, val := Value.int a4 u4 }, { hash := PyData.keyHash w.params (Str.ofString "lstaccessdate"), key := Value.str (Str.ofString "lstaccessdate") G6, val := Value.int a5 u5 }, { hash := PyData.keyHash w.params (Str.ofString "fstclushi"), key := Value.str (Str.ofString "fstclushi") G7, val := Value.int a6 u6 }, { hash := PyData.keyHash w.params (Str.ofString "wrttime"), key := Value.str (Str.ofString "wrttime") G8, val := Value.int a7 u7 }, { hash := PyData.keyHash w.params (Str.ofString "wrtdate"), key := Value.str (Str.ofString "wrtdate") G9, val := Value.int a8 u8 }, { hash := PyData.keyHash w.params (Str.ofString "fstcluslo"), key := Value.str (Str.ofString "fstcluslo") G10, val := Value.int a9 u9 }, { hash := PyData.keyHash w.params (Str.ofString "filesize"), key := Value.str (Str.ofString "filesize") G11, val := Value.int az uz }, { hash := PyData.keyHash w.params (Str.ofString "_lazy_load"), key := Value.str (Str.ofString "_lazy_load") G12, val := Value.bool false }, { hash := PyData.keyHash w.params (Str.ofString "_fs"), key := Value.str (Str.ofString "_fs") G13, val := Value.none }, { hash := PyData.keyHash w.params (Str.ofString "_parent"), key := Value.str (Str.ofString "_parent") G14, val := Value.none }, { hash := PyData.keyHash w.params (Str.ofString "lfn_entry"), key := Value.str (Str.ofString "lfn_entry") G15, val := Value.none }, { hash := PyData.keyHash w.params (Str.ofString "_dirs"), key := Value.str (Str.ofString "_dirs") G16, val := Value.ref R }, { hash := PyData.keyHash w.params (Str.ofString "_encoding"), key := Value.str (Str.ofString "_encoding") G17, val := Value.str (Str.ofString "latin-1") 479 }] 18), (R, listOf #[] c8), (x, baOf b), (S, instObj 680 D2), (D2, dictOf [{ hash := PyData.keyHash w.params (Str.ofString "name"), key := Value.str (Str.ofString "name") t1, val := Value.ref x }, { hash := PyData.keyHash w.params (Str.ofString "encoding"), key := Value.str (Str.ofString "encoding") t2, val := Value.str (Str.ofString "latin-1") 479 }, { hash := PyData.keyHash w.params (Str.ofString "initialized"), key := Value.str (Str.ofString "initialized") t3, val := Value.bool true }] 3), (Rf, listOf ws.toArray cc), e1, e2, e3, (Rn, listOf nv.toArray cn'), (cl, oc)])
    (hw : IntsAre ws [a0, a1, a2, a3, a4, a5, a6, a7, a8, a9]) (hni : IntsAre nv ks) (ok : NmOk ks bb) (ho : oc.data = .cell cv)
    (l7 : ∀ p ∈ [(Rf, listOf ws.toArray cc), e1, e2, e3, (Rn, listOf nv.toArray cn'), (cl, oc)], p.1 < D2) (o1 : D2 < S) (o2 : S < x) (o3 : x < D) (o4 : D < O) (o5 : O < R)
    (k : ∀ w0 w1 w2 w3 w4 w5 w6 w7 w8 w9, News h₀ L h [(O, instObj 482 D), (D, dictOf [{ hash := PyData.keyHash w.params (Str.ofString "name"), key := Value.str (Str.ofString "name") G0, val := Value.ref S }, { hash := PyData.keyHash w.params (Str.ofString "attr"), key := Value.str (Str.ofString "attr") G1, val := Value.int a0 u0 }, { hash := PyData.keyHash w.params (Str.ofString "ntres"), key := Value.str (Str.ofString "ntres") G2, val := Value.int a1 u1 }, { hash := PyData.keyHash w.params (Str.ofString "crttimetenth"), key := Value.str (Str.ofString "crttimetenth") G3, val := Value.int a2 u2 }, { hash := PyData.keyHash w.params (Str.ofString "crttime"), key := Value.str (Str.ofString "crttime") G4, val := Value.int a3 u3 }, { hash := PyData.keyHash w.params (Str.ofString "crtdate"), key := Value.str (Str.ofString "crtdate") G5, val := Value.int a4 u4 }, { hash := PyData.keyHash w.params (Str.ofString "lstaccessdate"), key := Value.str (Str.ofString "lstaccessdate") G6, val := Value.int a5 u5 }, { hash := PyData.keyHash w.params (Str.ofString "fstclushi"), key := Value.str (Str.ofString "fstclushi") G7, val := Value.int a6 u6 }, { hash := PyData.keyHash w.params (Str.ofString "wrttime"), key := Value.str (Str.ofString "wrttime") G8, val := Value.int a7 u7 }, { hash := PyData.keyHash w.params (Str.ofString "wrtdate"), key := Value.str (Str.ofString "wrtdate") G9, val := Value.int a8 u8 }, { hash := PyData.keyHash w.params (Str.ofString "fstcluslo"), key := Value.str (Str.ofString "fstcluslo") G10, val := Value.int a9 u9 }, { hash := PyData.keyHash w.params (Str.ofString "filesize"), key := Value.str (Str.ofString "filesize") G11, val := Value.int az uz }, { hash := PyData.keyHash w.params (Str.ofString "_lazy_load"), key := Value.str (Str.ofString "_lazy_load") G12, val := Value.bool false }, { hash := PyData.keyHash w.params (Str.ofString "_fs"), key := Value.str (Str.ofString "_fs") G13, val := Value.none }, { hash := PyData.keyHash w.params (Str.ofString "_parent"), key := Value.str (Str.ofString "_parent") G14, val := Value.none }, { hash := PyData.keyHash w.params (Str.ofString "lfn_entry"), key := Value.str (Str.ofString "lfn_entry") G15, val := Value.none }, { hash := PyData.keyHash w.params (Str.ofString "_dirs"), key := Value.str (Str.ofString "_dirs") G16, val := Value.ref R }, { hash := PyData.keyHash w.params (Str.ofString "_encoding"), key := Value.str (Str.ofString "_encoding") G17, val := Value.str (Str.ofString "latin-1") 479 }] 18), (Rf, listOf #[.int a0 w0, .int a1 w1, .int a2 w2, .int a3 w3, .int a4 w4, .int a5 w5, .int a6 w6, .int a7 w7, .int a8 w8, .int a9 w9] cc), (R, listOf #[] c8), (x, baOf b), (S, instObj 680 D2), (D2, dictOf [{ hash := PyData.keyHash w.params (Str.ofString "name"), key := Value.str (Str.ofString "name") t1, val := Value.ref x }, { hash := PyData.keyHash w.params (Str.ofString "encoding"), key := Value.str (Str.ofString "encoding") t2, val := Value.str (Str.ofString "latin-1") 479 }, { hash := PyData.keyHash w.params (Str.ofString "initialized"), key := Value.str (Str.ofString "initialized") t3, val := Value.bool true }] 3), (Rn, listOf nv.toArray cn'), (cl, oc)] →
      (∀ p ∈ [(R, listOf #[] c8), (x, baOf b), (S, instObj 680 D2), (D2, dictOf [{ hash := PyData.keyHash w.params (Str.ofString "name"), key := Value.str (Str.ofString "name") t1, val := Value.ref x }, { hash := PyData.keyHash w.params (Str.ofString "encoding"), key := Value.str (Str.ofString "encoding") t2, val := Value.str (Str.ofString "latin-1") 479 }, { hash := PyData.keyHash w.params (Str.ofString "initialized"), key := Value.str (Str.ofString "initialized") t3, val := Value.bool true }] 3), (Rn, listOf nv.toArray cn'), (cl, oc)], p.1 ≠ D) →
      (∀ p ∈ [(R, listOf #[] c8), (x, baOf b), (S, instObj 680 D2), (D2, dictOf [{ hash := PyData.keyHash w.params (Str.ofString "name"), key := Value.str (Str.ofString "name") t1, val := Value.ref x }, { hash := PyData.keyHash w.params (Str.ofString "encoding"), key := Value.str (Str.ofString "encoding") t2, val := Value.str (Str.ofString "latin-1") 479 }, { hash := PyData.keyHash w.params (Str.ofString "initialized"), key := Value.str (Str.ofString "initialized") t3, val := Value.bool true }] 3), (Rn, listOf nv.toArray cn'), (cl, oc)], p.1 ≠ Rf) → O ≠ Rf → D ≠ Rf → P) : P := by
  obtain ⟨w0, w1, w2, w3, w4, w5, w6, w7, w8, w9, rfl⟩ := ints10 hw
  have q1 : Rf < D2 := l7 (Rf, _) (.head _)
  have q2 : Rn < D2 := l7 (Rn, _) (.tail _ (.tail _ (.tail _ (.tail _ (.head _)))))
  have q3 : cl < D2 := l7 (cl, _) (.tail _ (.tail _ (.tail _ (.tail _ (.tail _ (.head _))))))
  have hRf := (N (Rf, _) (.tail _ (.tail _ (.tail _ (.tail _ (.tail _ (.tail _ (.head _)))))))).1
  have hRn := (N (Rn, _) (.tail _ (.tail _ (.tail _ (.tail _ (.tail _ (.tail _ (.tail _ (.tail _ (.tail _ (.tail _ (.head _)))))))))))).1
  have hcl := (N (cl, _) (.tail _ (.tail _ (.tail _ (.tail _ (.tail _ (.tail _ (.tail _ (.tail _ (.tail _ (.tail _ (.tail _ (.head _))))))))))))).1
  have n1 : Rn ≠ Rf := fun e => by
    rw [e, hRf] at hRn
    have z := list_size (Option.some.inj hRn)
    have q : nv.toArray.size = ks.length := by simp [hni.length]
    rw [q, ok.1] at z
    exact absurd (show (10 : Nat) = 11 from z) (by decide)
  have n2 : cl ≠ Rf := fun e => by
    rw [e, hRf] at hcl
    exact seq_cell (Option.some.inj hcl) ho
  refine k w0 w1 w2 w3 w4 w5 w6 w7 w8 w9 (fun p hp => N p ?_) (fun p hp => ?_) (fun p hp => ?_) (Nat.ne_of_gt (Nat.lt_trans q1 (Nat.lt_trans o1 (Nat.lt_trans o2 (Nat.lt_trans o3 o4))))) (Nat.ne_of_gt (Nat.lt_trans q1 (Nat.lt_trans o1 (Nat.lt_trans o2 o3))))
  · simp only [List.mem_cons, List.not_mem_nil, or_false] at hp ⊢
    rcases hp with h | h | h | h | h | h | h | h | h
    · exact .inl h
    · exact .inr (.inl h)
    · exact .inr (.inr (.inr (.inr (.inr (.inr (.inl h))))))
    · exact .inr (.inr (.inl h))
    · exact .inr (.inr (.inr (.inl h)))
    · exact .inr (.inr (.inr (.inr (.inl h))))
    · exact .inr (.inr (.inr (.inr (.inr (.inl h)))))
    · exact .inr (.inr (.inr (.inr (.inr (.inr (.inr (.inr (.inr (.inr (.inl h))))))))))
    · exact .inr (.inr (.inr (.inr (.inr (.inr (.inr (.inr (.inr (.inr (.inr h))))))))))
  · simp only [List.mem_cons, List.not_mem_nil, or_false] at hp
    rcases hp with rfl | rfl | rfl | rfl | rfl | rfl
    · exact Nat.ne_of_gt (Nat.lt_trans o4 o5)
    · exact Nat.ne_of_lt o3
    · exact Nat.ne_of_lt (Nat.lt_trans o2 o3)
    · exact Nat.ne_of_lt (Nat.lt_trans o1 (Nat.lt_trans o2 o3))
    · exact Nat.ne_of_lt (Nat.lt_trans q2 (Nat.lt_trans o1 (Nat.lt_trans o2 o3)))
    · exact Nat.ne_of_lt (Nat.lt_trans q3 (Nat.lt_trans o1 (Nat.lt_trans o2 o3)))
  · have q4 := Nat.lt_trans q1 o1
    have q5 := Nat.lt_trans q4 o2
    have q6 := Nat.lt_trans q5 o3
    simp only [List.mem_cons, List.not_mem_nil, or_false] at hp
    rcases hp with rfl | rfl | rfl | rfl | rfl | rfl
    · exact Nat.ne_of_gt (Nat.lt_trans q6 (Nat.lt_trans o4 o5))
    · exact Nat.ne_of_gt q5
    · exact Nat.ne_of_gt q4
    · exact Nat.ne_of_gt q1
    · exact n1
    · exact n2
end

theorem bt_cast {K : Frag} {f : Addr} {s' : Shared} {fd fd' : FuncData} {oc oc' : Value} {od od' : Option Addr} {osl osl' : Array (Option Value)} {args : Args} {binds : List (Str × Value)} (h : K.lookup f = some ⟨oc, od, .func fd, osl⟩) (h2 : K.lookup f = some ⟨oc', od', .func fd', osl'⟩) (b : BindsTo s' fd' args binds) : BindsTo s' fd args binds := by
  rw [h] at h2
  cases h2
  exact b
section
variable {w : World} {dp un : Nat} {gd : Option (List Code)} {cn : Str} {cs : Scope} {a : Addr} {ccd : Value} {cl : List (Str × Addr)} {outer : List Env} {A₀ : Around} {base h₀ : Heap} {L : Addr} {m : Str → Option Value} {news : List (Addr × Obj)} {s : Shared} {Q E : Value → Shared → Prop} {loose : List Str} {mean : ExcName → Option Value} {mg mb : Str → Option Value}
  (B : Below A₀ base outer h₀) (F : Fr h₀ L s.heap m) (X : (Mine.KF w.params).In h₀) (N : News h₀ L s.heap news) (T : Top topProg loose mean mg mb h₀) (hk : cs.kind = .function) (hd : dp + 12 ≤ 500) (hu : un + 240 ≤ 5000)
include B F X N T hk hd hu
/-- the entry's making, whatever the way in which its arguments are told -/
theorem ct_entg {pos : List Value} {kw : List (Str × Value)} {S : Addr} {a0 a1 a2 a3 a4 a5 a6 a7 a8 a9 az : Int} {u0 u1 u2 u3 u4 u5 u6 u7 u8 u9 uz ue : Tok} (hz0 : 0 ≤ az) (hz : az ≤ 4294967295)
    (hb : ∀ (s' : Shared) (x' : Addr) (fd : FuncData) (oc : Value) (od : Option Addr) (osl : Array (Option Value)), (Mine.KF w.params).In s'.heap → (Mine.KF w.params).lookup (nat_lit 212) = some ⟨oc, od, .func fd, osl⟩ → BindsTo s' fd ⟨.ref x' :: pos, kw⟩ [(Str.ofString "self", Value.ref x'), (Str.ofString "DIR_Name", Value.ref S), (Str.ofString "DIR_Attr", Value.int a0 u0), (Str.ofString "DIR_NTRes", Value.int a1 u1), (Str.ofString "DIR_CrtTimeTenth", Value.int a2 u2), (Str.ofString "DIR_CrtTime", Value.int a3 u3), (Str.ofString "DIR_CrtDate", Value.int a4 u4), (Str.ofString "DIR_LstAccessDate", Value.int a5 u5), (Str.ofString "DIR_FstClusHI", Value.int a6 u6), (Str.ofString "DIR_WrtTime", Value.int a7 u7), (Str.ofString "DIR_WrtDate", Value.int a8 u8), (Str.ofString "DIR_FstClusLO", Value.int a9 u9), (Str.ofString "DIR_FileSize", Value.int az uz), (Str.ofString "encoding", Value.str (Str.ofString "latin-1") ue), (Str.ofString "fs", Value.none), (Str.ofString "lazy_load", Value.bool false), (Str.ofString "lfn_entry", Value.none)])
    (ret : ∀ O D R t0 t1 t2 t3 t4 t5 t6 t7 t8 t9 tz G0 G1 G2 G3 G4 G5 G6 G7 G8 G9 G10 G11 G12 G13 G14 G15 G16 G17 c h' tk', Fr h₀ L h' m → News h₀ L h' ((O, instObj 482 D) :: (D, dictOf [{ hash := PyData.keyHash w.params (Str.ofString "name"), key := Value.str (Str.ofString "name") G0, val := Value.ref S }, { hash := PyData.keyHash w.params (Str.ofString "attr"), key := Value.str (Str.ofString "attr") G1, val := Value.int a0 t0 }, { hash := PyData.keyHash w.params (Str.ofString "ntres"), key := Value.str (Str.ofString "ntres") G2, val := Value.int a1 t1 }, { hash := PyData.keyHash w.params (Str.ofString "crttimetenth"), key := Value.str (Str.ofString "crttimetenth") G3, val := Value.int a2 t2 }, { hash := PyData.keyHash w.params (Str.ofString "crttime"), key := Value.str (Str.ofString "crttime") G4, val := Value.int a3 t3 }, { hash := PyData.keyHash w.params (Str.ofString "crtdate"), key := Value.str (Str.ofString "crtdate") G5, val := Value.int a4 t4 }, { hash := PyData.keyHash w.params (Str.ofString "lstaccessdate"), key := Value.str (Str.ofString "lstaccessdate") G6, val := Value.int a5 t5 }, { hash := PyData.keyHash w.params (Str.ofString "fstclushi"), key := Value.str (Str.ofString "fstclushi") G7, val := Value.int a6 t6 }, { hash := PyData.keyHash w.params (Str.ofString "wrttime"), key := Value.str (Str.ofString "wrttime") G8, val := Value.int a7 t7 }, { hash := PyData.keyHash w.params (Str.ofString "wrtdate"), key := Value.str (Str.ofString "wrtdate") G9, val := Value.int a8 t8 }, { hash := PyData.keyHash w.params (Str.ofString "fstcluslo"), key := Value.str (Str.ofString "fstcluslo") G10, val := Value.int a9 t9 }, { hash := PyData.keyHash w.params (Str.ofString "filesize"), key := Value.str (Str.ofString "filesize") G11, val := Value.int az tz }, { hash := PyData.keyHash w.params (Str.ofString "_lazy_load"), key := Value.str (Str.ofString "_lazy_load") G12, val := Value.bool false }, { hash := PyData.keyHash w.params (Str.ofString "_fs"), key := Value.str (Str.ofString "_fs") G13, val := Value.none }, { hash := PyData.keyHash w.params (Str.ofString "_parent"), key := Value.str (Str.ofString "_parent") G14, val := Value.none }, { hash := PyData.keyHash w.params (Str.ofString "lfn_entry"), key := Value.str (Str.ofString "lfn_entry") G15, val := Value.none }, { hash := PyData.keyHash w.params (Str.ofString "_dirs"), key := Value.str (Str.ofString "_dirs") G16, val := Value.ref R }, { hash := PyData.keyHash w.params (Str.ofString "_encoding"), key := Value.str (Str.ofString "_encoding") G17, val := Value.str (Str.ofString "latin-1") ue }] 18) :: (R, listOf #[] c) :: news) → (∀ p ∈ news, p.1 < D) → D < O → O < R → Q (.ref O) { s with heap := h', toks := tk' }) :
    wpAny (model PySem.Challenge.rw_iw0015_02.row.prog w) (ktrTop dp un gd cn cs L a ccd cl outer) (call (.ref 482) pos kw) Q E s := by
  k_with_none
  (k_with "ite" => (k_closed; first | refine ite_pos (by decide) ?_ | refine ite_neg (by decide) ?_))
  (k_with "execs nil" => (k_here; dsimp only))
  (k_with "execs cons" => (k_here; dsimp only))
  revert X; k_fill; intro X
  k_dflt (refine' call_cls ?k1 ?k2 ?k3 ?k4 ?k5 ?k6 ?_; (case k1 => k_asm); (case k2 => k_asm); (case k3 => k_asm); (case k4 => k_is); (case k5 => k_is); (case k6 => k_is); k_whole; intro x' d' h' F' N' l1 l2; (try k_lt l1); (try k_lt2 l2); (try k_sweep); (refine' code_def ?k1 ?k2 ?k3 ?k4 ?k5 ?kA ?kF ?kK ?k6 ?k7 ?k8 ?k9 ?kB ?_ ?c2 ?c3 ?c4 ?c5; (case kA => exact rfl); (case kF => exact rfl); (case kK => first | exact rfl | assumption); (case k1 => k_asm); (case k2 => k_asm); (case k3 => k_asm); (case k4 => k_asm); (case k5 => k_asm); (case k6 => k_is); (case k7 => k_is); (case k8 => k_room); (case k9 => exact hb _ _ _ _ _ _ (by k_in) (by k_is)); (case c5 => decide); (case kB => exact locs rfl); (case c2 => exact rfl); (case c3 => exact rfl); (case c4 => exact rfl); k_whole; intro g' L' h' FG' F' N' B' X' T'; (try dsimp only); (try k_lift B'); (try k_fold)))
  (replace F' : Fr g' L' h' (fun y => List.lookup y [(Str.ofString "lfn_entry", Value.none), (Str.ofString "lazy_load", Value.bool false), (Str.ofString "fs", Value.none), (Str.ofString "encoding", Value.str (Str.ofString "latin-1") ue), (Str.ofString "DIR_FileSize", Value.int az uz), (Str.ofString "DIR_FstClusLO", Value.int a9 u9), (Str.ofString "DIR_WrtDate", Value.int a8 u8), (Str.ofString "DIR_WrtTime", Value.int a7 u7), (Str.ofString "DIR_FstClusHI", Value.int a6 u6), (Str.ofString "DIR_LstAccessDate", Value.int a5 u5), (Str.ofString "DIR_CrtDate", Value.int a4 u4), (Str.ofString "DIR_CrtTime", Value.int a3 u3), (Str.ofString "DIR_CrtTimeTenth", Value.int a2 u2), (Str.ofString "DIR_NTRes", Value.int a1 u1), (Str.ofString "DIR_Attr", Value.int a0 u0), (Str.ofString "DIR_Name", Value.ref S), (Str.ofString "self", Value.ref x')]) := F')
  k_steps
  rename News h₀ L _ _ => N9
  have N8 := perm3 N9
  refine' ret _ _ _ _ _ _ _ _ _ _ _ _ _ _ _ _ _ _ _ _ _ _ _ _ _ _ _ _ _ _ _ _ _ _ _ ?f ?n ?l ?d ?x
  case f => k_asm
  case n => exact N8
  case l => assumption
  case d => assumption
  case x => (rename _ ∧ _ ∧ AllLt _ _ => l9; exact l9.1)
theorem ct_entry {S : Addr} {a0 a1 a2 a3 a4 a5 a6 a7 a8 a9 az : Int} {u0 u1 u2 u3 u4 u5 u6 u7 u8 u9 uz : Tok} (hz0 : 0 ≤ az) (hz : az ≤ 4294967295)
    (ret : ∀ O D R t0 t1 t2 t3 t4 t5 t6 t7 t8 t9 tz G0 G1 G2 G3 G4 G5 G6 G7 G8 G9 G10 G11 G12 G13 G14 G15 G16 G17 c h' tk', Fr h₀ L h' m → News h₀ L h' ((O, instObj 482 D) :: (D, dictOf [{ hash := PyData.keyHash w.params (Str.ofString "name"), key := Value.str (Str.ofString "name") G0, val := Value.ref S }, { hash := PyData.keyHash w.params (Str.ofString "attr"), key := Value.str (Str.ofString "attr") G1, val := Value.int a0 t0 }, { hash := PyData.keyHash w.params (Str.ofString "ntres"), key := Value.str (Str.ofString "ntres") G2, val := Value.int a1 t1 }, { hash := PyData.keyHash w.params (Str.ofString "crttimetenth"), key := Value.str (Str.ofString "crttimetenth") G3, val := Value.int a2 t2 }, { hash := PyData.keyHash w.params (Str.ofString "crttime"), key := Value.str (Str.ofString "crttime") G4, val := Value.int a3 t3 }, { hash := PyData.keyHash w.params (Str.ofString "crtdate"), key := Value.str (Str.ofString "crtdate") G5, val := Value.int a4 t4 }, { hash := PyData.keyHash w.params (Str.ofString "lstaccessdate"), key := Value.str (Str.ofString "lstaccessdate") G6, val := Value.int a5 t5 }, { hash := PyData.keyHash w.params (Str.ofString "fstclushi"), key := Value.str (Str.ofString "fstclushi") G7, val := Value.int a6 t6 }, { hash := PyData.keyHash w.params (Str.ofString "wrttime"), key := Value.str (Str.ofString "wrttime") G8, val := Value.int a7 t7 }, { hash := PyData.keyHash w.params (Str.ofString "wrtdate"), key := Value.str (Str.ofString "wrtdate") G9, val := Value.int a8 t8 }, { hash := PyData.keyHash w.params (Str.ofString "fstcluslo"), key := Value.str (Str.ofString "fstcluslo") G10, val := Value.int a9 t9 }, { hash := PyData.keyHash w.params (Str.ofString "filesize"), key := Value.str (Str.ofString "filesize") G11, val := Value.int az tz }, { hash := PyData.keyHash w.params (Str.ofString "_lazy_load"), key := Value.str (Str.ofString "_lazy_load") G12, val := Value.bool false }, { hash := PyData.keyHash w.params (Str.ofString "_fs"), key := Value.str (Str.ofString "_fs") G13, val := Value.none }, { hash := PyData.keyHash w.params (Str.ofString "_parent"), key := Value.str (Str.ofString "_parent") G14, val := Value.none }, { hash := PyData.keyHash w.params (Str.ofString "lfn_entry"), key := Value.str (Str.ofString "lfn_entry") G15, val := Value.none }, { hash := PyData.keyHash w.params (Str.ofString "_dirs"), key := Value.str (Str.ofString "_dirs") G16, val := Value.ref R }, { hash := PyData.keyHash w.params (Str.ofString "_encoding"), key := Value.str (Str.ofString "_encoding") G17, val := Value.str (Str.ofString "latin-1") 479 }] 18) :: (R, listOf #[] c) :: news) → (∀ p ∈ news, p.1 < D) → D < O → O < R → Q (.ref O) { s with heap := h', toks := tk' }) :
    wpAny (model PySem.Challenge.rw_iw0015_02.row.prog w) (ktrTop dp un gd cn cs L a ccd cl outer) (call (.ref 482) [.ref S, .int a0 u0, .int a1 u1, .int a2 u2, .int a3 u3, .int a4 u4, .int a5 u5, .int a6 u6, .int a7 u7, .int a8 u8, .int a9 u9, .int az uz]) Q E s :=
  ct_entg (S := S) (u0 := u0) (u1 := u1) (u2 := u2) (u3 := u3) (u4 := u4) (u5 := u5) (u6 := u6) (u7 := u7) (u8 := u8) (u9 := u9) (uz := uz) (ue := 479) B F X N T hk hd hu hz0 hz (fun s' x' fd oc od osl X h => bt_cast (fd' := fnOf (Str.ofString "__init__") (Str.ofString "FATDirectoryEntry.__init__") (fA (at2 14 13)) (fB (at2 14 13)) (fS (at2 14 13)) (Value.ref 205) Value.none Value.none (Value.str (Str.ofString "pyfatfs.FATDirectoryEntry") 500) none (Value.ref 211) Value.none) (oc' := .type "function") (od' := none) (osl' := #[]) h (by kernel_rfl) (@kp_binds (Mine.KF w.params) s' _ _ _ X (fun S => by kernel_rfl))) ret
theorem ct_entkw {kw : List (Str × Value)} {S : Addr} {a0 a1 a2 a3 a4 a5 a6 a7 a8 a9 az : Int} {u0 u1 u2 u3 u4 u5 u6 u7 u8 u9 uz ue : Tok} (hz0 : 0 ≤ az) (hz : az ≤ 4294967295) (hkw : kw = [(Str.ofString "DIR_Name", Value.ref S), (Str.ofString "DIR_Attr", Value.int a0 u0), (Str.ofString "DIR_NTRes", Value.int a1 u1), (Str.ofString "DIR_CrtTimeTenth", Value.int a2 u2), (Str.ofString "DIR_CrtTime", Value.int a3 u3), (Str.ofString "DIR_CrtDate", Value.int a4 u4), (Str.ofString "DIR_LstAccessDate", Value.int a5 u5), (Str.ofString "DIR_FstClusHI", Value.int a6 u6), (Str.ofString "DIR_WrtTime", Value.int a7 u7), (Str.ofString "DIR_WrtDate", Value.int a8 u8), (Str.ofString "DIR_FstClusLO", Value.int a9 u9), (Str.ofString "DIR_FileSize", Value.int az uz), (Str.ofString "encoding", Value.str (Str.ofString "latin-1") ue)])
    (ret : ∀ O D R t0 t1 t2 t3 t4 t5 t6 t7 t8 t9 tz G0 G1 G2 G3 G4 G5 G6 G7 G8 G9 G10 G11 G12 G13 G14 G15 G16 G17 c h' tk', Fr h₀ L h' m → News h₀ L h' ((O, instObj 482 D) :: (D, dictOf [{ hash := PyData.keyHash w.params (Str.ofString "name"), key := Value.str (Str.ofString "name") G0, val := Value.ref S }, { hash := PyData.keyHash w.params (Str.ofString "attr"), key := Value.str (Str.ofString "attr") G1, val := Value.int a0 t0 }, { hash := PyData.keyHash w.params (Str.ofString "ntres"), key := Value.str (Str.ofString "ntres") G2, val := Value.int a1 t1 }, { hash := PyData.keyHash w.params (Str.ofString "crttimetenth"), key := Value.str (Str.ofString "crttimetenth") G3, val := Value.int a2 t2 }, { hash := PyData.keyHash w.params (Str.ofString "crttime"), key := Value.str (Str.ofString "crttime") G4, val := Value.int a3 t3 }, { hash := PyData.keyHash w.params (Str.ofString "crtdate"), key := Value.str (Str.ofString "crtdate") G5, val := Value.int a4 t4 }, { hash := PyData.keyHash w.params (Str.ofString "lstaccessdate"), key := Value.str (Str.ofString "lstaccessdate") G6, val := Value.int a5 t5 }, { hash := PyData.keyHash w.params (Str.ofString "fstclushi"), key := Value.str (Str.ofString "fstclushi") G7, val := Value.int a6 t6 }, { hash := PyData.keyHash w.params (Str.ofString "wrttime"), key := Value.str (Str.ofString "wrttime") G8, val := Value.int a7 t7 }, { hash := PyData.keyHash w.params (Str.ofString "wrtdate"), key := Value.str (Str.ofString "wrtdate") G9, val := Value.int a8 t8 }, { hash := PyData.keyHash w.params (Str.ofString "fstcluslo"), key := Value.str (Str.ofString "fstcluslo") G10, val := Value.int a9 t9 }, { hash := PyData.keyHash w.params (Str.ofString "filesize"), key := Value.str (Str.ofString "filesize") G11, val := Value.int az tz }, { hash := PyData.keyHash w.params (Str.ofString "_lazy_load"), key := Value.str (Str.ofString "_lazy_load") G12, val := Value.bool false }, { hash := PyData.keyHash w.params (Str.ofString "_fs"), key := Value.str (Str.ofString "_fs") G13, val := Value.none }, { hash := PyData.keyHash w.params (Str.ofString "_parent"), key := Value.str (Str.ofString "_parent") G14, val := Value.none }, { hash := PyData.keyHash w.params (Str.ofString "lfn_entry"), key := Value.str (Str.ofString "lfn_entry") G15, val := Value.none }, { hash := PyData.keyHash w.params (Str.ofString "_dirs"), key := Value.str (Str.ofString "_dirs") G16, val := Value.ref R }, { hash := PyData.keyHash w.params (Str.ofString "_encoding"), key := Value.str (Str.ofString "_encoding") G17, val := Value.str (Str.ofString "latin-1") ue }] 18) :: (R, listOf #[] c) :: news) → (∀ p ∈ news, p.1 < D) → D < O → O < R → Q (.ref O) { s with heap := h', toks := tk' }) :
    wpAny (model PySem.Challenge.rw_iw0015_02.row.prog w) (ktrTop dp un gd cn cs L a ccd cl outer) (call (.ref 482) [] kw) Q E s := by
  subst hkw
  exact ct_entg (S := S) (u0 := u0) (u1 := u1) (u2 := u2) (u3 := u3) (u4 := u4) (u5 := u5) (u6 := u6) (u7 := u7) (u8 := u8) (u9 := u9) (uz := uz) (ue := ue) B F X N T hk hd hu hz0 hz (fun s' x' fd oc od osl X h => bt_cast (fd' := fnOf (Str.ofString "__init__") (Str.ofString "FATDirectoryEntry.__init__") (fA (at2 14 13)) (fB (at2 14 13)) (fS (at2 14 13)) (Value.ref 205) Value.none Value.none (Value.str (Str.ofString "pyfatfs.FATDirectoryEntry") 500) none (Value.ref 211) Value.none) (oc' := .type "function") (od' := none) (osl' := #[]) h (by kernel_rfl) (@kp_binds (Mine.KF w.params) s' _ _ _ X (fun S => by kernel_rfl))) ret
end

section
variable {w : World} {dp un : Nat} {gd : Option (List Code)} {cn : Str} {cs : Scope} {a : Addr} {ccd : Value} {cl : List (Str × Addr)} {outer : List Env} {A₀ : Around} {base h₀ : Heap} {L : Addr} {m : Str → Option Value} {news : List (Addr × Obj)} {s : Shared} {Q E : Value → Shared → Prop} {loose : List Str} {mean : ExcName → Option Value} {mg mb : Str → Option Value}
  (B : Below A₀ base outer h₀) (F : Fr h₀ L s.heap m) (X : (Mine.KF w.params).In h₀) (N : News h₀ L s.heap news) (T : Top topProg loose mean mg mb h₀) (hk : cs.kind = .function) (hd : dp + 12 ≤ 500) (hu : un + 240 ≤ 5000)
include B F X N T hk hd hu
theorem ct_short {R : Addr} {vs : List Value} {ns : List Int} {c : Nat} {b : Bool} (hR : (R, listOf vs.toArray c) ∈ news) (hi : IntsAre vs ns) (ok : NmOk ns b)
    (ret : ∀ S D x b t1 t2 t3 h' tk', Fr h₀ L h' m → News h₀ L h' ((x, baOf b) :: (S, instObj 680 D) :: (D, dictOf [{ hash := PyData.keyHash w.params (Str.ofString "name"), key := Value.str (Str.ofString "name") t1, val := Value.ref x }, { hash := PyData.keyHash w.params (Str.ofString "encoding"), key := Value.str (Str.ofString "encoding") t2, val := Value.str (Str.ofString "latin-1") 479 }, { hash := PyData.keyHash w.params (Str.ofString "initialized"), key := Value.str (Str.ofString "initialized") t3, val := Value.bool true }] 3) :: news) → KBw.bInts b = ns → (∀ p ∈ news, p.1 < D) → D < S → S < x → Q (.ref S) { s with heap := h', toks := tk' }) :
    wpC (model PySem.Challenge.rw_iw0015_02.row.prog w) (ktrTop dp un (some []) cn cs L a ccd cl outer) (call (.ref 724) [.ref R]) Q E s := by
  k_with_none
  (k_with "ite" => (k_closed; first | refine ite_pos (by decide) ?_ | refine ite_neg (by decide) ?_))
  (k_with "execs nil" => (k_here; dsimp only))
  (k_with "execs cons" => (k_here; dsimp only))
  (k_with "call builtin:len" => (k_here; (with_reducible show wpAny _ _ (call (Value.builtin "len") [Value.ref _]) _ _ _); k_dflt (refine' ba_len11 ?N ?x ?k ?o ?_; (case N => k_asm); (case x => k_mem); (case k => k_asm); (case o => k_asm); k_whole); intro _ _))
  (k_with "subscriptTail" => (k_here; (with_reducible show wpAny _ _ (subscriptTail _ _ (Value.ref _) (Value.int _ _)) _ _ _); k_dflt (refine' ba_item0 ?N ?x ?k ?o ?_ ?s ?t; (case N => k_asm); (case x => k_mem); (case k => k_asm); (case o => k_asm); (case s => with_unfolding_all rfl); (case t => intro _; with_unfolding_all rfl); k_whole); intro _ _ _ lo9 hi9))
  revert X; k_fill; intro X
  refine wpC_call ?_
  k_dflt (refine' codeC_def ?k1 ?k2 ?k3 ?k4 ?k5 ?kA ?kF ?kK ?k6 ?k7 ?k8 ?k9 ?kB ?_ ?c2 ?c3 ?c4 ?c5; (case kA => exact rfl); (case kF => exact rfl); (case kK => first | exact rfl | assumption); (case k1 => k_asm); (case k2 => k_asm); (case k3 => k_asm); (case k4 => k_asm); (case k5 => k_asm); (case k6 => k_is); (case k7 => k_is); (case k8 => k_room); (case k9 => first | exact BindsTo.of_eq rfl | exact binds_K (by k_in) rfl (by k_is) rfl rfl rfl); (case c5 => decide); (case kB => exact locs rfl); (case c2 => exact rfl); (case c3 => exact rfl); (case c4 => exact rfl); k_whole; intro g' L' h' FG' F' N' B' X' T'; (try dsimp only); (try k_lift B'))
  refine execsC_any ?_
  k_fold
  k_steps
  refine execsC_cons (execC_Expr (evalC_MethodCall ?_))
  k_steps
  dsimp only
  k_dflt (refine' callWithC_K (K := KF w.params) ?k1 ?_ ?he ?hp; (case he => rfl); (case hp => rfl); (case k1 => k_is))
  refine wpC_of ?_
  k_steps
  rename News _ _ _ _ => N9
  k_dflt (refine' bytes_K ?F ?N ?l ?i ?r ?z ?h ?_; (case F => k_asm); (case N => k_asm); (case l => exact N9.isList (.tail _ (.tail _ hR))); (case i => exact hi); (case r => exact ok.bytes); (case z => rw [hi.length, ok.1, sizeLine_eq]; decide); (case h => with_unfolding_all rfl))
  intro h9 t9 k9 F9 N9 _
  k_steps
  (try dsimp only [List.cons_append, List.nil_append])
  refine wpC_call ?_
  k_dflt (refine' codeC_def ?k1 ?k2 ?k3 ?k4 ?k5 ?kA ?kF ?kK ?k6 ?k7 ?k8 ?k9 ?kB ?_ ?c2 ?c3 ?c4 ?c5; (case kA => exact rfl); (case kF => exact rfl); (case kK => first | exact rfl | assumption); (case k1 => k_asm); (case k2 => k_asm); (case k3 => k_asm); (case k4 => k_asm); (case k5 => k_asm); (case k6 => k_is); (case k7 => k_is); (case k8 => k_room); (case k9 => first | exact BindsTo.of_eq rfl | exact binds_K (by k_in) rfl (by k_is) rfl rfl rfl); (case c5 => decide); (case kB => exact locs rfl); (case c2 => exact rfl); (case c3 => exact rfl); (case c4 => exact rfl); k_whole; intro g' L' h' FG' F' N' B' X' T'; (try dsimp only); (try k_lift B'))
  refine execsC_any ?_
  k_fold
  k_steps
  refine execsC_cons (execC_Assign_Name (evalC_Call ?_))
  k_steps
  k_dflt (refine' callWithC_T ?k1 ?_ ?he ?hp; (case he => rfl); (case hp => rfl); (case k1 => rfl))
  refine wpC_of ?_
  k_steps
  rename News _ _ _ _ => N8
  k_dflt (refine' ba_K ?F ?N ?g ?z ?_; (case F => k_asm); (case N => k_asm); (case g => rfl); (case z => rw [List.size_toArray, List.length_map, ok.1]; decide))
  intro x9 h8 F8 N8 l8
  k_lt l8
  have hb9 := bInts_of ok.bytes
  generalize (List.map (fun n => n.toNat.toUInt8) ns).toArray = b9 at N8 hb9
  k_steps
  all_goals (first | refine wpC_of ?_ | skip)
  k_steps
  · exfalso; omega
  · exfalso; omega
  k_steps
  refine wpC_of ?_
  k_steps
  refine' ret _ _ _ _ _ _ _ _ _ ?f ?n ?b ?l ?d ?x
  case f => k_asm
  case n => k_asm
  case b => assumption
  case l => assumption
  case d => assumption
  case x => exact l8.1
end

section
variable {prog : Program} {w : World} {A : Around} {E : Value → Shared → Prop} {R : Result → Shared → Prop} {h : Heap} {g : Array GenState} {d : Drawn} {t : Nat} {os : OsState}
variable {nm q : Str} {C N : Addr} {bs bm : List Value} {hdct : Bool} {sn : List Str} {sub : List Value} {ab : Bool} {col : Option Bool} {dd : Option Addr} {k0 k1 k2 k3 k5 : Option Value} {B newId initId : String} {kw : List (Str × Value)} {rest : List Value}
/-- the making of an own exception whose class has its own __init__, with keywords -/
theorem xkw_check (F : ExcBaseFacts B newId initId bm) {M : Model} {Q : Unit → Shared → Prop} (hC : h.get? C = some (excClassObj nm q C N bs bm hdct sn sub ab col dd k0 k1 k2 k3 k5 newId))
    (hq : Q () ⟨h, g, d, t, os⟩) : wpAny M A (checkBuiltinCall newId ⟨.ref C :: rest, kw⟩) Q E ⟨h, g, d, t, os⟩ := by
  have hcont : (Value.ref C :: bm).contains (.type B) = true := by rw [List.contains_cons, F.hasB, Bool.or_true]
  have hstar := F.noStar
  simp only [checkBuiltinCall, F.newKind, F.newSplit, F.newRow]
  repeat (first | refine wpAny_loadPart_at hC ?_ | (refine wpAny_isSubtype_exc hC ?_; rw [hcont]) | refine wpAny_staticBase_exc hC ?_ | refine wpAny_madeBy_exc hC ?_ | simp only [bne_self_eq_false, Bool.false_eq_true, if_false] | wp_step)
  exact hq
theorem xkw_new (F : ExcBaseFacts B newId initId bm) (hC : h.get? C = some (excClassObj nm q C N bs bm hdct sn sub ab col dd k0 k1 k2 k3 k5 newId))
    (hq : R (.ok (.ret (.ref (h.objs.size + 1)))) ⟨(h.push { cls := .type "tuple", data := .seq rest.toArray }).push
      { cls := .ref C, data := .fields #[.ref h.objs.size, .none, .none, .none, .bool false, .none] }, g, d, t, os⟩) (hrest : rest.length ≤ sizeLine) :
    codeAny (model prog w) A (.builtin newId ⟨.ref C :: rest, kw⟩) R ⟨h, g, d, t, os⟩ := by
  have hends := F.ends
  have hcB : (Value.ref C :: bm).contains (.type B) = true := by rw [List.contains_cons, F.hasB, Bool.or_true]
  have hcA : (Value.ref C :: bm).contains (.type "AttributeError") = false := by rw [List.contains_cons, F.noAttr]; rfl
  have hcN : (Value.ref C :: bm).contains (.type "NameError") = false := by rw [List.contains_cons, F.noName]; rfl
  refine codeAny_builtinAt F.entry ?_
  unfold Builtin.«BaseException.__new__»
  refine PySem.wpAt_bind ?_
  show PySem.wpAt _ _ _ (stack >>= _) _ _ _
  refine PySem.wpAt_bind (PySem.wpAt_stack fun p below => PySem.wpAt_of_wpAny ?_)
  wp_walk
  refine PySem.wpAt_of_wpAny ?_
  rw [F.owner]
  repeat (first | with_reducible refine wpAny_madeHere_exc F.canon hC ?_ | with_reducible refine wpAny_loadPart_at hC ?_ | (with_reducible refine wpAny_isSubtype_exc hC ?_; first | rw [hcB] | rw [hcA] | rw [hcN]) | wp_step)
  show R _ _
  rw [Heap.size_push]
  exact hq
theorem xkw_checkT {M : Model} {Q : Unit → Shared → Prop} (hC : h.get? C = some (excClassObj nm q C N bs bm hdct sn sub ab col dd k0 k1 k2 k3 k5 newId))
    (hq : Q () ⟨h, g, d, t, os⟩) : wpAny M A (checkBuiltinCall "type.__call__" ⟨.ref C :: rest, kw⟩) Q E ⟨h, g, d, t, os⟩ := by
  have f3 := tc_sub
  have hT : (⟨h, g, d, t, os⟩ : Shared).TypeIs (.ref C) "type" := ⟨_, hC, rfl⟩
  simp only [checkBuiltinCall, tc_kind, tc_split]
  repeat (any_goals (first | assumption | with_reducible refine wpAny_loadPart_at hC ?_ | with_reducible refine wpAny_onRaise ?_ | with_reducible refine wpAny_map ?_ | wp_step))
theorem xkw_type {K : Frag} (F : ExcBaseFacts B newId initId bm) (X : K.In h) {fI : Addr} {oI : Obj} {Q : Fin → Shared → Prop}
    (hCK : K.lookup C = some (excClassObj nm q C N bs bm hdct sn sub ab col dd k0 k1 k2 k3 k5 newId)) (hi : findIn K (.ref C) "__init__" = some (some (.ref fI))) (hfK : K.lookup fI = some oI) (hfc : oI.cls = .type "function")
    (hq : ∀ h' e, Heap.MadeExcOf h h' e (.ref C) rest → wpAny (model prog w) A (call (.ref fI) (.ref e :: rest) kw) (fun r s' => r = .none ∧ Q (.done (.ret (.ref e))) s') E ⟨h', g, d, t, os⟩) (hrest : rest.length ≤ sizeLine) :
    wpAny (model prog w) A (Builtin.«type.__call__» ⟨.ref C :: rest, kw⟩) Q E ⟨h, g, d, t, os⟩ := by
  have hC := X _ _ hCK
  have hfI := X _ _ hfK
  repeat (first | with_reducible refine wpAny_loadPart_at hC ?_ | with_reducible refine wpAny_madeBy_exc hC ?_ | wp_step)
  refine codeAny_call_builtin_code (Code.quiet_builtin _ F.quiet) (xkw_check F hC ?_)
  refine xkw_new F hC ?_ hrest
  show wpAny _ _ _ _ _ _
  have kp : ∀ b o, h.get? b = some o → ((h.push { cls := .type "tuple", data := .seq rest.toArray }).push { cls := .ref C, data := .fields #[.ref h.objs.size, .none, .none, .none, .bool false, .none] }).get? b = some o := fun b o e => Heap.get?_push_of_some _ (Heap.get?_push_of_some _ e)
  have hC₁ := kp _ _ hC
  have hfI₁ := kp _ _ hfI
  have X₁ := X.keeps kp
  have hget : ((h.push { cls := .type "tuple", data := .seq rest.toArray }).push
      { cls := .ref C, data := .fields #[.ref h.objs.size, .none, .none, .none, .bool false, .none] }).get? (h.objs.size + 1) = some
      { cls := .ref C, data := .fields #[.ref h.objs.size, .none, .none, .none, .bool false, .none] } := by heap_get
  have hcC : (Value.ref C :: bm).contains (.ref C) = true := by simp
  unfold isInstance
  repeat (first | with_reducible refine wpAny_loadPart_at hget ?_ | (with_reducible refine wpAny_isSubtype_exc hC₁ ?_; rw [hcC]) | wp_step)
  show wpAny _ _ (typeLookup (.ref C) _) _ _ _
  refine Looks.at (looks_findIn X₁ hi) ?_
  refine wpAny_holding (wpAny_bind ?_)
  unfold bindSpecial
  refine wpAny_bind (wpAny_typeOf (T := "function") ⟨_, hfI₁, hfc⟩ ?_)
  rw [if_pos (by decide)]
  refine wpAny_pure (wpAny_bind (wpAny_mono (hq _ (h.objs.size + 1) ⟨kp, Heap.get?_none_of_le (Nat.le_succ _), h.objs.size, hget, Heap.get?_none_of_le (Nat.le_refl _), ?_⟩) (fun r s' hr => ?_) fun _ _ x => x))
  · exact Heap.get?_push_of_some _ (Heap.get?_push_at rfl rfl)
  · obtain ⟨rfl, hQ⟩ := hr
    wp_walk
    exact hQ
theorem xkw_call {K : Frag} (F : ExcBaseFacts B newId initId bm) (X : K.In h) {fI : Addr} {oI : Obj} {Q : Value → Shared → Prop}
    (hCK : K.lookup C = some (excClassObj nm q C N bs bm hdct sn sub ab col dd k0 k1 k2 k3 k5 newId)) (hi : findIn K (.ref C) "__init__" = some (some (.ref fI))) (hfK : K.lookup fI = some oI) (hfc : oI.cls = .type "function")
    (hq : ∀ h' e, Heap.MadeExcOf h h' e (.ref C) rest → wpAny (model prog w) (A.under (.builtin "type.__call__" ⟨.ref C :: rest, kw⟩)) (call (.ref fI) (.ref e :: rest) kw) (fun r s' => r = .none ∧ Q (.ref e) s') E ⟨h', g, d, t, os⟩) (hrest : rest.length ≤ sizeLine) :
    wpAny (model prog w) A (call (.ref C) rest kw) Q E ⟨h, g, d, t, os⟩ := by
  have hC := X _ _ hCK
  have f1 := tc_lookup
  have f2 := tc_bind (.ref C)
  have hT : (⟨h, g, d, t, os⟩ : Shared).TypeIs (.ref C) "type" := ⟨_, hC, rfl⟩
  refine wpAny_call (codeAny_of_tree ?_)
  show wpAny _ _ (callAny (.ref C) _) _ _ _
  repeat (any_goals (first | assumption | with_reducible refine wpAny_loadPart_at hC ?_ | wp_step))
  refine ⟨rfl, ?_⟩
  exact codeAny_call_builtin_at (Code.quiet_builtin _ (by decide +kernel)) entry_typeCall (xkw_checkT hC (xkw_type F X hCK hi hfK hfc (fun h' e hm => hq h' e hm) hrest))
end

namespace XI
open Builtin
theorem slot_get : Slot "wrapper_descriptor" "__get__" "wrapper_descriptor.__get__" := .of (owner := "wrapper_descriptor") (n := "__get__") (by rw [typeLookup_type, builtinLookup_eq_fast]; kernel_rfl) (by decide +kernel) (by decide +kernel) (by decide +kernel)
    (by first | exact .inl (by decide +kernel) | exact .inr (by decide +kernel)) (by rw [isSubtype_type]; kernel_rfl)
theorem entry_get : entryFor table "wrapper_descriptor.__get__" = some «wrapper_descriptor.__get__» := entryFor_of_tree (by kernel_rfl)
theorem args_get (a b c : Value) : argsOk "wrapper_descriptor.__get__" ⟨[a, b, c], []⟩ := by unfold argsOk; kernel_rfl
theorem type_init : typeOf (.builtin "Exception.__init__") = pure (.type "wrapper_descriptor") := by show builtinType _ = _; rw [builtinType_eq_fast]; kernel_rfl
end XI
section
variable {prog : Program} {w : World} {M : Model} {A : Around} {E : Value → Shared → Prop} {h : Heap} {g : Array GenState} {d : Drawn} {t : Nat} {os : OsState}
variable {nm q : Str} {C N : Addr} {bs bm : List Value} {hdct : Bool} {sn : List Str} {sub : List Value} {ab : Bool} {col : Option Bool} {dd : Option Addr} {k0 k1 k2 k3 k5 : Option Value} {newId : String}
theorem xsu_get {e : Addr} {oe : Obj} {Q : Fin → Shared → Prop} (hC : h.get? C = some (excClassObj nm q C N bs bm hdct sn sub ab col dd k0 k1 k2 k3 k5 newId)) (hE : bm.contains (.type "Exception") = true) (he : h.get? e = some oe) (hcls : oe.cls = .ref C)
    (hq : Q (.done (.ret (.ref h.objs.size))) ⟨h.push { cls := .type "method-wrapper", data := .fields #[.builtin "Exception.__init__", .ref e] }, g, d, t, os⟩) :
    wpAny (model prog w) A (Builtin.«wrapper_descriptor.__get__» ⟨[.builtin "Exception.__init__", .ref e, .ref C], []⟩) Q E ⟨h, g, d, t, os⟩ := by
  have hcE : (Value.ref C :: bm).contains (.type "Exception") = true := by rw [List.contains_cons, hE, Bool.or_true]
  have hs : (".".intercalate ("Exception.__init__".cutAt '.').dropLast) = "Exception" := by decide +kernel
  unfold Builtin.«wrapper_descriptor.__get__»
  repeat (first
    | (with_reducible refine wpAny_loadPart_at he ?_; rw [hcls])
    | wp_step
    | dsimp only)
  rw [hs]
  repeat (first
    | (with_reducible refine wpAny_isSubtype_exc hC ?_; rw [hcE])
    | wp_step
    | dsimp only)
  all_goals exact hq
theorem xsu_ga {so D x : Addr} {ox : Obj} {l₀ l : List Value} {K : Frag} {name : Str} {tk : Tok} {Q : Fin → Shared → Prop}
    (hso : h.get? so = some { cls := .type "super", dict := none, data := .fields #[.ref D, .ref x, .ref C], slots := #[] }) (hno : Looks (model prog w) h (opaqueClassAbove (.ref C)) none)
    (hM : Looks (model prog w) h (mroOf (.ref C)) l₀) (hl : (l₀.dropWhile (· != .ref D)).drop 1 = l) (X : K.In h)
    (hf : alongIn K name l = some (some (.builtin "Exception.__init__"))) (hxC : x ≠ C) (hn : (name == ("__class__" : Str)) = false)
    (hC : h.get? C = some (excClassObj nm q C N bs bm hdct sn sub ab col dd k0 k1 k2 k3 k5 newId)) (hE : bm.contains (.type "Exception") = true) (hx : h.get? x = some ox) (hcls : ox.cls = .ref C)
    (hq : Q (.done (.ret (.ref h.objs.size))) ⟨h.push { cls := .type "method-wrapper", data := .fields #[.builtin "Exception.__init__", .ref x] }, g, d, t, os⟩) :
    wpAny (model prog w) A (Builtin.«super.__getattribute__» ⟨[.ref so, .str name tk], []⟩) Q E ⟨h, g, d, t, os⟩ := by
  have hlk := XI.slot_get.lookup
  have hty := XI.type_init
  have hne : (Value.ref x == Value.ref C) = false := by simp [hxC]
  have hdt : ({ cls := .type "super", dict := none, data := .fields #[.ref D, .ref x, .ref C], slots := #[] } : Obj).data = .fields #[.ref D, .ref x, .ref C] := rfl
  have f0 : (#[.ref D, .ref x, .ref C] : Array Value)[0]? = some (.ref D) := rfl
  have f1 : (#[.ref D, .ref x, .ref C] : Array Value)[1]? = some (.ref x) := rfl
  have f2 : (#[.ref D, .ref x, .ref C] : Array Value)[2]? = some (.ref C) := rfl
  have hTf : (⟨h, g, d, t, os⟩ : Shared).TypeIs (.builtin "Exception.__init__") "wrapper_descriptor" := rfl
  unfold Builtin.«super.__getattribute__»
  repeat (first
    | (with_reducible refine wpAny_field hso hdt f0 ?_) | (with_reducible refine wpAny_field hso hdt f1 ?_) | (with_reducible refine wpAny_field hso hdt f2 ?_)
    | (with_reducible refine ks_wpAny_notOpaque hno ?_)
    | (with_reducible refine Looks.at hM ?_; rw [hl])
    | (refine ks_forIn_along X (fun _ _ => rfl) rfl ?_ hf)
    | (with_reducible refine wpAny_call_entry XI.slot_get hTf XI.entry_get (xsu_get hC hE hx hcls ?_) (XI.args_get _ _ _))
    | (with_reducible refine ⟨_, rfl, ?_⟩)
    | (simp only [hn, hne, Bool.or_false, Bool.false_eq_true, if_false])
    | wp_step
    | dsimp only)
  all_goals exact hq
theorem xsu_meth {so D x : Addr} {ox : Obj} {l₀ l : List Value} {K : Frag} {name : Str} {pl : Sem Bool} {Q : Value × List Value → Shared → Prop}
    (hso : h.get? so = some { cls := .type "super", dict := none, data := .fields #[.ref D, .ref x, .ref C], slots := #[] }) (hno : Looks (model prog w) h (opaqueClassAbove (.ref C)) none)
    (hM : Looks (model prog w) h (mroOf (.ref C)) l₀) (hl : (l₀.dropWhile (· != .ref D)).drop 1 = l) (X : K.In h)
    (hf : alongIn K name l = some (some (.builtin "Exception.__init__"))) (hxC : x ≠ C) (hn : (name == ("__class__" : Str)) = false)
    (hC : h.get? C = some (excClassObj nm q C N bs bm hdct sn sub ab col dd k0 k1 k2 k3 k5 newId)) (hE : bm.contains (.type "Exception") = true) (hx : h.get? x = some ox) (hcls : ox.cls = .ref C)
    (hq : Q (.ref h.objs.size, []) ⟨h.push { cls := .type "method-wrapper", data := .fields #[.builtin "Exception.__init__", .ref x] }, g, d, t + 1, os⟩) :
    wpAny (model prog w) A (getMethod (.ref so) name pl) Q E ⟨h, g, d, t, os⟩ := by
  have hlk := F.ks_slot_super_ga.lookup
  have hT : ∀ t', (⟨h, g, d, t', os⟩ : Shared).TypeIs (.ref so) "super" := fun _ => ⟨_, hso, rfl⟩
  unfold getMethod
  refine wpAny_bind (wpAny_specialOf (hT _) hlk ?_)
  show wpAny _ _ (if (Manifest.canonical "super.__getattribute__" != "object.__getattribute__") = true then _ else _) _ _ _
  rw [if_pos F.ks_canon_super_ga]
  unfold getAttr getAttrBy
  refine wpAny_bind (wpAny_bind (wpAny_mkText (wpAny_holding (wpAny_bind (wpAny_typeOf (hT _) (wpAny_bind (wpAny_of_eq hlk ?_)))))))
  show wpAny _ _ (getAttrByItsOwn (.ref so) (.str name t) (.type "super") (.builtin "super.__getattribute__") true false) _ _ _
  unfold getAttrByItsOwn hookBefore callGetattribute boundAndCalled
  refine wpAny_bind (wpAny_of_eq (show (if onTheHeap (.type "super") then typeLookup (.type "super") "__getattr__" else pure none) = pure none from rfl) ?_)
  refine wpAny_bind (wpAny_attempt (wpAny_holding ?_))
  show wpAny _ _ (bindSpecial (.builtin "super.__getattribute__") (.ref so) >>= _) _ _ _
  refine wpAny_bind (wpAny_of_eq (F.ks_slot_super_ga.bind _) ?_)
  refine wpAny_mono (Q := fun v s' => v = .ref h.objs.size ∧ s' = ⟨h.push { cls := .type "method-wrapper", data := .fields #[.builtin "Exception.__init__", .ref x] }, g, d, t + 1, os⟩) (E := fun _ _ => False)
    (wpAny_call_entry F.ks_slot_super_ga (hT _) F.ks_entry_super_ga (xsu_ga hso hno hM hl X hf hxC hn hC hE hx hcls ⟨_, rfl, rfl, rfl⟩) (F.ks_gaArgs_super _ _)) (fun v s' hv => ?_) fun _ _ z => z.elim
  obtain ⟨rfl, rfl⟩ := hv
  exact wpAny_pure (wpAny_pure hq)
end
section
variable {prog : Program} {w : World} {A : Around} {E : Value → Shared → Prop} {h : Heap} {g : Array GenState} {d : Drawn} {t : Nat} {os : OsState}
variable {nm q : Str} {C N : Addr} {bs bm : List Value} {hdct : Bool} {sn : List Str} {sub : List Value} {ab : Bool} {col : Option Bool} {dd : Option Addr} {k0 k1 k2 k3 k5 : Option Value} {newId : String}
theorem xsu_call {e q' t0 : Addr} {v : Value} {Q : Value → Shared → Prop} (hq' : h.get? q' = some { cls := .type "method-wrapper", data := .fields #[.builtin "Exception.__init__", .ref e] })
    (hC : h.get? C = some (excClassObj nm q C N bs [.type "Exception", .type "BaseException", .type "object"] hdct sn sub ab col dd k0 k1 k2 k3 k5 newId)) (he : h.get? e = some { cls := .ref C, data := .fields #[.ref t0, .none, .none, .none, .bool false, .none] })
    (hQ : ∀ h', (∀ b o, b ≠ e → h.get? b = some o → h'.get? b = some o) → h'.get? e = some { cls := .ref C, data := .fields #[.ref h.objs.size, .none, .none, .none, .bool false, .none] } → Q .none ⟨h', g, d, t, os⟩) :
    wpAny (model prog w) A (call (.ref q') [v]) Q E ⟨h, g, d, t, os⟩ := by
  have F := PySem.F.excBase_Exception
  refine wpAny_call (codeAny_of_tree ?_)
  show wpAny _ _ (callAny (.ref q') _) _ _ _
  unfold callAny
  refine wpAny_bind (wpAny_load hq' ?_)
  dsimp only
  refine bm_if_true (by decide) ?_
  show wpAny _ _ (if (Value.type "method-wrapper" != Value.type "method") = true then _ else _) _ _ _
  refine bm_if_true (by decide) ?_
  have hchk : ∀ {Q' : Unit → Shared → Prop} {E' : Value → Shared → Prop}, Q' () ⟨h, g, d, t, os⟩ → wpAny (model prog w) (A.under (.call (.ref q') ⟨[v], []⟩)) (checkBoundCall "Exception.__init__" ⟨[.ref e, v], []⟩) Q' E' ⟨h, g, d, t, os⟩ := by
    intro Q' E' hq
    have hcB : ((Value.ref C) :: [.type "Exception", .type "BaseException", .type "object"]).contains (.type "Exception") = true := rfl
    have hshort := F.noStar
    simp only [checkBoundCall, F.initKind, F.initRow]
    repeat (first | (with_reducible refine wpAny_loadPart_at he ?_) | with_reducible refine wpAny_loadPart_at hC ?_ | (with_reducible refine wpAny_isSubtype_exc hC ?_; rw [hcB]) | wp_step)
    all_goals exact hq
  refine wpAny_bind (hchk ?_)
  show wpAny _ _ (again (Code.builtin "Exception.__init__" ⟨[.ref e, v], []⟩)) _ _ _
  refine wpAny_pure ⟨plainId_quiet F.init.plain _, codeAny_builtin F.initEntry ?_⟩
  unfold Builtin.«BaseException.__init__»
  wp_walk
  refine hQ _ (fun b o hb e' => ?_) ?_
  · rw [Heap.get?_update_other _ _ (Ne.symm hb)]
    exact Heap.get?_push_of_some _ e'
  · exact Heap.get?_update_self _ (Heap.get?_push_of_some _ he) rfl
end
section
variable {prog : Program} {w : World} {A : Around} {E : Value → Shared → Prop} {s : Shared} {h₀ : Heap} {L : Addr} {m mg mb : Str → Option Value} {news : List (Addr × Obj)} {K : Frag}
variable {nm q : Str} {C D so x : Addr} {ox : Obj} {cd : ClassData} {dct : Option Addr} {bs bm : List Value} {N : Addr} {hdct : Bool} {sn : List Str} {sub : List Value} {ab : Bool} {col : Option Bool} {k0 k1 k2 k3 k5 : Option Value} {newId : String}
theorem xsu_methK {name : Str} {pl : Sem Bool} {Q : Value × List Value → Shared → Prop} (F : Fr h₀ L s.heap m) (X₀ : K.In h₀) (NN : News h₀ L s.heap news) (hso : (so, ks_superObj D x C) ∈ news) (hx : (x, ox) ∈ news) (hcls : ox.cls = .ref C) (ho : nsIn K cStatics "thirdparty.any" = some none)
    (hc : clsIn K C = some cd) (hf : alongIn K name ((cd.mro.dropWhile (· != .ref D)).drop 1) = some (some (.builtin "Exception.__init__"))) (hCK : K.lookup C = some (excClassObj nm q C N bs bm hdct sn sub ab col dct k0 k1 k2 k3 k5 newId)) (hE : bm.contains (.type "Exception") = true) (hn : (name == ("__class__" : Str)) = false)
    (h : ∀ q h', Fr h₀ L h' m → News h₀ L h' ((q, { cls := .type "method-wrapper", data := .fields #[.builtin "Exception.__init__", .ref x] }) :: news) → (∀ p ∈ news, p.1 < q) → Q (.ref q, []) { s with heap := h', toks := s.toks + 1 }) : wpAny (model prog w) A (getMethod (.ref so) name pl) Q E s := by
  have X : K.In s.heap := X₀.keeps F.keep
  have hxC : x ≠ C := fun e => by
    have h1 := (NN _ hx).2.2
    rw [show (x, ox).1 = C from e, X₀ _ _ hCK] at h1
    cases h1
  obtain ⟨hh, g, d, t, os⟩ := s
  refine xsu_meth (NN _ hso).1 (looks_opaque X ho) (l₀ := cd.mro) ?_ rfl X hf hxC hn (X _ _ hCK) hE (NN _ hx).1 hcls ?_
  · exact fun A Q E s k q => wpAny_bind ((looks_clsIn X hc) A _ E s k (wpAny_pure q))
  · obtain ⟨F', N', l'⟩ := ks_newsPush (s := ⟨hh, g, d, t, os⟩) (o := { cls := .type "method-wrapper", data := .fields #[.builtin "Exception.__init__", .ref x] }) F NN rfl (Heap.get?_push_at rfl rfl) (fun b o e => Heap.get?_push_of_some _ e)
    exact h _ _ F' N' l'
theorem xsu_callK {e q' t0 : Addr} {v : Value} {Q : Value → Shared → Prop} {news' : List (Addr × Obj)} (F : Fr h₀ L s.heap m) (X₀ : K.In h₀) (NN : News h₀ L s.heap news) (hq' : (q', ({ cls := .type "method-wrapper", data := .fields #[.builtin "Exception.__init__", .ref e] } : Obj)) ∈ news) (he : (e, ({ cls := .ref C, data := .fields #[.ref t0, .none, .none, .none, .bool false, .none] } : Obj)) ∈ news)
    (hCK : K.lookup C = some (excClassObj nm q C N bs [.type "Exception", .type "BaseException", .type "object"] hdct sn sub ab col dct k0 k1 k2 k3 k5 newId)) (hs : ∀ p ∈ news', p ∈ news) (hne : ∀ p ∈ news', p.1 ≠ e)
    (h : ∀ t1 h', Fr h₀ L h' m → News h₀ L h' ((e, { cls := .ref C, data := .fields #[.ref t1, .none, .none, .none, .bool false, .none] }) :: news') → Q .none { s with heap := h' }) : wpAny (model prog w) A (call (.ref q') [v]) Q E s := by
  have X : K.In s.heap := X₀.keeps F.keep
  have hee := (NN _ he)
  obtain ⟨hh, g, d, t, os⟩ := s
  refine xsu_call (NN _ hq').1 (X _ _ hCK) hee.1 fun h' k1 k2 => ?_
  have kb : ∀ b o, h₀.get? b = some o → h'.get? b = some o := fun b o z => k1 b o (fun q => by rw [q, hee.2.2] at z; cases z) (F.keep b o z)
  obtain ⟨oL, es, ep, hL, r⟩ := F.ns
  refine h hh.objs.size h' ⟨⟨oL, es, ep, k1 _ _ (fun q => hee.2.1 q.symm) hL, r⟩, kb, F.above⟩ (fun p hp => ?_)
  rcases List.mem_cons.mp hp with rfl | hp
  · exact ⟨k2, hee.2⟩
  · exact ⟨k1 _ _ (hne p hp) (NN p (hs p hp)).1, (NN p (hs p hp)).2⟩
end
section
variable {M : Model} {A : Around} {E : Value → Shared → Prop} {s : Shared} {env : Env} {pos : Pos} {first : List Value} {Q : Value → Shared → Prop}
theorem xsu_keeps {q e : Addr} (h : Heap) (X : h.get? q = some { cls := .type "method-wrapper", data := .fields #[.builtin "Exception.__init__", .ref e] }) : ∃ k, (k = Keeper.frame ∨ k = Keeper.machine ∨ k = Keeper.boundFrame) ∧ Looks M h (keeperOf (.ref q)) k :=
  ⟨.machine, .inr (.inl rfl), (Looks.ld (part := none) X).andThen .now⟩
theorem xsu_with {q e' : Addr} {e : Expr} {rest : List Expr} (h : wpAny M A (spliced (backTo pos (starEach (e :: rest) env))) (fun vs s₁ => s₁.heap.get? q = some { cls := .type "method-wrapper", data := .fields #[.builtin "Exception.__init__", .ref e'] } ∧ wpAny M A (call (.ref q) (first ++ vs)) Q E s₁) E s)
    (he : starEach (e :: rest) env = (false, eval e env) :: starEach rest env := by rfl) (hplain : (backTo pos (starEach rest env)).any (·.1) = false := by rfl) :
    wpAny M A (callWith pos (.ref q) first (backTo pos (starEach (e :: rest) env)) []) Q E s := by
  rw [he] at h ⊢
  exact callWith_of (by show ((false || (backTo pos (starEach rest env)).any (·.1)) || false) = false; rw [hplain]; rfl) xsu_keeps (PySem.Calls.evalArgs_plain h)
end

open Builtin Builtin.ObjectAttr in
theorem xset_osa {prog : Program} {w : World} {A : Around} {K : Frag} {C x : Addr} {s : Shared} {R : Result → Shared → Prop} {ox : Obj} {vs : Array Value} {cd : ClassData} {name : Str} {tk : Tok} {v : Value} (X : K.In s.heap) (hx : s.heap.get? x = some ox) (hcls : ox.cls = .ref C) (hdn : ox.dict = none) (hdat : ox.data = .fields vs)
    (hc : clsIn K C = some cd) (hm : cd.mro = [.ref C, .type "Exception", .type "BaseException", .type "object"]) (hdd : cd.hasDict = true) (ha : findIn K (.ref C) name = some none)
    (h : ∀ h' tk', (∀ b o, b ≠ x → s.heap.get? b = some o → h'.get? b = some o) → h'.get? x = some { ox with dict := some s.heap.objs.size } → h'.Ns1 s.heap.objs.size (fun y => if y = name then some v else none) → R (.ok (.ret .none)) { s with heap := h', toks := tk' }) :
    codeAny (model prog w) A (.call (.builtin "object.__setattr__") ⟨[.ref x, .str name tk, v], []⟩) R s := by
  have SF := PySem.F.store_Exception
  have hno : notCls ox = true := by unfold notCls; rw [hdat]
  have I : InstAt s.heap x ox C none := ⟨hx, hcls, hno, by rw [hdn]; trivial⟩
  have hxs : x ≠ s.heap.objs.size := Nat.ne_of_lt (Heap.lt_size hx)
  have hlm : Looks (model prog w) s.heap (mroOf (.ref C)) cd.mro := (looks_clsIn X hc).andThen .now
  have sub : Looks (model prog w) s.heap (isInstance (.ref x) (.type "object")) true := I.type.andThen (looks_mroIn X (by unfold mroIn; rw [hc, Option.bind_some, hm]; rfl))
  refine codeAny_call_builtin SF.slot.plain SF.entry (@check_slot (model prog w) _ _ s "object.__setattr__" "object" "__setattr__" (.ref x) [.str name tk, v] [] _ SF.kind SF.split sub (SF.args (.ref x) (.str name tk) v) ?_)
  rw [osa_eq, refuse_eq]
  refine wpAny_bind (wpAny_bind (I.type.here (wpAny_bind (hlm.here ?_))))
  rw [hm, refuseLoop_ref, SF.passes (.ref x)]
  refine wpAny_pure (wpAny_bind (I.type.here (wpAny_bind ((looks_findIn X ha).here ?_))))
  refine wpAny_bind (wpAny_pure ?_)
  show wpAny _ _ (storeInOwnDict (.ref x) (.ref C) (.str name tk) name v false) _ _ _
  unfold storeInOwnDict
  refine wpAny_bind (wpAny_pure ?_)
  refine bm_if_false (by rfl) ?_
  refine wpAny_bind ?_
  show wpAny _ _ (instanceDict x true) _ _ _
  unfold instanceDict
  refine wpAny_bind (wpAny_loadPart hx ?_)
  obtain ⟨oc, od, oda, osl⟩ := ox
  dsimp only at hcls hdn hdat
  subst hcls hdn hdat
  refine wpAny_bind ((looks_clsIn X hc).here ?_)
  rw [hdd]
  refine bm_if_false rfl ?_
  refine bm_if_false rfl ?_
  have hx₁ : (s.heap.push { cls := .type "dict", data := .dict #[] }).get? x = some ⟨.ref C, none, .fields vs, osl⟩ := Heap.get?_push_of_some _ hx
  refine wpAny_bind (wpAny_alloc' ?_)
  refine wpAny_bind (wpAny_update' hx₁ ?_)
  refine wpAny_pure ?_
  have hgd : ((s.heap.push { cls := .type "dict", data := .dict #[] }).update x fun o => { cls := o.cls, dict := some s.heap.objs.size, data := o.data, slots := o.slots }).get? s.heap.objs.size
      = some { cls := .type "dict", data := .dict #[] } := (Heap.get?_update_ne _ _ _ _ hxs.symm).trans (Heap.get?_push_at rfl rfl)
  have hnd : ((s.heap.push { cls := .type "dict", data := .dict #[] }).update x fun o => { cls := o.cls, dict := some s.heap.objs.size, data := o.data, slots := o.slots }).Ns s.heap.objs.size (fun _ => none) :=
    ⟨_, #[], _, hgd, rfl, fun e he => absurd he (by simp), fun _ => rfl⟩
  show wpAny _ _ (storeInDict s.heap.objs.size (.str name tk) name v) _ _ _
  unfold storeInDict newKeyGuard
  refine wpAny_bind (wpAny_pure (wpAny_bind (wpAny_nsSet1 (Heap.Ns1.of_empty hnd) fun h' hn' hs => ?_)))
  obtain ⟨oD, esD, epD, hoD, hdD, hcD⟩ := hn'.count (Within.cons name v Within.nil)
  refine wpAny_bind (wpAny_lookBehind hoD (by rw [hdD]; exact pastItsLine_dict (Nat.le_trans hcD (by rw [List.length_cons, List.length_nil, sizeLine_eq]; omega))) ?_)
  refine wpAny_pure (h h' _ (fun b o hb e => ?_) ?_ hn')
  · exact (hs.2 b (Nat.ne_of_lt (Heap.lt_size e))).trans ((Heap.get?_update_ne _ _ _ _ hb).trans (Heap.get?_push_of_some _ e))
  · exact (hs.2 x hxs).trans (Heap.get?_update_self _ hx₁ rfl)
/-- the first attribute of an own exception: its dict is made -/
theorem xset_K {prog : Program} {w : World} {A : Around} {E : Value → Shared → Prop} {K : Frag} {C x : Addr} {s : Shared} {ox : Obj} {vs : Array Value} {cd : ClassData} {name : Str} {v : Value} {h₀ : Heap} {L : Addr} {m : Str → Option Value} {news news' : List (Addr × Obj)} {Q : Unit → Shared → Prop}
    (F : Fr h₀ L s.heap m) (X₀ : K.In h₀) (NN : News h₀ L s.heap news) (hxm : (x, ox) ∈ news) (hcls : ox.cls = .ref C) (hdn : ox.dict = none) (hdat : ox.data = .fields vs) (hs : findIn K (.ref C) "__setattr__" = some (some (.builtin "object.__setattr__")))
    (hc : clsIn K C = some cd) (hm : cd.mro = [.ref C, .type "Exception", .type "BaseException", .type "object"]) (hdd : cd.hasDict = true) (ha : findIn K (.ref C) name = some none) (hsub : ∀ p ∈ news', p ∈ news) (hne : ∀ p ∈ news', p.1 ≠ x)
    (h : ∀ d oD es ep h' tk', Fr h₀ L h' m → News h₀ L h' ((d, oD) :: (x, { ox with dict := some d }) :: news') → (∀ p ∈ news, p.1 < d) → oD.data = .dict es ep → StrKeys es → (∀ y, nsFind es y = if y = name then some v else none) → Q () { s with heap := h', toks := tk' }) :
    wpAny (model prog w) A (setAttr (.ref x) name v) Q E s := by
  have X : K.In s.heap := X₀.keeps F.keep
  have hx := NN _ hxm
  have hno : notCls ox = true := by unfold notCls; rw [hdat]
  have I : InstAt s.heap x ox C none := ⟨hx.1, hcls, hno, by rw [hdn]; trivial⟩
  refine set_plain X I hs (xset_osa (s := { s with toks := s.toks + 1 }) X hx.1 hcls hdn hdat hc hm hdd ha fun h' tk' k1 k2 k3 => ?_)
  obtain ⟨oD, es, ep, e1, e2, e3, eu, e4⟩ := k3
  have kb : ∀ b o, h₀.get? b = some o → h'.get? b = some o := fun b o z => k1 b o (fun q => by rw [q, hx.2.2] at z; cases z) (F.keep b o z)
  obtain ⟨oL, esL, epL, hL, r⟩ := F.ns
  refine h s.heap.objs.size oD es ep h' tk' ⟨⟨oL, esL, epL, k1 _ _ (fun q => hx.2.1 q.symm) hL, r⟩, kb, F.above⟩ (fun p hp => ?_) (fun p hp => Heap.lt_size (NN p hp).1) e2 e3 e4
  rcases List.mem_cons.mp hp with rfl | hp
  · refine ⟨e1, fun q => absurd (Heap.lt_size hL) (by rw [← q]; exact Nat.lt_irrefl _), ?_⟩
    cases z : h₀.get? s.heap.objs.size with
    | none => rfl
    | some o => exact absurd (Heap.lt_size (F.keep _ _ z)) (Nat.lt_irrefl _)
  rcases List.mem_cons.mp hp with rfl | hp
  · exact ⟨k2, hx.2⟩
  · exact ⟨k1 _ _ (hne p hp) (NN p (hsub p hp)).1, (NN p (hsub p hp)).2⟩

section
variable {w : World} {dp un : Nat} {gd : Option (List Code)} {cn : Str} {cs : Scope} {a : Addr} {ccd : Value} {cl : List (Str × Addr)} {outer : List Env} {A₀ : Around} {base h₀ : Heap} {L : Addr} {m : Str → Option Value} {news : List (Addr × Obj)} {s : Shared} {Q E : Value → Shared → Prop} {loose : List Str} {mean : ExcName → Option Value} {mg mb : Str → Option Value}
  (B : Below A₀ base outer h₀) (F : Fr h₀ L s.heap m) (X : (Mine.KF w.params).In h₀) (N : News h₀ L s.heap news) (T : Top topProg loose mean mg mb h₀) (hk : cs.kind = .function) (hd : dp + 8 ≤ 500) (hu : un + 160 ≤ 5000)
include B F X N T hk hd hu
theorem ct_xinit {e t : Addr} {news' : List (Addr × Obj)} {x : Str} {tx t7 : Tok} {kw : List (Str × Value)} (hn : news = (e, ({ cls := .ref 128, data := .fields #[.ref t, .none, .none, .none, .bool false, .none] } : Obj)) :: news') (hne : ∀ p ∈ news', p.1 ≠ e) (hkw : kw = [(Str.ofString "errno", .int 7 t7)])
    (ret : ∀ d oD es ep t1 h' tk', Fr h₀ L h' m → News h₀ L h' ((d, oD) :: (e, ({ cls := .ref 128, dict := some d, data := .fields #[.ref t1, .none, .none, .none, .bool false, .none] } : Obj)) :: news') → (∀ p ∈ news', p.1 < d) → e < d → oD.data = .dict es ep → StrKeys es → (∀ y, nsFind es y = if y = Str.ofString "errno" then some (.int 7 t7) else none) → Q .none { s with heap := h', toks := tk' }) :
    wpAny (model PySem.Challenge.rw_iw0015_02.row.prog w) (ktrTop dp un gd cn cs L a ccd cl outer) (call (.ref 125) [.ref e, .str x tx] kw) Q E s := by
  subst hkw
  subst hn
  k_with_none
  (k_with "ite" => (k_closed; first | refine ite_pos (by decide) ?_ | refine ite_neg (by decide) ?_))
  (k_with "execs nil" => (k_here; dsimp only))
  (k_with "execs cons" => (k_here; dsimp only))
  revert X; k_fill; intro X
  k_dflt (refine wpAny_call ?_; (refine' ks_code_super ?k1 ?k2 ?k3 ?k4 ?k5 ?kA ?kF ?kK ?k6 ?k7 ?k8 ?k9 ?kB ?_ ?c1 ?c2 ?c3 ?c4; (case kA => exact rfl); (case kF => exact rfl); (case kK => first | exact rfl | assumption); (case k1 => k_asm); (case k2 => k_asm); (case k3 => k_asm); (case k4 => k_asm); (case k5 => k_asm); (case k6 => k_is); (case k7 => k_is); (case k8 => k_room); (case k9 => first | exact BindsTo.of_eq rfl | exact binds_K (by k_in) rfl (by k_is) rfl rfl rfl); (case kB => exact locs rfl); (case c1 => decide); (case c2 => exact rfl); (case c3 => exact rfl); (case c4 => exact rfl); intro g' L' h' FG' F' N' B' X' T' l1; (try k_lt l1); (try dsimp only); (try k_lift B')))
  k_steps
  k_dflt (refine ks_node (by k_asm) (by k_asm) N' (by k_asm) (by k_is) (by rfl) (by rfl) (InstAt.mk (od := none) (N' _ (.head _)).1 rfl rfl trivial) (by k_is) (by rfl) (by first | rfl | decide +kernel) (by k_is) (by k_is) (by k_is) (by k_is) (by decide) (by rfl) (by rfl) (by rfl) (by rfl) (by decide +kernel) (by first | boot_by_name | rfl | kernel_rfl) ?_; intro so9 h9 F9 N9 l9; (try k_lt l9))
  k_steps
  k_dflt (refine xsu_methK (C := 128) (D := 128) (x := e) F9 (by k_asm) N9 (.head _) (.tail _ (.head _)) rfl (by k_is) rfl (by kernel_rfl) rfl rfl (by decide) ?_)
  intro q9 h9 F9 N9 l9
  (try dsimp only)
  k_steps
  k_dflt (refine xsu_with (e' := e) ?_ rfl rfl)
  k_steps
  · exact (N9 _ (.head _)).1
  k_dflt (refine xsu_callK (C := 128) (news' := news') F9 (by k_asm) N9 (.head _) (.tail _ (.tail _ (.head _))) rfl (fun p hp => .tail _ (.tail _ (.tail _ hp))) hne ?_)
  intro t1 h8 F8 N8
  (try dsimp only)
  k_steps
  k_dflt (refine xset_K (C := 128) (news' := news') F8 (by k_asm) N8 (.head _) rfl rfl rfl (by k_is) rfl rfl rfl (by k_is) (fun p hp => .tail _ hp) hne ?_)
  intro d7 oD7 es7 ep7 h7 tk7 F7 N7 l7 e7 s7 n7
  (try dsimp only)
  k_steps
  rename News h₀ L _ _ => N6
  refine' ret d7 oD7 es7 ep7 t1 h7 tk7 ?fx ?nx ?lx ?ex e7 s7 n7
  case fx => k_asm
  case nx => exact N6
  case lx => exact fun p hp => l7 p (.tail _ hp)
  case ex => exact l7 _ (.head _)
end

/-- a tree that never touches an object's dict field -/
def KeepsD {α : Type} : Sem α → Prop
  | .pure _ => True
  | .raise _ => True
  | .unsupported _ => True
  | .finish _ => True
  | .rule _ k => KeepsD (k ())
  | .at _ k => KeepsD (k ())
  | .load _ _ k => ∀ o, KeepsD (k o)
  | .update _ _ f k => (∀ o, (f o).dict = o.dict ∧ (f o).isFreed = o.isFreed) ∧ KeepsD (k ())
  | .alloc _ k => ∀ a, KeepsD (k a)
  | .loadIfAlive _ k => ∀ o, KeepsD (k o)
  | .point _ k => KeepsD (k ())
  | .fresh k => ∀ t, KeepsD (k t)
  | .ask k => ∀ c, KeepsD (k c)
  | .handled _ k => ∀ v, KeepsD (k v)
  | .stack k => ∀ l, KeepsD (k l)
  | _ => False
def KDict (h h' : Heap) : Prop := ∀ b o, h.get? b = some o → ∃ o', h'.get? b = some o' ∧ o'.dict = o.dict
theorem KDict.refl (h : Heap) : KDict h h := fun _ o e => ⟨o, e, rfl⟩
theorem KDict.trans {h₁ h₂ h₃ : Heap} (x : KDict h₁ h₂) (y : KDict h₂ h₃) : KDict h₁ h₃ := fun b o e => by
  obtain ⟨o', e', d'⟩ := x b o e
  obtain ⟨o'', e'', d''⟩ := y b o' e'
  exact ⟨o'', e'', d''.trans d'⟩
theorem kdict_update {h : Heap} {a : Addr} {f : Obj → Obj} (hf : ∀ o, (f o).dict = o.dict ∧ (f o).isFreed = o.isFreed) : KDict h (h.update a f) := fun b o e => by
  by_cases hb : b = a
  · subst hb
    have hfr := (Heap.get?_some_iff.mp e).2
    exact ⟨f o, Heap.get?_update_self f e (by rw [(hf o).2]; exact hfr), (hf o).1⟩
  · exact ⟨o, (Heap.get?_update_ne _ _ _ _ hb).trans e, rfl⟩
theorem kdict_push {h : Heap} {o : Obj} : KDict h (h.push o) := fun _ o' e => ⟨o', Heap.get?_push_of_some _ e, rfl⟩
theorem wp_keepD {α : Type} {M : Model} {Γ : Ctx} {Q : α → Pos → Shared → Prop} {E : Value → Pos → Shared → Prop} : ∀ (t : Sem α) (p : Pos) (s : Shared), KeepsD t → Sem.wp M Γ t Q E p s → Sem.wp M Γ t (fun a p' s' => Q a p' s' ∧ KDict s.heap s'.heap) E p s := by
  intro t
  induction t with
  | pure a => intro p s _ h; exact ⟨h, KDict.refl _⟩
  | raise e => intro p s _ h; exact h
  | unsupported w => intro p s _ h; exact h
  | finish e => intro p s _ h; exact h
  | rule t k ih => intro p s hk h; rw [Sem.wp_rule] at h ⊢; exact ih () p s hk h
  | «at» q k ih => intro p s hk h; rw [Sem.wp_at] at h ⊢; exact ih () q s hk h
  | load a part k ih => intro p s hk h; rw [Sem.wp_load] at h ⊢; obtain ⟨o, ho, h⟩ := h; exact ⟨o, ho, ih o p s (hk o) h⟩
  | update a part f k ih =>
    intro p s hk h
    rw [Sem.wp_update] at h ⊢
    refine ⟨h.1, Sem.wp_mono M Γ _ (fun a p' s' z => ⟨z.1, (kdict_update hk.1).trans z.2⟩) (fun _ _ _ z => z) _ _ (ih () p _ hk.2 h.2)⟩
  | alloc o k ih =>
    intro p s hk h
    rw [Sem.wp_alloc] at h ⊢
    exact Sem.wp_mono M Γ _ (fun a p' s' z => ⟨z.1, kdict_push.trans z.2⟩) (fun _ _ _ z => z) _ _ (ih _ p _ (hk _) h)
  | loadIfAlive a k ih => intro p s hk h; rw [Sem.wp_loadIfAlive] at h ⊢; exact ih _ p s (hk _) h
  | point l k ih => intro p s hk h; rw [Sem.wp_point] at h ⊢; exact ih () p s hk h
  | fresh k ih => intro p s hk h; rw [Sem.wp_fresh] at h ⊢; exact ih _ p _ (hk _) h
  | ask k ih => intro p s hk h; rw [Sem.wp_ask] at h ⊢; exact ih _ p s (hk _) h
  | handled o k ih => intro p s hk h; unfold Sem.wp at h ⊢; exact ih _ p s (hk _) h
  | stack k ih => intro p s hk h; unfold Sem.wp at h ⊢; exact ih _ p s (hk _) h
  | register | choose | os | call | genState | newGen | resume | yield | fork | thread | await => intro p s hk h; exact hk.elim
theorem wpAny_keepD {α : Type} {M : Model} {A : Around} {t : Sem α} {Q : α → Shared → Prop} {E : Value → Shared → Prop} {s : Shared} (hk : KeepsD t) (h : wpAny M A t Q E s) : wpAny M A t (fun a s' => Q a s' ∧ KDict s.heap s'.heap) E s :=
  fun Γ p hΓ => wp_keepD t p s hk (h Γ p hΓ)
theorem keepsD_bind {α β : Type} {m : Sem α} {f : α → Sem β} (hm : KeepsD m) (hf : ∀ a, KeepsD (f a)) : KeepsD (m >>= f) := by
  show KeepsD (m.bind f)
  induction m with
  | pure a => exact hf a
  | raise e => trivial
  | unsupported w => trivial
  | finish e => trivial
  | rule t k ih => exact ih () hm
  | «at» q k ih => exact ih () hm
  | load a part k ih => exact fun o => ih o (hm o)
  | update a part g k ih => exact ⟨hm.1, ih () hm.2⟩
  | alloc o k ih => exact fun a => ih a (hm a)
  | loadIfAlive a k ih => exact fun o => ih o (hm o)
  | point l k ih => exact ih () hm
  | fresh k ih => exact fun t => ih t (hm t)
  | ask k ih => exact fun t => ih t (hm t)
  | handled o k ih => exact fun t => ih t (hm t)
  | stack k ih => exact fun t => ih t (hm t)
  | register | choose | os | call | genState | newGen | resume | yield | fork | thread | await => exact hm.elim
theorem keepsD_pure {α : Type} {a : α} : KeepsD (pure a : Sem α) := trivial
theorem keepsD_map (o : Obj) (f : Array Value → Array Value) : (Obj.mapFields f o).dict = o.dict ∧ (Obj.mapFields f o).isFreed = o.isFreed := by
  obtain ⟨c, d, dt, sl⟩ := o
  cases dt <;> exact ⟨rfl, rfl⟩
theorem keepsD_slots (o : Obj) (sl : Array (Option Value)) : ({ o with slots := sl } : Obj).dict = o.dict ∧ ({ o with slots := sl } : Obj).isFreed = o.isFreed := by
  obtain ⟨c, d, dt, s⟩ := o
  cases dt <;> exact ⟨rfl, rfl⟩
theorem keepsD_field (v : Value) (i : Nat) : KeepsD (field v i) := by
  unfold field fieldsOf
  repeat' (first | exact trivial | exact fun _ => trivial | refine keepsD_bind ?_ (fun _ => ?_) | split)
theorem keepsD_setField (v : Value) (i : Nat) (x : Value) : KeepsD (setField v i x) := by
  unfold setField updateField
  repeat' (first | exact trivial | exact fun _ => trivial | refine keepsD_bind ?_ (fun _ => ?_) | split | exact ⟨fun o => keepsD_map o _, trivial⟩)
theorem keepsD_flight (v : Value) (f : Option Addr) : KeepsD (setFlight v f) := by
  unfold setFlight
  repeat' (first | exact trivial | exact keepsD_field _ _ | exact keepsD_setField _ _ _ | refine keepsD_bind ?_ (fun _ => ?_) | split)
theorem keepsD_ready : ∀ l : List Env, KeepsD (readyFrames l)
  | [] => trivial
  | env :: outer => by
    have ih := keepsD_ready outer
    unfold readyFrames behindIsImport
    cases outer <;> (unfold keptBack underTheClaimsCaller; repeat' (first | exact trivial | exact ih | exact keepsD_field _ _ | exact fun _ => trivial | exact ⟨fun o => keepsD_slots o _, trivial⟩ | refine keepsD_bind ?_ (fun _ => ?_) | split | (intro _; exact trivial)))
theorem keepsD_frameOf (env : Env) : KeepsD (PySem.frameOf env) := by
  unfold PySem.frameOf frameEnvs
  refine keepsD_bind (keepsD_bind (fun _ => trivial) fun _ => trivial) fun l => ?_
  refine keepsD_bind ?_ fun o => ?_
  · cases h : l.dropWhile (·.frame != env.frame) with
    | nil => exact trivial
    | cons a r => exact keepsD_bind (keepsD_ready _) fun _ => trivial
  · split <;> exact trivial
theorem keepsD_entry (a b c d e : Value) (l : List Value) : KeepsD (EntryCells.newEntry a b c d e l) := by
  unfold EntryCells.newEntry newFields newObj
  repeat' (first | exact trivial | exact fun _ => trivial | refine keepsD_bind ?_ (fun _ => ?_) | split)
theorem keepsD_note (v : Value) (env : Env) : KeepsD (noteFrame v env) := by
  unfold noteFrame entryPlaceOf
  repeat' (first | exact trivial | exact keepsD_field _ _ | exact keepsD_setField _ _ _ | exact keepsD_frameOf _ | exact keepsD_entry _ _ _ _ _ _ | exact fun _ => trivial | refine keepsD_bind ?_ (fun _ => ?_) | split)
theorem keepsD_leaving (v : Value) (env : Env) : KeepsD (leaving env v) := keepsD_bind (keepsD_note _ _) fun _ => keepsD_flight _ _

/-- an exception in flight whose dict is known, the ledger kept -/
def RaisedD (base : Heap) (l : List Env) (e d : Addr) (cls : Value) (news : List (Addr × Obj)) (h : Heap) : Prop :=
  ∃ B a0, base.StaysIn B ∧ (∀ q ∈ news, B.get? q.1 = some q.2 ∧ base.get? q.1 = none) ∧ Heap.FlyingW B l e cls a0 h ∧ ∃ oe, h.get? e = some oe ∧ oe.dict = some d
theorem raisedD_ne {base h : Heap} {env : Env} {outer : List Env} {e d L : Addr} {cls : Value} {news : List (Addr × Obj)} (R : RaisedD base (env :: outer) e d cls news h) (hf : env.frame = some L) : ∀ q ∈ news, q.1 ≠ L := by
  obtain ⟨B, a0, hB, hl, hfl, _⟩ := R
  intro q hq z
  obtain ⟨_, ⟨L', o, hf', hn, _⟩, _⟩ := hfl.2.2.1
  rw [hf] at hf'
  cases hf'
  have := (hl q hq).1
  rw [z, hn] at this
  cases this
section
variable {M : Model} {A : Around} {E : Value → Shared → Prop} {s' : Shared} {base g g₂ h : Heap} {outer : List Env} {L a e d : Addr} {m : Str → Option Value} {name : Str} {scope : Scope} {cd : Value} {Q : Unit → Shared → Prop} {news : List (Addr × Obj)} {cls : Value}
theorem leave_D0 {oe : Obj} {vs : Array Value} {a0 : Value} (K : Below A base outer g) (F : Fr g L s'.heap m) (N : News g L s'.heap ((e, oe) :: news)) (hne : ∀ p ∈ news, p.1 ≠ e) (hcls : oe.cls = cls) (hdc : oe.dict = some d) (hdat : oe.data = .fields vs) (h1 : vs[1]? = some .none) (h0 : vs[0]? = some a0)
    (hQ : ∀ h', RaisedD base outer e d cls news h' → g.UpToSlots h' → Q () { s' with heap := h' }) (hk : scope.kind = .function := by rfl) :
    wpAny M (A.deeper (envOf name scope L a cd)) (leaving (envOf name scope L a cd) (.ref e)) Q E s' := by
  have K' := K.push (name := name) (a := a) (cd := cd) F hk
  let fs := (envOf name scope L a cd :: outer).filterMap (·.frame)
  have hee := N _ (.head _)
  have hen : base.get? e = none := fresh_of_stays K.stays hee.2.2
  have hef : e ∉ fs := fun hm => by
    obtain ⟨_, o, ho, hnf⟩ := K'.frames.mem hm
    rw [hee.1] at ho
    cases ho
    exact hnf vs hdat
  have st : base.StaysIn (hideAll s'.heap (e :: fs)) := fun b o q => hideAll_get _ (K'.stays b o q) fun hm => by
    rcases List.mem_cons.mp hm with rfl | hm
    · rw [hen] at q; cases q
    · rw [(K'.frames.mem hm).1] at q; cases q
  have hl : ∀ q ∈ news, (hideAll s'.heap (e :: fs)).get? q.1 = some q.2 ∧ base.get? q.1 = none := fun q hq => by
    have hN := N q (.tail _ hq)
    refine ⟨hideAll_get _ hN.1 fun hm => ?_, fresh_of_stays K.stays hN.2.2⟩
    rcases List.mem_cons.mp hm with z | hm
    · exact hne q hq z
    · obtain ⟨env, he, hf⟩ := List.mem_filterMap.mp hm
      rcases List.mem_cons.mp he with rfl | he
      · exact hN.2.1 (Option.some.inj hf).symm
      · obtain ⟨o, ho, _⟩ := (K.frames.mem (List.mem_filterMap.mpr ⟨env, he, hf⟩)).2
        rw [hN.2.2] at ho; cases ho
  have hfr : s'.heap.FunFrames (hideAll s'.heap (e :: fs)) (envOf name scope L a cd :: outer) := by
    have key : ∀ l : List Env, s'.heap.FunFrames base l → (∀ env ∈ l, ∀ a, env.frame = some a → a ∈ e :: fs) → s'.heap.FunFrames (hideAll s'.heap (e :: fs)) l := by
      intro l
      induction l with
      | nil => exact fun _ _ => trivial
      | cons env r ih => exact fun ⟨hk, ⟨L, o, hf, _, ho, hd⟩, hr⟩ hin => ⟨hk, ⟨L, o, hf, hideAll_none _ (hin env (.head _) L hf), ho, hd⟩, ih hr fun e he => hin e (.tail _ he)⟩
    exact key _ K'.frames fun env he b hb => .tail _ (List.mem_filterMap.mpr ⟨env, he, hb⟩)
  refine wpAny_mono (wpAny_keepD (keepsD_leaving _ _) (wpAny_leaving_firstW (Q := fun _ s'' => ∃ h', s'' = { s' with heap := h' } ∧ Heap.LeftW (hideAll s'.heap (e :: fs)) (envOf name scope L a cd :: outer) e oe.cls a0 s'.heap h') K'.stack hfr rfl hee.1 (fun b o q => of_hideAll _ q) (hideAll_none _ (.head _)) hdat h1 h0 fun h' hL => ⟨h', rfl, hL⟩)) (fun _ s'' hx => ?_) fun _ _ x => x
  obtain ⟨⟨h', rfl, hL⟩, hD⟩ := hx
  obtain ⟨k1, ⟨_, _, k2⟩, k3, k4⟩ := hL
  rw [hcls] at k3
  obtain ⟨oe', he', hd'⟩ := hD e oe hee.1
  exact hQ h' ⟨_, a0, st, hl, ⟨k1, hideAll_none _ (.head _), k2, k3⟩, oe', he', hd'.trans hdc⟩ ((Heap.UpToSlots.of_keeps F.keep).trans k4)
theorem leave_D (K : Below A base outer g) (R : RaisedD base (envOf name scope L a cd :: outer) e d cls news s'.heap) (hsm : g.UpToSlots s'.heap)
    (hQ : ∀ h', RaisedD base outer e d cls news h' → g.UpToSlots h' → Q () { s' with heap := h' }) :
    wpAny M (A.deeper (envOf name scope L a cd)) (leaving (envOf name scope L a cd) (.ref e)) Q E s' := by
  obtain ⟨B, a0, hB, hl, hfl, oe, he, hd⟩ := R
  refine wpAny_mono (wpAny_keepD (keepsD_leaving _ _) (wpAny_leaves_onW (Q := fun _ s'' => ∃ h', s'' = { s' with heap := h' } ∧ Heap.FlyingW B outer e cls a0 h' ∧ s'.heap.UpToSlots h') (Around.frames_deeper K.stack) rfl hfl fun h' x1 x2 => ⟨h', rfl, x1, x2⟩)) (fun _ s'' hx => ?_) fun _ _ x => x
  obtain ⟨⟨h', rfl, x1, x2⟩, hD⟩ := hx
  obtain ⟨oe', he', hd'⟩ := hD e oe he
  exact hQ h' ⟨B, a0, hB, hl, x1, oe', he', hd'.trans hd⟩ (hsm.trans x2)
end
section
variable {prog : Program} {w : World} {A₀ : Around} {E : Value → Shared → Prop} {s' : Shared} {base : Heap} {outer : List Env} {L a e d C : Addr} {m : Str → Option Value} {name : Str} {scope : Scope} {cd : Value}
  {n : Str} {b₀ : Stmt} {suite : List Stmt} {pos np : Pos} {rest : List ExceptHandler} {Q : Flow → Shared → Prop} {news : List (Addr × Obj)} {K : Frag}
  {p : Program} {loose : List Str} {mg mb : Str → Option Value} {x : Str}
  {nm q : Str} {N : Addr} {bs bm : List Value} {hdct : Bool} {sn : List Str} {sub : List Value} {ab : Bool} {col : Option Bool} {dd : Option Addr} {k0 k1 k2 k3 k5 : Option Value} {newId : String}
/-- the exception caught by its class's name, bound; its dict known -/
theorem caught_D (hfr : A₀.frames = some outer) (Fn : s'.heap.Ns L m) (hab : base.objs.size ≤ L) (R : RaisedD base (envOf name scope L a cd :: outer) e d (.ref C) news s'.heap) (hLn : ∀ p ∈ news, p.1 ≠ L)
    (X : K.In base) (T : TopRead p loose mg mb base) (ex : nsIn K mainGlobals x = some (some (.ref C))) (hCK : K.lookup C = some (excClassObj nm q C N bs bm hdct sn sub ab col dd k0 k1 k2 k3 k5 newId)) (hbase : bm.contains (.type "BaseException") = true)
    (k : ∀ h' tk oe, Fr base L h' (fun y => if y = n then some (.ref e) else m y) → News base L h' news → h'.get? e = some oe → oe.cls = .ref C → oe.dict = some d → (∃ vs, oe.data = .fields vs) → (∀ b o, b ≠ L → s'.heap.get? b = some o → (∀ vs, o.data ≠ .fields vs) → ∃ sl, h'.get? b = some { o with slots := sl }) →
      wpAny (model prog w) ((A₀.deeper (envOf name scope L a cd)).mark (some (.ref e))) (execs (b₀ :: suite) (envOf name scope L a cd))
        (fun f s₄ => wpAny (model prog w) (A₀.deeper (envOf name scope L a cd)) (do bindName (envOf name scope L a cd) n .none; unbindBehindTheSuite (envOf name scope L a cd) n pos) (fun _ s₅ => Q f s₅) E s₄)
        (AsSuiteRaised (model prog w) ((A₀.deeper (envOf name scope L a cd)).mark (some (.ref e))) (envOf name scope L a cd) n pos (notedBy (model prog w) ((A₀.deeper (envOf name scope L a cd)).mark (some (.ref e))) (envOf name scope L a cd) (cameBackBy (model prog w) (A₀.deeper (envOf name scope L a cd)) (envOf name scope L a cd) E)))
        { s' with heap := h', toks := tk })
    (hk : scope.kind = .function := by rfl) (hlo : (envOf name scope L a cd).kindOf n = some .local := by rfl) (hx : (envOf name scope L a cd).kindOf x = some .globalImplicit := by rfl) (hd : (x == ("__debug__" : Str)) = false := by decide) :
    wpAny (model prog w) (A₀.deeper (envOf name scope L a cd)) (noteFrame (.ref e) (envOf name scope L a cd))
      (fun _ s₂ => wpAny (model prog w) (A₀.deeper (envOf name scope L a cd)) (setFlight (.ref e) none) (fun _ s₃ =>
        wpAny (model prog w) (A₀.deeper (envOf name scope L a cd)) (handleBy (.ref e) (envOf name scope L a cd) (.ExceptHandler (some (.Name x np)) (some n) (b₀ :: suite) pos :: rest)) Q E s₃) E s₂) E s' := by
  obtain ⟨B, a0, hB, hl, hfl, oe, he, hdc⟩ := R
  refine wpAny_mono (wpAny_keepD (keepsD_note _ _) (wpAny_looks_onW (Q := fun _ s'' => ∃ h', s'' = { s' with heap := h' } ∧ Heap.HeldW B (envOf name scope L a cd :: outer) e (.ref C) a0 L h' ∧ s'.heap.UpToSlots h') (Around.frames_deeper hfr) rfl hfl fun h' x1 x2 => ⟨h', rfl, x1, x2⟩)) (fun _ s₄ z₄ => ?_) fun _ _ x => x
  obtain ⟨⟨h₄, rfl, hheld₄, hsm₄⟩, hD₄⟩ := z₄
  refine wpAny_mono (wpAny_keepD (keepsD_flight _ _) (wpAny_landsW (Q := fun _ s'' => ∃ h', s'' = { s' with heap := h' } ∧ Heap.FlyingW B (envOf name scope L a cd :: outer) e (.ref C) a0 h' ∧ h₄.UpToSlots h') hheld₄ fun h' x1 x2 => ⟨h', rfl, x1, x2⟩)) (fun _ s₅ z₅ => ?_) fun _ _ x => x
  obtain ⟨⟨h₅, rfl, hheld, hsm₅'⟩, hD₅⟩ := z₅
  have hsm₅ := hsm₄.trans hsm₅'
  have F₅ : Fr base L h₅ m := ⟨hsm₅.ns Fn, fun b o z => hheld.1 b o (hB b o z), hab⟩
  obtain ⟨ob, hob, hobc⟩ := hheld.there
  refine wpAny_handleBy_cons (codeAny_handlers_test (name_K F₅ X T ex ?_ hk hx hd)) (by intro q; cases q)
  refine wpAny_excMatches_sub_self (F₅.keep _ _ (X _ _ hCK)) hob hobc hbase (codeAny_handlers_suite_as ?_)
  refine wpAny_mono (wpAny_keepD (keepsD_flight _ _) (lands_againW (Q := fun _ s'' => ∃ h', s'' = { s' with heap := h' } ∧ Heap.FlyingW B (envOf name scope L a cd :: outer) e (.ref C) a0 h' ∧ h₅.UpToSlots h') hheld fun h' x1 x2 => ⟨h', rfl, x1, x2⟩)) (fun _ s₆ z₆ => ?_) fun _ _ x => x
  obtain ⟨⟨h₆, rfl, hfl₆, hsm₆⟩, hD₆⟩ := z₆
  have hsm := hsm₅.trans hsm₆
  have F₆ : Fr base L h₆ m := ⟨hsm.ns Fn, fun b o z => hfl₆.1 b o (hB b o z), hab⟩
  obtain ⟨oe₆, he₆, hd₆⟩ := ((hD₄.trans hD₅).trans hD₆) e oe he
  obtain ⟨hst₆, _, _, oe', vs', _, _, _, h1, ⟨h2, _⟩, h3, _⟩ := hfl₆
  rw [he₆] at h1
  cases h1
  have hkB : ∀ q ∈ news, h₆.get? q.1 = some q.2 := fun q hq => hst₆ _ _ (hl q hq).1
  have Nl : News base L h₆ news := fun q hq => ⟨hkB q hq, hLn q hq, (hl q hq).2⟩
  have heL : e ≠ L := fun z => by
    obtain ⟨oL, es, ep, hL, hLd, _⟩ := F₆.ns
    rw [← z, he₆] at hL
    cases hL
    rw [h3] at hLd
    cases hLd
  refine wpAny_storeName_local hlo F₆.ns (fun h₇ hn hs => ?_) (by show (scope.kind == .class || (scope.kind == .module && L != mainGlobals)) = false; rw [hk]; rfl)
  refine k h₇ _ oe₆ (F₆.set hn hs) (Nl.set hs) ((hs.2 e heL).trans he₆) h2 (hd₆.trans hdc) ⟨_, h3⟩ fun b o hb e1 e2 => ?_
  obtain ⟨sl, e3⟩ := hsm b o e1 e2
  exact ⟨sl, (hs.2 b hb).trans e3⟩
end

def ckOf (ks : List Int) : Int := ks.foldl (fun v n => (v.fdiv 2 + v.fmod 2 * 128 + n).fmod 256) 0
section
variable {w : World} {dp un : Nat} {gd : Option (List Code)} {cn : Str} {cs : Scope} {a : Addr} {ccd : Value} {cl : List (Str × Addr)} {outer : List Env} {A₀ : Around} {base h₀ : Heap} {L : Addr} {m : Str → Option Value} {news : List (Addr × Obj)} {s : Shared} {Q E : Value → Shared → Prop} {loose : List Str} {mean : ExcName → Option Value} {mg mb : Str → Option Value}
  (B : Below A₀ base outer h₀) (F : Fr h₀ L s.heap m) (X : (Mine.KF w.params).In h₀) (N : News h₀ L s.heap news) (T : Top topProg loose mean mg mb h₀) (hk : cs.kind = .function) (hd : dp + 8 ≤ 500) (hu : un + 160 ≤ 5000)
include B F X N T hk hd hu
theorem ct_sum {R : Addr} {vs : List Value} {ns : List Int} {c : Nat} (hR : (R, listOf vs.toArray c) ∈ news) (hi : IntsAre vs ns)
    (ret : ∀ t h' tk', Fr h₀ L h' m → News h₀ L h' news → Q (.int (ckOf ns) t) { s with heap := h', toks := tk' }) :
    wpAny (model PySem.Challenge.rw_iw0015_02.row.prog w) (ktrTop dp un gd cn cs L a ccd cl outer) (call (.ref 717) [.ref R]) Q E s := by
  k_with_none
  (k_with "ite" => (k_closed; first | refine ite_pos (by decide) ?_ | refine ite_neg (by decide) ?_))
  (k_with "execs nil" => (k_here; dsimp only))
  (k_with "execs cons" => (k_here; dsimp only))
  revert X; k_fill; intro X
  refine wpAny_call ?_
  k_dflt (refine' code_def ?k1 ?k2 ?k3 ?k4 ?k5 ?kA ?kF ?kK ?k6 ?k7 ?k8 ?k9 ?kB ?_ ?c2 ?c3 ?c4 ?c5; (case kA => exact rfl); (case kF => exact rfl); (case kK => first | exact rfl | assumption); (case k1 => k_asm); (case k2 => k_asm); (case k3 => k_asm); (case k4 => k_asm); (case k5 => k_asm); (case k6 => k_is); (case k7 => k_is); (case k8 => k_room); (case k9 => exact kp_binds (binds := [(Str.ofString "row", Value.ref R)]) (by k_in) (fun S => by kernel_rfl)); (case c5 => decide); (case kB => exact locs rfl); (case c2 => exact rfl); (case c3 => exact rfl); (case c4 => exact rfl); k_whole; intro g' L' h' FG' F' N' B' X' T'; (try dsimp only); (try k_lift B'); (try k_fold))
  (replace F' : Fr g' L' h' (fun y => List.lookup y [(Str.ofString "row", Value.ref R)]) := F')
  k_steps
  rename Fr _ _ _ _ => F9
  rename News _ _ _ _ => N9
  k_dflt (with_unfolding_all refine' For_invVF F9 ?k1 ?k2 ?_; (case k1 => exact rfl); (case k2 => exact rfl); k_whole)
  k_steps
  k_dflt (refine' iter_ls1 (y := Str.ofString "value") (fun v n => (v.fdiv 2 + v.fmod 2 * 128 + n).fmod 256) (fun _ => True) trivial (fun _ _ _ _ => trivial) ?a ?f ?n ?x ?i ?y ?_ ?_; (case a => exact rfl); (case f => k_asm); (case n => k_asm); (case x => exact hR); (case i => exact hi); (case y => exact rfl); k_whole)
  · intro n8 t8 a8 ta8 h8 tk8 own8 hn8 _ F8 N8
    k_fold
    k_steps
  · intro u8 t8 h8 tk8 F8 N8
    dsimp only
    k_steps
    refine' ret _ _ _ ?f ?n
    case f => k_asm
    case n => k_asm
end

theorem and1 (x : Int) : Builtin.bitAnd x 1 = x.fmod 2 := kbt_maskF x 1
theorem ck_or : ∀ a : Fin 256, Builtin.bitOr ((a.val : Int).fdiv 2) ((a.val : Int).fmod 2 * 128) = (a.val : Int).fdiv 2 + (a.val : Int).fmod 2 * 128 := by decide +kernel
theorem ck_step {a n : Int} (h0 : 0 ≤ a) (h1 : a < 256) : Builtin.bitAnd (Builtin.bitOr (a.fdiv (2 ^ Int.toNat 1)) (a.fmod 2 * 2 ^ Int.toNat 7) + n) 255 = (a.fdiv 2 + a.fmod 2 * 128 + n).fmod 256 := by
  have e := ck_or ⟨a.toNat, by omega⟩
  dsimp only at e
  rw [Int.toNat_of_nonneg h0] at e
  have e2 : Builtin.bitOr (a.fdiv (2 ^ Int.toNat 1)) (a.fmod 2 * 2 ^ Int.toNat 7) = a.fdiv 2 + a.fmod 2 * 128 := e
  rw [e2]
  exact kbt_maskF _ 8
section
variable {w : World} {dp un : Nat} {gd : Option (List Code)} {cn : Str} {cs : Scope} {a : Addr} {ccd : Value} {cl : List (Str × Addr)} {outer : List Env} {A₀ : Around} {base h₀ : Heap} {L : Addr} {m : Str → Option Value} {news : List (Addr × Obj)} {s : Shared} {Q E : Value → Shared → Prop} {loose : List Str} {mean : ExcName → Option Value} {mg mb : Str → Option Value}
  (B : Below A₀ base outer h₀) (F : Fr h₀ L s.heap m) (X : (Mine.KF w.params).In h₀) (N : News h₀ L s.heap news) (T : Top topProg loose mean mg mb h₀) (hk : cs.kind = .function) (hd : dp + 12 ≤ 500) (hu : un + 240 ≤ 5000)
include B F X N T hk hd hu
theorem ct_cksum {S D x : Addr} {b : Array UInt8} {ks : List Int} {t1 t2 t3 : Tok} (hS : (S, instObj 680 D) ∈ news) (hD : (D, dictOf [{ hash := PyData.keyHash w.params (Str.ofString "name"), key := Value.str (Str.ofString "name") t1, val := Value.ref x }, { hash := PyData.keyHash w.params (Str.ofString "encoding"), key := Value.str (Str.ofString "encoding") t2, val := Value.str (Str.ofString "latin-1") 479 }, { hash := PyData.keyHash w.params (Str.ofString "initialized"), key := Value.str (Str.ofString "initialized") t3, val := Value.bool true }] 3) ∈ news) (hx : (x, baOf b) ∈ news) (hb : KBw.bInts b = ks) (hr : ∀ k ∈ ks, 0 ≤ k ∧ k < 256)
    (ret : ∀ t h' tk', Fr h₀ L h' m → News h₀ L h' news → Q (.int (ckOf ks) t) { s with heap := h', toks := tk' }) :
    wpAny (model PySem.Challenge.rw_iw0015_02.row.prog w) (ktrTop dp un gd cn cs L a ccd cl outer) (call (.ref 636) [.ref S]) Q E s := by
  k_with_none
  (k_with "ite" => (k_closed; first | refine ite_pos (by decide) ?_ | refine ite_neg (by decide) ?_))
  (k_with "execs nil" => (k_here; dsimp only))
  (k_with "execs cons" => (k_here; dsimp only))
  revert X; k_fill; intro X
  refine wpAny_call ?_
  k_dflt (refine' code_def ?k1 ?k2 ?k3 ?k4 ?k5 ?kA ?kF ?kK ?k6 ?k7 ?k8 ?k9 ?kB ?_ ?c2 ?c3 ?c4 ?c5; (case kA => exact rfl); (case kF => exact rfl); (case kK => first | exact rfl | assumption); (case k1 => k_asm); (case k2 => k_asm); (case k3 => k_asm); (case k4 => k_asm); (case k5 => k_asm); (case k6 => k_is); (case k7 => k_is); (case k8 => k_room); (case k9 => exact kp_binds (binds := [(Str.ofString "self", Value.ref S)]) (by k_in) (fun S => by kernel_rfl)); (case c5 => decide); (case kB => exact locs rfl); (case c2 => exact rfl); (case c3 => exact rfl); (case c4 => exact rfl); k_whole; intro g' L' h' FG' F' N' B' X' T'; (try dsimp only); (try k_lift B'); (try k_fold))
  (replace F' : Fr g' L' h' (fun y => List.lookup y [(Str.ofString "self", Value.ref S)]) := F')
  k_steps
  k_dflt (refine' iter_ba1 (a₀ := 0) (y := Str.ofString "chksum") (fun v n => (v.fdiv 2 + v.fmod 2 * 128 + n).fmod 256) (fun a => 0 ≤ a ∧ a < 256) ⟨by decide, by decide⟩ (fun _ _ _ _ => ⟨Int.fmod_nonneg_of_pos _ (by decide), Int.fmod_lt_of_pos _ (by decide)⟩) ?a ?f ?n ?x ?i ?y ?_ ?_; (case a => exact rfl); (case f => k_asm); (case n => k_asm); (case x => exact hx); (case i => exact hb); (case y => exact rfl); k_whole)
  k_with "binaryOp LShift int int" => (k_here; (rw [and1]); (have q8 : 0 ≤ a8.fmod 2 ∧ a8.fmod 2 < 2 := ⟨Int.fmod_nonneg_of_pos _ (by decide), Int.fmod_lt_of_pos _ (by decide)⟩); (with_reducible refine lshift_int_small ?_ ?_ ?_ ?_) <;> first | omega | skip)
  · intro n8 t8 a8 ta8 h8 tk8 own8 hn8 ⟨pa8, pb8⟩ F8 N8
    k_fold
    k_steps
    rename Fr _ _ _ _ => F9
    rename News _ _ _ _ => N9
    refine InvEnd.intro F9 N9 (fun p hp => hp) ⟨?_, ?_⟩
    · with_unfolding_all exact ⟨_, congrArg (fun v => some (Value.int v _)) (ck_step pa8 pb8)⟩
    · intro z h1 h2
      simp only [if_neg h1, if_neg h2]
  · intro u8 t8 h8 tk8 F8 N8
    dsimp only
    k_steps
    refine' ret _ _ _ ?f ?n
    case f => k_asm
    case n => k_asm
end

theorem set_lo (v : Int) : Builtin.bitAnd (v.fdiv (2 ^ (16 * 0 : Int).toNat)) 65535 = v.fmod 65536 := by
  have e : v.fdiv (2 ^ (16 * 0 : Int).toNat) = v := by show v.fdiv 1 = v; rw [Int.fdiv_one]
  rw [e]
  exact kbt_maskF v 16
theorem set_hi {v : Int} (h0 : 0 ≤ v ∧ v < 4294967296) : Builtin.bitAnd (v.fdiv (2 ^ (16 * 1 : Int).toNat)) 65535 = v.fdiv 65536 := by
  have e : v.fdiv (2 ^ (16 * 1 : Int).toNat) = v.fdiv 65536 := rfl
  rw [e]
  refine (kbt_maskF _ 16).trans ?_
  rw [Int.fdiv_eq_ediv_of_nonneg _ (by decide), Int.fmod_eq_emod_of_nonneg _ (by decide)]
  show v / 65536 % 65536 = _
  omega
section
variable {w : World} {dp un : Nat} {gd : Option (List Code)} {cn : Str} {cs : Scope} {a : Addr} {ccd : Value} {cl : List (Str × Addr)} {outer : List Env} {A₀ : Around} {base h₀ : Heap} {L : Addr} {m : Str → Option Value} {news : List (Addr × Obj)} {s : Shared} {Q E : Value → Shared → Prop} {loose : List Str} {mean : ExcName → Option Value} {mg mb : Str → Option Value}
  (B : Below A₀ base outer h₀) (F : Fr h₀ L s.heap m) (X : (Mine.KF w.params).In h₀) (N : News h₀ L s.heap news) (T : Top topProg loose mean mg mb h₀) (hk : cs.kind = .function) (hd : dp + 8 ≤ 500) (hu : un + 160 ≤ 5000)
include B F X N T hk hd hu
theorem ct_setc {O D S R : Addr} {news' : List (Addr × Obj)} {v : Int} {tv : Tok} {a0 a1 a2 a3 a4 a5 a6 a7 a8 a9 az : Int} {u0 u1 u2 u3 u4 u5 u6 u7 u8 u9 uz G0 G1 G2 G3 G4 G5 G6 G7 G8 G9 G10 G11 G12 G13 G14 G15 G16 G17 ue : Tok} (hn : news = (O, instObj 482 D) :: (D, dictOf [{ hash := PyData.keyHash w.params (Str.ofString "name"), key := Value.str (Str.ofString "name") G0, val := Value.ref S }, { hash := PyData.keyHash w.params (Str.ofString "attr"), key := Value.str (Str.ofString "attr") G1, val := Value.int a0 u0 }, { hash := PyData.keyHash w.params (Str.ofString "ntres"), key := Value.str (Str.ofString "ntres") G2, val := Value.int a1 u1 }, { hash := PyData.keyHash w.params (Str.ofString "crttimetenth"), key := Value.str (Str.ofString "crttimetenth") G3, val := Value.int a2 u2 }, { hash := PyData.keyHash w.params (Str.ofString "crttime"), key := Value.str (Str.ofString "crttime") G4, val := Value.int a3 u3 }, { hash := PyData.keyHash w.params (Str.ofString "crtdate"), key := Value.str (Str.ofString "crtdate") G5, val := Value.int a4 u4 }, { hash := PyData.keyHash w.params (Str.ofString "lstaccessdate"), key := Value.str (Str.ofString "lstaccessdate") G6, val := Value.int a5 u5 }, { hash := PyData.keyHash w.params (Str.ofString "fstclushi"), key := Value.str (Str.ofString "fstclushi") G7, val := Value.int a6 u6 }, { hash := PyData.keyHash w.params (Str.ofString "wrttime"), key := Value.str (Str.ofString "wrttime") G8, val := Value.int a7 u7 }, { hash := PyData.keyHash w.params (Str.ofString "wrtdate"), key := Value.str (Str.ofString "wrtdate") G9, val := Value.int a8 u8 }, { hash := PyData.keyHash w.params (Str.ofString "fstcluslo"), key := Value.str (Str.ofString "fstcluslo") G10, val := Value.int a9 u9 }, { hash := PyData.keyHash w.params (Str.ofString "filesize"), key := Value.str (Str.ofString "filesize") G11, val := Value.int az uz }, { hash := PyData.keyHash w.params (Str.ofString "_lazy_load"), key := Value.str (Str.ofString "_lazy_load") G12, val := Value.bool false }, { hash := PyData.keyHash w.params (Str.ofString "_fs"), key := Value.str (Str.ofString "_fs") G13, val := Value.none }, { hash := PyData.keyHash w.params (Str.ofString "_parent"), key := Value.str (Str.ofString "_parent") G14, val := Value.none }, { hash := PyData.keyHash w.params (Str.ofString "lfn_entry"), key := Value.str (Str.ofString "lfn_entry") G15, val := Value.none }, { hash := PyData.keyHash w.params (Str.ofString "_dirs"), key := Value.str (Str.ofString "_dirs") G16, val := Value.ref R }, { hash := PyData.keyHash w.params (Str.ofString "_encoding"), key := Value.str (Str.ofString "_encoding") G17, val := Value.str (Str.ofString "latin-1") ue }] 18) :: news') (hne : ∀ p ∈ news', p.1 ≠ D) (hDO : D < O) (h0 : 0 ≤ v ∧ v < 4294967296)
    (ret : ∀ u70 u10 h' tk', Fr h₀ L h' m → News h₀ L h' ((O, instObj 482 D) :: (D, dictOf [{ hash := PyData.keyHash w.params (Str.ofString "name"), key := Value.str (Str.ofString "name") G0, val := Value.ref S }, { hash := PyData.keyHash w.params (Str.ofString "attr"), key := Value.str (Str.ofString "attr") G1, val := Value.int a0 u0 }, { hash := PyData.keyHash w.params (Str.ofString "ntres"), key := Value.str (Str.ofString "ntres") G2, val := Value.int a1 u1 }, { hash := PyData.keyHash w.params (Str.ofString "crttimetenth"), key := Value.str (Str.ofString "crttimetenth") G3, val := Value.int a2 u2 }, { hash := PyData.keyHash w.params (Str.ofString "crttime"), key := Value.str (Str.ofString "crttime") G4, val := Value.int a3 u3 }, { hash := PyData.keyHash w.params (Str.ofString "crtdate"), key := Value.str (Str.ofString "crtdate") G5, val := Value.int a4 u4 }, { hash := PyData.keyHash w.params (Str.ofString "lstaccessdate"), key := Value.str (Str.ofString "lstaccessdate") G6, val := Value.int a5 u5 }, { hash := PyData.keyHash w.params (Str.ofString "fstclushi"), key := Value.str (Str.ofString "fstclushi") G7, val := Value.int (v.fdiv 65536) u70 }, { hash := PyData.keyHash w.params (Str.ofString "wrttime"), key := Value.str (Str.ofString "wrttime") G8, val := Value.int a7 u7 }, { hash := PyData.keyHash w.params (Str.ofString "wrtdate"), key := Value.str (Str.ofString "wrtdate") G9, val := Value.int a8 u8 }, { hash := PyData.keyHash w.params (Str.ofString "fstcluslo"), key := Value.str (Str.ofString "fstcluslo") G10, val := Value.int (v.fmod 65536) u10 }, { hash := PyData.keyHash w.params (Str.ofString "filesize"), key := Value.str (Str.ofString "filesize") G11, val := Value.int az uz }, { hash := PyData.keyHash w.params (Str.ofString "_lazy_load"), key := Value.str (Str.ofString "_lazy_load") G12, val := Value.bool false }, { hash := PyData.keyHash w.params (Str.ofString "_fs"), key := Value.str (Str.ofString "_fs") G13, val := Value.none }, { hash := PyData.keyHash w.params (Str.ofString "_parent"), key := Value.str (Str.ofString "_parent") G14, val := Value.none }, { hash := PyData.keyHash w.params (Str.ofString "lfn_entry"), key := Value.str (Str.ofString "lfn_entry") G15, val := Value.none }, { hash := PyData.keyHash w.params (Str.ofString "_dirs"), key := Value.str (Str.ofString "_dirs") G16, val := Value.ref R }, { hash := PyData.keyHash w.params (Str.ofString "_encoding"), key := Value.str (Str.ofString "_encoding") G17, val := Value.str (Str.ofString "latin-1") ue }] 18) :: news') → Q .none { s with heap := h', toks := tk' }) :
    wpAny (model PySem.Challenge.rw_iw0015_02.row.prog w) (ktrTop dp un gd cn cs L a ccd cl outer) (call (.ref 296) [.ref O, .int v tv]) Q E s := by
  subst hn
  have hDN := ltN hDO
  k_with_none
  (k_with "ite" => (k_closed; first | refine ite_pos (by decide) ?_ | refine ite_neg (by decide) ?_))
  (k_with "execs nil" => (k_here; dsimp only))
  (k_with "execs cons" => (k_here; dsimp only))
  revert X; k_fill; intro X
  refine wpAny_call ?_
  k_dflt (refine' code_def ?k1 ?k2 ?k3 ?k4 ?k5 ?kA ?kF ?kK ?k6 ?k7 ?k8 ?k9 ?kB ?_ ?c2 ?c3 ?c4 ?c5; (case kA => exact rfl); (case kF => exact rfl); (case kK => first | exact rfl | assumption); (case k1 => k_asm); (case k2 => k_asm); (case k3 => k_asm); (case k4 => k_asm); (case k5 => k_asm); (case k6 => k_is); (case k7 => k_is); (case k8 => k_room); (case k9 => exact kp_binds (binds := [(Str.ofString "self", Value.ref O), (Str.ofString "first_cluster", Value.int v tv)]) (by k_in) (fun S => by kernel_rfl)); (case c5 => decide); (case kB => exact locs rfl); (case c2 => exact rfl); (case c3 => exact rfl); (case c4 => exact rfl); k_whole; intro g' L' h' FG' F' N' B' X' T'; (try dsimp only); (try k_lift B'); (try k_fold))
  (replace F' : Fr g' L' h' (fun y => List.lookup y [(Str.ofString "first_cluster", Value.int v tv), (Str.ofString "self", Value.ref O)]) := F')
  k_steps
  rename News h₀ L _ _ => N9
  rw [set_lo, set_hi h0] at N9
  refine' ret _ _ _ _ ?f ?n
  case f => k_asm
  case n => exact N9
theorem ct_size {O D S R : Addr} {news' : List (Addr × Obj)} {v : Int} {tv : Tok} {a0 a1 a2 a3 a4 a5 a6 a7 a8 a9 az : Int} {u0 u1 u2 u3 u4 u5 u6 u7 u8 u9 uz G0 G1 G2 G3 G4 G5 G6 G7 G8 G9 G10 G11 G12 G13 G14 G15 G16 G17 ue : Tok} (hn : news = (O, instObj 482 D) :: (D, dictOf [{ hash := PyData.keyHash w.params (Str.ofString "name"), key := Value.str (Str.ofString "name") G0, val := Value.ref S }, { hash := PyData.keyHash w.params (Str.ofString "attr"), key := Value.str (Str.ofString "attr") G1, val := Value.int a0 u0 }, { hash := PyData.keyHash w.params (Str.ofString "ntres"), key := Value.str (Str.ofString "ntres") G2, val := Value.int a1 u1 }, { hash := PyData.keyHash w.params (Str.ofString "crttimetenth"), key := Value.str (Str.ofString "crttimetenth") G3, val := Value.int a2 u2 }, { hash := PyData.keyHash w.params (Str.ofString "crttime"), key := Value.str (Str.ofString "crttime") G4, val := Value.int a3 u3 }, { hash := PyData.keyHash w.params (Str.ofString "crtdate"), key := Value.str (Str.ofString "crtdate") G5, val := Value.int a4 u4 }, { hash := PyData.keyHash w.params (Str.ofString "lstaccessdate"), key := Value.str (Str.ofString "lstaccessdate") G6, val := Value.int a5 u5 }, { hash := PyData.keyHash w.params (Str.ofString "fstclushi"), key := Value.str (Str.ofString "fstclushi") G7, val := Value.int a6 u6 }, { hash := PyData.keyHash w.params (Str.ofString "wrttime"), key := Value.str (Str.ofString "wrttime") G8, val := Value.int a7 u7 }, { hash := PyData.keyHash w.params (Str.ofString "wrtdate"), key := Value.str (Str.ofString "wrtdate") G9, val := Value.int a8 u8 }, { hash := PyData.keyHash w.params (Str.ofString "fstcluslo"), key := Value.str (Str.ofString "fstcluslo") G10, val := Value.int a9 u9 }, { hash := PyData.keyHash w.params (Str.ofString "filesize"), key := Value.str (Str.ofString "filesize") G11, val := Value.int az uz }, { hash := PyData.keyHash w.params (Str.ofString "_lazy_load"), key := Value.str (Str.ofString "_lazy_load") G12, val := Value.bool false }, { hash := PyData.keyHash w.params (Str.ofString "_fs"), key := Value.str (Str.ofString "_fs") G13, val := Value.none }, { hash := PyData.keyHash w.params (Str.ofString "_parent"), key := Value.str (Str.ofString "_parent") G14, val := Value.none }, { hash := PyData.keyHash w.params (Str.ofString "lfn_entry"), key := Value.str (Str.ofString "lfn_entry") G15, val := Value.none }, { hash := PyData.keyHash w.params (Str.ofString "_dirs"), key := Value.str (Str.ofString "_dirs") G16, val := Value.ref R }, { hash := PyData.keyHash w.params (Str.ofString "_encoding"), key := Value.str (Str.ofString "_encoding") G17, val := Value.str (Str.ofString "latin-1") ue }] 18) :: news') (hne : ∀ p ∈ news', p.1 ≠ D) (hDO : D < O) (h0 : v ≤ 4294967295)
    (ret : ∀ uz0 h' tk', Fr h₀ L h' m → News h₀ L h' ((O, instObj 482 D) :: (D, dictOf [{ hash := PyData.keyHash w.params (Str.ofString "name"), key := Value.str (Str.ofString "name") G0, val := Value.ref S }, { hash := PyData.keyHash w.params (Str.ofString "attr"), key := Value.str (Str.ofString "attr") G1, val := Value.int a0 u0 }, { hash := PyData.keyHash w.params (Str.ofString "ntres"), key := Value.str (Str.ofString "ntres") G2, val := Value.int a1 u1 }, { hash := PyData.keyHash w.params (Str.ofString "crttimetenth"), key := Value.str (Str.ofString "crttimetenth") G3, val := Value.int a2 u2 }, { hash := PyData.keyHash w.params (Str.ofString "crttime"), key := Value.str (Str.ofString "crttime") G4, val := Value.int a3 u3 }, { hash := PyData.keyHash w.params (Str.ofString "crtdate"), key := Value.str (Str.ofString "crtdate") G5, val := Value.int a4 u4 }, { hash := PyData.keyHash w.params (Str.ofString "lstaccessdate"), key := Value.str (Str.ofString "lstaccessdate") G6, val := Value.int a5 u5 }, { hash := PyData.keyHash w.params (Str.ofString "fstclushi"), key := Value.str (Str.ofString "fstclushi") G7, val := Value.int a6 u6 }, { hash := PyData.keyHash w.params (Str.ofString "wrttime"), key := Value.str (Str.ofString "wrttime") G8, val := Value.int a7 u7 }, { hash := PyData.keyHash w.params (Str.ofString "wrtdate"), key := Value.str (Str.ofString "wrtdate") G9, val := Value.int a8 u8 }, { hash := PyData.keyHash w.params (Str.ofString "fstcluslo"), key := Value.str (Str.ofString "fstcluslo") G10, val := Value.int a9 u9 }, { hash := PyData.keyHash w.params (Str.ofString "filesize"), key := Value.str (Str.ofString "filesize") G11, val := Value.int v uz0 }, { hash := PyData.keyHash w.params (Str.ofString "_lazy_load"), key := Value.str (Str.ofString "_lazy_load") G12, val := Value.bool false }, { hash := PyData.keyHash w.params (Str.ofString "_fs"), key := Value.str (Str.ofString "_fs") G13, val := Value.none }, { hash := PyData.keyHash w.params (Str.ofString "_parent"), key := Value.str (Str.ofString "_parent") G14, val := Value.none }, { hash := PyData.keyHash w.params (Str.ofString "lfn_entry"), key := Value.str (Str.ofString "lfn_entry") G15, val := Value.none }, { hash := PyData.keyHash w.params (Str.ofString "_dirs"), key := Value.str (Str.ofString "_dirs") G16, val := Value.ref R }, { hash := PyData.keyHash w.params (Str.ofString "_encoding"), key := Value.str (Str.ofString "_encoding") G17, val := Value.str (Str.ofString "latin-1") ue }] 18) :: news') → Q .none { s with heap := h', toks := tk' }) :
    wpAny (model PySem.Challenge.rw_iw0015_02.row.prog w) (ktrTop dp un gd cn cs L a ccd cl outer) (call (.ref 219) [.ref O, .int v tv]) Q E s := by
  subst hn
  have hDN := ltN hDO
  k_with_none
  (k_with "ite" => (k_closed; first | refine ite_pos (by decide) ?_ | refine ite_neg (by decide) ?_))
  (k_with "execs nil" => (k_here; dsimp only))
  (k_with "execs cons" => (k_here; dsimp only))
  revert X; k_fill; intro X
  refine wpAny_call ?_
  k_dflt (refine' code_def ?k1 ?k2 ?k3 ?k4 ?k5 ?kA ?kF ?kK ?k6 ?k7 ?k8 ?k9 ?kB ?_ ?c2 ?c3 ?c4 ?c5; (case kA => exact rfl); (case kF => exact rfl); (case kK => first | exact rfl | assumption); (case k1 => k_asm); (case k2 => k_asm); (case k3 => k_asm); (case k4 => k_asm); (case k5 => k_asm); (case k6 => k_is); (case k7 => k_is); (case k8 => k_room); (case k9 => exact kp_binds (binds := [(Str.ofString "self", Value.ref O), (Str.ofString "size", Value.int v tv)]) (by k_in) (fun S => by kernel_rfl)); (case c5 => decide); (case kB => exact locs rfl); (case c2 => exact rfl); (case c3 => exact rfl); (case c4 => exact rfl); k_whole; intro g' L' h' FG' F' N' B' X' T'; (try dsimp only); (try k_lift B'); (try k_fold))
  (replace F' : Fr g' L' h' (fun y => List.lookup y [(Str.ofString "size", Value.int v tv), (Str.ofString "self", Value.ref O)]) := F')
  k_steps
  rename News h₀ L _ _ => N9
  refine' ret _ _ _ ?f ?n
  case f => k_asm
  case n => exact N9
end

def RaisedV (K : Frag) (C : Addr) (E : Value → Shared → Prop) (v : Value) (s₁ : Shared) : Prop :=
  ∃ e d t, v = .ref e ∧ K.In s₁.heap ∧ s₁.heap.get? e = some { cls := .ref C, dict := some d, data := .fields #[.ref t, .none, .none, .none, .bool false, .none] } ∧ E (.ref e) s₁
section
variable {M : Model} {A : Around} {E : Value → Shared → Prop} {s : Shared} {env : Env} {K : Frag} {C : Addr}
variable {nm q : Str} {N : Addr} {bs bm : List Value} {hdct : Bool} {sn : List Str} {sub : List Value} {ab : Bool} {col : Option Bool} {dd : Option Addr} {k0 k1 k2 k3 k5 : Option Value} {newId : String}
theorem xraise {x : Sem Value} {Q : Flow → Shared → Prop} (hCK : K.lookup C = some (excClassObj nm q C N bs bm hdct sn sub ab col dd k0 k1 k2 k3 k5 newId)) (hbase : bm.contains (.type "BaseException") = true) (hh : A.handled = none)
    (h : wpAny M A x (RaisedV K C E) E s) : wpAny M A (raiseStmt env (some x) none) Q E s := by
  have hcB : (Value.ref C :: bm).contains (.type "BaseException") = true := by rw [List.contains_cons, hbase, Bool.or_true]
  unfold raiseStmt
  refine wpAny_bind (wpAny_mono h (fun v s₁ h₁ => ?_) fun _ _ x => x)
  obtain ⟨e, dct, t, rfl, hK, he, hE⟩ := h₁
  have hC := hK _ _ hCK
  obtain ⟨hp, g, d, tk, os⟩ := s₁
  repeat (first | with_reducible refine wpAny_loadPart_at he ?_ | with_reducible refine wpAny_loadPart_at hC ?_ | (with_reducible refine wpAny_isSubtype_exc hC ?_; rw [hcB]) | wp_step)
  exact wpAny_raiseNew_none hh hE
theorem xraise_stmt {x : Expr} {pos : Pos} {Q : Flow → Shared → Prop} (hCK : K.lookup C = some (excClassObj nm q C N bs bm hdct sn sub ab col dd k0 k1 k2 k3 k5 newId)) (hbase : bm.contains (.type "BaseException") = true) (hh : A.handled = none)
    (h : wpAny M A (eval x env) (RaisedV K C E) E s) : wpAny M A (exec (.Raise (some x) none pos) env) Q E s := by
  rw [arm_exec_Raise]
  first
    | exact wpAny_bind (wpAny_standAt (xraise hCK hbase hh (wpAny_bind (wpAny_mono h (fun v s₁ h₁ => wpAny_bind (wpAny_standAt (wpAny_pure h₁))) fun _ _ x => x))))
    | (simp only [evalOpt, Option.map]; exact wpAny_bind (wpAny_standAt (xraise hCK hbase hh (wpAny_bind (wpAny_mono h (fun v s₁ h₁ => wpAny_bind (wpAny_standAt (wpAny_pure h₁))) fun _ _ x => x)))))
    | (show wpAny M A (do standAt pos; raiseStmt env (some (do let v ← eval x env; standAt pos; pure v)) none) Q E s; exact wpAny_bind (wpAny_standAt (xraise hCK hbase hh (wpAny_bind (wpAny_mono h (fun v s₁ h₁ => wpAny_bind (wpAny_standAt (wpAny_pure h₁))) fun _ _ x => x)))))
end
section
variable {w : World} {dp un : Nat} {gd : Option (List Code)} {cn : Str} {cs : Scope} {a : Addr} {ccd : Value} {cl : List (Str × Addr)} {outer : List Env} {A₀ : Around} {base h₀ : Heap} {L : Addr} {m : Str → Option Value} {news : List (Addr × Obj)} {s : Shared} {Q E : Value → Shared → Prop} {loose : List Str} {mean : ExcName → Option Value} {mg mb : Str → Option Value}
  (B : Below A₀ base outer h₀) (F : Fr h₀ L s.heap m) (X : (Mine.KF w.params).In h₀) (N : News h₀ L s.heap news) (T : Top topProg loose mean mg mb h₀) (hk : cs.kind = .function) (hd : dp + 16 ≤ 500) (hu : un + 320 ≤ 5000)
include B F X N T hk hd hu
theorem ct_xnew {x : Str} {tx t7 : Tok} {kw : List (Str × Value)} (hkw : kw = [(Str.ofString "errno", .int 7 t7)])
    (ret : ∀ e d oD es ep t1 h' tk', Fr h₀ L h' m → News h₀ L h' ((d, oD) :: (e, ({ cls := .ref 128, dict := some d, data := .fields #[.ref t1, .none, .none, .none, .bool false, .none] } : Obj)) :: news) → (∀ p ∈ news, p.1 < d) → (∀ p ∈ news, p.1 ≠ e) → e < d → oD.data = .dict es ep → StrKeys es → (∀ y, nsFind es y = if y = Str.ofString "errno" then some (.int 7 t7) else none) → Q (.ref e) { s with heap := h', toks := tk' }) :
    wpAny (model PySem.Challenge.rw_iw0015_02.row.prog w) (ktrTop dp un gd cn cs L a ccd cl outer) (call (.ref 128) [.str x tx] kw) Q E s := by
  revert X; k_fill; intro X
  have X₁ := X.keeps F.keep
  obtain ⟨hp, g, dr, tk, os⟩ := s
  refine xkw_call (K := KF w.params) PySem.F.excBase_Exception X₁ (C := 128) rfl (by k_is) (fI := 125) rfl rfl (fun h' e hm => ?_) (by rw [sizeLine_eq]; show 1 ≤ 16777216; omega)
  obtain ⟨t1, he, _, _⟩ := hm.there
  have hne : ∀ p ∈ news, p.1 ≠ e := fun p hp z => by
    have := (N p hp).1
    rw [z, hm.new] at this
    cases this
  have F' : Fr h₀ L h' m := F.keeps hm.keeps
  have N' : News h₀ L h' ((e, { cls := .ref 128, data := .fields #[.ref t1, .none, .none, .none, .bool false, .none] }) :: news) := fun p hp => by
    rcases List.mem_cons.mp hp with rfl | hp
    · refine ⟨he, fun z => ?_, ?_⟩
      · obtain ⟨oL, _, _, hL, _⟩ := F.ns
        have := hm.new
        rw [show e = L from z, hL] at this
        cases this
      · cases z : h₀.get? e with
        | none => rfl
        | some o =>
          have := hm.new
          rw [F.keep _ _ z] at this
          cases this
    · exact ⟨hm.keeps _ _ (N p hp).1, (N p hp).2⟩
  k_dflt (refine' ct_xinit ?kB ?kF ?kX ?kN ?kT ?kk ?kd ?ku rfl hne hkw ?_; (case kB => k_asm); (case kF => k_asm); (case kX => k_asm); (case kN => k_asm); (case kT => k_asm); (case kk => first | exact rfl | assumption); (case kd => show dp + 1 + 8 ≤ 500; omega); (case ku => show un + 1 + 160 ≤ 5000; omega))
  intro d oD es ep t2 h9 tk9 F9 N9 l9 e9 dd9 ss9 nn9
  exact ⟨rfl, ret e d oD es ep t2 h9 tk9 F9 N9 l9 hne e9 dd9 ss9 nn9⟩
end

theorem join_end {M : Model} {A : Around} {E : Value → Shared → Prop} {s : Shared} {env : Env} {out : Str} {Q : Value → Shared → Prop} (hsz : out.length ≤ sizeLine) (h : ∀ x t k, Q (.str x t) { s with toks := k }) : wpAny M A (joinParts out (evalEach [] env)) Q E s := joinParts_nil (h _ _ _) hsz
theorem lit_a : (Str.ofString "Specified file size ").length ≤ 100 := by rw [PySem.ofString_length]; decide
theorem lit_b : (Str.ofString " too large for FAT-based filesystems.").length ≤ 100 := by rw [PySem.ofString_length]; decide
theorem news_swap {h₀ h : Heap} {L : Addr} {a b : Addr × Obj} {l : List (Addr × Obj)} (N : News h₀ L h (a :: b :: l)) : News h₀ L h (b :: a :: l) := fun p hp => N p (by
  rcases List.mem_cons.mp hp with rfl | hp
  · exact .tail _ (.head _)
  rcases List.mem_cons.mp hp with rfl | hp
  · exact .head _
  exact .tail _ (.tail _ hp))
theorem int_len {v : Int} (h : 4294967295 < v ∧ v < 10 ^ 30) : (Str.ofString (toString v)).length ≤ 31 := by
  rw [PySem.ofString_length]
  exact int_text_length_le10 (k := 30) (by decide) (by have := h.1; have := h.2; omega)
section
variable {w : World} {dp un : Nat} {gd : Option (List Code)} {cn : Str} {cs : Scope} {a : Addr} {ccd : Value} {cl : List (Str × Addr)} {outer : List Env} {A₀ : Around} {base h₀ : Heap} {L : Addr} {m : Str → Option Value} {news : List (Addr × Obj)} {s : Shared} {Q E : Value → Shared → Prop} {loose : List Str} {mean : ExcName → Option Value} {mg mb : Str → Option Value}
  (B : Below A₀ base outer h₀) (F : Fr h₀ L s.heap m) (X : (Mine.KF w.params).In h₀) (N : News h₀ L s.heap news) (T : Top topProg loose mean mg mb h₀) (hk : cs.kind = .function) (hd : dp + 24 ≤ 500) (hu : un + 480 ≤ 5000)
include B F X N T hk hd hu
theorem ct_size_raise {O D S R : Addr} {v : Int} {tv : Tok} {a0 a1 a2 a3 a4 a5 a6 a7 a8 a9 az : Int} {u0 u1 u2 u3 u4 u5 u6 u7 u8 u9 uz G0 G1 G2 G3 G4 G5 G6 G7 G8 G9 G10 G11 G12 G13 G14 G15 G16 G17 ue : Tok} (hO : (O, instObj 482 D) ∈ news) (hD : (D, dictOf [{ hash := PyData.keyHash w.params (Str.ofString "name"), key := Value.str (Str.ofString "name") G0, val := Value.ref S }, { hash := PyData.keyHash w.params (Str.ofString "attr"), key := Value.str (Str.ofString "attr") G1, val := Value.int a0 u0 }, { hash := PyData.keyHash w.params (Str.ofString "ntres"), key := Value.str (Str.ofString "ntres") G2, val := Value.int a1 u1 }, { hash := PyData.keyHash w.params (Str.ofString "crttimetenth"), key := Value.str (Str.ofString "crttimetenth") G3, val := Value.int a2 u2 }, { hash := PyData.keyHash w.params (Str.ofString "crttime"), key := Value.str (Str.ofString "crttime") G4, val := Value.int a3 u3 }, { hash := PyData.keyHash w.params (Str.ofString "crtdate"), key := Value.str (Str.ofString "crtdate") G5, val := Value.int a4 u4 }, { hash := PyData.keyHash w.params (Str.ofString "lstaccessdate"), key := Value.str (Str.ofString "lstaccessdate") G6, val := Value.int a5 u5 }, { hash := PyData.keyHash w.params (Str.ofString "fstclushi"), key := Value.str (Str.ofString "fstclushi") G7, val := Value.int a6 u6 }, { hash := PyData.keyHash w.params (Str.ofString "wrttime"), key := Value.str (Str.ofString "wrttime") G8, val := Value.int a7 u7 }, { hash := PyData.keyHash w.params (Str.ofString "wrtdate"), key := Value.str (Str.ofString "wrtdate") G9, val := Value.int a8 u8 }, { hash := PyData.keyHash w.params (Str.ofString "fstcluslo"), key := Value.str (Str.ofString "fstcluslo") G10, val := Value.int a9 u9 }, { hash := PyData.keyHash w.params (Str.ofString "filesize"), key := Value.str (Str.ofString "filesize") G11, val := Value.int az uz }, { hash := PyData.keyHash w.params (Str.ofString "_lazy_load"), key := Value.str (Str.ofString "_lazy_load") G12, val := Value.bool false }, { hash := PyData.keyHash w.params (Str.ofString "_fs"), key := Value.str (Str.ofString "_fs") G13, val := Value.none }, { hash := PyData.keyHash w.params (Str.ofString "_parent"), key := Value.str (Str.ofString "_parent") G14, val := Value.none }, { hash := PyData.keyHash w.params (Str.ofString "lfn_entry"), key := Value.str (Str.ofString "lfn_entry") G15, val := Value.none }, { hash := PyData.keyHash w.params (Str.ofString "_dirs"), key := Value.str (Str.ofString "_dirs") G16, val := Value.ref R }, { hash := PyData.keyHash w.params (Str.ofString "_encoding"), key := Value.str (Str.ofString "_encoding") G17, val := Value.str (Str.ofString "latin-1") ue }] 18) ∈ news) (h0 : 4294967295 < v ∧ v < 10 ^ 30)
    (ret : ∀ e d oD es ep t7 h' tk', RaisedD base (envX cn cs L a ccd cl :: outer) e d (.ref 128) ((d, oD) :: news) h' → h₀.UpToSlots h' → h'.Ns L m → d ≠ L → oD.data = .dict es ep → StrKeys es → (∀ y, nsFind es y = if y = Str.ofString "errno" then some (.int 7 t7) else none) → E (.ref e) { s with heap := h', toks := tk' }) :
    wpAny (model PySem.Challenge.rw_iw0015_02.row.prog w) (ktrTop dp un gd cn cs L a ccd cl outer) (call (.ref 219) [.ref O, .int v tv]) Q E s := by
  have hlen := int_len h0
  k_with_none
  (k_with "ite" => (k_closed; first | refine ite_pos (by decide) ?_ | refine ite_neg (by decide) ?_))
  (k_with "execs nil" => (k_here; dsimp only))
  (k_with "execs cons" => (k_here; dsimp only))
  (k_with "exec Raise some none" => (k_here; k_dflt (refine xraise_stmt (K := KF w.params) (C := 128) rfl rfl rfl ?_)))
  (k_with "joinParts" => (k_here; (with_reducible show wpAny _ _ (joinParts _ (evalEach [] _)) _ _ _); k_dflt (refine' join_end ?z ?_; (case z => (simp only [Str.length_append, show Str.empty.length = 0 from rfl]; rw [sizeLine_eq]; have q1 := lit_a; have q2 := lit_b; omega)); k_whole); intro x9 t9 k9))
  revert X; k_fill; intro X
  refine wpAny_call ?_
  k_dflt (refine' code_def ?k1 ?k2 ?k3 ?k4 ?k5 ?kA ?kF ?kK ?k6 ?k7 ?k8 ?k9 ?kB ?_ ?c2 ?c3 ?c4 ?c5; (case kA => exact rfl); (case kF => exact rfl); (case kK => first | exact rfl | assumption); (case k1 => k_asm); (case k2 => k_asm); (case k3 => k_asm); (case k4 => k_asm); (case k5 => k_asm); (case k6 => k_is); (case k7 => k_is); (case k8 => k_room); (case k9 => exact kp_binds (binds := [(Str.ofString "self", Value.ref O), (Str.ofString "size", Value.int v tv)]) (by k_in) (fun S => by kernel_rfl)); (case c5 => decide); (case kB => exact locs rfl); (case c2 => exact rfl); (case c3 => exact rfl); (case c4 => exact rfl); k_whole; intro g' L' h' FG' F' N' B' X' T'; (try dsimp only); (try k_lift B'); (try k_fold))
  (replace F' : Fr g' L' h' (fun y => List.lookup y [(Str.ofString "size", Value.int v tv), (Str.ofString "self", Value.ref O)]) := F')
  k_steps
  k_dflt (refine' ct_xnew ?kB ?kF ?kX ?kN ?kT ?kk ?kd ?ku (by with_unfolding_all rfl) ?_; (case kB => k_asm); (case kF => k_asm); (case kX => k_asm); (case kN => k_asm); (case kT => k_asm); (case kk => first | exact rfl | assumption); (case kd => k_room); (case ku => k_units))
  intro e9 d9 oD9 es9 ep9 t19 h9 tk9 F9 N9 l9 ne9 e9d dd9 ss9 nn9
  refine ⟨e9, d9, t19, rfl, X'.keeps F9.keep, (N9 _ (.tail _ (.head _))).1, ?_⟩
  have ne9' : ∀ p ∈ (d9, oD9) :: news, p.1 ≠ e9 := fun p hp => by
    rcases List.mem_cons.mp hp with rfl | hp
    · exact Nat.ne_of_gt e9d
    · exact ne9 p hp
  have dL9 : d9 ≠ L := fun z => by
    have h1 := (N9 _ (.head _)).2.2
    obtain ⟨oL, _, _, hL, _⟩ := FG'.ns
    rw [show (d9, oD9).1 = L from z, hL] at h1
    cases h1
  show wpAny _ _ (leaving _ (.ref e9)) _ _ _
  k_dflt (refine leave_D0 B' F9 (news_swap N9) ne9' rfl rfl rfl rfl rfl (fun h8 R8 u8 => ?_) rfl)
  exact ret e9 d9 oD9 es9 ep9 _ h8 _ R8 ((Heap.UpToSlots.of_keeps FG'.keep).trans u8) (u8.ns FG'.ns) dL9 dd9 ss9 nn9
theorem ct_size_raise11 {O D S : Addr} {v : Int} {tv : Tok} {a0 a1 a2 a3 a4 a5 a6 a7 a8 a9 : Int} {u0 u1 u2 u3 u4 u5 u6 u7 u8 u9 G0 G1 G2 G3 G4 G5 G6 G7 G8 G9 G10 : Tok} (hO : (O, instObj 482 D) ∈ news) (hD : (D, dictOf [{ hash := PyData.keyHash w.params (Str.ofString "name"), key := Value.str (Str.ofString "name") G0, val := Value.ref S }, { hash := PyData.keyHash w.params (Str.ofString "attr"), key := Value.str (Str.ofString "attr") G1, val := Value.int a0 u0 }, { hash := PyData.keyHash w.params (Str.ofString "ntres"), key := Value.str (Str.ofString "ntres") G2, val := Value.int a1 u1 }, { hash := PyData.keyHash w.params (Str.ofString "crttimetenth"), key := Value.str (Str.ofString "crttimetenth") G3, val := Value.int a2 u2 }, { hash := PyData.keyHash w.params (Str.ofString "crttime"), key := Value.str (Str.ofString "crttime") G4, val := Value.int a3 u3 }, { hash := PyData.keyHash w.params (Str.ofString "crtdate"), key := Value.str (Str.ofString "crtdate") G5, val := Value.int a4 u4 }, { hash := PyData.keyHash w.params (Str.ofString "lstaccessdate"), key := Value.str (Str.ofString "lstaccessdate") G6, val := Value.int a5 u5 }, { hash := PyData.keyHash w.params (Str.ofString "fstclushi"), key := Value.str (Str.ofString "fstclushi") G7, val := Value.int a6 u6 }, { hash := PyData.keyHash w.params (Str.ofString "wrttime"), key := Value.str (Str.ofString "wrttime") G8, val := Value.int a7 u7 }, { hash := PyData.keyHash w.params (Str.ofString "wrtdate"), key := Value.str (Str.ofString "wrtdate") G9, val := Value.int a8 u8 }, { hash := PyData.keyHash w.params (Str.ofString "fstcluslo"), key := Value.str (Str.ofString "fstcluslo") G10, val := Value.int a9 u9 }] 11) ∈ news) (h0 : 4294967295 < v ∧ v < 10 ^ 30)
    (ret : ∀ e d oD es ep t7 h' tk', RaisedD base (envX cn cs L a ccd cl :: outer) e d (.ref 128) ((d, oD) :: news) h' → h₀.UpToSlots h' → h'.Ns L m → d ≠ L → oD.data = .dict es ep → StrKeys es → (∀ y, nsFind es y = if y = Str.ofString "errno" then some (.int 7 t7) else none) → E (.ref e) { s with heap := h', toks := tk' }) :
    wpAny (model PySem.Challenge.rw_iw0015_02.row.prog w) (ktrTop dp un gd cn cs L a ccd cl outer) (call (.ref 219) [.ref O, .int v tv]) Q E s := by
  have hlen := int_len h0
  k_with_none
  (k_with "ite" => (k_closed; first | refine ite_pos (by decide) ?_ | refine ite_neg (by decide) ?_))
  (k_with "execs nil" => (k_here; dsimp only))
  (k_with "execs cons" => (k_here; dsimp only))
  (k_with "exec Raise some none" => (k_here; k_dflt (refine xraise_stmt (K := KF w.params) (C := 128) rfl rfl rfl ?_)))
  (k_with "joinParts" => (k_here; (with_reducible show wpAny _ _ (joinParts _ (evalEach [] _)) _ _ _); k_dflt (refine' join_end ?z ?_; (case z => (simp only [Str.length_append, show Str.empty.length = 0 from rfl]; rw [sizeLine_eq]; have q1 := lit_a; have q2 := lit_b; omega)); k_whole); intro x9 t9 k9))
  revert X; k_fill; intro X
  refine wpAny_call ?_
  k_dflt (refine' code_def ?k1 ?k2 ?k3 ?k4 ?k5 ?kA ?kF ?kK ?k6 ?k7 ?k8 ?k9 ?kB ?_ ?c2 ?c3 ?c4 ?c5; (case kA => exact rfl); (case kF => exact rfl); (case kK => first | exact rfl | assumption); (case k1 => k_asm); (case k2 => k_asm); (case k3 => k_asm); (case k4 => k_asm); (case k5 => k_asm); (case k6 => k_is); (case k7 => k_is); (case k8 => k_room); (case k9 => exact kp_binds (binds := [(Str.ofString "self", Value.ref O), (Str.ofString "size", Value.int v tv)]) (by k_in) (fun S => by kernel_rfl)); (case c5 => decide); (case kB => exact locs rfl); (case c2 => exact rfl); (case c3 => exact rfl); (case c4 => exact rfl); k_whole; intro g' L' h' FG' F' N' B' X' T'; (try dsimp only); (try k_lift B'); (try k_fold))
  (replace F' : Fr g' L' h' (fun y => List.lookup y [(Str.ofString "size", Value.int v tv), (Str.ofString "self", Value.ref O)]) := F')
  k_steps
  k_dflt (refine' ct_xnew ?kB ?kF ?kX ?kN ?kT ?kk ?kd ?ku (by with_unfolding_all rfl) ?_; (case kB => k_asm); (case kF => k_asm); (case kX => k_asm); (case kN => k_asm); (case kT => k_asm); (case kk => first | exact rfl | assumption); (case kd => k_room); (case ku => k_units))
  intro e9 d9 oD9 es9 ep9 t19 h9 tk9 F9 N9 l9 ne9 e9d dd9 ss9 nn9
  refine ⟨e9, d9, t19, rfl, X'.keeps F9.keep, (N9 _ (.tail _ (.head _))).1, ?_⟩
  have ne9' : ∀ p ∈ (d9, oD9) :: news, p.1 ≠ e9 := fun p hp => by
    rcases List.mem_cons.mp hp with rfl | hp
    · exact Nat.ne_of_gt e9d
    · exact ne9 p hp
  have dL9 : d9 ≠ L := fun z => by
    have h1 := (N9 _ (.head _)).2.2
    obtain ⟨oL, _, _, hL, _⟩ := FG'.ns
    rw [show (d9, oD9).1 = L from z, hL] at h1
    cases h1
  show wpAny _ _ (leaving _ (.ref e9)) _ _ _
  k_dflt (refine leave_D0 B' F9 (news_swap N9) ne9' rfl rfl rfl rfl rfl (fun h8 R8 u8 => ?_) rfl)
  exact ret e9 d9 oD9 es9 ep9 _ h8 _ R8 ((Heap.UpToSlots.of_keeps FG'.keep).trans u8) (u8.ns FG'.ns) dL9 dd9 ss9 nn9
end

section
variable {w : World} {dp un : Nat} {gd : Option (List Code)} {cn : Str} {cs : Scope} {a : Addr} {ccd : Value} {cl : List (Str × Addr)} {outer : List Env} {A₀ : Around} {base h₀ : Heap} {L : Addr} {m : Str → Option Value} {news : List (Addr × Obj)} {s : Shared} {Q E : Value → Shared → Prop} {loose : List Str} {mean : ExcName → Option Value} {mg mb : Str → Option Value}
  (B : Below A₀ base outer h₀) (F : Fr h₀ L s.heap m) (X : (Mine.KF w.params).In h₀) (N : News h₀ L s.heap news) (T : Top topProg loose mean mg mb h₀) (hk : cs.kind = .function) (hd : dp + 28 ≤ 500) (hu : un + 560 ≤ 5000)
include B F X N T hk hd hu
theorem ct_sized_ok {O D S R : Addr} {news' : List (Addr × Obj)} {v : Int} {tv : Tok} {a0 a1 a2 a3 a4 a5 a6 a7 a8 a9 az : Int} {u0 u1 u2 u3 u4 u5 u6 u7 u8 u9 uz G0 G1 G2 G3 G4 G5 G6 G7 G8 G9 G10 G11 G12 G13 G14 G15 G16 G17 ue : Tok} (hn : news = (O, instObj 482 D) :: (D, dictOf [{ hash := PyData.keyHash w.params (Str.ofString "name"), key := Value.str (Str.ofString "name") G0, val := Value.ref S }, { hash := PyData.keyHash w.params (Str.ofString "attr"), key := Value.str (Str.ofString "attr") G1, val := Value.int a0 u0 }, { hash := PyData.keyHash w.params (Str.ofString "ntres"), key := Value.str (Str.ofString "ntres") G2, val := Value.int a1 u1 }, { hash := PyData.keyHash w.params (Str.ofString "crttimetenth"), key := Value.str (Str.ofString "crttimetenth") G3, val := Value.int a2 u2 }, { hash := PyData.keyHash w.params (Str.ofString "crttime"), key := Value.str (Str.ofString "crttime") G4, val := Value.int a3 u3 }, { hash := PyData.keyHash w.params (Str.ofString "crtdate"), key := Value.str (Str.ofString "crtdate") G5, val := Value.int a4 u4 }, { hash := PyData.keyHash w.params (Str.ofString "lstaccessdate"), key := Value.str (Str.ofString "lstaccessdate") G6, val := Value.int a5 u5 }, { hash := PyData.keyHash w.params (Str.ofString "fstclushi"), key := Value.str (Str.ofString "fstclushi") G7, val := Value.int a6 u6 }, { hash := PyData.keyHash w.params (Str.ofString "wrttime"), key := Value.str (Str.ofString "wrttime") G8, val := Value.int a7 u7 }, { hash := PyData.keyHash w.params (Str.ofString "wrtdate"), key := Value.str (Str.ofString "wrtdate") G9, val := Value.int a8 u8 }, { hash := PyData.keyHash w.params (Str.ofString "fstcluslo"), key := Value.str (Str.ofString "fstcluslo") G10, val := Value.int a9 u9 }, { hash := PyData.keyHash w.params (Str.ofString "filesize"), key := Value.str (Str.ofString "filesize") G11, val := Value.int az uz }, { hash := PyData.keyHash w.params (Str.ofString "_lazy_load"), key := Value.str (Str.ofString "_lazy_load") G12, val := Value.bool false }, { hash := PyData.keyHash w.params (Str.ofString "_fs"), key := Value.str (Str.ofString "_fs") G13, val := Value.none }, { hash := PyData.keyHash w.params (Str.ofString "_parent"), key := Value.str (Str.ofString "_parent") G14, val := Value.none }, { hash := PyData.keyHash w.params (Str.ofString "lfn_entry"), key := Value.str (Str.ofString "lfn_entry") G15, val := Value.none }, { hash := PyData.keyHash w.params (Str.ofString "_dirs"), key := Value.str (Str.ofString "_dirs") G16, val := Value.ref R }, { hash := PyData.keyHash w.params (Str.ofString "_encoding"), key := Value.str (Str.ofString "_encoding") G17, val := Value.str (Str.ofString "latin-1") ue }] 18) :: news') (hne : ∀ p ∈ news', p.1 ≠ D) (hDO : D < O) (h0 : v ≤ 4294967295)
    (ret : ∀ uz0 t0 h' tk', Fr h₀ L h' m → News h₀ L h' ((O, instObj 482 D) :: (D, dictOf [{ hash := PyData.keyHash w.params (Str.ofString "name"), key := Value.str (Str.ofString "name") G0, val := Value.ref S }, { hash := PyData.keyHash w.params (Str.ofString "attr"), key := Value.str (Str.ofString "attr") G1, val := Value.int a0 u0 }, { hash := PyData.keyHash w.params (Str.ofString "ntres"), key := Value.str (Str.ofString "ntres") G2, val := Value.int a1 u1 }, { hash := PyData.keyHash w.params (Str.ofString "crttimetenth"), key := Value.str (Str.ofString "crttimetenth") G3, val := Value.int a2 u2 }, { hash := PyData.keyHash w.params (Str.ofString "crttime"), key := Value.str (Str.ofString "crttime") G4, val := Value.int a3 u3 }, { hash := PyData.keyHash w.params (Str.ofString "crtdate"), key := Value.str (Str.ofString "crtdate") G5, val := Value.int a4 u4 }, { hash := PyData.keyHash w.params (Str.ofString "lstaccessdate"), key := Value.str (Str.ofString "lstaccessdate") G6, val := Value.int a5 u5 }, { hash := PyData.keyHash w.params (Str.ofString "fstclushi"), key := Value.str (Str.ofString "fstclushi") G7, val := Value.int a6 u6 }, { hash := PyData.keyHash w.params (Str.ofString "wrttime"), key := Value.str (Str.ofString "wrttime") G8, val := Value.int a7 u7 }, { hash := PyData.keyHash w.params (Str.ofString "wrtdate"), key := Value.str (Str.ofString "wrtdate") G9, val := Value.int a8 u8 }, { hash := PyData.keyHash w.params (Str.ofString "fstcluslo"), key := Value.str (Str.ofString "fstcluslo") G10, val := Value.int a9 u9 }, { hash := PyData.keyHash w.params (Str.ofString "filesize"), key := Value.str (Str.ofString "filesize") G11, val := Value.int v uz0 }, { hash := PyData.keyHash w.params (Str.ofString "_lazy_load"), key := Value.str (Str.ofString "_lazy_load") G12, val := Value.bool false }, { hash := PyData.keyHash w.params (Str.ofString "_fs"), key := Value.str (Str.ofString "_fs") G13, val := Value.none }, { hash := PyData.keyHash w.params (Str.ofString "_parent"), key := Value.str (Str.ofString "_parent") G14, val := Value.none }, { hash := PyData.keyHash w.params (Str.ofString "lfn_entry"), key := Value.str (Str.ofString "lfn_entry") G15, val := Value.none }, { hash := PyData.keyHash w.params (Str.ofString "_dirs"), key := Value.str (Str.ofString "_dirs") G16, val := Value.ref R }, { hash := PyData.keyHash w.params (Str.ofString "_encoding"), key := Value.str (Str.ofString "_encoding") G17, val := Value.str (Str.ofString "latin-1") ue }] 18) :: news') → Q (.int 0 t0) { s with heap := h', toks := tk' }) :
    wpAny (model PySem.Challenge.rw_iw0015_02.row.prog w) (ktrTop dp un gd cn cs L a ccd cl outer) (call (.ref 738) [.ref O, .int v tv]) Q E s := by
  subst hn
  have hDN := ltN hDO
  k_with_none
  (k_with "ite" => (k_closed; first | refine ite_pos (by decide) ?_ | refine ite_neg (by decide) ?_))
  (k_with "execs nil" => (k_here; dsimp only))
  (k_with "execs cons" => (k_here; dsimp only))
  (k_with "call ref" => (k_here; (with_reducible show wpAny _ _ (call (Value.ref (nat_lit 219)) _) _ _ _); k_dflt (refine' ct_size ?kB ?kF ?kX ?kN ?kT ?kk ?kd ?ku ?e0 ?e1 ?e2 ?e3 ?_; (case kB => k_asm); (case kF => k_asm); (case kX => k_asm); (case kN => k_asm); (case kT => k_asm); (case kk => first | exact rfl | assumption); (case kd => k_room); (case ku => k_units); (case e0 => rfl); (case e1 => k_all); (case e2 => omega); (case e3 => omega); k_whole); intro uz9 h9 tk9 F9 N9; (try dsimp only); (try k_fold)))
  revert X; k_fill; intro X
  refine wpAny_call ?_
  k_dflt (refine' code_def ?k1 ?k2 ?k3 ?k4 ?k5 ?kA ?kF ?kK ?k6 ?k7 ?k8 ?k9 ?kB ?_ ?c2 ?c3 ?c4 ?c5; (case kA => exact rfl); (case kF => exact rfl); (case kK => first | exact rfl | assumption); (case k1 => k_asm); (case k2 => k_asm); (case k3 => k_asm); (case k4 => k_asm); (case k5 => k_asm); (case k6 => k_is); (case k7 => k_is); (case k8 => k_room); (case k9 => exact kp_binds (binds := [(Str.ofString "one", Value.ref O), (Str.ofString "size", Value.int v tv)]) (by k_in) (fun S => by kernel_rfl)); (case c5 => decide); (case kB => exact locs rfl); (case c2 => exact rfl); (case c3 => exact rfl); (case c4 => exact rfl); k_whole; intro g' L' h' FG' F' N' B' X' T'; (try dsimp only); (try k_lift B'); (try k_fold))
  (replace F' : Fr g' L' h' (fun y => List.lookup y [(Str.ofString "size", Value.int v tv), (Str.ofString "one", Value.ref O)]) := F')
  k_steps
  rename News h₀ L _ _ => N9
  refine' ret _ _ _ _ ?fx ?nx
  case fx => k_asm
  case nx => exact N9
end

theorem lookIn_of {es : Array DictEntry} {ep : Nat} {oD : Obj} {name : Str} {v : Value} (hd : oD.data = .dict es ep) (h : nsFind es name = some v) : lookIn name oD = some (some v) := by
  unfold lookIn
  rw [hd]
  unfold nsFind findBy at h
  rw [← Array.find?_toList] at h
  dsimp only
  cases q : es.toList.find? (fun e => e.key.isStr name) with
  | none => rw [q] at h; cases h
  | some e => rw [q] at h; cases h; rfl
open Builtin Builtin.ObjectAttr in
/-- an attribute of an own exception, out of its dict -/
theorem xget_K {prog : Program} {w : World} {A : Around} {E : Value → Shared → Prop} {K : Frag} {C x : Addr} {s : Shared} {ox oD : Obj} {cd : ClassData} {name : Str} {v : Value} {Q : Value → Shared → Prop} (X : K.In s.heap) (I : InstAt s.heap x ox C (some oD))
    (hga : findIn K (.ref C) "__getattribute__" = some (some (.builtin "BaseException.__getattribute__"))) (hgh : findIn K (.ref C) "__getattr__" = some none) (hf : findObj K C (some oD) name = some (.value v)) (hh : handedOut v = pure v)
    (hc : clsIn K C = some cd) (hm : cd.mro.contains (.type "BaseException") = true) (hme : cd.mro.isEmpty = false) (h : ∀ k, Q v { s with toks := k }) :
    wpAny (model prog w) A (getAttr (.ref x) name true) Q E s := by
  have FB := PySem.F.attrBase_Exception
  unfold getAttr getAttrBy
  refine wpAny_bind (wpAny_mkText (wpAny_holding (wpAny_bind (I.type _ _ _ _ (fun _ _ e => e) (wpAny_bind (looks_findIn X hga _ _ _ _ (fun _ _ e => e) ?_))))))
  have hne : (Value.builtin "BaseException.__getattribute__" == Value.builtin "object.__getattribute__") = false := by decide +kernel
  refine bm_if_false (by rw [hne, Bool.and_false]) ?_
  unfold getAttrByItsOwn hookBefore callGetattribute boundAndCalled
  refine wpAny_bind ?_
  show wpAny _ _ (typeLookup (.ref C) "__getattr__") _ _ _
  refine looks_findIn X hgh _ _ _ _ (fun _ _ e => e) ?_
  refine wpAny_bind (wpAny_attempt (wpAny_holding ?_))
  show wpAny _ _ (bindSpecial (.builtin "BaseException.__getattribute__") (.ref x) >>= _) _ _ _
  refine wpAny_bind (wpAny_of_eq (FB.ga.bind (.ref x)) ?_)
  have hT : Looks (model prog w) s.heap (isInstance (.ref x) (.type "BaseException")) true := I.type.andThen (looks_mroIn X (by unfold mroIn; rw [hc, Option.bind_some, if_neg (by rw [hme]; decide), hm]))
  have hk : builtinKind "BaseException.__getattribute__" = some .slot := by decide +kernel
  have hsplit : splitId "BaseException.__getattribute__" = some ("BaseException", "__getattribute__") := by decide +kernel
  show wpAny _ _ (call (.builtin "BaseException.__getattribute__") [.ref x, .str name s.toks] []) _ _ _
  refine wpAny_call (codeAny_call_builtin FB.ga.plain F.entry_bexc_ga (@check_slot (model prog w) _ _ _ "BaseException.__getattribute__" "BaseException" "__getattribute__" (.ref x) [.str name s.toks] [] _ hk hsplit hT (F.args_bexc_ga (.ref x) (.str name s.toks)) ?_))
  unfold Builtin.«object.__getattribute__»
  refine wpAny_bind (wpAny_of_eq (a := (.ref x, [.str name s.toks])) rfl ?_)
  dsimp only
  refine wpAny_bind (wpAny_of_eq (a := name) rfl ?_)
  refine wpAny_bind (I.type _ _ _ _ (fun _ _ e => e) (wpAny_bind (looks_find X I hf _ _ _ _ (fun _ _ e => e) ?_)))
  dsimp only
  refine wpAny_pure ?_
  dsimp only
  show wpAny _ _ (handedOut v) _ _ _
  rw [hh]
  exact wpAny_pure (h _)

section
variable {w : World} {dp un : Nat} {gd : Option (List Code)} {cn : Str} {cs : Scope} {a : Addr} {ccd : Value} {cl : List (Str × Addr)} {A₀ : Around} {h₀ : Heap} {L : Addr} {m : Str → Option Value} {news : List (Addr × Obj)} {s : Shared} {Q E : Value → Shared → Prop} {loose : List Str} {mean : ExcName → Option Value} {mg mb : Str → Option Value}
  (B : Below A₀ h₀ [] h₀) (F : Fr h₀ L s.heap m) (X : (Mine.KF w.params).In h₀) (N : News h₀ L s.heap news) (T : Top topProg loose mean mg mb h₀) (hk : cs.kind = .function) (hd : dp + 32 ≤ 500) (hu : un + 640 ≤ 5000)
include B F X N T hk hd hu
theorem ct_sized_raise {O D S R : Addr} {v : Int} {tv : Tok} {a0 a1 a2 a3 a4 a5 a6 a7 a8 a9 az : Int} {u0 u1 u2 u3 u4 u5 u6 u7 u8 u9 uz G0 G1 G2 G3 G4 G5 G6 G7 G8 G9 G10 G11 G12 G13 G14 G15 G16 G17 ue : Tok} (hO : (O, instObj 482 D) ∈ news) (hD : (D, dictOf [{ hash := PyData.keyHash w.params (Str.ofString "name"), key := Value.str (Str.ofString "name") G0, val := Value.ref S }, { hash := PyData.keyHash w.params (Str.ofString "attr"), key := Value.str (Str.ofString "attr") G1, val := Value.int a0 u0 }, { hash := PyData.keyHash w.params (Str.ofString "ntres"), key := Value.str (Str.ofString "ntres") G2, val := Value.int a1 u1 }, { hash := PyData.keyHash w.params (Str.ofString "crttimetenth"), key := Value.str (Str.ofString "crttimetenth") G3, val := Value.int a2 u2 }, { hash := PyData.keyHash w.params (Str.ofString "crttime"), key := Value.str (Str.ofString "crttime") G4, val := Value.int a3 u3 }, { hash := PyData.keyHash w.params (Str.ofString "crtdate"), key := Value.str (Str.ofString "crtdate") G5, val := Value.int a4 u4 }, { hash := PyData.keyHash w.params (Str.ofString "lstaccessdate"), key := Value.str (Str.ofString "lstaccessdate") G6, val := Value.int a5 u5 }, { hash := PyData.keyHash w.params (Str.ofString "fstclushi"), key := Value.str (Str.ofString "fstclushi") G7, val := Value.int a6 u6 }, { hash := PyData.keyHash w.params (Str.ofString "wrttime"), key := Value.str (Str.ofString "wrttime") G8, val := Value.int a7 u7 }, { hash := PyData.keyHash w.params (Str.ofString "wrtdate"), key := Value.str (Str.ofString "wrtdate") G9, val := Value.int a8 u8 }, { hash := PyData.keyHash w.params (Str.ofString "fstcluslo"), key := Value.str (Str.ofString "fstcluslo") G10, val := Value.int a9 u9 }, { hash := PyData.keyHash w.params (Str.ofString "filesize"), key := Value.str (Str.ofString "filesize") G11, val := Value.int az uz }, { hash := PyData.keyHash w.params (Str.ofString "_lazy_load"), key := Value.str (Str.ofString "_lazy_load") G12, val := Value.bool false }, { hash := PyData.keyHash w.params (Str.ofString "_fs"), key := Value.str (Str.ofString "_fs") G13, val := Value.none }, { hash := PyData.keyHash w.params (Str.ofString "_parent"), key := Value.str (Str.ofString "_parent") G14, val := Value.none }, { hash := PyData.keyHash w.params (Str.ofString "lfn_entry"), key := Value.str (Str.ofString "lfn_entry") G15, val := Value.none }, { hash := PyData.keyHash w.params (Str.ofString "_dirs"), key := Value.str (Str.ofString "_dirs") G16, val := Value.ref R }, { hash := PyData.keyHash w.params (Str.ofString "_encoding"), key := Value.str (Str.ofString "_encoding") G17, val := Value.str (Str.ofString "latin-1") ue }] 18) ∈ news) (h0 : 4294967295 < v ∧ v < 10 ^ 30)
    (ret : ∀ t0 h' tk', Fr h₀ L h' m → News h₀ L h' news → Q (.int 7 t0) { s with heap := h', toks := tk' }) :
    wpC (model PySem.Challenge.rw_iw0015_02.row.prog w) (ktrTop dp un (some []) cn cs L a ccd cl []) (call (.ref 738) [.ref O, .int v tv]) Q E s := by
  k_with_none
  (k_with "ite" => (k_closed; first | refine ite_pos (by decide) ?_ | refine ite_neg (by decide) ?_))
  (k_with "execs nil" => (k_here; dsimp only))
  (k_with "execs cons" => (k_here; dsimp only))
  (k_with "call ref" => (k_here; (with_reducible show wpAny _ _ (call (Value.ref (nat_lit 219)) _) _ _ _); k_dflt (refine' ct_size_raise ?kB ?kF ?kX ?kN ?kT ?kk ?kd ?ku ?e0 ?e1 ?e2 ?_; (case kB => k_asm); (case kF => k_asm); (case kX => k_asm); (case kN => k_asm); (case kT => k_asm); (case kk => first | exact rfl | assumption); (case kd => k_room); (case ku => k_units); (case e0 => k_mem); (case e1 => k_mem); (case e2 => assumption); k_whole); intro e9 d9 oD9 es9 ep9 t79 h9 tk9 R9 u9 ns9 dL9 dd9 ss9 nn9))
  revert X; k_fill; intro X
  refine wpC_call ?_
  k_dflt (refine' codeC_defT ?k1 ?k2 ?k3 ?k4 ?k5 ?kA ?kF ?kK ?k6 ?k7 ?k8 ?k9 ?kB ?_ ?c2 ?c3 ?c4 ?c5; (case kA => exact rfl); (case kF => exact rfl); (case kK => first | exact rfl | assumption); (case k1 => k_asm); (case k2 => k_asm); (case k3 => k_asm); (case k4 => k_asm); (case k5 => k_asm); (case k6 => k_is); (case k7 => k_is); (case k8 => k_room); (case k9 => exact kp_binds (binds := [(Str.ofString "one", Value.ref O), (Str.ofString "size", Value.int v tv)]) (by k_in) (fun S => by kernel_rfl)); (case c5 => decide); (case kB => exact locs rfl); (case c2 => exact rfl); (case c3 => exact rfl); (case c4 => exact rfl); k_whole; intro g' L' h' FG' F' N' B' X' T' lv' kp' lt'; (try dsimp only); (try k_lift B'))
  (replace F' : Fr g' L' h' (fun y => List.lookup y [(Str.ofString "size", Value.int v tv), (Str.ofString "one", Value.ref O)]) := F')
  refine execsC_cons (execC_Try (wpC_of ?_))
  k_steps
  have hab : h₀.objs.size ≤ L' := Nat.le_of_lt (Nat.lt_of_le_of_lt FG'.above lt')
  have hLn : ∀ p ∈ (d9, oD9) :: news, p.1 ≠ L' := fun p hp => by
    rcases List.mem_cons.mp hp with rfl | hp
    · exact dL9
    · exact (N' p hp).2.1
  k_dflt (refine caught_D (K := KF w.params) (C := 128) (outer := [envX cn cs L a ccd cl]) rfl ns9 hab R9 hLn X (topRead_of T) rfl rfl rfl ?_)
  intro h8 tk8 oe8 F8 N8 g8 c8 d8 hv8 up8
  have hLL : L ≠ L' := Nat.ne_of_lt lt'
  obtain ⟨oL, esL, epL, hL9, hLd, hLk, hLf⟩ := u9.ns FG'.ns
  obtain ⟨slL, hL8⟩ := up8 L oL hLL hL9 (fun vs z => by rw [hLd] at z; cases z)
  have hLn0 : h₀.get? L = none := by
    cases z : h₀.get? L with
    | none => rfl
    | some o => exact absurd (Nat.lt_of_lt_of_le (Heap.lt_size z) F.above) (Nat.lt_irrefl _)
  have N8 : News h₀ L' h8 ((d9, oD9) :: (L, { oL with slots := slL }) :: news) := fun p hp => by
    rcases List.mem_cons.mp hp with rfl | hp
    · exact N8 _ (.head _)
    rcases List.mem_cons.mp hp with rfl | hp
    · exact ⟨hL8, hLL, hLn0⟩
    · exact N8 p (.tail _ hp)
  clear F' N' B' X' T' lv'
  k_steps
  have hI : InstAt h8 e9 oe8 128 (some oD9) := ⟨g8, c8, by obtain ⟨vs8, v8⟩ := hv8; unfold notCls; rw [v8], by rw [d8]; exact (N8 _ (.head _)).1⟩
  have hf : findObj (KF w.params) 128 (some oD9) (Str.ofString "errno") = some (.value (.int 7 t79)) := findObj_own (by k_is) (attr := none) (by k_is) rfl (lookIn_of dd9 ((nn9 _).trans (if_pos rfl)))
  k_dflt (refine xget_K (K := KF w.params) (X.keeps F8.keep) hI (by k_is) (by k_is) hf rfl rfl rfl rfl ?_)
  intro k7
  k_steps
  rename Fr h₀ L' _ _ => F7
  rename News h₀ L' _ _ => N7
  exact ret _ _ _ ⟨⟨_, esL, epL, (N7 _ (.tail _ (.head _))).1, hLd, hLk, hLf⟩, F7.keep, F.above⟩ (fun p hp => ⟨(N7 p (.tail _ (.tail _ hp))).1, (N p hp).2⟩)
end

theorem RaisedD.sub {base h : Heap} {l : List Env} {e d : Addr} {cls : Value} {n n' : List (Addr × Obj)} (R : RaisedD base l e d cls n h) (hs : ∀ p ∈ n', p ∈ n) : RaisedD base l e d cls n' h := by
  obtain ⟨B, a0, hB, hl, r⟩ := R
  exact ⟨B, a0, hB, fun q hq => hl q (hs q hq), r⟩
section
variable {w : World} {dp un : Nat} {gd : Option (List Code)} {cn : Str} {cs : Scope} {a : Addr} {ccd : Value} {cl : List (Str × Addr)} {outer : List Env} {A₀ : Around} {base h₀ : Heap} {L : Addr} {m : Str → Option Value} {news : List (Addr × Obj)} {s : Shared} {Q E : Value → Shared → Prop} {loose : List Str} {mean : ExcName → Option Value} {mg mb : Str → Option Value}
  (B : Below A₀ base outer h₀) (F : Fr h₀ L s.heap m) (X : (Mine.KF w.params).In h₀) (N : News h₀ L s.heap news) (T : Top topProg loose mean mg mb h₀) (hk : cs.kind = .function) (hd : dp + 28 ≤ 500) (hu : un + 560 ≤ 5000)
include B F X N T hk hd hu
theorem ct_entry_raise {S : Addr} {a0 a1 a2 a3 a4 a5 a6 a7 a8 a9 az : Int} {u0 u1 u2 u3 u4 u5 u6 u7 u8 u9 uz : Tok} (hz0 : 4294967295 < az ∧ az < 10 ^ 30)
    (ret : ∀ e d oD es ep t7 h' tk', RaisedD base (envX cn cs L a ccd cl :: outer) e d (.ref 128) ((d, oD) :: news) h' → h₀.UpToSlots h' → h'.Ns L m → oD.data = .dict es ep → StrKeys es → (∀ y, nsFind es y = if y = Str.ofString "errno" then some (.int 7 t7) else none) → E (.ref e) { s with heap := h', toks := tk' }) :
    wpAny (model PySem.Challenge.rw_iw0015_02.row.prog w) (ktrTop dp un gd cn cs L a ccd cl outer) (call (.ref 482) [.ref S, .int a0 u0, .int a1 u1, .int a2 u2, .int a3 u3, .int a4 u4, .int a5 u5, .int a6 u6, .int a7 u7, .int a8 u8, .int a9 u9, .int az uz]) Q E s := by
  k_with_none
  (k_with "ite" => (k_closed; first | refine ite_pos (by decide) ?_ | refine ite_neg (by decide) ?_))
  (k_with "execs nil" => (k_here; dsimp only))
  (k_with "execs cons" => (k_here; dsimp only))
  (k_with "call ref" => (k_here; (with_reducible show wpAny _ _ (call (Value.ref (nat_lit 219)) _) _ _ _); k_dflt (refine' ct_size_raise11 ?kB ?kF ?kX ?kN ?kT ?kk ?kd ?ku ?e0 ?e1 ?e2 ?_; (case kB => k_asm); (case kF => k_asm); (case kX => k_asm); (case kN => k_asm); (case kT => k_asm); (case kk => first | exact rfl | assumption); (case kd => k_room); (case ku => k_units); (case e0 => k_mem); (case e1 => k_mem); (case e2 => assumption); k_whole); intro e9 d9 oD9 es9 ep9 t79 h9 tk9 R9 v9 ns9 dL9 dd9 ss9 nn9))
  revert X; k_fill; intro X
  k_dflt (refine' call_cls ?k1 ?k2 ?k3 ?k4 ?k5 ?k6 ?_; (case k1 => k_asm); (case k2 => k_asm); (case k3 => k_asm); (case k4 => k_is); (case k5 => k_is); (case k6 => k_is); k_whole; intro x' d' h' F' N' l1 l2; (try k_lt l1); (try k_lt2 l2); (try k_sweep); (refine' code_def ?k1 ?k2 ?k3 ?k4 ?k5 ?kA ?kF ?kK ?k6 ?k7 ?k8 ?k9 ?kB ?_ ?c2 ?c3 ?c4 ?c5; (case kA => exact rfl); (case kF => exact rfl); (case kK => first | exact rfl | assumption); (case k1 => k_asm); (case k2 => k_asm); (case k3 => k_asm); (case k4 => k_asm); (case k5 => k_asm); (case k6 => k_is); (case k7 => k_is); (case k8 => k_room); (case k9 => exact kp_binds (binds := [(Str.ofString "self", Value.ref x'), (Str.ofString "DIR_Name", Value.ref S), (Str.ofString "DIR_Attr", Value.int a0 u0), (Str.ofString "DIR_NTRes", Value.int a1 u1), (Str.ofString "DIR_CrtTimeTenth", Value.int a2 u2), (Str.ofString "DIR_CrtTime", Value.int a3 u3), (Str.ofString "DIR_CrtDate", Value.int a4 u4), (Str.ofString "DIR_LstAccessDate", Value.int a5 u5), (Str.ofString "DIR_FstClusHI", Value.int a6 u6), (Str.ofString "DIR_WrtTime", Value.int a7 u7), (Str.ofString "DIR_WrtDate", Value.int a8 u8), (Str.ofString "DIR_FstClusLO", Value.int a9 u9), (Str.ofString "DIR_FileSize", Value.int az uz), (Str.ofString "encoding", Value.str (Str.ofString "latin-1") 479), (Str.ofString "fs", Value.none), (Str.ofString "lazy_load", Value.bool false), (Str.ofString "lfn_entry", Value.none)]) (by k_in) (fun S => by kernel_rfl)); (case c5 => decide); (case kB => exact locs rfl); (case c2 => exact rfl); (case c3 => exact rfl); (case c4 => exact rfl); k_whole; intro g' L' h' FG' F' N' B' X' T'; (try dsimp only); (try k_lift B'); (try k_fold)))
  (replace F' : Fr g' L' h' (fun y => List.lookup y [(Str.ofString "lfn_entry", Value.none), (Str.ofString "lazy_load", Value.bool false), (Str.ofString "fs", Value.none), (Str.ofString "encoding", Value.str (Str.ofString "latin-1") 479), (Str.ofString "DIR_FileSize", Value.int az uz), (Str.ofString "DIR_FstClusLO", Value.int a9 u9), (Str.ofString "DIR_WrtDate", Value.int a8 u8), (Str.ofString "DIR_WrtTime", Value.int a7 u7), (Str.ofString "DIR_FstClusHI", Value.int a6 u6), (Str.ofString "DIR_LstAccessDate", Value.int a5 u5), (Str.ofString "DIR_CrtDate", Value.int a4 u4), (Str.ofString "DIR_CrtTime", Value.int a3 u3), (Str.ofString "DIR_CrtTimeTenth", Value.int a2 u2), (Str.ofString "DIR_NTRes", Value.int a1 u1), (Str.ofString "DIR_Attr", Value.int a0 u0), (Str.ofString "DIR_Name", Value.ref S), (Str.ofString "self", Value.ref x')]) := F')
  k_steps
  show wpAny _ _ (leaving _ (.ref e9)) _ _ _
  k_dflt (refine leave_D B' R9 v9 (fun h8 R8 v8 => ?_))
  exact ret e9 d9 oD9 es9 ep9 _ h8 _ (R8.sub fun p hp => by
    rcases List.mem_cons.mp hp with rfl | hp
    · exact .head _
    · exact .tail _ (.tail _ (.tail _ hp))) ((Heap.UpToSlots.of_keeps FG'.keep).trans v8) (v8.ns FG'.ns) dd9 ss9 nn9
end

section
variable {w : World} {dp un : Nat} {gd : Option (List Code)} {cn : Str} {cs : Scope} {a : Addr} {ccd : Value} {cl : List (Str × Addr)} {outer : List Env} {A₀ : Around} {base h₀ : Heap} {L : Addr} {m : Str → Option Value} {news : List (Addr × Obj)} {s : Shared} {Q E : Value → Shared → Prop} {loose : List Str} {mean : ExcName → Option Value} {mg mb : Str → Option Value}
  (B : Below A₀ base outer h₀) (F : Fr h₀ L s.heap m) (X : (Mine.KF w.params).In h₀) (N : News h₀ L s.heap news) (T : Top topProg loose mean mg mb h₀) (hk : cs.kind = .function) (hd : dp + 16 ≤ 500) (hu : un + 320 ≤ 5000)
include B F X N T hk hd hu
theorem ct_clus {O D S R : Addr} {a0 a1 a2 a3 a4 a5 a6 a7 a8 a9 az : Int} {u0 u1 u2 u3 u4 u5 u6 u7 u8 u9 uz G0 G1 G2 G3 G4 G5 G6 G7 G8 G9 G10 G11 G12 G13 G14 G15 G16 G17 ue : Tok} (hO : (O, instObj 482 D) ∈ news) (hD : (D, dictOf [{ hash := PyData.keyHash w.params (Str.ofString "name"), key := Value.str (Str.ofString "name") G0, val := Value.ref S }, { hash := PyData.keyHash w.params (Str.ofString "attr"), key := Value.str (Str.ofString "attr") G1, val := Value.int a0 u0 }, { hash := PyData.keyHash w.params (Str.ofString "ntres"), key := Value.str (Str.ofString "ntres") G2, val := Value.int a1 u1 }, { hash := PyData.keyHash w.params (Str.ofString "crttimetenth"), key := Value.str (Str.ofString "crttimetenth") G3, val := Value.int a2 u2 }, { hash := PyData.keyHash w.params (Str.ofString "crttime"), key := Value.str (Str.ofString "crttime") G4, val := Value.int a3 u3 }, { hash := PyData.keyHash w.params (Str.ofString "crtdate"), key := Value.str (Str.ofString "crtdate") G5, val := Value.int a4 u4 }, { hash := PyData.keyHash w.params (Str.ofString "lstaccessdate"), key := Value.str (Str.ofString "lstaccessdate") G6, val := Value.int a5 u5 }, { hash := PyData.keyHash w.params (Str.ofString "fstclushi"), key := Value.str (Str.ofString "fstclushi") G7, val := Value.int a6 u6 }, { hash := PyData.keyHash w.params (Str.ofString "wrttime"), key := Value.str (Str.ofString "wrttime") G8, val := Value.int a7 u7 }, { hash := PyData.keyHash w.params (Str.ofString "wrtdate"), key := Value.str (Str.ofString "wrtdate") G9, val := Value.int a8 u8 }, { hash := PyData.keyHash w.params (Str.ofString "fstcluslo"), key := Value.str (Str.ofString "fstcluslo") G10, val := Value.int a9 u9 }, { hash := PyData.keyHash w.params (Str.ofString "filesize"), key := Value.str (Str.ofString "filesize") G11, val := Value.int az uz }, { hash := PyData.keyHash w.params (Str.ofString "_lazy_load"), key := Value.str (Str.ofString "_lazy_load") G12, val := Value.bool false }, { hash := PyData.keyHash w.params (Str.ofString "_fs"), key := Value.str (Str.ofString "_fs") G13, val := Value.none }, { hash := PyData.keyHash w.params (Str.ofString "_parent"), key := Value.str (Str.ofString "_parent") G14, val := Value.none }, { hash := PyData.keyHash w.params (Str.ofString "lfn_entry"), key := Value.str (Str.ofString "lfn_entry") G15, val := Value.none }, { hash := PyData.keyHash w.params (Str.ofString "_dirs"), key := Value.str (Str.ofString "_dirs") G16, val := Value.ref R }, { hash := PyData.keyHash w.params (Str.ofString "_encoding"), key := Value.str (Str.ofString "_encoding") G17, val := Value.str (Str.ofString "latin-1") ue }] 18) ∈ news) (h9 : 0 ≤ a9 ∧ a9 < 65536) (h6 : 0 ≤ a6 ∧ a6 < 65536)
    (ret : ∀ t h' tk', Fr h₀ L h' m → News h₀ L h' news → Q (.int (a9 + a6 * 65536) t) { s with heap := h', toks := tk' }) :
    wpAny (model PySem.Challenge.rw_iw0015_02.row.prog w) (ktrTop dp un gd cn cs L a ccd cl outer) (call (.ref 289) [.ref O]) Q E s := by
  k_with_none
  (k_with "ite" => (k_closed; first | refine ite_pos (by decide) ?_ | refine ite_neg (by decide) ?_))
  (k_with "execs nil" => (k_here; dsimp only))
  (k_with "execs cons" => (k_here; dsimp only))
  revert X; k_fill; intro X
  refine wpAny_call ?_
  k_dflt (refine' code_def ?k1 ?k2 ?k3 ?k4 ?k5 ?kA ?kF ?kK ?k6 ?k7 ?k8 ?k9 ?kB ?_ ?c2 ?c3 ?c4 ?c5; (case kA => exact rfl); (case kF => exact rfl); (case kK => first | exact rfl | assumption); (case k1 => k_asm); (case k2 => k_asm); (case k3 => k_asm); (case k4 => k_asm); (case k5 => k_asm); (case k6 => k_is); (case k7 => k_is); (case k8 => k_room); (case k9 => exact kp_binds (binds := [(Str.ofString "self", Value.ref O)]) (by k_in) (fun S => by kernel_rfl)); (case c5 => decide); (case kB => exact locs rfl); (case c2 => exact rfl); (case c3 => exact rfl); (case c4 => exact rfl); k_whole; intro g' L' h' FG' F' N' B' X' T'; (try dsimp only); (try k_lift B'); (try k_fold))
  (replace F' : Fr g' L' h' (fun y => List.lookup y [(Str.ofString "self", Value.ref O)]) := F')
  k_steps
  · refine' ret _ _ _ ?f ?n
    case f => k_asm
    case n => k_asm
theorem ct_ck {O D S R D2 x : Addr} {b : Array UInt8} {ks : List Int} {a0 a1 a2 a3 a4 a5 a6 a7 a8 a9 az : Int} {u0 u1 u2 u3 u4 u5 u6 u7 u8 u9 uz G0 G1 G2 G3 G4 G5 G6 G7 G8 G9 G10 G11 G12 G13 G14 G15 G16 G17 ue t1 t2 t3 : Tok} (hO : (O, instObj 482 D) ∈ news) (hD : (D, dictOf [{ hash := PyData.keyHash w.params (Str.ofString "name"), key := Value.str (Str.ofString "name") G0, val := Value.ref S }, { hash := PyData.keyHash w.params (Str.ofString "attr"), key := Value.str (Str.ofString "attr") G1, val := Value.int a0 u0 }, { hash := PyData.keyHash w.params (Str.ofString "ntres"), key := Value.str (Str.ofString "ntres") G2, val := Value.int a1 u1 }, { hash := PyData.keyHash w.params (Str.ofString "crttimetenth"), key := Value.str (Str.ofString "crttimetenth") G3, val := Value.int a2 u2 }, { hash := PyData.keyHash w.params (Str.ofString "crttime"), key := Value.str (Str.ofString "crttime") G4, val := Value.int a3 u3 }, { hash := PyData.keyHash w.params (Str.ofString "crtdate"), key := Value.str (Str.ofString "crtdate") G5, val := Value.int a4 u4 }, { hash := PyData.keyHash w.params (Str.ofString "lstaccessdate"), key := Value.str (Str.ofString "lstaccessdate") G6, val := Value.int a5 u5 }, { hash := PyData.keyHash w.params (Str.ofString "fstclushi"), key := Value.str (Str.ofString "fstclushi") G7, val := Value.int a6 u6 }, { hash := PyData.keyHash w.params (Str.ofString "wrttime"), key := Value.str (Str.ofString "wrttime") G8, val := Value.int a7 u7 }, { hash := PyData.keyHash w.params (Str.ofString "wrtdate"), key := Value.str (Str.ofString "wrtdate") G9, val := Value.int a8 u8 }, { hash := PyData.keyHash w.params (Str.ofString "fstcluslo"), key := Value.str (Str.ofString "fstcluslo") G10, val := Value.int a9 u9 }, { hash := PyData.keyHash w.params (Str.ofString "filesize"), key := Value.str (Str.ofString "filesize") G11, val := Value.int az uz }, { hash := PyData.keyHash w.params (Str.ofString "_lazy_load"), key := Value.str (Str.ofString "_lazy_load") G12, val := Value.bool false }, { hash := PyData.keyHash w.params (Str.ofString "_fs"), key := Value.str (Str.ofString "_fs") G13, val := Value.none }, { hash := PyData.keyHash w.params (Str.ofString "_parent"), key := Value.str (Str.ofString "_parent") G14, val := Value.none }, { hash := PyData.keyHash w.params (Str.ofString "lfn_entry"), key := Value.str (Str.ofString "lfn_entry") G15, val := Value.none }, { hash := PyData.keyHash w.params (Str.ofString "_dirs"), key := Value.str (Str.ofString "_dirs") G16, val := Value.ref R }, { hash := PyData.keyHash w.params (Str.ofString "_encoding"), key := Value.str (Str.ofString "_encoding") G17, val := Value.str (Str.ofString "latin-1") ue }] 18) ∈ news) (hS : (S, instObj 680 D2) ∈ news) (hD2 : (D2, dictOf [{ hash := PyData.keyHash w.params (Str.ofString "name"), key := Value.str (Str.ofString "name") t1, val := Value.ref x }, { hash := PyData.keyHash w.params (Str.ofString "encoding"), key := Value.str (Str.ofString "encoding") t2, val := Value.str (Str.ofString "latin-1") 479 }, { hash := PyData.keyHash w.params (Str.ofString "initialized"), key := Value.str (Str.ofString "initialized") t3, val := Value.bool true }] 3) ∈ news) (hx : (x, baOf b) ∈ news) (hb : KBw.bInts b = ks) (hr : ∀ k ∈ ks, 0 ≤ k ∧ k < 256)
    (ret : ∀ t h' tk', Fr h₀ L h' m → News h₀ L h' news → Q (.int (ckOf ks) t) { s with heap := h', toks := tk' }) :
    wpAny (model PySem.Challenge.rw_iw0015_02.row.prog w) (ktrTop dp un gd cn cs L a ccd cl outer) (call (.ref 268) [.ref O]) Q E s := by
  k_with_none
  (k_with "ite" => (k_closed; first | refine ite_pos (by decide) ?_ | refine ite_neg (by decide) ?_))
  (k_with "execs nil" => (k_here; dsimp only))
  (k_with "execs cons" => (k_here; dsimp only))
  (k_with "call ref" => (k_here; (with_reducible show wpAny _ _ (call (Value.ref (nat_lit 636)) _) _ _ _); k_dflt (refine' ct_cksum ?kB ?kF ?kX ?kN ?kT ?kk ?kd ?ku ?e0 ?e1 ?e2 ?e3 ?e4 ?_; (case kB => k_asm); (case kF => k_asm); (case kX => k_asm); (case kN => k_asm); (case kT => k_asm); (case kk => first | exact rfl | assumption); (case kd => k_room); (case ku => k_units); (case e0 => k_mem); (case e1 => k_mem); (case e2 => k_mem); (case e3 => k_asm); (case e4 => k_asm); k_whole); intro t9 h9 tk9 F9 N9; (try dsimp only); (try k_fold)))
  revert X; k_fill; intro X
  refine wpAny_call ?_
  k_dflt (refine' code_def ?k1 ?k2 ?k3 ?k4 ?k5 ?kA ?kF ?kK ?k6 ?k7 ?k8 ?k9 ?kB ?_ ?c2 ?c3 ?c4 ?c5; (case kA => exact rfl); (case kF => exact rfl); (case kK => first | exact rfl | assumption); (case k1 => k_asm); (case k2 => k_asm); (case k3 => k_asm); (case k4 => k_asm); (case k5 => k_asm); (case k6 => k_is); (case k7 => k_is); (case k8 => k_room); (case k9 => exact kp_binds (binds := [(Str.ofString "self", Value.ref O)]) (by k_in) (fun S => by kernel_rfl)); (case c5 => decide); (case kB => exact locs rfl); (case c2 => exact rfl); (case c3 => exact rfl); (case c4 => exact rfl); k_whole; intro g' L' h' FG' F' N' B' X' T'; (try dsimp only); (try k_lift B'); (try k_fold))
  (replace F' : Fr g' L' h' (fun y => List.lookup y [(Str.ofString "self", Value.ref O)]) := F')
  k_steps
  · refine' ret _ _ _ ?f ?n
    case f => k_asm
    case n => k_asm
end

section
variable {w : World} {dp un : Nat} {gd : Option (List Code)} {cn : Str} {cs : Scope} {a : Addr} {ccd : Value} {cl : List (Str × Addr)} {outer : List Env} {A₀ : Around} {base h₀ : Heap} {L : Addr} {m : Str → Option Value} {news : List (Addr × Obj)} {s : Shared} {Q E : Value → Shared → Prop} {loose : List Str} {mean : ExcName → Option Value} {mg mb : Str → Option Value}
  (B : Below A₀ base outer h₀) (F : Fr h₀ L s.heap m) (X : (Mine.KF w.params).In h₀) (N : News h₀ L s.heap news) (T : Top topProg loose mean mg mb h₀) (hk : cs.kind = .function) (hd : dp + 24 ≤ 500) (hu : un + 480 ≤ 5000)
include B F X N T hk hd hu
theorem ct_holds {O D S R D2 x Rn Rf : Addr} {vs ws : List Value} {cn' cf : Nat} {b : Array UInt8} {ks : List Int} {bb : Bool} {a0 a1 a2 a3 a4 a5 a6 a7 a8 a9 az : Int} {u0 u1 u2 u3 u4 u5 u6 u7 u8 u9 uz G0 G1 G2 G3 G4 G5 G6 G7 G8 G9 G10 G11 G12 G13 G14 G15 G16 G17 ue t1 t2 t3 ts : Tok} (hO : (O, instObj 482 D) ∈ news) (hD : (D, dictOf [{ hash := PyData.keyHash w.params (Str.ofString "name"), key := Value.str (Str.ofString "name") G0, val := Value.ref S }, { hash := PyData.keyHash w.params (Str.ofString "attr"), key := Value.str (Str.ofString "attr") G1, val := Value.int a0 u0 }, { hash := PyData.keyHash w.params (Str.ofString "ntres"), key := Value.str (Str.ofString "ntres") G2, val := Value.int a1 u1 }, { hash := PyData.keyHash w.params (Str.ofString "crttimetenth"), key := Value.str (Str.ofString "crttimetenth") G3, val := Value.int a2 u2 }, { hash := PyData.keyHash w.params (Str.ofString "crttime"), key := Value.str (Str.ofString "crttime") G4, val := Value.int a3 u3 }, { hash := PyData.keyHash w.params (Str.ofString "crtdate"), key := Value.str (Str.ofString "crtdate") G5, val := Value.int a4 u4 }, { hash := PyData.keyHash w.params (Str.ofString "lstaccessdate"), key := Value.str (Str.ofString "lstaccessdate") G6, val := Value.int a5 u5 }, { hash := PyData.keyHash w.params (Str.ofString "fstclushi"), key := Value.str (Str.ofString "fstclushi") G7, val := Value.int a6 u6 }, { hash := PyData.keyHash w.params (Str.ofString "wrttime"), key := Value.str (Str.ofString "wrttime") G8, val := Value.int a7 u7 }, { hash := PyData.keyHash w.params (Str.ofString "wrtdate"), key := Value.str (Str.ofString "wrtdate") G9, val := Value.int a8 u8 }, { hash := PyData.keyHash w.params (Str.ofString "fstcluslo"), key := Value.str (Str.ofString "fstcluslo") G10, val := Value.int a9 u9 }, { hash := PyData.keyHash w.params (Str.ofString "filesize"), key := Value.str (Str.ofString "filesize") G11, val := Value.int az uz }, { hash := PyData.keyHash w.params (Str.ofString "_lazy_load"), key := Value.str (Str.ofString "_lazy_load") G12, val := Value.bool false }, { hash := PyData.keyHash w.params (Str.ofString "_fs"), key := Value.str (Str.ofString "_fs") G13, val := Value.none }, { hash := PyData.keyHash w.params (Str.ofString "_parent"), key := Value.str (Str.ofString "_parent") G14, val := Value.none }, { hash := PyData.keyHash w.params (Str.ofString "lfn_entry"), key := Value.str (Str.ofString "lfn_entry") G15, val := Value.none }, { hash := PyData.keyHash w.params (Str.ofString "_dirs"), key := Value.str (Str.ofString "_dirs") G16, val := Value.ref R }, { hash := PyData.keyHash w.params (Str.ofString "_encoding"), key := Value.str (Str.ofString "_encoding") G17, val := Value.str (Str.ofString "latin-1") ue }] 18) ∈ news) (hS : (S, instObj 680 D2) ∈ news) (hD2 : (D2, dictOf [{ hash := PyData.keyHash w.params (Str.ofString "name"), key := Value.str (Str.ofString "name") t1, val := Value.ref x }, { hash := PyData.keyHash w.params (Str.ofString "encoding"), key := Value.str (Str.ofString "encoding") t2, val := Value.str (Str.ofString "latin-1") 479 }, { hash := PyData.keyHash w.params (Str.ofString "initialized"), key := Value.str (Str.ofString "initialized") t3, val := Value.bool true }] 3) ∈ news) (hx : (x, baOf b) ∈ news) (hb : KBw.bInts b = ks) (ok : NmOk ks bb)
    (hn : (Rn, listOf vs.toArray cn') ∈ news) (hni : IntsAre vs ks) (hf : (Rf, listOf ws.toArray cf) ∈ news) (hfi : IntsAre ws [a0, a1, a2, a3, a4, a5, a6, a7, a8, a9])
    (r0 : 0 ≤ a0 ∧ a0 < 256) (r1 : 0 ≤ a1 ∧ a1 < 256) (r2 : 0 ≤ a2 ∧ a2 < 256) (r3 : 0 ≤ a3 ∧ a3 < 65536) (r4 : 0 ≤ a4 ∧ a4 < 65536) (r5 : 0 ≤ a5 ∧ a5 < 65536) (r6 : 0 ≤ a6 ∧ a6 < 65536) (r7 : 0 ≤ a7 ∧ a7 < 65536) (r8 : 0 ≤ a8 ∧ a8 < 65536) (r9 : 0 ≤ a9 ∧ a9 < 65536) (rz : 0 ≤ az ∧ az < 4294967296)
    (ret : ∀ h' tk', Fr h₀ L h' m → News h₀ L h' news → Q (.bool true) { s with heap := h', toks := tk' }) :
    wpAny (model PySem.Challenge.rw_iw0015_02.row.prog w) (ktrTop dp un gd cn cs L a ccd cl outer) (call (.ref 764) [.ref O, .ref Rn, .ref Rf, .int az ts]) Q E s := by
  have hrk := ok.bytes
  obtain ⟨w0, w1, w2, w3, w4, w5, w6, w7, w8, w9, rfl⟩ := ints10 hfi
  k_with_none
  (k_with "ite" => (k_closed; first | refine ite_pos (by decide) ?_ | refine ite_neg (by decide) ?_))
  (k_with "execs nil" => (k_here; dsimp only))
  (k_with "execs cons" => (k_here; dsimp only))
  (k_with "call ref" => (k_here; (with_reducible show wpAny _ _ (call (Value.ref (nat_lit 303)) _) _ _ _); k_dflt (refine' ct_asb (x := ?_) (t1 := ?_) (t2 := ?_) (t3 := ?_) ?kB ?kF ?kX ?kN ?kT ?kk ?kd ?ku ?e0 ?e1 ?e2 ?e3 ?e4 ?e5 ?e6 ?e7 ?e8 ?e9 ?e10 ?e11 ?e12 ?e13 ?e14 ?e15 ?e16 ?e17 ?_; (case kB => k_asm); (case kF => k_asm); (case kX => k_asm); (case kN => k_asm); (case kT => k_asm); (case kk => first | exact rfl | assumption); (case kd => k_room); (case ku => k_units); (case e0 => k_mem); (case e1 => k_mem); (case e2 => k_mem); (case e3 => k_mem); (case e4 => k_mem); (case e5 => k_asm); (case e6 => k_asm); (case e7 => omega); (case e8 => omega); (case e9 => omega); (case e10 => omega); (case e11 => omega); (case e12 => omega); (case e13 => omega); (case e14 => omega); (case e15 => omega); (case e16 => omega); (case e17 => omega); k_whole); intro t9 h9 tk9 F9 N9; (try dsimp only); (try k_fold)))
  (k_with "call ref" => (k_here; (with_reducible show wpAny _ _ (call (Value.ref (nat_lit 710)) _) _ _ _); k_dflt (refine' ct_laid ?kB ?kF ?kX ?kN ?kT ?kk ?kd ?ku ?e0 ?e1 ?e2 ?e3 ?e4 ?e5 ?e6 ?e7 ?_; (case kB => k_asm); (case kF => k_asm); (case kX => k_asm); (case kN => k_asm); (case kT => k_asm); (case kk => first | exact rfl | assumption); (case kd => k_room); (case ku => k_units); (case e0 => k_mem); (case e1 => first | assumption | l_ints); (case e2 => k_asm); (case e3 => k_mem); (case e4 => first | assumption | l_ints); (case e5 => omega); (case e6 => omega); (case e7 => omega); k_whole); intro t9 h9 tk9 F9 N9; (try dsimp only); (try k_fold)))
  (k_with "call ref" => (k_here; (with_reducible show wpAny _ _ (call (Value.ref (nat_lit 289)) _) _ _ _); k_dflt (refine' ct_clus ?kB ?kF ?kX ?kN ?kT ?kk ?kd ?ku ?e0 ?e1 ?e2 ?e3 ?_; (case kB => k_asm); (case kF => k_asm); (case kX => k_asm); (case kN => k_asm); (case kT => k_asm); (case kk => first | exact rfl | assumption); (case kd => k_room); (case ku => k_units); (case e0 => k_mem); (case e1 => k_mem); (case e2 => omega); (case e3 => omega); k_whole); intro t9 h9 tk9 F9 N9; (try dsimp only); (try k_fold)))
  (k_with "call ref" => (k_here; (with_reducible show wpAny _ _ (call (Value.ref (nat_lit 268)) _) _ _ _); k_dflt (refine' ct_ck ?kB ?kF ?kX ?kN ?kT ?kk ?kd ?ku ?e0 ?e1 ?e2 ?e3 ?e4 ?e5 ?e6 ?_; (case kB => k_asm); (case kF => k_asm); (case kX => k_asm); (case kN => k_asm); (case kT => k_asm); (case kk => first | exact rfl | assumption); (case kd => k_room); (case ku => k_units); (case e0 => k_mem); (case e1 => k_mem); (case e2 => k_mem); (case e3 => k_mem); (case e4 => k_mem); (case e5 => k_asm); (case e6 => k_asm); k_whole); intro t9 h9 tk9 F9 N9; (try dsimp only); (try k_fold)))
  (k_with "call ref" => (k_here; (with_reducible show wpAny _ _ (call (Value.ref (nat_lit 717)) _) _ _ _); k_dflt (refine' ct_sum ?kB ?kF ?kX ?kN ?kT ?kk ?kd ?ku ?e0 ?e1 ?_; (case kB => k_asm); (case kF => k_asm); (case kX => k_asm); (case kN => k_asm); (case kT => k_asm); (case kk => first | exact rfl | assumption); (case kd => k_room); (case ku => k_units); (case e0 => k_mem); (case e1 => k_asm); k_whole); intro t9 h9 tk9 F9 N9; (try dsimp only); (try k_fold)))
  revert X; k_fill; intro X
  refine wpAny_call ?_
  k_dflt (refine' code_def ?k1 ?k2 ?k3 ?k4 ?k5 ?kA ?kF ?kK ?k6 ?k7 ?k8 ?k9 ?kB ?_ ?c2 ?c3 ?c4 ?c5; (case kA => exact rfl); (case kF => exact rfl); (case kK => first | exact rfl | assumption); (case k1 => k_asm); (case k2 => k_asm); (case k3 => k_asm); (case k4 => k_asm); (case k5 => k_asm); (case k6 => k_is); (case k7 => k_is); (case k8 => k_room); (case k9 => exact kp_binds (binds := [(Str.ofString "one", Value.ref O), (Str.ofString "name", Value.ref Rn), (Str.ofString "fields", Value.ref Rf), (Str.ofString "size", Value.int az ts)]) (by k_in) (fun S => by kernel_rfl)); (case c5 => decide); (case kB => exact locs rfl); (case c2 => exact rfl); (case c3 => exact rfl); (case c4 => exact rfl); k_whole; intro g' L' h' FG' F' N' B' X' T'; (try dsimp only); (try k_lift B'); (try k_fold))
  (replace F' : Fr g' L' h' (fun y => List.lookup y [(Str.ofString "size", Value.int az ts), (Str.ofString "fields", Value.ref Rf), (Str.ofString "name", Value.ref Rn), (Str.ofString "one", Value.ref O)]) := F')
  k_steps
  · exfalso
    rename (_ != _) = true => q9
    rw [bne_self_eq_false] at q9
    cases q9
  · exfalso
    rename _ ≠ _ => q9
    exact q9 (show a9 + a6 * 65536 = a9 + 65536 * a6 by omega)
  · rw [beq_self_eq_true]
    refine' ret _ _ ?f ?n
    case f => k_asm
    case n => k_asm
  · exfalso
    rename az ≠ az => q9
    exact q9 rfl
end

section
variable {M : Model} {A : Around} {E : Value → Shared → Prop} {s : Shared} {env : Env} {pos : Pos}
theorem splicedC_e {e : Expr} {rest : List Expr} {Q : List Value → Shared → Prop} (h : wpC M A (eval e env) (fun v s₁ => wpC M A (spliced (backTo pos (starEach rest env))) (fun vs s₂ => Q (v :: vs) s₂) E s₁) E s)
    (he : starEach (e :: rest) env = (false, eval e env) :: starEach rest env := by rfl) : wpC M A (spliced (backTo pos (starEach (e :: rest) env))) Q E s := by
  rw [he]
  exact splicedC_cons h
end
section
variable {w : World} {dp un : Nat} {gd : Option (List Code)} {cn : Str} {cs : Scope} {a : Addr} {ccd : Value} {cl : List (Str × Addr)} {A₀ : Around} {h₀ : Heap} {L : Addr} {m : Str → Option Value} {news : List (Addr × Obj)} {s : Shared} {Q E : Value → Shared → Prop} {loose : List Str} {mean : ExcName → Option Value} {mg mb : Str → Option Value}
  (B : Below A₀ h₀ [] h₀) (F : Fr h₀ L s.heap m) (X : (Mine.KF w.params).In h₀) (N : News h₀ L s.heap news) (T : Top topProg loose mean mg mb h₀) (hk : cs.kind = .function) (hd : dp + 32 ≤ 500) (hu : un + 640 ≤ 5000)
include B F X N T hk hd hu
theorem ct_lentry_ok {Rn Rf : Addr} {vs ws : List Value} {cn' cf : Nat} {ks : List Int} {bb : Bool} {a0 a1 a2 a3 a4 a5 a6 a7 a8 a9 az : Int} {ts : Tok} (hn : (Rn, listOf vs.toArray cn') ∈ news) (hni : IntsAre vs ks) (ok : NmOk ks bb) (hf : (Rf, listOf ws.toArray cf) ∈ news) (hfi : IntsAre ws [a0, a1, a2, a3, a4, a5, a6, a7, a8, a9])
    (hz0 : 0 ≤ az) (hz : az ≤ 4294967295)
    (ret : ∀ O D R u0 u1 u2 u3 u4 u5 u6 u7 u8 u9 uz G0 G1 G2 G3 G4 G5 G6 G7 G8 G9 G10 G11 G12 G13 G14 G15 G16 G17 c S D2 x b t1 t2 t3 h' tk', Fr h₀ L h' m → News h₀ L h' ((O, instObj 482 D) :: (D, dictOf [{ hash := PyData.keyHash w.params (Str.ofString "name"), key := Value.str (Str.ofString "name") G0, val := Value.ref S }, { hash := PyData.keyHash w.params (Str.ofString "attr"), key := Value.str (Str.ofString "attr") G1, val := Value.int a0 u0 }, { hash := PyData.keyHash w.params (Str.ofString "ntres"), key := Value.str (Str.ofString "ntres") G2, val := Value.int a1 u1 }, { hash := PyData.keyHash w.params (Str.ofString "crttimetenth"), key := Value.str (Str.ofString "crttimetenth") G3, val := Value.int a2 u2 }, { hash := PyData.keyHash w.params (Str.ofString "crttime"), key := Value.str (Str.ofString "crttime") G4, val := Value.int a3 u3 }, { hash := PyData.keyHash w.params (Str.ofString "crtdate"), key := Value.str (Str.ofString "crtdate") G5, val := Value.int a4 u4 }, { hash := PyData.keyHash w.params (Str.ofString "lstaccessdate"), key := Value.str (Str.ofString "lstaccessdate") G6, val := Value.int a5 u5 }, { hash := PyData.keyHash w.params (Str.ofString "fstclushi"), key := Value.str (Str.ofString "fstclushi") G7, val := Value.int a6 u6 }, { hash := PyData.keyHash w.params (Str.ofString "wrttime"), key := Value.str (Str.ofString "wrttime") G8, val := Value.int a7 u7 }, { hash := PyData.keyHash w.params (Str.ofString "wrtdate"), key := Value.str (Str.ofString "wrtdate") G9, val := Value.int a8 u8 }, { hash := PyData.keyHash w.params (Str.ofString "fstcluslo"), key := Value.str (Str.ofString "fstcluslo") G10, val := Value.int a9 u9 }, { hash := PyData.keyHash w.params (Str.ofString "filesize"), key := Value.str (Str.ofString "filesize") G11, val := Value.int az uz }, { hash := PyData.keyHash w.params (Str.ofString "_lazy_load"), key := Value.str (Str.ofString "_lazy_load") G12, val := Value.bool false }, { hash := PyData.keyHash w.params (Str.ofString "_fs"), key := Value.str (Str.ofString "_fs") G13, val := Value.none }, { hash := PyData.keyHash w.params (Str.ofString "_parent"), key := Value.str (Str.ofString "_parent") G14, val := Value.none }, { hash := PyData.keyHash w.params (Str.ofString "lfn_entry"), key := Value.str (Str.ofString "lfn_entry") G15, val := Value.none }, { hash := PyData.keyHash w.params (Str.ofString "_dirs"), key := Value.str (Str.ofString "_dirs") G16, val := Value.ref R }, { hash := PyData.keyHash w.params (Str.ofString "_encoding"), key := Value.str (Str.ofString "_encoding") G17, val := Value.str (Str.ofString "latin-1") 479 }] 18) :: (R, listOf #[] c) :: (x, baOf b) :: (S, instObj 680 D2) :: (D2, dictOf [{ hash := PyData.keyHash w.params (Str.ofString "name"), key := Value.str (Str.ofString "name") t1, val := Value.ref x }, { hash := PyData.keyHash w.params (Str.ofString "encoding"), key := Value.str (Str.ofString "encoding") t2, val := Value.str (Str.ofString "latin-1") 479 }, { hash := PyData.keyHash w.params (Str.ofString "initialized"), key := Value.str (Str.ofString "initialized") t3, val := Value.bool true }] 3) :: news) → KBw.bInts b = ks → (∀ p ∈ news, p.1 < D2) → D2 < S → S < x → x < D → D < O → O < R → Q (.ref O) { s with heap := h', toks := tk' }) :
    wpC (model PySem.Challenge.rw_iw0015_02.row.prog w) (ktrTop dp un (some []) cn cs L a ccd cl []) (call (.ref 731) [.ref Rn, .ref Rf, .int az ts]) Q E s := by
  obtain ⟨w0, w1, w2, w3, w4, w5, w6, w7, w8, w9, rfl⟩ := ints10 hfi
  k_with_none
  (k_with "ite" => (k_closed; first | refine ite_pos (by decide) ?_ | refine ite_neg (by decide) ?_))
  (k_with "execs nil" => (k_here; dsimp only))
  (k_with "execs cons" => (k_here; dsimp only))
  (k_with "call ref" => (k_here; (with_reducible show wpAny _ _ (call (Value.ref (nat_lit 482)) _) _ _ _); k_dflt (refine' ct_entry ?kB ?kF ?kX ?kN ?kT ?kk ?kd ?ku ?e0 ?e1 ?_; (case kB => k_asm); (case kF => k_asm); (case kX => k_asm); (case kN => k_asm); (case kT => k_asm); (case kk => first | exact rfl | assumption); (case kd => k_room); (case ku => k_units); (case e0 => omega); (case e1 => omega); k_whole); intro O9 D9 R9 v0 v1 v2 v3 v4 v5 v6 v7 v8 v9 vz j0 j1 j2 j3 j4 j5 j6 j7 j8 j9 j10 j11 j12 j13 j14 j15 j16 j17 c9 h9 tk9 F9 N9 l9 d9 x9; (replace d9 := ltN d9); (replace x9 := ltN x9); (try dsimp only); (try k_fold)))
  revert X; k_fill; intro X
  refine wpC_call ?_
  k_dflt (refine' codeC_defT ?k1 ?k2 ?k3 ?k4 ?k5 ?kA ?kF ?kK ?k6 ?k7 ?k8 ?k9 ?kB ?_ ?c2 ?c3 ?c4 ?c5; (case kA => exact rfl); (case kF => exact rfl); (case kK => first | exact rfl | assumption); (case k1 => k_asm); (case k2 => k_asm); (case k3 => k_asm); (case k4 => k_asm); (case k5 => k_asm); (case k6 => k_is); (case k7 => k_is); (case k8 => k_room); (case k9 => exact kp_binds (binds := [(Str.ofString "name", Value.ref Rn), (Str.ofString "fields", Value.ref Rf), (Str.ofString "size", Value.int az ts)]) (by k_in) (fun S => by kernel_rfl)); (case c5 => decide); (case kB => exact locs rfl); (case c2 => exact rfl); (case c3 => exact rfl); (case c4 => exact rfl); k_whole; intro g' L' h' FG' F' N' B' X' T' lv' kp' lt'; (try dsimp only); (try k_lift B'))
  (replace F' : Fr g' L' h' (fun y => List.lookup y [(Str.ofString "size", Value.int az ts), (Str.ofString "fields", Value.ref Rf), (Str.ofString "name", Value.ref Rn)]) := F')
  refine execsC_cons (execC_Try ?_)
  refine execsC_cons (execC_Return (evalC_Call ?_))
  k_steps
  k_dflt (refine' callWithC_K (K := KF w.params) ?k1 ?_ ?he ?hp; (case he => rfl); (case hp => rfl); (case k1 => k_is))
  refine splicedC_e ?_
  refine evalC_Call ?_
  k_steps
  k_dflt (refine' callWithC_K (K := KF w.params) ?k1 ?_ ?he ?hp; (case he => rfl); (case hp => rfl); (case k1 => k_is))
  refine wpC_of ?_
  k_steps
  k_dflt (refine' ct_short ?kB ?kF ?kX ?kN ?kT ?kk ?kd ?ku ?e0 ?e1 ?e2 ?_; (case kB => k_asm); (case kF => k_asm); (case kX => k_asm); (case kN => k_asm); (case kT => k_asm); (case kk => first | exact rfl | assumption); (case kd => k_room); (case ku => k_units); (case e0 => k_mem); (case e1 => first | with_reducible assumption | assumption); (case e2 => assumption); k_whole)
  intro S7 D7 x7 b7 t17 t27 t37 h7 tk7 F7 N7 hb7 l7 d7 x71
  (try dsimp only)
  refine wpC_of ?_
  k_steps
  refine wpC_of ?_
  k_steps
  k_dflt (refine lv' (.ref O9) _ ?_)
  k_steps
  rename Fr h₀ L _ _ => F6
  rename News h₀ L _ _ => N6
  refine' ret _ _ _ _ _ _ _ _ _ _ _ _ _ _ _ _ _ _ _ _ _ _ _ _ _ _ _ _ _ _ _ _ _ _ _ _ _ _ _ _ _ _ ?f ?n ?b ?l ?x1 ?x2 ?x3 ?x4 ?x5
  case f => exact F6
  case n => k_dflt exact N6
  case b => assumption
  case l => assumption
  case x1 => exact d7
  case x2 => exact x71
  case x3 => exact l9 _ (.head _)
  case x4 => exact d9
  case x5 => exact x9
theorem ct_lentry_raise {Rn Rf : Addr} {vs ws : List Value} {cn' cf : Nat} {ks : List Int} {bb : Bool} {a0 a1 a2 a3 a4 a5 a6 a7 a8 a9 az : Int} {ts : Tok} (hn : (Rn, listOf vs.toArray cn') ∈ news) (hni : IntsAre vs ks) (ok : NmOk ks bb) (hf : (Rf, listOf ws.toArray cf) ∈ news) (hfi : IntsAre ws [a0, a1, a2, a3, a4, a5, a6, a7, a8, a9])
    (hz : 4294967295 < az ∧ az < 10 ^ 30)
    (ret : ∀ t0 h' tk', Fr h₀ L h' m → News h₀ L h' news → Q (.int 7 t0) { s with heap := h', toks := tk' }) :
    wpC (model PySem.Challenge.rw_iw0015_02.row.prog w) (ktrTop dp un (some []) cn cs L a ccd cl []) (call (.ref 731) [.ref Rn, .ref Rf, .int az ts]) Q E s := by
  obtain ⟨w0, w1, w2, w3, w4, w5, w6, w7, w8, w9, rfl⟩ := ints10 hfi
  k_with_none
  (k_with "ite" => (k_closed; first | refine ite_pos (by decide) ?_ | refine ite_neg (by decide) ?_))
  (k_with "execs nil" => (k_here; dsimp only))
  (k_with "execs cons" => (k_here; dsimp only))
  (k_with "call ref" => (k_here; (with_reducible show wpAny _ _ (call (Value.ref (nat_lit 482)) _) _ _ _); k_dflt (refine' ct_entry_raise ?kB ?kF ?kX ?kN ?kT ?kk ?kd ?ku ?e0 ?_; (case kB => k_asm); (case kF => k_asm); (case kX => k_asm); (case kN => k_asm); (case kT => k_asm); (case kk => first | exact rfl | assumption); (case kd => k_room); (case ku => k_units); (case e0 => assumption); k_whole); intro e9 d9 oD9 es9 ep9 t79 h9 tk9 R9 v9 ns9 dd9 ss9 nn9))
  revert X; k_fill; intro X
  refine wpC_call ?_
  k_dflt (refine' codeC_defT ?k1 ?k2 ?k3 ?k4 ?k5 ?kA ?kF ?kK ?k6 ?k7 ?k8 ?k9 ?kB ?_ ?c2 ?c3 ?c4 ?c5; (case kA => exact rfl); (case kF => exact rfl); (case kK => first | exact rfl | assumption); (case k1 => k_asm); (case k2 => k_asm); (case k3 => k_asm); (case k4 => k_asm); (case k5 => k_asm); (case k6 => k_is); (case k7 => k_is); (case k8 => k_room); (case k9 => exact kp_binds (binds := [(Str.ofString "name", Value.ref Rn), (Str.ofString "fields", Value.ref Rf), (Str.ofString "size", Value.int az ts)]) (by k_in) (fun S => by kernel_rfl)); (case c5 => decide); (case kB => exact locs rfl); (case c2 => exact rfl); (case c3 => exact rfl); (case c4 => exact rfl); k_whole; intro g' L' h' FG' F' N' B' X' T' lv' kp' lt'; (try dsimp only); (try k_lift B'))
  (replace F' : Fr g' L' h' (fun y => List.lookup y [(Str.ofString "size", Value.int az ts), (Str.ofString "fields", Value.ref Rf), (Str.ofString "name", Value.ref Rn)]) := F')
  refine execsC_cons (execC_Try ?_)
  refine execsC_cons (execC_Return (evalC_Call ?_))
  k_steps
  k_dflt (refine' callWithC_K (K := KF w.params) ?k1 ?_ ?he ?hp; (case he => rfl); (case hp => rfl); (case k1 => k_is))
  refine splicedC_e ?_
  refine evalC_Call ?_
  k_steps
  k_dflt (refine' callWithC_K (K := KF w.params) ?k1 ?_ ?he ?hp; (case he => rfl); (case hp => rfl); (case k1 => k_is))
  refine wpC_of ?_
  k_steps
  k_dflt (refine' ct_short ?kB ?kF ?kX ?kN ?kT ?kk ?kd ?ku ?e0 ?e1 ?e2 ?_; (case kB => k_asm); (case kF => k_asm); (case kX => k_asm); (case kN => k_asm); (case kT => k_asm); (case kk => first | exact rfl | assumption); (case kd => k_room); (case ku => k_units); (case e0 => k_mem); (case e1 => first | with_reducible assumption | assumption); (case e2 => assumption); k_whole)
  intro S7 D7 x7 b7 t17 t27 t37 h7 tk7 F7 N7 hb7 l7 d7 x71
  (try dsimp only)
  refine wpC_of ?_
  k_steps
  refine wpC_of ?_
  k_steps
  have hab : h₀.objs.size ≤ L' := Nat.le_of_lt (Nat.lt_of_le_of_lt FG'.above lt')
  have hLn := fun p hp => raisedD_ne R9 rfl p hp
  k_dflt (refine caught_D (K := KF w.params) (C := 128) (outer := [envX cn cs L a ccd cl]) rfl ns9 hab R9 hLn X (topRead_of T) rfl rfl rfl ?_)
  intro h8 tk8 oe8 F8 N8 g8 c8 d8 hv8 up8
  have hLL : L ≠ L' := Nat.ne_of_lt lt'
  obtain ⟨oL, esL, epL, hL9, hLd, hLk, hLf⟩ := v9.ns FG'.ns
  obtain ⟨slL, hL8⟩ := up8 L oL hLL hL9 (fun vs z => by rw [hLd] at z; cases z)
  have hLn0 : h₀.get? L = none := by
    cases z : h₀.get? L with
    | none => rfl
    | some o => exact absurd (Nat.lt_of_lt_of_le (Heap.lt_size z) F.above) (Nat.lt_irrefl _)
  have N8 : News h₀ L' h8 ((d9, oD9) :: (L, { oL with slots := slL }) :: news) := fun p hp => by
    rcases List.mem_cons.mp hp with rfl | hp
    · exact N8 _ (.head _)
    rcases List.mem_cons.mp hp with rfl | hp
    · exact ⟨hL8, hLL, hLn0⟩
    · exact N8 p (.tail _ (.tail _ (.tail _ (.tail _ hp))))
  clear F' N' B' X' T' lv' F7 N7
  k_steps
  have hI : InstAt h8 e9 oe8 128 (some oD9) := ⟨g8, c8, by obtain ⟨vs8, v8⟩ := hv8; unfold notCls; rw [v8], by rw [d8]; exact (N8 _ (.head _)).1⟩
  have hf : findObj (KF w.params) 128 (some oD9) (Str.ofString "errno") = some (.value (.int 7 t79)) := findObj_own (by k_is) (attr := none) (by k_is) rfl (lookIn_of dd9 ((nn9 _).trans (if_pos rfl)))
  k_dflt (refine xget_K (K := KF w.params) (X.keeps F8.keep) hI (by k_is) (by k_is) hf rfl rfl rfl rfl ?_)
  intro k7
  k_steps
  rename Fr h₀ L' _ _ => F7
  rename News h₀ L' _ _ => N7
  exact ret _ _ _ ⟨⟨_, esL, epL, (N7 _ (.tail _ (.head _))).1, hLd, hLk, hLf⟩, F7.keep, F.above⟩ (fun p hp => ⟨(N7 p (.tail _ (.tail _ hp))).1, (N p hp).2⟩)
end

theorem mask63 (x : Int) : Builtin.bitAnd x 63 = x.fmod 64 := kbt_maskF x 6
section
variable {w : World} {dp un : Nat} {gd : Option (List Code)} {cn : Str} {cs : Scope} {a : Addr} {ccd : Value} {cl : List (Str × Addr)} {outer : List Env} {A₀ : Around} {base h₀ : Heap} {L : Addr} {m : Str → Option Value} {news : List (Addr × Obj)} {s : Shared} {Q E : Value → Shared → Prop} {loose : List Str} {mean : ExcName → Option Value} {mg mb : Str → Option Value}
  (B : Below A₀ base outer h₀) (F : Fr h₀ L s.heap m) (X : (Mine.KF w.params).In h₀) (N : News h₀ L s.heap news) (T : Top topProg loose mean mg mb h₀) (hk : cs.kind = .function) (hd : dp + 4 ≤ 500) (hu : un + 80 ≤ 5000)
include B F X N T hk hd hu
theorem ct_is {x y : Bool}
    (ret : ∀ h' tk', Fr h₀ L h' m → News h₀ L h' news → Q (.bool (x == y)) { s with heap := h', toks := tk' }) :
    wpAny (model PySem.Challenge.rw_iw0015_02.row.prog w) (ktrTop dp un gd cn cs L a ccd cl outer) (call (.ref 745) [.bool x, .bool y]) Q E s := by
  k_with_none
  (k_with "ite" => (k_closed; first | refine ite_pos (by decide) ?_ | refine ite_neg (by decide) ?_))
  (k_with "execs nil" => (k_here; dsimp only))
  (k_with "execs cons" => (k_here; dsimp only))
  revert X; k_fill; intro X
  refine wpAny_call ?_
  k_dflt (refine' code_def ?k1 ?k2 ?k3 ?k4 ?k5 ?kA ?kF ?kK ?k6 ?k7 ?k8 ?k9 ?kB ?_ ?c2 ?c3 ?c4 ?c5; (case kA => exact rfl); (case kF => exact rfl); (case kK => first | exact rfl | assumption); (case k1 => k_asm); (case k2 => k_asm); (case k3 => k_asm); (case k4 => k_asm); (case k5 => k_asm); (case k6 => k_is); (case k7 => k_is); (case k8 => k_room); (case k9 => first | exact BindsTo.of_eq rfl | exact binds_K (by k_in) rfl (by k_is) rfl rfl rfl); (case c5 => decide); (case kB => exact locs rfl); (case c2 => exact rfl); (case c3 => exact rfl); (case c4 => exact rfl); k_whole; intro g' L' h' FG' F' N' B' X' T'; (try dsimp only); (try k_lift B'); (try k_fold))
  k_steps
  · refine' ret _ _ ?f ?n
    case f => k_asm
    case n => k_asm
theorem ct_lfn {o i : Int} {to ti : Tok}
    (ret : ∀ h' tk', Fr h₀ L h' m → News h₀ L h' news → Q (.bool (i.fmod 64 == 15 && o != 229)) { s with heap := h', toks := tk' }) :
    wpAny (model PySem.Challenge.rw_iw0015_02.row.prog w) (ktrTop dp un gd cn cs L a ccd cl outer) (call (.ref 537) [.int o to, .int i ti]) Q E s := by
  k_with_none
  (k_with "ite" => (k_closed; first | refine ite_pos (by decide) ?_ | refine ite_neg (by decide) ?_))
  (k_with "execs nil" => (k_here; dsimp only))
  (k_with "execs cons" => (k_here; dsimp only))
  revert X; k_fill; intro X
  refine wpAny_call ?_
  k_dflt (refine' code_def ?k1 ?k2 ?k3 ?k4 ?k5 ?kA ?kF ?kK ?k6 ?k7 ?k8 ?k9 ?kB ?_ ?c2 ?c3 ?c4 ?c5; (case kA => exact rfl); (case kF => exact rfl); (case kK => first | exact rfl | assumption); (case k1 => k_asm); (case k2 => k_asm); (case k3 => k_asm); (case k4 => k_asm); (case k5 => k_asm); (case k6 => k_is); (case k7 => k_is); (case k8 => k_room); (case k9 => exact kp_binds (binds := [(Str.ofString "LDIR_Ord", Value.int o to), (Str.ofString "LDIR_Attr", Value.int i ti)]) (by k_in) (fun S => by kernel_rfl)); (case c5 => decide); (case kB => exact locs rfl); (case c2 => exact rfl); (case c3 => exact rfl); (case c4 => exact rfl); k_whole; intro g' L' h' FG' F' N' B' X' T'; (try dsimp only); (try k_lift B'); (try k_fold))
  (replace F' : Fr g' L' h' (fun y => List.lookup y [(Str.ofString "LDIR_Attr", Value.int i ti), (Str.ofString "LDIR_Ord", Value.int o to)]) := F')
  k_steps
  · rename Builtin.bitAnd i 63 = 15 => e
    rw [mask63] at e
    have e2 : (o != 229) = (i.fmod 64 == 15 && o != 229) := by rw [e]; rfl
    rw [e2]
    refine' ret _ _ ?f ?n
    case f => k_asm
    case n => k_asm
  · have e2 : (Builtin.bitAnd i 63 == 15) = (i.fmod 64 == 15 && o != 229) := by
      rw [mask63]
      have : ¬ Builtin.bitAnd i 63 = 15 := by assumption
      rw [mask63] at this
      rw [beq_false_of_ne this]; rfl
    rw [e2]
    refine' ret _ _ ?f ?n
    case f => k_asm
    case n => k_asm
end
section
variable {w : World} {dp un : Nat} {gd : Option (List Code)} {cn : Str} {cs : Scope} {a : Addr} {ccd : Value} {cl : List (Str × Addr)} {outer : List Env} {A₀ : Around} {base h₀ : Heap} {L : Addr} {m : Str → Option Value} {news : List (Addr × Obj)} {s : Shared} {Q E : Value → Shared → Prop} {loose : List Str} {mean : ExcName → Option Value} {mg mb : Str → Option Value}
  (B : Below A₀ base outer h₀) (F : Fr h₀ L s.heap m) (X : (Mine.KF w.params).In h₀) (N : News h₀ L s.heap news) (T : Top topProg loose mean mg mb h₀) (hk : cs.kind = .function) (hd : dp + 4 ≤ 500) (hu : un + 80 ≤ 5000)
include B F X N T hk hd hu
theorem ct_is_eq {x y : Bool} (e : x = y)
    (ret : ∀ h' tk', Fr h₀ L h' m → News h₀ L h' news → Q (.bool true) { s with heap := h', toks := tk' }) :
    wpAny (model PySem.Challenge.rw_iw0015_02.row.prog w) (ktrTop dp un gd cn cs L a ccd cl outer) (call (.ref 745) [.bool x, .bool y]) Q E s := by
  subst e
  exact ct_is B F X N T hk hd hu fun h' tk' F' N' => by rw [beq_self_eq_true]; exact ret h' tk' F' N'
end

theorem part_mod {k a : Int} (h0 : 0 ≤ k) (h1 : k < 0 + ((64 : Nat) : Int)) : (k + a.fdiv 64 * 64).fmod 64 = k := by
  rw [Int.fmod_eq_emod_of_nonneg _ (by decide), Int.fdiv_eq_ediv_of_nonneg _ (by decide)]
  omega
section
variable {w : World} {dp un : Nat} {gd : Option (List Code)} {cn : Str} {cs : Scope} {a : Addr} {ccd : Value} {cl : List (Str × Addr)} {outer : List Env} {A₀ : Around} {base h₀ : Heap} {L : Addr} {m : Str → Option Value} {news : List (Addr × Obj)} {s : Shared} {Q E : Value → Shared → Prop} {loose : List Str} {mean : ExcName → Option Value} {mg mb : Str → Option Value}
  (B : Below A₀ base outer h₀) (F : Fr h₀ L s.heap m) (X : (Mine.KF w.params).In h₀) (N : News h₀ L s.heap news) (T : Top topProg loose mean mg mb h₀) (hk : cs.kind = .function) (hd : dp + 16 ≤ 500) (hu : un + 320 ≤ 5000)
include B F X N T hk hd hu
theorem ct_part {a0 f : Int} {ta tf : Tok} (h0 : 0 ≤ a0 ∧ a0 < 256)
    (ret : ∀ h' tk', Fr h₀ L h' m → News h₀ L h' news → Q (.bool true) { s with heap := h', toks := tk' }) :
    wpAny (model PySem.Challenge.rw_iw0015_02.row.prog w) (ktrTop dp un gd cn cs L a ccd cl outer) (call (.ref 757) [.int a0 ta, .int f tf]) Q E s := by
  k_with_none
  (k_with "ite" => (k_closed; first | refine ite_pos (by decide) ?_ | refine ite_neg (by decide) ?_))
  (k_with "execs nil" => (k_here; dsimp only))
  (k_with "execs cons" => (k_here; dsimp only))
  (k_with "call ref" => (k_here; (with_reducible show wpAny _ _ (call (Value.ref (nat_lit 745)) _) _ _ _); k_dflt (refine' ct_is_eq ?kB ?kF ?kX ?kN ?kT ?kk ?kd ?ku ?e0 ?_; (case kB => k_asm); (case kF => k_asm); (case kX => k_asm); (case kN => k_asm); (case kT => k_asm); (case kk => first | exact rfl | assumption); (case kd => k_room); (case ku => k_units); (case e0 => (first | assumption | with_unfolding_all rfl)); k_whole); intro h9 tk9 F9 N9; (try dsimp only); (try k_fold)))
  (k_with "call ref" => (k_here; (with_reducible show wpAny _ _ (call (Value.ref (nat_lit 537)) _) _ _ _); k_dflt (refine' ct_lfn ?kB ?kF ?kX ?kN ?kT ?kk ?kd ?ku  ?_; (case kB => k_asm); (case kF => k_asm); (case kX => k_asm); (case kN => k_asm); (case kT => k_asm); (case kk => first | exact rfl | assumption); (case kd => k_room); (case ku => k_units); k_whole); intro h9 tk9 F9 N9; (try dsimp only); (try k_fold)))
  (k_with "exec For Name Call cons nil" => (k_here; (with_reducible rename Fr _ _ _ _ => F9); k_dflt (with_unfolding_all refine' For_invVF F9 ?k1 ?k2 ?_; (case k1 => exact rfl); (case k2 => exact rfl); k_whole)))
  (k_with "pyIter ref" => (k_here; (with_reducible show wpAny _ _ (pyIter (Value.ref _)) (fun it s₂ => LoopAtV _ _ _ _ _ _ _ _ _ it s₂) _ _); k_dflt (refine' iter_ra2 (n := 64) (y := Str.ofString "whole") ?hh ?F ?N ?hr ?hs ?hn ?_ ?_; (case hh => exact rfl); (case F => k_asm); (case N => k_asm); (case hr => assumption); (case hs => decide); (case hn => rfl); k_whole); all_goals (first | (intro k8 t8 u8 h8 tk8 own8 lo8 hi8 F8 N8; (try k_fold)) | (intro u8 h8 tk8 F8 N8; (try dsimp only); (try k_fold)))))
  revert X; k_fill; intro X
  refine wpAny_call ?_
  k_dflt (refine' code_def ?k1 ?k2 ?k3 ?k4 ?k5 ?kA ?kF ?kK ?k6 ?k7 ?k8 ?k9 ?kB ?_ ?c2 ?c3 ?c4 ?c5; (case kA => exact rfl); (case kF => exact rfl); (case kK => first | exact rfl | assumption); (case k1 => k_asm); (case k2 => k_asm); (case k3 => k_asm); (case k4 => k_asm); (case k5 => k_asm); (case k6 => k_is); (case k7 => k_is); (case k8 => k_room); (case k9 => exact kp_binds (binds := [(Str.ofString "attr", Value.int a0 ta), (Str.ofString "first", Value.int f tf)]) (by k_in) (fun S => by kernel_rfl)); (case c5 => decide); (case kB => exact locs rfl); (case c2 => exact rfl); (case c3 => exact rfl); (case c4 => exact rfl); k_whole; intro g' L' h' FG' F' N' B' X' T'; (try dsimp only); (try k_lift B'); (try k_fold))
  (replace F' : Fr g' L' h' (fun y => List.lookup y [(Str.ofString "first", Value.int f tf), (Str.ofString "attr", Value.int a0 ta)]) := F')
  k_steps
  · rename Fr g' _ _ _ => F9
    rename News g' _ _ _ => N9
    refine InvEnd.intro F9 N9 (fun p hp => hp) fun z h1 h2 => ?_
    simp only [if_neg h1, if_neg h2]
  · exfalso
    rename k8 = 15 => e9
    rename _ = false => q9
    rw [part_mod lo8 hi8, e9] at q9
    cases q : (f != 229) <;> rw [q] at q9 <;> exact absurd q9 (by decide)
  · rename Fr g' _ _ _ => F9
    rename News g' _ _ _ => N9
    refine InvEnd.intro F9 N9 (fun p hp => hp) fun z h1 h2 => ?_
    simp only [if_neg h1, if_neg h2]
  · exfalso
    rename k8 ≠ 15 => e9
    rename _ = false => q9
    rw [part_mod lo8 hi8, beq_false_of_ne e9, Bool.false_and] at q9
    exact absurd q9 (by decide)
  · refine' ret _ _ ?f ?n
    case f => k_asm
    case n => k_asm
end

theorem bit_eq (x : Int) (k : Nat) : decide (0 < Builtin.bitAnd (2 ^ k) x) = decide ((x.fdiv (2 ^ k)).fmod 2 = 1) := by
  have p : (0 : Int) < 2 ^ k := kbt_pos k
  rw [kbt_bitF']
  by_cases h : (x.fdiv (2 ^ k)).fmod 2 = 1
  · rw [if_pos h, decide_eq_true p, decide_eq_true h]
  · rw [if_neg h, decide_eq_false h]
    rfl
section
variable {w : World} {dp un : Nat} {gd : Option (List Code)} {cn : Str} {cs : Scope} {a : Addr} {ccd : Value} {cl : List (Str × Addr)} {outer : List Env} {A₀ : Around} {base h₀ : Heap} {L : Addr} {m : Str → Option Value} {news : List (Addr × Obj)} {s : Shared} {Q E : Value → Shared → Prop} {loose : List Str} {mean : ExcName → Option Value} {mg mb : Str → Option Value}
  (B : Below A₀ base outer h₀) (F : Fr h₀ L s.heap m) (X : (Mine.KF w.params).In h₀) (N : News h₀ L s.heap news) (T : Top topProg loose mean mg mb h₀) (hk : cs.kind = .function) (hd : dp + 8 ≤ 500) (hu : un + 160 ≤ 5000)
include B F X N T hk hd hu
theorem ct_ro {O D S R : Addr} {a0 a1 a2 a3 a4 a5 a6 a7 a8 a9 az : Int} {u0 u1 u2 u3 u4 u5 u6 u7 u8 u9 uz G0 G1 G2 G3 G4 G5 G6 G7 G8 G9 G10 G11 G12 G13 G14 G15 G16 G17 ue : Tok} (hO : (O, instObj 482 D) ∈ news) (hD : (D, dictOf [{ hash := PyData.keyHash w.params (Str.ofString "name"), key := Value.str (Str.ofString "name") G0, val := Value.ref S }, { hash := PyData.keyHash w.params (Str.ofString "attr"), key := Value.str (Str.ofString "attr") G1, val := Value.int a0 u0 }, { hash := PyData.keyHash w.params (Str.ofString "ntres"), key := Value.str (Str.ofString "ntres") G2, val := Value.int a1 u1 }, { hash := PyData.keyHash w.params (Str.ofString "crttimetenth"), key := Value.str (Str.ofString "crttimetenth") G3, val := Value.int a2 u2 }, { hash := PyData.keyHash w.params (Str.ofString "crttime"), key := Value.str (Str.ofString "crttime") G4, val := Value.int a3 u3 }, { hash := PyData.keyHash w.params (Str.ofString "crtdate"), key := Value.str (Str.ofString "crtdate") G5, val := Value.int a4 u4 }, { hash := PyData.keyHash w.params (Str.ofString "lstaccessdate"), key := Value.str (Str.ofString "lstaccessdate") G6, val := Value.int a5 u5 }, { hash := PyData.keyHash w.params (Str.ofString "fstclushi"), key := Value.str (Str.ofString "fstclushi") G7, val := Value.int a6 u6 }, { hash := PyData.keyHash w.params (Str.ofString "wrttime"), key := Value.str (Str.ofString "wrttime") G8, val := Value.int a7 u7 }, { hash := PyData.keyHash w.params (Str.ofString "wrtdate"), key := Value.str (Str.ofString "wrtdate") G9, val := Value.int a8 u8 }, { hash := PyData.keyHash w.params (Str.ofString "fstcluslo"), key := Value.str (Str.ofString "fstcluslo") G10, val := Value.int a9 u9 }, { hash := PyData.keyHash w.params (Str.ofString "filesize"), key := Value.str (Str.ofString "filesize") G11, val := Value.int az uz }, { hash := PyData.keyHash w.params (Str.ofString "_lazy_load"), key := Value.str (Str.ofString "_lazy_load") G12, val := Value.bool false }, { hash := PyData.keyHash w.params (Str.ofString "_fs"), key := Value.str (Str.ofString "_fs") G13, val := Value.none }, { hash := PyData.keyHash w.params (Str.ofString "_parent"), key := Value.str (Str.ofString "_parent") G14, val := Value.none }, { hash := PyData.keyHash w.params (Str.ofString "lfn_entry"), key := Value.str (Str.ofString "lfn_entry") G15, val := Value.none }, { hash := PyData.keyHash w.params (Str.ofString "_dirs"), key := Value.str (Str.ofString "_dirs") G16, val := Value.ref R }, { hash := PyData.keyHash w.params (Str.ofString "_encoding"), key := Value.str (Str.ofString "_encoding") G17, val := Value.str (Str.ofString "latin-1") ue }] 18) ∈ news)
    (ret : ∀ h' tk', Fr h₀ L h' m → News h₀ L h' news → Q (.bool (decide ((a0.fdiv 1).fmod 2 = 1))) { s with heap := h', toks := tk' }) :
    wpAny (model PySem.Challenge.rw_iw0015_02.row.prog w) (ktrTop dp un gd cn cs L a ccd cl outer) (call (.ref 345) [.ref O]) Q E s := by
  k_with_none
  (k_with "ite" => (k_closed; first | refine ite_pos (by decide) ?_ | refine ite_neg (by decide) ?_))
  (k_with "execs nil" => (k_here; dsimp only))
  (k_with "execs cons" => (k_here; dsimp only))
  revert X; k_fill; intro X
  refine wpAny_call ?_
  k_dflt (refine' code_def ?k1 ?k2 ?k3 ?k4 ?k5 ?kA ?kF ?kK ?k6 ?k7 ?k8 ?k9 ?kB ?_ ?c2 ?c3 ?c4 ?c5; (case kA => exact rfl); (case kF => exact rfl); (case kK => first | exact rfl | assumption); (case k1 => k_asm); (case k2 => k_asm); (case k3 => k_asm); (case k4 => k_asm); (case k5 => k_asm); (case k6 => k_is); (case k7 => k_is); (case k8 => k_room); (case k9 => exact kp_binds (binds := [(Str.ofString "self", Value.ref O)]) (by k_in) (fun S => by kernel_rfl)); (case c5 => decide); (case kB => exact locs rfl); (case c2 => exact rfl); (case c3 => exact rfl); (case c4 => exact rfl); k_whole; intro g' L' h' FG' F' N' B' X' T'; (try dsimp only); (try k_lift B'); (try k_fold))
  (replace F' : Fr g' L' h' (fun y => List.lookup y [(Str.ofString "self", Value.ref O)]) := F')
  k_steps
  · rw [show decide (0 < Builtin.bitAnd 1 a0) = decide ((a0.fdiv 1).fmod 2 = 1) from bit_eq a0 0]
    refine' ret _ _ ?f ?n
    case f => k_asm
    case n => k_asm
theorem ct_hid {O D S R : Addr} {a0 a1 a2 a3 a4 a5 a6 a7 a8 a9 az : Int} {u0 u1 u2 u3 u4 u5 u6 u7 u8 u9 uz G0 G1 G2 G3 G4 G5 G6 G7 G8 G9 G10 G11 G12 G13 G14 G15 G16 G17 ue : Tok} (hO : (O, instObj 482 D) ∈ news) (hD : (D, dictOf [{ hash := PyData.keyHash w.params (Str.ofString "name"), key := Value.str (Str.ofString "name") G0, val := Value.ref S }, { hash := PyData.keyHash w.params (Str.ofString "attr"), key := Value.str (Str.ofString "attr") G1, val := Value.int a0 u0 }, { hash := PyData.keyHash w.params (Str.ofString "ntres"), key := Value.str (Str.ofString "ntres") G2, val := Value.int a1 u1 }, { hash := PyData.keyHash w.params (Str.ofString "crttimetenth"), key := Value.str (Str.ofString "crttimetenth") G3, val := Value.int a2 u2 }, { hash := PyData.keyHash w.params (Str.ofString "crttime"), key := Value.str (Str.ofString "crttime") G4, val := Value.int a3 u3 }, { hash := PyData.keyHash w.params (Str.ofString "crtdate"), key := Value.str (Str.ofString "crtdate") G5, val := Value.int a4 u4 }, { hash := PyData.keyHash w.params (Str.ofString "lstaccessdate"), key := Value.str (Str.ofString "lstaccessdate") G6, val := Value.int a5 u5 }, { hash := PyData.keyHash w.params (Str.ofString "fstclushi"), key := Value.str (Str.ofString "fstclushi") G7, val := Value.int a6 u6 }, { hash := PyData.keyHash w.params (Str.ofString "wrttime"), key := Value.str (Str.ofString "wrttime") G8, val := Value.int a7 u7 }, { hash := PyData.keyHash w.params (Str.ofString "wrtdate"), key := Value.str (Str.ofString "wrtdate") G9, val := Value.int a8 u8 }, { hash := PyData.keyHash w.params (Str.ofString "fstcluslo"), key := Value.str (Str.ofString "fstcluslo") G10, val := Value.int a9 u9 }, { hash := PyData.keyHash w.params (Str.ofString "filesize"), key := Value.str (Str.ofString "filesize") G11, val := Value.int az uz }, { hash := PyData.keyHash w.params (Str.ofString "_lazy_load"), key := Value.str (Str.ofString "_lazy_load") G12, val := Value.bool false }, { hash := PyData.keyHash w.params (Str.ofString "_fs"), key := Value.str (Str.ofString "_fs") G13, val := Value.none }, { hash := PyData.keyHash w.params (Str.ofString "_parent"), key := Value.str (Str.ofString "_parent") G14, val := Value.none }, { hash := PyData.keyHash w.params (Str.ofString "lfn_entry"), key := Value.str (Str.ofString "lfn_entry") G15, val := Value.none }, { hash := PyData.keyHash w.params (Str.ofString "_dirs"), key := Value.str (Str.ofString "_dirs") G16, val := Value.ref R }, { hash := PyData.keyHash w.params (Str.ofString "_encoding"), key := Value.str (Str.ofString "_encoding") G17, val := Value.str (Str.ofString "latin-1") ue }] 18) ∈ news)
    (ret : ∀ h' tk', Fr h₀ L h' m → News h₀ L h' news → Q (.bool (decide ((a0.fdiv 2).fmod 2 = 1))) { s with heap := h', toks := tk' }) :
    wpAny (model PySem.Challenge.rw_iw0015_02.row.prog w) (ktrTop dp un gd cn cs L a ccd cl outer) (call (.ref 352) [.ref O]) Q E s := by
  k_with_none
  (k_with "ite" => (k_closed; first | refine ite_pos (by decide) ?_ | refine ite_neg (by decide) ?_))
  (k_with "execs nil" => (k_here; dsimp only))
  (k_with "execs cons" => (k_here; dsimp only))
  revert X; k_fill; intro X
  refine wpAny_call ?_
  k_dflt (refine' code_def ?k1 ?k2 ?k3 ?k4 ?k5 ?kA ?kF ?kK ?k6 ?k7 ?k8 ?k9 ?kB ?_ ?c2 ?c3 ?c4 ?c5; (case kA => exact rfl); (case kF => exact rfl); (case kK => first | exact rfl | assumption); (case k1 => k_asm); (case k2 => k_asm); (case k3 => k_asm); (case k4 => k_asm); (case k5 => k_asm); (case k6 => k_is); (case k7 => k_is); (case k8 => k_room); (case k9 => exact kp_binds (binds := [(Str.ofString "self", Value.ref O)]) (by k_in) (fun S => by kernel_rfl)); (case c5 => decide); (case kB => exact locs rfl); (case c2 => exact rfl); (case c3 => exact rfl); (case c4 => exact rfl); k_whole; intro g' L' h' FG' F' N' B' X' T'; (try dsimp only); (try k_lift B'); (try k_fold))
  (replace F' : Fr g' L' h' (fun y => List.lookup y [(Str.ofString "self", Value.ref O)]) := F')
  k_steps
  · rw [show decide (0 < Builtin.bitAnd 2 a0) = decide ((a0.fdiv 2).fmod 2 = 1) from bit_eq a0 1]
    refine' ret _ _ ?f ?n
    case f => k_asm
    case n => k_asm
theorem ct_sys {O D S R : Addr} {a0 a1 a2 a3 a4 a5 a6 a7 a8 a9 az : Int} {u0 u1 u2 u3 u4 u5 u6 u7 u8 u9 uz G0 G1 G2 G3 G4 G5 G6 G7 G8 G9 G10 G11 G12 G13 G14 G15 G16 G17 ue : Tok} (hO : (O, instObj 482 D) ∈ news) (hD : (D, dictOf [{ hash := PyData.keyHash w.params (Str.ofString "name"), key := Value.str (Str.ofString "name") G0, val := Value.ref S }, { hash := PyData.keyHash w.params (Str.ofString "attr"), key := Value.str (Str.ofString "attr") G1, val := Value.int a0 u0 }, { hash := PyData.keyHash w.params (Str.ofString "ntres"), key := Value.str (Str.ofString "ntres") G2, val := Value.int a1 u1 }, { hash := PyData.keyHash w.params (Str.ofString "crttimetenth"), key := Value.str (Str.ofString "crttimetenth") G3, val := Value.int a2 u2 }, { hash := PyData.keyHash w.params (Str.ofString "crttime"), key := Value.str (Str.ofString "crttime") G4, val := Value.int a3 u3 }, { hash := PyData.keyHash w.params (Str.ofString "crtdate"), key := Value.str (Str.ofString "crtdate") G5, val := Value.int a4 u4 }, { hash := PyData.keyHash w.params (Str.ofString "lstaccessdate"), key := Value.str (Str.ofString "lstaccessdate") G6, val := Value.int a5 u5 }, { hash := PyData.keyHash w.params (Str.ofString "fstclushi"), key := Value.str (Str.ofString "fstclushi") G7, val := Value.int a6 u6 }, { hash := PyData.keyHash w.params (Str.ofString "wrttime"), key := Value.str (Str.ofString "wrttime") G8, val := Value.int a7 u7 }, { hash := PyData.keyHash w.params (Str.ofString "wrtdate"), key := Value.str (Str.ofString "wrtdate") G9, val := Value.int a8 u8 }, { hash := PyData.keyHash w.params (Str.ofString "fstcluslo"), key := Value.str (Str.ofString "fstcluslo") G10, val := Value.int a9 u9 }, { hash := PyData.keyHash w.params (Str.ofString "filesize"), key := Value.str (Str.ofString "filesize") G11, val := Value.int az uz }, { hash := PyData.keyHash w.params (Str.ofString "_lazy_load"), key := Value.str (Str.ofString "_lazy_load") G12, val := Value.bool false }, { hash := PyData.keyHash w.params (Str.ofString "_fs"), key := Value.str (Str.ofString "_fs") G13, val := Value.none }, { hash := PyData.keyHash w.params (Str.ofString "_parent"), key := Value.str (Str.ofString "_parent") G14, val := Value.none }, { hash := PyData.keyHash w.params (Str.ofString "lfn_entry"), key := Value.str (Str.ofString "lfn_entry") G15, val := Value.none }, { hash := PyData.keyHash w.params (Str.ofString "_dirs"), key := Value.str (Str.ofString "_dirs") G16, val := Value.ref R }, { hash := PyData.keyHash w.params (Str.ofString "_encoding"), key := Value.str (Str.ofString "_encoding") G17, val := Value.str (Str.ofString "latin-1") ue }] 18) ∈ news)
    (ret : ∀ h' tk', Fr h₀ L h' m → News h₀ L h' news → Q (.bool (decide ((a0.fdiv 4).fmod 2 = 1))) { s with heap := h', toks := tk' }) :
    wpAny (model PySem.Challenge.rw_iw0015_02.row.prog w) (ktrTop dp un gd cn cs L a ccd cl outer) (call (.ref 359) [.ref O]) Q E s := by
  k_with_none
  (k_with "ite" => (k_closed; first | refine ite_pos (by decide) ?_ | refine ite_neg (by decide) ?_))
  (k_with "execs nil" => (k_here; dsimp only))
  (k_with "execs cons" => (k_here; dsimp only))
  revert X; k_fill; intro X
  refine wpAny_call ?_
  k_dflt (refine' code_def ?k1 ?k2 ?k3 ?k4 ?k5 ?kA ?kF ?kK ?k6 ?k7 ?k8 ?k9 ?kB ?_ ?c2 ?c3 ?c4 ?c5; (case kA => exact rfl); (case kF => exact rfl); (case kK => first | exact rfl | assumption); (case k1 => k_asm); (case k2 => k_asm); (case k3 => k_asm); (case k4 => k_asm); (case k5 => k_asm); (case k6 => k_is); (case k7 => k_is); (case k8 => k_room); (case k9 => exact kp_binds (binds := [(Str.ofString "self", Value.ref O)]) (by k_in) (fun S => by kernel_rfl)); (case c5 => decide); (case kB => exact locs rfl); (case c2 => exact rfl); (case c3 => exact rfl); (case c4 => exact rfl); k_whole; intro g' L' h' FG' F' N' B' X' T'; (try dsimp only); (try k_lift B'); (try k_fold))
  (replace F' : Fr g' L' h' (fun y => List.lookup y [(Str.ofString "self", Value.ref O)]) := F')
  k_steps
  · rw [show decide (0 < Builtin.bitAnd 4 a0) = decide ((a0.fdiv 4).fmod 2 = 1) from bit_eq a0 2]
    refine' ret _ _ ?f ?n
    case f => k_asm
    case n => k_asm
theorem ct_vol {O D S R : Addr} {a0 a1 a2 a3 a4 a5 a6 a7 a8 a9 az : Int} {u0 u1 u2 u3 u4 u5 u6 u7 u8 u9 uz G0 G1 G2 G3 G4 G5 G6 G7 G8 G9 G10 G11 G12 G13 G14 G15 G16 G17 ue : Tok} (hO : (O, instObj 482 D) ∈ news) (hD : (D, dictOf [{ hash := PyData.keyHash w.params (Str.ofString "name"), key := Value.str (Str.ofString "name") G0, val := Value.ref S }, { hash := PyData.keyHash w.params (Str.ofString "attr"), key := Value.str (Str.ofString "attr") G1, val := Value.int a0 u0 }, { hash := PyData.keyHash w.params (Str.ofString "ntres"), key := Value.str (Str.ofString "ntres") G2, val := Value.int a1 u1 }, { hash := PyData.keyHash w.params (Str.ofString "crttimetenth"), key := Value.str (Str.ofString "crttimetenth") G3, val := Value.int a2 u2 }, { hash := PyData.keyHash w.params (Str.ofString "crttime"), key := Value.str (Str.ofString "crttime") G4, val := Value.int a3 u3 }, { hash := PyData.keyHash w.params (Str.ofString "crtdate"), key := Value.str (Str.ofString "crtdate") G5, val := Value.int a4 u4 }, { hash := PyData.keyHash w.params (Str.ofString "lstaccessdate"), key := Value.str (Str.ofString "lstaccessdate") G6, val := Value.int a5 u5 }, { hash := PyData.keyHash w.params (Str.ofString "fstclushi"), key := Value.str (Str.ofString "fstclushi") G7, val := Value.int a6 u6 }, { hash := PyData.keyHash w.params (Str.ofString "wrttime"), key := Value.str (Str.ofString "wrttime") G8, val := Value.int a7 u7 }, { hash := PyData.keyHash w.params (Str.ofString "wrtdate"), key := Value.str (Str.ofString "wrtdate") G9, val := Value.int a8 u8 }, { hash := PyData.keyHash w.params (Str.ofString "fstcluslo"), key := Value.str (Str.ofString "fstcluslo") G10, val := Value.int a9 u9 }, { hash := PyData.keyHash w.params (Str.ofString "filesize"), key := Value.str (Str.ofString "filesize") G11, val := Value.int az uz }, { hash := PyData.keyHash w.params (Str.ofString "_lazy_load"), key := Value.str (Str.ofString "_lazy_load") G12, val := Value.bool false }, { hash := PyData.keyHash w.params (Str.ofString "_fs"), key := Value.str (Str.ofString "_fs") G13, val := Value.none }, { hash := PyData.keyHash w.params (Str.ofString "_parent"), key := Value.str (Str.ofString "_parent") G14, val := Value.none }, { hash := PyData.keyHash w.params (Str.ofString "lfn_entry"), key := Value.str (Str.ofString "lfn_entry") G15, val := Value.none }, { hash := PyData.keyHash w.params (Str.ofString "_dirs"), key := Value.str (Str.ofString "_dirs") G16, val := Value.ref R }, { hash := PyData.keyHash w.params (Str.ofString "_encoding"), key := Value.str (Str.ofString "_encoding") G17, val := Value.str (Str.ofString "latin-1") ue }] 18) ∈ news)
    (ret : ∀ h' tk', Fr h₀ L h' m → News h₀ L h' news → Q (.bool (decide ((a0.fdiv 8).fmod 2 = 1))) { s with heap := h', toks := tk' }) :
    wpAny (model PySem.Challenge.rw_iw0015_02.row.prog w) (ktrTop dp un gd cn cs L a ccd cl outer) (call (.ref 366) [.ref O]) Q E s := by
  k_with_none
  (k_with "ite" => (k_closed; first | refine ite_pos (by decide) ?_ | refine ite_neg (by decide) ?_))
  (k_with "execs nil" => (k_here; dsimp only))
  (k_with "execs cons" => (k_here; dsimp only))
  revert X; k_fill; intro X
  refine wpAny_call ?_
  k_dflt (refine' code_def ?k1 ?k2 ?k3 ?k4 ?k5 ?kA ?kF ?kK ?k6 ?k7 ?k8 ?k9 ?kB ?_ ?c2 ?c3 ?c4 ?c5; (case kA => exact rfl); (case kF => exact rfl); (case kK => first | exact rfl | assumption); (case k1 => k_asm); (case k2 => k_asm); (case k3 => k_asm); (case k4 => k_asm); (case k5 => k_asm); (case k6 => k_is); (case k7 => k_is); (case k8 => k_room); (case k9 => exact kp_binds (binds := [(Str.ofString "self", Value.ref O)]) (by k_in) (fun S => by kernel_rfl)); (case c5 => decide); (case kB => exact locs rfl); (case c2 => exact rfl); (case c3 => exact rfl); (case c4 => exact rfl); k_whole; intro g' L' h' FG' F' N' B' X' T'; (try dsimp only); (try k_lift B'); (try k_fold))
  (replace F' : Fr g' L' h' (fun y => List.lookup y [(Str.ofString "self", Value.ref O)]) := F')
  k_steps
  · rw [show decide (0 < Builtin.bitAnd 8 a0) = decide ((a0.fdiv 8).fmod 2 = 1) from bit_eq a0 3]
    refine' ret _ _ ?f ?n
    case f => k_asm
    case n => k_asm
theorem ct_dir {O D S R : Addr} {a0 a1 a2 a3 a4 a5 a6 a7 a8 a9 az : Int} {u0 u1 u2 u3 u4 u5 u6 u7 u8 u9 uz G0 G1 G2 G3 G4 G5 G6 G7 G8 G9 G10 G11 G12 G13 G14 G15 G16 G17 ue : Tok} (hO : (O, instObj 482 D) ∈ news) (hD : (D, dictOf [{ hash := PyData.keyHash w.params (Str.ofString "name"), key := Value.str (Str.ofString "name") G0, val := Value.ref S }, { hash := PyData.keyHash w.params (Str.ofString "attr"), key := Value.str (Str.ofString "attr") G1, val := Value.int a0 u0 }, { hash := PyData.keyHash w.params (Str.ofString "ntres"), key := Value.str (Str.ofString "ntres") G2, val := Value.int a1 u1 }, { hash := PyData.keyHash w.params (Str.ofString "crttimetenth"), key := Value.str (Str.ofString "crttimetenth") G3, val := Value.int a2 u2 }, { hash := PyData.keyHash w.params (Str.ofString "crttime"), key := Value.str (Str.ofString "crttime") G4, val := Value.int a3 u3 }, { hash := PyData.keyHash w.params (Str.ofString "crtdate"), key := Value.str (Str.ofString "crtdate") G5, val := Value.int a4 u4 }, { hash := PyData.keyHash w.params (Str.ofString "lstaccessdate"), key := Value.str (Str.ofString "lstaccessdate") G6, val := Value.int a5 u5 }, { hash := PyData.keyHash w.params (Str.ofString "fstclushi"), key := Value.str (Str.ofString "fstclushi") G7, val := Value.int a6 u6 }, { hash := PyData.keyHash w.params (Str.ofString "wrttime"), key := Value.str (Str.ofString "wrttime") G8, val := Value.int a7 u7 }, { hash := PyData.keyHash w.params (Str.ofString "wrtdate"), key := Value.str (Str.ofString "wrtdate") G9, val := Value.int a8 u8 }, { hash := PyData.keyHash w.params (Str.ofString "fstcluslo"), key := Value.str (Str.ofString "fstcluslo") G10, val := Value.int a9 u9 }, { hash := PyData.keyHash w.params (Str.ofString "filesize"), key := Value.str (Str.ofString "filesize") G11, val := Value.int az uz }, { hash := PyData.keyHash w.params (Str.ofString "_lazy_load"), key := Value.str (Str.ofString "_lazy_load") G12, val := Value.bool false }, { hash := PyData.keyHash w.params (Str.ofString "_fs"), key := Value.str (Str.ofString "_fs") G13, val := Value.none }, { hash := PyData.keyHash w.params (Str.ofString "_parent"), key := Value.str (Str.ofString "_parent") G14, val := Value.none }, { hash := PyData.keyHash w.params (Str.ofString "lfn_entry"), key := Value.str (Str.ofString "lfn_entry") G15, val := Value.none }, { hash := PyData.keyHash w.params (Str.ofString "_dirs"), key := Value.str (Str.ofString "_dirs") G16, val := Value.ref R }, { hash := PyData.keyHash w.params (Str.ofString "_encoding"), key := Value.str (Str.ofString "_encoding") G17, val := Value.str (Str.ofString "latin-1") ue }] 18) ∈ news)
    (ret : ∀ h' tk', Fr h₀ L h' m → News h₀ L h' news → Q (.bool (decide ((a0.fdiv 16).fmod 2 = 1))) { s with heap := h', toks := tk' }) :
    wpAny (model PySem.Challenge.rw_iw0015_02.row.prog w) (ktrTop dp un gd cn cs L a ccd cl outer) (call (.ref 380) [.ref O]) Q E s := by
  k_with_none
  (k_with "ite" => (k_closed; first | refine ite_pos (by decide) ?_ | refine ite_neg (by decide) ?_))
  (k_with "execs nil" => (k_here; dsimp only))
  (k_with "execs cons" => (k_here; dsimp only))
  revert X; k_fill; intro X
  refine wpAny_call ?_
  k_dflt (refine' code_def ?k1 ?k2 ?k3 ?k4 ?k5 ?kA ?kF ?kK ?k6 ?k7 ?k8 ?k9 ?kB ?_ ?c2 ?c3 ?c4 ?c5; (case kA => exact rfl); (case kF => exact rfl); (case kK => first | exact rfl | assumption); (case k1 => k_asm); (case k2 => k_asm); (case k3 => k_asm); (case k4 => k_asm); (case k5 => k_asm); (case k6 => k_is); (case k7 => k_is); (case k8 => k_room); (case k9 => exact kp_binds (binds := [(Str.ofString "self", Value.ref O)]) (by k_in) (fun S => by kernel_rfl)); (case c5 => decide); (case kB => exact locs rfl); (case c2 => exact rfl); (case c3 => exact rfl); (case c4 => exact rfl); k_whole; intro g' L' h' FG' F' N' B' X' T'; (try dsimp only); (try k_lift B'); (try k_fold))
  (replace F' : Fr g' L' h' (fun y => List.lookup y [(Str.ofString "self", Value.ref O)]) := F')
  k_steps
  · rw [show decide (0 < Builtin.bitAnd 16 a0) = decide ((a0.fdiv 16).fmod 2 = 1) from bit_eq a0 4]
    refine' ret _ _ ?f ?n
    case f => k_asm
    case n => k_asm
theorem ct_arc {O D S R : Addr} {a0 a1 a2 a3 a4 a5 a6 a7 a8 a9 az : Int} {u0 u1 u2 u3 u4 u5 u6 u7 u8 u9 uz G0 G1 G2 G3 G4 G5 G6 G7 G8 G9 G10 G11 G12 G13 G14 G15 G16 G17 ue : Tok} (hO : (O, instObj 482 D) ∈ news) (hD : (D, dictOf [{ hash := PyData.keyHash w.params (Str.ofString "name"), key := Value.str (Str.ofString "name") G0, val := Value.ref S }, { hash := PyData.keyHash w.params (Str.ofString "attr"), key := Value.str (Str.ofString "attr") G1, val := Value.int a0 u0 }, { hash := PyData.keyHash w.params (Str.ofString "ntres"), key := Value.str (Str.ofString "ntres") G2, val := Value.int a1 u1 }, { hash := PyData.keyHash w.params (Str.ofString "crttimetenth"), key := Value.str (Str.ofString "crttimetenth") G3, val := Value.int a2 u2 }, { hash := PyData.keyHash w.params (Str.ofString "crttime"), key := Value.str (Str.ofString "crttime") G4, val := Value.int a3 u3 }, { hash := PyData.keyHash w.params (Str.ofString "crtdate"), key := Value.str (Str.ofString "crtdate") G5, val := Value.int a4 u4 }, { hash := PyData.keyHash w.params (Str.ofString "lstaccessdate"), key := Value.str (Str.ofString "lstaccessdate") G6, val := Value.int a5 u5 }, { hash := PyData.keyHash w.params (Str.ofString "fstclushi"), key := Value.str (Str.ofString "fstclushi") G7, val := Value.int a6 u6 }, { hash := PyData.keyHash w.params (Str.ofString "wrttime"), key := Value.str (Str.ofString "wrttime") G8, val := Value.int a7 u7 }, { hash := PyData.keyHash w.params (Str.ofString "wrtdate"), key := Value.str (Str.ofString "wrtdate") G9, val := Value.int a8 u8 }, { hash := PyData.keyHash w.params (Str.ofString "fstcluslo"), key := Value.str (Str.ofString "fstcluslo") G10, val := Value.int a9 u9 }, { hash := PyData.keyHash w.params (Str.ofString "filesize"), key := Value.str (Str.ofString "filesize") G11, val := Value.int az uz }, { hash := PyData.keyHash w.params (Str.ofString "_lazy_load"), key := Value.str (Str.ofString "_lazy_load") G12, val := Value.bool false }, { hash := PyData.keyHash w.params (Str.ofString "_fs"), key := Value.str (Str.ofString "_fs") G13, val := Value.none }, { hash := PyData.keyHash w.params (Str.ofString "_parent"), key := Value.str (Str.ofString "_parent") G14, val := Value.none }, { hash := PyData.keyHash w.params (Str.ofString "lfn_entry"), key := Value.str (Str.ofString "lfn_entry") G15, val := Value.none }, { hash := PyData.keyHash w.params (Str.ofString "_dirs"), key := Value.str (Str.ofString "_dirs") G16, val := Value.ref R }, { hash := PyData.keyHash w.params (Str.ofString "_encoding"), key := Value.str (Str.ofString "_encoding") G17, val := Value.str (Str.ofString "latin-1") ue }] 18) ∈ news)
    (ret : ∀ h' tk', Fr h₀ L h' m → News h₀ L h' news → Q (.bool (decide ((a0.fdiv 32).fmod 2 = 1))) { s with heap := h', toks := tk' }) :
    wpAny (model PySem.Challenge.rw_iw0015_02.row.prog w) (ktrTop dp un gd cn cs L a ccd cl outer) (call (.ref 387) [.ref O]) Q E s := by
  k_with_none
  (k_with "ite" => (k_closed; first | refine ite_pos (by decide) ?_ | refine ite_neg (by decide) ?_))
  (k_with "execs nil" => (k_here; dsimp only))
  (k_with "execs cons" => (k_here; dsimp only))
  revert X; k_fill; intro X
  refine wpAny_call ?_
  k_dflt (refine' code_def ?k1 ?k2 ?k3 ?k4 ?k5 ?kA ?kF ?kK ?k6 ?k7 ?k8 ?k9 ?kB ?_ ?c2 ?c3 ?c4 ?c5; (case kA => exact rfl); (case kF => exact rfl); (case kK => first | exact rfl | assumption); (case k1 => k_asm); (case k2 => k_asm); (case k3 => k_asm); (case k4 => k_asm); (case k5 => k_asm); (case k6 => k_is); (case k7 => k_is); (case k8 => k_room); (case k9 => exact kp_binds (binds := [(Str.ofString "self", Value.ref O)]) (by k_in) (fun S => by kernel_rfl)); (case c5 => decide); (case kB => exact locs rfl); (case c2 => exact rfl); (case c3 => exact rfl); (case c4 => exact rfl); k_whole; intro g' L' h' FG' F' N' B' X' T'; (try dsimp only); (try k_lift B'); (try k_fold))
  (replace F' : Fr g' L' h' (fun y => List.lookup y [(Str.ofString "self", Value.ref O)]) := F')
  k_steps
  · rw [show decide (0 < Builtin.bitAnd 32 a0) = decide ((a0.fdiv 32).fmod 2 = 1) from bit_eq a0 5]
    refine' ret _ _ ?f ?n
    case f => k_asm
    case n => k_asm
end

def BoolEnd (h₀ : Heap) (L : Addr) (m : Str → Option Value) (s₁ : Shared) (need : List (Addr × Obj)) (bv : Bool) (y : Value) (s' : Shared) : Prop := ∃ h' tk', s' = { s₁ with heap := h', toks := tk' } ∧ Fr h₀ L h' m ∧ News h₀ L h' need ∧ y = .bool bv
theorem BoolEnd.intro {h₀ h' : Heap} {L : Addr} {m : Str → Option Value} {s₁ : Shared} {need : List (Addr × Obj)} {bv : Bool} {tk' : Nat} (F : Fr h₀ L h' m) (N : News h₀ L h' need) : BoolEnd h₀ L m s₁ need bv (.bool bv) { s₁ with heap := h', toks := tk' } := ⟨h', tk', rfl, F, N, rfl⟩
section
open LCg
variable {prog : Program} {w : World} {A : Around} {E : Value → Shared → Prop} {s : Shared} {h₀ : Heap} {L : Addr} {m : Str → Option Value} {env : Env}
theorem bool_turns {elt : Expr} {v : Str} {scope : Scope} {cl : List (Str × Addr)} {S : List (Addr × Obj) → Prop} {Fin : List Value → List (Addr × Obj) → Prop} {news : List (Addr × Obj)} {n : Nat} (f : Int → Bool) (hS : S news)
    (turn : ∀ (k : Int) t I oI C oC D ys m₂ h tk (E' : Value → Shared → Prop), 0 ≤ k → k < n → NsObj oC m₂ → m₂ v = some (.int k t) → Fr h₀ L h m → News h₀ L h ((I, oI) :: (C, oC) :: (D, lst ys) :: news) →
      wpAny (model prog w) A (eval elt (compEnvC scope cl C env)) (BoolEnd h₀ L m { s with heap := h, toks := tk } ((I, oI) :: (C, oC) :: (D, lst ys) :: news) (f k)) E' { s with heap := h, toks := tk })
    (fin : Fin ((List.range n).map fun (i : Nat) => Value.bool (f i)) news) : CompRest prog w A h₀ L m env elt v scope cl s S (fun i v => ∃ t, v = .int (0 + (i : Int)) t) Fin n 0 [] news := by
  have key : ∀ (j i : Nat), i + j = n → CompRest prog w A h₀ L m env elt v scope cl s S (fun i v => ∃ t, v = .int (0 + (i : Int)) t) Fin j i ((List.range i).map fun (i : Nat) => Value.bool (f i)) news := by
    intro j
    induction j with
    | zero =>
      intro i hi
      have e : i = n := by omega
      subst e
      exact CompRest.zero fin
    | succ j ih =>
      intro i hi
      refine CompRest.succ ?_
      rintro u I oI C oC D m₂ h tk E' ⟨t, rfl⟩ hC hx F N off ne
      rw [Int.zero_add] at hx
      refine wpAny_mono (turn (i : Int) t I oI C oC D _ m₂ h tk E' (by omega) (by omega) hC hx F N) (fun y s₂ hq => ?_) fun _ _ e => e
      obtain ⟨h', tk', e, F', N', rfl⟩ := hq
      refine ⟨h', tk', news, e, F', N', off, hS, ?_⟩
      have := ih (i + 1) (by omega)
      rw [List.range_succ, List.map_append] at this
      exact this
  exact key n 0 (by omega)
end
theorem six_at {g : Int → Bool} {v0 v1 v2 v3 v4 v5 : Value} {k : Int} (h0 : 0 ≤ k) (h1 : k < 0 + ((6 : Nat) : Int)) (e0 : v0 = .bool (g 0)) (e1 : v1 = .bool (g 1)) (e2 : v2 = .bool (g 2)) (e3 : v3 = .bool (g 3)) (e4 : v4 = .bool (g 4)) (e5 : v5 = .bool (g 5)) : (#[v0, v1, v2, v3, v4, v5] : Array Value)[k.toNat]? = some (.bool (g k)) := by
  have : k = 0 ∨ k = 1 ∨ k = 2 ∨ k = 3 ∨ k = 4 ∨ k = 5 := by omega
  rcases this with rfl | rfl | rfl | rfl | rfl | rfl
  · rw [e0]; rfl
  · rw [e1]; rfl
  · rw [e2]; rfl
  · rw [e3]; rfl
  · rw [e4]; rfl
  · rw [e5]; rfl
section
variable {w : World} {dp un : Nat} {gd : Option (List Code)} {cn : Str} {cs : Scope} {a : Addr} {ccd : Value} {cl : List (Str × Addr)} {outer : List Env} {A₀ : Around} {base h₀ : Heap} {L : Addr} {m : Str → Option Value} {news : List (Addr × Obj)} {s : Shared} {Q E : Value → Shared → Prop} {loose : List Str} {mean : ExcName → Option Value} {mg mb : Str → Option Value}
  (B : Below A₀ base outer h₀) (F : Fr h₀ L s.heap m) (X : (Mine.KF w.params).In h₀) (N : News h₀ L s.heap news) (T : Top topProg loose mean mg mb h₀) (hk : cs.kind = .function) (hd : dp + 16 ≤ 500) (hu : un + 320 ≤ 5000)
include B F X N T hk hd hu
theorem ct_bits {O D S R : Addr} {a0 a1 a2 a3 a4 a5 a6 a7 a8 a9 az : Int} {u0 u1 u2 u3 u4 u5 u6 u7 u8 u9 uz G0 G1 G2 G3 G4 G5 G6 G7 G8 G9 G10 G11 G12 G13 G14 G15 G16 G17 ue ta : Tok} (hO : (O, instObj 482 D) ∈ news) (hD : (D, dictOf [{ hash := PyData.keyHash w.params (Str.ofString "name"), key := Value.str (Str.ofString "name") G0, val := Value.ref S }, { hash := PyData.keyHash w.params (Str.ofString "attr"), key := Value.str (Str.ofString "attr") G1, val := Value.int a0 u0 }, { hash := PyData.keyHash w.params (Str.ofString "ntres"), key := Value.str (Str.ofString "ntres") G2, val := Value.int a1 u1 }, { hash := PyData.keyHash w.params (Str.ofString "crttimetenth"), key := Value.str (Str.ofString "crttimetenth") G3, val := Value.int a2 u2 }, { hash := PyData.keyHash w.params (Str.ofString "crttime"), key := Value.str (Str.ofString "crttime") G4, val := Value.int a3 u3 }, { hash := PyData.keyHash w.params (Str.ofString "crtdate"), key := Value.str (Str.ofString "crtdate") G5, val := Value.int a4 u4 }, { hash := PyData.keyHash w.params (Str.ofString "lstaccessdate"), key := Value.str (Str.ofString "lstaccessdate") G6, val := Value.int a5 u5 }, { hash := PyData.keyHash w.params (Str.ofString "fstclushi"), key := Value.str (Str.ofString "fstclushi") G7, val := Value.int a6 u6 }, { hash := PyData.keyHash w.params (Str.ofString "wrttime"), key := Value.str (Str.ofString "wrttime") G8, val := Value.int a7 u7 }, { hash := PyData.keyHash w.params (Str.ofString "wrtdate"), key := Value.str (Str.ofString "wrtdate") G9, val := Value.int a8 u8 }, { hash := PyData.keyHash w.params (Str.ofString "fstcluslo"), key := Value.str (Str.ofString "fstcluslo") G10, val := Value.int a9 u9 }, { hash := PyData.keyHash w.params (Str.ofString "filesize"), key := Value.str (Str.ofString "filesize") G11, val := Value.int az uz }, { hash := PyData.keyHash w.params (Str.ofString "_lazy_load"), key := Value.str (Str.ofString "_lazy_load") G12, val := Value.bool false }, { hash := PyData.keyHash w.params (Str.ofString "_fs"), key := Value.str (Str.ofString "_fs") G13, val := Value.none }, { hash := PyData.keyHash w.params (Str.ofString "_parent"), key := Value.str (Str.ofString "_parent") G14, val := Value.none }, { hash := PyData.keyHash w.params (Str.ofString "lfn_entry"), key := Value.str (Str.ofString "lfn_entry") G15, val := Value.none }, { hash := PyData.keyHash w.params (Str.ofString "_dirs"), key := Value.str (Str.ofString "_dirs") G16, val := Value.ref R }, { hash := PyData.keyHash w.params (Str.ofString "_encoding"), key := Value.str (Str.ofString "_encoding") G17, val := Value.str (Str.ofString "latin-1") ue }] 18) ∈ news)
    (r0 : 0 ≤ a0 ∧ a0 < 256)
    (ret : ∀ h' tk', Fr h₀ L h' m → News h₀ L h' news → Q (.bool true) { s with heap := h', toks := tk' }) :
    wpAny (model PySem.Challenge.rw_iw0015_02.row.prog w) (ktrTop dp un gd cn cs L a ccd cl outer) (call (.ref 750) [.ref O, .int a0 ta]) Q E s := by
  k_with_none
  (k_with "ite" => (k_closed; first | refine ite_pos (by decide) ?_ | refine ite_neg (by decide) ?_))
  (k_with "execs nil" => (k_here; dsimp only))
  (k_with "execs cons" => (k_here; dsimp only))
  (k_with "exec For Name Call cons nil" => (k_here; (with_reducible rename Fr _ _ _ _ => F9); k_dflt (with_unfolding_all refine' For_invVF F9 ?k1 ?k2 ?_; (case k1 => exact rfl); (case k2 => exact rfl); k_whole)))
  (k_with "pyIter ref" => (k_here; (with_reducible show wpAny _ _ (pyIter (Value.ref _)) (fun it s₂ => LoopAtV _ _ _ _ _ _ _ _ _ it s₂) _ _); k_dflt (refine' iter_ra2 (n := 6) (y := Str.ofString "zz") ?hh ?F ?N ?hr ?hs ?hn ?_ ?_; (case hh => exact rfl); (case F => k_asm); (case N => k_asm); (case hr => assumption); (case hs => decide); (case hn => rfl); k_whole); all_goals (first | (intro k8 t8 u8 h8 tk8 own8 lo8 hi8 F8 N8; (try k_fold)) | (intro u8 h8 tk8 F8 N8; (try dsimp only); (try k_fold)))))
  (k_with "subscriptTail Name Name ref int" => (k_here; (with_reducible show wpAny _ _ (subscriptTail _ _ (Value.ref _) (Value.int _ _)) _ _ _); (with_reducible rename News _ _ _ _ => NN9); k_dflt (refine' item_led NN9 ?m ?c ?d ?a ?b ?i ?_ ?s; (case m => k_mem); (case c => exact rfl); (case d => exact rfl); (case a => assumption); (case b => omega); (case i => exact six_at (g := fun i => (a0.fdiv (2 ^ i.toNat)).fmod 2 == 1) (by assumption) (by assumption) (by with_unfolding_all rfl) (by with_unfolding_all rfl) (by with_unfolding_all rfl) (by with_unfolding_all rfl) (by with_unfolding_all rfl) (by with_unfolding_all rfl)); (case s => with_unfolding_all rfl); k_whole)))
  (k_with "CompSrc" => (k_here; k_dflt (refine LCg.CompSrc.range (by rfl) (by k_asm) (by k_asm) (by assumption) (by decide) (by rfl) (by exact Nat.le_of_ble_eq_true rfl) ?_; intro g'; (refine' bool_turns (fun i => (a0.fdiv (2 ^ i.toNat)).fmod 2 == 1) trivial (fun k' t' I' oI' C' oC' D' ys' m' h' tk' E' lo' hi' hC' hx' F' N' => ?_) ?_); kcf_last)))
  (k_with "call ref" => (k_here; (with_reducible show wpAny _ _ (call (Value.ref (nat_lit 745)) _) _ _ _); k_dflt (refine' ct_is_eq ?kB ?kF ?kX ?kN ?kT ?kk ?kd ?ku ?e0 ?_; (case kB => k_asm); (case kF => k_asm); (case kX => k_asm); (case kN => k_asm); (case kT => k_asm); (case kk => first | exact rfl | assumption); (case kd => k_room); (case ku => k_units); (case e0 => (first | assumption | with_unfolding_all rfl)); k_whole); intro h9 tk9 F9 N9; (try dsimp only); (try k_fold)))
  (k_with "call ref" => (k_here; (with_reducible show wpAny _ _ (call (Value.ref (nat_lit 345)) _) _ _ _); k_dflt (refine' ct_ro ?kB ?kF ?kX ?kN ?kT ?kk ?kd ?ku ?e0 ?e1 ?_; (case kB => k_asm); (case kF => k_asm); (case kX => k_asm); (case kN => k_asm); (case kT => k_asm); (case kk => first | exact rfl | assumption); (case kd => k_room); (case ku => k_units); (case e0 => k_mem); (case e1 => k_mem); k_whole); intro h9 tk9 F9 N9; (try dsimp only); (try k_fold)))
  (k_with "call ref" => (k_here; (with_reducible show wpAny _ _ (call (Value.ref (nat_lit 352)) _) _ _ _); k_dflt (refine' ct_hid ?kB ?kF ?kX ?kN ?kT ?kk ?kd ?ku ?e0 ?e1 ?_; (case kB => k_asm); (case kF => k_asm); (case kX => k_asm); (case kN => k_asm); (case kT => k_asm); (case kk => first | exact rfl | assumption); (case kd => k_room); (case ku => k_units); (case e0 => k_mem); (case e1 => k_mem); k_whole); intro h9 tk9 F9 N9; (try dsimp only); (try k_fold)))
  (k_with "call ref" => (k_here; (with_reducible show wpAny _ _ (call (Value.ref (nat_lit 359)) _) _ _ _); k_dflt (refine' ct_sys ?kB ?kF ?kX ?kN ?kT ?kk ?kd ?ku ?e0 ?e1 ?_; (case kB => k_asm); (case kF => k_asm); (case kX => k_asm); (case kN => k_asm); (case kT => k_asm); (case kk => first | exact rfl | assumption); (case kd => k_room); (case ku => k_units); (case e0 => k_mem); (case e1 => k_mem); k_whole); intro h9 tk9 F9 N9; (try dsimp only); (try k_fold)))
  (k_with "call ref" => (k_here; (with_reducible show wpAny _ _ (call (Value.ref (nat_lit 366)) _) _ _ _); k_dflt (refine' ct_vol ?kB ?kF ?kX ?kN ?kT ?kk ?kd ?ku ?e0 ?e1 ?_; (case kB => k_asm); (case kF => k_asm); (case kX => k_asm); (case kN => k_asm); (case kT => k_asm); (case kk => first | exact rfl | assumption); (case kd => k_room); (case ku => k_units); (case e0 => k_mem); (case e1 => k_mem); k_whole); intro h9 tk9 F9 N9; (try dsimp only); (try k_fold)))
  (k_with "call ref" => (k_here; (with_reducible show wpAny _ _ (call (Value.ref (nat_lit 380)) _) _ _ _); k_dflt (refine' ct_dir ?kB ?kF ?kX ?kN ?kT ?kk ?kd ?ku ?e0 ?e1 ?_; (case kB => k_asm); (case kF => k_asm); (case kX => k_asm); (case kN => k_asm); (case kT => k_asm); (case kk => first | exact rfl | assumption); (case kd => k_room); (case ku => k_units); (case e0 => k_mem); (case e1 => k_mem); k_whole); intro h9 tk9 F9 N9; (try dsimp only); (try k_fold)))
  (k_with "call ref" => (k_here; (with_reducible show wpAny _ _ (call (Value.ref (nat_lit 387)) _) _ _ _); k_dflt (refine' ct_arc ?kB ?kF ?kX ?kN ?kT ?kk ?kd ?ku ?e0 ?e1 ?_; (case kB => k_asm); (case kF => k_asm); (case kX => k_asm); (case kN => k_asm); (case kT => k_asm); (case kk => first | exact rfl | assumption); (case kd => k_room); (case ku => k_units); (case e0 => k_mem); (case e1 => k_mem); k_whole); intro h9 tk9 F9 N9; (try dsimp only); (try k_fold)))
  revert X; k_fill; intro X
  refine wpAny_call ?_
  k_dflt (refine' code_defC ?k1 ?k2 ?k3 ?k4 ?k5 ?kA ?kF ?kK ?k6 ?k7 ?k8 ?k9 ?kB ?kD ?_ ?c2 ?c3 ?c4; (case kA => exact rfl); (case kF => exact rfl); (case kK => first | exact rfl | assumption); (case k1 => k_asm); (case k2 => k_asm); (case k3 => k_asm); (case k4 => k_asm); (case k5 => k_asm); (case k6 => k_is); (case k7 => k_is); (case k8 => k_room); (case k9 => first | exact BindsTo.of_eq rfl | exact binds_K (by k_in) rfl (by k_is) rfl rfl rfl); (case kB => exact rfl); (case kD => decide +kernel); (case c2 => exact rfl); (case c3 => exact rfl); (case c4 => exact rfl); k_whole; intro g' L' h' tk' cells' FG' F' N' Y' B' X' T' l1; (try k_lt l1); k_cells Y'; (try simp only [List.cons_append, List.nil_append] at N'); (try dsimp only); (try k_lift B'); (try k_fold))
  k_steps
  · rename Fr _ L' _ _ => F9
    rename News _ L' _ _ => N9
    with_unfolding_all exact BoolEnd.intro F9 N9
  · rename Fr _ L' _ _ => F9
    rename News _ L' _ _ => N9
    refine InvEnd.intro F9 N9 (fun p hp => hp) fun z h1 h2 => ?_
    simp only [if_neg h1, if_neg h2]
  · refine' ret _ _ ?f (cb_drop ?cbN ?cbS)
    case f => k_asm
    case cbN => assumption
    case cbS => kcj_all
end

section
variable {w : World} {dp un : Nat} {gd : Option (List Code)} {cn : Str} {cs : Scope} {a : Addr} {ccd : Value} {cl : List (Str × Addr)} {outer : List Env} {A₀ : Around} {base h₀ : Heap} {L : Addr} {m : Str → Option Value} {news : List (Addr × Obj)} {s : Shared} {Q E : Value → Shared → Prop} {loose : List Str} {mean : ExcName → Option Value} {mg mb : Str → Option Value}
  (B : Below A₀ base outer h₀) (F : Fr h₀ L s.heap m) (X : (Mine.KF w.params).In h₀) (N : News h₀ L s.heap news) (T : Top topProg loose mean mg mb h₀) (hk : cs.kind = .function) (hd : dp + 20 ≤ 500) (hu : un + 400 ≤ 5000)
include B F X N T hk hd hu
theorem ct_short_name {O D S R D2 x : Addr} {b : Array UInt8} {ks : List Int} {bb : Bool} {a0 a1 a2 a3 a4 a5 a6 a7 a8 a9 az : Int} {u0 u1 u2 u3 u4 u5 u6 u7 u8 u9 uz G0 G1 G2 G3 G4 G5 G6 G7 G8 G9 G10 G11 G12 G13 G14 G15 G16 G17 ue t1 t2 t3 : Tok} (hO : (O, instObj 482 D) ∈ news) (hD : (D, dictOf [{ hash := PyData.keyHash w.params (Str.ofString "name"), key := Value.str (Str.ofString "name") G0, val := Value.ref S }, { hash := PyData.keyHash w.params (Str.ofString "attr"), key := Value.str (Str.ofString "attr") G1, val := Value.int a0 u0 }, { hash := PyData.keyHash w.params (Str.ofString "ntres"), key := Value.str (Str.ofString "ntres") G2, val := Value.int a1 u1 }, { hash := PyData.keyHash w.params (Str.ofString "crttimetenth"), key := Value.str (Str.ofString "crttimetenth") G3, val := Value.int a2 u2 }, { hash := PyData.keyHash w.params (Str.ofString "crttime"), key := Value.str (Str.ofString "crttime") G4, val := Value.int a3 u3 }, { hash := PyData.keyHash w.params (Str.ofString "crtdate"), key := Value.str (Str.ofString "crtdate") G5, val := Value.int a4 u4 }, { hash := PyData.keyHash w.params (Str.ofString "lstaccessdate"), key := Value.str (Str.ofString "lstaccessdate") G6, val := Value.int a5 u5 }, { hash := PyData.keyHash w.params (Str.ofString "fstclushi"), key := Value.str (Str.ofString "fstclushi") G7, val := Value.int a6 u6 }, { hash := PyData.keyHash w.params (Str.ofString "wrttime"), key := Value.str (Str.ofString "wrttime") G8, val := Value.int a7 u7 }, { hash := PyData.keyHash w.params (Str.ofString "wrtdate"), key := Value.str (Str.ofString "wrtdate") G9, val := Value.int a8 u8 }, { hash := PyData.keyHash w.params (Str.ofString "fstcluslo"), key := Value.str (Str.ofString "fstcluslo") G10, val := Value.int a9 u9 }, { hash := PyData.keyHash w.params (Str.ofString "filesize"), key := Value.str (Str.ofString "filesize") G11, val := Value.int az uz }, { hash := PyData.keyHash w.params (Str.ofString "_lazy_load"), key := Value.str (Str.ofString "_lazy_load") G12, val := Value.bool false }, { hash := PyData.keyHash w.params (Str.ofString "_fs"), key := Value.str (Str.ofString "_fs") G13, val := Value.none }, { hash := PyData.keyHash w.params (Str.ofString "_parent"), key := Value.str (Str.ofString "_parent") G14, val := Value.none }, { hash := PyData.keyHash w.params (Str.ofString "lfn_entry"), key := Value.str (Str.ofString "lfn_entry") G15, val := Value.none }, { hash := PyData.keyHash w.params (Str.ofString "_dirs"), key := Value.str (Str.ofString "_dirs") G16, val := Value.ref R }, { hash := PyData.keyHash w.params (Str.ofString "_encoding"), key := Value.str (Str.ofString "_encoding") G17, val := Value.str (Str.ofString "latin-1") ue }] 18) ∈ news) (hS : (S, instObj 680 D2) ∈ news) (hD2 : (D2, dictOf [{ hash := PyData.keyHash w.params (Str.ofString "name"), key := Value.str (Str.ofString "name") t1, val := Value.ref x }, { hash := PyData.keyHash w.params (Str.ofString "encoding"), key := Value.str (Str.ofString "encoding") t2, val := Value.str (Str.ofString "latin-1") 479 }, { hash := PyData.keyHash w.params (Str.ofString "initialized"), key := Value.str (Str.ofString "initialized") t3, val := Value.bool true }] 3) ∈ news) (hx : (x, baOf b) ∈ news) (hb : KBw.bInts b = ks) (ok : NmOk ks bb)
    (ret : ∀ t h' tk', Fr h₀ L h' m → News h₀ L h' news → Q (.str (textOf ks) t) { s with heap := h', toks := tk' }) :
    wpAny (model PySem.Challenge.rw_iw0015_02.row.prog w) (ktrTop dp un gd cn cs L a ccd cl outer) (call (.ref 472) [.ref O]) Q E s := by
  k_with_none
  (k_with "ite" => (k_closed; first | refine ite_pos (by decide) ?_ | refine ite_neg (by decide) ?_))
  (k_with "execs nil" => (k_here; dsimp only))
  (k_with "execs cons" => (k_here; dsimp only))
  (k_with "call ref" => (k_here; (with_reducible show wpAny _ _ (call (Value.ref (nat_lit 584)) _) _ _ _); k_dflt (refine' ct_text (x := ?_) (b := ?_) (t1 := ?_) (t2 := ?_) (t3 := ?_) ?kB ?kF ?kX ?kN ?kT ?kk ?kd ?ku ?e0 ?e1 ?e2 ?e3 ?e4 ?_; (case kB => k_asm); (case kF => k_asm); (case kX => k_asm); (case kN => k_asm); (case kT => k_asm); (case kk => first | exact rfl | assumption); (case kd => k_room); (case ku => k_units); (case e0 => k_mem); (case e1 => k_mem); (case e2 => k_mem); (case e3 => k_asm); (case e4 => k_asm); k_whole); intro t9 h9 tk9 F9 N9; (try dsimp only); (try k_fold)))
  revert X; k_fill; intro X
  refine wpAny_call ?_
  k_dflt (refine' code_def ?k1 ?k2 ?k3 ?k4 ?k5 ?kA ?kF ?kK ?k6 ?k7 ?k8 ?k9 ?kB ?_ ?c2 ?c3 ?c4 ?c5; (case kA => exact rfl); (case kF => exact rfl); (case kK => first | exact rfl | assumption); (case k1 => k_asm); (case k2 => k_asm); (case k3 => k_asm); (case k4 => k_asm); (case k5 => k_asm); (case k6 => k_is); (case k7 => k_is); (case k8 => k_room); (case k9 => exact kp_binds (binds := [(Str.ofString "self", Value.ref O)]) (by k_in) (fun S => by kernel_rfl)); (case c5 => decide); (case kB => exact locs rfl); (case c2 => exact rfl); (case c3 => exact rfl); (case c4 => exact rfl); k_whole; intro g' L' h' FG' F' N' B' X' T'; (try dsimp only); (try k_lift B'); (try k_fold))
  (replace F' : Fr g' L' h' (fun y => List.lookup y [(Str.ofString "self", Value.ref O)]) := F')
  k_steps
  · refine' ret _ _ _ ?f ?n
    case f => k_asm
    case n => k_asm
end

theorem spS_no : ∀ c : Fin 128, 65 ≤ c.val → c.val ≤ 90 → spS ⟨#[c.val]⟩ = false := by decide +kernel
theorem text_len (sep x y : Str) : x.length ≤ (Txt.join sep [x, y]).length := by
  show x.length ≤ (Builtin.Str.glued sep [x, y]).length
  rw [StrLaws.glued_eq_join]
  show x.length ≤ (x ++ sep ++ Str.join sep [y]).length
  rw [len_cat, len_cat]
  omega
theorem base_len {ks : List Int} (h11 : ks.length = 11) (hr : ∀ x ∈ ks, 32 ≤ x ∧ x ≤ 90) (h2 : 65 ≤ ks.getD 2 0) : 3 ≤ (baseOf ks).length := by
  obtain ⟨a, b, c, d, e, f, g, i, j, k, l, rfl⟩ := len11 h11
  have hc : 65 ≤ c := h2
  have hc2 : 32 ≤ c ∧ c ≤ 90 := hr c (.tail _ (.tail _ (.head _)))
  have e8 : clipAt [a, b, c, d, e, f, g, i, j, k, l].length 8 = 8 := by show clipAt (11 : Nat) 8 = 8; decide +kernel
  unfold baseOf
  rw [e8]
  show 3 ≤ (Txt.rstrip ⟨[a.toNat, b.toNat, c.toNat, d.toNat, e.toNat, f.toNat, g.toNat, i.toNat].toArray⟩).length
  generalize hx : (⟨[a.toNat, b.toNat, c.toNat, d.toNat, e.toNat, f.toNat, g.toNat, i.toNat].toArray⟩ : Str) = x
  have hl : x.length = 8 := by rw [← hx]; rfl
  have hg : x.cps.getD 2 0 = c.toNat := by rw [← hx]; rfl
  obtain ⟨hi, h1, h3, h4, h5⟩ := rstrip_cut (x := x) (by
    rw [← hx]
    intro n hn
    obtain ⟨z, hz, rfl⟩ : ∃ z ∈ [a, b, c, d, e, f, g, i], z.toNat = n := List.mem_map.mp (by exact hn)
    have hz2 := hr z (List.mem_of_mem_take (i := 8) (by exact hz))
    clear hr h2 hn hl hg hc hc2
    omega)
  rw [h3]
  have q : 2 < hi := by
    refine Nat.lt_of_not_le fun q => ?_
    have := h4 2 q (by omega)
    rw [hg] at this
    have z := spS_no ⟨c.toNat, by omega⟩ (by show 65 ≤ c.toNat; omega) (by show c.toNat ≤ 90; omega)
    rw [z] at this
    cases this
  rw [size_strSub x 0 hi h1]
  omega
theorem textOf_is {ks : List Int} {bb : Bool} (ok : NmOk ks bb) : (bb = true ∧ textOf ks = Str.ofString ".") ∨ (bb = true ∧ textOf ks = Str.ofString "..") ∨ (bb = false ∧ textOf ks ≠ Str.ofString "." ∧ textOf ks ≠ Str.ofString "..") := by
  obtain ⟨h11, hr, ⟨rfl, rfl | rfl⟩ | ⟨rfl, h2⟩⟩ := ok
  · exact .inl ⟨rfl, by unfold textOf baseOf extOf; decide +kernel⟩
  · exact .inr (.inl ⟨rfl, by unfold textOf baseOf extOf; decide +kernel⟩)
  · have h3 := base_len h11 hr h2
    have h4 : 3 ≤ (textOf ks).length := Nat.le_trans h3 (text_len _ _ _)
    refine .inr (.inr ⟨rfl, fun e => ?_, fun e => ?_⟩)
    · rw [e] at h4; exact absurd h4 (by decide)
    · rw [e] at h4; exact absurd h4 (by decide)
section
variable {w : World} {dp un : Nat} {gd : Option (List Code)} {cn : Str} {cs : Scope} {a : Addr} {ccd : Value} {cl : List (Str × Addr)} {outer : List Env} {A₀ : Around} {base h₀ : Heap} {L : Addr} {m : Str → Option Value} {news : List (Addr × Obj)} {s : Shared} {Q E : Value → Shared → Prop} {loose : List Str} {mean : ExcName → Option Value} {mg mb : Str → Option Value}
  (B : Below A₀ base outer h₀) (F : Fr h₀ L s.heap m) (X : (Mine.KF w.params).In h₀) (N : News h₀ L s.heap news) (T : Top topProg loose mean mg mb h₀) (hk : cs.kind = .function) (hd : dp + 24 ≤ 500) (hu : un + 480 ≤ 5000)
include B F X N T hk hd hu
theorem ct_special {O D S R D2 x : Addr} {b : Array UInt8} {ks : List Int} {bb : Bool} {a0 a1 a2 a3 a4 a5 a6 a7 a8 a9 az : Int} {u0 u1 u2 u3 u4 u5 u6 u7 u8 u9 uz G0 G1 G2 G3 G4 G5 G6 G7 G8 G9 G10 G11 G12 G13 G14 G15 G16 G17 ue t1 t2 t3 : Tok} (hO : (O, instObj 482 D) ∈ news) (hD : (D, dictOf [{ hash := PyData.keyHash w.params (Str.ofString "name"), key := Value.str (Str.ofString "name") G0, val := Value.ref S }, { hash := PyData.keyHash w.params (Str.ofString "attr"), key := Value.str (Str.ofString "attr") G1, val := Value.int a0 u0 }, { hash := PyData.keyHash w.params (Str.ofString "ntres"), key := Value.str (Str.ofString "ntres") G2, val := Value.int a1 u1 }, { hash := PyData.keyHash w.params (Str.ofString "crttimetenth"), key := Value.str (Str.ofString "crttimetenth") G3, val := Value.int a2 u2 }, { hash := PyData.keyHash w.params (Str.ofString "crttime"), key := Value.str (Str.ofString "crttime") G4, val := Value.int a3 u3 }, { hash := PyData.keyHash w.params (Str.ofString "crtdate"), key := Value.str (Str.ofString "crtdate") G5, val := Value.int a4 u4 }, { hash := PyData.keyHash w.params (Str.ofString "lstaccessdate"), key := Value.str (Str.ofString "lstaccessdate") G6, val := Value.int a5 u5 }, { hash := PyData.keyHash w.params (Str.ofString "fstclushi"), key := Value.str (Str.ofString "fstclushi") G7, val := Value.int a6 u6 }, { hash := PyData.keyHash w.params (Str.ofString "wrttime"), key := Value.str (Str.ofString "wrttime") G8, val := Value.int a7 u7 }, { hash := PyData.keyHash w.params (Str.ofString "wrtdate"), key := Value.str (Str.ofString "wrtdate") G9, val := Value.int a8 u8 }, { hash := PyData.keyHash w.params (Str.ofString "fstcluslo"), key := Value.str (Str.ofString "fstcluslo") G10, val := Value.int a9 u9 }, { hash := PyData.keyHash w.params (Str.ofString "filesize"), key := Value.str (Str.ofString "filesize") G11, val := Value.int az uz }, { hash := PyData.keyHash w.params (Str.ofString "_lazy_load"), key := Value.str (Str.ofString "_lazy_load") G12, val := Value.bool false }, { hash := PyData.keyHash w.params (Str.ofString "_fs"), key := Value.str (Str.ofString "_fs") G13, val := Value.none }, { hash := PyData.keyHash w.params (Str.ofString "_parent"), key := Value.str (Str.ofString "_parent") G14, val := Value.none }, { hash := PyData.keyHash w.params (Str.ofString "lfn_entry"), key := Value.str (Str.ofString "lfn_entry") G15, val := Value.none }, { hash := PyData.keyHash w.params (Str.ofString "_dirs"), key := Value.str (Str.ofString "_dirs") G16, val := Value.ref R }, { hash := PyData.keyHash w.params (Str.ofString "_encoding"), key := Value.str (Str.ofString "_encoding") G17, val := Value.str (Str.ofString "latin-1") ue }] 18) ∈ news) (hS : (S, instObj 680 D2) ∈ news) (hD2 : (D2, dictOf [{ hash := PyData.keyHash w.params (Str.ofString "name"), key := Value.str (Str.ofString "name") t1, val := Value.ref x }, { hash := PyData.keyHash w.params (Str.ofString "encoding"), key := Value.str (Str.ofString "encoding") t2, val := Value.str (Str.ofString "latin-1") 479 }, { hash := PyData.keyHash w.params (Str.ofString "initialized"), key := Value.str (Str.ofString "initialized") t3, val := Value.bool true }] 3) ∈ news) (hx : (x, baOf b) ∈ news) (hb : KBw.bInts b = ks) (ok : NmOk ks bb)
    (ret : ∀ h' tk', Fr h₀ L h' m → News h₀ L h' news → Q (.bool bb) { s with heap := h', toks := tk' }) :
    wpAny (model PySem.Challenge.rw_iw0015_02.row.prog w) (ktrTop dp un gd cn cs L a ccd cl outer) (call (.ref 338) [.ref O]) Q E s := by
  have hsp := textOf_is ok
  k_with_none
  (k_with "ite" => (k_closed; first | refine ite_pos (by decide) ?_ | refine ite_neg (by decide) ?_))
  (k_with "execs nil" => (k_here; dsimp only))
  (k_with "execs cons" => (k_here; dsimp only))
  (k_with "call ref" => (k_here; (with_reducible show wpAny _ _ (call (Value.ref (nat_lit 472)) _) _ _ _); k_dflt (refine' ct_short_name (x := ?_) (t1 := ?_) (t2 := ?_) (t3 := ?_) ?kB ?kF ?kX ?kN ?kT ?kk ?kd ?ku ?e0 ?e1 ?e2 ?e3 ?e4 ?e5 ?e6 ?_; (case kB => k_asm); (case kF => k_asm); (case kX => k_asm); (case kN => k_asm); (case kT => k_asm); (case kk => first | exact rfl | assumption); (case kd => k_room); (case ku => k_units); (case e0 => k_mem); (case e1 => k_mem); (case e2 => k_mem); (case e3 => k_mem); (case e4 => k_mem); (case e5 => k_asm); (case e6 => k_asm); k_whole); intro t9 h9 tk9 F9 N9; (try dsimp only); (try k_fold)))
  revert X; k_fill; intro X
  refine wpAny_call ?_
  k_dflt (refine' code_def ?k1 ?k2 ?k3 ?k4 ?k5 ?kA ?kF ?kK ?k6 ?k7 ?k8 ?k9 ?kB ?_ ?c2 ?c3 ?c4 ?c5; (case kA => exact rfl); (case kF => exact rfl); (case kK => first | exact rfl | assumption); (case k1 => k_asm); (case k2 => k_asm); (case k3 => k_asm); (case k4 => k_asm); (case k5 => k_asm); (case k6 => k_is); (case k7 => k_is); (case k8 => k_room); (case k9 => exact kp_binds (binds := [(Str.ofString "self", Value.ref O)]) (by k_in) (fun S => by kernel_rfl)); (case c5 => decide); (case kB => exact locs rfl); (case c2 => exact rfl); (case c3 => exact rfl); (case c4 => exact rfl); k_whole; intro g' L' h' FG' F' N' B' X' T'; (try dsimp only); (try k_lift B'); (try k_fold))
  (replace F' : Fr g' L' h' (fun y => List.lookup y [(Str.ofString "self", Value.ref O)]) := F')
  k_steps
  have e : ([Str.ofString ".", Str.ofString ".."].any fun x => x == textOf ks) = bb := by
    rcases hsp with ⟨rfl, e⟩ | ⟨rfl, e⟩ | ⟨rfl, e, e'⟩
    · rw [e]; decide +kernel
    · rw [e]; decide +kernel
    · simp only [List.any_cons, List.any_nil, Bool.or_false]
      rw [beq_false_of_ne (Ne.symm e), beq_false_of_ne (Ne.symm e')]; rfl
  rw [e]
  refine' ret _ _ ?f (cb_drop ?cbN ?cbS)
  case f => k_asm
  case cbN => assumption
  case cbS => kcj_all
end

theorem days_ge {mo : Int} (h : 1 ≤ mo ∧ mo ≤ 12) : 28 ≤ [31, 28, 31, 30, 31, 30, 31, 31, 30, 31, 30, 31].getD (mo - 1).toNat (0 : Int) := by
  have k : ∀ i : Fin 12, 28 ≤ [31, 28, 31, 30, 31, 30, 31, 31, 30, 31, 30, 31].getD i.val (0 : Int) := by decide
  exact k ⟨(mo - 1).toNat, by omega⟩
section
variable {prog : Program} {w : World} {A : Around} {env : Env} {Q : Flow → Shared → Prop} {E : Value → Shared → Prop} {s : Shared} {h₀ : Heap} {L : Addr} {m : Str → Option Value} {news : List (Addr × Obj)}
theorem joinA {st : Stmt} (F : Fr h₀ L s.heap m) (N : News h₀ L s.heap news) (h : Fr h₀ L s.heap m → News h₀ L s.heap news → ∀ P : Flow → Shared → Prop, (∀ h' tk', Fr h₀ L h' m → News h₀ L h' news → P .next { s with heap := h', toks := tk' }) → wpAny (model prog w) A (exec st env) P E s)
    (k : ∀ h' tk', Fr h₀ L h' m → News h₀ L h' news → Q .next { s with heap := h', toks := tk' }) : wpAny (model prog w) A (exec st env) Q E s := h F N _ k
theorem joinV (x : Str) (lo : Int) {st : Stmt} (F : Fr h₀ L s.heap m) (N : News h₀ L s.heap news) (h : Fr h₀ L s.heap m → News h₀ L s.heap news → ∀ P : Flow → Shared → Prop, (∀ h' tk' v t, Fr h₀ L h' (fun y => if y = x then some (.int v t) else m y) → News h₀ L h' news → lo ≤ v → P .next { s with heap := h', toks := tk' }) → wpAny (model prog w) A (exec st env) P E s)
    (k : ∀ h' tk' v t, Fr h₀ L h' (fun y => if y = x then some (.int v t) else m y) → News h₀ L h' news → lo ≤ v → Q .next { s with heap := h', toks := tk' }) : wpAny (model prog w) A (exec st env) Q E s := h F N _ k
theorem if_self2 {x : Str} {a : Option Value} {m : Str → Option Value} : (fun y => if y = x then a else if y = x then a else m y) = fun y => if y = x then a else m y := funext fun y => by
  by_cases h : y = x
  · rw [if_pos h, if_pos h]
  · rw [if_neg h, if_neg h]
theorem fr_set2 {h : Heap} {x : Str} {a b : Option Value} (F : Fr h₀ L h (fun y => if y = x then a else if y = x then b else m y)) : Fr h₀ L h (fun y => if y = x then a else m y) := by
  have e : (fun y => if y = x then a else if y = x then b else m y) = fun y => if y = x then a else m y := funext fun y => by
    by_cases h : y = x
    · rw [if_pos h, if_pos h]
    · rw [if_neg h, if_neg h, if_neg h]
  rw [e] at F
  exact F
end
section
variable {w : World} {dp un : Nat} {gd : Option (List Code)} {cn : Str} {cs : Scope} {a : Addr} {ccd : Value} {cl : List (Str × Addr)} {outer : List Env} {A₀ : Around} {base h₀ : Heap} {L : Addr} {m : Str → Option Value} {news : List (Addr × Obj)} {s : Shared} {Q E : Value → Shared → Prop} {loose : List Str} {mean : ExcName → Option Value} {mg mb : Str → Option Value}
  (B : Below A₀ base outer h₀) (F : Fr h₀ L s.heap m) (X : (Mine.KF w.params).In h₀) (N : News h₀ L s.heap news) (T : Top topProg loose mean mg mb h₀) (hk : cs.kind = .function) (hd : dp + 12 ≤ 500) (hu : un + 240 ≤ 5000)
include B F X N T hk hd hu
theorem ct_moment {yy mo d hr mi sc : Int} {u0 u1 u2 u3 u4 u5 : Tok} (hy : 1980 ≤ yy ∧ yy < 2108) (hmo : 1 ≤ mo ∧ mo ≤ 12) (hdd : 1 ≤ d ∧ d ≤ 28) (hhr : 0 ≤ hr ∧ hr < 24) (hmi : 0 ≤ mi ∧ mi < 60) (hsc : 0 ≤ sc ∧ sc < 60)
    (ret : ∀ M D u0 u1 u2 u3 u4 u5 g0 g1 g2 g3 g4 g5 h' tk', Fr h₀ L h' m → News h₀ L h' ((M, instObj 104 D) :: (D, dictOf [{ hash := PyData.keyHash w.params (Str.ofString "year"), key := Value.str (Str.ofString "year") g0, val := Value.int yy u0 }, { hash := PyData.keyHash w.params (Str.ofString "month"), key := Value.str (Str.ofString "month") g1, val := Value.int mo u1 }, { hash := PyData.keyHash w.params (Str.ofString "day"), key := Value.str (Str.ofString "day") g2, val := Value.int d u2 }, { hash := PyData.keyHash w.params (Str.ofString "hour"), key := Value.str (Str.ofString "hour") g3, val := Value.int hr u3 }, { hash := PyData.keyHash w.params (Str.ofString "minute"), key := Value.str (Str.ofString "minute") g4, val := Value.int mi u4 }, { hash := PyData.keyHash w.params (Str.ofString "second"), key := Value.str (Str.ofString "second") g5, val := Value.int sc u5 }] 6) :: news) → (∀ p ∈ news, p.1 < D) → D < M → Q (.ref M) { s with heap := h', toks := tk' }) :
    wpAny (model PySem.Challenge.rw_iw0015_02.row.prog w) (ktrTop dp un gd cn cs L a ccd cl outer) (call (.ref 104) [.int yy u0, .int mo u1, .int d u2, .int hr u3, .int mi u4, .int sc u5]) Q E s := by
  have hdays := days_ge hmo
  k_with_none
  (k_with "ite" => (k_closed; first | refine ite_pos (by decide) ?_ | refine ite_neg (by decide) ?_))
  (k_with "execs nil" => (k_here; dsimp only))
  (k_with "execs cons" => (k_here; dsimp only))
  revert X; k_fill; intro X
  k_dflt (refine' call_cls ?k1 ?k2 ?k3 ?k4 ?k5 ?k6 ?_; (case k1 => k_asm); (case k2 => k_asm); (case k3 => k_asm); (case k4 => k_is); (case k5 => k_is); (case k6 => k_is); k_whole; intro x' d' h' F' N' l1 l2; (try k_lt l1); (try k_lt2 l2); (try k_sweep); (refine' code_def ?k1 ?k2 ?k3 ?k4 ?k5 ?kA ?kF ?kK ?k6 ?k7 ?k8 ?k9 ?kB ?_ ?c2 ?c3 ?c4 ?c5; (case kA => exact rfl); (case kF => exact rfl); (case kK => first | exact rfl | assumption); (case k1 => k_asm); (case k2 => k_asm); (case k3 => k_asm); (case k4 => k_asm); (case k5 => k_asm); (case k6 => k_is); (case k7 => k_is); (case k8 => k_room); (case k9 => exact kp_binds (binds := [(Str.ofString "self", Value.ref x'), (Str.ofString "year", Value.int yy u0), (Str.ofString "month", Value.int mo u1), (Str.ofString "day", Value.int d u2), (Str.ofString "hour", Value.int hr u3), (Str.ofString "minute", Value.int mi u4), (Str.ofString "second", Value.int sc u5)]) (by k_in) (fun S => by kernel_rfl)); (case c5 => decide); (case kB => exact locs rfl); (case c2 => exact rfl); (case c3 => exact rfl); (case c4 => exact rfl); k_whole; intro g' L' h' FG' F' N' B' X' T'; (try dsimp only); (try k_lift B'); (try k_fold)))
  (replace F' : Fr g' L' h' (fun y => List.lookup y [(Str.ofString "second", Value.int sc u5), (Str.ofString "minute", Value.int mi u4), (Str.ofString "hour", Value.int hr u3), (Str.ofString "day", Value.int d u2), (Str.ofString "month", Value.int mo u1), (Str.ofString "year", Value.int yy u0), (Str.ofString "self", Value.ref x')]) := F')
  rename Fr _ L' _ _ => F6
  rename News _ L' _ _ => N6
  walk1
  (try dsimp only)
  refine @joinA _ _ _ _ _ _ _ _ _ _ _ _ F6 N6 ?_ ?_
  · intro F7 N7 P hP
    k_steps
    all_goals (refine hP _ _ ?_ ?_ <;> k_asm)
  intro h8 tk8 F8 N8
  (try dsimp only)
  walk1
  (try dsimp only)
  refine @joinV _ _ _ _ _ _ _ _ _ _ _ (Str.ofString "days") 28 _ F8 N8 ?_ ?_
  · intro F7 N7 P hP
    k_steps
    rename Fr _ L' _ _ => F6
    rename News _ L' _ _ => N6
    exact hP _ _ _ _ F6 (fun p hp => N6 p (.tail _ hp)) hdays
  intro h7 tk7 dv td F7 N7 hv
  (try dsimp only)
  walk1
  (try dsimp only)
  refine @joinV _ _ _ _ _ _ _ _ _ _ _ (Str.ofString "days") 28 _ F7 N7 ?_ ?_
  · intro F5 N5 P hP
    k_steps
    all_goals
      rename Fr _ L' _ _ => F6
      rename News _ L' _ _ => N6
      first
        | exact hP _ _ _ _ F6 N6 (by decide)
        | exact hP _ _ dv td (by rw [if_self2]; exact F6) N6 hv
  intro h5 tk5 dw t2 F5 N5 hv2
  replace F5 := fr_set2 F5
  clear F7 N7 hv
  (try dsimp only)
  k_steps
  rename News h₀ L _ _ => N9
  refine' ret _ _ _ _ _ _ _ _ _ _ _ _ _ _ _ _ ?f (fun p hp => N9 p (.tail _ (.tail _ hp))) ?l ?d
  case f => k_asm
  case l => assumption
  case d => assumption
end

theorem land_low {i b : Nat} (h : b < 2 ^ i) (a : Nat) : Nat.land (2 ^ i * a) b = 0 := by
  show (2 ^ i * a) &&& b = 0
  refine Nat.eq_of_testBit_eq fun j => ?_
  rw [Nat.testBit_and, Nat.zero_testBit]
  by_cases hj : i ≤ j
  · rw [Nat.testBit_lt_two_pow (Nat.lt_of_lt_of_le h (Nat.pow_le_pow_right (by decide) hj)), Bool.and_false]
  · rw [Nat.testBit_two_pow_mul, decide_eq_false hj, Bool.false_and, Bool.false_and]
theorem or_low (i : Nat) {a b : Int} (ha : 0 ≤ a) (hb : 0 ≤ b) (h : b < ((2 ^ i : Nat) : Int)) : Builtin.bitOr (((2 ^ i : Nat) : Int) * a) b = ((2 ^ i : Nat) : Int) * a + b := by
  rw [bitOr_and]
  obtain ⟨x, rfl⟩ := Int.eq_ofNat_of_zero_le ha
  obtain ⟨y, rfl⟩ := Int.eq_ofNat_of_zero_le hb
  have e : Builtin.bitAnd (((2 ^ i : Nat) : Int) * (x : Int)) (y : Int) = ((Nat.land (2 ^ i * x) y : Nat) : Int) := rfl
  rw [e, land_low (Int.ofNat_lt.mp h), Int.natCast_zero, Int.sub_zero]
theorem sdate_eq {y mo d : Int} (hy : 1980 ≤ y ∧ y < 2108) (hmo : 1 ≤ mo ∧ mo ≤ 12) (hdd : 1 ≤ d ∧ d ≤ 28) : Builtin.bitOr (Builtin.bitOr ((y - 1980) * 2 ^ Int.toNat 9) (mo * 2 ^ Int.toNat 5)) d = (y - 1980) * 512 + mo * 32 + d := by
  have e1 := or_low 9 (a := y - 1980) (b := mo * 32) (by omega) (by omega) (by show mo * 32 < 512; omega)
  have e2 := or_low 5 (a := (y - 1980) * 16 + mo) (b := d) (by omega) (by omega) (by show d < 32; omega)
  have q1 : Builtin.bitOr ((y - 1980) * 2 ^ Int.toNat 9) (mo * 2 ^ Int.toNat 5) = 32 * ((y - 1980) * 16 + mo) := by
    have r1 : (y - 1980) * 2 ^ Int.toNat 9 = ((2 ^ 9 : Nat) : Int) * (y - 1980) := Int.mul_comm _ _
    have r2 : mo * 2 ^ Int.toNat 5 = mo * 32 := rfl
    rw [r1, r2, e1]
    show 512 * (y - 1980) + mo * 32 = _
    omega
  rw [q1]
  refine e2.trans ?_
  show 32 * ((y - 1980) * 16 + mo) + d = _
  omega
theorem stime_eq {hr mi sc : Int} (hhr : 0 ≤ hr ∧ hr < 24) (hmi : 0 ≤ mi ∧ mi < 60) (hsc : 0 ≤ sc ∧ sc < 60) : Builtin.bitOr (Builtin.bitOr (hr * 2 ^ Int.toNat 11) (mi * 2 ^ Int.toNat 5)) ((sc - sc.fmod 2).fdiv 2) = hr * 2048 + mi * 32 + sc.fdiv 2 := by
  have q0 : (sc - sc.fmod 2).fdiv 2 = sc.fdiv 2 := by
    rw [Int.fmod_eq_emod_of_nonneg _ (by decide), Int.fdiv_eq_ediv_of_nonneg _ (by decide), Int.fdiv_eq_ediv_of_nonneg _ (by decide)]
    omega
  have q2 : 0 ≤ sc.fdiv 2 ∧ sc.fdiv 2 < 30 := by
    rw [Int.fdiv_eq_ediv_of_nonneg _ (by decide)]
    omega
  have e1 := or_low 11 (a := hr) (b := mi * 32) (by omega) (by omega) (by show mi * 32 < 2048; omega)
  have e2 := or_low 5 (a := hr * 64 + mi) (b := sc.fdiv 2) (by omega) (by omega) (by show sc.fdiv 2 < 32; omega)
  have q1 : Builtin.bitOr (hr * 2 ^ Int.toNat 11) (mi * 2 ^ Int.toNat 5) = 32 * (hr * 64 + mi) := by
    have r1 : hr * 2 ^ Int.toNat 11 = ((2 ^ 11 : Nat) : Int) * hr := Int.mul_comm _ _
    have r2 : mi * 2 ^ Int.toNat 5 = mi * 32 := rfl
    rw [r1, r2, e1]
    show 2048 * hr + mi * 32 = _
    omega
  rw [q1, q0]
  refine e2.trans ?_
  show 32 * (hr * 64 + mi) + sc.fdiv 2 = _
  omega
section
variable {w : World} {dp un : Nat} {gd : Option (List Code)} {cn : Str} {cs : Scope} {a : Addr} {ccd : Value} {cl : List (Str × Addr)} {outer : List Env} {A₀ : Around} {base h₀ : Heap} {L : Addr} {m : Str → Option Value} {news : List (Addr × Obj)} {s : Shared} {Q E : Value → Shared → Prop} {loose : List Str} {mean : ExcName → Option Value} {mg mb : Str → Option Value}
  (B : Below A₀ base outer h₀) (F : Fr h₀ L s.heap m) (X : (Mine.KF w.params).In h₀) (N : News h₀ L s.heap news) (T : Top topProg loose mean mg mb h₀) (hk : cs.kind = .function) (hd : dp + 8 ≤ 500) (hu : un + 160 ≤ 5000)
include B F X N T hk hd hu
theorem ct_sdate {M D : Addr} {y mo d hr mi sc : Int} {u0 u1 u2 u3 u4 u5 g0 g1 g2 g3 g4 g5 : Tok} (hM : (M, instObj 104 D) ∈ news) (hD : (D, dictOf [{ hash := PyData.keyHash w.params (Str.ofString "year"), key := Value.str (Str.ofString "year") g0, val := Value.int y u0 }, { hash := PyData.keyHash w.params (Str.ofString "month"), key := Value.str (Str.ofString "month") g1, val := Value.int mo u1 }, { hash := PyData.keyHash w.params (Str.ofString "day"), key := Value.str (Str.ofString "day") g2, val := Value.int d u2 }, { hash := PyData.keyHash w.params (Str.ofString "hour"), key := Value.str (Str.ofString "hour") g3, val := Value.int hr u3 }, { hash := PyData.keyHash w.params (Str.ofString "minute"), key := Value.str (Str.ofString "minute") g4, val := Value.int mi u4 }, { hash := PyData.keyHash w.params (Str.ofString "second"), key := Value.str (Str.ofString "second") g5, val := Value.int sc u5 }] 6) ∈ news) (hy : 1980 ≤ y ∧ y < 2108) (hmo : 1 ≤ mo ∧ mo ≤ 12) (hdd : 1 ≤ d ∧ d ≤ 28)
    (ret : ∀ t h' tk', Fr h₀ L h' m → News h₀ L h' news → Q (.int ((y - 1980) * 512 + mo * 32 + d) t) { s with heap := h', toks := tk' }) :
    wpAny (model PySem.Challenge.rw_iw0015_02.row.prog w) (ktrTop dp un gd cn cs L a ccd cl outer) (call (.ref 74) [.ref M]) Q E s := by
  k_with_none
  (k_with "ite" => (k_closed; first | refine ite_pos (by decide) ?_ | refine ite_neg (by decide) ?_))
  (k_with "execs nil" => (k_here; dsimp only))
  (k_with "execs cons" => (k_here; dsimp only))
  revert X; k_fill; intro X
  refine wpAny_call ?_
  k_dflt (refine' code_def ?k1 ?k2 ?k3 ?k4 ?k5 ?kA ?kF ?kK ?k6 ?k7 ?k8 ?k9 ?kB ?_ ?c2 ?c3 ?c4 ?c5; (case kA => exact rfl); (case kF => exact rfl); (case kK => first | exact rfl | assumption); (case k1 => k_asm); (case k2 => k_asm); (case k3 => k_asm); (case k4 => k_asm); (case k5 => k_asm); (case k6 => k_is); (case k7 => k_is); (case k8 => k_room); (case k9 => exact kp_binds (binds := [(Str.ofString "self", Value.ref M)]) (by k_in) (fun S => by kernel_rfl)); (case c5 => decide); (case kB => exact locs rfl); (case c2 => exact rfl); (case c3 => exact rfl); (case c4 => exact rfl); k_whole; intro g' L' h' FG' F' N' B' X' T'; (try dsimp only); (try k_lift B'); (try k_fold))
  (replace F' : Fr g' L' h' (fun y => List.lookup y [(Str.ofString "self", Value.ref M)]) := F')
  k_steps
  rw [sdate_eq hy hmo hdd]
  refine' ret _ _ _ ?fx ?nx
  case fx => k_asm
  case nx => k_asm
theorem ct_stime {M D : Addr} {y mo d hr mi sc : Int} {u0 u1 u2 u3 u4 u5 g0 g1 g2 g3 g4 g5 : Tok} (hM : (M, instObj 104 D) ∈ news) (hD : (D, dictOf [{ hash := PyData.keyHash w.params (Str.ofString "year"), key := Value.str (Str.ofString "year") g0, val := Value.int y u0 }, { hash := PyData.keyHash w.params (Str.ofString "month"), key := Value.str (Str.ofString "month") g1, val := Value.int mo u1 }, { hash := PyData.keyHash w.params (Str.ofString "day"), key := Value.str (Str.ofString "day") g2, val := Value.int d u2 }, { hash := PyData.keyHash w.params (Str.ofString "hour"), key := Value.str (Str.ofString "hour") g3, val := Value.int hr u3 }, { hash := PyData.keyHash w.params (Str.ofString "minute"), key := Value.str (Str.ofString "minute") g4, val := Value.int mi u4 }, { hash := PyData.keyHash w.params (Str.ofString "second"), key := Value.str (Str.ofString "second") g5, val := Value.int sc u5 }] 6) ∈ news) (hhr : 0 ≤ hr ∧ hr < 24) (hmi : 0 ≤ mi ∧ mi < 60) (hsc : 0 ≤ sc ∧ sc < 60)
    (ret : ∀ t h' tk', Fr h₀ L h' m → News h₀ L h' news → Q (.int (hr * 2048 + mi * 32 + sc.fdiv 2) t) { s with heap := h', toks := tk' }) :
    wpAny (model PySem.Challenge.rw_iw0015_02.row.prog w) (ktrTop dp un gd cn cs L a ccd cl outer) (call (.ref 81) [.ref M]) Q E s := by
  k_with_none
  (k_with "ite" => (k_closed; first | refine ite_pos (by decide) ?_ | refine ite_neg (by decide) ?_))
  (k_with "execs nil" => (k_here; dsimp only))
  (k_with "execs cons" => (k_here; dsimp only))
  revert X; k_fill; intro X
  refine wpAny_call ?_
  k_dflt (refine' code_def ?k1 ?k2 ?k3 ?k4 ?k5 ?kA ?kF ?kK ?k6 ?k7 ?k8 ?k9 ?kB ?_ ?c2 ?c3 ?c4 ?c5; (case kA => exact rfl); (case kF => exact rfl); (case kK => first | exact rfl | assumption); (case k1 => k_asm); (case k2 => k_asm); (case k3 => k_asm); (case k4 => k_asm); (case k5 => k_asm); (case k6 => k_is); (case k7 => k_is); (case k8 => k_room); (case k9 => exact kp_binds (binds := [(Str.ofString "self", Value.ref M)]) (by k_in) (fun S => by kernel_rfl)); (case c5 => decide); (case kB => exact locs rfl); (case c2 => exact rfl); (case c3 => exact rfl); (case c4 => exact rfl); k_whole; intro g' L' h' FG' F' N' B' X' T'; (try dsimp only); (try k_lift B'); (try k_fold))
  (replace F' : Fr g' L' h' (fun y => List.lookup y [(Str.ofString "self", Value.ref M)]) := F')
  k_steps
  rw [stime_eq hhr hmi hsc]
  refine' ret _ _ _ ?fx ?nx
  case fx => k_asm
  case nx => k_asm
end


section
variable {w : World} {dp un : Nat} {gd : Option (List Code)} {cn : Str} {cs : Scope} {a : Addr} {ccd : Value} {cl : List (Str × Addr)} {outer : List Env} {A₀ : Around} {base h₀ : Heap} {L : Addr} {m : Str → Option Value} {news : List (Addr × Obj)} {s : Shared} {Q E : Value → Shared → Prop} {loose : List Str} {mean : ExcName → Option Value} {mg mb : Str → Option Value}
  (B : Below A₀ base outer h₀) (F : Fr h₀ L s.heap m) (X : (Mine.KF w.params).In h₀) (N : News h₀ L s.heap news) (T : Top topProg loose mean mg mb h₀) (hk : cs.kind = .function) (hd : dp + 24 ≤ 500) (hu : un + 480 ≤ 5000)
include B F X N T hk hd hu
theorem ct_new {S M D : Addr} {y mo d hr mi sc at' nt cl' sz : Int} {u0 u1 u2 u3 u4 u5 g0 g1 g2 g3 g4 g5 te ta tn tc ts : Tok} (hM : (M, instObj 104 D) ∈ news) (hD : (D, dictOf [{ hash := PyData.keyHash w.params (Str.ofString "year"), key := Value.str (Str.ofString "year") g0, val := Value.int y u0 }, { hash := PyData.keyHash w.params (Str.ofString "month"), key := Value.str (Str.ofString "month") g1, val := Value.int mo u1 }, { hash := PyData.keyHash w.params (Str.ofString "day"), key := Value.str (Str.ofString "day") g2, val := Value.int d u2 }, { hash := PyData.keyHash w.params (Str.ofString "hour"), key := Value.str (Str.ofString "hour") g3, val := Value.int hr u3 }, { hash := PyData.keyHash w.params (Str.ofString "minute"), key := Value.str (Str.ofString "minute") g4, val := Value.int mi u4 }, { hash := PyData.keyHash w.params (Str.ofString "second"), key := Value.str (Str.ofString "second") g5, val := Value.int sc u5 }] 6) ∈ news)
    (hy : 1980 ≤ y ∧ y < 2108) (hmo : 1 ≤ mo ∧ mo ≤ 12) (hdd : 1 ≤ d ∧ d ≤ 28) (hhr : 0 ≤ hr ∧ hr < 24) (hmi : 0 ≤ mi ∧ mi < 60) (hsc : 0 ≤ sc ∧ sc < 60) (hz : 0 ≤ sz ∧ sz ≤ 4294967295) (hc : 0 ≤ cl' ∧ cl' < 4294967296)
    (ret : ∀ O D R t0 t1 t2 t3 t4 t5 t6 t7 t8 t9 tz G0 G1 G2 G3 G4 G5 G6 G7 G8 G9 G10 G11 G12 G13 G14 G15 G16 G17 c h' tk', Fr h₀ L h' m → News h₀ L h' ((O, instObj 482 D) :: (D, dictOf [{ hash := PyData.keyHash w.params (Str.ofString "name"), key := Value.str (Str.ofString "name") G0, val := Value.ref S }, { hash := PyData.keyHash w.params (Str.ofString "attr"), key := Value.str (Str.ofString "attr") G1, val := Value.int at' t0 }, { hash := PyData.keyHash w.params (Str.ofString "ntres"), key := Value.str (Str.ofString "ntres") G2, val := Value.int nt t1 }, { hash := PyData.keyHash w.params (Str.ofString "crttimetenth"), key := Value.str (Str.ofString "crttimetenth") G3, val := Value.int 0 t2 }, { hash := PyData.keyHash w.params (Str.ofString "crttime"), key := Value.str (Str.ofString "crttime") G4, val := Value.int (hr * 2048 + mi * 32 + sc.fdiv 2) t3 }, { hash := PyData.keyHash w.params (Str.ofString "crtdate"), key := Value.str (Str.ofString "crtdate") G5, val := Value.int ((y - 1980) * 512 + mo * 32 + d) t4 }, { hash := PyData.keyHash w.params (Str.ofString "lstaccessdate"), key := Value.str (Str.ofString "lstaccessdate") G6, val := Value.int ((y - 1980) * 512 + mo * 32 + d) t5 }, { hash := PyData.keyHash w.params (Str.ofString "fstclushi"), key := Value.str (Str.ofString "fstclushi") G7, val := Value.int (cl'.fdiv 65536) t6 }, { hash := PyData.keyHash w.params (Str.ofString "wrttime"), key := Value.str (Str.ofString "wrttime") G8, val := Value.int (hr * 2048 + mi * 32 + sc.fdiv 2) t7 }, { hash := PyData.keyHash w.params (Str.ofString "wrtdate"), key := Value.str (Str.ofString "wrtdate") G9, val := Value.int ((y - 1980) * 512 + mo * 32 + d) t8 }, { hash := PyData.keyHash w.params (Str.ofString "fstcluslo"), key := Value.str (Str.ofString "fstcluslo") G10, val := Value.int (cl'.fmod 65536) t9 }, { hash := PyData.keyHash w.params (Str.ofString "filesize"), key := Value.str (Str.ofString "filesize") G11, val := Value.int sz tz }, { hash := PyData.keyHash w.params (Str.ofString "_lazy_load"), key := Value.str (Str.ofString "_lazy_load") G12, val := Value.bool false }, { hash := PyData.keyHash w.params (Str.ofString "_fs"), key := Value.str (Str.ofString "_fs") G13, val := Value.none }, { hash := PyData.keyHash w.params (Str.ofString "_parent"), key := Value.str (Str.ofString "_parent") G14, val := Value.none }, { hash := PyData.keyHash w.params (Str.ofString "lfn_entry"), key := Value.str (Str.ofString "lfn_entry") G15, val := Value.none }, { hash := PyData.keyHash w.params (Str.ofString "_dirs"), key := Value.str (Str.ofString "_dirs") G16, val := Value.ref R }, { hash := PyData.keyHash w.params (Str.ofString "_encoding"), key := Value.str (Str.ofString "_encoding") G17, val := Value.str (Str.ofString "latin-1") te }] 18) :: (R, listOf #[] c) :: news) → (∀ p ∈ news, p.1 < D) → D < O → O < R → Q (.ref O) { s with heap := h', toks := tk' }) :
    wpAny (model PySem.Challenge.rw_iw0015_02.row.prog w) (ktrTop dp un gd cn cs L a ccd cl outer) (call (.ref 227) [.ref S, .ref M, .str (Str.ofString "latin-1") te, .int at' ta, .int nt tn, .int cl' tc, .int sz ts]) Q E s := by
  k_with_none
  (k_with "ite" => (k_closed; first | refine ite_pos (by decide) ?_ | refine ite_neg (by decide) ?_))
  (k_with "execs nil" => (k_here; dsimp only))
  (k_with "execs cons" => (k_here; dsimp only))
  (k_with "call ref nil" => (k_here; (with_reducible show wpAny _ _ (call (Value.ref (nat_lit 482)) _ _) _ _ _); k_dflt (refine' ct_entkw ?kB ?kF ?kX ?kN ?kT ?kk ?kd ?ku ?e0 ?e1 ?e2 ?_; (case kB => k_asm); (case kF => k_asm); (case kX => k_asm); (case kN => k_asm); (case kT => k_asm); (case kk => first | exact rfl | assumption); (case kd => k_room); (case ku => k_units); (case e2 => with_unfolding_all rfl); (case e0 => omega); (case e1 => omega); k_whole); intro O9 D9 R9 v0 v1 v2 v3 v4 v5 v6 v7 v8 v9 vz j0 j1 j2 j3 j4 j5 j6 j7 j8 j9 j10 j11 j12 j13 j14 j15 j16 j17 c9 h9 tk9 F9 N9 l9 d9 x9; (replace d9 := ltN d9); (replace x9 := ltN x9); (try dsimp only); (try k_fold)))
  (k_with "call ref" => (k_here; (with_reducible show wpAny _ _ (call (Value.ref (nat_lit 74)) _) _ _ _); k_dflt (refine' ct_sdate (y := ?_) (mo := ?_) (d := ?_) ?kB ?kF ?kX ?kN ?kT ?kk ?kd ?ku ?e0 ?e1 ?e2 ?e3 ?e4 ?_; (case kB => k_asm); (case kF => k_asm); (case kX => k_asm); (case kN => k_asm); (case kT => k_asm); (case kk => first | exact rfl | assumption); (case kd => k_room); (case ku => k_units); (case e0 => k_mem); (case e1 => k_mem); (case e2 => omega); (case e3 => omega); (case e4 => omega); k_whole); intro t9 h9 tk9 F9 N9; (try dsimp only); (try k_fold)))
  (k_with "call ref" => (k_here; (with_reducible show wpAny _ _ (call (Value.ref (nat_lit 81)) _) _ _ _); k_dflt (refine' ct_stime (hr := ?_) (mi := ?_) (sc := ?_) ?kB ?kF ?kX ?kN ?kT ?kk ?kd ?ku ?e0 ?e1 ?e2 ?e3 ?e4 ?_; (case kB => k_asm); (case kF => k_asm); (case kX => k_asm); (case kN => k_asm); (case kT => k_asm); (case kk => first | exact rfl | assumption); (case kd => k_room); (case ku => k_units); (case e0 => k_mem); (case e1 => k_mem); (case e2 => omega); (case e3 => omega); (case e4 => omega); k_whole); intro t9 h9 tk9 F9 N9; (try dsimp only); (try k_fold)))
  (k_with "call ref" => (k_here; (with_reducible show wpAny _ _ (call (Value.ref (nat_lit 296)) _) _ _ _); k_dflt (refine' ct_setc ?kB ?kF ?kX ?kN ?kT ?kk ?kd ?ku ?e0 ?e1 ?e2 ?e3 ?_; (case kB => k_asm); (case kF => k_asm); (case kX => k_asm); (case kN => k_asm); (case kT => k_asm); (case kk => first | exact rfl | assumption); (case kd => k_room); (case ku => k_units); (case e0 => rfl); (case e1 => k_all); (case e2 => omega); (case e3 => omega); k_whole); intro u79 u19 h9 tk9 F9 N9; (try dsimp only); (try k_fold)))
  revert X; k_fill; intro X
  refine wpAny_call ?_
  k_dflt (refine' code_def ?k1 ?k2 ?k3 ?k4 ?k5 ?kA ?kF ?kK ?k6 ?k7 ?k8 ?k9 ?kB ?_ ?c2 ?c3 ?c4 ?c5; (case kA => exact rfl); (case kF => exact rfl); (case kK => first | exact rfl | assumption); (case k1 => k_asm); (case k2 => k_asm); (case k3 => k_asm); (case k4 => k_asm); (case k5 => k_asm); (case k6 => k_is); (case k7 => k_is); (case k8 => k_room); (case k9 => exact kp_binds (binds := [(Str.ofString "name", Value.ref S), (Str.ofString "tz", Value.ref M), (Str.ofString "encoding", Value.str (Str.ofString "latin-1") te), (Str.ofString "attr", Value.int at' ta), (Str.ofString "ntres", Value.int nt tn), (Str.ofString "cluster", Value.int cl' tc), (Str.ofString "filesize", Value.int sz ts)]) (by k_in) (fun S => by kernel_rfl)); (case c5 => decide); (case kB => exact locs rfl); (case c2 => exact rfl); (case c3 => exact rfl); (case c4 => exact rfl); k_whole; intro g' L' h' FG' F' N' B' X' T'; (try dsimp only); (try k_lift B'); (try k_fold))
  (replace F' : Fr g' L' h' (fun y => List.lookup y [(Str.ofString "filesize", Value.int sz ts), (Str.ofString "cluster", Value.int cl' tc), (Str.ofString "ntres", Value.int nt tn), (Str.ofString "attr", Value.int at' ta), (Str.ofString "encoding", Value.str (Str.ofString "latin-1") te), (Str.ofString "tz", Value.ref M), (Str.ofString "name", Value.ref S)]) := F')
  k_steps
  rename News h₀ L _ _ => N9
  refine' ret _ _ _ _ _ _ _ _ _ _ _ _ _ _ _ _ _ _ _ _ _ _ _ _ _ _ _ _ _ _ _ _ _ _ _ ?fx ?nx ?lx ?dx ?xx
  case fx => k_asm
  case nx => exact N9
  case lx => assumption
  case dx => assumption
  case xx => assumption
end

theorem day_lt {a b c : Int} (h1 : 0 ≤ a ∧ a < 128) (h2 : 0 ≤ b ∧ b < 12) (h3 : 0 ≤ c ∧ c < 28) : 0 ≤ (1980 + a - 1980) * 512 + (1 + b) * 32 + (1 + c) ∧ (1980 + a - 1980) * 512 + (1 + b) * 32 + (1 + c) < 65536 := by omega
theorem clk_lt {a b c : Int} (h1 : 0 ≤ a ∧ a < 24) (h2 : 0 ≤ b ∧ b < 60) (h3 : 0 ≤ c ∧ c < 30) : 0 ≤ a * 2048 + b * 32 + c ∧ a * 2048 + b * 32 + c < 65536 := by omega
theorem sec_lt {c : Int} (h : 0 ≤ c ∧ c < 60) : 0 ≤ c.fdiv 2 ∧ c.fdiv 2 < 30 := by
  rw [Int.fdiv_eq_ediv_of_nonneg _ (by decide)]
  omega
section
variable {w : World} {loose : List Str} {mean : ExcName → Option Value} {mg mb : Str → Option Value} {s : Shared} {Q E : Value → Shared → Prop}
theorem ct_law {l : Addr} {vs : List Value} {ns : List Int} (X : (Mine.KF w.params).In s.heap) (T : Top topProg loose mean mg mb s.heap) (hl : s.heap.IsList l vs.toArray) (hi : IntsAre vs ns) (hn : ns.length ≤ 63)
    (ret : ∀ h' tk', (∀ b o, s.heap.get? b = some o → h'.get? b = some o) → Q (.bool true) { s with heap := h', toks := tk' }) :
    wpC (model PySem.Challenge.rw_iw0015_02.row.prog w) callerA (call (.ref 769) [.ref l]) Q E s := by
  k_with_none
  (k_with "ite" => (k_closed; first | refine ite_pos (by decide) ?_ | refine ite_neg (by decide) ?_))
  (k_with "execs nil" => (k_here; dsimp only))
  (k_with "execs cons" => (k_here; dsimp only))
  (k_with "call ref" => (k_here; (with_reducible show wpAny _ _ (call (Value.ref (nat_lit 696)) _) _ _ _); k_dflt (refine' ct_name ?kB ?kF ?kX ?kN ?kT ?kk ?kd ?ku ?e0 ?e1 ?e2 ?_; (case kB => k_asm); (case kF => k_asm); (case kX => k_asm); (case kN => k_asm); (case kT => k_asm); (case kk => first | exact rfl | assumption); (case kd => k_room); (case ku => k_units); (case e0 => k_asm); (case e1 => first | with_reducible assumption | assumption); (case e2 => first | with_reducible assumption | omega); k_whole); intro T9 R9 vs9 nm9 b9 c9 h9 tk9 F9 N9 hi9 ok9; (try dsimp only); (try k_fold)))
  (k_with "call ref" => (k_here; (with_reducible show wpAny _ _ (call (Value.ref (nat_lit 691)) _) _ _ _); k_dflt (refine' ct_field ?kB ?kF ?kX ?kN ?kT ?kk ?kd ?ku ?e0 ?e1 ?e2 ?e3 ?e4 ?e5 ?_; (case kB => k_asm); (case kF => k_asm); (case kX => k_asm); (case kN => k_asm); (case kT => k_asm); (case kk => first | exact rfl | assumption); (case kd => k_room); (case ku => k_units); (case e0 => k_asm); (case e1 => first | with_reducible assumption | assumption); (case e2 => first | with_reducible assumption | omega); (case e3 => first | decide | exact kge (by with_reducible assumption) (by decide) | omega); (case e4 => first | decide | exact klt (by with_reducible assumption) (by decide) | omega); (case e5 => (first | decide | omega)); k_whole); intro t9 h9 tk9 F9 N9 lo9 hi9; clear lo9 hi9; (try dsimp only); (try k_fold)))
  have K0 := below_caller s.heap
  revert X; k_fill; intro X
  refine wpC_call ?_
  k_dflt (refine' codeC_top X T ?k6 ?k7 ?k9 ?kB ?kD ?_ ?c2 ?c3 ?c4; (case k6 => k_is); (case k7 => k_is); (case k9 => first | exact BindsTo.of_eq rfl | exact binds_K (by k_in) rfl (by k_is) rfl rfl rfl); (case kB => exact rfl); (case kD => decide +kernel); (case c2 => exact rfl); (case c3 => exact rfl); (case c4 => exact rfl); k_whole; intro L' h' tk' cells' F' N' Y'; k_cells Y'; (try simp only [List.cons_append, List.nil_append] at N'); (try dsimp only))
  (replace F' : Fr s.heap L' h' (fun _ => none) := by with_unfolding_all exact F')
  refine execsC_any ?_
  k_steps
  refine execsC_any ?_
  k_steps
  refine execsC_any ?_
  k_steps
  refine execsC_any ?_
  k_steps
  rename IntsAre _ (_ ++ _) => hI9
  with_unfolding_all change IntsAre _ [fieldV ns 4 256, fieldV ns 5 256, fieldV ns 6 256, fieldV ns (7 + 0) 65536, fieldV ns (7 + 1) 65536, fieldV ns (7 + 2) 65536, fieldV ns (7 + 3) 65536, fieldV ns (7 + 4) 65536, fieldV ns (7 + 5) 65536, fieldV ns (7 + 6) 65536] at hI9
  obtain ⟨a0, q0, r0⟩ : ∃ a, fieldV ns 4 256 = a ∧ 0 ≤ a ∧ a < 256 := ⟨_, rfl, fieldV_lo (by decide), fieldV_hi (by decide)⟩
  obtain ⟨a1, q1, r1⟩ : ∃ a, fieldV ns 5 256 = a ∧ 0 ≤ a ∧ a < 256 := ⟨_, rfl, fieldV_lo (by decide), fieldV_hi (by decide)⟩
  obtain ⟨a2, q2, r2⟩ : ∃ a, fieldV ns 6 256 = a ∧ 0 ≤ a ∧ a < 256 := ⟨_, rfl, fieldV_lo (by decide), fieldV_hi (by decide)⟩
  obtain ⟨a3, q3, r3⟩ : ∃ a, fieldV ns (7 + 0) 65536 = a ∧ 0 ≤ a ∧ a < 65536 := ⟨_, rfl, fieldV_lo (by decide), fieldV_hi (by decide)⟩
  obtain ⟨a4, q4, r4⟩ : ∃ a, fieldV ns (7 + 1) 65536 = a ∧ 0 ≤ a ∧ a < 65536 := ⟨_, rfl, fieldV_lo (by decide), fieldV_hi (by decide)⟩
  obtain ⟨a5, q5, r5⟩ : ∃ a, fieldV ns (7 + 2) 65536 = a ∧ 0 ≤ a ∧ a < 65536 := ⟨_, rfl, fieldV_lo (by decide), fieldV_hi (by decide)⟩
  obtain ⟨a6, q6, r6⟩ : ∃ a, fieldV ns (7 + 3) 65536 = a ∧ 0 ≤ a ∧ a < 65536 := ⟨_, rfl, fieldV_lo (by decide), fieldV_hi (by decide)⟩
  obtain ⟨a7, q7, r7⟩ : ∃ a, fieldV ns (7 + 4) 65536 = a ∧ 0 ≤ a ∧ a < 65536 := ⟨_, rfl, fieldV_lo (by decide), fieldV_hi (by decide)⟩
  obtain ⟨a8, q8, r8⟩ : ∃ a, fieldV ns (7 + 5) 65536 = a ∧ 0 ≤ a ∧ a < 65536 := ⟨_, rfl, fieldV_lo (by decide), fieldV_hi (by decide)⟩
  obtain ⟨a9, q9, r9⟩ : ∃ a, fieldV ns (7 + 6) 65536 = a ∧ 0 ≤ a ∧ a < 65536 := ⟨_, rfl, fieldV_lo (by decide), fieldV_hi (by decide)⟩
  rw [q0, q1, q2, q3, q4, q5, q6, q7, q8, q9] at hI9
  obtain ⟨az, qz, rz⟩ : ∃ a, fieldV ns 2 (2 ^ Int.toNat 32) = a ∧ 0 ≤ a ∧ a < 4294967296 := ⟨_, rfl, fieldV_lo (by decide), fieldV_hi (by decide)⟩
  rename Fr s.heap L' _ _ => F8
  rw [qz] at F8
  refine execsC_cons (execC_Assign_Name (evalC_Call ?_))
  k_steps
  k_dflt (refine' callWithC_K (K := KF w.params) ?k1 ?_ ?he ?hp; (case he => rfl); (case hp => rfl); (case k1 => k_is))
  refine wpC_of ?_
  k_steps
  k_dflt (refine' ct_lentry_ok ?kB ?kF ?kX ?kN ?kT ?kk ?kd ?ku ?e0 ?e1 ?e2 ?e3 ?e4 ?e5 ?e6 ?_; (case kB => k_asm); (case kF => k_asm); (case kX => k_asm); (case kN => k_asm); (case kT => k_asm); (case kk => first | exact rfl | assumption); (case kd => k_room); (case ku => k_units); (case e0 => k_mem); (case e1 => assumption); (case e2 => assumption); (case e3 => k_mem); (case e4 => assumption); (case e5 => omega); (case e6 => omega); k_whole)
  intro O D R u0 u1 u2 u3 u4 u5 u6 u7 u8 u9 uz G0 G1 G2 G3 G4 G5 G6 G7 G8 G9 G10 G11 G12 G13 G14 G15 G16 G17 c8 S D2 x b t1 t2 t3 h8 tk8 F7 N7 hb7 l7 o1 o2 o3 o4 o5
  (try dsimp only)
  k_steps
  rename Fr s.heap L' _ _ => F8
  rename News s.heap L' _ _ => N8
  refine law_tidy N8 hI9 hi9 ok9 (by assumption) l7 o1 o2 o3 o4 o5 ?_
  intro w0 w1 w2 w3 w4 w5 w6 w7 w8 w9 N9 nfD nfR nOR nDR
  clear N8
  have DO := o4
  (try dsimp only)
  k_with_none
  (k_with "ite" => (k_closed; first | refine ite_pos (by decide) ?_ | refine ite_neg (by decide) ?_))
  (k_with "execs nil" => (k_here; dsimp only))
  (k_with "execs cons" => (k_here; dsimp only))
  (k_with "call ref" => (k_here; (with_reducible show wpAny _ _ (call (Value.ref (nat_lit 764)) _) _ _ _); k_dflt (refine' ct_holds (x := ?_) (t1 := ?_) (t2 := ?_) (t3 := ?_) ?kB ?kF ?kX ?kN ?kT ?kk ?kd ?ku ?e0 ?e1 ?e2 ?e3 ?e4 ?e5 ?e6 ?e7 ?e8 ?e9 ?e10 ?e11 ?e12 ?e13 ?e14 ?e15 ?e16 ?e17 ?e18 ?e19 ?e20 ?e21 ?_; (case kB => k_asm); (case kF => k_asm); (case kX => k_asm); (case kN => k_asm); (case kT => k_asm); (case kk => first | exact rfl | assumption); (case kd => k_room); (case ku => k_units); (case e0 => k_mem); (case e1 => k_mem); (case e2 => k_mem); (case e3 => k_mem); (case e4 => k_mem); (case e5 => k_asm); (case e6 => k_asm); (case e7 => k_mem); (case e8 => first | assumption | l_ints); (case e9 => k_mem); (case e10 => first | assumption | l_ints); (case e11 => first | with_reducible assumption | omega); (case e12 => first | with_reducible assumption | omega); (case e13 => first | with_reducible assumption | omega); (case e14 => first | with_reducible assumption | omega); (case e15 => first | with_reducible assumption | omega); (case e16 => first | with_reducible assumption | omega); (case e17 => first | with_reducible assumption | omega); (case e18 => first | with_reducible assumption | omega); (case e19 => first | with_reducible assumption | omega); (case e20 => first | with_reducible assumption | omega); (case e21 => first | with_reducible assumption | omega); k_whole); intro h9 tk9 F9 N9; (try dsimp only); (try k_fold)))
  (k_with "call ref" => (k_here; (with_reducible show wpAny _ _ (call (Value.ref (nat_lit 750)) _) _ _ _); k_dflt (refine' ct_bits ?kB ?kF ?kX ?kN ?kT ?kk ?kd ?ku ?e0 ?e1 ?e2 ?_; (case kB => k_asm); (case kF => k_asm); (case kX => k_asm); (case kN => k_asm); (case kT => k_asm); (case kk => first | exact rfl | assumption); (case kd => k_room); (case ku => k_units); (case e0 => k_mem); (case e1 => k_mem); (case e2 => first | with_reducible assumption | omega); k_whole); intro h9 tk9 F9 N9; (try dsimp only); (try k_fold)))
  (k_with "subscriptTail Name Constant ref int" => (k_here; (with_reducible show wpAny _ _ (subscriptTail _ _ (Value.ref _) (Value.int _ _)) _ _ _); (with_reducible rename News _ _ _ _ => NN9); k_dflt (refine' item_led NN9 ?m ?c ?d ?a ?b ?i ?_ ?s; (case m => k_mem); (case c => exact rfl); (case d => exact rfl); (case a => with_unfolding_all decide); (case b => with_unfolding_all decide); (case i => with_unfolding_all rfl); (case s => with_unfolding_all rfl); k_whole)))
  refine @joinC _ _ _ _ _ _ _ _ _ _ _ _ _ F8 N9 ?_ ?_
  · intro F7 N7 P hP
    k_steps
    refine hP _ _ ?_ ?_ <;> first | k_asm | exact cb_drop (by assumption) (by kcj_all)
  intro h8 tk8 F8 N8
  (try dsimp only)
  k_with_none
  (k_with "ite" => (k_closed; first | refine ite_pos (by decide) ?_ | refine ite_neg (by decide) ?_))
  (k_with "execs nil" => (k_here; dsimp only))
  (k_with "execs cons" => (k_here; dsimp only))
  (k_with "call ref" => (k_here; (with_reducible show wpAny _ _ (call (Value.ref (nat_lit 691)) _) _ _ _); k_dflt (refine' ct_field ?kB ?kF ?kX ?kN ?kT ?kk ?kd ?ku ?e0 ?e1 ?e2 ?e3 ?e4 ?e5 ?_; (case kB => k_asm); (case kF => k_asm); (case kX => k_asm); (case kN => k_asm); (case kT => k_asm); (case kk => first | exact rfl | assumption); (case kd => k_room); (case ku => k_units); (case e0 => k_asm); (case e1 => first | with_reducible assumption | assumption); (case e2 => first | with_reducible assumption | omega); (case e3 => first | decide | exact kge (by with_reducible assumption) (by decide) | omega); (case e4 => first | decide | exact klt (by with_reducible assumption) (by decide) | omega); (case e5 => (first | decide | omega)); k_whole); intro t9 h9 tk9 F9 N9 lo9 hi9; (try dsimp only); (try k_fold)))
  (k_with "subscriptTail Name Name ref int" => (k_here; (with_reducible show wpAny _ _ (subscriptTail _ _ (Value.ref _) (Value.int _ _)) _ _ _); (with_reducible rename News _ _ _ _ => NN9); k_dflt (refine' item_led NN9 ?m ?c ?d ?a ?b ?i ?_ ?s; (case m => k_mem); (case c => exact rfl); (case d => exact rfl); (case a => with_unfolding_all decide); (case b => with_unfolding_all decide); (case i => with_unfolding_all rfl); (case s => with_unfolding_all rfl); k_whole)))
  (k_with "subscriptTail Name Constant ref int" => (k_here; (with_reducible show wpAny _ _ (subscriptTail _ _ (Value.ref _) (Value.int _ _)) _ _ _); (with_reducible rename News _ _ _ _ => NN9); k_dflt (refine' item_led NN9 ?m ?c ?d ?a ?b ?i ?_ ?s; (case m => k_mem); (case c => exact rfl); (case d => exact rfl); (case a => with_unfolding_all decide); (case b => with_unfolding_all decide); (case i => with_unfolding_all rfl); (case s => with_unfolding_all rfl); k_whole)))
  (k_with "call ref" => (k_here; (with_reducible show wpAny _ _ (call (Value.ref (nat_lit 338)) _) _ _ _); k_dflt (refine' ct_special (x := ?_) (t1 := ?_) (t2 := ?_) (t3 := ?_) ?kB ?kF ?kX ?kN ?kT ?kk ?kd ?ku ?e0 ?e1 ?e2 ?e3 ?e4 ?e5 ?e6 ?_; (case kB => k_asm); (case kF => k_asm); (case kX => k_asm); (case kN => k_asm); (case kT => k_asm); (case kk => first | exact rfl | assumption); (case kd => k_room); (case ku => k_units); (case e0 => k_mem); (case e1 => k_mem); (case e2 => k_mem); (case e3 => k_mem); (case e4 => k_mem); (case e5 => k_asm); (case e6 => k_asm); k_whole); intro h9 tk9 F9 N9; (try dsimp only); (try k_fold)))
  (k_with "call ref" => (k_here; (with_reducible show wpAny _ _ (call (Value.ref (nat_lit 745)) _) _ _ _); k_dflt (refine' ct_is_eq ?kB ?kF ?kX ?kN ?kT ?kk ?kd ?ku ?e0 ?_; (case kB => k_asm); (case kF => k_asm); (case kX => k_asm); (case kN => k_asm); (case kT => k_asm); (case kk => first | exact rfl | assumption); (case kd => k_room); (case ku => k_units); (case e0 => (first | assumption | with_unfolding_all rfl)); k_whole); intro h9 tk9 F9 N9; (try dsimp only); (try k_fold)))
  (k_with "call ref" => (k_here; (with_reducible show wpAny _ _ (call (Value.ref (nat_lit 757)) _) _ _ _); k_dflt (refine' ct_part ?kB ?kF ?kX ?kN ?kT ?kk ?kd ?ku ?e0 ?_; (case kB => k_asm); (case kF => k_asm); (case kX => k_asm); (case kN => k_asm); (case kT => k_asm); (case kk => first | exact rfl | assumption); (case kd => k_room); (case ku => k_units); (case e0 => first | with_reducible assumption | omega); k_whole); intro h9 tk9 F9 N9; (try dsimp only); (try k_fold)))
  refine @joinC _ _ _ _ _ _ _ _ _ _ _ _ _ F8 N8 ?_ ?_
  · intro F7 N7 P hP
    k_steps
    all_goals (refine hP _ _ ?_ ?_ <;> first | k_asm | exact cb_drop (by assumption) (by kcj_all))
  intro h8 tk8 F8 N8
  (try dsimp only)
  refine execsC_cons (execC_For ?_)
  k_steps
  (try dsimp only)
  rename Fr s.heap L' _ _ => F2
  rename News s.heap L' _ _ => N2
  rename IntsAre _ (List.take _ _) => hI2
  k_dflt (refine' iter_lj (a6 := a6) (a9 := a9) (az := az) (u6 := u6) (u9 := u9) (uz := uz) (w6 := w6) (w9 := w9) (ed := fun b6 b9 bz v6 v9 vz => dictOf [{ hash := PyData.keyHash w.params (Str.ofString "name"), key := Value.str (Str.ofString "name") G0, val := Value.ref S }, { hash := PyData.keyHash w.params (Str.ofString "attr"), key := Value.str (Str.ofString "attr") G1, val := Value.int a0 u0 }, { hash := PyData.keyHash w.params (Str.ofString "ntres"), key := Value.str (Str.ofString "ntres") G2, val := Value.int a1 u1 }, { hash := PyData.keyHash w.params (Str.ofString "crttimetenth"), key := Value.str (Str.ofString "crttimetenth") G3, val := Value.int a2 u2 }, { hash := PyData.keyHash w.params (Str.ofString "crttime"), key := Value.str (Str.ofString "crttime") G4, val := Value.int a3 u3 }, { hash := PyData.keyHash w.params (Str.ofString "crtdate"), key := Value.str (Str.ofString "crtdate") G5, val := Value.int a4 u4 }, { hash := PyData.keyHash w.params (Str.ofString "lstaccessdate"), key := Value.str (Str.ofString "lstaccessdate") G6, val := Value.int a5 u5 }, { hash := PyData.keyHash w.params (Str.ofString "fstclushi"), key := Value.str (Str.ofString "fstclushi") G7, val := Value.int b6 v6 }, { hash := PyData.keyHash w.params (Str.ofString "wrttime"), key := Value.str (Str.ofString "wrttime") G8, val := Value.int a7 u7 }, { hash := PyData.keyHash w.params (Str.ofString "wrtdate"), key := Value.str (Str.ofString "wrtdate") G9, val := Value.int a8 u8 }, { hash := PyData.keyHash w.params (Str.ofString "fstcluslo"), key := Value.str (Str.ofString "fstcluslo") G10, val := Value.int b9 v9 }, { hash := PyData.keyHash w.params (Str.ofString "filesize"), key := Value.str (Str.ofString "filesize") G11, val := Value.int bz vz }, { hash := PyData.keyHash w.params (Str.ofString "_lazy_load"), key := Value.str (Str.ofString "_lazy_load") G12, val := Value.bool false }, { hash := PyData.keyHash w.params (Str.ofString "_fs"), key := Value.str (Str.ofString "_fs") G13, val := Value.none }, { hash := PyData.keyHash w.params (Str.ofString "_parent"), key := Value.str (Str.ofString "_parent") G14, val := Value.none }, { hash := PyData.keyHash w.params (Str.ofString "lfn_entry"), key := Value.str (Str.ofString "lfn_entry") G15, val := Value.none }, { hash := PyData.keyHash w.params (Str.ofString "_dirs"), key := Value.str (Str.ofString "_dirs") G16, val := Value.ref R }, { hash := PyData.keyHash w.params (Str.ofString "_encoding"), key := Value.str (Str.ofString "_encoding") G17, val := Value.str (Str.ofString "latin-1") 479 }] 18) (rf := fun b6 b9 x6 x9 => listOf #[.int a0 w0, .int a1 w1, .int a2 w2, .int a3 w3, .int a4 w4, .int a5 w5, .int b6 x6, .int a7 w7, .int a8 w8, .int b9 x9] 0) rfl ?hv ?hp F2 N2 hI2 ?hl ?hs ?hed ?hrf r6 r9 rz nfD nfR nOR nDR ?turn ?done; (case hv => exact rfl); (case hp => exact rfl); (case hl => exact Nat.le_trans (List.length_take_le _ _) (Nat.le_trans (Nat.sub_le _ _) (Nat.min_le_left _ _))); (case hs => with_unfolding_all rfl); (case hed => exact rfl); (case hrf => exact ⟨_, _, rfl, rfl⟩))
  case turn =>
    intro I oI num t vn vg vc b6 b9 bz tz2 v6 v9 vz x6 x9 h9 tk9 p6 p9 pz nIR hneD hneR F3 N3 P hP
    clear F2 N2 r6 r9 rz nfD nfR
    (try dsimp only at hP hneD hneR F3 N3)
    replace F3 := show Fr s.heap L' _ _ from F3
    replace N3 := show News s.heap L' _ _ from N3
    (try dsimp only)
    refine execsC_any ?_
    k_steps
    (try dsimp only)
    refine execsC_cons (execC_If ?_)
    k_steps
    · refine execsC_cons (execC_Assign_Name (wpC_of (int_in (lo := 0) (hi := 10 ^ 30) ?_ ?_)))
      · (try dsimp only)
        k_steps
        · exact ⟨_, _, _, rfl, rfl, (fm (by decide)).1, Int.lt_trans (fm (by decide)).2 (by decide)⟩
        · exact ⟨_, _, _, rfl, rfl, Int.add_nonneg (by decide) (fm (by decide)).1, Int.lt_of_lt_of_le (Int.add_lt_add_left (fm (by decide)).2 _) (by decide)⟩
      intro g ug tk7 hg
      (try dsimp only)
      k_steps
      (try dsimp only)
      by_cases hgz : g ≤ 4294967295
      · have hgy : g ≤ 2 ^ Int.toNat 32 - 1 := hgz
        (k_with_none; (k_with "ite" => (k_closed; first | refine ite_pos (by decide) ?_ | refine ite_neg (by decide) ?_)); (k_with "execs nil" => (k_here; dsimp only)); (k_with "execs cons" => (k_here; dsimp only)); (k_with "call ref" => (k_here; (with_reducible show wpAny _ _ (call (Value.ref (nat_lit 738)) _) _ _ _); k_dflt (refine' ct_sized_ok ?kB ?kF ?kX ?kN ?kT ?kk ?kd ?ku ?e0 ?e1 ?e2 ?e3 ?_; (case kB => k_asm); (case kF => k_asm); (case kX => k_asm); (case kN => k_asm); (case kT => k_asm); (case kk => first | exact rfl | assumption); (case kd => k_room); (case ku => k_units); (case e0 => rfl); (case e1 => k_all); (case e2 => omega); (case e3 => omega); k_whole); intro uz9 t9 h9 tk9 F9 N9; (try dsimp only); (try k_fold))))
        refine execsC_any ?_
        k_steps
        all_goals (try dsimp only)
        all_goals (first | (exfalso; omega) | skip)
        refine execsC_any ?_
        k_steps
        all_goals (try dsimp only)
        all_goals (first | (exfalso; omega) | skip)
        refine wpC_of ?_
        k_steps
        (try dsimp only)
        (k_with_none; (k_with "ite" => (k_closed; first | refine ite_pos (by decide) ?_ | refine ite_neg (by decide) ?_)); (k_with "execs nil" => (k_here; dsimp only)); (k_with "execs cons" => (k_here; dsimp only)); (k_with "call ref" => (k_here; (with_reducible show wpAny _ _ (call (Value.ref (nat_lit 764)) _) _ _ _); k_dflt (refine' ct_holds (x := ?_) (t1 := ?_) (t2 := ?_) (t3 := ?_) ?kB ?kF ?kX ?kN ?kT ?kk ?kd ?ku ?e0 ?e1 ?e2 ?e3 ?e4 ?e5 ?e6 ?e7 ?e8 ?e9 ?e10 ?e11 ?e12 ?e13 ?e14 ?e15 ?e16 ?e17 ?e18 ?e19 ?e20 ?e21 ?_; (case kB => k_asm); (case kF => k_asm); (case kX => k_asm); (case kN => k_asm); (case kT => k_asm); (case kk => first | exact rfl | assumption); (case kd => k_room); (case ku => k_units); (case e0 => k_mem); (case e1 => k_mem); (case e2 => k_mem); (case e3 => k_mem); (case e4 => k_mem); (case e5 => k_asm); (case e6 => k_asm); (case e7 => k_mem); (case e8 => first | assumption | l_ints); (case e9 => k_mem); (case e10 => first | assumption | l_ints); (case e11 => first | with_reducible assumption | omega); (case e12 => first | with_reducible assumption | omega); (case e13 => first | with_reducible assumption | omega); (case e14 => first | with_reducible assumption | omega); (case e15 => first | with_reducible assumption | omega); (case e16 => first | with_reducible assumption | omega); (case e17 => first | with_reducible assumption | omega); (case e18 => first | with_reducible assumption | omega); (case e19 => first | with_reducible assumption | omega); (case e20 => first | with_reducible assumption | omega); (case e21 => first | with_reducible assumption | omega); k_whole); intro h9 tk9 F9 N9; (try dsimp only); (try k_fold))))
        refine execsC_any ?_
        k_steps
        (try dsimp only)
        refine wpC_of ?_
        k_steps
        rename Fr s.heap L' _ _ => F6
        rename News s.heap L' _ _ => N6
        exact hP _ _ _ _ _ _ _ _ _ _ _ _ F6 N6 (by with_unfolding_all rfl) (fun y h1 h2 h3 h4 h5 => by simp only [if_neg h1, if_neg h2, if_neg h3, if_neg h4, if_neg h5]) p6 p9 ⟨hg.1, by omega⟩
      · have hgy : ¬ g ≤ 2 ^ Int.toNat 32 - 1 := hgz
        refine execsC_cons (execC_IfNe ?_ (by with_unfolding_all rfl))
        refine evalC_Call ?_
        k_steps
        k_dflt (refine' callWithC_K (K := KF w.params) ?k1 ?_ ?he ?hp; (case he => rfl); (case hp => rfl); (case k1 => k_is))
        refine wpC_of ?_
        k_steps
        k_dflt (refine' ct_sized_raise ?kB ?kF ?kX ?kN ?kT ?kk ?kd ?ku ?e0 ?e1 ?e2 ?_; (case kB => k_asm); (case kF => k_asm); (case kX => k_asm); (case kN => k_asm); (case kT => k_asm); (case kk => first | exact rfl | assumption); (case kd => k_room); (case ku => k_units); (case e0 => k_mem); (case e1 => k_mem); (case e2 => exact ⟨by omega, hg.2⟩); k_whole)
        intro t0 h7 tk7 F7 N7
        (try dsimp only)
        k_steps
        all_goals (try dsimp only)
        all_goals (first | (exfalso; omega) | skip)
        refine wpC_of ?_
        k_steps
        (try dsimp only)
        refine execsC_cons (execC_If ?_)
        k_steps
        all_goals (try dsimp only)
        all_goals (first | (exfalso; omega) | skip)
        refine execsC_cons (execC_IfNe ?_ (by with_unfolding_all rfl))
        refine evalC_Call ?_
        k_steps
        k_dflt (refine' callWithC_K (K := KF w.params) ?k1 ?_ ?he ?hp; (case he => rfl); (case hp => rfl); (case k1 => k_is))
        refine wpC_of ?_
        k_steps
        k_dflt (refine' ct_lentry_raise ?kB ?kF ?kX ?kN ?kT ?kk ?kd ?ku ?e0 ?e1 ?e2 ?e3 ?e4 ?e5 ?_; (case kB => k_asm); (case kF => k_asm); (case kX => k_asm); (case kN => k_asm); (case kT => k_asm); (case kk => first | exact rfl | assumption); (case kd => k_room); (case ku => k_units); (case e0 => k_mem); (case e1 => first | with_reducible assumption | assumption); (case e2 => assumption); (case e3 => k_mem); (case e4 => l_ints); (case e5 => exact ⟨by omega, hg.2⟩); k_whole)
        intro t5 h6 tk6 F6 N6
        (try dsimp only)
        k_steps
        all_goals (try dsimp only)
        all_goals (first | (exfalso; omega) | skip)
        refine wpC_of ?_
        k_steps
        (try dsimp only)
        refine wpC_of ?_
        k_steps
        (try dsimp only)
        refine wpC_of ?_
        k_steps
        (try dsimp only)
        (k_with_none; (k_with "ite" => (k_closed; first | refine ite_pos (by decide) ?_ | refine ite_neg (by decide) ?_)); (k_with "execs nil" => (k_here; dsimp only)); (k_with "execs cons" => (k_here; dsimp only)); (k_with "call ref" => (k_here; (with_reducible show wpAny _ _ (call (Value.ref (nat_lit 764)) _) _ _ _); k_dflt (refine' ct_holds (x := ?_) (t1 := ?_) (t2 := ?_) (t3 := ?_) ?kB ?kF ?kX ?kN ?kT ?kk ?kd ?ku ?e0 ?e1 ?e2 ?e3 ?e4 ?e5 ?e6 ?e7 ?e8 ?e9 ?e10 ?e11 ?e12 ?e13 ?e14 ?e15 ?e16 ?e17 ?e18 ?e19 ?e20 ?e21 ?_; (case kB => k_asm); (case kF => k_asm); (case kX => k_asm); (case kN => k_asm); (case kT => k_asm); (case kk => first | exact rfl | assumption); (case kd => k_room); (case ku => k_units); (case e0 => k_mem); (case e1 => k_mem); (case e2 => k_mem); (case e3 => k_mem); (case e4 => k_mem); (case e5 => k_asm); (case e6 => k_asm); (case e7 => k_mem); (case e8 => first | assumption | l_ints); (case e9 => k_mem); (case e10 => first | assumption | l_ints); (case e11 => first | with_reducible assumption | omega); (case e12 => first | with_reducible assumption | omega); (case e13 => first | with_reducible assumption | omega); (case e14 => first | with_reducible assumption | omega); (case e15 => first | with_reducible assumption | omega); (case e16 => first | with_reducible assumption | omega); (case e17 => first | with_reducible assumption | omega); (case e18 => first | with_reducible assumption | omega); (case e19 => first | with_reducible assumption | omega); (case e20 => first | with_reducible assumption | omega); (case e21 => first | with_reducible assumption | omega); k_whole); intro h9 tk9 F9 N9; (try dsimp only); (try k_fold))))
        refine execsC_any ?_
        k_steps
        (try dsimp only)
        refine wpC_of ?_
        k_steps
        rename Fr s.heap L' _ _ => F6
        rename News s.heap L' _ _ => N6
        exact hP _ _ _ _ _ _ _ _ _ _ _ _ F6 N6 (by with_unfolding_all rfl) (fun y h1 h2 h3 h4 h5 => by simp only [if_neg h1, if_neg h2, if_neg h3, if_neg h4, if_neg h5]) p6 p9 pz
    · refine execsC_cons (execC_Assign_Name (wpC_of (int_in (lo := 0) (hi := 4294967296) ?_ ?_)))
      · (try dsimp only)
        k_steps
        exact ⟨_, _, _, rfl, rfl, (fm (by decide)).1, (fm (by decide)).2⟩
      intro g ug tk7 hg
      (try dsimp only)
      have hch := fd (k := 65536) hg rfl
      have hcm := fm (x := g) (k := 65536) (by decide)
      k_steps
      (try dsimp only)
      (k_with_none; (k_with "ite" => (k_closed; first | refine ite_pos (by decide) ?_ | refine ite_neg (by decide) ?_)); (k_with "execs nil" => (k_here; dsimp only)); (k_with "execs cons" => (k_here; dsimp only)); (k_with "call ref" => (k_here; (with_reducible show wpAny _ _ (call (Value.ref (nat_lit 296)) _) _ _ _); k_dflt (refine' ct_setc ?kB ?kF ?kX ?kN ?kT ?kk ?kd ?ku ?e0 ?e1 ?e2 ?e3 ?_; (case kB => k_asm); (case kF => k_asm); (case kX => k_asm); (case kN => k_asm); (case kT => k_asm); (case kk => first | exact rfl | assumption); (case kd => k_room); (case ku => k_units); (case e0 => rfl); (case e1 => k_all); (case e2 => omega); (case e3 => omega); k_whole); intro u79 u19 h9 tk9 F9 N9; (try dsimp only); (try k_fold))))
      refine execsC_any ?_
      k_steps
      (try dsimp only)
      refine execsC_any ?_
      k_steps
      (try dsimp only)
      refine execsC_any ?_
      k_steps
      (try dsimp only)
      refine wpC_of ?_
      k_steps
      (try dsimp only)
      (k_with_none; (k_with "ite" => (k_closed; first | refine ite_pos (by decide) ?_ | refine ite_neg (by decide) ?_)); (k_with "execs nil" => (k_here; dsimp only)); (k_with "execs cons" => (k_here; dsimp only)); (k_with "call ref" => (k_here; (with_reducible show wpAny _ _ (call (Value.ref (nat_lit 764)) _) _ _ _); k_dflt (refine' ct_holds (x := ?_) (t1 := ?_) (t2 := ?_) (t3 := ?_) ?kB ?kF ?kX ?kN ?kT ?kk ?kd ?ku ?e0 ?e1 ?e2 ?e3 ?e4 ?e5 ?e6 ?e7 ?e8 ?e9 ?e10 ?e11 ?e12 ?e13 ?e14 ?e15 ?e16 ?e17 ?e18 ?e19 ?e20 ?e21 ?_; (case kB => k_asm); (case kF => k_asm); (case kX => k_asm); (case kN => k_asm); (case kT => k_asm); (case kk => first | exact rfl | assumption); (case kd => k_room); (case ku => k_units); (case e0 => k_mem); (case e1 => k_mem); (case e2 => k_mem); (case e3 => k_mem); (case e4 => k_mem); (case e5 => k_asm); (case e6 => k_asm); (case e7 => k_mem); (case e8 => first | assumption | l_ints); (case e9 => k_mem); (case e10 => first | assumption | l_ints); (case e11 => first | with_reducible assumption | omega); (case e12 => first | with_reducible assumption | omega); (case e13 => first | with_reducible assumption | omega); (case e14 => first | with_reducible assumption | omega); (case e15 => first | with_reducible assumption | omega); (case e16 => first | with_reducible assumption | omega); (case e17 => first | with_reducible assumption | omega); (case e18 => first | with_reducible assumption | omega); (case e19 => first | with_reducible assumption | omega); (case e20 => first | with_reducible assumption | omega); (case e21 => first | with_reducible assumption | omega); k_whole); intro h9 tk9 F9 N9; (try dsimp only); (try k_fold))))
      refine execsC_any ?_
      k_steps
      (try dsimp only)
      refine wpC_of ?_
      k_steps
      rename Fr s.heap L' _ _ => F6
      rename News s.heap L' _ _ => N6
      exact hP _ _ _ _ _ _ _ _ _ _ _ _ F6 N6 (by with_unfolding_all rfl) (fun y h1 h2 h3 h4 h5 => by simp only [if_neg h1, if_neg h2, if_neg h3, if_neg h4, if_neg h5]) hch hcm pz
  case done =>
    intro vm vn vg vc b6 b9 bz tz2 v6 v9 vz x6 x9 h9 tk9 p6 p9 pz F3 N3
    replace F3 := show Fr s.heap L' _ _ from F3
    replace N3 := show News s.heap L' _ _ from N3
    (try dsimp only at F3 N3)
    (try dsimp only)
    (k_with_none; (k_with "ite" => (k_closed; first | refine ite_pos (by decide) ?_ | refine ite_neg (by decide) ?_)); (k_with "execs nil" => (k_here; dsimp only)); (k_with "execs cons" => (k_here; dsimp only)); (k_with "call ref" => (k_here; (with_reducible show wpAny _ _ (call (Value.ref (nat_lit 691)) _) _ _ _); k_dflt (refine' ct_field ?kB ?kF ?kX ?kN ?kT ?kk ?kd ?ku ?e0 ?e1 ?e2 ?e3 ?e4 ?e5 ?_; (case kB => k_asm); (case kF => k_asm); (case kX => k_asm); (case kN => k_asm); (case kT => k_asm); (case kk => first | exact rfl | assumption); (case kd => k_room); (case ku => k_units); (case e0 => k_asm); (case e1 => first | with_reducible assumption | assumption); (case e2 => first | with_reducible assumption | omega); (case e3 => first | decide | exact kge (by with_reducible assumption) (by decide) | omega); (case e4 => first | decide | exact klt (by with_reducible assumption) (by decide) | omega); (case e5 => (first | decide | omega)); k_whole); intro t9 h9 tk9 F9 N9 lo9 hi9; (try dsimp only); (try k_fold))); (k_with "call ref" => (k_here; (with_reducible show wpAny _ _ (call (Value.ref (nat_lit 104)) _) _ _ _); k_dflt (refine' ct_moment ?kB ?kF ?kX ?kN ?kT ?kk ?kd ?ku ?e0 ?e1 ?e2 ?e3 ?e4 ?e5 ?_; (case kB => k_asm); (case kF => k_asm); (case kX => k_asm); (case kN => k_asm); (case kT => k_asm); (case kk => first | exact rfl | assumption); (case kd => k_room); (case ku => k_units); (case e0 => omega); (case e1 => omega); (case e2 => omega); (case e3 => omega); (case e4 => omega); (case e5 => omega); k_whole); intro M9 D9 v0 v1 v2 v3 v4 v5 j0 j1 j2 j3 j4 j5 h9 tk9 F9 N9 l9 d9; (replace d9 := ltN d9); (try dsimp only); (try k_fold))))
    refine execsC_any ?_
    k_steps
    (try dsimp only)
    refine execsC_cons (execC_Assign_Name (wpC_of (int_at ((1980 + fieldV ns 1 128 - 1980) * 512 + (1 + fieldV ns 2 12) * 32 + (1 + fieldV ns 3 28)) ?_ ?_)))
    · (try dsimp only)
      k_steps
      exact ⟨_, _, rfl, rfl⟩
    intro ug tk7
    (try dsimp only)
    k_steps
    (try dsimp only)
    refine execsC_cons (execC_Assign_Name (wpC_of (int_at (fieldV ns 4 24 * 2048 + fieldV ns 5 60 * 32 + (fieldV ns 6 60).fdiv 2) ?_ ?_)))
    · (try dsimp only)
      k_steps
      exact ⟨_, _, rfl, rfl⟩
    intro uh tk6
    (try dsimp only)
    k_steps
    (try dsimp only)
    refine execsC_any ?_
    k_steps
    (try dsimp only)
    refine execsC_cons (execC_Assign_Name (evalC_MethodCall ?_))
    k_steps
    (try dsimp only)
    k_dflt (refine' callWithC_K (K := KF w.params) ?k1 ?_ ?he ?hp; (case he => rfl); (case hp => rfl); (case k1 => k_is))
    refine splicedC_e ?_
    refine evalC_Call ?_
    k_steps
    k_dflt (refine' callWithC_K (K := KF w.params) ?k1 ?_ ?he ?hp; (case he => rfl); (case hp => rfl); (case k1 => k_is))
    refine wpC_of ?_
    k_steps
    k_dflt (refine' ct_short ?kB ?kF ?kX ?kN ?kT ?kk ?kd ?ku ?e0 ?e1 ?e2 ?_; (case kB => k_asm); (case kF => k_asm); (case kX => k_asm); (case kN => k_asm); (case kT => k_asm); (case kk => first | exact rfl | assumption); (case kd => k_room); (case ku => k_units); (case e0 => k_mem); (case e1 => first | with_reducible assumption | assumption); (case e2 => assumption); k_whole)
    intro S7 D7 x7 b7 t17 t27 t37 h7 tk7 F7 N7 hb8 l7 d7 x71
    (try dsimp only)
    refine wpC_of ?_
    k_steps
    (try dsimp only)
    have hcl : 0 ≤ fieldV ns 9 (2 ^ Int.toNat 32) ∧ fieldV ns 9 (2 ^ Int.toNat 32) < 4294967296 := ⟨fieldV_lo (by decide), fieldV_hi (by decide)⟩
    have hch := fd (k := 65536) hcl rfl
    have hcm := fm (x := fieldV ns 9 (2 ^ Int.toNat 32)) (k := 65536) (by decide)
    have hsc : 0 ≤ (fieldV ns 6 60).fdiv 2 ∧ (fieldV ns 6 60).fdiv 2 < 30 := sec_lt ⟨fieldV_lo (by decide), fieldV_hi (by decide)⟩
    have hday : 0 ≤ (1980 + fieldV ns 1 128 - 1980) * 512 + (1 + fieldV ns 2 12) * 32 + (1 + fieldV ns 3 28) ∧ (1980 + fieldV ns 1 128 - 1980) * 512 + (1 + fieldV ns 2 12) * 32 + (1 + fieldV ns 3 28) < 65536 := day_lt ⟨fieldV_lo (by decide), fieldV_hi (by decide)⟩ ⟨fieldV_lo (by decide), fieldV_hi (by decide)⟩ ⟨fieldV_lo (by decide), fieldV_hi (by decide)⟩
    have hclk : 0 ≤ fieldV ns 4 24 * 2048 + fieldV ns 5 60 * 32 + (fieldV ns 6 60).fdiv 2 ∧ fieldV ns 4 24 * 2048 + fieldV ns 5 60 * 32 + (fieldV ns 6 60).fdiv 2 < 65536 := clk_lt ⟨fieldV_lo (by decide), fieldV_hi (by decide)⟩ ⟨fieldV_lo (by decide), fieldV_hi (by decide)⟩ hsc
    (k_with_none; (k_with "ite" => (k_closed; first | refine ite_pos (by decide) ?_ | refine ite_neg (by decide) ?_)); (k_with "execs nil" => (k_here; dsimp only)); (k_with "execs cons" => (k_here; dsimp only)); (k_with "call ref" => (k_here; (with_reducible show wpAny _ _ (call (Value.ref (nat_lit 227)) _) _ _ _); k_dflt (refine' ct_new (y := ?_) (mo := ?_) (d := ?_) (hr := ?_) (mi := ?_) (sc := ?_) ?kB ?kF ?kX ?kN ?kT ?kk ?kd ?ku ?e0 ?e1 ?e2 ?e3 ?e4 ?e5 ?e6 ?e7 ?e8 ?e9 ?_; (case kB => k_asm); (case kF => k_asm); (case kX => k_asm); (case kN => k_asm); (case kT => k_asm); (case kk => first | exact rfl | assumption); (case kd => k_room); (case ku => k_units); (case e0 => k_mem); (case e1 => k_mem); (case e2 => omega); (case e3 => omega); (case e4 => omega); (case e5 => omega); (case e6 => omega); (case e7 => omega); (case e8 => omega); (case e9 => omega); k_whole); intro O9 D9 R9 v0 v1 v2 v3 v4 v5 v6 v7 v8 v9 vz j0 j1 j2 j3 j4 j5 j6 j7 j8 j9 j10 j11 j12 j13 j14 j15 j16 j17 c9 h9 tk9 F9 N9 l9 d9 x9; (replace d9 := ltN d9); (replace x9 := ltN x9); (try dsimp only); (try k_fold))); (k_with "call ref" => (k_here; (with_reducible show wpAny _ _ (call (Value.ref (nat_lit 764)) _) _ _ _); k_dflt (refine' ct_holds (x := ?_) (t1 := ?_) (t2 := ?_) (t3 := ?_) ?kB ?kF ?kX ?kN ?kT ?kk ?kd ?ku ?e0 ?e1 ?e2 ?e3 ?e4 ?e5 ?e6 ?e7 ?e8 ?e9 ?e10 ?e11 ?e12 ?e13 ?e14 ?e15 ?e16 ?e17 ?e18 ?e19 ?e20 ?e21 ?_; (case kB => k_asm); (case kF => k_asm); (case kX => k_asm); (case kN => k_asm); (case kT => k_asm); (case kk => first | exact rfl | assumption); (case kd => k_room); (case ku => k_units); (case e0 => k_mem); (case e1 => k_mem); (case e2 => k_mem); (case e3 => k_mem); (case e4 => k_mem); (case e5 => k_asm); (case e6 => k_asm); (case e7 => k_mem); (case e8 => first | assumption | l_ints); (case e9 => k_mem); (case e10 => first | assumption | l_ints); (case e11 => first | with_reducible assumption | omega | (with_unfolding_all assumption)); (case e12 => first | with_reducible assumption | omega | (with_unfolding_all assumption)); (case e13 => first | with_reducible assumption | omega | (with_unfolding_all assumption)); (case e14 => first | with_reducible assumption | omega | (with_unfolding_all assumption)); (case e15 => first | with_reducible assumption | omega | (with_unfolding_all assumption)); (case e16 => first | with_reducible assumption | omega | (with_unfolding_all assumption)); (case e17 => first | with_reducible assumption | omega | (with_unfolding_all assumption)); (case e18 => first | with_reducible assumption | omega | (with_unfolding_all assumption)); (case e19 => first | with_reducible assumption | omega | (with_unfolding_all assumption)); (case e20 => first | with_reducible assumption | omega | (with_unfolding_all assumption)); (case e21 => first | with_reducible assumption | omega | (with_unfolding_all assumption)); k_whole); intro h9 tk9 F9 N9; (try dsimp only); (try k_fold))); (k_with "call ref" => (k_here; (with_reducible show wpAny _ _ (call (Value.ref (nat_lit 750)) _) _ _ _); k_dflt (refine' ct_bits ?kB ?kF ?kX ?kN ?kT ?kk ?kd ?ku ?e0 ?e1 ?e2 ?_; (case kB => k_asm); (case kF => k_asm); (case kX => k_asm); (case kN => k_asm); (case kT => k_asm); (case kk => first | exact rfl | assumption); (case kd => k_room); (case ku => k_units); (case e0 => k_mem); (case e1 => k_mem); (case e2 => first | omega | (with_unfolding_all assumption)); k_whole); intro h9 tk9 F9 N9; (try dsimp only); (try k_fold))))
    refine wpC_of ?_
    k_steps
    (try dsimp only)
    refine execsC_any ?_
    k_steps
    (try dsimp only)
    refine execsC_any ?_
    k_steps
    all_goals (try dsimp only)
    rename Fr s.heap L' _ _ => F6
    exact ret _ _ F6.keep
end

section
theorem clean_caller : Clean (⟨.builtin "claim.caller" {}, none, none, [], none⟩ : Ctx) := ⟨by decide +kernel, fun _ hx => nomatch hx⟩
theorem ends_wpC {prog : Program} {w : World} {t : Sem Fin} {s : Shared} {R : Result → Shared → Prop} (hz : s.asleep)
    (h : wpC (model prog w) callerA t (fun fin s' => ∃ f, fin = .done f ∧ R (.ok f) s' ∧ AllBare s'.gens) (fun e s' => R (.error e) s' ∧ AllBare s'.gens) s) :
    ∃ n r s' s'', schedN (denote table) prog w n (.single s ⟨t, .builtin "claim.caller" {}, default, []⟩) = .halted (outcomeOf r) s'' ∧
      PySem.runN (denote table) prog w n s ⟨t, .builtin "claim.caller" {}, default, []⟩ = .halted (outcomeOf r) s'' ∧ s''.forget = s'.forget ∧ R r s' := by
  refine wp_halts_full (M := model prog w) hz (Sem.wp_mono _ _ t (fun fin p' s' h' => ?_) (fun e p' s' h' => ⟨h'.1, leftWithCleanup_false_of_bare h'.2⟩) default s (h _ default caller_in clean_caller))
  obtain ⟨f, rfl, hf, hg⟩ := h'
  exact ⟨hf, leftWithCleanup_false_of_bare hg⟩
theorem fromC {c : ClaimW} {tree : List Value → Sem Fin} {w : World} {s : Shared} {free : Addr → Prop} {gens : Prop} {kept : Heap → Prop} (hz : s.asleep) (hgens : s.gens = #[])
    (hspec : ∀ args, c.pre args = true → WData.layableAll args = true → ∀ ord : List DictEntry → List DictEntry, (∀ l, (ord l).Perm l) →
      ∃ vs s₁, layAllW c.records (classAt s.heap) w.params ord args s = some (vs, s₁) ∧
        wpC (model c.prog w) callerA (tree vs) (fun fin s' => ∃ f, fin = .done f ∧ (c.Ends s args vs s₁ (.ok f) s' ∧ s'.os = s.os ∧ kept s'.heap) ∧ AllBare s'.gens)
          (fun e s' => (c.Ends s args vs s₁ (.error e) s' ∧ s'.os = s.os ∧ kept s'.heap) ∧ AllBare s'.gens) s₁) :
    c.CallFrom (fun vs => ⟨tree vs, .builtin "claim.caller" {}, default, []⟩) w free gens kept s := fun args hpre hlay ord hord => by
  obtain ⟨vs, s₁, hl, hc⟩ := hspec args hpre hlay ord hord
  have R := layAllW_rest _ _ _ hl
  obtain ⟨n, r, s', s'', hs, hr, hf, hE, ho, hk⟩ := ends_wpC (R := fun r s' => c.Ends s args vs s₁ r s' ∧ s'.os = s.os ∧ kept s'.heap) (Shared.asleep_of_life R.2.2.2 hz) hc
  obtain ⟨eh, _, _, eo, _⟩ := Shared.forget_eq hf
  have hE := hE.congr eh
  rw [← eh] at hk
  rw [← eo] at ho
  have life : s''.heap.life = s.heap.life := (runN_life _ _ _ hr).trans R.2.2.2
  refine ⟨vs, s₁, hl, n, _, s'', hs, ?_, (fun _ i x hx => by rw [hgens] at hx; simp at hx), hk, by rw [life], Shared.rest_eq ho⟩
  rcases hE with ⟨v, rfl, d1, d2, d3, d4, d5⟩ | ⟨e, ob, cls, rfl, d1, d2, d3, d4, d5⟩
  · exact .inl ⟨v, rfl, d1, d2, d3, fun b o y _ => d4 b o y, d5⟩
  · exact .inr ⟨e, ob, cls, rfl, d1, d2, d3, d4, fun b o y _ => d5 b o y⟩
abbrev WalkC (q : Program) (loose : List Str) (XP : (Str → Option Value) → Heap → Prop) (YP : World → Heap → Prop) (r : RowW) (d : DefRec) (kwd : List (Str × Expr)) : Prop :=
  ∀ (w : World) (s₀ s₁ : Shared) (mg mb : Str → Option Value), Ground q loose r.records XP w s₀ mg mb s₁.heap → YP w s₁.heap → ∀ (a : Addr) (o : Obj) (pm cd doc dV kV : Value), s₁.heap.get? a = some o →
    o.data = .func { PySem.Calls.docDef d.name d.params d.body d.scope pm cd doc with defaults := dV, kwdefaults := kV } → s₁.heap.CodeRec cd d.name → Dflts mg s₁.heap d.params kwd dV kV → mg d.name = some (.ref a) → s₁.gens = #[] →
    ∀ (args : List WData) (vals : List Value) (as : List Addr), r.claim.pre args = true → WData.layableAll args = true → ReadsAllW r.records (classAt s₀.heap) s₁.heap vals args as → WellAll w.params s₁.heap vals args → (∀ a ∈ as, (a == sysModules) = false) →
      wpC (model r.prog w) callerA (call (.ref a) vals) (fun v s' => GoodWG r.claim (classAt s₀.heap) (ExcName.means s₀.heap) args s₁ (.ok (.ret v)) s')
        (fun e s' => GoodWG r.claim (classAt s₀.heap) (ExcName.means s₀.heap) args s₁ (.error e) s') s₁
end
/-- the head's last step, for a walk over the clean stacks -/
theorem PySem.W.holds_open {r : OpenRow} {q : Program} {loose : List Str} {Xt : Shared → Bool} {XP : (Str → Option Value) → Heap → Prop} {α : Type} {Yf : Shared → α} {Ya : World → α} {YP : World → Heap → Prop} {d : DefRec} {kwd : List (Str × Expr)} {N : Nat}
    (left : LeftO r.prog q loose Xt Yf Ya N) (hY : ∀ w s, Yf s = Ya w → YP w s.heap) (hYk : ∀ w h h', YP w h → (∀ b o, h.get? b = some o → h'.get? b = some o) → YP w h')
    (hX : ∀ s, Xt s = true → XP (s.heap.nsMap mainGlobals) s.heap) (hXk : ∀ mg h h', XP mg h → (∀ b o, h.get? b = some o → h'.get? b = some o) → XP mg h')
    (hdef : defOf q r.name = some (d, kwd)) (hp : r.prog.theDef r.name = some (d.params, d.body, d.scope)) (hk : kwWritten? d.params.kwonlyargs d.params.kw_defaults = some kwd) (hRf : ∀ s, Xt s = true → RecFacts r.records s.heap) (hwr : (!r.writes || r.records.isEmpty) = true)
    (k1 : r.wellSaid = true) (ok : (chainsOk q && opensWell r.prog && (frees r.toRowW && r.within.isEmpty)) = true) (hb : r.prog.bare) (hw : r.toRowW.promised)
    (walk : WalkC q loose XP YP r.toRowW d kwd) : r.Holds := by
  obtain ⟨ok1, ok2⟩ := Bool.and_eq_true_iff.mp ok
  obtain ⟨hch, hop⟩ := Bool.and_eq_true_iff.mp ok1
  obtain ⟨hfr, hin⟩ := Bool.and_eq_true_iff.mp ok2
  obtain ⟨hsame, hu, ha, hap, hm⟩ := frees_parts hfr
  refine ⟨k1, hw, ⟨hb, hop, by show r.toRowW.makers.map _ = []; rw [hm]; rfl⟩, hw.witness, fun w => ⟨(left.behind hX hch w).1, fun z hz => ?_⟩⟩
  obtain ⟨s₀, hf, hg0, s, hT, hz, hgens, hg, G00, y⟩ := (left.behind (XP := fun mg h => XP mg h ∧ RecFacts r.records h) (fun s hs => ⟨hX s hs, hRf s hs⟩) hch w).2 z hz
  have G0 : Ground q loose [] XP w s (s.heap.nsMap mainGlobals) (s.heap.nsMap builtinsNs) s.heap := ⟨G00.T, G00.B, G00.D, G00.TE, G00.TD, G00.W, G00.X.1, G00.cls, G00.has, G00.apart, G00.once, G00.K⟩
  have RF := G00.X.2
  have none_yet : s.gens = #[] := Array.eq_empty_of_size_eq_zero (beq_iff_eq.mp hgens)
  refine ⟨s₀, hf, hg0, s, hT, fun n hn => ?_, RF.1, RF.2.1, fromC (c := r.toRowW.claim) hz none_yet fun args hpre hlay ord hord => ?_⟩
  · obtain rfl : n = r.name := by split at hn <;> simp_all
    exact pinned_of_view hg G0 hdef hp hk
  have G : Ground q loose r.records XP w s _ _ s.heap := RF.ground G0
  obtain ⟨⟨vs, s₁⟩, hl⟩ := Option.isSome_iff_exists.mp (layAllW_isSome (P := w.params) (ord := ord) G.has args r.toRowW.args s (pre_splitW hpre).1)
  have keeps := layAllW_keeps _ _ _ hl
  have R := layAllW_rest _ _ _ hl
  obtain ⟨as, hrd, hin', hold⟩ := reads_layAllW hord _ _ _ hl hlay s₁.heap (fun _ _ e => e)
  have L : Laid r.records w s s₁ args vs as := ⟨⟨ord, hord, hl⟩, hrd, hin', hold, keeps, R.1.trans none_yet, R.2.2.1⟩
  have G₁ := G.keeps hXk keeps
  obtain ⟨a, o, pm, cd, doc, dV, kV, h1, h2, h3, h4, h5⟩ := G₁.fn hdef
  have hname : r.name = d.name := (defOf_name hdef).symm
  have W := walk w s s₁ _ _ G₁ (hYk _ _ _ (hY w s y) keeps) a o pm cd doc dV kV h2 h3 h4 h5 (defOf_name hdef ▸ h1) L.gens args vs as hpre hlay L.reads L.well (L.low G.low)
  refine ⟨vs, s₁, hl, wpC_bindA (wpAny_nsGet G₁.T.g ?_)⟩
  have h1' : s.heap.nsMap mainGlobals r.name = some (.ref a) := h1
  show wpC _ _ (match s.heap.nsMap mainGlobals r.name with | some f => do ret (← call f vs) | none => unsupported "claim.caller:no-such-global") _ _ _
  rw [h1']
  have fin : ∀ res s', GoodWG r.toRowW.claim (classAt s.heap) (ExcName.means s.heap) args s₁ res s' → _ := fun res s' g =>
    (fun z : r.toRowW.claim.Ends s args vs s₁ res s' ∧ s'.os = s.os ∧ AllBare s'.gens =>
      (⟨⟨z.1, z.2.1, fun q => ⟨namesKept_of hT hg r.keeps keeps g.2.1.old, noTable hwr q⟩⟩, z.2.2⟩ : (r.toRowW.claim.Ends s args vs s₁ res s' ∧ s'.os = s.os ∧ (r.writes = true → namesKept r.prog r.keeps s.heap s'.heap ∧ ∀ x ∈ r.records, ∀ a, classAt s.heap x.1 = some a → recordClass s'.heap a x.1 (x.2.map (·.1)) = true)) ∧ AllBare s'.gens))
      (g.laid (c := r.toRowW.claim) hsame (List.isEmpty_iff.mp hin) (ident_freeW hu ha hap) L)
  exact wpC_bind (wpC_mono W (fun v s' g => wpC_pure ⟨_, rfl, fin _ _ g⟩) fun e s' g => fin _ _ g)

theorem top_any {p : Program} {loose : List Str} {mean : ExcName → Option Value} {mg mb : Str → Option Value} {h : Heap} (T : Top p loose mean mg mb h) :
    Top topProg (loose ++ (recsOf p).map (·.name) ++ (litsOf p).map (·.1) ++ (clssOf p loose).map (·.name)) mean mg mb h :=
  ghost_top (tabs := []) (fun _ h => nomatch h) T
theorem law_walk {q : Program} {loose : List Str} {XP : (Str → Option Value) → Heap → Prop} {YP : World → Heap → Prop} {d : DefRec} {kwd : List (Str × Expr)} (hY : ∀ w h, YP w h → (Mine.KF w.params).In h) (hn : d.name = Str.ofString "law") : WalkC q loose XP YP PySem.Challenge.rw_iw0015_02.row.toRowW d kwd := by
  intro w s₀ s₁ mg mb G Y fa o pm cd doc dV kV ho hd hcd hD hmg hg args vals as hpre hlay hrd hwl hlo
  have X := hY _ _ Y
  have T := top_any (Ground.T G)
  have e : mg (Str.ofString "law") = some (.ref 769) := mg_of X (Ground.T G).g (by kernel_rfl)
  rw [hn, e] at hmg
  cases hmg
  clear ho hd hcd hD
  wrow_args hpre hlay hrd hwl hlo
  rename Heap.IsList _ _ _ => hL
  rename IntsAre _ _ => hi
  rename ¬ _ => hc
  refine ct_law X T hL hi (by omega) ?_
  intro h' tk' keep
  exact ⟨.inl ⟨_, _, _, rfl, raisesW_false (by wrow_none_raised), ReadsW.bool _, by wrow_post, unshared_nil⟩, .of_keep keep, rfl, .of_eq hg⟩

end Mine
namespace Mine
theorem hd.tw9421340871869096474 : True := trivial
theorem hd.tw15089522573102190283 : True := trivial
theorem hd.tw17213754286329925777 : True := trivial
theorem hd.tw3536873572635521401 : True := trivial
theorem hd.tw4851647983119433812 : True := trivial
theorem hd.tw9390866547671247325 : True := trivial
theorem hd.tw10491609206876299696 : True := trivial
theorem hd.tw6482722132109649516 : True := trivial
theorem hd.tw15416985209724490359 : True := trivial
theorem hd.tw1129884963351977449 : True := trivial
theorem hd.tw9345929723534960622 : True := trivial
theorem hd.tw16007149819294483003 : True := trivial
theorem hd.tw1208734638264122097 : True := trivial
theorem hd.tw1439246655266547700 : True := trivial
theorem hd.tw11115866451450875312 : True := trivial
theorem hd.tw15616948245753086127 : True := trivial
theorem hd.tw1600037746751723098 : True := trivial
theorem hd.tw8377043916266704855 : True := trivial
theorem hd.tw10246146449241189800 : True := trivial
theorem hd.tw2960447077969926378 : True := trivial
theorem hd.tw8293946417935249925 : True := trivial
theorem hd.tw12509009523430927325 : True := trivial
theorem hd.tw11472165163037031739 : True := trivial
theorem hd.tw10111801491309104144 : True := trivial
theorem hd.tw9783614193127449063 : True := trivial
theorem hd.tw7657299143145469618 : True := trivial
theorem hd.tw18322514126500204803 : True := trivial
theorem hd.tw7292484366425897655 : True := trivial
theorem hd.tw13534587687697041467 : True := trivial
theorem hd.tw17347436560843906493 : True := trivial
theorem hd.tw15852365999677673905 : True := trivial
theorem hd.tw5135410709514514960 : True := trivial
theorem hd.tw9184186324627900627 : True := trivial
theorem hd.tw2114630138375439770 : True := trivial
theorem hd.tw16634568088961857937 : True := trivial
theorem hd.tw15378359858306647822 : True := trivial
theorem hd.tw9741134391959003819 : True := trivial
theorem hd.tw18343703819029505601 : True := trivial
theorem hd.tw13483081372092288885 : True := trivial
theorem hd.tw12900700647772717614 : True := trivial
theorem hd.tw15759970867653108152 : True := trivial
theorem hd.tw8811097733284410319 : True := trivial
theorem hd.tw12936449754285732098 : True := trivial
theorem hd.tw7028611270464810887 : True := trivial
theorem hd.tw11713075325732132258 : True := trivial
theorem hd.tw13368278939475635651 : True := trivial
theorem hd.tw8044012406986999415 : True := trivial
theorem hd.tw18103420901670897651 : True := trivial
theorem hd.tw3452082135128663414 : True := trivial
theorem hd.tw4734902545126651661 : True := trivial
theorem hd.tw758273949599710562 : True := trivial
theorem hd.tw12952509933414984302 : True := trivial
theorem hd.tw11631947586910100387 : True := trivial
theorem hd.tw3915529967508079626 : True := trivial
theorem hd.tw14683707025165767436 : True := trivial
theorem hd.tw2323474266016966308 : True := trivial
theorem hd.tw16477043939570097188 : True := trivial
theorem hd.tw12949589719889679912 : True := trivial
theorem hd.tw15963624873386084050 : True := trivial
theorem hd.tw16759147789766475008 : True := trivial
theorem hd.tw16414904818172857274 : True := trivial
theorem hd.tw2386827423013361158 : True := trivial
theorem hd.tw701787995468756871 : True := trivial
theorem hd.tw6709418730364537143 : True := trivial
theorem hd.tw4432475053497693458 : True := trivial
theorem hd.tw18233516762306594366 : True := trivial
theorem hd.tw1299046323782801668 : True := trivial
theorem hd.tw9467313397243273497 : True := trivial
theorem hd.tw11249132867342737325 : True := trivial
theorem hd.tw22551697357593593 : True := trivial
theorem hd.tw3493717111155160527 : True := trivial
theorem hd.tw9012836324853574702 : True := trivial
theorem hd.tw17577478241444706838 : True := trivial
theorem hd.tw3919010098100093602 : True := trivial
theorem hd.tw6449127861642672459 : True := trivial
theorem hd.tw2284436838669742495 : True := trivial
theorem hd.tw3530705653197291679 : True := trivial
theorem hd.tw15064902949301533346 : True := trivial
theorem hd.tw7379015992945566340 : True := trivial
theorem hd.tw5118731587858937692 : True := trivial
theorem hd.tw10654345511274693656 : True := trivial
theorem hd.tw4126306136578151734 : True := trivial
theorem hd.tw7174315439194531881 : True := trivial
theorem hd.tw14776966858535155947 : True := trivial
theorem hd.tw5629675986466331604 : True := trivial
theorem hd.tw13790719812936386609 : True := trivial
theorem hd.tw8770659054964912022 : True := trivial
theorem hd.tw18245042118932799458 : True := trivial
theorem hd.tw13225837485096350037 : True := trivial
theorem hd.tw17919194246423945575 : True := trivial
theorem hd.tw8351282476255451920 : True := trivial
theorem hd.tw519851828213033955 : True := trivial
theorem hd.tw14673209030070457562 : True := trivial
theorem hd.tw17574625026820762457 : True := trivial
theorem hd.tw7829580234814923638 : True := trivial
theorem hd.tw12579596248316191183 : True := trivial
theorem hd.tw5278057926702712004 : True := trivial
theorem hd.tw7628703163842673926 : True := trivial
theorem hd.tw6598312636042714100 : True := trivial
theorem hd.tw4111692666942324129 : True := trivial
theorem hd.tw13372043803930879067 : True := trivial
theorem hd.tw9330943631129107780 : True := trivial
theorem hd.tw2371736936440567457 : True := trivial
theorem hd.tw13893168526513508166 : True := trivial
theorem hd.tw3434918251397683217 : True := trivial
theorem hd.tw16227762859984022837 : True := trivial
theorem hd.tw12092154237167983948 : True := trivial
theorem hd.tw4946210868454251104 : True := trivial
theorem hd.tw17336936450418997793 : True := trivial
theorem hd.tw15837987909243819085 : True := trivial
theorem hd.tw10216474801634566288 : True := trivial
theorem hd.tw15207398651663016943 : True := trivial
theorem hd.tw12669576375859063689 : True := trivial
theorem hd.tw18160293313031310949 : True := trivial
theorem hd.tw8458067239894703972 : True := trivial
theorem hd.tw567884609423149705 : True := trivial
theorem hd.tw8053944837975664402 : True := trivial
theorem hd.tw12575139184659369484 : True := trivial
theorem hd.tw15422856539912107476 : True := trivial
theorem hd.tw11814627755841444246 : True := trivial
theorem hd.tw13770079208771991547 : True := trivial
theorem hd.tw17739348878880393726 : True := trivial
theorem hd.tw17495340751864218003 : True := trivial
theorem hd.tw1013155817946168525 : True := trivial
theorem hd.tw7698358502638924378 : True := trivial
theorem hd.tw17330945745186091897 : True := trivial
theorem hd.tw1643121930917553208 : True := trivial
theorem hd.tw18185175575083235020 : True := trivial
theorem hd.tw14137390275340422267 : True := trivial
theorem hd.tw12393119488966705847 : True := trivial
theorem hd.tw6276725880618359904 : True := trivial
theorem hd.tw9427301549700849589 : True := trivial
theorem hd.tw15279998641719260112 : True := trivial
theorem hd.tw17989097746536338734 : True := trivial
theorem hd.tw17143746779515762356 : True := trivial
theorem hd.tw1425423193147277237 : True := trivial
theorem hd.tw8311865607074365958 : True := trivial
theorem hd.tw137786328141462057 : True := trivial
theorem hd.tw1335065189686863947 : True := trivial
theorem hd.tw3364418463632694928 : True := trivial
theorem hd.tw9430268157657104642 : True := trivial
theorem hd.tw162610821266807592 : True := trivial
theorem hd.tw4571360026077952820 : True := trivial
theorem hd.tw16029623286316568529 : True := trivial
theorem hd.tw18358800413957953924 : True := trivial
theorem hd.tw1936894748134917147 : True := trivial
theorem hd.tw7610815399733428385 : True := trivial
theorem hd.tw13466754112058979494 : True := trivial
theorem hd.tw12254263087357419629 : True := trivial
theorem hd.tw9631708518359487223 : True := trivial
theorem hd.tw8004679753235328684 : True := trivial
theorem hd.tw4478166936697009375 : True := trivial
theorem hd.tw11319097763535126812 : True := trivial
theorem hd.tw10738003575532504788 : True := trivial
theorem hd.tw1882180444382439491 : True := trivial
theorem hd.tw6407587892757256292 : True := trivial
theorem hd.tw17130151131035750659 : True := trivial
theorem hd.tw13293453174229064190 : True := trivial
theorem hd.tw6769732088879122475 : True := trivial
theorem hd.tw5054737718236178183 : True := trivial
theorem hd.tw12239354291974867115 : True := trivial
theorem hd.tw17491280204586788870 : True := trivial
theorem hd.tw1589133516308662214 : True := trivial
theorem hd.tw4360684699965382250 : True := trivial
theorem hd.tw4136554803537287180 : True := trivial
theorem hd.tw10781468475247234061 : True := trivial
theorem hd.tw3878383114103592795 : True := trivial
theorem hd.tw8735263284916673568 : True := trivial
theorem hd.tw13431754692932380062 : True := trivial
theorem hd.tw11119798521548139033 : True := trivial
theorem hd.tw8898355551111435312 : True := trivial
theorem hd.tw10195207025132199040 : True := trivial
theorem hd.tw14906377314874228009 : True := trivial
theorem hd.tw15042006015671813226 : True := trivial
theorem hd.tw6082411064634330575 : True := trivial
theorem hd.tw8269573656231971908 : True := trivial
theorem hd.tw14598272352848978880 : True := trivial
theorem hd.tw16157073509204512506 : True := trivial
theorem hd.tw13531707123254989501 : True := trivial
theorem hd.tw14984183105004643987 : True := trivial
theorem hd.tw1362751533348561449 : True := trivial
theorem hd.tw11852641145169952659 : True := trivial
theorem hd.tw13217225542625558698 : True := trivial
theorem hd.tw8312999807965096350 : True := trivial
theorem hd.tw16357263729072622229 : True := trivial
theorem hd.tw3649758429140192277 : True := trivial
theorem hd.tw13047593935725612058 : True := trivial
theorem hd.tw17447410573909459338 : True := trivial
theorem hd.tw17681399029576232318 : True := trivial
theorem hd.tw18131696352309475102 : True := trivial
theorem hd.tw18152756486534528934 : True := trivial
theorem hd.tw7754304195085646258 : True := trivial
theorem hd.tw8770205317985620760 : True := trivial
theorem hd.tw9132557439983319658 : True := trivial
theorem hd.tw11968265576560266318 : True := trivial
theorem hd.tw15673258824015622330 : True := trivial
theorem hd.tw2040990291671593033 : True := trivial
theorem hd.tw8273930003744585626 : True := trivial
theorem hd.tw11754176132448286083 : True := trivial
theorem hd.tw13474097485772985973 : True := trivial
theorem hd.tw13277076834127875243 : True := trivial
theorem hd.tw15527848837575444561 : True := trivial
theorem hd.tw15967140613478806237 : True := trivial
theorem hd.tw8081886968326746073 : True := trivial
theorem hd.tw15766875824913328220 : True := trivial
theorem hd.tw10543509907540572799 : True := trivial
theorem hd.tw3484992998616243462 : True := trivial
theorem hd.tw7854228177987924090 : True := trivial
theorem hd.tw6636792957720756321 : True := trivial
theorem hd.tw1511243299971373483 : True := trivial
theorem hd.tw18176940659606848779 : True := trivial
theorem hd.tw2799716289819351777 : True := trivial
theorem hd.tw9420132969298855359 : True := trivial
theorem hd.tw15337868472472888810 : True := trivial
theorem hd.tw8881176148764397765 : True := trivial
theorem hd.tw6868836192036940282 : True := trivial
theorem hd.tw17387473266821786944 : True := trivial
theorem hd.tw10933677585905718993 : True := trivial
theorem hd.tw1247026723315081023 : True := trivial
theorem hd.tw14353793391729792155 : True := trivial
theorem hd.tw7534799579077118603 : True := trivial
theorem hd.tw10905181550472923540 : True := trivial
theorem hd.tw4210835263042620578 : True := trivial
theorem hd.tw920214292312260371 : True := trivial
theorem hd.tw12591134339009171964 : True := trivial
theorem hd.tw663384727985864361 : True := trivial
theorem hd.tw9496365245306024149 : True := trivial
theorem hd.tw11631869004601391166 : True := trivial
theorem hd.tw10601615944963115059 : True := trivial
theorem hd.tw16661405048812198066 : True := trivial
theorem hd.tw4014540891139286612 : True := trivial
theorem hd.tw9908193460736022307 : True := trivial
theorem hd.tw1976262728313527643 : True := trivial
theorem hd.tw8912348807662434688 : True := trivial
theorem hd.tw14859038896228082724 : True := trivial
theorem hd.tw2608437505485318709 : True := trivial
theorem hd.tw7080932558258925280 : True := trivial
theorem hd.tw2480057099694739299 : True := trivial
theorem hd.tw15152743547302097792 : True := trivial
theorem hd.tw7354087734392854552 : True := trivial
theorem hd.tw16158619036321959407 : True := trivial
theorem hd.tw10841399608879689956 : True := trivial
theorem hd.tw18264374347568628810 : True := trivial
theorem hd.tw12769127236821124696 : True := trivial
theorem hd.tw10273187271170590260 : True := trivial
theorem hd.tw5657824000916062451 : True := trivial
theorem hd.tw10743916045514856203 : True := trivial
theorem hd.tw8801323125487838256 : True := trivial
theorem hd.tw8965841893048198262 : True := trivial
theorem hd.tw8015326511298524721 : True := trivial
theorem hd.tw15508949281206285077 : True := trivial
theorem hd.tw2867327485932766208 : True := trivial
theorem hd.tw16246848685605474055 : True := trivial
theorem hd.tw13574768056931433239 : True := trivial
theorem hd.tw12459740579856956213 : True := trivial
theorem hd.tw8068729725432388964 : True := trivial
theorem hd.tw2562236817408797766 : True := trivial
theorem hd.tw10507497572311344420 : True := trivial
theorem hd.tw8516288146210602744 : True := trivial
theorem hd.tw17655025648336401564 : True := trivial
theorem hd.tw5282504435634884242 : True := trivial
theorem hd.tw8803977449572941912 : True := trivial
theorem hd.tw511748877826530558 : True := trivial
theorem hd.tw7721951785955056133 : True := trivial
theorem hd.tw10792051664901133789 : True := trivial
theorem hd.tw11109741339103130912 : True := trivial
theorem hd.tw2922222751358710265 : True := trivial
theorem hd.tw11953376511379268794 : True := trivial
theorem hd.tw8727321023445011275 : True := trivial
theorem hd.tw1147470481896660410 : True := trivial
theorem hd.tw2658526732547218105 : True := trivial
theorem hd.tw16896567674234606475 : True := trivial
theorem hd.tw3673020696563887462 : True := trivial
theorem hd.tw7578210074245671484 : True := trivial
theorem hd.tw6264232113106981867 : True := trivial
theorem hd.tw3660579746685279459 : True := trivial
theorem hd.tw7654286748164834634 : True := trivial
theorem hd.tw2739504486584576224 : True := trivial
theorem hd.tw15595854959937240912 : True := trivial
theorem hd.tw11136197038861592535 : True := trivial
theorem hd.tw5293500477943481205 : True := trivial
theorem hd.tw17737187407176874954 : True := trivial
theorem hd.tw7191455744419660376 : True := trivial
theorem hd.tw12676414471582705871 : True := trivial
theorem hd.tw7927469264209771579 : True := trivial
theorem hd.tw3496965988886986938 : True := trivial
theorem hd.tw18439511094173506614 : True := trivial
theorem hd.tw1379335367625716243 : True := trivial
theorem hd.tw7792395482447073224 : True := trivial
theorem hd.tw10404513684093684653 : True := trivial
theorem hd.tw13262116225945230012 : True := trivial
theorem hd.tw9244321171653502345 : True := trivial
theorem hd.tw6196171512934965099 : True := trivial
theorem hd.tw4867443594122359892 : True := trivial
theorem hd.tw16169374299450900766 : True := trivial
theorem hd.tw9499510787657705874 : True := trivial
theorem hd.tw13051953538815563581 : True := trivial
theorem hd.tw11232374478483605306 : True := trivial
theorem hd.tw9449672872311958731 : True := trivial
theorem hd.tw11052946933831473538 : True := trivial
theorem hd.tw7261450039545342454 : True := trivial
theorem hd.tw11364443708160879001 : True := trivial
theorem hd.tw4993660671451451078 : True := trivial
theorem hd.tw6038821095411175016 : True := trivial
theorem hd.tw5983496337302601536 : True := trivial
theorem hd.tw11415386828835887437 : True := trivial
theorem hd.tw2068664650715991707 : True := trivial
theorem hd.tw9345676750909349944 : True := trivial
theorem hd.tw13642289790063256904 : True := trivial
theorem hd.tw11587034568685482758 : True := trivial
theorem hd.tw6818987989461384207 : True := trivial
theorem hd.tw8664936974563722654 : True := trivial
theorem hd.tw13532847315355080253 : True := trivial
theorem hd.tw7369741819223213686 : True := trivial
theorem hd.tw12590977762386282803 : True := trivial
theorem hd.tw11729958736954745289 : True := trivial
theorem hd.tw16649331688326792143 : True := trivial
theorem hd.tw3085183777334472315 : True := trivial
theorem hd.tw18087722134493236510 : True := trivial
theorem hd.tw14103535550066685397 : True := trivial
theorem hd.tw128412058910260475 : True := trivial
theorem hd.tw14745743045033390146 : True := trivial
theorem hd.tw17599816209265215132 : True := trivial
theorem hd.tw7523672394736509286 : True := trivial
theorem hd.tw4297731678662094536 : True := trivial
theorem hd.tw16432713993328977331 : True := trivial
theorem hd.tw574300837803046910 : True := trivial
theorem hd.tw5732804406350252772 : True := trivial
theorem hd.tw18166333605607142505 : True := trivial
theorem hd.tw4449123307109862055 : True := trivial
theorem hd.tw4021928978595405253 : True := trivial
theorem hd.tw17628472586750557451 : True := trivial
theorem hd.tw14246236162039180721 : True := trivial
theorem hd.tw11513968764499736323 : True := trivial
theorem hd.tw8493152586797012548 : True := trivial
theorem hd.tw8990313861142287110 : True := trivial
theorem hd.tw8589211134812392127 : True := trivial
theorem hd.tw17070941380808615275 : True := trivial
theorem hd.tw17679848547673146604 : True := trivial
theorem hd.tw12113243949977362033 : True := trivial
theorem hd.tw4424954536736003961 : True := trivial
theorem hd.tw7085514621470718492 : True := trivial
theorem hd.tw13937860266046166849 : True := trivial
theorem hd.tw10465514089279642386 : True := trivial
theorem hd.tw11375277706881905925 : True := trivial
theorem hd.tw5036846961687405229 : True := trivial
theorem hd.tw14667805832236412624 : True := trivial
theorem hd.tw10787125048147943196 : True := trivial
theorem hd.tw15618049606547972131 : True := trivial
theorem hd.tw6615107907471364465 : True := trivial
theorem hd.tw2336748640663733628 : True := trivial
theorem hd.tw6181573660694698118 : True := trivial
theorem hd.tw2004659784336800654 : True := trivial
theorem hd.tw845060206244984605 : True := trivial
theorem hd.tw15889433306838628275 : True := trivial
theorem hd.tw5220083430330967483 : True := trivial
theorem hd.tw2252305205657439004 : True := trivial
theorem hd.tw7182994202766372144 : True := trivial
theorem hd.tw1728934660973012959 : True := trivial
theorem hd.tw697623264460660564 : True := trivial
theorem hd.tw9641152695372364146 : True := trivial
theorem hd.tw5643178794243155062 : True := trivial
theorem hd.tw7526368328331116154 : True := trivial
theorem hd.tw17903497710992402801 : True := trivial
theorem hd.tw13855946660403688772 : True := trivial
theorem hd.tw11551083187376567056 : True := trivial
theorem hd.tw578887228443019578 : True := trivial
theorem hd.tw4367455430839740993 : True := trivial
theorem hd.tw13463106324228987060 : True := trivial
theorem hd.tw6278647508926252785 : True := trivial
theorem hd.tw5486487638281291605 : True := trivial
theorem hd.tw17570734847185409352 : True := trivial
theorem hd.tw3429492842335990350 : True := trivial
theorem hd.tw1809687716253123402 : True := trivial
theorem hd.tw3911173418732280352 : True := trivial
theorem hd.tw1386097877827089520 : True := trivial
theorem hd.tw2783992281797965187 : True := trivial
theorem hd.tw4856431653887292112 : True := trivial
theorem hd.tw7541792107247259296 : True := trivial
theorem hd.tw1712922718373300912 : True := trivial
theorem hd.tw461538923250603899 : True := trivial
theorem hd.tw15048261121198461528 : True := trivial
theorem hd.tw6924109203229866365 : True := trivial
theorem hd.tw9131607905817354932 : True := trivial
theorem hd.tw37099724090138251 : True := trivial
theorem hd.tw3215350286424857435 : True := trivial
theorem hd.tw17491317419825422843 : True := trivial
theorem hd.tw2391449824757734642 : True := trivial
theorem hd.tw250903467453971090 : True := trivial
theorem hd.tw13322179722446271537 : True := trivial
theorem hd.tw18293851220164018083 : True := trivial
theorem hd.tw12631932088317031055 : True := trivial
theorem hd.tw1409312971732116557 : True := trivial
theorem hd.tw2134215046882385847 : True := trivial
theorem hd.tw11389486352061984695 : True := trivial
theorem hd.tw8934143017859847078 : True := trivial
theorem hd.tw18268791191939849864 : True := trivial
theorem hd.tw3219085151875037572 : True := trivial
theorem hd.tw2708950531961675432 : True := trivial
theorem hd.tw10934634478434655930 : True := trivial
theorem hd.tw5592360268479517082 : True := trivial
theorem hd.tw8343274005884668182 : True := trivial
theorem hd.tw5190246844813560578 : True := trivial
theorem hd.tw15697423400787487869 : True := trivial
theorem hd.tw15946356160694317329 : True := trivial
theorem hd.tw5010264101278932077 : True := trivial
theorem hd.tw8773699223549846113 : True := trivial
theorem hd.tw2871226400543044806 : True := trivial
theorem hd.tw14143348200573808938 : True := trivial
theorem hd.tw7850187754069100156 : True := trivial
theorem hd.tw212345690472687942 : True := trivial
theorem hd.tw9271970288684553227 : True := trivial
theorem hd.tw18330183385023645277 : True := trivial
theorem hd.tw2808349399557158395 : True := trivial
theorem hd.tw3173010612589774626 : True := trivial
theorem hd.tw17470177872615007328 : True := trivial
theorem hd.tw4310969922304039945 : True := trivial
theorem hd.tw1582976572388173787 : True := trivial
theorem hd.tw3452591251010201329 : True := trivial
theorem hd.tw5363564295841288755 : True := trivial
theorem hd.tw14685462170515437407 : True := trivial
theorem hd.tw13903934854276604550 : True := trivial
theorem hd.tw14892549342360969540 : True := trivial
theorem hd.tw5667655126489319660 : True := trivial
theorem hd.tw7355570028127101125 : True := trivial
theorem hd.tw10525666975642140466 : True := trivial
theorem hd.tw4724112764586752083 : True := trivial
theorem hd.tw3920623390966001496 : True := trivial
theorem hd.tw7006195865600381663 : True := trivial
theorem hd.tw12070654863422294720 : True := trivial
theorem hd.tw16722109127936396110 : True := trivial
theorem hd.tw11256106856564762260 : True := trivial
theorem hd.tw5635641802508607975 : True := trivial
theorem hd.tw4299596416071116603 : True := trivial
theorem hd.tw14444963742821833902 : True := trivial
theorem hd.tw12778418089203562962 : True := trivial
theorem hd.tw17649441919526076750 : True := trivial
theorem hd.tw17429513623812275283 : True := trivial
theorem hd.tw5416991563250132298 : True := trivial
theorem hd.tw10955317050725887447 : True := trivial
theorem hd.tw5362516397382645915 : True := trivial
theorem hd.tw6804821044290156842 : True := trivial
theorem hd.tw11672842613191775419 : True := trivial
theorem hd.tw8721321648031231958 : True := trivial
theorem hd.tw12353913968525425643 : True := trivial
theorem hd.tw1584506945513601688 : True := trivial
theorem hd.tw14440960662653809013 : True := trivial
theorem hd.tw14040608126747316905 : True := trivial
theorem hd.tw5605480435847508373 : True := trivial
theorem hd.tw561391293025646643 : True := trivial
theorem hd.tw8977460988437922124 : True := trivial
theorem hd.tw8191903926673212241 : True := trivial
theorem hd.tw13220430256171166289 : True := trivial
theorem hd.tw17956543221229664512 : True := trivial
theorem hd.tw13866372431405929976 : True := trivial
theorem hd.tw12744807935193187038 : True := trivial
theorem hd.tw3419581819265744254 : True := trivial
theorem hd.tw9048539425550374019 : True := trivial
theorem hd.tw833173182276230429 : True := trivial
theorem hd.tw17172931820748874959 : True := trivial
theorem hd.tw9325612240067072397 : True := trivial
theorem hd.tw6882427118574961969 : True := trivial
theorem hd.tw17668637344460488510 : True := trivial
theorem hd.tw7872162285098387286 : True := trivial
theorem hd.tw14705683404202351889 : True := trivial
theorem hd.tw3404104791013757517 : True := trivial
theorem hd.tw4706079058837389440 : True := trivial
theorem hd.tw5715734110848049390 : True := trivial
theorem hd.tw8244733829118024811 : True := trivial
theorem hd.tw18095200977026478895 : True := trivial
theorem hd.tw17714235663813219645 : True := trivial
theorem hd.tw6879831473291441079 : True := trivial
theorem hd.tw518976864732996251 : True := trivial
theorem hd.tw5513025101015932971 : True := trivial
theorem hd.tw8609351116199087170 : True := trivial
theorem hd.tw3887682987991473952 : True := trivial
theorem hd.tw6767318904944593275 : True := trivial
theorem hd.tw7793673504863384051 : True := trivial
theorem hd.tw14176624398918483544 : True := trivial
theorem hd.tw7153062008950511462 : True := trivial
theorem hd.tw9386895884608548742 : True := trivial
theorem hd.tw2195365466389143174 : True := trivial
theorem hd.tw15931116738044738221 : True := trivial
theorem hd.tw14817486215969520457 : True := trivial
theorem hd.tw13064122474441708322 : True := trivial
theorem hd.tw16052320808349706082 : True := trivial
theorem hd.tw5360435025570183010 : True := trivial
theorem hd.tw1197925565968671727 : True := trivial
theorem hd.tw12870888531099404533 : True := trivial
theorem hd.tw5511420028821071320 : True := trivial
theorem hd.tw9258712216579463092 : True := trivial
theorem hd.tw9850052858527491113 : True := trivial
theorem hd.tw11434409384045074295 : True := trivial
theorem hd.tw5378308252288859171 : True := trivial
theorem hd.tw12901994302517312135 : True := trivial
theorem hd.tw14168552714766633299 : True := trivial
theorem hd.tw8945485805214734075 : True := trivial
theorem hd.tw3763122126050802206 : True := trivial
theorem hd.tw4074112789689628901 : True := trivial
theorem hd.tw3890083515106143593 : True := trivial
theorem hd.tw5322579261384874668 : True := trivial
theorem hd.tw10102539355485613405 : True := trivial
theorem hd.tw1506431575118746342 : True := trivial
theorem hd.tw11465210709893060100 : True := trivial
theorem hd.tw7120233287515763914 : True := trivial
theorem hd.tw9990345226319884068 : True := trivial
theorem hd.tw11709330566771433103 : True := trivial
theorem hd.tw2394040479862359591 : True := trivial
theorem hd.tw9976723597467198900 : True := trivial
theorem hd.tw5343241284826551009 : True := trivial
theorem hd.tw1760603350576429475 : True := trivial
theorem hd.tw14586822029978311858 : True := trivial
theorem hd.tw11224897151958998736 : True := trivial
theorem hd.tw6411954120941647267 : True := trivial
theorem hd.tw6014424301940151174 : True := trivial
theorem hd.tw17217394356764393341 : True := trivial
theorem hd.tw2578790182627478330 : True := trivial
theorem hd.tw12588582704262371052 : True := trivial
theorem hd.tw5961118342813265553 : True := trivial
theorem hd.tw3442329435671937591 : True := trivial
theorem hd.tw6627881031435992008 : True := trivial
theorem hd.tw8671608845466749128 : True := trivial
theorem hd.tw15213948185873263833 : True := trivial
theorem hd.tw11595982170579460384 : True := trivial
theorem hd.tw9657781627882305391 : True := trivial
theorem hd.tw16828841361933241965 : True := trivial
theorem hd.tw1800889605409440832 : True := trivial
theorem hd.tw12642813592246648485 : True := trivial
theorem hd.tw14457593812595234344 : True := trivial
theorem hd.tw15166520500009309586 : True := trivial
theorem hd.tw5781342201191254626 : True := trivial
theorem hd.tw5433107678231618845 : True := trivial
theorem hd.tw17234923516513369237 : True := trivial
theorem hd.tw11663481321943121269 : True := trivial
theorem hd.tw2304311442786299043 : True := trivial
theorem hd.tw4521580383011477154 : True := trivial
theorem hd.tw10737458330869947321 : True := trivial
theorem hd.tw14333710738500927179 : True := trivial
theorem hd.tw1820180628909398317 : True := trivial
theorem hd.tw8268277133935991078 : True := trivial
theorem hd.tw7752767780024739350 : True := trivial
theorem hd.tw8134915037123179040 : True := trivial
theorem hd.tw12414669353804360901 : True := trivial
theorem hd.tw2042874687063273074 : True := trivial
theorem hd.tw3504079246686126755 : True := trivial
theorem hd.tw6184460063843016694 : True := trivial
theorem hd.tw1666387254794493845 : True := trivial
theorem hd.tw15220180469806662145 : True := trivial
theorem hd.tw6761669909254768831 : True := trivial
theorem hd.tw11151547217846952531 : True := trivial
theorem hd.tw2000490053193787569 : True := trivial
theorem hd.tw7076163891533521732 : True := trivial
theorem hd.tw9459050058782445324 : True := trivial
theorem hd.tw16713699803418581334 : True := trivial
theorem hd.tw11024222330075796079 : True := trivial
theorem hd.tw10012880186880212623 : True := trivial
theorem hd.tw17471934795394947791 : True := trivial
theorem hd.tw13321331477185743149 : True := trivial
theorem hd.tw13363553139645760527 : True := trivial
theorem hd.tw15910714762333108613 : True := trivial
theorem hd.tw2295870552580634182 : True := trivial
theorem hd.tw5318216170032084099 : True := trivial
theorem hd.tw12050417470231563642 : True := trivial
theorem hd.tw1939978651307754801 : True := trivial
theorem hd.tw15790720579355451973 : True := trivial
theorem hd.tw10200926772931222457 : True := trivial
theorem hd.tw5174551420813472067 : True := trivial
theorem hd.tw11034497122203965937 : True := trivial
theorem hd.tw10752148897807903841 : True := trivial
theorem hd.tw11898664097942606779 : True := trivial
theorem hd.tw7898215921889874393 : True := trivial
theorem hd.tw9228397985900620932 : True := trivial
theorem hd.tw17330132731328240911 : True := trivial
theorem hd.tw15948780112781908787 : True := trivial
theorem hd.tw280609765759037681 : True := trivial
theorem hd.tw2595994805191909183 : True := trivial
theorem hd.tw4367231431732253908 : True := trivial
theorem hd.tw3443669649825651883 : True := trivial
theorem hd.tw8112040973832200146 : True := trivial
theorem hd.tw15179676742415161110 : True := trivial
theorem hd.tw14060154772996877548 : True := trivial
theorem hd.tw1222794163293265305 : True := trivial
theorem hd.tw13122850982685727845 : True := trivial
theorem hd.tw1699103778626983548 : True := trivial
theorem hd.tw9406673726873002282 : True := trivial
theorem hd.tw12629568148972539762 : True := trivial
theorem hd.tw3350930974749635488 : True := trivial
theorem hd.tw17843490464661113860 : True := trivial
theorem hd.tw6555240042291301478 : True := trivial
theorem hd.tw6780557218761844654 : True := trivial
theorem hd.tw8887996145723391905 : True := trivial
theorem hd.tw10031445930688152421 : True := trivial
theorem hd.tw16744898341101239380 : True := trivial
theorem hd.tw15924899543223041283 : True := trivial
theorem hd.tw6352655612330318208 : True := trivial
theorem hd.tw6988595667528144454 : True := trivial
theorem hd.tw3953601041324332601 : True := trivial
theorem hd.tw11912922877643110818 : True := trivial
theorem hd.tw10292235466723388172 : True := trivial
theorem hd.tw10879034167726328663 : True := trivial
theorem hd.tw11660266114150955751 : True := trivial
theorem hd.tw5373601922739893978 : True := trivial
theorem hd.tw7691918140598264929 : True := trivial
theorem hd.tw13606922415975196911 : True := trivial
theorem hd.tw1051681510052472703 : True := trivial
theorem hd.tw9341642984632610673 : True := trivial
theorem hd.tw15102309248680683417 : True := trivial
theorem hd.tw4735155535324382492 : True := trivial
theorem hd.tw17002781174329755331 : True := trivial
theorem hd.tw2489000522355961661 : True := trivial
theorem hd.tw14454528878903484812 : True := trivial
theorem hd.tw13944508082162953488 : True := trivial
theorem hd.tw10583446816852156582 : True := trivial
theorem hd.tw9731375825926819010 : True := trivial
theorem hd.tw18103342009636024947 : True := trivial
theorem hd.tw6785817131721698500 : True := trivial
theorem hd.tw11915594877312485397 : True := trivial
theorem hd.tw12268275109542032366 : True := trivial
theorem hd.tw7270182246851987180 : True := trivial
theorem hd.tw15833661619300960221 : True := trivial
theorem hd.tw5978321128707920903 : True := trivial
theorem hd.tw6848782300941138395 : True := trivial
theorem hd.tw155142512498542641 : True := trivial
theorem hd.tw5927567313105069670 : True := trivial
theorem hd.tw16487816990975572028 : True := trivial
theorem hd.tw14612060388864693735 : True := trivial
theorem hd.tw12480425521718506038 : True := trivial
theorem hd.tw1792636949448641307 : True := trivial
theorem hd.tw12832683148521936107 : True := trivial
theorem hd.tw13783031573616600631 : True := trivial
theorem hd.tw9983995961361265002 : True := trivial
theorem hd.tw7746578258024575070 : True := trivial
theorem hd.tw14294001040229213422 : True := trivial
theorem hd.tw10117440562283002822 : True := trivial
theorem hd.tw6990203504111849199 : True := trivial
theorem hd.tw16904818350239718627 : True := trivial
theorem hd.tw4068527845204499245 : True := trivial
theorem hd.tw11162318198679636149 : True := trivial
theorem hd.tw541196102884509978 : True := trivial
theorem hd.tw4159134105002834734 : True := trivial
theorem hd.tw17001982702790524580 : True := trivial
theorem hd.tw2781682124601125471 : True := trivial
theorem hd.tw13171141561276507362 : True := trivial
theorem hd.tw17583924267553061668 : True := trivial
theorem hd.tw9555612238305686254 : True := trivial
theorem hd.tw6140570298594658328 : True := trivial
theorem hd.tw14960593345356199642 : True := trivial
theorem hd.tw3309697970292668127 : True := trivial
theorem hd.tw2855845756224970109 : True := trivial
theorem hd.tw8977307856219701671 : True := trivial
theorem hd.tw15813434630575017362 : True := trivial
theorem hd.tw17325209927041812611 : True := trivial
theorem hd.tw1954109241102656831 : True := trivial
theorem hd.tw16970440968685349367 : True := trivial
theorem hd.tw5289708365253275695 : True := trivial
theorem hd.tw15427206886491885616 : True := trivial
theorem hd.tw15643275761693703936 : True := trivial
theorem hd.tw2315301623876862497 : True := trivial
theorem hd.tw11801993109049149486 : True := trivial
theorem hd.tw14438451200097066615 : True := trivial
theorem hd.tw12364972598781006883 : True := trivial
theorem hd.tw4478177076189095293 : True := trivial
theorem hd.tw18291419657060728153 : True := trivial
theorem hd.tw13828106393651249627 : True := trivial
theorem hd.tw7382370116671421104 : True := trivial
theorem hd.tw8047900516022102942 : True := trivial
theorem hd.tw4138081844389336918 : True := trivial
theorem hd.tw7752569895197466512 : True := trivial
theorem hd.tw16091413853298234908 : True := trivial
theorem hd.tw922143313871775805 : True := trivial
theorem hd.tw17252143746492648416 : True := trivial
theorem hd.tw4402725079659364252 : True := trivial
theorem hd.tw9277588360372424766 : True := trivial
theorem hd.tw16156708551869547534 : True := trivial
theorem hd.tw442638132926106271 : True := trivial
theorem hd.tw12211380539166087753 : True := trivial
theorem hd.tw4702841417184801058 : True := trivial
theorem hd.tw17076082267592564974 : True := trivial
theorem hd.tw5238241317806426387 : True := trivial
theorem hd.tw6186238094035137676 : True := trivial
theorem hd.tw7082855905992002993 : True := trivial
theorem hd.tw18321552122766947510 : True := trivial
theorem hd.tw956962677268122417 : True := trivial
theorem hd.tw15675198926951892251 : True := trivial
theorem hd.tw10678649693572172417 : True := trivial
theorem hd.tw7492773218913965947 : True := trivial
theorem hd.tw8184699220007379433 : True := trivial
theorem hd.tw10788059911547816233 : True := trivial
theorem hd.tw14768889098011018680 : True := trivial
theorem hd.tw1847840615245081061 : True := trivial
theorem hd.tw17925215291927510665 : True := trivial
theorem hd.tw9983964734214183352 : True := trivial
theorem hd.tw10944956837784636368 : True := trivial
theorem hd.tw12232750017996463310 : True := trivial
theorem hd.tw15856727013471470956 : True := trivial
theorem hd.tw16259696140248634718 : True := trivial
theorem hd.tw3789350110615891812 : True := trivial
theorem hd.tw14106227501169856981 : True := trivial
theorem hd.tw7640094616464845771 : True := trivial
theorem hd.tw11749099774412794130 : True := trivial
theorem hd.tw17088047866570459193 : True := trivial
theorem hd.tw10531373872144210542 : True := trivial
theorem hd.tw9627899436633539337 : True := trivial
theorem hd.tw16154546982801380032 : True := trivial
theorem hd.tw1033889070964956483 : True := trivial
theorem hd.tw432457690288141553 : True := trivial
theorem hd.tw13566260322249332789 : True := trivial
theorem hd.tw16853341256802265648 : True := trivial
theorem hd.tw12611767792052310623 : True := trivial
theorem hd.tw3795277891434052102 : True := trivial
theorem hd.tw12058812876911547015 : True := trivial
theorem hd.tw9077708301081682751 : True := trivial
theorem hd.tw16006246977917349235 : True := trivial
theorem hd.tw17948085552500728524 : True := trivial
theorem hd.tw3828038474966422129 : True := trivial
theorem hd.tw6898005170327248138 : True := trivial
theorem hd.tw1241404454085649124 : True := trivial
theorem hd.tw13280443560766958183 : True := trivial
theorem hd.tw876933089483189297 : True := trivial
theorem hd.tw14462709497994964445 : True := trivial
theorem hd.tw17562767543260142214 : True := trivial
theorem hd.tw10376703724636587151 : True := trivial
theorem hd.tw12127338746724423809 : True := trivial
theorem hd.tw6957150274394394060 : True := trivial
theorem hd.tw6308581086252854402 : True := trivial
theorem hd.tw15463257786427224491 : True := trivial
theorem hd.tw17672654358674132775 : True := trivial
theorem hd.tw7296583596125217682 : True := trivial
theorem hd.tw4015398097383911347 : True := trivial
theorem hd.tw14560493823538711346 : True := trivial
theorem hd.tw9753359207989701909 : True := trivial
theorem hd.tw5189956158058943387 : True := trivial
theorem hd.tw7175568609137494628 : True := trivial
theorem hd.tw9748044761591592747 : True := trivial
theorem hd.tw13365295217650922812 : True := trivial
theorem hd.tw10170382586518783626 : True := trivial
theorem hd.tw14980023328507725902 : True := trivial
theorem hd.tw15411387601460861337 : True := trivial
theorem hd.tw4377701919642642989 : True := trivial
theorem hd.tw16053994301053490033 : True := trivial
theorem hd.tw2263123870574935043 : True := trivial
theorem hd.tw13468300074154594103 : True := trivial
theorem hd.tw7339039647409124788 : True := trivial
theorem hd.tw4725425184044842548 : True := trivial
theorem hd.tw3722166409189360004 : True := trivial
theorem hd.tw10784824025267889561 : True := trivial
theorem hd.tw12487542160262675636 : True := trivial
theorem hd.tw14439243815434019604 : True := trivial
theorem hd.tw2502866573005156581 : True := trivial
theorem hd.tw16587392273704687506 : True := trivial
theorem hd.tw16412773359747925120 : True := trivial
theorem hd.tw102014493982917126 : True := trivial
theorem hd.tw14120982254508448379 : True := trivial
theorem hd.tw10365702040365258594 : True := trivial
theorem hd.tw13172843250190940813 : True := trivial
theorem hd.tw16257038226119295666 : True := trivial
theorem hd.tw3513125359445811510 : True := trivial
theorem hd.tw8428860471423672150 : True := trivial
theorem hd.tw8789358453043137523 : True := trivial
theorem hd.tw10778257442750969130 : True := trivial
theorem hd.tw10844753989422098599 : True := trivial
theorem hd.tw2051048951616859547 : True := trivial
theorem hd.tw1781861727890032366 : True := trivial
theorem hd.tw13931416462566266981 : True := trivial
theorem hd.tw13409441903868389331 : True := trivial
theorem hd.tw11507959949525687343 : True := trivial
theorem hd.tw368366308016060594 : True := trivial
theorem hd.tw17143205804819765802 : True := trivial
theorem hd.tw10024716035694756283 : True := trivial
theorem hd.tw3876449026389394717 : True := trivial
theorem hd.tw313027258313007627 : True := trivial
theorem hd.tw13671756088133313087 : True := trivial
theorem hd.tw8683856772340465682 : True := trivial
theorem hd.tw16302227732802510677 : True := trivial
theorem hd.tw16640546478005224243 : True := trivial
theorem hd.tw11399449904127653305 : True := trivial
theorem hd.tw10847404155465417027 : True := trivial
theorem hd.tw6759412095888398321 : True := trivial
theorem hd.tw16178712458983371728 : True := trivial
theorem hd.tw15687388767607454252 : True := trivial
theorem hd.tw6578402527460240241 : True := trivial
theorem hd.tw714852897916480489 : True := trivial
theorem hd.tw17066044127408595049 : True := trivial
theorem hd.tw16456969618363192440 : True := trivial
theorem hd.tw7510230149288206974 : True := trivial
theorem hd.tw11905163887095721015 : True := trivial
theorem hd.tw14060237666301923597 : True := trivial
theorem hd.tw5245234834050458271 : True := trivial
theorem hd.tw3196399650302076718 : True := trivial
theorem hd.tw15946388913382835224 : True := trivial
theorem hd.tw9073681462420916055 : True := trivial
theorem hd.tw651126834518081296 : True := trivial
theorem hd.tw9763420282994701918 : True := trivial
theorem hd.tw6931407450589930559 : True := trivial
theorem hd.tw15987713032478767096 : True := trivial
theorem hd.tw18163647496604598072 : True := trivial
theorem hd.tw16502264421070913907 : True := trivial
theorem hd.tw5480042469492414594 : True := trivial
theorem hd.tw10763509664835889504 : True := trivial
theorem hd.tw1610171440888473627 : True := trivial
theorem hd.tw17696971302532935780 : True := trivial
theorem hd.tw17588044629489971554 : True := trivial
theorem hd.tw17895171251205151618 : True := trivial
theorem hd.tw14896477498954680388 : True := trivial
theorem hd.tw732345407407602841 : True := trivial
theorem hd.tw16694946328126371552 : True := trivial
theorem hd.tw7763873220885509757 : True := trivial
theorem hd.tw18421049791903953903 : True := trivial
theorem hd.tw4609310046291750870 : True := trivial
theorem hd.tw5388632664720090651 : True := trivial
theorem hd.tw9617658007855726926 : True := trivial
theorem hd.tw4654797750381630734 : True := trivial
theorem hd.tw13181700845877081190 : True := trivial
theorem hd.tw4870687313549177768 : True := trivial
theorem hd.tw8879563391730754479 : True := trivial
theorem hd.tw17312999752573914782 : True := trivial
theorem hd.tw13342606739435360313 : True := trivial
theorem hd.tw2327210489368252092 : True := trivial
theorem hd.tw7891253978561527248 : True := trivial
theorem hd.tw7880807054014371918 : True := trivial
theorem hd.tw14478148883734587675 : True := trivial
theorem hd.tw7519716089354478335 : True := trivial
theorem hd.tw15992342658441690333 : True := trivial
theorem hd.tw10905682514733158466 : True := trivial
theorem hd.tw8538877666451538035 : True := trivial
theorem hd.tw2468469042602058204 : True := trivial
theorem hd.tw5715356086224469760 : True := trivial
theorem hd.tw11011131195910976488 : True := trivial
theorem hd.tw7489763959799892387 : True := trivial
theorem hd.tw14772383043592177042 : True := trivial
theorem hd.tw11778180911958503814 : True := trivial
theorem hd.tw8684328023851190084 : True := trivial
theorem hd.tw17902569758825723728 : True := trivial
theorem hd.tw940617070666608080 : True := trivial
theorem hd.tw402640490398009360 : True := trivial
theorem hd.tw3008623586974134963 : True := trivial
theorem hd.tw8587404781116728655 : True := trivial
theorem hd.tw11117797201346649052 : True := trivial
theorem hd.tw15368132723985388332 : True := trivial
theorem hd.tw16345102440705955213 : True := trivial
theorem hd.tw16826083622388986153 : True := trivial
theorem hd.tw7240586211207864342 : True := trivial
theorem hd.tw16376525773666504680 : True := trivial
theorem hd.tw7540741092611519060 : True := trivial
theorem hd.tw8450674356893351874 : True := trivial
theorem hd.tw1870067075039425230 : True := trivial
theorem hd.tw3571134770919094901 : True := trivial
theorem hd.tw11032806212648032379 : True := trivial
theorem hd.tw1445366717492459972 : True := trivial
theorem hd.tw12565835363266740329 : True := trivial
theorem hd.tw15033227074091944939 : True := trivial
theorem hd.tw2450686747263038406 : True := trivial
theorem hd.tw3969467460574380271 : True := trivial
theorem hd.tw10643592516055977328 : True := trivial
theorem hd.tw189712035060473897 : True := trivial
theorem hd.tw7914949630228597729 : True := trivial
theorem hd.tw9673543361469618366 : True := trivial
theorem hd.tw6830512106363814048 : True := trivial
theorem hd.tw8242931771332617035 : True := trivial
theorem hd.tw10603584201595350602 : True := trivial
theorem hd.tw9960721518486171458 : True := trivial
theorem hd.tw17542962492245011380 : True := trivial
theorem hd.tw978945382295711627 : True := trivial
theorem hd.tw12070051907170230399 : True := trivial
theorem hd.tw4272726840584523970 : True := trivial
theorem hd.tw5976792059365374437 : True := trivial
theorem hd.tw5366084841770067474 : True := trivial
theorem hd.tw8381844023166312768 : True := trivial
theorem hd.tw12521463284412890351 : True := trivial
theorem hd.tw16635604280276938560 : True := trivial
theorem hd.tw9330823016148744750 : True := trivial
theorem hd.tw15529170255622000948 : True := trivial
theorem hd.tw2042292140826266357 : True := trivial
theorem hd.tw9842699097658496709 : True := trivial
theorem hd.tw6079173187612997037 : True := trivial
theorem hd.tw18093812233618175256 : True := trivial
theorem hd.tw14078009766183191694 : True := trivial
theorem hd.tw4878824753759274627 : True := trivial
theorem hd.tw6800881396052196260 : True := trivial
theorem hd.tw6528754448969337418 : True := trivial
theorem hd.tw6683769817339685419 : True := trivial
theorem hd.tw12399718760709695909 : True := trivial
theorem hd.tw6646985988748340704 : True := trivial
theorem hd.tw8960069828448710407 : True := trivial
theorem hd.tw12629531694177875297 : True := trivial
theorem hd.tw503842035214351869 : True := trivial
theorem hd.tw185848376630758926 : True := trivial
theorem hd.tw17876089906941426215 : True := trivial
theorem hd.tw16639802674150441104 : True := trivial
theorem hd.tw9513423893830186035 : True := trivial
theorem hd.tw1359830224848277088 : True := trivial
theorem hd.tw6442067068224118133 : True := trivial
theorem hd.tw12453114486196615683 : True := trivial
theorem hd.tw14969688514271112891 : True := trivial
theorem hd.tw9813410681712176819 : True := trivial
theorem hd.tw1810128313956251070 : True := trivial
theorem hd.tw3241458686731973266 : True := trivial
theorem hd.tw2887051446865420828 : True := trivial
theorem hd.tw12035623454917710897 : True := trivial
theorem hd.tw546821695630378048 : True := trivial
theorem hd.tw11213053971927718326 : True := trivial
theorem hd.tw5148922909946612681 : True := trivial
theorem hd.tw10845626234925267891 : True := trivial
theorem hd.tw13330244855972007585 : True := trivial
theorem hd.tw17087091549796120035 : True := trivial
theorem hd.tw4355604671862981090 : True := trivial
theorem hd.tw5567388512258382067 : True := trivial
theorem hd.tw6305734824756694309 : True := trivial
theorem hd.tw6060742912462422084 : True := trivial
theorem hd.tw10558106933452604415 : True := trivial
theorem hd.tw5464280966869935822 : True := trivial
theorem hd.tw6418103052136555383 : True := trivial
theorem hd.tw13919464512627920130 : True := trivial
theorem hd.tw17054507655720011243 : True := trivial
theorem hd.tw7712595579559962911 : True := trivial
theorem hd.tw9087110039335098043 : True := trivial
theorem hd.tw3044193314922437478 : True := trivial
theorem hd.tw2001351230973187099 : True := trivial
theorem hd.tw8317466277049474617 : True := trivial
theorem hd.tw3704167492566942397 : True := trivial
theorem hd.tw4478964076566166474 : True := trivial
theorem hd.tw6669269137521125552 : True := trivial
theorem hd.tw5902613922787404954 : True := trivial
theorem hd.tw243823211424636713 : True := trivial
theorem hd.tw13285133528070534704 : True := trivial
theorem hd.tw16945582573551092051 : True := trivial
theorem hd.tw10458740792067480800 : True := trivial
theorem hd.tw678209747344391502 : True := trivial
theorem hd.tw9215827820722605749 : True := trivial
theorem hd.tw10614716105012338702 : True := trivial
theorem hd.tw6046454685291232161 : True := trivial
theorem hd.tw5562173858411828344 : True := trivial
theorem hd.tw17062030032774818151 : True := trivial
theorem hd.tw1736311965527578767 : True := trivial
theorem hd.tw2839761810297210574 : True := trivial
theorem hd.tw16982354404038007262 : True := trivial
theorem hd.tw16692772259055178886 : True := trivial
theorem hd.tw8210421348078903774 : True := trivial
theorem hd.tw656455966557771466 : True := trivial
theorem hd.tw8025032847418708242 : True := trivial
theorem hd.tw4788038989552484473 : True := trivial
theorem hd.tw8472141830624432390 : True := trivial
theorem hd.tw17992873397187703194 : True := trivial
theorem hd.tw7712819752767893495 : True := trivial
theorem hd.tw18406568778348887127 : True := trivial
theorem hd.tw16415028865518655546 : True := trivial
theorem hd.tw8179070454071193570 : True := trivial
theorem hd.tw15625209780758371316 : True := trivial
theorem hd.tw2598446214317162929 : True := trivial
theorem hd.tw11128854368766332075 : True := trivial
theorem hd.tw15615537253650120727 : True := trivial
theorem hd.tw15642763164714097627 : True := trivial
theorem hd.tw6320253292602491972 : True := trivial
theorem hd.tw18241275227582772068 : True := trivial
theorem hd.tw13518370688599389936 : True := trivial
theorem hd.tw2216850387143573719 : True := trivial
theorem hd.tw15074197538484233485 : True := trivial
theorem hd.tw5859118754885311737 : True := trivial
theorem hd.tw1413172679324656950 : True := trivial
theorem hd.tw8457440626546761165 : True := trivial
theorem hd.tw2799067240506288376 : True := trivial
theorem hd.tw16194383521188589630 : True := trivial
theorem hd.tw6291416237084387574 : True := trivial
theorem hd.tw8226494294326810461 : True := trivial
theorem hd.tw1331487369976884630 : True := trivial
theorem hd.tw1448358952932078338 : True := trivial
theorem hd.tw3533295568840377906 : True := trivial
theorem hd.tw10834780440838970164 : True := trivial
theorem hd.tw15199589371867527261 : True := trivial
theorem hd.tw2457190517430149469 : True := trivial
theorem hd.tw14955159897011116063 : True := trivial
theorem hd.tw17975533764899295144 : True := trivial
theorem hd.tw4282304852377368616 : True := trivial
theorem hd.tw4494801613693538912 : True := trivial
theorem hd.tw4172343393113369950 : True := trivial
theorem hd.tw5464967688985200232 : True := trivial
theorem hd.tw12487502673411948298 : True := trivial
theorem hd.tw6902198413751149823 : True := trivial
theorem hd.tw6423634429210846174 : True := trivial
theorem hd.tw13001811119718631651 : True := trivial
theorem hd.tw9298403506768410418 : True := trivial
theorem hd.tw6412770499399676944 : True := trivial
theorem hd.tw7540655947842036084 : True := trivial
theorem hd.tw4527685146903026889 : True := trivial
theorem hd.tw7372000682148998216 : True := trivial
theorem hd.tw9864973744126774698 : True := trivial
theorem hd.tw6293948785866598258 : True := trivial
theorem hd.tw617508947420966582 : True := trivial
theorem hd.tw12861998865439983172 : True := trivial
theorem hd.tw3759623122121258479 : True := trivial
theorem hd.tw7626941382939369770 : True := trivial
theorem hd.tw12023040214023829324 : True := trivial
theorem hd.tw9215163618515126356 : True := trivial
theorem hd.tw9557236495431379559 : True := trivial
theorem hd.tw16858285156579221889 : True := trivial
theorem hd.tw17673860158736603733 : True := trivial
theorem hd.tw17950676927832955104 : True := trivial
theorem hd.tw17994825080979385314 : True := trivial
theorem hd.tw8356816923877370021 : True := trivial
theorem hd.tw1088296927520436173 : True := trivial
theorem hd.tw7317836474542784337 : True := trivial
theorem hd.tw17420951861521290806 : True := trivial
theorem hd.tw6136932545381038964 : True := trivial
theorem hd.tw4315991029959535628 : True := trivial
theorem hd.tw9719896912496429819 : True := trivial
theorem hd.tw5535567543195554156 : True := trivial
theorem hd.tw100483095206116625 : True := trivial
theorem hd.tw1836080755315867724 : True := trivial
theorem hd.tw7366208706002141716 : True := trivial
theorem hd.tw1717729237380139383 : True := trivial
theorem hd.tw15228807520496212463 : True := trivial
theorem hd.tw689954013368505116 : True := trivial
theorem hd.tw4581847759332874082 : True := trivial
theorem hd.tw5987830557187376847 : True := trivial
theorem hd.tw4971549296188076032 : True := trivial
theorem hd.tw7289634563603522867 : True := trivial
theorem hd.tw7512474625130614241 : True := trivial
theorem hd.tw1535757262459896012 : True := trivial
theorem hd.tw4363365295628954845 : True := trivial
theorem hd.tw16473244170626142550 : True := trivial
theorem hd.tw17047115858639842297 : True := trivial
theorem hd.tw9702936160620672325 : True := trivial
theorem hd.tw14400467628812073631 : True := trivial
theorem hd.tw6877226645827823821 : True := trivial
theorem hd.tw15043168886218598503 : True := trivial
theorem hd.tw16009884308244765898 : True := trivial
theorem hd.tw5574845727924001799 : True := trivial
theorem hd.tw6469175993241445255 : True := trivial
theorem hd.tw7598622570094877466 : True := trivial
theorem hd.tw10860895700388868024 : True := trivial
theorem hd.tw13478424178397462001 : True := trivial
theorem hd.tw15578025631644234493 : True := trivial
theorem hd.tw14029546391885035639 : True := trivial
theorem hd.tw17454471701868102899 : True := trivial
theorem hd.tw12131494931117144662 : True := trivial
theorem hd.tw1865391376527767206 : True := trivial
theorem hd.tw12350410155528471161 : True := trivial
theorem hd.tw3941438180925939637 : True := trivial
theorem hd.tw9533747618267967006 : True := trivial
theorem hd.tw13475242022060392486 : True := trivial
theorem hd.tw5292301768408028288 : True := trivial
theorem hd.tw3694398316872202419 : True := trivial
theorem hd.tw10806950440038215891 : True := trivial
theorem hd.tw8545014587354053640 : True := trivial
theorem hd.tw12659318050587179527 : True := trivial
theorem hd.tw4730091804998409952 : True := trivial
theorem hd.tw9013056391748086436 : True := trivial
theorem hd.tw10030107230732127627 : True := trivial
theorem hd.tw701333769924781912 : True := trivial
theorem hd.tw17377529257436501650 : True := trivial
theorem hd.tw11636924220087485885 : True := trivial
theorem hd.tw9155422001095189878 : True := trivial
theorem hd.tw13628142620392400109 : True := trivial
theorem hd.tw2951005344575393816 : True := trivial
theorem hd.tw13994979335412520660 : True := trivial
theorem hd.tw6998783941825042932 : True := trivial
theorem hd.tw5247051413645994129 : True := trivial
theorem hd.tw16794629799341752650 : True := trivial
theorem hd.tw8479784124755550697 : True := trivial
theorem hd.tw5138769234217329475 : True := trivial
theorem hd.tw3913528116038191188 : True := trivial
theorem hd.tw2845679848157327705 : True := trivial
theorem hd.tw13315533130655954831 : True := trivial
theorem hd.tw5505005885091257285 : True := trivial
theorem hd.tw7676003278276379012 : True := trivial
theorem hd.tw10264135568141901301 : True := trivial
theorem hd.tw15083628210047938546 : True := trivial
theorem hd.tw9476321141362543215 : True := trivial
theorem hd.tw190519026028168232 : True := trivial
theorem hd.tw11283319371284918911 : True := trivial
theorem hd.tw1452849714261714991 : True := trivial
theorem hd.tw15277330632498426303 : True := trivial
theorem hd.tw3109861748172591687 : True := trivial
theorem hd.tw4225703048834024713 : True := trivial
theorem hd.tw16868993833207775613 : True := trivial
theorem hd.tw1011335219593555734 : True := trivial
theorem hd.tw17650839729002327288 : True := trivial
theorem hd.tw18368451091360184599 : True := trivial
theorem hd.tw18293732401869909652 : True := trivial
theorem hd.tw6019021122589006684 : True := trivial
theorem hd.tw10778013660560245624 : True := trivial
theorem hd.tw11319892378374348655 : True := trivial
theorem hd.tw11917015161858427179 : True := trivial
theorem hd.tw17772917993097084435 : True := trivial
theorem hd.tw10403243965636340961 : True := trivial
theorem hd.tw16332348944364537037 : True := trivial
theorem hd.tw17177331786930743035 : True := trivial
theorem hd.tw12647368939536790636 : True := trivial
theorem hd.tw10210669037155785340 : True := trivial
theorem hd.tw5608270528595127837 : True := trivial
theorem hd.tw3229955645248102723 : True := trivial
theorem hd.tw1112526722564841696 : True := trivial
theorem hd.tw13937702029108404993 : True := trivial
theorem hd.tw5980943777267673954 : True := trivial
theorem hd.tw3846061349045661252 : True := trivial
theorem hd.tw3039998526598829958 : True := trivial
theorem hd.tw8920659734516437415 : True := trivial
theorem hd.tw979102147026127112 : True := trivial
theorem hd.tw8937217757347908520 : True := trivial
theorem hd.tw8557720439512000009 : True := trivial
theorem hd.tw9947935034454793129 : True := trivial
theorem hd.tw13855881374063213867 : True := trivial
theorem hd.tw14727110085682223627 : True := trivial
theorem hd.tw4662312157139175244 : True := trivial
theorem hd.tw4899713377014348845 : True := trivial
theorem hd.tw14113659368449957645 : True := trivial
theorem hd.tw11449328733155803182 : True := trivial
theorem hd.tw7892796252161832078 : True := trivial
theorem hd.tw1518305811592690382 : True := trivial
theorem hd.tw5369885014425254255 : True := trivial
theorem hd.tw2963139391257366001 : True := trivial
theorem hd.tw15606596725942863602 : True := trivial
theorem hd.tw5367187694478559379 : True := trivial
theorem hd.tw12791832883819692243 : True := trivial
theorem hd.tw17006298447274111571 : True := trivial
theorem hd.tw12715556860635103574 : True := trivial
theorem hd.tw3673089383077640791 : True := trivial
theorem hd.tw2792121606168355799 : True := trivial
theorem hd.tw12319353311459017080 : True := trivial
theorem hd.tw9995149164486035065 : True := trivial
theorem hd.tw17495400312846734522 : True := trivial
theorem hd.tw8238929830477363962 : True := trivial
theorem hd.tw10365754480149550587 : True := trivial
theorem hd.tw6563143717978901596 : True := trivial
theorem hd.tw3212571192583754236 : True := trivial
theorem hd.tw2895019672242215742 : True := trivial
theorem hd.tw3982727318778854815 : True := trivial
theorem hd.tw2991650980592511775 : True := trivial
theorem hd.tw4584035498664382463 : True := trivial
theorem hd.tw18397530887139883770 : True := trivial
theorem hd.tw3900314242306162592 : True := trivial
set_option Elab.async true in
set_option maxRecDepth 100000 in
set_option maxHeartbeats 8000000 in
theorem hd : PySem.Challenge.rw_iw0015_02.Holds := by
  w_on; o_law; o_head (kHook Mine.KF [2, 3, 34, 35, 37, 38, 50, 56, 57, 66, 73, 74, 80, 81, 90, 100, 103, 104, 112, 117, 118, 124, 125, 127, 128, 140, 141, 161, 162, 174, 175, 183, 184, 195, 196, 204, 205, 211, 212, 218, 219, 220, 226, 227, 229, 260, 267, 268, 274, 275, 288, 289, 295, 296, 302, 303, 337, 338, 344, 345, 351, 352, 358, 359, 365, 366, 379, 380, 386, 387, 471, 472, 481, 482, 494, 536, 537, 539, 556, 557, 569, 570, 576, 577, 583, 584, 597, 598, 607, 614, 615, 621, 622, 635, 636, 645, 656, 666, 676, 679, 680, 690, 691, 695, 696, 702, 703, 709, 710, 716, 717, 723, 724, 730, 731, 737, 738, 744, 745, 749, 750, 756, 757, 763, 764, 768, 769] (fun _ => by kernel_rfl)); (case hw => w_witness2)
  exact law_walk (fun w h Y => kIn_of Y) rfl

end Mine
theorem PySem.Challenge.cw_iw0015_02_holds : PySem.Challenge.rw_iw0015_02.Holds := by
  exact Mine.hd
