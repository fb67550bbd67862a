import PyProof.Rows.All
import KE.KLam
import KE.LcTurns
import KE.KStar
import KE.TryLedger
import KE.KSuper
import KE.KIntText
import KE.KEqSeq
import PyProof.LongRange
import KE.KItem
import PySem.Challenge.RW_bn0043_01
set_option maxRecDepth 100000
set_option Elab.async false
namespace BN
open PySem PySem.W PySem.Calls PyProof.Rows Builtin
section
abbrev prog : Program := PySem.Challenge.pw_bn0043_01
def nthS : List Stmt → Nat → Stmt
  | [], _ => .Pass default
  | s :: _, 0 => s
  | _ :: r, n + 1 => nthS r n
def cBody : Stmt → List Stmt
  | .ClassDef (body := b) .. => b
  | _ => []
def fBody : Stmt → List Stmt
  | .FunctionDef (body := b) .. => b
  | _ => []
def fParams : Stmt → Arguments
  | .FunctionDef (args := b) .. => b
  | _ => default
def docS (b : List Stmt) : Str := (docOf b).getD Str.empty
def fScope : Stmt → Scope
  | .FunctionDef (scope := b) .. => b
  | _ => default
def o2 (P : Params) : Obj := ⟨.none, none, (.dict [⟨PyData.keyHash P (Str.ofString "imp\x6frt.loaded._bisect"), (.str (Str.ofString "imp\x6frt.loaded._bisect") 185), (.bool true)⟩, ⟨PyData.keyHash P (Str.ofString "class._frozen_imp\x6frtlib_external._LoaderBasics"), (.str (Str.ofString "class._frozen_imp\x6frtlib_external._LoaderBasics") 190), (.ref 16)⟩, ⟨PyData.keyHash P (Str.ofString "watched.imp\x6frt"), (.str (Str.ofString "watched.imp\x6frt") 206), (.ref 20)⟩, ⟨PyData.keyHash P (Str.ofString "class._frozen_imp\x6frtlib_external.FileLoader"), (.str (Str.ofString "class._frozen_imp\x6frtlib_external.FileLoader") 207), (.ref 22)⟩, ⟨PyData.keyHash P (Str.ofString "class._frozen_imp\x6frtlib_external.ExtensionFileLoader"), (.str (Str.ofString "class._frozen_imp\x6frtlib_external.ExtensionFileLoader") 228), (.ref 27)⟩, ⟨PyData.keyHash P (Str.ofString "class._frozen_imp\x6frtlib.ModuleSpec"), (.str (Str.ofString "class._frozen_imp\x6frtlib.ModuleSpec") 256), (.ref 33)⟩, ⟨PyData.keyHash P (Str.ofString "sys.modules.booked-epoch"), (.str (Str.ofString "sys.modules.booked-epoch") 285), (.int (4) 0)⟩, ⟨PyData.keyHash P (Str.ofString "imp\x6frt.later-laid._bisect"), (.str (Str.ofString "imp\x6frt.later-laid._bisect") 298), (.bool true)⟩, ⟨PyData.keyHash P (Str.ofString "watched.library"), (.str (Str.ofString "watched.library") 300), (.ref 38)⟩, ⟨PyData.keyHash P (Str.ofString "watched.library-objects"), (.str (Str.ofString "watched.library-objects") 0), (.str (Str.ofString "\x0d)") 0)⟩, ⟨PyData.keyHash P (Str.ofString "imp\x6frt.loaded._collections"), (.str (Str.ofString "imp\x6frt.loaded._collections") 311), (.bool true)⟩, ⟨PyData.keyHash P (Str.ofString "class._frozen_imp\x6frtlib.BuiltinImporter"), (.str (Str.ofString "class._frozen_imp\x6frtlib.BuiltinImporter") 313), (.ref 43)⟩, ⟨PyData.keyHash P (Str.ofString "sys.modules.landed._collections"), (.str (Str.ofString "sys.modules.landed._collections") 346), (.bool true)⟩, ⟨PyData.keyHash P (Str.ofString "imp\x6frt.later-laid._collections"), (.str (Str.ofString "imp\x6frt.later-laid._collections") 361), (.bool true)⟩, ⟨PyData.keyHash P (Str.ofString "watched.library-deep._collections"), (.str (Str.ofString "watched.library-deep._collections") 363), (.str (Str.ofString "\x04\x00\x00(\x04\x00\x00(\x04\x00\x00\x03\x04\x00\x00(\x08\x04dict\x02") 0)⟩].toArray 15), [].toArray⟩
def o3 (P : Params) : Obj := ⟨(.type "dict"), none, (.dict [⟨PyData.keyHash P (Str.ofString "__name__"), (.str (Str.ofString "__name__") 165), (.str (Str.ofString "law_bn0043_01") 1769)⟩, ⟨PyData.keyHash P (Str.ofString "__doc__"), (.str (Str.ofString "__doc__") 166), .none⟩, ⟨PyData.keyHash P (Str.ofString "__package__"), (.str (Str.ofString "__package__") 167), .none⟩, ⟨PyData.keyHash P (Str.ofString "__loader__"), (.str (Str.ofString "__loader__") 168), (.builtin "__main__.__loader__#opaque")⟩, ⟨PyData.keyHash P (Str.ofString "__spec__"), (.str (Str.ofString "__spec__") 169), .none⟩, ⟨PyData.keyHash P (Str.ofString "__annotations__"), (.str (Str.ofString "__annotations__") 170), (.ref 6)⟩, ⟨PyData.keyHash P (Str.ofString "__builtins__"), (.str (Str.ofString "__builtins__") 171), (.ref 4)⟩, ⟨PyData.keyHash P (Str.ofString "__file__"), (.str (Str.ofString "__file__") 173), (.str (Str.ofString "/claim/cut.py") 172)⟩, ⟨PyData.keyHash P (Str.ofString "__cached__"), (.str (Str.ofString "__cached__") 174), .none⟩, ⟨PyData.keyHash P (Str.ofString "bisect_left"), (.str (Str.ofString "bisect_left") 306), (.builtin "_bisect.bisect_left")⟩, ⟨PyData.keyHash P (Str.ofString "_count_elements"), (.str (Str.ofString "_count_elements") 369), (.builtin "_collections._count_elements")⟩, ⟨PyData.keyHash P (Str.ofString "_wall"), (.str (Str.ofString "_wall") 382), (.ref 60)⟩, ⟨PyData.keyHash P (Str.ofString "_tuplegetter"), (.str (Str.ofString "_tuplegetter") 441), (.ref 376)⟩, ⟨PyData.keyHash P (Str.ofString "tuplegetter_strategies"), (.str (Str.ofString "tuplegetter_strategies") 442), (.ref 99)⟩, ⟨PyData.keyHash P (Str.ofString "WindowStats"), (.str (Str.ofString "WindowStats") 557), (.ref 171)⟩, ⟨PyData.keyHash P (Str.ofString "RateLimiter"), (.str (Str.ofString "RateLimiter") 595), (.ref 200)⟩, ⟨PyData.keyHash P (Str.ofString "MovingWindowRateLimiter"), (.str (Str.ofString "MovingWindowRateLimiter") 650), (.ref 241)⟩, ⟨PyData.keyHash P (Str.ofString "FixedWindowRateLimiter"), (.str (Str.ofString "FixedWindowRateLimiter") 704), (.ref 280)⟩, ⟨PyData.keyHash P (Str.ofString "SlidingWindowCounterRateLimiter"), (.str (Str.ofString "SlidingWindowCounterRateLimiter") 789), (.ref 335)⟩, ⟨PyData.keyHash P (Str.ofString "tuplegetter_limits"), (.str (Str.ofString "tuplegetter_limits") 849), (.ref 376)⟩, ⟨PyData.keyHash P (Str.ofString "safe_string"), (.str (Str.ofString "safe_string") 857), (.ref 387)⟩, ⟨PyData.keyHash P (Str.ofString "Granularity"), (.str (Str.ofString "Granularity") 972), (.ref 455)⟩, ⟨PyData.keyHash P (Str.ofString "TIME_TYPES"), (.str (Str.ofString "TIME_TYPES") 1053), (.ref 489)⟩, ⟨PyData.keyHash P (Str.ofString "RateLimitItem"), (.str (Str.ofString "RateLimitItem") 1156), (.ref 552)⟩, ⟨PyData.keyHash P (Str.ofString "RateLimitItemPerSecond"), (.str (Str.ofString "RateLimitItemPerSecond") 1182), (.ref 567)⟩, ⟨PyData.keyHash P (Str.ofString "TimestampedSlidingWindow"), (.str (Str.ofString "TimestampedSlidingWindow") 1229), (.ref 591)⟩, ⟨PyData.keyHash P (Str.ofString "Entry"), (.str (Str.ofString "Entry") 1262), (.ref 612)⟩, ⟨PyData.keyHash P (Str.ofString "_second"), (.str (Str.ofString "_second") 1271), (.ref 623)⟩, ⟨PyData.keyHash P (Str.ofString "_is_mapping"), (.str (Str.ofString "_is_mapping") 1278), (.ref 630)⟩, ⟨PyData.keyHash P (Str.ofString "Counter"), (.str (Str.ofString "Counter") 1576), (.ref 849)⟩, ⟨PyData.keyHash P (Str.ofString "MemoryStorage"), (.str (Str.ofString "MemoryStorage") 1768), (.ref 972)⟩, ⟨PyData.keyHash P (Str.ofString "_law_left"), (.str (Str.ofString "_law_left") 1777), (.ref 979)⟩, ⟨PyData.keyHash P (Str.ofString "law"), (.str (Str.ofString "law") 1783), (.ref 984)⟩].toArray 33), [].toArray⟩
def o75 (P : Params) : Obj := ⟨(.type "tuple"), none, (.seq [.none].toArray 0), [].toArray⟩
def o81 (P : Params) : Obj := ⟨(.type "code"), none, (.fields [(.str (Str.ofString "__get__") 406), (.str (Str.ofString "_tuplegetter.__get__") 407), (.str (Str.ofString "/claim/cut.py") 408), (.int (13) 0), (.int (3) 0), (.int (0) 0), (.int (0) 0), (.int (3) 0), (.ref 76), (.bool true), (.int (370) 0), (.ref 77), .none, (.ref 78), (.ref 79), (.ref 80), (.int (412) 0), (.int (13) 0), (.str (Str.ofString "/claim/cut.py") 413)].toArray), [].toArray⟩
def o82 (P : Params) : Obj := ⟨(.type "function"), none, (.func (fnX (Str.ofString "__get__") (Str.ofString "_tuplegetter.__get__") (fParams (nthS (cBody (nthS prog.main.body 4)) 1)) (fBody (nthS (cBody (nthS prog.main.body 4)) 1)) (fScope (nthS (cBody (nthS prog.main.body 4)) 1)) [] (.ref 75) .none .none (.str (Str.ofString "limits.strategies") 383) none (.ref 81) .none)), [].toArray⟩
def o98 (P : Params) : Obj := ⟨(.type "dict"), none, (.dict [⟨PyData.keyHash P (Str.ofString "__module__"), (.str (Str.ofString "__module__") 392), (.str (Str.ofString "limits.strategies") 383)⟩, ⟨PyData.keyHash P (Str.ofString "__firstlineno__"), (.str (Str.ofString "__firstlineno__") 396), (.int (7) 395)⟩, ⟨PyData.keyHash P (Str.ofString "__init__"), (.str (Str.ofString "__init__") 405), (.ref 74)⟩, ⟨PyData.keyHash P (Str.ofString "__get__"), (.str (Str.ofString "__get__") 414), (.ref 82)⟩, ⟨PyData.keyHash P (Str.ofString "__set__"), (.str (Str.ofString "__set__") 423), (.ref 89)⟩, ⟨PyData.keyHash P (Str.ofString "__delete__"), (.str (Str.ofString "__delete__") 431), (.ref 96)⟩, ⟨PyData.keyHash P (Str.ofString "__static_attributes__"), (.str (Str.ofString "__static_attributes__") 434), (.ref 97)⟩, ⟨PyData.keyHash P (Str.ofString "__dict__"), (.str (Str.ofString "__dict__") 436), (.ref 100)⟩, ⟨PyData.keyHash P (Str.ofString "__weakref__"), (.str (Str.ofString "__weakref__") 438), (.ref 101)⟩, ⟨PyData.keyHash P (Str.ofString "__doc__"), (.str (Str.ofString "__doc__") 439), .none⟩].toArray 4), [].toArray⟩
def o99 (P : Params) : Obj := ⟨(.type "type"), none, (.cls { name := (Str.ofString "_tuplegetter"), bases := [(.type "object")], mro := [(.ref 99), (.type "object")], ns := 98, qualname := (Str.ofString "_tuplegetter"), hasDict := true, slotNames := [], subclasses := [], abstract := false, collection := none, hasDel := false }), [none, none, (some (.str (Str.ofString "_tuplegetter") 385)), (some (.str (Str.ofString "_tuplegetter") 393)), (some (.builtin "object.__new__")), (some (.bool true))].toArray⟩
def o120 (P : Params) : Obj := ⟨(.type "code"), none, (.fields [(.str (Str.ofString "__new__") 463), (.str (Str.ofString "WindowStats.__new__") 464), (.str (Str.ofString "/claim/cut.py") 465), (.int (32) 0), (.int (3) 0), (.int (0) 0), (.int (0) 0), (.int (3) 0), (.ref 115), (.bool true), (.int (370) 0), (.ref 116), .none, (.ref 117), (.ref 118), (.ref 119), (.int (469) 0), (.int (32) 0), (.str (Str.ofString "/claim/cut.py") 470)].toArray), [].toArray⟩
def o121 (P : Params) : Obj := ⟨(.type "function"), none, (.func (fnX (Str.ofString "__new__") (Str.ofString "WindowStats.__new__") (fParams (nthS (cBody (nthS prog.main.body 6)) 4)) (fBody (nthS (cBody (nthS prog.main.body 6)) 4)) (fScope (nthS (cBody (nthS prog.main.body 6)) 4)) [] .none .none (.str (docS (fBody (nthS (cBody (nthS prog.main.body 6)) 4))) 471) (.str (Str.ofString "limits.strategies") 383) none (.ref 120) .none)), [].toArray⟩
def o162 (P : Params) : Obj := ⟨(.type "dict"), none, (.dict [⟨PyData.keyHash P (Str.ofString "index"), (.str (Str.ofString "index") 539), (.int (0) 533)⟩, ⟨PyData.keyHash P (Str.ofString "__doc__"), (.str (Str.ofString "__doc__") 541), (.str (Str.ofString "Alias for field number 0") 534)⟩].toArray 2), [].toArray⟩
def o163 (P : Params) : Obj := ⟨(.ref 99), some 162, .plain, [].toArray⟩
def o165 (P : Params) : Obj := ⟨(.type "dict"), none, (.dict [⟨PyData.keyHash P (Str.ofString "index"), (.str (Str.ofString "index") 549), (.int (1) 543)⟩, ⟨PyData.keyHash P (Str.ofString "__doc__"), (.str (Str.ofString "__doc__") 551), (.str (Str.ofString "Alias for field number 1") 544)⟩].toArray 2), [].toArray⟩
def o166 (P : Params) : Obj := ⟨(.ref 99), some 165, .plain, [].toArray⟩
def o170 (P : Params) : Obj := ⟨(.type "dict"), none, (.dict [⟨PyData.keyHash P (Str.ofString "__module__"), (.str (Str.ofString "__module__") 450), (.str (Str.ofString "limits.strategies") 383)⟩, ⟨PyData.keyHash P (Str.ofString "__firstlineno__"), (.str (Str.ofString "__firstlineno__") 454), (.int (26) 453)⟩, ⟨PyData.keyHash P (Str.ofString "__doc__"), (.str (Str.ofString "__doc__") 456), (.str (docS (cBody (nthS prog.main.body 6))) 455)⟩, ⟨PyData.keyHash P (Str.ofString "__slots__"), (.str (Str.ofString "__slots__") 458), (.ref 112)⟩, ⟨PyData.keyHash P (Str.ofString "_fields"), (.str (Str.ofString "_fields") 461), (.ref 113)⟩, ⟨PyData.keyHash P (Str.ofString "_field_defaults"), (.str (Str.ofString "_field_defaults") 462), (.ref 114)⟩, ⟨PyData.keyHash P (Str.ofString "__new__"), (.str (Str.ofString "__new__") 472), (.ref 172)⟩, ⟨PyData.keyHash P (Str.ofString "_make"), (.str (Str.ofString "_make") 494), (.ref 130)⟩, ⟨PyData.keyHash P (Str.ofString "_replace"), (.str (Str.ofString "_replace") 505), (.ref 139)⟩, ⟨PyData.keyHash P (Str.ofString "__replace__"), (.str (Str.ofString "__replace__") 506), (.ref 139)⟩, ⟨PyData.keyHash P (Str.ofString "__repr__"), (.str (Str.ofString "__repr__") 514), (.ref 146)⟩, ⟨PyData.keyHash P (Str.ofString "_asdict"), (.str (Str.ofString "_asdict") 521), (.ref 153)⟩, ⟨PyData.keyHash P (Str.ofString "__getnewargs__"), (.str (Str.ofString "__getnewargs__") 529), (.ref 160)⟩, ⟨PyData.keyHash P (Str.ofString "__match_args__"), (.str (Str.ofString "__match_args__") 532), (.ref 161)⟩, ⟨PyData.keyHash P (Str.ofString "reset_time"), (.str (Str.ofString "reset_time") 542), (.ref 163)⟩, ⟨PyData.keyHash P (Str.ofString "remaining"), (.str (Str.ofString "remaining") 552), (.ref 166)⟩, ⟨PyData.keyHash P (Str.ofString "__static_attributes__"), (.str (Str.ofString "__static_attributes__") 553), (.ref 168)⟩].toArray 2), [].toArray⟩
def o171 (P : Params) : Obj := ⟨(.type "type"), none, (.cls { name := (Str.ofString "WindowStats"), bases := [(.type "tuple")], mro := [(.ref 171), (.type "tuple"), (.type "object")], ns := 170, qualname := (Str.ofString "WindowStats"), hasDict := false, slotNames := [], subclasses := [], abstract := false, collection := none, hasDel := false }), [(some (.ref 104)), none, (some (.str (Str.ofString "WindowStats") 443)), (some (.str (Str.ofString "WindowStats") 451)), (some .none), (some (.bool false))].toArray⟩
def o172 (P : Params) : Obj := ⟨(.type "staticmethod"), none, (.fields [(.ref 121)].toArray), [].toArray⟩
def o187 (P : Params) : Obj := ⟨(.type "code"), none, (.fields [(.str (Str.ofString "__init__") 570), (.str (Str.ofString "RateLimiter.__init__") 571), (.str (Str.ofString "/claim/cut.py") 572), (.int (70) 0), (.int (2) 0), (.int (0) 0), (.int (0) 0), (.int (3) 0), (.ref 182), (.bool true), (.int (370) 0), (.ref 183), .none, (.ref 184), (.ref 185), (.ref 186), (.int (575) 0), (.int (70) 0), (.str (Str.ofString "/claim/cut.py") 576)].toArray), [].toArray⟩
def o188 (P : Params) : Obj := ⟨(.type "function"), none, (.func (fnX (Str.ofString "__init__") (Str.ofString "RateLimiter.__init__") (fParams (nthS (cBody (nthS prog.main.body 7)) 0)) (fBody (nthS (cBody (nthS prog.main.body 7)) 0)) (fScope (nthS (cBody (nthS prog.main.body 7)) 0)) [] .none .none .none (.str (Str.ofString "limits.strategies") 383) none (.ref 187) .none)), [].toArray⟩
def o199 (P : Params) : Obj := ⟨(.type "dict"), none, (.dict [⟨PyData.keyHash P (Str.ofString "__module__"), (.str (Str.ofString "__module__") 565), (.str (Str.ofString "limits.strategies") 383)⟩, ⟨PyData.keyHash P (Str.ofString "__firstlineno__"), (.str (Str.ofString "__firstlineno__") 569), (.int (68) 568)⟩, ⟨PyData.keyHash P (Str.ofString "__init__"), (.str (Str.ofString "__init__") 577), (.ref 188)⟩, ⟨PyData.keyHash P (Str.ofString "clear"), (.str (Str.ofString "clear") 586), (.ref 197)⟩, ⟨PyData.keyHash P (Str.ofString "__static_attributes__"), (.str (Str.ofString "__static_attributes__") 588), (.ref 198)⟩, ⟨PyData.keyHash P (Str.ofString "__dict__"), (.str (Str.ofString "__dict__") 590), (.ref 201)⟩, ⟨PyData.keyHash P (Str.ofString "__weakref__"), (.str (Str.ofString "__weakref__") 592), (.ref 202)⟩, ⟨PyData.keyHash P (Str.ofString "__doc__"), (.str (Str.ofString "__doc__") 593), .none⟩].toArray 4), [].toArray⟩
def o200 (P : Params) : Obj := ⟨(.type "type"), none, (.cls { name := (Str.ofString "RateLimiter"), bases := [(.type "object")], mro := [(.ref 200), (.type "object")], ns := 199, qualname := (Str.ofString "RateLimiter"), hasDict := true, slotNames := [], subclasses := [(.ref 241), (.ref 280), (.ref 335)], abstract := false, collection := none, hasDel := false }), [none, none, (some (.str (Str.ofString "RateLimiter") 558)), (some (.str (Str.ofString "RateLimiter") 566)), (some (.builtin "object.__new__")), (some (.bool true))].toArray⟩
def o212 (P : Params) : Obj := ⟨(.type "tuple"), none, (.seq [].toArray 0), [].toArray⟩
def o213 (P : Params) : Obj := ⟨(.type "tuple"), none, (.seq [(.ref 212), (.int (1) 611)].toArray 0), [].toArray⟩
def o219 (P : Params) : Obj := ⟨(.type "code"), none, (.fields [(.str (Str.ofString "hit") 612), (.str (Str.ofString "MovingWindowRateLimiter.hit") 613), (.str (Str.ofString "/claim/cut.py") 614), (.int (80) 0), (.int (4) 0), (.int (0) 0), (.int (0) 0), (.int (3) 0), (.ref 214), (.bool true), (.int (370) 0), (.ref 215), .none, (.ref 216), (.ref 217), (.ref 218), (.int (619) 0), (.int (80) 0), (.str (Str.ofString "/claim/cut.py") 620)].toArray), [].toArray⟩
def o220 (P : Params) : Obj := ⟨(.type "function"), none, (.func (fnX (Str.ofString "hit") (Str.ofString "MovingWindowRateLimiter.hit") (fParams (nthS (cBody (nthS prog.main.body 8)) 1)) (fBody (nthS (cBody (nthS prog.main.body 8)) 1)) (fScope (nthS (cBody (nthS prog.main.body 8)) 1)) [] (.ref 213) .none (.str (docS (fBody (nthS (cBody (nthS prog.main.body 8)) 1))) 621) (.str (Str.ofString "limits.strategies") 383) none (.ref 219) .none)), [].toArray⟩
def o221 (P : Params) : Obj := ⟨(.type "tuple"), none, (.seq [].toArray 0), [].toArray⟩
def o222 (P : Params) : Obj := ⟨(.type "tuple"), none, (.seq [(.ref 221), (.int (1) 623)].toArray 0), [].toArray⟩
def o228 (P : Params) : Obj := ⟨(.type "code"), none, (.fields [(.str (Str.ofString "test") 624), (.str (Str.ofString "MovingWindowRateLimiter.test") 625), (.str (Str.ofString "/claim/cut.py") 626), (.int (93) 0), (.int (4) 0), (.int (0) 0), (.int (0) 0), (.int (3) 0), (.ref 223), (.bool true), (.int (370) 0), (.ref 224), .none, (.ref 225), (.ref 226), (.ref 227), (.int (631) 0), (.int (93) 0), (.str (Str.ofString "/claim/cut.py") 632)].toArray), [].toArray⟩
def o229 (P : Params) : Obj := ⟨(.type "function"), none, (.func (fnX (Str.ofString "test") (Str.ofString "MovingWindowRateLimiter.test") (fParams (nthS (cBody (nthS prog.main.body 8)) 2)) (fBody (nthS (cBody (nthS prog.main.body 8)) 2)) (fScope (nthS (cBody (nthS prog.main.body 8)) 2)) [] (.ref 222) .none (.str (docS (fBody (nthS (cBody (nthS prog.main.body 8)) 2))) 633) (.str (Str.ofString "limits.strategies") 383) none (.ref 228) .none)), [].toArray⟩
def o230 (P : Params) : Obj := ⟨(.type "tuple"), none, (.seq [].toArray 0), [].toArray⟩
def o231 (P : Params) : Obj := ⟨(.type "tuple"), none, (.seq [(.ref 230)].toArray 0), [].toArray⟩
def o237 (P : Params) : Obj := ⟨(.type "code"), none, (.fields [(.str (Str.ofString "get_window_stats") 635), (.str (Str.ofString "MovingWindowRateLimiter.get_window_stats") 636), (.str (Str.ofString "/claim/cut.py") 637), (.int (106) 0), (.int (3) 0), (.int (0) 0), (.int (0) 0), (.int (3) 0), (.ref 232), (.bool true), (.int (370) 0), (.ref 233), .none, (.ref 234), (.ref 235), (.ref 236), (.int (644) 0), (.int (106) 0), (.str (Str.ofString "/claim/cut.py") 645)].toArray), [].toArray⟩
def o238 (P : Params) : Obj := ⟨(.type "function"), none, (.func (fnX (Str.ofString "get_window_stats") (Str.ofString "MovingWindowRateLimiter.get_window_stats") (fParams (nthS (cBody (nthS prog.main.body 8)) 3)) (fBody (nthS (cBody (nthS prog.main.body 8)) 3)) (fScope (nthS (cBody (nthS prog.main.body 8)) 3)) [] (.ref 231) .none (.str (docS (fBody (nthS (cBody (nthS prog.main.body 8)) 3))) 646) (.str (Str.ofString "limits.strategies") 383) none (.ref 237) .none)), [].toArray⟩
def o240 (P : Params) : Obj := ⟨(.type "dict"), none, (.dict [⟨PyData.keyHash P (Str.ofString "__module__"), (.str (Str.ofString "__module__") 603), (.str (Str.ofString "limits.strategies") 383)⟩, ⟨PyData.keyHash P (Str.ofString "__firstlineno__"), (.str (Str.ofString "__firstlineno__") 607), (.int (75) 606)⟩, ⟨PyData.keyHash P (Str.ofString "__doc__"), (.str (Str.ofString "__doc__") 609), (.str (docS (cBody (nthS prog.main.body 8))) 608)⟩, ⟨PyData.keyHash P (Str.ofString "hit"), (.str (Str.ofString "hit") 622), (.ref 220)⟩, ⟨PyData.keyHash P (Str.ofString "test"), (.str (Str.ofString "test") 634), (.ref 229)⟩, ⟨PyData.keyHash P (Str.ofString "get_window_stats"), (.str (Str.ofString "get_window_stats") 647), (.ref 238)⟩, ⟨PyData.keyHash P (Str.ofString "__static_attributes__"), (.str (Str.ofString "__static_attributes__") 648), (.ref 239)⟩].toArray 1), [].toArray⟩
def o241 (P : Params) : Obj := ⟨(.type "type"), none, (.cls { name := (Str.ofString "MovingWindowRateLimiter"), bases := [(.ref 200)], mro := [(.ref 241), (.ref 200), (.type "object")], ns := 240, qualname := (Str.ofString "MovingWindowRateLimiter"), hasDict := true, slotNames := [], subclasses := [], abstract := false, collection := none, hasDel := false }), [(some (.ref 205)), none, (some (.str (Str.ofString "MovingWindowRateLimiter") 596)), (some (.str (Str.ofString "MovingWindowRateLimiter") 604)), (some (.builtin "object.__new__")), (some (.bool true))].toArray⟩
def o251 (P : Params) : Obj := ⟨(.type "tuple"), none, (.seq [].toArray 0), [].toArray⟩
def o252 (P : Params) : Obj := ⟨(.type "tuple"), none, (.seq [(.ref 251), (.int (1) 666)].toArray 0), [].toArray⟩
def o258 (P : Params) : Obj := ⟨(.type "code"), none, (.fields [(.str (Str.ofString "hit") 667), (.str (Str.ofString "FixedWindowRateLimiter.hit") 668), (.str (Str.ofString "/claim/cut.py") 669), (.int (123) 0), (.int (4) 0), (.int (0) 0), (.int (0) 0), (.int (3) 0), (.ref 253), (.bool true), (.int (370) 0), (.ref 254), .none, (.ref 255), (.ref 256), (.ref 257), (.int (674) 0), (.int (123) 0), (.str (Str.ofString "/claim/cut.py") 675)].toArray), [].toArray⟩
def o259 (P : Params) : Obj := ⟨(.type "function"), none, (.func (fnX (Str.ofString "hit") (Str.ofString "FixedWindowRateLimiter.hit") (fParams (nthS (cBody (nthS prog.main.body 9)) 1)) (fBody (nthS (cBody (nthS prog.main.body 9)) 1)) (fScope (nthS (cBody (nthS prog.main.body 9)) 1)) [] (.ref 252) .none (.str (docS (fBody (nthS (cBody (nthS prog.main.body 9)) 1))) 676) (.str (Str.ofString "limits.strategies") 383) none (.ref 258) .none)), [].toArray⟩
def o260 (P : Params) : Obj := ⟨(.type "tuple"), none, (.seq [].toArray 0), [].toArray⟩
def o261 (P : Params) : Obj := ⟨(.type "tuple"), none, (.seq [(.ref 260), (.int (1) 678)].toArray 0), [].toArray⟩
def o267 (P : Params) : Obj := ⟨(.type "code"), none, (.fields [(.str (Str.ofString "test") 679), (.str (Str.ofString "FixedWindowRateLimiter.test") 680), (.str (Str.ofString "/claim/cut.py") 681), (.int (136) 0), (.int (4) 0), (.int (0) 0), (.int (0) 0), (.int (3) 0), (.ref 262), (.bool true), (.int (370) 0), (.ref 263), .none, (.ref 264), (.ref 265), (.ref 266), (.int (686) 0), (.int (136) 0), (.str (Str.ofString "/claim/cut.py") 687)].toArray), [].toArray⟩
def o268 (P : Params) : Obj := ⟨(.type "function"), none, (.func (fnX (Str.ofString "test") (Str.ofString "FixedWindowRateLimiter.test") (fParams (nthS (cBody (nthS prog.main.body 9)) 2)) (fBody (nthS (cBody (nthS prog.main.body 9)) 2)) (fScope (nthS (cBody (nthS prog.main.body 9)) 2)) [] (.ref 261) .none (.str (docS (fBody (nthS (cBody (nthS prog.main.body 9)) 2))) 688) (.str (Str.ofString "limits.strategies") 383) none (.ref 267) .none)), [].toArray⟩
def o269 (P : Params) : Obj := ⟨(.type "tuple"), none, (.seq [].toArray 0), [].toArray⟩
def o270 (P : Params) : Obj := ⟨(.type "tuple"), none, (.seq [(.ref 269)].toArray 0), [].toArray⟩
def o276 (P : Params) : Obj := ⟨(.type "code"), none, (.fields [(.str (Str.ofString "get_window_stats") 690), (.str (Str.ofString "FixedWindowRateLimiter.get_window_stats") 691), (.str (Str.ofString "/claim/cut.py") 692), (.int (149) 0), (.int (3) 0), (.int (0) 0), (.int (0) 0), (.int (3) 0), (.ref 271), (.bool true), (.int (370) 0), (.ref 272), .none, (.ref 273), (.ref 274), (.ref 275), (.int (698) 0), (.int (149) 0), (.str (Str.ofString "/claim/cut.py") 699)].toArray), [].toArray⟩
def o277 (P : Params) : Obj := ⟨(.type "function"), none, (.func (fnX (Str.ofString "get_window_stats") (Str.ofString "FixedWindowRateLimiter.get_window_stats") (fParams (nthS (cBody (nthS prog.main.body 9)) 3)) (fBody (nthS (cBody (nthS prog.main.body 9)) 3)) (fScope (nthS (cBody (nthS prog.main.body 9)) 3)) [] (.ref 270) .none (.str (docS (fBody (nthS (cBody (nthS prog.main.body 9)) 3))) 700) (.str (Str.ofString "limits.strategies") 383) none (.ref 276) .none)), [].toArray⟩
def o279 (P : Params) : Obj := ⟨(.type "dict"), none, (.dict [⟨PyData.keyHash P (Str.ofString "__module__"), (.str (Str.ofString "__module__") 658), (.str (Str.ofString "limits.strategies") 383)⟩, ⟨PyData.keyHash P (Str.ofString "__firstlineno__"), (.str (Str.ofString "__firstlineno__") 662), (.int (118) 661)⟩, ⟨PyData.keyHash P (Str.ofString "__doc__"), (.str (Str.ofString "__doc__") 664), (.str (docS (cBody (nthS prog.main.body 9))) 663)⟩, ⟨PyData.keyHash P (Str.ofString "hit"), (.str (Str.ofString "hit") 677), (.ref 259)⟩, ⟨PyData.keyHash P (Str.ofString "test"), (.str (Str.ofString "test") 689), (.ref 268)⟩, ⟨PyData.keyHash P (Str.ofString "get_window_stats"), (.str (Str.ofString "get_window_stats") 701), (.ref 277)⟩, ⟨PyData.keyHash P (Str.ofString "__static_attributes__"), (.str (Str.ofString "__static_attributes__") 702), (.ref 278)⟩].toArray 1), [].toArray⟩
def o280 (P : Params) : Obj := ⟨(.type "type"), none, (.cls { name := (Str.ofString "FixedWindowRateLimiter"), bases := [(.ref 200)], mro := [(.ref 280), (.ref 200), (.type "object")], ns := 279, qualname := (Str.ofString "FixedWindowRateLimiter"), hasDict := true, slotNames := [], subclasses := [], abstract := false, collection := none, hasDel := false }), [(some (.ref 244)), none, (some (.str (Str.ofString "FixedWindowRateLimiter") 651)), (some (.str (Str.ofString "FixedWindowRateLimiter") 659)), (some (.builtin "object.__new__")), (some (.bool true))].toArray⟩
def o295 (P : Params) : Obj := ⟨(.type "code"), none, (.fields [(.str (Str.ofString "_weighted_count") 720), (.str (Str.ofString "SlidingWindowCounterRateLimiter._weighted_count") 721), (.str (Str.ofString "/claim/cut.py") 722), (.int (166) 0), (.int (5) 0), (.int (0) 0), (.int (0) 0), (.int (3) 0), (.ref 290), (.bool true), (.int (370) 0), (.ref 291), .none, (.ref 292), (.ref 293), (.ref 294), (.int (728) 0), (.int (166) 0), (.str (Str.ofString "/claim/cut.py") 729)].toArray), [].toArray⟩
def o296 (P : Params) : Obj := ⟨(.type "function"), none, (.func (fnX (Str.ofString "_weighted_count") (Str.ofString "SlidingWindowCounterRateLimiter._weighted_count") (fParams (nthS (cBody (nthS prog.main.body 10)) 1)) (fBody (nthS (cBody (nthS prog.main.body 10)) 1)) (fScope (nthS (cBody (nthS prog.main.body 10)) 1)) [] .none .none (.str (docS (fBody (nthS (cBody (nthS prog.main.body 10)) 1))) 730) (.str (Str.ofString "limits.strategies") 383) none (.ref 295) .none)), [].toArray⟩
def o297 (P : Params) : Obj := ⟨(.type "tuple"), none, (.seq [].toArray 0), [].toArray⟩
def o298 (P : Params) : Obj := ⟨(.type "tuple"), none, (.seq [(.ref 297), (.int (1) 732)].toArray 0), [].toArray⟩
def o304 (P : Params) : Obj := ⟨(.type "code"), none, (.fields [(.str (Str.ofString "hit") 733), (.str (Str.ofString "SlidingWindowCounterRateLimiter.hit") 734), (.str (Str.ofString "/claim/cut.py") 735), (.int (172) 0), (.int (4) 0), (.int (0) 0), (.int (0) 0), (.int (3) 0), (.ref 299), (.bool true), (.int (370) 0), (.ref 300), .none, (.ref 301), (.ref 302), (.ref 303), (.int (740) 0), (.int (172) 0), (.str (Str.ofString "/claim/cut.py") 741)].toArray), [].toArray⟩
def o305 (P : Params) : Obj := ⟨(.type "function"), none, (.func (fnX (Str.ofString "hit") (Str.ofString "SlidingWindowCounterRateLimiter.hit") (fParams (nthS (cBody (nthS prog.main.body 10)) 2)) (fBody (nthS (cBody (nthS prog.main.body 10)) 2)) (fScope (nthS (cBody (nthS prog.main.body 10)) 2)) [] (.ref 298) .none (.str (docS (fBody (nthS (cBody (nthS prog.main.body 10)) 2))) 742) (.str (Str.ofString "limits.strategies") 383) none (.ref 304) .none)), [].toArray⟩
def o306 (P : Params) : Obj := ⟨(.type "tuple"), none, (.seq [].toArray 0), [].toArray⟩
def o307 (P : Params) : Obj := ⟨(.type "tuple"), none, (.seq [(.ref 306), (.int (1) 744)].toArray 0), [].toArray⟩
def o313 (P : Params) : Obj := ⟨(.type "code"), none, (.fields [(.str (Str.ofString "test") 745), (.str (Str.ofString "SlidingWindowCounterRateLimiter.test") 746), (.str (Str.ofString "/claim/cut.py") 747), (.int (185) 0), (.int (4) 0), (.int (0) 0), (.int (0) 0), (.int (3) 0), (.ref 308), (.bool true), (.int (370) 0), (.ref 309), .none, (.ref 310), (.ref 311), (.ref 312), (.int (756) 0), (.int (185) 0), (.str (Str.ofString "/claim/cut.py") 757)].toArray), [].toArray⟩
def o314 (P : Params) : Obj := ⟨(.type "function"), none, (.func (fnX (Str.ofString "test") (Str.ofString "SlidingWindowCounterRateLimiter.test") (fParams (nthS (cBody (nthS prog.main.body 10)) 3)) (fBody (nthS (cBody (nthS prog.main.body 10)) 3)) (fScope (nthS (cBody (nthS prog.main.body 10)) 3)) [] (.ref 307) .none (.str (docS (fBody (nthS (cBody (nthS prog.main.body 10)) 3))) 758) (.str (Str.ofString "limits.strategies") 383) none (.ref 313) .none)), [].toArray⟩
def o315 (P : Params) : Obj := ⟨(.type "tuple"), none, (.seq [].toArray 0), [].toArray⟩
def o316 (P : Params) : Obj := ⟨(.type "tuple"), none, (.seq [(.ref 315)].toArray 0), [].toArray⟩
def o322 (P : Params) : Obj := ⟨(.type "code"), none, (.fields [(.str (Str.ofString "get_window_stats") 760), (.str (Str.ofString "SlidingWindowCounterRateLimiter.get_window_stats") 761), (.str (Str.ofString "/claim/cut.py") 762), (.int (199) 0), (.int (3) 0), (.int (0) 0), (.int (0) 0), (.int (3) 0), (.ref 317), (.bool true), (.int (370) 0), (.ref 318), .none, (.ref 319), (.ref 320), (.ref 321), (.int (774) 0), (.int (199) 0), (.str (Str.ofString "/claim/cut.py") 775)].toArray), [].toArray⟩
def o323 (P : Params) : Obj := ⟨(.type "function"), none, (.func (fnX (Str.ofString "get_window_stats") (Str.ofString "SlidingWindowCounterRateLimiter.get_window_stats") (fParams (nthS (cBody (nthS prog.main.body 10)) 4)) (fBody (nthS (cBody (nthS prog.main.body 10)) 4)) (fScope (nthS (cBody (nthS prog.main.body 10)) 4)) [] (.ref 316) .none (.str (docS (fBody (nthS (cBody (nthS prog.main.body 10)) 4))) 776) (.str (Str.ofString "limits.strategies") 383) none (.ref 322) .none)), [].toArray⟩
def o334 (P : Params) : Obj := ⟨(.type "dict"), none, (.dict [⟨PyData.keyHash P (Str.ofString "__module__"), (.str (Str.ofString "__module__") 712), (.str (Str.ofString "limits.strategies") 383)⟩, ⟨PyData.keyHash P (Str.ofString "__firstlineno__"), (.str (Str.ofString "__firstlineno__") 716), (.int (161) 715)⟩, ⟨PyData.keyHash P (Str.ofString "__doc__"), (.str (Str.ofString "__doc__") 718), (.str (docS (cBody (nthS prog.main.body 10))) 717)⟩, ⟨PyData.keyHash P (Str.ofString "_weighted_count"), (.str (Str.ofString "_weighted_count") 731), (.ref 296)⟩, ⟨PyData.keyHash P (Str.ofString "hit"), (.str (Str.ofString "hit") 743), (.ref 305)⟩, ⟨PyData.keyHash P (Str.ofString "test"), (.str (Str.ofString "test") 759), (.ref 314)⟩, ⟨PyData.keyHash P (Str.ofString "get_window_stats"), (.str (Str.ofString "get_window_stats") 777), (.ref 323)⟩, ⟨PyData.keyHash P (Str.ofString "clear"), (.str (Str.ofString "clear") 786), (.ref 332)⟩, ⟨PyData.keyHash P (Str.ofString "__static_attributes__"), (.str (Str.ofString "__static_attributes__") 787), (.ref 333)⟩].toArray 1), [].toArray⟩
def o335 (P : Params) : Obj := ⟨(.type "type"), none, (.cls { name := (Str.ofString "SlidingWindowCounterRateLimiter"), bases := [(.ref 200)], mro := [(.ref 335), (.ref 200), (.type "object")], ns := 334, qualname := (Str.ofString "SlidingWindowCounterRateLimiter"), hasDict := true, slotNames := [], subclasses := [], abstract := false, collection := none, hasDel := false }), [(some (.ref 283)), none, (some (.str (Str.ofString "SlidingWindowCounterRateLimiter") 705)), (some (.str (Str.ofString "SlidingWindowCounterRateLimiter") 713)), (some (.builtin "object.__new__")), (some (.bool true))].toArray⟩
def o352 (P : Params) : Obj := ⟨(.type "tuple"), none, (.seq [.none].toArray 0), [].toArray⟩
def o358 (P : Params) : Obj := ⟨(.type "code"), none, (.fields [(.str (Str.ofString "__get__") 813), (.str (Str.ofString "_tuplegetter.__get__") 814), (.str (Str.ofString "/claim/cut.py") 815), (.int (230) 0), (.int (3) 0), (.int (0) 0), (.int (0) 0), (.int (3) 0), (.ref 353), (.bool true), (.int (370) 0), (.ref 354), .none, (.ref 355), (.ref 356), (.ref 357), (.int (819) 0), (.int (230) 0), (.str (Str.ofString "/claim/cut.py") 820)].toArray), [].toArray⟩
def o359 (P : Params) : Obj := ⟨(.type "function"), none, (.func (fnX (Str.ofString "__get__") (Str.ofString "_tuplegetter.__get__") (fParams (nthS (cBody (nthS prog.main.body 12)) 1)) (fBody (nthS (cBody (nthS prog.main.body 12)) 1)) (fScope (nthS (cBody (nthS prog.main.body 12)) 1)) [] (.ref 352) .none .none (.str (Str.ofString "limits.limits") 790) none (.ref 358) .none)), [].toArray⟩
def o375 (P : Params) : Obj := ⟨(.type "dict"), none, (.dict [⟨PyData.keyHash P (Str.ofString "__module__"), (.str (Str.ofString "__module__") 799), (.str (Str.ofString "limits.limits") 790)⟩, ⟨PyData.keyHash P (Str.ofString "__firstlineno__"), (.str (Str.ofString "__firstlineno__") 803), (.int (224) 802)⟩, ⟨PyData.keyHash P (Str.ofString "__init__"), (.str (Str.ofString "__init__") 812), (.ref 351)⟩, ⟨PyData.keyHash P (Str.ofString "__get__"), (.str (Str.ofString "__get__") 821), (.ref 359)⟩, ⟨PyData.keyHash P (Str.ofString "__set__"), (.str (Str.ofString "__set__") 830), (.ref 366)⟩, ⟨PyData.keyHash P (Str.ofString "__delete__"), (.str (Str.ofString "__delete__") 838), (.ref 373)⟩, ⟨PyData.keyHash P (Str.ofString "__static_attributes__"), (.str (Str.ofString "__static_attributes__") 841), (.ref 374)⟩, ⟨PyData.keyHash P (Str.ofString "__dict__"), (.str (Str.ofString "__dict__") 843), (.ref 377)⟩, ⟨PyData.keyHash P (Str.ofString "__weakref__"), (.str (Str.ofString "__weakref__") 845), (.ref 378)⟩, ⟨PyData.keyHash P (Str.ofString "__doc__"), (.str (Str.ofString "__doc__") 846), .none⟩].toArray 4), [].toArray⟩
def o376 (P : Params) : Obj := ⟨(.type "type"), none, (.cls { name := (Str.ofString "_tuplegetter"), bases := [(.type "object")], mro := [(.ref 376), (.type "object")], ns := 375, qualname := (Str.ofString "_tuplegetter"), hasDict := true, slotNames := [], subclasses := [], abstract := false, collection := none, hasDel := false }), [none, none, (some (.str (Str.ofString "_tuplegetter") 792)), (some (.str (Str.ofString "_tuplegetter") 800)), (some (.builtin "object.__new__")), (some (.bool true))].toArray⟩
def o386 (P : Params) : Obj := ⟨(.type "code"), none, (.fields [(.str (Str.ofString "safe_string") 850), (.str (Str.ofString "safe_string") 851), (.str (Str.ofString "/claim/cut.py") 852), (.int (243) 0), (.int (1) 0), (.int (0) 0), (.int (0) 0), (.int (3) 0), (.ref 381), (.bool true), (.int (370) 0), (.ref 382), .none, (.ref 383), (.ref 384), (.ref 385), (.int (854) 0), (.int (243) 0), (.str (Str.ofString "/claim/cut.py") 855)].toArray), [].toArray⟩
def o387 (P : Params) : Obj := ⟨(.type "function"), none, (.func (fnX (Str.ofString "safe_string") (Str.ofString "safe_string") (fParams (nthS prog.main.body 14)) (fBody (nthS prog.main.body 14)) (fScope (nthS prog.main.body 14)) [] .none .none (.str (docS (fBody (nthS prog.main.body 14))) 856) (.str (Str.ofString "limits.limits") 790) none (.ref 386) .none)), [].toArray⟩
def o446 (P : Params) : Obj := ⟨(.type "dict"), none, (.dict [⟨PyData.keyHash P (Str.ofString "index"), (.str (Str.ofString "index") 954), (.int (0) 948)⟩, ⟨PyData.keyHash P (Str.ofString "__doc__"), (.str (Str.ofString "__doc__") 956), (.str (Str.ofString "Alias for field number 0") 949)⟩].toArray 2), [].toArray⟩
def o447 (P : Params) : Obj := ⟨(.ref 376), some 446, .plain, [].toArray⟩
def o449 (P : Params) : Obj := ⟨(.type "dict"), none, (.dict [⟨PyData.keyHash P (Str.ofString "index"), (.str (Str.ofString "index") 964), (.int (1) 958)⟩, ⟨PyData.keyHash P (Str.ofString "__doc__"), (.str (Str.ofString "__doc__") 966), (.str (Str.ofString "Alias for field number 1") 959)⟩].toArray 2), [].toArray⟩
def o450 (P : Params) : Obj := ⟨(.ref 376), some 449, .plain, [].toArray⟩
def o454 (P : Params) : Obj := ⟨(.type "dict"), none, (.dict [⟨PyData.keyHash P (Str.ofString "__module__"), (.str (Str.ofString "__module__") 865), (.str (Str.ofString "limits.limits") 790)⟩, ⟨PyData.keyHash P (Str.ofString "__firstlineno__"), (.str (Str.ofString "__firstlineno__") 869), (.int (250) 868)⟩, ⟨PyData.keyHash P (Str.ofString "__doc__"), (.str (Str.ofString "__doc__") 871), (.str (docS (cBody (nthS prog.main.body 15))) 870)⟩, ⟨PyData.keyHash P (Str.ofString "__slots__"), (.str (Str.ofString "__slots__") 873), (.ref 396)⟩, ⟨PyData.keyHash P (Str.ofString "_fields"), (.str (Str.ofString "_fields") 876), (.ref 397)⟩, ⟨PyData.keyHash P (Str.ofString "_field_defaults"), (.str (Str.ofString "_field_defaults") 877), (.ref 398)⟩, ⟨PyData.keyHash P (Str.ofString "__new__"), (.str (Str.ofString "__new__") 887), (.ref 456)⟩, ⟨PyData.keyHash P (Str.ofString "_make"), (.str (Str.ofString "_make") 909), (.ref 414)⟩, ⟨PyData.keyHash P (Str.ofString "_replace"), (.str (Str.ofString "_replace") 920), (.ref 423)⟩, ⟨PyData.keyHash P (Str.ofString "__replace__"), (.str (Str.ofString "__replace__") 921), (.ref 423)⟩, ⟨PyData.keyHash P (Str.ofString "__repr__"), (.str (Str.ofString "__repr__") 929), (.ref 430)⟩, ⟨PyData.keyHash P (Str.ofString "_asdict"), (.str (Str.ofString "_asdict") 936), (.ref 437)⟩, ⟨PyData.keyHash P (Str.ofString "__getnewargs__"), (.str (Str.ofString "__getnewargs__") 944), (.ref 444)⟩, ⟨PyData.keyHash P (Str.ofString "__match_args__"), (.str (Str.ofString "__match_args__") 947), (.ref 445)⟩, ⟨PyData.keyHash P (Str.ofString "seconds"), (.str (Str.ofString "seconds") 957), (.ref 447)⟩, ⟨PyData.keyHash P (Str.ofString "name"), (.str (Str.ofString "name") 967), (.ref 450)⟩, ⟨PyData.keyHash P (Str.ofString "__static_attributes__"), (.str (Str.ofString "__static_attributes__") 968), (.ref 452)⟩].toArray 2), [].toArray⟩
def o455 (P : Params) : Obj := ⟨(.type "type"), none, (.cls { name := (Str.ofString "Granularity"), bases := [(.type "tuple")], mro := [(.ref 455), (.type "tuple"), (.type "object")], ns := 454, qualname := (Str.ofString "Granularity"), hasDict := false, slotNames := [], subclasses := [], abstract := false, collection := none, hasDel := false }), [(some (.ref 388)), none, (some (.str (Str.ofString "Granularity") 858)), (some (.str (Str.ofString "Granularity") 866)), (some .none), (some (.bool false))].toArray⟩
def o487 (P : Params) : Obj := ⟨(.type "dict"), none, (.dict [].toArray 0), [].toArray⟩
def o488 (P : Params) : Obj := ⟨(.ref 455), some 487, (.seq [(.int (1) 1033), (.str (Str.ofString "second") 1034)].toArray 0), [].toArray⟩
def o498 (P : Params) : Obj := ⟨(.type "tuple"), none, (.seq [(.int (1) 1074), (.str (Str.ofString "LIMITER") 1075)].toArray 0), [].toArray⟩
def o504 (P : Params) : Obj := ⟨(.type "code"), none, (.fields [(.str (Str.ofString "__init__") 1076), (.str (Str.ofString "RateLimitItem.__init__") 1077), (.str (Str.ofString "/claim/cut.py") 1078), (.int (306) 0), (.int (4) 0), (.int (0) 0), (.int (0) 0), (.int (3) 0), (.ref 499), (.bool true), (.int (370) 0), (.ref 500), .none, (.ref 501), (.ref 502), (.ref 503), (.int (1083) 0), (.int (306) 0), (.str (Str.ofString "/claim/cut.py") 1084)].toArray), [].toArray⟩
def o505 (P : Params) : Obj := ⟨(.type "function"), none, (.func (fnX (Str.ofString "__init__") (Str.ofString "RateLimitItem.__init__") (fParams (nthS (cBody (nthS prog.main.body 17)) 3)) (fBody (nthS (cBody (nthS prog.main.body 17)) 3)) (fScope (nthS (cBody (nthS prog.main.body 17)) 3)) [] (.ref 498) .none .none (.str (Str.ofString "limits.limits") 790) none (.ref 504) .none)), [].toArray⟩
def o521 (P : Params) : Obj := ⟨(.type "code"), none, (.fields [(.str (Str.ofString "get_expiry") 1106), (.str (Str.ofString "RateLimitItem.get_expiry") 1107), (.str (Str.ofString "/claim/cut.py") 1108), (.int (315) 0), (.int (1) 0), (.int (0) 0), (.int (0) 0), (.int (3) 0), (.ref 516), (.bool true), (.int (370) 0), (.ref 517), .none, (.ref 518), (.ref 519), (.ref 520), (.int (1110) 0), (.int (315) 0), (.str (Str.ofString "/claim/cut.py") 1111)].toArray), [].toArray⟩
def o522 (P : Params) : Obj := ⟨(.type "function"), none, (.func (fnX (Str.ofString "get_expiry") (Str.ofString "RateLimitItem.get_expiry") (fParams (nthS (cBody (nthS prog.main.body 17)) 5)) (fBody (nthS (cBody (nthS prog.main.body 17)) 5)) (fScope (nthS (cBody (nthS prog.main.body 17)) 5)) [] .none .none (.str (docS (fBody (nthS (cBody (nthS prog.main.body 17)) 5))) 1112) (.str (Str.ofString "limits.limits") 790) none (.ref 521) .none)), [].toArray⟩
def o526 (P : Params) : Obj := ⟨(.type "code"), none, (.fields [(.str (Str.ofString "key_for") 1114), (.str (Str.ofString "RateLimitItem.key_for") 1115), (.str (Str.ofString "/claim/cut.py") 1116), (.int (321) 0), (.int (1) 0), (.int (0) 0), (.int (0) 0), (.int (7) 0), (.ref 523), (.bool true), (.int (370) 0), (.ref 524), .none, .none, .none, (.ref 525), (.int (1117) 0), (.int (321) 0), (.str (Str.ofString "/claim/cut.py") 1118)].toArray), [].toArray⟩
def o527 (P : Params) : Obj := ⟨(.type "function"), none, (.func (fnX (Str.ofString "key_for") (Str.ofString "RateLimitItem.key_for") (fParams (nthS (cBody (nthS prog.main.body 17)) 6)) (fBody (nthS (cBody (nthS prog.main.body 17)) 6)) (fScope (nthS (cBody (nthS prog.main.body 17)) 6)) [] .none .none (.str (docS (fBody (nthS (cBody (nthS prog.main.body 17)) 6))) 1119) (.str (Str.ofString "limits.limits") 790) none (.ref 526) .none)), [].toArray⟩
def o551 (P : Params) : Obj := ⟨(.type "dict"), none, (.dict [⟨PyData.keyHash P (Str.ofString "__module__"), (.str (Str.ofString "__module__") 1061), (.str (Str.ofString "limits.limits") 790)⟩, ⟨PyData.keyHash P (Str.ofString "__firstlineno__"), (.str (Str.ofString "__firstlineno__") 1065), (.int (293) 1064)⟩, ⟨PyData.keyHash P (Str.ofString "__doc__"), (.str (Str.ofString "__doc__") 1067), (.str (docS (cBody (nthS prog.main.body 17))) 1066)⟩, ⟨PyData.keyHash P (Str.ofString "__slots__"), (.str (Str.ofString "__slots__") 1072), (.ref 497)⟩, ⟨PyData.keyHash P (Str.ofString "__init__"), (.str (Str.ofString "__init__") 1085), (.ref 505)⟩, ⟨PyData.keyHash P (Str.ofString "check_granularity_string"), (.str (Str.ofString "check_granularity_string") 1105), (.ref 514)⟩, ⟨PyData.keyHash P (Str.ofString "get_expiry"), (.str (Str.ofString "get_expiry") 1113), (.ref 522)⟩, ⟨PyData.keyHash P (Str.ofString "key_for"), (.str (Str.ofString "key_for") 1120), (.ref 527)⟩, ⟨PyData.keyHash P (Str.ofString "__eq__"), (.str (Str.ofString "__eq__") 1128), (.ref 534)⟩, ⟨PyData.keyHash P (Str.ofString "__repr__"), (.str (Str.ofString "__repr__") 1135), (.ref 541)⟩, ⟨PyData.keyHash P (Str.ofString "__lt__"), (.str (Str.ofString "__lt__") 1143), (.ref 548)⟩, ⟨PyData.keyHash P (Str.ofString "__static_attributes__"), (.str (Str.ofString "__static_attributes__") 1147), (.ref 549)⟩, ⟨PyData.keyHash P (Str.ofString "amount"), (.str (Str.ofString "amount") 1149), (.ref 553)⟩, ⟨PyData.keyHash P (Str.ofString "multiples"), (.str (Str.ofString "multiples") 1151), (.ref 554)⟩, ⟨PyData.keyHash P (Str.ofString "namespace"), (.str (Str.ofString "namespace") 1153), (.ref 555)⟩, ⟨PyData.keyHash P (Str.ofString "__hash__"), (.str (Str.ofString "__hash__") 1154), .none⟩].toArray 5), [].toArray⟩
def o552 (P : Params) : Obj := ⟨(.type "type"), none, (.cls { name := (Str.ofString "RateLimitItem"), bases := [(.type "object")], mro := [(.ref 552), (.type "object")], ns := 551, qualname := (Str.ofString "RateLimitItem"), hasDict := false, slotNames := [(Str.ofString "amount"), (Str.ofString "multiples"), (Str.ofString "namespace")], subclasses := [(.ref 567)], abstract := false, collection := none, hasDel := false }), [none, none, (some (.str (Str.ofString "RateLimitItem") 1054)), (some (.str (Str.ofString "RateLimitItem") 1062)), (some (.builtin "object.__new__")), (some (.bool false))].toArray⟩
def o553 (P : Params) : Obj := ⟨(.type "member_descriptor"), none, (.fields [(.str (Str.ofString "amount") 1148), (.ref 552), (.builtin "proto.slot"), (.builtin "proto.slot#set"), (.int (2) 0)].toArray), [].toArray⟩
def o554 (P : Params) : Obj := ⟨(.type "member_descriptor"), none, (.fields [(.str (Str.ofString "multiples") 1150), (.ref 552), (.builtin "proto.slot"), (.builtin "proto.slot#set"), (.int (1) 0)].toArray), [].toArray⟩
def o555 (P : Params) : Obj := ⟨(.type "member_descriptor"), none, (.fields [(.str (Str.ofString "namespace") 1152), (.ref 552), (.builtin "proto.slot"), (.builtin "proto.slot#set"), (.int (0) 0)].toArray), [].toArray⟩
def o566 (P : Params) : Obj := ⟨(.type "dict"), none, (.dict [⟨PyData.keyHash P (Str.ofString "__module__"), (.str (Str.ofString "__module__") 1164), (.str (Str.ofString "limits.limits") 790)⟩, ⟨PyData.keyHash P (Str.ofString "__firstlineno__"), (.str (Str.ofString "__firstlineno__") 1168), (.int (343) 1167)⟩, ⟨PyData.keyHash P (Str.ofString "__doc__"), (.str (Str.ofString "__doc__") 1170), (.str (docS (cBody (nthS prog.main.body 18))) 1169)⟩, ⟨PyData.keyHash P (Str.ofString "GRANULARITY"), (.str (Str.ofString "GRANULARITY") 1174), (.ref 488)⟩, ⟨PyData.keyHash P (Str.ofString "__static_attributes__"), (.str (Str.ofString "__static_attributes__") 1176), (.ref 565)⟩, ⟨PyData.keyHash P (Str.ofString "__dict__"), (.str (Str.ofString "__dict__") 1178), (.ref 568)⟩, ⟨PyData.keyHash P (Str.ofString "__weakref__"), (.str (Str.ofString "__weakref__") 1180), (.ref 569)⟩].toArray 3), [].toArray⟩
def o567 (P : Params) : Obj := ⟨(.type "type"), none, (.cls { name := (Str.ofString "RateLimitItemPerSecond"), bases := [(.ref 552)], mro := [(.ref 567), (.ref 552), (.type "object")], ns := 566, qualname := (Str.ofString "RateLimitItemPerSecond"), hasDict := true, slotNames := [(Str.ofString "amount"), (Str.ofString "multiples"), (Str.ofString "namespace")], subclasses := [], abstract := false, collection := none, hasDel := false }), [(some (.ref 558)), none, (some (.str (Str.ofString "RateLimitItemPerSecond") 1157)), (some (.str (Str.ofString "RateLimitItemPerSecond") 1165)), (some (.builtin "object.__new__")), (some (.bool true))].toArray⟩
def o584 (P : Params) : Obj := ⟨(.type "code"), none, (.fields [(.str (Str.ofString "sliding_window_keys") 1200), (.str (Str.ofString "TimestampedSlidingWindow.sliding_window_keys") 1201), (.str (Str.ofString "/claim/cut.py") 1202), (.int (353) 0), (.int (4) 0), (.int (0) 0), (.int (0) 0), (.int (3) 0), (.ref 579), (.bool true), (.int (370) 0), (.ref 580), .none, (.ref 581), (.ref 582), (.ref 583), (.int (1207) 0), (.int (353) 0), (.str (Str.ofString "/claim/cut.py") 1208)].toArray), [].toArray⟩
def o585 (P : Params) : Obj := ⟨(.type "function"), none, (.func (fnX (Str.ofString "sliding_window_keys") (Str.ofString "TimestampedSlidingWindow.sliding_window_keys") (fParams (nthS (cBody (nthS prog.main.body 20)) 1)) (fBody (nthS (cBody (nthS prog.main.body 20)) 1)) (fScope (nthS (cBody (nthS prog.main.body 20)) 1)) [] .none .none (.str (docS (fBody (nthS (cBody (nthS prog.main.body 20)) 1))) 1209) (.str (Str.ofString "limits.storage.base") 1183) (some 588) (.ref 584) .none)), [].toArray⟩
def o587 (P : Params) : Obj := ⟨(.type "classmethod"), some 586, (.fields [(.ref 585), (.bool false)].toArray), [].toArray⟩
def o590 (P : Params) : Obj := ⟨(.type "dict"), none, (.dict [⟨PyData.keyHash P (Str.ofString "__module__"), (.str (Str.ofString "__module__") 1192), (.str (Str.ofString "limits.storage.base") 1183)⟩, ⟨PyData.keyHash P (Str.ofString "__firstlineno__"), (.str (Str.ofString "__firstlineno__") 1196), (.int (350) 1195)⟩, ⟨PyData.keyHash P (Str.ofString "__doc__"), (.str (Str.ofString "__doc__") 1198), (.str (docS (cBody (nthS prog.main.body 20))) 1197)⟩, ⟨PyData.keyHash P (Str.ofString "sliding_window_keys"), (.str (Str.ofString "sliding_window_keys") 1222), (.ref 587)⟩, ⟨PyData.keyHash P (Str.ofString "__static_attributes__"), (.str (Str.ofString "__static_attributes__") 1223), (.ref 589)⟩, ⟨PyData.keyHash P (Str.ofString "__dict__"), (.str (Str.ofString "__dict__") 1225), (.ref 592)⟩, ⟨PyData.keyHash P (Str.ofString "__weakref__"), (.str (Str.ofString "__weakref__") 1227), (.ref 593)⟩].toArray 3), [].toArray⟩
def o591 (P : Params) : Obj := ⟨(.type "type"), none, (.cls { name := (Str.ofString "TimestampedSlidingWindow"), bases := [(.type "object")], mro := [(.ref 591), (.type "object")], ns := 590, qualname := (Str.ofString "TimestampedSlidingWindow"), hasDict := true, slotNames := [], subclasses := [(.ref 972)], abstract := false, collection := none, hasDel := false }), [none, none, (some (.str (Str.ofString "TimestampedSlidingWindow") 1185)), (some (.str (Str.ofString "TimestampedSlidingWindow") 1193)), (some (.builtin "object.__new__")), (some (.bool true))].toArray⟩
def o608 (P : Params) : Obj := ⟨(.type "code"), none, (.fields [(.str (Str.ofString "__init__") 1244), (.str (Str.ofString "Entry.__init__") 1245), (.str (Str.ofString "/claim/cut.py") 1246), (.int (375) 0), (.int (3) 0), (.int (0) 0), (.int (0) 0), (.int (3) 0), (.ref 603), (.bool true), (.int (370) 0), (.ref 604), .none, (.ref 605), (.ref 606), (.ref 607), (.int (1250) 0), (.int (375) 0), (.str (Str.ofString "/claim/cut.py") 1251)].toArray), [].toArray⟩
def o609 (P : Params) : Obj := ⟨(.type "function"), none, (.func (fnX (Str.ofString "__init__") (Str.ofString "Entry.__init__") (fParams (nthS (cBody (nthS prog.main.body 22)) 0)) (fBody (nthS (cBody (nthS prog.main.body 22)) 0)) (fScope (nthS (cBody (nthS prog.main.body 22)) 0)) [] .none .none .none (.str (Str.ofString "limits.storage.memory") 1230) none (.ref 608) .none)), [].toArray⟩
def o611 (P : Params) : Obj := ⟨(.type "dict"), none, (.dict [⟨PyData.keyHash P (Str.ofString "__module__"), (.str (Str.ofString "__module__") 1239), (.str (Str.ofString "limits.storage.memory") 1230)⟩, ⟨PyData.keyHash P (Str.ofString "__firstlineno__"), (.str (Str.ofString "__firstlineno__") 1243), (.int (373) 1242)⟩, ⟨PyData.keyHash P (Str.ofString "__init__"), (.str (Str.ofString "__init__") 1252), (.ref 609)⟩, ⟨PyData.keyHash P (Str.ofString "__static_attributes__"), (.str (Str.ofString "__static_attributes__") 1255), (.ref 610)⟩, ⟨PyData.keyHash P (Str.ofString "__dict__"), (.str (Str.ofString "__dict__") 1257), (.ref 613)⟩, ⟨PyData.keyHash P (Str.ofString "__weakref__"), (.str (Str.ofString "__weakref__") 1259), (.ref 614)⟩, ⟨PyData.keyHash P (Str.ofString "__doc__"), (.str (Str.ofString "__doc__") 1260), .none⟩].toArray 4), [].toArray⟩
def o612 (P : Params) : Obj := ⟨(.type "type"), none, (.cls { name := (Str.ofString "Entry"), bases := [(.type "object")], mro := [(.ref 612), (.type "object")], ns := 611, qualname := (Str.ofString "Entry"), hasDict := true, slotNames := [], subclasses := [], abstract := false, collection := none, hasDel := false }), [none, none, (some (.str (Str.ofString "Entry") 1232)), (some (.str (Str.ofString "Entry") 1240)), (some (.builtin "object.__new__")), (some (.bool true))].toArray⟩
def o634 (P : Params) : Obj := ⟨(.type "cell"), none, (.cell (some (.ref 849))), [].toArray⟩
def o639 (P : Params) : Obj := ⟨(.type "tuple"), none, (.seq [.none].toArray 0), [].toArray⟩
def o646 (P : Params) : Obj := ⟨(.type "code"), none, (.fields [(.str (Str.ofString "__init__") 1291), (.str (Str.ofString "Counter.__init__") 1292), (.str (Str.ofString "/claim/cut.py") 1293), (.int (391) 0), (.int (2) 0), (.int (2) 0), (.int (0) 0), (.int (11) 0), (.ref 641), (.bool true), (.int (370) 0), (.ref 642), .none, (.ref 643), (.ref 644), (.ref 645), (.int (1298) 0), (.int (391) 0), (.str (Str.ofString "/claim/cut.py") 1299)].toArray), [].toArray⟩
def o647 (P : Params) : Obj := ⟨(.type "function"), none, (.func (fnX (Str.ofString "__init__") (Str.ofString "Counter.__init__") (fParams (nthS (cBody (nthS prog.main.body 26)) 0)) (fBody (nthS (cBody (nthS prog.main.body 26)) 0)) (fScope (nthS (cBody (nthS prog.main.body 26)) 0)) [((Str.ofString "__class__"), 634)] (.ref 639) .none .none (.str (Str.ofString "collections") 1263) none (.ref 646) (.ref 640))), [].toArray⟩
def o653 (P : Params) : Obj := ⟨(.type "code"), none, (.fields [(.str (Str.ofString "__missing__") 1301), (.str (Str.ofString "Counter.__missing__") 1302), (.str (Str.ofString "/claim/cut.py") 1303), (.int (395) 0), (.int (2) 0), (.int (0) 0), (.int (0) 0), (.int (3) 0), (.ref 648), (.bool true), (.int (370) 0), (.ref 649), .none, (.ref 650), (.ref 651), (.ref 652), (.int (1306) 0), (.int (395) 0), (.str (Str.ofString "/claim/cut.py") 1307)].toArray), [].toArray⟩
def o654 (P : Params) : Obj := ⟨(.type "function"), none, (.func (fnX (Str.ofString "__missing__") (Str.ofString "Counter.__missing__") (fParams (nthS (cBody (nthS prog.main.body 26)) 1)) (fBody (nthS (cBody (nthS prog.main.body 26)) 1)) (fScope (nthS (cBody (nthS prog.main.body 26)) 1)) [] .none .none .none (.str (Str.ofString "collections") 1263) none (.ref 653) .none)), [].toArray⟩
def o684 (P : Params) : Obj := ⟨(.type "tuple"), none, (.seq [.none].toArray 0), [].toArray⟩
def o691 (P : Params) : Obj := ⟨(.type "code"), none, (.fields [(.str (Str.ofString "update") 1341), (.str (Str.ofString "Counter.update") 1342), (.str (Str.ofString "/claim/cut.py") 1343), (.int (420) 0), (.int (2) 0), (.int (2) 0), (.int (0) 0), (.int (11) 0), (.ref 686), (.bool true), (.int (370) 0), (.ref 687), .none, (.ref 688), (.ref 689), (.ref 690), (.int (1351) 0), (.int (420) 0), (.str (Str.ofString "/claim/cut.py") 1352)].toArray), [].toArray⟩
def o692 (P : Params) : Obj := ⟨(.type "function"), none, (.func (fnX (Str.ofString "update") (Str.ofString "Counter.update") (fParams (nthS (cBody (nthS prog.main.body 26)) 6)) (fBody (nthS (cBody (nthS prog.main.body 26)) 6)) (fScope (nthS (cBody (nthS prog.main.body 26)) 6)) [((Str.ofString "__class__"), 634)] (.ref 684) .none .none (.str (Str.ofString "collections") 1263) none (.ref 691) (.ref 685))), [].toArray⟩
def o848 (P : Params) : Obj := ⟨(.type "dict"), none, (.dict [⟨PyData.keyHash P (Str.ofString "__module__"), (.str (Str.ofString "__module__") 1286), (.str (Str.ofString "collections") 1263)⟩, ⟨PyData.keyHash P (Str.ofString "__firstlineno__"), (.str (Str.ofString "__firstlineno__") 1290), (.int (389) 1289)⟩, ⟨PyData.keyHash P (Str.ofString "__init__"), (.str (Str.ofString "__init__") 1300), (.ref 647)⟩, ⟨PyData.keyHash P (Str.ofString "__missing__"), (.str (Str.ofString "__missing__") 1308), (.ref 654)⟩, ⟨PyData.keyHash P (Str.ofString "total"), (.str (Str.ofString "total") 1315), (.ref 661)⟩, ⟨PyData.keyHash P (Str.ofString "most_common"), (.str (Str.ofString "most_common") 1325), (.ref 669)⟩, ⟨PyData.keyHash P (Str.ofString "elements"), (.str (Str.ofString "elements") 1332), (.ref 676)⟩, ⟨PyData.keyHash P (Str.ofString "fromkeys"), (.str (Str.ofString "fromkeys") 1340), (.ref 683)⟩, ⟨PyData.keyHash P (Str.ofString "update"), (.str (Str.ofString "update") 1353), (.ref 692)⟩, ⟨PyData.keyHash P (Str.ofString "subtract"), (.str (Str.ofString "subtract") 1362), (.ref 700)⟩, ⟨PyData.keyHash P (Str.ofString "copy"), (.str (Str.ofString "copy") 1369), (.ref 707)⟩, ⟨PyData.keyHash P (Str.ofString "__reduce__"), (.str (Str.ofString "__reduce__") 1376), (.ref 714)⟩, ⟨PyData.keyHash P (Str.ofString "__delitem__"), (.str (Str.ofString "__delitem__") 1385), (.ref 722)⟩, ⟨PyData.keyHash P (Str.ofString "__repr__"), (.str (Str.ofString "__repr__") 1394), (.ref 729)⟩, ⟨PyData.keyHash P (Str.ofString "__eq__"), (.str (Str.ofString "__eq__") 1404), (.ref 736)⟩, ⟨PyData.keyHash P (Str.ofString "__ne__"), (.str (Str.ofString "__ne__") 1412), (.ref 743)⟩, ⟨PyData.keyHash P (Str.ofString "__le__"), (.str (Str.ofString "__le__") 1422), (.ref 750)⟩, ⟨PyData.keyHash P (Str.ofString "__lt__"), (.str (Str.ofString "__lt__") 1430), (.ref 757)⟩, ⟨PyData.keyHash P (Str.ofString "__ge__"), (.str (Str.ofString "__ge__") 1440), (.ref 764)⟩, ⟨PyData.keyHash P (Str.ofString "__gt__"), (.str (Str.ofString "__gt__") 1448), (.ref 771)⟩, ⟨PyData.keyHash P (Str.ofString "__add__"), (.str (Str.ofString "__add__") 1460), (.ref 778)⟩, ⟨PyData.keyHash P (Str.ofString "__sub__"), (.str (Str.ofString "__sub__") 1472), (.ref 785)⟩, ⟨PyData.keyHash P (Str.ofString "__or__"), (.str (Str.ofString "__or__") 1485), (.ref 792)⟩, ⟨PyData.keyHash P (Str.ofString "__and__"), (.str (Str.ofString "__and__") 1498), (.ref 799)⟩, ⟨PyData.keyHash P (Str.ofString "__pos__"), (.str (Str.ofString "__pos__") 1508), (.ref 806)⟩, ⟨PyData.keyHash P (Str.ofString "__neg__"), (.str (Str.ofString "__neg__") 1518), (.ref 813)⟩, ⟨PyData.keyHash P (Str.ofString "_keep_positive"), (.str (Str.ofString "_keep_positive") 1524), (.ref 818)⟩, ⟨PyData.keyHash P (Str.ofString "__iadd__"), (.str (Str.ofString "__iadd__") 1534), (.ref 825)⟩, ⟨PyData.keyHash P (Str.ofString "__isub__"), (.str (Str.ofString "__isub__") 1544), (.ref 832)⟩, ⟨PyData.keyHash P (Str.ofString "__ior__"), (.str (Str.ofString "__ior__") 1555), (.ref 839)⟩, ⟨PyData.keyHash P (Str.ofString "__iand__"), (.str (Str.ofString "__iand__") 1566), (.ref 846)⟩, ⟨PyData.keyHash P (Str.ofString "__static_attributes__"), (.str (Str.ofString "__static_attributes__") 1567), (.ref 847)⟩, ⟨PyData.keyHash P (Str.ofString "__dict__"), (.str (Str.ofString "__dict__") 1570), (.ref 850)⟩, ⟨PyData.keyHash P (Str.ofString "__weakref__"), (.str (Str.ofString "__weakref__") 1572), (.ref 851)⟩, ⟨PyData.keyHash P (Str.ofString "__doc__"), (.str (Str.ofString "__doc__") 1573), .none⟩, ⟨PyData.keyHash P (Str.ofString "__hash__"), (.str (Str.ofString "__hash__") 1574), .none⟩].toArray 6), [].toArray⟩
def o849 (P : Params) : Obj := ⟨(.type "type"), none, (.cls { name := (Str.ofString "Counter"), bases := [(.type "dict")], mro := [(.ref 849), (.type "dict"), (.type "object")], ns := 848, qualname := (Str.ofString "Counter"), hasDict := true, slotNames := [], subclasses := [], abstract := false, collection := none, hasDel := false }), [(some (.ref 631)), none, (some (.str (Str.ofString "Counter") 1279)), (some (.str (Str.ofString "Counter") 1287)), (some (.builtin "dict.__new__")), (some (.bool true))].toArray⟩
def o866 (P : Params) : Obj := ⟨(.type "code"), none, (.fields [(.str (Str.ofString "__init__") 1594), (.str (Str.ofString "MemoryStorage.__init__") 1595), (.str (Str.ofString "/claim/cut.py") 1596), (.int (591) 0), (.int (2) 0), (.int (0) 0), (.int (0) 0), (.int (3) 0), (.ref 861), (.bool true), (.int (370) 0), (.ref 862), .none, (.ref 863), (.ref 864), (.ref 865), (.int (1599) 0), (.int (591) 0), (.str (Str.ofString "/claim/cut.py") 1600)].toArray), [].toArray⟩
def o867 (P : Params) : Obj := ⟨(.type "function"), none, (.func (fnX (Str.ofString "__init__") (Str.ofString "MemoryStorage.__init__") (fParams (nthS (cBody (nthS prog.main.body 28)) 1)) (fBody (nthS (cBody (nthS prog.main.body 28)) 1)) (fScope (nthS (cBody (nthS prog.main.body 28)) 1)) [] .none .none .none (.str (Str.ofString "limits.storage.memory") 1577) none (.ref 866) .none)), [].toArray⟩
def o875 (P : Params) : Obj := ⟨(.type "tuple"), none, (.seq [(.int (1) 1609)].toArray 0), [].toArray⟩
def o881 (P : Params) : Obj := ⟨(.type "code"), none, (.fields [(.str (Str.ofString "incr") 1610), (.str (Str.ofString "MemoryStorage.incr") 1611), (.str (Str.ofString "/claim/cut.py") 1612), (.int (600) 0), (.int (4) 0), (.int (0) 0), (.int (0) 0), (.int (3) 0), (.ref 876), (.bool true), (.int (370) 0), (.ref 877), .none, (.ref 878), (.ref 879), (.ref 880), (.int (1617) 0), (.int (600) 0), (.str (Str.ofString "/claim/cut.py") 1618)].toArray), [].toArray⟩
def o882 (P : Params) : Obj := ⟨(.type "function"), none, (.func (fnX (Str.ofString "incr") (Str.ofString "MemoryStorage.incr") (fParams (nthS (cBody (nthS prog.main.body 28)) 3)) (fBody (nthS (cBody (nthS prog.main.body 28)) 3)) (fScope (nthS (cBody (nthS prog.main.body 28)) 3)) [] (.ref 875) .none (.str (docS (fBody (nthS (cBody (nthS prog.main.body 28)) 3))) 1619) (.str (Str.ofString "limits.storage.memory") 1577) none (.ref 881) .none)), [].toArray⟩
def o896 (P : Params) : Obj := ⟨(.type "code"), none, (.fields [(.str (Str.ofString "get") 1632), (.str (Str.ofString "MemoryStorage.get") 1633), (.str (Str.ofString "/claim/cut.py") 1634), (.int (625) 0), (.int (2) 0), (.int (0) 0), (.int (0) 0), (.int (3) 0), (.ref 891), (.bool true), (.int (370) 0), (.ref 892), .none, (.ref 893), (.ref 894), (.ref 895), (.int (1637) 0), (.int (625) 0), (.str (Str.ofString "/claim/cut.py") 1638)].toArray), [].toArray⟩
def o897 (P : Params) : Obj := ⟨(.type "function"), none, (.func (fnX (Str.ofString "get") (Str.ofString "MemoryStorage.get") (fParams (nthS (cBody (nthS prog.main.body 28)) 5)) (fBody (nthS (cBody (nthS prog.main.body 28)) 5)) (fScope (nthS (cBody (nthS prog.main.body 28)) 5)) [] .none .none (.str (docS (fBody (nthS (cBody (nthS prog.main.body 28)) 5))) 1639) (.str (Str.ofString "limits.storage.memory") 1577) none (.ref 896) .none)), [].toArray⟩
def o905 (P : Params) : Obj := ⟨(.type "tuple"), none, (.seq [(.int (1) 1650)].toArray 0), [].toArray⟩
def o911 (P : Params) : Obj := ⟨(.type "code"), none, (.fields [(.str (Str.ofString "acquire_entry") 1651), (.str (Str.ofString "MemoryStorage.acquire_entry") 1652), (.str (Str.ofString "/claim/cut.py") 1653), (.int (642) 0), (.int (5) 0), (.int (0) 0), (.int (0) 0), (.int (3) 0), (.ref 906), (.bool true), (.int (370) 0), (.ref 907), .none, (.ref 908), (.ref 909), (.ref 910), (.int (1661) 0), (.int (642) 0), (.str (Str.ofString "/claim/cut.py") 1662)].toArray), [].toArray⟩
def o912 (P : Params) : Obj := ⟨(.type "function"), none, (.func (fnX (Str.ofString "acquire_entry") (Str.ofString "MemoryStorage.acquire_entry") (fParams (nthS (cBody (nthS prog.main.body 28)) 7)) (fBody (nthS (cBody (nthS prog.main.body 28)) 7)) (fScope (nthS (cBody (nthS prog.main.body 28)) 7)) [] (.ref 905) .none (.str (docS (fBody (nthS (cBody (nthS prog.main.body 28)) 7))) 1663) (.str (Str.ofString "limits.storage.memory") 1577) none (.ref 911) .none)), [].toArray⟩
def o918 (P : Params) : Obj := ⟨(.type "code"), none, (.fields [(.str (Str.ofString "get_expiry") 1665), (.str (Str.ofString "MemoryStorage.get_expiry") 1666), (.str (Str.ofString "/claim/cut.py") 1667), (.int (663) 0), (.int (2) 0), (.int (0) 0), (.int (0) 0), (.int (3) 0), (.ref 913), (.bool true), (.int (370) 0), (.ref 914), .none, (.ref 915), (.ref 916), (.ref 917), (.int (1670) 0), (.int (663) 0), (.str (Str.ofString "/claim/cut.py") 1671)].toArray), [].toArray⟩
def o919 (P : Params) : Obj := ⟨(.type "function"), none, (.func (fnX (Str.ofString "get_expiry") (Str.ofString "MemoryStorage.get_expiry") (fParams (nthS (cBody (nthS prog.main.body 28)) 8)) (fBody (nthS (cBody (nthS prog.main.body 28)) 8)) (fScope (nthS (cBody (nthS prog.main.body 28)) 8)) [] .none .none (.str (docS (fBody (nthS (cBody (nthS prog.main.body 28)) 8))) 1672) (.str (Str.ofString "limits.storage.memory") 1577) none (.ref 918) .none)), [].toArray⟩
def o925 (P : Params) : Obj := ⟨(.type "code"), none, (.fields [(.str (Str.ofString "get_moving_window") 1674), (.str (Str.ofString "MemoryStorage.get_moving_window") 1675), (.str (Str.ofString "/claim/cut.py") 1676), (.int (669) 0), (.int (4) 0), (.int (0) 0), (.int (0) 0), (.int (3) 0), (.ref 920), (.bool true), (.int (370) 0), (.ref 921), .none, (.ref 922), (.ref 923), (.ref 924), (.int (1684) 0), (.int (669) 0), (.str (Str.ofString "/claim/cut.py") 1685)].toArray), [].toArray⟩
def o926 (P : Params) : Obj := ⟨(.type "function"), none, (.func (fnX (Str.ofString "get_moving_window") (Str.ofString "MemoryStorage.get_moving_window") (fParams (nthS (cBody (nthS prog.main.body 28)) 9)) (fBody (nthS (cBody (nthS prog.main.body 28)) 9)) (fScope (nthS (cBody (nthS prog.main.body 28)) 9)) [] .none .none (.str (docS (fBody (nthS (cBody (nthS prog.main.body 28)) 9))) 1686) (.str (Str.ofString "limits.storage.memory") 1577) none (.ref 925) .none)), [].toArray⟩
def o927 (P : Params) : Obj := ⟨(.type "tuple"), none, (.seq [(.int (1) 1688)].toArray 0), [].toArray⟩
def o933 (P : Params) : Obj := ⟨(.type "code"), none, (.fields [(.str (Str.ofString "acquire_sliding_window_entry") 1689), (.str (Str.ofString "MemoryStorage.acquire_sliding_window_entry") 1690), (.str (Str.ofString "/claim/cut.py") 1691), (.int (684) 0), (.int (5) 0), (.int (0) 0), (.int (0) 0), (.int (3) 0), (.ref 928), (.bool true), (.int (370) 0), (.ref 929), .none, (.ref 930), (.ref 931), (.ref 932), (.int (1705) 0), (.int (684) 0), (.str (Str.ofString "/claim/cut.py") 1706)].toArray), [].toArray⟩
def o934 (P : Params) : Obj := ⟨(.type "function"), none, (.func (fnX (Str.ofString "acquire_sliding_window_entry") (Str.ofString "MemoryStorage.acquire_sliding_window_entry") (fParams (nthS (cBody (nthS prog.main.body 28)) 10)) (fBody (nthS (cBody (nthS prog.main.body 28)) 10)) (fScope (nthS (cBody (nthS prog.main.body 28)) 10)) [] (.ref 927) .none .none (.str (Str.ofString "limits.storage.memory") 1577) none (.ref 933) .none)), [].toArray⟩
def o940 (P : Params) : Obj := ⟨(.type "code"), none, (.fields [(.str (Str.ofString "_get_sliding_window_info") 1708), (.str (Str.ofString "MemoryStorage._get_sliding_window_info") 1709), (.str (Str.ofString "/claim/cut.py") 1710), (.int (701) 0), (.int (5) 0), (.int (0) 0), (.int (0) 0), (.int (3) 0), (.ref 935), (.bool true), (.int (370) 0), (.ref 936), .none, (.ref 937), (.ref 938), (.ref 939), (.int (1720) 0), (.int (701) 0), (.str (Str.ofString "/claim/cut.py") 1721)].toArray), [].toArray⟩
def o941 (P : Params) : Obj := ⟨(.type "function"), none, (.func (fnX (Str.ofString "_get_sliding_window_info") (Str.ofString "MemoryStorage._get_sliding_window_info") (fParams (nthS (cBody (nthS prog.main.body 28)) 11)) (fBody (nthS (cBody (nthS prog.main.body 28)) 11)) (fScope (nthS (cBody (nthS prog.main.body 28)) 11)) [] .none .none .none (.str (Str.ofString "limits.storage.memory") 1577) none (.ref 940) .none)), [].toArray⟩
def o947 (P : Params) : Obj := ⟨(.type "code"), none, (.fields [(.str (Str.ofString "get_sliding_window") 1723), (.str (Str.ofString "MemoryStorage.get_sliding_window") 1724), (.str (Str.ofString "/claim/cut.py") 1725), (.int (711) 0), (.int (3) 0), (.int (0) 0), (.int (0) 0), (.int (3) 0), (.ref 942), (.bool true), (.int (370) 0), (.ref 943), .none, (.ref 944), (.ref 945), (.ref 946), (.int (1732) 0), (.int (711) 0), (.str (Str.ofString "/claim/cut.py") 1733)].toArray), [].toArray⟩
def o948 (P : Params) : Obj := ⟨(.type "function"), none, (.func (fnX (Str.ofString "get_sliding_window") (Str.ofString "MemoryStorage.get_sliding_window") (fParams (nthS (cBody (nthS prog.main.body 28)) 12)) (fBody (nthS (cBody (nthS prog.main.body 28)) 12)) (fScope (nthS (cBody (nthS prog.main.body 28)) 12)) [] .none .none .none (.str (Str.ofString "limits.storage.memory") 1577) none (.ref 947) .none)), [].toArray⟩
def o971 (P : Params) : Obj := ⟨(.type "dict"), none, (.dict [⟨PyData.keyHash P (Str.ofString "__module__"), (.str (Str.ofString "__module__") 1586), (.str (Str.ofString "limits.storage.memory") 1577)⟩, ⟨PyData.keyHash P (Str.ofString "__firstlineno__"), (.str (Str.ofString "__firstlineno__") 1590), (.int (583) 1589)⟩, ⟨PyData.keyHash P (Str.ofString "__doc__"), (.str (Str.ofString "__doc__") 1592), (.str (docS (cBody (nthS prog.main.body 28))) 1591)⟩, ⟨PyData.keyHash P (Str.ofString "__init__"), (.str (Str.ofString "__init__") 1601), (.ref 867)⟩, ⟨PyData.keyHash P (Str.ofString "expire_events"), (.str (Str.ofString "expire_events") 1608), (.ref 874)⟩, ⟨PyData.keyHash P (Str.ofString "incr"), (.str (Str.ofString "incr") 1620), (.ref 882)⟩, ⟨PyData.keyHash P (Str.ofString "decr"), (.str (Str.ofString "decr") 1631), (.ref 890)⟩, ⟨PyData.keyHash P (Str.ofString "get"), (.str (Str.ofString "get") 1640), (.ref 897)⟩, ⟨PyData.keyHash P (Str.ofString "clear"), (.str (Str.ofString "clear") 1649), (.ref 904)⟩, ⟨PyData.keyHash P (Str.ofString "acquire_entry"), (.str (Str.ofString "acquire_entry") 1664), (.ref 912)⟩, ⟨PyData.keyHash P (Str.ofString "get_expiry"), (.str (Str.ofString "get_expiry") 1673), (.ref 919)⟩, ⟨PyData.keyHash P (Str.ofString "get_moving_window"), (.str (Str.ofString "get_moving_window") 1687), (.ref 926)⟩, ⟨PyData.keyHash P (Str.ofString "acquire_sliding_window_entry"), (.str (Str.ofString "acquire_sliding_window_entry") 1707), (.ref 934)⟩, ⟨PyData.keyHash P (Str.ofString "_get_sliding_window_info"), (.str (Str.ofString "_get_sliding_window_info") 1722), (.ref 941)⟩, ⟨PyData.keyHash P (Str.ofString "get_sliding_window"), (.str (Str.ofString "get_sliding_window") 1734), (.ref 948)⟩, ⟨PyData.keyHash P (Str.ofString "clear_sliding_window"), (.str (Str.ofString "clear_sliding_window") 1746), (.ref 955)⟩, ⟨PyData.keyHash P (Str.ofString "check"), (.str (Str.ofString "check") 1753), (.ref 962)⟩, ⟨PyData.keyHash P (Str.ofString "reset"), (.str (Str.ofString "reset") 1761), (.ref 969)⟩, ⟨PyData.keyHash P (Str.ofString "__static_attributes__"), (.str (Str.ofString "__static_attributes__") 1766), (.ref 970)⟩].toArray 1), [].toArray⟩
def o972 (P : Params) : Obj := ⟨(.type "type"), none, (.cls { name := (Str.ofString "MemoryStorage"), bases := [(.ref 591)], mro := [(.ref 972), (.ref 591), (.type "object")], ns := 971, qualname := (Str.ofString "MemoryStorage"), hasDict := true, slotNames := [], subclasses := [], abstract := false, collection := none, hasDel := false }), [(some (.ref 854)), none, (some (.str (Str.ofString "MemoryStorage") 1579)), (some (.str (Str.ofString "MemoryStorage") 1587)), (some (.builtin "object.__new__")), (some (.bool true))].toArray⟩
def o978 (P : Params) : Obj := ⟨(.type "code"), none, (.fields [(.str (Str.ofString "_law_left") 1771), (.str (Str.ofString "_law_left") 1772), (.str (Str.ofString "/claim/cut.py") 1773), (.int (732) 0), (.int (3) 0), (.int (0) 0), (.int (0) 0), (.int (3) 0), (.ref 975), (.bool true), (.int (370) 0), (.ref 976), .none, .none, .none, (.ref 977), (.int (1774) 0), (.int (732) 0), (.str (Str.ofString "/claim/cut.py") 1775)].toArray), [].toArray⟩
def o979 (P : Params) : Obj := ⟨(.type "function"), none, (.func (fnX (Str.ofString "_law_left") (Str.ofString "_law_left") (fParams (nthS prog.main.body 30)) (fBody (nthS prog.main.body 30)) (fScope (nthS prog.main.body 30)) [] .none .none (.str (docS (fBody (nthS prog.main.body 30))) 1776) (.str (Str.ofString "law_bn0043_01") 1769) none (.ref 978) .none)), [].toArray⟩
def o983 (P : Params) : Obj := ⟨(.type "code"), none, (.fields [(.str (Str.ofString "law") 1778), (.str (Str.ofString "law") 1779), (.str (Str.ofString "/claim/cut.py") 1780), (.int (755) 0), (.int (1) 0), (.int (0) 0), (.int (0) 0), (.int (3) 0), (.ref 980), (.bool true), (.int (370) 0), (.ref 981), .none, .none, .none, (.ref 982), (.int (1781) 0), (.int (755) 0), (.str (Str.ofString "/claim/cut.py") 1782)].toArray), [].toArray⟩
def o984 (P : Params) : Obj := ⟨(.type "function"), none, (.func (fnX (Str.ofString "law") (Str.ofString "law") (fParams (nthS prog.main.body 31)) (fBody (nthS prog.main.body 31)) (fScope (nthS prog.main.body 31)) [] .none .none .none (.str (Str.ofString "law_bn0043_01") 1769) none (.ref 983) .none)), [].toArray⟩
def o921 (P : Params) : Obj := ⟨.none, none, (.fields [].toArray), [].toArray⟩
def o981 (P : Params) : Obj := ⟨.none, none, (.fields [].toArray), [].toArray⟩
def K (P : Params) : Frag := [(2, o2 P), (3, o3 P), (75, o75 P), (81, o81 P), (82, o82 P), (98, o98 P), (99, o99 P), (120, o120 P), (121, o121 P), (162, o162 P), (163, o163 P), (165, o165 P), (166, o166 P), (170, o170 P), (171, o171 P), (172, o172 P), (187, o187 P), (188, o188 P), (199, o199 P), (200, o200 P), (212, o212 P), (213, o213 P), (219, o219 P), (220, o220 P), (221, o221 P), (222, o222 P), (228, o228 P), (229, o229 P), (230, o230 P), (231, o231 P), (237, o237 P), (238, o238 P), (240, o240 P), (241, o241 P), (251, o251 P), (252, o252 P), (258, o258 P), (259, o259 P), (260, o260 P), (261, o261 P), (267, o267 P), (268, o268 P), (269, o269 P), (270, o270 P), (276, o276 P), (277, o277 P), (279, o279 P), (280, o280 P), (295, o295 P), (296, o296 P), (297, o297 P), (298, o298 P), (304, o304 P), (305, o305 P), (306, o306 P), (307, o307 P), (313, o313 P), (314, o314 P), (315, o315 P), (316, o316 P), (322, o322 P), (323, o323 P), (334, o334 P), (335, o335 P), (352, o352 P), (358, o358 P), (359, o359 P), (375, o375 P), (376, o376 P), (386, o386 P), (387, o387 P), (446, o446 P), (447, o447 P), (449, o449 P), (450, o450 P), (454, o454 P), (455, o455 P), (487, o487 P), (488, o488 P), (498, o498 P), (504, o504 P), (505, o505 P), (521, o521 P), (522, o522 P), (526, o526 P), (527, o527 P), (551, o551 P), (552, o552 P), (553, o553 P), (554, o554 P), (555, o555 P), (566, o566 P), (567, o567 P), (584, o584 P), (585, o585 P), (587, o587 P), (590, o590 P), (591, o591 P), (608, o608 P), (609, o609 P), (611, o611 P), (612, o612 P), (634, o634 P), (639, o639 P), (646, o646 P), (647, o647 P), (653, o653 P), (654, o654 P), (684, o684 P), (691, o691 P), (692, o692 P), (848, o848 P), (849, o849 P), (866, o866 P), (867, o867 P), (875, o875 P), (881, o881 P), (882, o882 P), (896, o896 P), (897, o897 P), (905, o905 P), (911, o911 P), (912, o912 P), (918, o918 P), (919, o919 P), (925, o925 P), (926, o926 P), (927, o927 P), (933, o933 P), (934, o934 P), (940, o940 P), (941, o941 P), (947, o947 P), (948, o948 P), (971, o971 P), (972, o972 P), (978, o978 P), (979, o979 P), (983, o983 P), (984, o984 P)]
def KT (P : Params) : Frag := [(921, o921 P), (981, o981 P)]
def KA (P : Params) : Frag := [(2, o2 P), (3, o3 P), (75, o75 P), (81, o81 P), (82, o82 P), (98, o98 P), (99, o99 P), (120, o120 P), (121, o121 P), (162, o162 P), (163, o163 P), (165, o165 P), (166, o166 P), (170, o170 P), (171, o171 P), (172, o172 P), (187, o187 P), (188, o188 P), (199, o199 P), (200, o200 P), (212, o212 P), (213, o213 P), (219, o219 P), (220, o220 P), (221, o221 P), (222, o222 P), (228, o228 P), (229, o229 P), (230, o230 P), (231, o231 P), (237, o237 P), (238, o238 P), (240, o240 P), (241, o241 P), (251, o251 P), (252, o252 P), (258, o258 P), (259, o259 P), (260, o260 P), (261, o261 P), (267, o267 P), (268, o268 P), (269, o269 P), (270, o270 P), (276, o276 P), (277, o277 P), (279, o279 P), (280, o280 P), (295, o295 P), (296, o296 P), (297, o297 P), (298, o298 P), (304, o304 P), (305, o305 P), (306, o306 P), (307, o307 P), (313, o313 P), (314, o314 P), (315, o315 P), (316, o316 P), (322, o322 P), (323, o323 P), (334, o334 P), (335, o335 P), (352, o352 P), (358, o358 P), (359, o359 P), (375, o375 P), (376, o376 P), (386, o386 P), (387, o387 P), (446, o446 P), (447, o447 P), (449, o449 P), (450, o450 P), (454, o454 P), (455, o455 P), (487, o487 P), (488, o488 P), (498, o498 P), (504, o504 P), (505, o505 P), (521, o521 P), (522, o522 P), (526, o526 P), (527, o527 P), (551, o551 P), (552, o552 P), (553, o553 P), (554, o554 P), (555, o555 P), (566, o566 P), (567, o567 P), (584, o584 P), (585, o585 P), (587, o587 P), (590, o590 P), (591, o591 P), (608, o608 P), (609, o609 P), (611, o611 P), (612, o612 P), (634, o634 P), (639, o639 P), (646, o646 P), (647, o647 P), (653, o653 P), (654, o654 P), (684, o684 P), (691, o691 P), (692, o692 P), (848, o848 P), (849, o849 P), (866, o866 P), (867, o867 P), (875, o875 P), (881, o881 P), (882, o882 P), (896, o896 P), (897, o897 P), (905, o905 P), (911, o911 P), (912, o912 P), (918, o918 P), (919, o919 P), (925, o925 P), (926, o926 P), (927, o927 P), (933, o933 P), (934, o934 P), (940, o940 P), (941, o941 P), (947, o947 P), (948, o948 P), (971, o971 P), (972, o972 P), (978, o978 P), (979, o979 P), (983, o983 P), (984, o984 P), (921, o921 P), (981, o981 P)]
def KAs : List Addr := [2, 3, 75, 81, 82, 98, 99, 120, 121, 162, 163, 165, 166, 170, 171, 172, 187, 188, 199, 200, 212, 213, 219, 220, 221, 222, 228, 229, 230, 231, 237, 238, 240, 241, 251, 252, 258, 259, 260, 261, 267, 268, 269, 270, 276, 277, 279, 280, 295, 296, 297, 298, 304, 305, 306, 307, 313, 314, 315, 316, 322, 323, 334, 335, 352, 358, 359, 375, 376, 386, 387, 446, 447, 449, 450, 454, 455, 487, 488, 498, 504, 505, 521, 522, 526, 527, 551, 552, 553, 554, 555, 566, 567, 584, 585, 587, 590, 591, 608, 609, 611, 612, 634, 639, 646, 647, 653, 654, 684, 691, 692, 848, 849, 866, 867, 875, 881, 882, 896, 897, 905, 911, 912, 918, 919, 925, 926, 927, 933, 934, 940, 941, 947, 948, 971, 972, 978, 979, 983, 984, 921, 981]
theorem k2 (P : Params) : (K P).lookup 2 = some (o2 P) := by kernel_rfl
theorem k3 (P : Params) : (K P).lookup 3 = some (o3 P) := by kernel_rfl
theorem k75 (P : Params) : (K P).lookup 75 = some (o75 P) := by kernel_rfl
theorem k81 (P : Params) : (K P).lookup 81 = some (o81 P) := by kernel_rfl
theorem k82 (P : Params) : (K P).lookup 82 = some (o82 P) := by kernel_rfl
theorem k98 (P : Params) : (K P).lookup 98 = some (o98 P) := by kernel_rfl
theorem k99 (P : Params) : (K P).lookup 99 = some (o99 P) := by kernel_rfl
theorem k120 (P : Params) : (K P).lookup 120 = some (o120 P) := by kernel_rfl
theorem k121 (P : Params) : (K P).lookup 121 = some (o121 P) := by kernel_rfl
theorem k162 (P : Params) : (K P).lookup 162 = some (o162 P) := by kernel_rfl
theorem k163 (P : Params) : (K P).lookup 163 = some (o163 P) := by kernel_rfl
theorem k165 (P : Params) : (K P).lookup 165 = some (o165 P) := by kernel_rfl
theorem k166 (P : Params) : (K P).lookup 166 = some (o166 P) := by kernel_rfl
theorem k170 (P : Params) : (K P).lookup 170 = some (o170 P) := by kernel_rfl
theorem k171 (P : Params) : (K P).lookup 171 = some (o171 P) := by kernel_rfl
theorem k172 (P : Params) : (K P).lookup 172 = some (o172 P) := by kernel_rfl
theorem k187 (P : Params) : (K P).lookup 187 = some (o187 P) := by kernel_rfl
theorem k188 (P : Params) : (K P).lookup 188 = some (o188 P) := by kernel_rfl
theorem k199 (P : Params) : (K P).lookup 199 = some (o199 P) := by kernel_rfl
theorem k200 (P : Params) : (K P).lookup 200 = some (o200 P) := by kernel_rfl
theorem k212 (P : Params) : (K P).lookup 212 = some (o212 P) := by kernel_rfl
theorem k213 (P : Params) : (K P).lookup 213 = some (o213 P) := by kernel_rfl
theorem k219 (P : Params) : (K P).lookup 219 = some (o219 P) := by kernel_rfl
theorem k220 (P : Params) : (K P).lookup 220 = some (o220 P) := by kernel_rfl
theorem k221 (P : Params) : (K P).lookup 221 = some (o221 P) := by kernel_rfl
theorem k222 (P : Params) : (K P).lookup 222 = some (o222 P) := by kernel_rfl
theorem k228 (P : Params) : (K P).lookup 228 = some (o228 P) := by kernel_rfl
theorem k229 (P : Params) : (K P).lookup 229 = some (o229 P) := by kernel_rfl
theorem k230 (P : Params) : (K P).lookup 230 = some (o230 P) := by kernel_rfl
theorem k231 (P : Params) : (K P).lookup 231 = some (o231 P) := by kernel_rfl
theorem k237 (P : Params) : (K P).lookup 237 = some (o237 P) := by kernel_rfl
theorem k238 (P : Params) : (K P).lookup 238 = some (o238 P) := by kernel_rfl
theorem k240 (P : Params) : (K P).lookup 240 = some (o240 P) := by kernel_rfl
theorem k241 (P : Params) : (K P).lookup 241 = some (o241 P) := by kernel_rfl
theorem k251 (P : Params) : (K P).lookup 251 = some (o251 P) := by kernel_rfl
theorem k252 (P : Params) : (K P).lookup 252 = some (o252 P) := by kernel_rfl
theorem k258 (P : Params) : (K P).lookup 258 = some (o258 P) := by kernel_rfl
theorem k259 (P : Params) : (K P).lookup 259 = some (o259 P) := by kernel_rfl
theorem k260 (P : Params) : (K P).lookup 260 = some (o260 P) := by kernel_rfl
theorem k261 (P : Params) : (K P).lookup 261 = some (o261 P) := by kernel_rfl
theorem k267 (P : Params) : (K P).lookup 267 = some (o267 P) := by kernel_rfl
theorem k268 (P : Params) : (K P).lookup 268 = some (o268 P) := by kernel_rfl
theorem k269 (P : Params) : (K P).lookup 269 = some (o269 P) := by kernel_rfl
theorem k270 (P : Params) : (K P).lookup 270 = some (o270 P) := by kernel_rfl
theorem k276 (P : Params) : (K P).lookup 276 = some (o276 P) := by kernel_rfl
theorem k277 (P : Params) : (K P).lookup 277 = some (o277 P) := by kernel_rfl
theorem k279 (P : Params) : (K P).lookup 279 = some (o279 P) := by kernel_rfl
theorem k280 (P : Params) : (K P).lookup 280 = some (o280 P) := by kernel_rfl
theorem k295 (P : Params) : (K P).lookup 295 = some (o295 P) := by kernel_rfl
theorem k296 (P : Params) : (K P).lookup 296 = some (o296 P) := by kernel_rfl
theorem k297 (P : Params) : (K P).lookup 297 = some (o297 P) := by kernel_rfl
theorem k298 (P : Params) : (K P).lookup 298 = some (o298 P) := by kernel_rfl
theorem k304 (P : Params) : (K P).lookup 304 = some (o304 P) := by kernel_rfl
theorem k305 (P : Params) : (K P).lookup 305 = some (o305 P) := by kernel_rfl
theorem k306 (P : Params) : (K P).lookup 306 = some (o306 P) := by kernel_rfl
theorem k307 (P : Params) : (K P).lookup 307 = some (o307 P) := by kernel_rfl
theorem k313 (P : Params) : (K P).lookup 313 = some (o313 P) := by kernel_rfl
theorem k314 (P : Params) : (K P).lookup 314 = some (o314 P) := by kernel_rfl
theorem k315 (P : Params) : (K P).lookup 315 = some (o315 P) := by kernel_rfl
theorem k316 (P : Params) : (K P).lookup 316 = some (o316 P) := by kernel_rfl
theorem k322 (P : Params) : (K P).lookup 322 = some (o322 P) := by kernel_rfl
theorem k323 (P : Params) : (K P).lookup 323 = some (o323 P) := by kernel_rfl
theorem k334 (P : Params) : (K P).lookup 334 = some (o334 P) := by kernel_rfl
theorem k335 (P : Params) : (K P).lookup 335 = some (o335 P) := by kernel_rfl
theorem k352 (P : Params) : (K P).lookup 352 = some (o352 P) := by kernel_rfl
theorem k358 (P : Params) : (K P).lookup 358 = some (o358 P) := by kernel_rfl
theorem k359 (P : Params) : (K P).lookup 359 = some (o359 P) := by kernel_rfl
theorem k375 (P : Params) : (K P).lookup 375 = some (o375 P) := by kernel_rfl
theorem k376 (P : Params) : (K P).lookup 376 = some (o376 P) := by kernel_rfl
theorem k386 (P : Params) : (K P).lookup 386 = some (o386 P) := by kernel_rfl
theorem k387 (P : Params) : (K P).lookup 387 = some (o387 P) := by kernel_rfl
theorem k446 (P : Params) : (K P).lookup 446 = some (o446 P) := by kernel_rfl
theorem k447 (P : Params) : (K P).lookup 447 = some (o447 P) := by kernel_rfl
theorem k449 (P : Params) : (K P).lookup 449 = some (o449 P) := by kernel_rfl
theorem k450 (P : Params) : (K P).lookup 450 = some (o450 P) := by kernel_rfl
theorem k454 (P : Params) : (K P).lookup 454 = some (o454 P) := by kernel_rfl
theorem k455 (P : Params) : (K P).lookup 455 = some (o455 P) := by kernel_rfl
theorem k487 (P : Params) : (K P).lookup 487 = some (o487 P) := by kernel_rfl
theorem k488 (P : Params) : (K P).lookup 488 = some (o488 P) := by kernel_rfl
theorem k498 (P : Params) : (K P).lookup 498 = some (o498 P) := by kernel_rfl
theorem k504 (P : Params) : (K P).lookup 504 = some (o504 P) := by kernel_rfl
theorem k505 (P : Params) : (K P).lookup 505 = some (o505 P) := by kernel_rfl
theorem k521 (P : Params) : (K P).lookup 521 = some (o521 P) := by kernel_rfl
theorem k522 (P : Params) : (K P).lookup 522 = some (o522 P) := by kernel_rfl
theorem k526 (P : Params) : (K P).lookup 526 = some (o526 P) := by kernel_rfl
theorem k527 (P : Params) : (K P).lookup 527 = some (o527 P) := by kernel_rfl
theorem k551 (P : Params) : (K P).lookup 551 = some (o551 P) := by kernel_rfl
theorem k552 (P : Params) : (K P).lookup 552 = some (o552 P) := by kernel_rfl
theorem k553 (P : Params) : (K P).lookup 553 = some (o553 P) := by kernel_rfl
theorem k554 (P : Params) : (K P).lookup 554 = some (o554 P) := by kernel_rfl
theorem k555 (P : Params) : (K P).lookup 555 = some (o555 P) := by kernel_rfl
theorem k566 (P : Params) : (K P).lookup 566 = some (o566 P) := by kernel_rfl
theorem k567 (P : Params) : (K P).lookup 567 = some (o567 P) := by kernel_rfl
theorem k584 (P : Params) : (K P).lookup 584 = some (o584 P) := by kernel_rfl
theorem k585 (P : Params) : (K P).lookup 585 = some (o585 P) := by kernel_rfl
theorem k587 (P : Params) : (K P).lookup 587 = some (o587 P) := by kernel_rfl
theorem k590 (P : Params) : (K P).lookup 590 = some (o590 P) := by kernel_rfl
theorem k591 (P : Params) : (K P).lookup 591 = some (o591 P) := by kernel_rfl
theorem k608 (P : Params) : (K P).lookup 608 = some (o608 P) := by kernel_rfl
theorem k609 (P : Params) : (K P).lookup 609 = some (o609 P) := by kernel_rfl
theorem k611 (P : Params) : (K P).lookup 611 = some (o611 P) := by kernel_rfl
theorem k612 (P : Params) : (K P).lookup 612 = some (o612 P) := by kernel_rfl
theorem k634 (P : Params) : (K P).lookup 634 = some (o634 P) := by kernel_rfl
theorem k639 (P : Params) : (K P).lookup 639 = some (o639 P) := by kernel_rfl
theorem k646 (P : Params) : (K P).lookup 646 = some (o646 P) := by kernel_rfl
theorem k647 (P : Params) : (K P).lookup 647 = some (o647 P) := by kernel_rfl
theorem k653 (P : Params) : (K P).lookup 653 = some (o653 P) := by kernel_rfl
theorem k654 (P : Params) : (K P).lookup 654 = some (o654 P) := by kernel_rfl
theorem k684 (P : Params) : (K P).lookup 684 = some (o684 P) := by kernel_rfl
theorem k691 (P : Params) : (K P).lookup 691 = some (o691 P) := by kernel_rfl
theorem k692 (P : Params) : (K P).lookup 692 = some (o692 P) := by kernel_rfl
theorem k848 (P : Params) : (K P).lookup 848 = some (o848 P) := by kernel_rfl
theorem k849 (P : Params) : (K P).lookup 849 = some (o849 P) := by kernel_rfl
theorem k866 (P : Params) : (K P).lookup 866 = some (o866 P) := by kernel_rfl
theorem k867 (P : Params) : (K P).lookup 867 = some (o867 P) := by kernel_rfl
theorem k875 (P : Params) : (K P).lookup 875 = some (o875 P) := by kernel_rfl
theorem k881 (P : Params) : (K P).lookup 881 = some (o881 P) := by kernel_rfl
theorem k882 (P : Params) : (K P).lookup 882 = some (o882 P) := by kernel_rfl
theorem k896 (P : Params) : (K P).lookup 896 = some (o896 P) := by kernel_rfl
theorem k897 (P : Params) : (K P).lookup 897 = some (o897 P) := by kernel_rfl
theorem k905 (P : Params) : (K P).lookup 905 = some (o905 P) := by kernel_rfl
theorem k911 (P : Params) : (K P).lookup 911 = some (o911 P) := by kernel_rfl
theorem k912 (P : Params) : (K P).lookup 912 = some (o912 P) := by kernel_rfl
theorem k918 (P : Params) : (K P).lookup 918 = some (o918 P) := by kernel_rfl
theorem k919 (P : Params) : (K P).lookup 919 = some (o919 P) := by kernel_rfl
theorem k925 (P : Params) : (K P).lookup 925 = some (o925 P) := by kernel_rfl
theorem k926 (P : Params) : (K P).lookup 926 = some (o926 P) := by kernel_rfl
theorem k927 (P : Params) : (K P).lookup 927 = some (o927 P) := by kernel_rfl
theorem k933 (P : Params) : (K P).lookup 933 = some (o933 P) := by kernel_rfl
theorem k934 (P : Params) : (K P).lookup 934 = some (o934 P) := by kernel_rfl
theorem k940 (P : Params) : (K P).lookup 940 = some (o940 P) := by kernel_rfl
theorem k941 (P : Params) : (K P).lookup 941 = some (o941 P) := by kernel_rfl
theorem k947 (P : Params) : (K P).lookup 947 = some (o947 P) := by kernel_rfl
theorem k948 (P : Params) : (K P).lookup 948 = some (o948 P) := by kernel_rfl
theorem k971 (P : Params) : (K P).lookup 971 = some (o971 P) := by kernel_rfl
theorem k972 (P : Params) : (K P).lookup 972 = some (o972 P) := by kernel_rfl
theorem k978 (P : Params) : (K P).lookup 978 = some (o978 P) := by kernel_rfl
theorem k979 (P : Params) : (K P).lookup 979 = some (o979 P) := by kernel_rfl
theorem k983 (P : Params) : (K P).lookup 983 = some (o983 P) := by kernel_rfl
theorem k984 (P : Params) : (K P).lookup 984 = some (o984 P) := by kernel_rfl
end
section
/-- a written entry: a text's key -/
abbrev ent (w : World) (p : Str × Tok × Value) : DictEntry := ⟨hashStr w p.1, .str p.1 p.2.1, p.2.2⟩
def look (l : List (Str × Tok × Value)) (k : Str) : Option Value := (l.find? fun p => decide (p.1 = k)).map (·.2.2)
/-- an object's dict, as a map from texts; n bounds its entries -/
structure IsMap (w : World) (o : Obj) (f : Str → Option Value) (n : Nat) : Prop where
  ex : ∃ l ep, o.data = .dict (l.map (ent w)).toArray ep ∧ (l.map (·.1)).Nodup ∧ (∀ k, look l k = f k) ∧ l.length ≤ n
theorem isOf (w : World) (prog : Program) (k : Str) (p : Str × Tok × Value) : (strKind prog w).is k (.str p.1 p.2.1) = decide (p.1 = k) := by
  have h := strKind_is prog w p.1 p.2.1
  rw [KeyKind.is_eq_decide h]
  simp only [eq_comm]
theorem keysOf (w : World) (prog : Program) (l : List (Str × Tok × Value)) : KeysOf (strKind prog w) (l.map (ent w)).toArray := by
  intro e he
  simp only [List.mem_toArray, List.mem_map] at he
  obtain ⟨p, _, rfl⟩ := he
  exact ⟨p.1, strKind_is prog w p.1 p.2.1, rfl⟩
theorem findOf (w : World) (prog : Program) (l : List (Str × Tok × Value)) (k : Str) : findBy (strKind prog w).is (l.map (ent w)).toArray k = look l k := by
  unfold findBy look
  rw [List.find?_toArray, List.find?_map]
  simp only [Function.comp_def, isOf, Option.map_map]
theorem idxOf (w : World) (prog : Program) (l : List (Str × Tok × Value)) (k : Str) : (l.map (ent w)).toArray.findIdx? (fun e => (strKind prog w).is k e.key) = l.findIdx? fun p => decide (p.1 = k) := by
  rw [List.findIdx?_toArray, List.findIdx?_map]
  simp only [Function.comp_def, isOf]
section
variable {prog : Program} {w : World} {A : Around} {E : Value → Shared → Prop} {s : Shared} {d : Addr} {o : Obj} {f : Str → Option Value} {n : Nat} {k : Str} {t : Tok} {v : Value}
theorem dget {Q : Option Value → Shared → Prop} (ho : s.heap.get? d = some o) (hm : IsMap w o f n) (h : Q (f k) { s with toks := s.toks + 1 }) : wpAny (model prog w) A (dictGet d (.str k t)) Q E s := by
  obtain ⟨l, ep, hd, hn, hf, hl⟩ := hm.ex
  have hkey := strKind_is prog w k t
  unfold dictGet
  try with_reducible refine wpAny_holding ?_
  refine wpAny_bind ((strKind prog w).pyHash hkey (wpAny_bind (wpAny_dictFind_of (s := { s with toks := s.toks + 1 }) hkey ho hd (keysOf w prog l) ?_)))
  rw [← hf k, ← findOf w prog l, findBy_of_findIdx?] at h
  cases hi : (l.map (ent w)).toArray.findIdx? fun e => (strKind prog w).is k e.key with
  | none => rw [hi] at h; exact wpAny_pure h
  | some i => rw [hi] at h; exact wpAny_bind (wpAny_dictEntries (s := { s with toks := s.toks + 1 }) ho hd (wpAny_pure h))
def setL (k : Str) (t : Tok) (v : Value) : List (Str × Tok × Value) → List (Str × Tok × Value)
  | [] => [(k, t, v)]
  | p :: r => if p.1 = k then (p.1, p.2.1, v) :: r else p :: setL k t v r
theorem look_cons (p : Str × Tok × Value) (l : List (Str × Tok × Value)) (x : Str) : look (p :: l) x = if p.1 = x then some p.2.2 else look l x := by
  unfold look
  rw [List.find?_cons]
  by_cases h : p.1 = x <;> simp [h]
theorem setL_look (k : Str) (t : Tok) (v : Value) (x : Str) : ∀ l, look (setL k t v l) x = if x = k then some v else look l x
  | [] => by
    unfold setL
    rw [look_cons]
    by_cases h : k = x
    · subst h; simp
    · rw [if_neg h, if_neg (Ne.symm h)]
  | p :: r => by
    unfold setL
    by_cases h : p.1 = k
    · rw [if_pos h, look_cons, look_cons]
      by_cases hx : p.1 = x
      · rw [if_pos hx, if_pos (hx ▸ h)]
      · rw [if_neg hx, if_neg hx, if_neg (fun e => hx (h.trans e.symm))]
    · rw [if_neg h, look_cons, look_cons, setL_look]
      by_cases hx : p.1 = x
      · rw [if_pos hx, if_pos hx, if_neg (fun e => h (hx.trans e))]
      · rw [if_neg hx, if_neg hx]
theorem setL_mem (k : Str) (t : Tok) (v : Value) (y : Str) : ∀ l, y ∈ (setL k t v l).map (·.1) → y = k ∨ y ∈ l.map (·.1)
  | [], h => by
    simp only [setL, List.map_cons, List.map_nil, List.mem_singleton] at h
    exact .inl h
  | p :: r, h => by
    unfold setL at h
    by_cases q : p.1 = k
    · rw [if_pos q, List.map_cons] at h
      exact .inr h
    · rw [if_neg q, List.map_cons] at h
      rcases List.mem_cons.mp h with h | h
      · exact .inr (List.mem_cons.mpr (.inl h))
      · exact (setL_mem k t v y r h).imp id fun h => List.mem_cons_of_mem _ h
theorem setL_nodup (k : Str) (t : Tok) (v : Value) : ∀ l, (l.map (·.1)).Nodup → ((setL k t v l).map (·.1)).Nodup
  | [], _ => by simp [setL]
  | p :: r, h => by
    unfold setL
    rw [List.map_cons, List.nodup_cons] at h
    by_cases q : p.1 = k
    · rw [if_pos q, List.map_cons, List.nodup_cons]
      exact h
    · rw [if_neg q, List.map_cons, List.nodup_cons]
      exact ⟨fun hm => (setL_mem k t v _ r hm).elim q h.1, setL_nodup k t v r h.2⟩
theorem setL_len (k : Str) (t : Tok) (v : Value) : ∀ l, (setL k t v l).length ≤ l.length + 1
  | [] => by simp [setL]
  | p :: r => by
    unfold setL
    by_cases q : p.1 = k
    · rw [if_pos q]; simp
    · rw [if_neg q]; simpa using setL_len k t v r
theorem setL_some (w : World) (k : Str) (t : Tok) (v : Value) : ∀ (l : List (Str × Tok × Value)) (i : Nat), l.findIdx? (fun p => decide (p.1 = k)) = some i → (l.map (ent w)).modify i (fun e => { e with val := v }) = (setL k t v l).map (ent w)
  | [], _, h => by cases h
  | p :: r, i, h => by
    rw [List.findIdx?_cons] at h
    unfold setL
    by_cases q : p.1 = k
    · rw [decide_eq_true q, if_pos rfl] at h
      cases h
      rw [if_pos q]
      rfl
    · rw [decide_eq_false q, if_neg Bool.false_ne_true] at h
      rw [if_neg q]
      obtain ⟨j, hj, rfl⟩ := Option.map_eq_some_iff.mp h
      rw [List.map_cons, List.map_cons, List.modify_succ_cons, setL_some w k t v r j hj]
theorem setL_none (w : World) (k : Str) (t : Tok) (v : Value) : ∀ (l : List (Str × Tok × Value)), l.findIdx? (fun p => decide (p.1 = k)) = none → (setL k t v l) = l ++ [(k, t, v)]
  | [], h => rfl
  | p :: r, h => by
    rw [List.findIdx?_cons] at h
    unfold setL
    by_cases q : p.1 = k
    · rw [decide_eq_true q, if_pos rfl] at h
      cases h
    · rw [decide_eq_false q, if_neg Bool.false_ne_true, Option.map_eq_none_iff] at h
      rw [if_neg q, setL_none w k t v r h, List.cons_append]
/-- the like object: all but its dict's entries -/
structure Like (o o' : Obj) : Prop where
  cls : o'.cls = o.cls
  dict : o'.dict = o.dict
  slots : o'.slots = o.slots
theorem like_mapDict (o : Obj) (g) : Like o (o.mapDict g) := by obtain ⟨c, d, dt, sl⟩ := o; cases dt <;> exact ⟨rfl, rfl, rfl⟩
theorem like_mapDictKeys (o : Obj) (g) : Like o (o.mapDictKeys g) := by obtain ⟨c, d, dt, sl⟩ := o; cases dt <;> exact ⟨rfl, rfl, rfl⟩
theorem dset {Q : Unit → Shared → Prop} (ho : s.heap.get? d = some o) (hm : IsMap w o f n) (hn : n ≤ sizeLine)
    (h : ∀ o' h', IsMap w o' (fun x => if x = k then some v else f x) (n + 1) → Like o o' → h'.get? d = some o' → Heap.SameBut d s.heap h' → Q () { s with heap := h', toks := s.toks + 1 }) :
    wpAny (model prog w) A (dictSet d (.str k t) v) Q E s := by
  obtain ⟨l, ep, hd, hnd, hf, hl⟩ := hm.ex
  have hkey := strKind_is prog w k t
  unfold dictSet
  try with_reducible refine wpAny_holding ?_
  refine wpAny_bind ((strKind prog w).pyHash hkey ?_)
  unfold dictSetHashed
  try with_reducible refine wpAny_holding ?_
  refine wpAny_bind (wpAny_dictFind_of (s := { s with toks := s.toks + 1 }) hkey ho hd (keysOf w prog l) ?_)
  have new : ∀ ep' (o' : Obj), o'.data = .dict ((setL k t v l).map (ent w)).toArray ep' → IsMap w o' (fun x => if x = k then some v else f x) (n + 1) := fun ep' o' e =>
    ⟨setL k t v l, ep', e, setL_nodup k t v l hnd, fun x => by rw [setL_look, hf], Nat.le_trans (setL_len k t v l) (Nat.add_le_add_right hl 1)⟩
  rw [idxOf]
  cases hi : l.findIdx? fun p => decide (p.1 = k) with
  | some i =>
    refine wpAny_bind (wpAny_rule (wpAny_bind (wpAny_updateDict (s := { s with toks := s.toks + 1 }) ho hd (wpAny_point (h _ _ (new ep _ ?_) (like_mapDict _ _) (Heap.get?_update_self _ ho (Obj.isFreed_of_dict (Obj.data_mapDict hd _))) (Heap.SameBut.update ..))))))
    rw [Obj.data_mapDict hd, List.modify_toArray, setL_some w k t v l i hi]
  | none =>
    refine wpAny_bind (wpAny_rule (wpAny_updateDictKeys (hz := by rw [List.size_toArray, List.length_map]; exact Nat.le_trans hl hn) (s := { s with toks := s.toks + 1 }) ho hd (h _ _ (new (ep + 1) _ ?_) (like_mapDictKeys _ _) (Heap.get?_update_self _ ho (Obj.isFreed_of_dict (Obj.data_mapDictKeys hd _))) (Heap.SameBut.update ..))))
    rw [Obj.data_mapDictKeys hd, setL_none w k t v l hi]
    simp [ent]
    rfl
def delL (k : Str) : List (Str × Tok × Value) → List (Str × Tok × Value)
  | [] => []
  | p :: r => if p.1 = k then r else p :: delL k r
theorem delL_sub (k y : Str) : ∀ l, y ∈ (delL k l).map (·.1) → y ∈ l.map (·.1)
  | [], h => h
  | p :: r, h => by
    unfold delL at h
    by_cases q : p.1 = k
    · rw [if_pos q] at h; exact List.mem_cons_of_mem _ h
    · rw [if_neg q, List.map_cons] at h
      rcases List.mem_cons.mp h with h | h
      · exact List.mem_cons.mpr (.inl h)
      · exact List.mem_cons_of_mem _ (delL_sub k y r h)
theorem delL_nodup (k : Str) : ∀ l, (l.map (·.1)).Nodup → ((delL k l).map (·.1)).Nodup
  | [], h => h
  | p :: r, h => by
    rw [List.map_cons, List.nodup_cons] at h
    unfold delL
    by_cases q : p.1 = k
    · rw [if_pos q]; exact h.2
    · rw [if_neg q, List.map_cons, List.nodup_cons]
      exact ⟨fun hm => h.1 (delL_sub k _ r hm), delL_nodup k r h.2⟩
theorem look_none {k : Str} : ∀ {l : List (Str × Tok × Value)}, k ∉ l.map (·.1) → look l k = none
  | [], _ => rfl
  | p :: r, h => by
    rw [List.map_cons, List.mem_cons, not_or] at h
    rw [look_cons, if_neg (Ne.symm h.1), look_none h.2]
theorem delL_look (k x : Str) : ∀ l, (l.map (·.1)).Nodup → look (delL k l) x = if x = k then none else look l x
  | [], _ => by by_cases h : x = k <;> simp [delL, look, h]
  | p :: r, h => by
    rw [List.map_cons, List.nodup_cons] at h
    unfold delL
    by_cases q : p.1 = k
    · rw [if_pos q, look_cons]
      by_cases hx : x = k
      · subst hx
        rw [if_pos rfl]
        exact look_none (q ▸ h.1)
      · rw [if_neg hx, if_neg (fun e => hx (e.symm.trans q))]
    · rw [if_neg q, look_cons, look_cons, delL_look k x r h.2]
      by_cases hx : p.1 = x
      · rw [if_pos hx, if_pos hx, if_neg (fun e => q (hx.trans e))]
      · rw [if_neg hx, if_neg hx]
theorem delL_len (k : Str) : ∀ l : List (Str × Tok × Value), (delL k l).length ≤ l.length
  | [] => Nat.le_refl _
  | p :: r => by
    unfold delL
    by_cases q : p.1 = k
    · rw [if_pos q]; simp
    · rw [if_neg q]; simpa using delL_len k r
theorem delL_some (w : World) (k : Str) : ∀ (l : List (Str × Tok × Value)) (i : Nat), l.findIdx? (fun p => decide (p.1 = k)) = some i → (l.map (ent w)).eraseIdx i = (delL k l).map (ent w)
  | [], _, h => by cases h
  | p :: r, i, h => by
    rw [List.findIdx?_cons] at h
    unfold delL
    by_cases q : p.1 = k
    · rw [decide_eq_true q, if_pos rfl] at h
      cases h
      rw [if_pos q]
      rfl
    · rw [decide_eq_false q, if_neg Bool.false_ne_true] at h
      rw [if_neg q]
      obtain ⟨j, hj, rfl⟩ := Option.map_eq_some_iff.mp h
      rw [List.map_cons, List.map_cons, List.eraseIdx_cons_succ, delL_some w k r j hj]
theorem takeOut_ {Q : Option DictEntry → Shared → Prop} (ho : s.heap.get? d = some o) (hm : IsMap w o f n) (hn : n ≤ sizeLine)
    (h0 : f k = none → Q none { s with toks := s.toks + 1 })
    (h1 : ∀ e o' h', f k = some e.val → (∃ x u, e.key = .str x u) → IsMap w o' (fun x => if x = k then none else f x) n → Like o o' → h'.get? d = some o' → Heap.SameBut d s.heap h' → Q (some e) { s with heap := h', toks := s.toks + 1 }) :
    wpAny (model prog w) A (Builtin.Dict.takeOut d (.str k t)) Q E s := by
  obtain ⟨l, ep, hd, hnd, hf, hl⟩ := hm.ex
  have hkey := strKind_is prog w k t
  unfold Builtin.Dict.takeOut
  try with_reducible refine wpAny_holding ?_
  refine wpAny_bind ((strKind prog w).pyHash hkey (wpAny_bind (wpAny_dictFind_of (s := { s with toks := s.toks + 1 }) hkey ho hd (keysOf w prog l) ?_)))
  rw [idxOf]
  cases hi : l.findIdx? fun p => decide (p.1 = k) with
  | none =>
    refine wpAny_pure (h0 ?_)
    rw [← hf, ← findOf w prog l, findBy_of_findIdx?, idxOf, hi]
  | some i =>
    have hfk : f k = ((l.map (ent w))[i]?).map (·.val) := by rw [← hf, ← findOf w prog l, findBy_of_findIdx?, idxOf, hi]; simp only [List.getElem?_toArray]
    refine wpAny_bind (wpAny_dictEntries (s := { s with toks := s.toks + 1 }) ho hd ?_)
    rw [List.getElem?_toArray]
    have hlt : i < (l.map (ent w)).length := by
      rw [List.length_map]
      exact (List.findIdx?_eq_some_iff_findIdx_eq.mp hi).1
    rw [List.getElem?_eq_getElem hlt] at hfk ⊢
    dsimp only
    refine wpAny_bind (wpAny_updateDictKeys (s := { s with toks := s.toks + 1 }) ho hd (hz := by rw [List.size_toArray, List.length_map]; exact Nat.le_trans hl hn) (hf := ?_) (wpAny_pure (h1 _ _ _ hfk ?_ ⟨delL k l, ep + 1, ?_, delL_nodup k l hnd, fun x => by rw [delL_look k x l hnd, hf], Nat.le_trans (delL_len k l) hl⟩
      (like_mapDictKeys _ _) (Heap.get?_update_self _ ho (Obj.isFreed_of_dict (Obj.data_mapDictKeys hd _))) (Heap.SameBut.update ..))))
    · rw [List.getElem_map]; exact ⟨_, _, rfl⟩
    · rw [Obj.data_mapDictKeys hd]
      unfold Array.eraseIdxIfInBounds
      rw [dif_pos (by simpa using hlt), List.eraseIdx_toArray, delL_some w k l i hi]
    · unfold Array.eraseIdxIfInBounds
      split
      · rw [Array.size_eraseIdx]; omega
      · omega
theorem dsetdefault {Q : Value → Shared → Prop} (ho : s.heap.get? d = some o) (hm : IsMap w o f n) (hn : n ≤ sizeLine)
    (h1 : ∀ x, f k = some x → Q x { s with toks := s.toks + 1 })
    (h0 : ∀ o' h', f k = none → IsMap w o' (fun x => if x = k then some v else f x) (n + 1) → Like o o' → h'.get? d = some o' → Heap.SameBut d s.heap h' → Q v { s with heap := h', toks := s.toks + 1 }) :
    wpAny (model prog w) A (dictSetDefault d (.str k t) v) Q E s := by
  obtain ⟨l, ep, hd, hnd, hf, hl⟩ := hm.ex
  have hkey := strKind_is prog w k t
  unfold dictSetDefault
  try with_reducible refine wpAny_holding ?_
  refine wpAny_bind ((strKind prog w).pyHash hkey ?_)
  refine wpAny_bind (wpAny_dictFind_of (s := { s with toks := s.toks + 1 }) hkey ho hd (keysOf w prog l) ?_)
  rw [idxOf]
  cases hi : l.findIdx? fun p => decide (p.1 = k) with
  | some i =>
    have hfk : f k = ((l.map (ent w))[i]?).map (·.val) := by rw [← hf, ← findOf w prog l, findBy_of_findIdx?, idxOf, hi]; simp only [List.getElem?_toArray]
    refine wpAny_bind (wpAny_dictEntries (s := { s with toks := s.toks + 1 }) ho hd ?_)
    rw [List.getElem?_toArray]
    have hlt : i < (l.map (ent w)).length := by
      rw [List.length_map]
      exact (List.findIdx?_eq_some_iff_findIdx_eq.mp hi).1
    rw [List.getElem?_eq_getElem hlt] at hfk ⊢
    exact wpAny_bind (wpAny_rule (wpAny_pure (h1 _ hfk)))
  | none =>
    have hfk : f k = none := by rw [← hf, ← findOf w prog l, findBy_of_findIdx?, idxOf, hi]
    refine wpAny_bind (wpAny_rule (wpAny_bind (wpAny_updateDictKeys (hz := by rw [List.size_toArray, List.length_map]; exact Nat.le_trans hl hn) (s := { s with toks := s.toks + 1 }) ho hd (wpAny_pure (h0 _ _ hfk
      ⟨setL k t v l, ep + 1, ?_, setL_nodup k t v l hnd, fun x => by rw [setL_look, hf], Nat.le_trans (setL_len k t v l) (Nat.add_le_add_right hl 1)⟩ (like_mapDictKeys _ _) (Heap.get?_update_self _ ho (Obj.isFreed_of_dict (Obj.data_mapDictKeys hd _))) (Heap.SameBut.update ..))))))
    rw [Obj.data_mapDictKeys hd, setL_none w k t v l hi]
    simp [ent]
    rfl
end
end
section
/-- a dict or a thing of a class over dict -/
structure DLike (M : Model) (h : Heap) (d : Addr) : Prop where
  ex : ∃ T, Looks M h (typeOf (.ref d)) T ∧ Looks M h (isSubtype T (.type "dict")) true ∧ Looks M h (isSubtype T (.type "collections.OrderedDict")) false
theorem sub_dd : isSubtype (.type "dict") (.type "dict") = pure true := by rw [isSubtype_type]; kernel_rfl
theorem sub_do : isSubtype (.type "dict") (.type "collections.OrderedDict") = pure false := by rw [isSubtype_type]; kernel_rfl
theorem DLike.exact {M : Model} {h : Heap} {d : Addr} {o : Obj} (ho : h.get? d = some o) (hc : o.cls = .type "dict") : DLike M h d :=
  ⟨.type "dict", hc ▸ (Looks.ld ho).andThen .now, Looks.of_pure sub_dd, Looks.of_pure sub_do⟩
theorem sub_cd (P : Params) : subIn (K P) (.ref 849) (.type "dict") = some true := by kernel_rfl
theorem sub_co (P : Params) : subIn (K P) (.ref 849) (.type "collections.OrderedDict") = some false := by kernel_rfl
theorem DLike.counter {M : Model} {h : Heap} {d : Addr} {o : Obj} {P : Params} (X : (K P).In h) (ho : h.get? d = some o) (hc : o.cls = .ref 849) : DLike M h d :=
  ⟨.ref 849, hc ▸ (Looks.ld ho).andThen .now, looks_subIn X (sub_cd P), looks_subIn X (sub_co P)⟩
theorem DLike.inst {M : Model} {h : Heap} {d : Addr} (x : DLike M h d) : Looks M h (isInstance (.ref d) (.type "dict")) true :=
  let ⟨_, a, b, _⟩ := x.ex; a.andThen b
theorem DLike.notO {M : Model} {h : Heap} {d : Addr} (x : DLike M h d) : Looks M h (isInstance (.ref d) (.type "collections.OrderedDict")) false :=
  let ⟨_, a, _, b⟩ := x.ex; a.andThen b
theorem chk {M : Model} {A : Around} {E : Value → Shared → Prop} {s : Shared} {id owner n : String} {self : Value} {rest : List Value} {kw : List (Str × Value)} {Q : Unit → Shared → Prop}
    (hsplit : splitId id = some (owner, n)) (hk : builtinKind id = some .method ∨ builtinKind id = some .slot)
    (hi : Looks M s.heap (isInstance self (.type owner)) true) (ha : argsOk id ⟨self :: rest, kw⟩) (hQ : Q () s) : wpAny M A (checkBuiltinCall id ⟨self :: rest, kw⟩) Q E s := by
  rcases hk with h | h <;>
  · simp only [checkBuiltinCall, h, hsplit]
    refine wpAny_bind (hi.here ?_)
    simp only [Bool.not_true, Bool.false_eq_true, if_false]
    cases hsig : Manifest.signature? id with
    | none => exact wpAny_pure hQ
    | some sig =>
      simp only [argsOk, hsig] at ha
      have h2 : Bind.checkArgs id sig ⟨self :: rest, kw⟩ = pure () := ha
      show wpAny M A (Bind.checkArgs id sig ⟨self :: rest, kw⟩) Q E s
      rw [h2]; exact wpAny_pure hQ
section
variable {prog : Program} {w : World} {A : Around} {E : Value → Shared → Prop} {s : Shared} {d : Addr} {o : Obj} {f : Str → Option Value} {n : Nat} {k : Str} {t : Tok} {v : Value}
theorem notOrd {name : String} {rest : List Value} {Q : Unit → Shared → Prop} (x : DLike (model prog w) s.heap d) (h : Q () s) : wpAny (model prog w) A (Builtin.Dict.notOrdered name ⟨.ref d :: rest, []⟩) Q E s := by
  unfold Builtin.Dict.notOrdered
  obtain ⟨T, a, b, c⟩ := x.ex
  split
  · refine wpAny_bind (a.here ?_)
    split
    · refine wpAny_bind (x.notO.here ?_)
      exact wpAny_pure h
    · exact wpAny_pure h
  · exact wpAny_pure h
theorem kind_get : builtinKind "dict.get" = some .method ∨ builtinKind "dict.get" = some .slot := .inl (by rw [builtinKind_eq_fast]; kernel_rfl)
theorem kind_pop : builtinKind "dict.pop" = some .method ∨ builtinKind "dict.pop" = some .slot := .inl (by rw [builtinKind_eq_fast]; kernel_rfl)
theorem kind_getitem : builtinKind "dict.__getitem__" = some .method ∨ builtinKind "dict.__getitem__" = some .slot := .inl (by rw [builtinKind_eq_fast]; kernel_rfl)
theorem kind_setitem : builtinKind "dict.__setitem__" = some .method ∨ builtinKind "dict.__setitem__" = some .slot := .inr (by rw [builtinKind_eq_fast]; kernel_rfl)
theorem kind_setdefault : builtinKind "dict.setdefault" = some .method ∨ builtinKind "dict.setdefault" = some .slot := .inl (by rw [builtinKind_eq_fast]; kernel_rfl)
theorem chk_get {M : Model} {s : Shared} {a : Value} {Q : Unit → Shared → Prop} (x : DLike M s.heap d) (h : Q () s) : wpAny M A (checkBuiltinCall "dict.get" ⟨[.ref d, a, v], []⟩) Q E s := by
  refine chk (n := "get") (owner := "dict") (rest := [a, v]) (kw := []) ?_ ?_ ?_ ?_ ?_
  · decide +kernel
  · exact kind_get
  · exact x.inst
  · exact PySem.F.args_dict_get_3 _ _ _
  · exact h
theorem chk_pop {M : Model} {s : Shared} {a : Value} {Q : Unit → Shared → Prop} (x : DLike M s.heap d) (h : Q () s) : wpAny M A (checkBuiltinCall "dict.pop" ⟨[.ref d, a, v], []⟩) Q E s := by
  refine chk (n := "pop") (owner := "dict") (rest := [a, v]) (kw := []) ?_ ?_ ?_ ?_ ?_
  · decide +kernel
  · exact kind_pop
  · exact x.inst
  · exact PySem.F.args_dict_pop_3 _ _ _
  · exact h
/-- d.get(k, dflt) -/
theorem call_dget {dflt : Value} {Q : Value → Shared → Prop} (x : DLike (model prog w) s.heap d) (hsys : (d == sysModules) = false) (ho : s.heap.get? d = some o) (hm : IsMap w o f n)
    (h : Q ((f k).getD dflt) { s with toks := s.toks + 1 }) : wpAny (model prog w) A (call (.builtin "dict.get") [.ref d, .str k t, dflt]) Q E s := by
  refine wpAny_call (codeAny_call_builtin PySem.F.slot_dict_get.plain PySem.F.entry_dict_get (chk_get x ?_))
  show wpAny _ _ (dictGet d _ >>= _) _ _ s
  refine wpAny_bind (dget ho hm ?_)
  cases hf : f k with
  | some v => rw [hf] at h; exact wpAny_pure h
  | none =>
    rw [hf] at h
    show wpAny _ _ (Builtin.Dict.missed d _ >>= _) _ _ _
    exact wpAny_bind (wpAny_missed_other hsys (wpAny_pure h))
/-- d.pop(k, dflt); what comes back is dropped -/
theorem call_dpop {dflt : Value} {Q : Value → Shared → Prop} (x : DLike (model prog w) s.heap d) (hsys : (d == sysModules) = false) (ho : s.heap.get? d = some o) (hm : IsMap w o f n) (hn : n ≤ sizeLine)
    (h : ∀ o' h' , IsMap w o' (fun x => if x = k then none else f x) n → Like o o' → h'.get? d = some o' → Heap.SameBut d s.heap h' → Q ((f k).getD dflt) { s with heap := h', toks := s.toks + 1 }) :
    wpAny (model prog w) A (call (.builtin "dict.pop") [.ref d, .str k t, dflt]) Q E s := by
  refine wpAny_call (codeAny_call_builtin PySem.F.slot_dict_pop.plain PySem.F.entry_dict_pop (chk_pop x ?_))
  unfold Builtin.«dict.pop»
  refine wpAny_bind ?_
  unfold Builtin.Dict.keyAndDefault
  refine wpAny_bind (notOrd x ?_)
  show wpAny _ _ (pure (d, Value.str k t, some dflt)) _ _ s
  refine wpAny_pure ?_
  simp only [show (keyPart (Value.str k t)).isSome = true from rfl, if_true]
  refine wpAny_bind (wpAny_pure ?_)
  simp only [Bool.false_eq_true, if_false]
  refine wpAny_bind (takeOut_ ho hm hn (fun hk => ?_) fun e o' h' hk hkey hm' hl' hg' hs' => ?_)
  · simp only [Option.isNone_none, if_true]
    refine wpAny_bind (wpAny_missedRemoval_other hsys ?_)
    refine wpAny_bind (wpAny_rule (wpAny_pure ?_))
    have hz : IsMap w o (fun x => if x = k then none else f x) n := by
      obtain ⟨l, ep, a, b, c, e⟩ := hm.ex
      refine ⟨l, ep, a, b, fun x => ?_, e⟩
      rw [c]
      by_cases hx : x = k
      · rw [if_pos hx, hx, hk]
      · rw [if_neg hx]
    have z := h o s.heap hz ⟨rfl, rfl, rfl⟩ ho ⟨rfl, fun _ _ => rfl⟩
    rw [hk] at z
    exact z
  · simp only [Option.isNone_some, Bool.false_eq_true, if_false]
    have z := h o' h' hm' hl' hg' hs'
    rw [hk] at z
    refine wpAny_bind ?_
    unfold letGo
    refine wpAny_bind (wpAny_holding (wpAny_point ?_))
    unfold letGo
    exact wpAny_pure (wpAny_pure z)
theorem chk_setdefault {M : Model} {s : Shared} {a : Value} {Q : Unit → Shared → Prop} (x : DLike M s.heap d) (h : Q () s) : wpAny M A (checkBuiltinCall "dict.setdefault" ⟨[.ref d, a, v], []⟩) Q E s := by
  refine chk (n := "setdefault") (owner := "dict") (rest := [a, v]) (kw := []) ?_ ?_ ?_ ?_ ?_
  · decide +kernel
  · exact kind_setdefault
  · exact x.inst
  · exact PySem.F.args_dict_setdefault_3 _ _ _
  · exact h
/-- d.setdefault(k, v) -/
theorem call_dsetdefault {Q : Value → Shared → Prop} (x : DLike (model prog w) s.heap d) (hsys : (d == sysModules) = false) (ho : s.heap.get? d = some o) (hm : IsMap w o f n) (hn : n ≤ sizeLine)
    (h1 : ∀ x, f k = some x → Q x { s with toks := s.toks + 1 })
    (h0 : ∀ o' h', f k = none → IsMap w o' (fun x => if x = k then some v else f x) (n + 1) → Like o o' → h'.get? d = some o' → Heap.SameBut d s.heap h' → Q v { s with heap := h', toks := s.toks + 1 }) :
    wpAny (model prog w) A (call (.builtin "dict.setdefault") [.ref d, .str k t, v]) Q E s := by
  refine wpAny_call (codeAny_call_builtin PySem.F.slot_dict_setdefault.plain PySem.F.entry_dict_setdefault (chk_setdefault x ?_))
  unfold Builtin.«dict.setdefault»
  refine wpAny_bind ?_
  (try dsimp only)
  unfold Builtin.Dict.keyAndDefault
  refine wpAny_bind (notOrd x ?_)
  show wpAny _ _ (pure (d, Value.str k t, some v)) _ _ s
  refine wpAny_pure ?_
  simp only [hsys, Bool.false_eq_true, if_false]
  exact wpAny_bind (dsetdefault ho hm hn (fun x hx => wpAny_pure (h1 x hx)) fun o' h' a b c e q => wpAny_pure (h0 o' h' a b c e q))
end
end
section
/-- all but what lies at these addresses stays -/
def Keeps (as : List Addr) (h h' : Heap) : Prop := ∀ b o, h.get? b = some o → b ∉ as → h'.get? b = some o
theorem Keeps.refl {as : List Addr} {h : Heap} : Keeps as h h := fun _ _ e _ => e
theorem Keeps.trans {as : List Addr} {h h' h'' : Heap} (x : Keeps as h h') (y : Keeps as h' h'') : Keeps as h h'' := fun b o e n => y b o (x b o e n) n
theorem Keeps.mono {as bs : List Addr} {h h' : Heap} (x : Keeps as h h') (s : ∀ a ∈ as, a ∈ bs) : Keeps bs h h' := fun b o e n => x b o e fun m => n (s b m)
theorem Keeps.all {h h' : Heap} (x : Keeps [] h h') : ∀ b o, h.get? b = some o → h'.get? b = some o := fun b o e => x b o e List.not_mem_nil
/-- the room that n more calls need -/
structure Amb (A : Around) (n : Nat) : Prop where
  hd : A.handled = none
  dep : A.depth + n < recursionLimit
  un : A.units + 20 * n < cLine
theorem Amb.deeper {A : Around} {n : Nat} (x : Amb A (n + 1)) (env : Env) : Amb (A.deeper env) n :=
  ⟨x.hd, by have := x.dep; show A.depth + 1 + n < _; omega, by have := x.un; show A.units + 3 + 20 * n < _; omega⟩
theorem Amb.mono {A : Around} {n m : Nat} (x : Amb A n) (h : m ≤ n) : Amb A m := ⟨x.hd, by have := x.dep; omega, by have := x.un; omega⟩
theorem Amb.in1 {A : Around} {n : Nat} (x : Amb A (n + 1)) : Amb A.in1 n := ⟨x.hd, by have := x.dep; show A.depth + n < _; omega, by have := x.un; show A.units + 1 + 20 * n < _; omega⟩
/-- the text's own things in a heap -/
structure Cx (w : World) (h : Heap) : Prop where
  X : (K w.params).In h
  T : ∃ p loose mean mg mb, Top p loose mean mg mb h
  C : CodeHd h 925 921
theorem Cx.keeps {w : World} {h h' : Heap} (x : Cx w h) (k : ∀ b o, h.get? b = some o → h'.get? b = some o) : Cx w h' :=
  ⟨x.X.keeps k, let ⟨p, l, m, a, b, T⟩ := x.T; ⟨p, l, m, a, b, T.keeps k⟩, x.C.keeps k⟩
theorem Cx.nolimit {w : World} {h : Heap} (x : Cx w h) : h.NoLimit := let ⟨_, _, _, _, _, T⟩ := x.T; T.nolimit
section
variable {prog : Program} {w : World} {A : Around} {s : Shared} {R : Result → Shared → Prop} {name qual : Str} {params : Arguments} {body : List Stmt} {scope : Scope} {cl : List (Str × Addr)} {dV kV doc pm cdv ct : Value} {an : Option Addr} {f : Addr} {args : Args} {binds : List (Str × Value)} {n : Nat}
theorem enterAt {fo : Obj} (am : Amb A (n + 1)) (hlim : s.heap.NoLimit) (ho : s.heap.get? f = some fo) (hd : fo.data = .func (fnX name qual params body scope cl dV kV doc pm an cdv ct)) (hcd : s.heap.CodeRec cdv qual) (st : List (Addr × Obj)) (hst : ∀ p ∈ st, s.heap.get? p.1 = some p.2)
    (hbind : BindsTo s (fnX name qual params body scope cl dV kV doc pm an cdv ct) args binds) (hloc : ∀ y ∈ binds, scope.names.lookup y.1 = some .local)
    (hcell : ∀ x ∈ scope.names, x.2 ≠ .cell) (hco : scope.isCoroutine = false) (hgen : scope.isGenerator = false) (hk : scope.kind = .function)
    (h : ∀ g L h₁, g = hideAll s.heap (st.map (·.1)) → L = s.heap.objs.size → Fr g L h₁ (fun y => binds.reverse.lookup y) → News g L h₁ st → (∀ b o, s.heap.get? b = some o → h₁.get? b = some o) →
      wpAny (model prog w) (A.deeper (envX qual scope L f cdv cl)) (execs body (envX qual scope L f cdv cl))
        (fun fl s' => R (.ok (.ret (match fl with | .ret v => v | _ => .none))) s') (fun _ _ => False) { s with heap := h₁, toks := s.toks + binds.length }) :
    codeAny (model prog w) A (.call (.ref f) args) R s := by
  refine codeAny_call_def (fd := fnX name qual params body scope cl dV kV doc pm an cdv ct) (body := body) (binds := binds) (by have := am.dep; omega) ho hd hlim hcd rfl hbind hcell hloc (fun h₁ hns hk₁ => ?_) hco hgen hk
  refine wpAny_mono (h _ s.heap.objs.size h₁ rfl rfl ⟨hns, fun b o e => hk₁ b o (of_hideAll _ e), Nat.le_of_eq (hideAll_size _ _)⟩
    (fun p hp => ⟨hk₁ _ _ (hst p hp), Nat.ne_of_lt (Heap.lt_size (hst p hp)), hideAll_none _ (List.mem_map_of_mem hp)⟩) hk₁) (fun _ _ y => y) fun _ _ y => y.elim
theorem enter {oc : Value} {od : Option Addr} {osl : Array (Option Value)} (am : Amb A (n + 1)) (cx : Cx w s.heap) (ho : (K w.params).lookup f = some ⟨oc, od, .func (fnX name qual params body scope cl dV kV doc pm an cdv ct), osl⟩) (hcd : codeIn (K w.params) cdv qual = true)
    (st : List (Addr × Obj)) (hst : ∀ p ∈ st, s.heap.get? p.1 = some p.2)
    (hbind : BindsTo s (fnX name qual params body scope cl dV kV doc pm an cdv ct) args binds) (hloc : ∀ y ∈ binds, scope.names.lookup y.1 = some .local)
    (hcell : ∀ x ∈ scope.names, x.2 ≠ .cell) (hco : scope.isCoroutine = false) (hgen : scope.isGenerator = false) (hk : scope.kind = .function)
    (h : ∀ g L h₁, g = hideAll s.heap (st.map (·.1)) → L = s.heap.objs.size → Fr g L h₁ (fun y => binds.reverse.lookup y) → News g L h₁ st → (∀ b o, s.heap.get? b = some o → h₁.get? b = some o) →
      wpAny (model prog w) (A.deeper (envX qual scope L f cdv cl)) (execs body (envX qual scope L f cdv cl))
        (fun fl s' => R (.ok (.ret (match fl with | .ret v => v | _ => .none))) s') (fun _ _ => False) { s with heap := h₁, toks := s.toks + binds.length }) :
    codeAny (model prog w) A (.call (.ref f) args) R s :=
  enterAt am cx.nolimit (cx.X _ _ ho) rfl (codeRec_of cx.X hcd) st hst hbind hloc hcell hco hgen hk h
end
section
variable {g h h' : Heap} {L : Addr} {m : Str → Option Value} {as : List Addr} {news : List (Addr × Obj)}
/-- at the end of a frame over a heap with hidden places: what is kept -/
theorem keeps_of {H : Heap} (hg : g = hideAll H as) (F : Fr g L h' m) : Keeps as H h' := fun b o e n => F.keep b o (hg ▸ hideAll_get _ e n)
/-- a frame over a call that turns some places -/
theorem fr_after (F : Fr g L h m) (k : Keeps as h h') (hL : L ∉ as) (ha : ∀ a ∈ as, g.get? a = none) : Fr g L h' m := by
  obtain ⟨oL, es, ep, hLo, r⟩ := F.ns
  exact ⟨⟨oL, es, ep, k _ _ hLo hL, r⟩, fun b o e => k b o (F.keep b o e) (fun hb => by rw [ha b hb] at e; cases e), F.above⟩
theorem news_after (N : News g L h news) (k : Keeps as h h') (hd : ∀ p ∈ news, p.1 ∉ as) : News g L h' news := fun p hp => ⟨k _ _ (N p hp).1 (hd p hp), (N p hp).2⟩
theorem fr_all (F : Fr g L h m) (k : ∀ b o, h.get? b = some o → h'.get? b = some o) : Fr g L h' m := F.after k
theorem news_all (N : News g L h news) (k : ∀ b o, h.get? b = some o → h'.get? b = some o) : News g L h' news := fun p hp => ⟨k _ _ (N p hp).1, (N p hp).2⟩
end
end
section
section
variable {M : Model} {A : Around} {E : Value → Shared → Prop} {s : Shared} {w : World} {g : Heap} {L a : Addr} {m : Str → Option Value} {cn : Str} {cs : Scope} {ccd : Value} {cl : List (Str × Addr)}
  {x : Str} {pos : Pos} {v : Value} {Q : Value → Shared → Prop}
theorem nm_g (F : Fr g L s.heap m) (cx : Cx w g) (e : nsIn (K w.params) mainGlobals x = some (some v)) (h : Q v s)
    (hk : cs.kind = .function := by rfl) (hx : (envX cn cs L a ccd cl).kindOf x = some .globalImplicit := by rfl) (hd : (x == ("__debug__" : Str)) = false := by decide) :
    wpAny M A (eval (.Name x pos) (envX cn cs L a ccd cl)) Q E s := let ⟨_, _, _, _, _, T⟩ := cx.T; nameX_K F cx.X (topRead_of T) e h hk hx hd
theorem nm_b (F : Fr g L s.heap m) (cx : Cx w g) (e : nsIn (K w.params) mainGlobals x = some none) (hv : bootBuiltins x = some v) (hn : x ≠ "__name__") (h : Q v s)
    (hk : cs.kind = .function := by rfl) (hx : (envX cn cs L a ccd cl).kindOf x = some .globalImplicit := by rfl) (hd : (x == ("__debug__" : Str)) = false := by decide) :
    wpAny M A (eval (.Name x pos) (envX cn cs L a ccd cl)) Q E s := let ⟨_, _, _, _, _, T⟩ := cx.T; nameX_B F cx.X (topRead_of T) e hv hn h hk hx hd
/-- a free name, its cell in the base -/
theorem nm_f {c : Addr} {o : Obj} (F : Fr g L s.heap m) (hc : cl.lookup x = some c) (ho : g.get? c = some o) (hd : o.data = .cell (some v)) (h : Q v s)
    (hk : cs.kind = .function := by rfl) (hx : (envX cn cs L a ccd cl).kindOf x = some .free := by rfl) (hb : (x == ("__debug__" : Str)) = false := by decide) (hn : (x == ("__classdict__" : Str)) = false := by decide) :
    wpAny M A (eval (.Name x pos) (envX cn cs L a ccd cl)) Q E s := wpAny_Name (wpAny_loadName_free hk hx hc ⟨o, F.keep _ _ ho, hd⟩ h hn) hb
end
/-- the addresses of the store's things -/
structure SA where
  self : Addr
  dself : Addr
  lam : Addr
  lcode : Addr
  cell : Addr
  clk : Addr
  C : Addr
  E : Addr
  V : Addr
  cd : Addr
  t1 : Tok
  t2 : Tok
  t3 : Tok
  t4 : Tok
  ctv : Value
  pm : Value
  n : Nat
def stLaw : Stmt := nthS prog.main.body 31
def lamE : Expr := match nthS (fBody stLaw) 3 with
  | .Assign _ (.Call _ (e :: _) _ _) _ => e
  | _ => .Constant .none 0 default
def lamA : Arguments := match lamE with | .Lambda a _ _ _ => a | _ => default
def lamB : Expr := match lamE with | .Lambda _ b _ _ => b | _ => .Constant .none 0 default
def lamS : Scope := match lamE with | .Lambda _ _ sc _ => sc | _ => default
/-- the store's own dict -/
def selfD (w : World) (S : SA) : List DictEntry :=
  [⟨PyData.keyHash w.params (Str.ofString "clock"), .str (Str.ofString "clock") S.t1, .ref S.lam⟩, ⟨PyData.keyHash w.params (Str.ofString "storage"), .str (Str.ofString "storage") S.t2, .ref S.C⟩,
   ⟨PyData.keyHash w.params (Str.ofString "expirations"), .str (Str.ofString "expirations") S.t3, .ref S.E⟩, ⟨PyData.keyHash w.params (Str.ofString "events"), .str (Str.ofString "events") S.t4, .ref S.V⟩]
/-- the store, what never turns in it, and its clock -/
structure Sto (w : World) (S : SA) (h : Heap) (c : Int) : Prop where
  self : h.get? S.self = some ⟨.ref 972, some S.dself, .plain, #[]⟩
  dict : h.get? S.dself = some (dictOf (selfD w S) 4)
  lam : h.get? S.lam = some (kla_obj (Str.ofString "<lambda>") (Str.ofString "law.<locals>.<lambda>") lamA lamB lamS [(Str.ofString "clock", S.cell)] S.pm S.lcode S.ctv)
  code : h.CodeRec (.ref S.lcode) (Str.ofString "law.<locals>.<lambda>")
  cd : h.get? S.cd = some (dictOf [] 0)
  cell : ∃ o, h.get? S.cell = some o ∧ o.data = .cell (some (.ref S.clk))
  clk : ∃ t n, h.get? S.clk = some ⟨.type "list", none, .seq #[.int c t] n, #[]⟩
theorem Sto.keeps {w : World} {S : SA} {h h' : Heap} {c : Int} (x : Sto w S h c) (k : ∀ b o, h.get? b = some o → h'.get? b = some o) : Sto w S h' c :=
  ⟨k _ _ x.self, k _ _ x.dict, k _ _ x.lam, x.code.keeps k, k _ _ x.cd, let ⟨o, a, b⟩ := x.cell; ⟨o, k _ _ a, b⟩, let ⟨t, n, a⟩ := x.clk; ⟨t, n, k _ _ a⟩⟩
end
section
/-- the state: a heap, a number of tokens, all else as at first -/
abbrev stt (s : Shared) (h : Heap) (t : Nat) : Shared := ⟨h, s.gens, s.drawn, t, s.os⟩
section
variable {pr : Program} {w : World} {A : Around} {E : Value → Shared → Prop} {s : Shared} {h : Heap} {t : Nat} {env : Env} {g : Heap} {L a : Addr} {m : Str → Option Value} {cn : Str} {cs : Scope} {ccd : Value} {cl : List (Str × Addr)} {news : List (Addr × Obj)}
  {x : Str} {pos : Pos} {v : Value} {i j : Int} {u u' : Tok}
theorem c_int {k : Nat} {Q : Value → Shared → Prop} (q : ∀ u t', Q (.int i u) (stt s h t')) : wpAny (model pr w) A (eval (.Constant (.int i) k pos) env) Q E (stt s h t) := wpAny_Constant_int (q _ _)
theorem c_str {k : Nat} {Q : Value → Shared → Prop} (q : ∀ u t', Q (.str x u) (stt s h t')) : wpAny (model pr w) A (eval (.Constant (.str x) k pos) env) Q E (stt s h t) := Constant_str (q _ _)
theorem c_none {k : Nat} {Q : Value → Shared → Prop} (q : Q .none (stt s h t)) : wpAny (model pr w) A (eval (.Constant .none k pos) env) Q E (stt s h t) := fun _ _ _ => q
theorem c_bool {k : Nat} {b : Bool} {Q : Value → Shared → Prop} (q : Q (.bool b) (stt s h t)) : wpAny (model pr w) A (eval (.Constant (.bool b) k pos) env) Q E (stt s h t) := fun _ _ _ => q
theorem b_add {Q : Value → Shared → Prop} (q : ∀ u t', Q (.int (i + j) u) (stt s h t')) : wpAny (model pr w) A (binaryOp .Add (.int i u) (.int j u')) Q E (stt s h t) := P.add_int (q _ _)
theorem b_sub {Q : Value → Shared → Prop} (q : ∀ u t', Q (.int (i - j) u) (stt s h t')) : wpAny (model pr w) A (binaryOp .Sub (.int i u) (.int j u')) Q E (stt s h t) := P.sub_int (q _ _)
theorem bits64 {x : Int} (hx : -1000000 < x ∧ x < 1000000) : Builtin.Int.intBits x ≤ 64 := by
  unfold Builtin.Int.intBits
  split
  · exact Nat.zero_le _
  · rename_i h0
    have h1 : x.natAbs ≠ 0 := by intro e; apply h0; have : x = 0 := by omega
                                 subst this; rfl
    have : x.natAbs.log2 < 20 := (Nat.log2_lt h1).mpr (by omega)
    omega
theorem b_mulR {Q : Value → Shared → Prop} (hx : -1000000 < j ∧ j < 1000000) (q : ∀ u t', Q (.int (i * j) u) (stt s h t')) : wpAny (model pr w) A (binaryOp .Mult (.int i u) (.int j u')) Q E (stt s h t) := P.mul_int (q _ _) (.of_right (bits64 hx))
theorem b_mulL {Q : Value → Shared → Prop} (hx : -1000000 < i ∧ i < 1000000) (q : ∀ u t', Q (.int (i * j) u) (stt s h t')) : wpAny (model pr w) A (binaryOp .Mult (.int i u) (.int j u')) Q E (stt s h t) := P.mul_int (q _ _) (.of_left (bits64 hx))
theorem b_div {Q : Value → Shared → Prop} (h0 : 0 < j) (h1 : j < 1000000) (q : ∀ u t', Q (.int (i / j) u) (stt s h t')) : wpAny (model pr w) A (binaryOp .FloorDiv (.int i u) (.int j u')) Q E (stt s h t) := by
  refine floordiv_int (by omega) ?_ (.inl (PyProof.noPylong_small (by omega)))
  have e : i.fdiv j = i / j := Int.fdiv_eq_ediv_of_nonneg _ (by omega)
  rw [e]; exact q _ _
theorem b_mod {Q : Value → Shared → Prop} (hA : A.handled = none) (h0 : 0 < j) (q : ∀ u t', Q (.int (i % j) u) (stt s h t')) : wpAny (model pr w) A (binaryOp .Mod (.int i u) (.int j u')) Q E (stt s h t) := by
  refine mod_int_or hA (fun e => absurd e (by omega)) fun _ => ?_
  have e : i.fmod j = i % j := Int.fmod_eq_emod_of_nonneg _ (by omega)
  rw [e]; exact q _ _
theorem u_neg {Q : Value → Shared → Prop} (q : ∀ u t', Q (.int (-i) u) (stt s h t')) : wpAny (model pr w) A (unaryOp .USub (.int i u)) Q E (stt s h t) := P.neg_int (q _ _)
/-- a local is stored -/
theorem s_loc {Q : Unit → Shared → Prop} (F : Fr g L h m) (N : News g L h news)
    (q : ∀ h' t', Fr g L h' (fun y => if y = x then some v else m y) → News g L h' news → Keeps [L] h h' → Q () (stt s h' t'))
    (hk : cs.kind = .function := by rfl) (hx : (envX cn cs L a ccd cl).kindOf x = some .local := by rfl) : wpAny (model pr w) A (storeName (envX cn cs L a ccd cl) x v) Q E (stt s h t) :=
  wpAny_storeName_local (s := stt s h t) hx F.ns (fun h' hn hs => q h' _ (F.set hn hs) (N.set hs) (fun b o e n => (hs.2 b (fun z => n (z ▸ List.mem_singleton.mpr rfl))).trans e)) (by show (cs.kind == .class || (cs.kind == .module && L != mainGlobals)) = false; rw [hk]; rfl)
theorem lt_of_get {h : Heap} {b : Addr} {o : Obj} (e : h.get? b = some o) : b < h.objs.size := Heap.lt_size e
theorem n_tuple {vs : List Value} {Q : Value → Shared → Prop} (F : Fr g L h m) (N : News g L h news) (hz : vs.length ≤ sizeLine)
    (q : ∀ T h', Fr g L h' m → News g L h' ((T, { cls := .type "tuple", data := .seq vs.toArray }) :: news) → Keeps [] h h' → (∀ b o, h.get? b = some o → b < T) → Q (.ref T) (stt s h' t)) : wpAny (model pr w) A (newTuple vs) Q E (stt s h t) :=
  wpAny_newObj_type (s := stt s h t) (q _ _ (F.push _) (N.push F _) (fun b o e _ => Heap.get?_push_of_some _ e) fun b o e => Heap.lt_size e) (by show vs.toArray.size ≤ sizeLine; rw [List.size_toArray]; exact hz)
theorem n_list {vs : List Value} {Q : Value → Shared → Prop} (F : Fr g L h m) (N : News g L h news) (hz : vs.length ≤ sizeLine)
    (q : ∀ T h', Fr g L h' m → News g L h' ((T, { cls := .type "list", data := .seq vs.toArray }) :: news) → Keeps [] h h' → (∀ b o, h.get? b = some o → b < T) → Q (.ref T) (stt s h' t)) : wpAny (model pr w) A (newList vs) Q E (stt s h t) :=
  wpAny_newObj_type (s := stt s h t) (q _ _ (F.push _) (N.push F _) (fun b o e _ => Heap.get?_push_of_some _ e) fun b o e => Heap.lt_size e) (by show vs.toArray.size ≤ sizeLine; rw [List.size_toArray]; exact hz)
end
end
section
section
variable {pr : Program} {w : World} {A : Around} {E : Value → Shared → Prop} {s : Shared} {h : Heap} {t : Nat}
/-- an item of a list in the heap, at a written place -/
theorem sub_list {value slice : Expr} {l : Addr} {vs : Array Value} {k : Int} {u : Tok} {v : Value} {Q : Value → Shared → Prop}
    (hl : s.heap.IsList l vs) (h0 : 0 ≤ k) (hhi : k < 2 ^ 63) (hx : vs[k.toNat]? = some v) (q : Q v s)
    (hs : subscripted slice false (.ref l) (.int k u) = operate [.ref l, .int k u] (getItem (.ref l) (.int k u)) := by with_unfolding_all rfl) :
    wpAny (model pr w) A (subscriptTail value slice (.ref l) (.int k u)) Q E s :=
  tail_any hl.typeIs slot_list_getitem.lookup (wpAny_getItem_list hl h0 hhi hx q) hs
/-- the clock's call -/
theorem call_lam {S : SA} {c : Int} {n : Nat} {Q : Value → Shared → Prop} (am : Amb A (n + 1)) (hlim : h.NoLimit) (st : Sto w S h c)
    (q : ∀ u h' t', Keeps [] h h' → Q (.int c u) (stt s h' t')) :
    wpAny (model pr w) A (call (.ref S.lam) []) Q E (stt s h t) := by
  refine wpAny_call ?_
  refine kla_callFunE (s := stt s h t) (body := lamB) (by have := am.dep; omega) st.lam rfl rfl rfl rfl st.code ?_
  refine wpAny_pure (a := []) ?_
  refine wpAny_newFunctionEnv (show ∀ x ∈ lamS.names, x.2 ≠ .cell by decide) (by intro y hy; cases hy) (fun h₁ hns hsb => ⟨hlim.fresh _ hsb, ?_⟩) rfl
  have k : ∀ b o, h.get? b = some o → h₁.get? b = some o := fun b o e => hsb.extBut b o (Nat.ne_of_lt (Heap.lt_size e)) (Heap.get?_push_of_some _ e)
  refine kla_codeExpr ?_
  have st₁ := st.keeps k
  obtain ⟨oc, hoc, hdc⟩ := st₁.cell
  obtain ⟨t, m, hcl⟩ := st₁.clk
  show wpAny _ _ (eval (.Subscript (.Name (Str.ofString "clock") _) (.Constant (.int 0) 0 _) _) _) _ _ _
  refine Subscript_ ?_
  refine wpAny_Name (wpAny_loadName_free (c := S.cell) rfl rfl rfl ⟨oc, hoc, hdc⟩ ?_)
  refine wpAny_Constant_int ?_
  refine sub_list (vs := #[.int c t]) ⟨_, hcl, rfl, _, rfl⟩ (by decide) (by decide) rfl ?_
  exact q _ _ _ fun b o e _ => k b o e
end
end
section
theorem pg972 (P : Params) (x : Str) : plainGet (K P) 972 x = true := by kernel_rfl
theorem hd972 (P : Params) : hasDictIn (K P) 972 = true := by kernel_rfl
theorem ga849 (P : Params) : findIn (K P) (.ref 849) "__getattribute__" = some (some (.builtin "dict.__getattribute__")) := by kernel_rfl
theorem gt849 (P : Params) : findIn (K P) (.ref 849) "__getattr__" = some none := by kernel_rfl
theorem get849 (P : Params) : findIn (K P) (.ref 849) (Str.ofString "get") = some (some (.builtin "dict.get")) := by kernel_rfl
theorem pop849 (P : Params) : findIn (K P) (.ref 849) (Str.ofString "pop") = some (some (.builtin "dict.pop")) := by kernel_rfl
theorem canonD : (Manifest.canonical "dict.__getattribute__" != "object.__getattribute__") = false := by decide +kernel
theorem hd849 (P : Params) : hasDictIn (K P) 849 = true := by kernel_rfl
theorem f972_clock (P : Params) : findIn (K P) (.ref 972) (Str.ofString "clock") = some none := by kernel_rfl
theorem f972_storage (P : Params) : findIn (K P) (.ref 972) (Str.ofString "storage") = some none := by kernel_rfl
theorem f972_expirations (P : Params) : findIn (K P) (.ref 972) (Str.ofString "expirations") = some none := by kernel_rfl
theorem f972_events (P : Params) : findIn (K P) (.ref 972) (Str.ofString "events") = some none := by kernel_rfl
section
variable {pr : Program} {w : World} {A : Around} {E : Value → Shared → Prop} {s : Shared} {h : Heap} {t : Nat} {S : SA} {g : Heap} {L : Addr} {m : Str → Option Value} {c : Int} {x : Addr}
theorem Sto.inst (st : Sto w S h c) : InstAt h S.self ⟨.ref 972, some S.dself, .plain, #[]⟩ 972 (some (dictOf (selfD w S) 4)) := ⟨st.self, rfl, rfl, st.dict⟩
theorem at_clock {ex : Bool} {Q : Value → Shared → Prop} (F : Fr g L h m) (cx : Cx w g) (st : Sto w S g c) (q : ∀ t', Q (.ref S.lam) (stt s h t')) : wpAny (model pr w) A (getAttr (.ref S.self) (Str.ofString "clock") ex) Q E (stt s h t) :=
  get_own (s := stt s h t) F cx.X (st.keeps F.keep).inst (pg972 _ _) (hd972 _) (f972_clock _) rfl rfl rfl (q _)
theorem at_storage {ex : Bool} {Q : Value → Shared → Prop} (F : Fr g L h m) (cx : Cx w g) (st : Sto w S g c) (q : ∀ t', Q (.ref S.C) (stt s h t')) : wpAny (model pr w) A (getAttr (.ref S.self) (Str.ofString "storage") ex) Q E (stt s h t) :=
  get_own (s := stt s h t) F cx.X (st.keeps F.keep).inst (pg972 _ _) (hd972 _) (f972_storage _) rfl rfl rfl (q _)
theorem at_expirations {ex : Bool} {Q : Value → Shared → Prop} (F : Fr g L h m) (cx : Cx w g) (st : Sto w S g c) (q : ∀ t', Q (.ref S.E) (stt s h t')) : wpAny (model pr w) A (getAttr (.ref S.self) (Str.ofString "expirations") ex) Q E (stt s h t) :=
  get_own (s := stt s h t) F cx.X (st.keeps F.keep).inst (pg972 _ _) (hd972 _) (f972_expirations _) rfl rfl rfl (q _)
theorem at_events {ex : Bool} {Q : Value → Shared → Prop} (F : Fr g L h m) (cx : Cx w g) (st : Sto w S g c) (q : ∀ t', Q (.ref S.V) (stt s h t')) : wpAny (model pr w) A (getAttr (.ref S.self) (Str.ofString "events") ex) Q E (stt s h t) :=
  get_own (s := stt s h t) F cx.X (st.keeps F.keep).inst (pg972 _ _) (hd972 _) (f972_events _) rfl rfl rfl (q _)
/-- self.clock as a method's place -/
theorem mt_clock {pl : Sem Bool} {Q : Value × List Value → Shared → Prop} (F : Fr g L h m) (cx : Cx w g) (st : Sto w S g c) (q : ∀ t', Q (.ref S.lam, []) (stt s h t')) : wpAny (model pr w) A (getMethod (.ref S.self) (Str.ofString "clock") pl) Q E (stt s h t) :=
  method_usual (s := stt s h t) (cx.X.keeps F.keep) (st.keeps F.keep).inst (plainGet_of (pg972 _ (Str.ofString "clock"))).1 (plainGet_of (pg972 _ (Str.ofString "clock"))).2 (f972_clock _) rfl (at_clock F cx st q)
/-- a method of the store's -/
theorem mt_store {name : Str} {f : Addr} {pl : Sem Bool} {Q : Value × List Value → Shared → Prop} (F : Fr g L s.heap m) (cx : Cx w g) (st : Sto w S g c) (hf : findIn (K w.params) (.ref 972) name = some (some (.ref f))) (ht : isFn (K w.params) (.ref f) = true)
    (hl : getL name (selfD w S) = some none) (h : Q (.ref f, [.ref S.self]) s) : wpAny (model pr w) A (getMethod (.ref S.self) name pl) Q E s :=
  method_inst F cx.X (st.keeps F.keep).inst (pg972 _ _) hf ht hl h
theorem method_desc {K : Frag} {x C : Addr} {ox : Obj} {od : Option Obj} {name : Str} {id : String} {pl : Sem Bool} {Q : Value × List Value → Shared → Prop} (X : K.In s.heap) (I : InstAt s.heap x ox C od) {ga : String} (hga : findIn K (.ref C) "__getattribute__" = some (some (.builtin ga))) (hcan : (Manifest.canonical ga != "object.__getattribute__") = false) (hk : findIn K (.ref C) "__getattr__" = some none)
    (hf : findIn K (.ref C) name = some (some (.builtin id))) (ht : typeOf (.builtin id) = pure (.type "method_descriptor")) (hs : shadowIn od name = some false) (h : Q (.builtin id, [.ref x]) s) :
    wpAny (model pr w) A (getMethod (.ref x) name pl) Q E s := by
  unfold getMethod specialOf
  refine wpAny_bind (wpAny_bind (I.type.here ((looks_findIn X hga).here ?_)))
  dsimp only
  rw [hcan, if_neg (by decide)]
  refine wpAny_bind (wpAny_bind (I.type.here ((looks_findIn X hk).here ?_)))
  simp only [Option.isSome_none, Bool.false_eq_true, if_false]
  refine wpAny_bind (wpAny_bind (I.type.here ((looks_findIn X hf).here ?_)))
  dsimp only
  rw [ht]
  refine wpAny_bind (wpAny_pure ?_)
  rw [if_neg (by decide)]
  obtain ⟨hx, hc, hn, hd⟩ := I
  refine wpAny_bind (wpAny_loadPart hx ?_)
  cases e : ox.dict with
  | none => exact wpAny_bind (wpAny_rule (wpAny_pure h))
  | some dx =>
    rw [e] at hd
    cases od with
    | none => exact hd.elim
    | some o =>
      obtain ⟨r, hr, hr2⟩ := Option.map_eq_some_iff.mp (show (lookIn name o).map (·.isSome) = some false from hs)
      have hr3 : r = none := by cases r with | none => rfl | some _ => cases hr2
      subst hr3
      dsimp only
      refine wpAny_bind (m := nsGet dx name) ?_
      unfold nsGet
      refine wpAny_bind (wpAny_loadPart hd ?_)
      rw [nsLook_of hr]
      refine wpAny_pure ?_
      simp only [Option.isSome_none, Bool.false_eq_true, if_false]
      exact wpAny_bind (wpAny_rule (wpAny_pure h))
/-- the Counter as it lies -/
structure IsCtr (S : SA) (o : Obj) : Prop where
  cls : o.cls = .ref 849
  dict : o.dict = some S.cd
theorem IsCtr.like {o o' : Obj} (x : IsCtr S o) (l : Like o o') : IsCtr S o' := ⟨l.cls.trans x.cls, l.dict.trans x.dict⟩
theorem IsCtr.inst {o : Obj} {f n} (x : IsCtr S o) (st : Sto w S h c) (ho : h.get? S.C = some o) (hm : IsMap w o f n) : InstAt h S.C o 849 (some (dictOf [] 0)) :=
  ⟨ho, x.cls, by obtain ⟨l, ep, hd, _⟩ := hm.ex; unfold notCls; rw [hd], by rw [x.dict]; exact st.cd⟩
theorem mt_cget {o : Obj} {f n} {pl : Sem Bool} {Q : Value × List Value → Shared → Prop} (F : Fr g L s.heap m) (cx : Cx w g) (st : Sto w S g c) (ho : s.heap.get? S.C = some o) (x : IsCtr S o) (hm : IsMap w o f n) (h : Q (.builtin "dict.get", [.ref S.C]) s) :
    wpAny (model pr w) A (getMethod (.ref S.C) (Str.ofString "get") pl) Q E s :=
  method_desc (cx.X.keeps F.keep) (x.inst (st.keeps F.keep) ho hm) (ga849 _) canonD (gt849 _) (get849 _) PySem.F.type_dict_get rfl h
theorem mt_cpop {o : Obj} {f n} {pl : Sem Bool} {Q : Value × List Value → Shared → Prop} (F : Fr g L s.heap m) (cx : Cx w g) (st : Sto w S g c) (ho : s.heap.get? S.C = some o) (x : IsCtr S o) (hm : IsMap w o f n) (h : Q (.builtin "dict.pop", [.ref S.C]) s) :
    wpAny (model pr w) A (getMethod (.ref S.C) (Str.ofString "pop") pl) Q E s :=
  method_desc (cx.X.keeps F.keep) (x.inst (st.keeps F.keep) ho hm) (ga849 _) canonD (gt849 _) (pop849 _) PySem.F.type_dict_pop rfl h
/-- a dict's method -/
theorem mt_dict {o : Obj} {d : Addr} {name : Str} {id : String} {pl : Sem Bool} {Q : Value × List Value → Shared → Prop} (slot : Slot "dict" name id) (hty : typeOf (.builtin id) = pure (.type "method_descriptor"))
    (ho : s.heap.get? d = some o) (hc : o.cls = .type "dict") (hd : o.dict = none) (h : Q (.builtin id, [.ref d]) s) : wpAny (model pr w) A (getMethod (.ref d) name pl) Q E s :=
  getMethod_builtin ⟨o, ho, hc⟩ PySem.F.plainAttrs_dict slot hty (fun a e => by cases e; exact ⟨o, ho, hd⟩) h
end
end
section
abbrev Sub (r h : Heap) : Prop := ∀ b o, r.get? b = some o → h.get? b = some o
theorem Sub.keeps {r h h' : Heap} {as : List Addr} (x : Sub r h) (k : Keeps as h h') (n : ∀ a ∈ as, r.get? a = none) : Sub r h' := fun b o e => k b o (x b o e) fun m => by rw [n b m] at e; cases e
theorem Sub.hide {r h : Heap} {as : List Addr} (x : Sub r h) (n : ∀ a ∈ as, r.get? a = none) : Sub r (hideAll h as) := fun b o e => hideAll_get _ (x b o e) fun m => by rw [n b m] at e; cases e
/-- the root: what no call turns -/
structure Rt (w : World) (S : SA) (c : Int) (r : Heap) : Prop where
  cx : Cx w r
  st : Sto w S r c
  nC : r.get? S.C = none
  nE : r.get? S.E = none
  nV : r.get? S.V = none
  nT : r.get? 921 = none
  sC : (S.C == sysModules) = false
  sE : (S.E == sysModules) = false
  sV : (S.V == sysModules) = false
  dCE : S.C ≠ S.E
  dCV : S.C ≠ S.V
  dEV : S.E ≠ S.V
theorem Rt.nCE {w S c r} (x : Rt w S c r) : ∀ a ∈ [S.C, S.E], r.get? a = none := by
  intro a ha
  simp only [List.mem_cons, List.not_mem_nil, or_false] at ha
  rcases ha with rfl | rfl
  · exact x.nC
  · exact x.nE
def Ints (f : Str → Option Value) (σ : Str → Option Int) : Prop := ∀ k, (σ k = none ∧ f k = none) ∨ ∃ i t, σ k = some i ∧ f k = some (.int i t)
theorem Ints.getD {f σ} (x : Ints f σ) (k : Str) (t : Tok) : ∃ u, (f k).getD (.int 0 t) = .int ((σ k).getD 0) u := by
  rcases x k with ⟨a, b⟩ | ⟨i, u, a, b⟩
  · rw [a, b]; exact ⟨t, rfl⟩
  · rw [a, b]; exact ⟨u, rfl⟩
def del {α : Type} (σ : Str → Option α) (k : Str) : Str → Option α := fun x => if x = k then none else σ x
def put {α : Type} (σ : Str → Option α) (k : Str) (v : α) : Str → Option α := fun x => if x = k then some v else σ x
theorem Ints.del {f σ} (x : Ints f σ) (k : Str) : Ints (fun x => if x = k then none else f x) (del σ k) := fun y => by
  unfold BN.del
  dsimp only
  by_cases h : y = k
  · rw [if_pos h, if_pos h]; exact .inl ⟨rfl, rfl⟩
  · rw [if_neg h, if_neg h]; exact x y
theorem Ints.put {f σ} (x : Ints f σ) (k : Str) (i : Int) (t : Tok) : Ints (fun x => if x = k then some (.int i t) else f x) (put σ k i) := fun y => by
  unfold BN.put
  dsimp only
  by_cases h : y = k
  · rw [if_pos h, if_pos h]; exact .inr ⟨i, t, rfl, rfl⟩
  · rw [if_neg h, if_neg h]; exact x y
def CtrAt (w : World) (S : SA) (h : Heap) (σ : Str → Option Int) (n : Nat) : Prop := ∃ o f, h.get? S.C = some o ∧ IsCtr S o ∧ IsMap w o f n ∧ Ints f σ
structure IsD (o : Obj) : Prop where
  cls : o.cls = .type "dict"
  dict : o.dict = none
theorem IsD.like {o o' : Obj} (x : IsD o) (l : Like o o') : IsD o' := ⟨l.cls.trans x.cls, l.dict.trans x.dict⟩
def ExpAt (w : World) (S : SA) (h : Heap) (ε : Str → Option Int) (n : Nat) : Prop := ∃ o f, h.get? S.E = some o ∧ IsD o ∧ IsMap w o f n ∧ Ints f ε
theorem CtrAt.keeps {w S h h' σ n as} (x : CtrAt w S h σ n) (k : Keeps as h h') (m : S.C ∉ as) : CtrAt w S h' σ n := let ⟨o, f, a, b⟩ := x; ⟨o, f, k _ _ a m, b⟩
theorem ExpAt.keeps {w S h h' σ n as} (x : ExpAt w S h σ n) (k : Keeps as h h') (m : S.E ∉ as) : ExpAt w S h' σ n := let ⟨o, f, a, b⟩ := x; ⟨o, f, k _ _ a m, b⟩
def gotS (σ ε : Str → Option Int) (c : Int) (k : Str) : Str → Option Int := if (ε k).getD 0 ≤ c then del σ k else σ
def gotE (ε : Str → Option Int) (c : Int) (k : Str) : Str → Option Int := if (ε k).getD 0 ≤ c then del ε k else ε
abbrev stM (j : Nat) : Stmt := nthS (cBody (nthS prog.main.body 28)) j
section
variable {g h h' : Heap} {L d : Addr} {m : Str → Option Value} {pre post : List (Addr × Obj)} {o o' : Obj}
theorem Keeps.of_same (hs : Heap.SameBut d h h') : Keeps [d] h h' := fun b o e n => (hs.2 b (fun z => n (z ▸ List.mem_singleton.mpr rfl))).trans e
theorem fr_upd (F : Fr g L h m) (N : News g L h (pre ++ (d, o) :: post)) (hs : Heap.SameBut d h h') : Fr g L h' m :=
  have z := N (d, o) (List.mem_append_right _ (.head _))
  fr_after F (Keeps.of_same hs) (fun e => z.2.1 (List.mem_singleton.mp e).symm) (fun a ha => (List.mem_singleton.mp ha) ▸ z.2.2)
theorem news_put (N : News g L h (pre ++ (d, o) :: post)) (h1 : ∀ p ∈ pre, p.1 ≠ d) (h2 : ∀ p ∈ post, p.1 ≠ d) (hs : Heap.SameBut d h h') (ho' : h'.get? d = some o') : News g L h' (pre ++ (d, o') :: post) := fun p hp => by
  have z := N (d, o) (List.mem_append_right _ (.head _))
  rcases List.mem_append.mp hp with hp | hp
  · have n := N p (List.mem_append_left _ hp)
    exact ⟨(hs.2 _ (h1 p hp)).trans n.1, n.2⟩
  · rcases List.mem_cons.mp hp with rfl | hp
    · exact ⟨ho', z.2⟩
    · have n := N p (List.mem_append_right _ (.tail _ hp))
      exact ⟨(hs.2 _ (h2 p hp)).trans n.1, n.2⟩
end
section
variable {pr : Program} {w : World} {A : Around} {E : Value → Shared → Prop} {s : Shared} {h : Heap} {t : Nat} {d : Addr} {o : Obj} {f : Str → Option Value} {n : Nat} {k : Str} {u : Tok} {dflt : Value}
theorem w_dget {Q : Value → Shared → Prop} (x : DLike (model pr w) h d) (hsys : (d == sysModules) = false) (ho : h.get? d = some o) (hm : IsMap w o f n)
    (q : ∀ t', Q ((f k).getD dflt) (stt s h t')) : wpAny (model pr w) A (call (.builtin "dict.get") [.ref d, .str k u, dflt]) Q E (stt s h t) := call_dget (s := stt s h t) x hsys ho hm (q _)
theorem w_dpop {Q : Value → Shared → Prop} (x : DLike (model pr w) h d) (hsys : (d == sysModules) = false) (ho : h.get? d = some o) (hm : IsMap w o f n) (hn : n ≤ sizeLine)
    (q : ∀ o' h' t', IsMap w o' (fun x => if x = k then none else f x) n → Like o o' → h'.get? d = some o' → Heap.SameBut d h h' → Q ((f k).getD dflt) (stt s h' t')) :
    wpAny (model pr w) A (call (.builtin "dict.pop") [.ref d, .str k u, dflt]) Q E (stt s h t) := call_dpop (s := stt s h t) x hsys ho hm hn fun o' h' a b c e => q o' h' _ a b c e
end
section
variable {pr : Program} {w : World} {A : Around} {s : Shared} {h₀ : Heap} {t₀ : Nat} {S : SA} {r : Heap} {c : Int} {σ ε : Str → Option Int} {n n' : Nat} {k : Str} {t : Tok} {R : Result → Shared → Prop}
theorem get_spec (rt : Rt w S c r) (kr : Sub r h₀) (am : Amb A 2) (hc : CtrAt w S h₀ σ n) (he : ExpAt w S h₀ ε n') (hn : n ≤ sizeLine) (hn' : n' ≤ sizeLine)
    (q : ∀ u h' t', Keeps [S.C, S.E] h₀ h' → CtrAt w S h' (gotS σ ε c k) n → ExpAt w S h' (gotE ε c k) n' → R (.ok (.ret (.int ((gotS σ ε c k k).getD 0) u))) (stt s h' t')) :
    codeAny (model pr w) A (.call (.ref 897) ⟨[.ref S.self, .str k t], []⟩) R (stt s h₀ t₀) := by
  obtain ⟨oC, fC, hoC, iC, mC, vC⟩ := hc
  obtain ⟨oE, fE, hoE, iE, mE, vE⟩ := he
  refine enter (s := stt s h₀ t₀) am (rt.cx.keeps kr) (k897 _) rfl (binds := [(Str.ofString "self", .ref S.self), (Str.ofString "key", .str k t)]) [(S.C, oC), (S.E, oE)] ?_ (BindsTo.of_eq rfl) (locs rfl) (by decide) rfl rfl rfl ?_
  · intro p hp
    simp only [List.mem_cons, List.not_mem_nil, or_false] at hp
    rcases hp with rfl | rfl <;> assumption
  intro g L h₁ hg hL F N k₁
  have kg : Sub r g := hg ▸ kr.hide rt.nCE
  have cx := rt.cx.keeps kg
  have st := rt.st.keeps kg
  have tail : ∀ oC' oE' fC' fE' h' t', Fr g L h' (fun y => [(Str.ofString "self", Value.ref S.self), (Str.ofString "key", Value.str k t)].reverse.lookup y) → News g L h' [(S.C, oC'), (S.E, oE')] → IsCtr S oC' → IsMap w oC' fC' n → Ints fC' (gotS σ ε c k) → IsD oE' → IsMap w oE' fE' n' → Ints fE' (gotE ε c k) →
      wpAny (model pr w) (A.deeper (envX (Str.ofString "MemoryStorage.get") (fScope (stM 5)) L 897 (.ref 896) [])) (execs ((fBody (stM 5)).drop 2) (envX (Str.ofString "MemoryStorage.get") (fScope (stM 5)) L 897 (.ref 896) []))
        (fun fl s' => R (.ok (.ret (match fl with | .ret v => v | _ => .none))) s') (fun _ _ => False) (stt s h' t') := by
    intro oC' oE' fC' fE' h' t' F N iC mC vC iE mE vE
    have hC := N.get (.head _)
    refine wpAny_execs_cons ?_
    refine wpAny_Return_some ?_
    refine MethodCall_ ?_
    refine Attribute_any_ ?_
    refine nameX_L F rfl ?_
    refine at_storage F cx st fun _ => ?_
    refine mt_cget F cx st hC iC mC ?_
    refine callWith_method1 ?_
    refine spliced_more ?_
    refine nameX_L F rfl ?_
    refine spliced_more ?_
    refine c_int fun u _ => ?_
    refine spliced_none ?_
    refine w_dget (DLike.counter (rt.cx.X.keeps fun b o e => F.keep b o (kg b o e)) hC iC.cls) rt.sC hC mC fun _ => ?_
    obtain ⟨u₂, e₂⟩ := vC.getD k u
    rw [e₂]
    exact q _ _ _ (keeps_of hg F) ⟨_, _, hC, iC, mC, vC⟩ ⟨_, _, N.get (.tail _ (.head _)), iE, mE, vE⟩
  refine wpAny_execs_cons ?_
  refine wpAny_Expr ?_
  refine c_str fun _ _ => ?_
  dsimp only
  refine wpAny_execs_cons ?_
  refine wpAny_If ?_
  refine wpAny_isTrue_Compare1 ?_
  refine MethodCall_ ?_
  refine Attribute_any_ ?_
  refine nameX_L F rfl ?_
  refine at_expirations F cx st fun _ => ?_
  have hE₁ := k₁ _ _ hoE
  refine mt_dict PySem.F.slot_dict_get PySem.F.type_dict_get hE₁ iE.cls iE.dict ?_
  refine callWith_method1 ?_
  refine spliced_more ?_
  refine nameX_L F rfl ?_
  refine spliced_more ?_
  refine c_int fun _ _ => ?_
  refine spliced_none ?_
  refine w_dget (DLike.exact hE₁ iE.cls) rt.sE hE₁ mE fun _ => ?_
  obtain ⟨u₂, e₂⟩ := vE.getD k _
  rw [e₂]
  refine MethodCall_ ?_
  refine nameX_L F rfl ?_
  refine mt_clock F cx st fun _ => ?_
  refine callWith_F0 ⟨_, _, _, _, (st.keeps F.keep).lam⟩ ?_
  refine call_lam (n := 0) (am.deeper _) (cx.keeps F.keep).nolimit (st.keeps F.keep) fun _ h₂ _ k₂ => ?_
  have F₂ := fr_all F k₂.all
  have N₂ := news_all N k₂.all
  refine P.le_int ?_
  refine wpAny_truthy_bool ?_
  have hC₂ := N₂.get (.head _)
  have hE₂ := N₂.get (.tail _ (.head _))
  by_cases hle : (ε k).getD 0 ≤ c
  · rw [if_pos (decide_eq_true hle)]
    have eS : gotS σ ε c k = del σ k := if_pos hle
    have eE : gotE ε c k = del ε k := if_pos hle
    refine wpAny_execs_cons ?_
    refine wpAny_Expr ?_
    refine MethodCall_ ?_
    refine Attribute_any_ ?_
    refine nameX_L F₂ rfl ?_
    refine at_storage F₂ cx st fun _ => ?_
    refine mt_cpop F₂ cx st hC₂ iC mC ?_
    refine callWith_method1 ?_
    refine spliced_more ?_
    refine nameX_L F₂ rfl ?_
    refine spliced_more ?_
    refine c_none ?_
    refine spliced_none ?_
    refine w_dpop (DLike.counter (cx.X.keeps F₂.keep) hC₂ iC.cls) rt.sC hC₂ mC hn fun oC' h₃ _ mC' lC' gC' sC' => ?_
    have F₃ := fr_upd (pre := []) F₂ N₂ sC'
    have N₃ := news_put (pre := []) N₂ (fun _ hp => nomatch hp) (by simpa using rt.dCE.symm) sC' gC'
    have nr : ∀ z : Value, (∀ a, z ≠ .ref a) → ∀ P : Prop, P → (match z with | .ref _ => False | _ => P) := by
      intro z hz P p
      cases z <;> first | exact p | exact (hz _ rfl).elim
    refine nr _ ?_ _ ?_
    · intro a
      rcases vC k with ⟨_, b⟩ | ⟨i, u, _, b⟩ <;> rw [b] <;> intro e <;> cases e
    dsimp only
    refine wpAny_execs_cons ?_
    refine wpAny_Expr ?_
    refine MethodCall_ ?_
    refine Attribute_any_ ?_
    refine nameX_L F₃ rfl ?_
    refine at_expirations F₃ cx st fun _ => ?_
    have hE₃ := N₃.get (.tail _ (.head _))
    refine mt_dict PySem.F.slot_dict_pop PySem.F.type_dict_pop hE₃ iE.cls iE.dict ?_
    refine callWith_method1 ?_
    refine spliced_more ?_
    refine nameX_L F₃ rfl ?_
    refine spliced_more ?_
    refine c_none ?_
    refine spliced_none ?_
    refine w_dpop (DLike.exact hE₃ iE.cls) rt.sE hE₃ mE hn' fun oE' h₄ _ mE' lE' gE' sE' => ?_
    have F₄ := fr_upd (pre := [(S.C, oC')]) F₃ N₃ sE'
    have N₄ := news_put (pre := [(S.C, oC')]) N₃ (by simpa using rt.dCE) (fun _ hp => nomatch hp) sE' gE'
    refine nr _ ?_ _ ?_
    · intro a
      rcases vE k with ⟨_, b⟩ | ⟨i, u, _, b⟩ <;> rw [b] <;> intro e <;> cases e
    dsimp only
    refine wpAny_execs_nil ?_
    exact tail _ _ _ _ _ _ F₄ N₄ (iC.like lC') mC' (by rw [eS]; exact vC.del k) (iE.like lE') mE' (by rw [eE]; exact vE.del k)
  · rw [if_neg (by simpa using hle)]
    have eS : gotS σ ε c k = σ := if_neg hle
    have eE : gotE ε c k = ε := if_neg hle
    refine wpAny_execs_nil ?_
    exact tail _ _ _ _ _ _ F₂ N₂ iC mC (by rw [eS]; exact vC) iE mE (by rw [eE]; exact vE)
end
end
section
end
local macro_rules | `(tactic| walk_at "bn_one") => `(tactic| first
  | ((with_reducible show wpAny _ _ (execs (_ :: _) _) _ _ _); with_reducible refine wpAny_execs_cons ?_)
  | ((with_reducible show wpAny _ _ (execs [] _) _ _ _); with_reducible refine wpAny_execs_nil ?_; (try dsimp only))
  | ((with_reducible show wpAny _ _ (exec (Stmt.Expr _ _) _) _ _ _); first | (with_reducible refine wpAny_Expr ?_) | (refine wpAny_Expr ?_))
  | ((with_reducible show wpAny _ _ (exec (Stmt.If _ _ _ _) _) _ _ _); with_reducible refine wpAny_If ?_)
  | ((with_reducible show wpAny _ _ (exec (Stmt.Return (some _) _) _) _ _ _); with_reducible refine wpAny_Return_some ?_)
  | ((with_reducible show wpAny _ _ (exec (Stmt.Assign [Expr.Name _ _] _ _) _) _ _ _); first | (with_reducible refine wpAny_Assign_Name ?_) | (refine wpAny_Assign_Name ?_))
  | ((with_reducible show wpAny _ _ (isTrue (Expr.Compare _ [_] [_] _) _ _) _ _ _); first | (with_reducible refine wpAny_isTrue_Compare1 ?_) | (refine wpAny_isTrue_Compare1 ?_))
  | ((with_reducible show wpAny _ _ (isTrue (Expr.BoolOp _ _ _) _ _) _ _ _); first | (with_reducible refine wpAny_isTrue_BoolOp ?_) | (refine wpAny_isTrue_BoolOp ?_))
  | ((with_reducible show wpAny _ _ (isTrue (Expr.UnaryOp UnaryOp.Not _ _) _ _) _ _ _); first | (with_reducible refine wpAny_isTrue_Not ?_) | (refine wpAny_isTrue_Not ?_))
  | ((with_reducible show wpAny _ _ (isTrue _ _ _) _ _ _); first | (with_reducible refine isTrue_plain ?_) | (refine isTrue_plain ?_))
  | ((with_reducible show wpAny _ _ (allTrue BoolOp.And (_ :: _) _) _ _ _); first | (with_reducible refine wpAny_allTrue_And_cons ?_) | (refine wpAny_allTrue_And_cons ?_))
  | ((with_reducible show wpAny _ _ (allTrue BoolOp.Or (_ :: _) _) _ _ _); first | (with_reducible refine wpAny_allTrue_Or_cons ?_) | (refine wpAny_allTrue_Or_cons ?_))
  | ((with_reducible show wpAny _ _ (allTrue BoolOp.And [] _) _ _ _); first | (with_reducible refine wpAny_allTrue_And_nil ?_) | (refine wpAny_allTrue_And_nil ?_))
  | ((with_reducible show wpAny _ _ (allTrue BoolOp.Or [] _) _ _ _); first | (with_reducible refine wpAny_allTrue_Or_nil ?_) | (refine wpAny_allTrue_Or_nil ?_))
  | ((with_reducible show wpAny _ _ (eval (Expr.Name _ _) _) _ _ _); refine nameX_L (by assumption) (by first | rfl | assumption) ?_)
  | ((with_reducible show wpAny _ _ (eval (Expr.Constant (Const.int _) _ _) _) _ _ _); first | (with_reducible refine c_int fun _ _ => ?_) | (refine c_int fun _ _ => ?_))
  | ((with_reducible show wpAny _ _ (eval (Expr.Constant (Const.str _) _ _) _) _ _ _); (first | (with_reducible refine c_str fun _ _ => ?_) | (refine c_str fun _ _ => ?_)); (try dsimp only))
  | ((with_reducible show wpAny _ _ (eval (Expr.Constant Const.none _ _) _) _ _ _); first | (with_reducible refine c_none ?_) | (refine c_none ?_))
  | ((with_reducible show wpAny _ _ (eval (Expr.Constant (Const.bool _) _ _) _) _ _ _); first | (with_reducible refine c_bool ?_) | (refine c_bool ?_))
  | ((with_reducible show wpAny _ _ (eval (Expr.Attribute _ _ _) _) _ _ _); first | (with_reducible refine Attribute_any_ ?_) | (refine Attribute_any_ ?_))
  | ((with_reducible show wpAny _ _ (eval (Expr.Call (Expr.Attribute _ _ _) _ [] _) _) _ _ _); first | (with_reducible refine MethodCall_ ?_) | (refine MethodCall_ ?_))
  | ((with_reducible show wpAny _ _ (eval (Expr.Call (Expr.Attribute _ _ _) _ (_ :: _) _) _) _ _ _); first | (with_reducible refine methodCall_KW ?_) | (refine methodCall_KW ?_))
  | ((with_reducible show wpAny _ _ (eval (Expr.Call (Expr.Name _ _) _ [] _) _) _ _ _); first | (with_reducible refine Call_ ?_) | (refine Call_ ?_))
  | ((with_reducible show wpAny _ _ (eval (Expr.BinOp _ _ _ _) _) _ _ _); first | (with_reducible refine wpAny_BinOp ?_) | (refine wpAny_BinOp ?_))
  | ((with_reducible show wpAny _ _ (eval (Expr.UnaryOp _ _ _) _) _ _ _); first | (with_reducible refine wpAny_UnaryOp ?_) | (refine wpAny_UnaryOp ?_))
  | ((with_reducible show wpAny _ _ (eval (Expr.Compare _ [_] [_] _) _) _ _ _); first | (with_reducible refine wpAny_Compare1 ?_) | (refine wpAny_Compare1 ?_))
  | ((with_reducible show wpAny _ _ (eval (Expr.IfExp _ _ _ _) _) _ _ _); first | (with_reducible refine wpAny_IfExp ?_) | (refine wpAny_IfExp ?_))
  | ((with_reducible show wpAny _ _ (eval (Expr.Subscript _ _ _) _) _ _ _); first | (with_reducible refine Subscript_ ?_) | (refine Subscript_ ?_))
  | ((with_reducible show wpAny _ _ (eval (Expr.Tuple _ _ _) _) _ _ _); first | (with_reducible refine Tuple_ ?_) | (refine Tuple_ ?_))
  | ((with_reducible show wpAny _ _ (eval (Expr.List _ _) _) _ _ _); first | (with_reducible refine List_ ?_) | (refine List_ ?_))
  | ((with_reducible show wpAny _ _ (spliced (backTo _ (starEach (_ :: _) _))) _ _ _); first | (with_reducible refine spliced_more ?_) | (refine spliced_more ?_))
  | ((with_reducible show wpAny _ _ (spliced (backTo _ (starEach [] _))) _ _ _); (first | (with_reducible refine spliced_none ?_) | (refine spliced_none ?_)); (try dsimp only [List.nil_append, List.cons_append]))
  | ((with_reducible show wpAny _ _ (callWith _ (Value.builtin _) _ (backTo _ (starEach (_ :: _) _)) []) _ _ _); first | (with_reducible refine callWith_method1 ?_) | (refine callWith_method1 ?_))
  | ((with_reducible show wpAny _ _ (callWith _ (Value.type _) [] (backTo _ (starEach (_ :: _) _)) []) _ _ _); first | (with_reducible refine PyProof.Rows.callWith_type1 ?_) | (refine PyProof.Rows.callWith_type1 ?_))
  | ((with_reducible show wpAny _ _ (callWith _ (Value.builtin _) _ (backTo _ (starEach [] _)) []) _ _ _); first | (with_reducible refine callWith_method0 ?_) | (refine callWith_method0 ?_))
  | ((with_reducible show wpAny _ _ (binaryOp Operator.Add (Value.int _ _) (Value.int _ _)) _ _ _); first | (with_reducible refine b_add fun _ _ => ?_) | (refine b_add fun _ _ => ?_))
  | ((with_reducible show wpAny _ _ (binaryOp Operator.Sub (Value.int _ _) (Value.int _ _)) _ _ _); first | (with_reducible refine b_sub fun _ _ => ?_) | (refine b_sub fun _ _ => ?_))
  | ((with_reducible show wpAny _ _ (unaryOp UnaryOp.USub (Value.int _ _)) _ _ _); first | (with_reducible refine u_neg fun _ _ => ?_) | (refine u_neg fun _ _ => ?_))
  | ((with_reducible show wpAny _ _ (compareOp CmpOp.LtE (Value.int _ _) (Value.int _ _)) _ _ _); first | (with_reducible refine P.le_int ?_) | (refine P.le_int ?_))
  | ((with_reducible show wpAny _ _ (compareOp CmpOp.Lt (Value.int _ _) (Value.int _ _)) _ _ _); first | (with_reducible refine P.lt_int ?_) | (refine P.lt_int ?_))
  | ((with_reducible show wpAny _ _ (compareOp CmpOp.GtE (Value.int _ _) (Value.int _ _)) _ _ _); first | (with_reducible refine P.ge_int ?_) | (refine P.ge_int ?_))
  | ((with_reducible show wpAny _ _ (compareOp CmpOp.Gt (Value.int _ _) (Value.int _ _)) _ _ _); first | (with_reducible refine P.gt_int ?_) | (refine P.gt_int ?_))
  | ((with_reducible show wpAny _ _ (compareOp CmpOp.Eq (Value.int _ _) (Value.int _ _)) _ _ _); first | (with_reducible refine P.eq_int ?_) | (refine P.eq_int ?_))
  | ((with_reducible show wpAny _ _ (compareOp CmpOp.NotEq (Value.int _ _) (Value.int _ _)) _ _ _); first | (with_reducible refine P.ne_int ?_) | (refine P.ne_int ?_))
  | ((with_reducible show wpAny _ _ (compareOp CmpOp.Is (Value.ref _) Value.none) _ _ _); refine wpAny_is_other (by rfl) (by intro x; cases x) ?_)
  | ((with_reducible show wpAny _ _ (truthy (Value.bool _)) _ _ _); first | (with_reducible refine wpAny_truthy_bool ?_) | (refine wpAny_truthy_bool ?_))
  | ((with_reducible show wpAny _ _ (truthy (Value.int _ _)) _ _ _); first | (with_reducible refine P.truthy_int ?_) | (refine P.truthy_int ?_)))
section
set_option maxHeartbeats 4000000
end
local macro_rules | `(tactic| walk_at "bn") => `(tactic| repeat walk_at "bn_one")
section
set_option maxHeartbeats 4000000
/-- a def or class of the text's called: its arguments are plain -/
theorem callWith_D {M : Model} {A : Around} {E : Value → Shared → Prop} {s : Shared} {env : Env} {pos : Pos} {first : List Value} {Q : Value → Shared → Prop} {w : World} {f : Value} {e : Expr} {rest : List Expr} (hk : keepIn (K w.params) f = true)
    (q : wpAny M A (spliced (backTo pos (starEach (e :: rest) env))) (fun vs s₁ => (K w.params).In s₁.heap ∧ wpAny M A (call f (first ++ vs)) Q E s₁) E s)
    (he : starEach (e :: rest) env = (false, eval e env) :: starEach rest env := by rfl) (hplain : (backTo pos (starEach rest env)).any (·.1) = false := by rfl) :
    wpAny M A (callWith pos f first (backTo pos (starEach (e :: rest) env)) []) Q E s := by
  rw [he] at q ⊢
  exact callWith_of (by show ((false || (backTo pos (starEach rest env)).any (·.1)) || false) = false; rw [hplain]; rfl) (keeps_K hk) (evalArgs_plain q)
theorem callWith_D0 {M : Model} {A : Around} {E : Value → Shared → Prop} {s : Shared} {env : Env} {pos : Pos} {first : List Value} {Q : Value → Shared → Prop} {w : World} {f : Value} (X : (K w.params).In s.heap) (hk : keepIn (K w.params) f = true) (q : wpAny M A (call f (first ++ [])) Q E s) :
    wpAny M A (callWith pos f first (backTo pos (starEach [] env)) []) Q E s :=
  callWith_of rfl (keeps_K hk) (evalArgs_nil3 ⟨X, q⟩)
theorem Fr.cx {w : World} {g h : Heap} {L : Addr} {m} (F : Fr g L h m) (cx : Cx w g) : (K w.params).In h := cx.X.keeps F.keep
end
section
theorem bindsK {K : Frag} {s : Shared} {fd : FuncData} {args : Args} {binds : List (Str × Value)} (X : K.In s.heap) (e : ∀ S, peek K S (bindArgs fd args) = some binds) : BindsTo s fd args binds :=
  fun M _ _ _ q => (Looks.of_peek (M := M) X (e _)).here q
theorem iss_tuple {M : Model} {h : Heap} {P : Params} (X : (K P).In h) {C : Addr} (e : mroIn (K P) C (.type "tuple") = some true) (e1 : Looks M h (isType (.ref C)) true) :
    Looks M h (Builtin.«issubclass.nested» ⟨[.ref C, .type "tuple", rawInt 0], []⟩) (.done (.ret (.bool true))) := by
  have t2 : Looks M h (isSubtype (.ref C) (.type "tuple")) true := looks_mroIn X e
  intro A Q E s k q
  obtain ⟨hp, g, d, t, os⟩ := s
  have t1' := e1.keeps k
  have t2' := t2.keeps k
  have t3 : typeOf (.type "tuple") = pure (.type "type") := by rfl
  have t4 : isSubtype (.type "type") (.type "type") = pure true := by rw [isSubtype_type]; kernel_rfl
  unfold Builtin.«issubclass.nested»
  refine wpAny_bind ?_
  rw [t3]
  refine wpAny_pure ?_
  simp only [beq_self_eq_true, if_true]
  refine wpAny_bind ?_
  refine wpAny_bind (m := isType (.ref C)) ?_
  refine t1'.at ?_
  refine wpAny_bind (m := isType (.type "tuple")) ?_
  refine wpAny_pure ?_
  simp only [Bool.and_self, if_true]
  refine t2'.at ?_
  exact wpAny_pure q
theorem g171 (P : Params) : mroIn (K P) 171 (.type "tuple") = some true := by kernel_rfl
theorem g455 (P : Params) : mroIn (K P) 455 (.type "tuple") = some true := by kernel_rfl
theorem it171 {M : Model} {h : Heap} {P : Params} (X : (K P).In h) : Looks M h (isType (.ref 171)) true := Looks.of_peek X (by kernel_rfl)
theorem it455 {M : Model} {h : Heap} {P : Params} (X : (K P).In h) : Looks M h (isType (.ref 455)) true := Looks.of_peek X (by kernel_rfl)
section
variable {pr : Program} {w : World} {A : Around} {E : Value → Shared → Prop} {s : Shared} {h : Heap} {t : Nat} {C : Addr}
theorem call_iss {Q : Value → Shared → Prop} (X : (K w.params).In s.heap) (e : mroIn (K w.params) C (.type "tuple") = some true) (e1 : Looks (model pr w) s.heap (isType (.ref C)) true) (q : Q (.bool true) s) :
    wpAny (model pr w) A (call (.builtin "issubclass") [.ref C, .type "tuple"]) Q E s := by
  refine wpAny_call ?_
  refine codeAny_call_builtin PySem.F.plain_issubclass PySem.F.entry_issubclass ?_
  have ha := PySem.F.args_issubclass_2 (.ref C) (.type "tuple")
  have hfin : wpAny (model pr w) A.in1 (Builtin.«issubclass» ⟨[.ref C, .type "tuple"], []⟩) (fun fin s' => match fin with | .done f => (match (.ok f : Result) with | .ok (.ret v) => Q v s' | .ok _ => False | .error e => E e s') | .again c' => c'.quiet = true ∧ codeAny (model pr w) A c' (fun r s' => match r with | .ok (.ret v) => Q v s' | .ok _ => False | .error e => E e s') s') (fun e s' => E e s') s := by
    refine issubclass_outer (R := fun r s' => match r with | .ok (.ret v) => Q v s' | .ok _ => False | .error e => E e s') ?_
    exact (iss_tuple X e e1).here q
  simp only [checkBuiltinCall, PySem.F.kind_issubclass]
  cases hsig : Manifest.signature? "issubclass" with
  | none => exact wpAny_pure hfin
  | some sig =>
    simp only [argsOk, hsig] at ha
    have h2 : Bind.checkArgs "issubclass" sig ⟨[.ref C, .type "tuple"], []⟩ = pure () := ha
    show wpAny _ _ (Bind.checkArgs "issubclass" sig ⟨[.ref C, .type "tuple"], []⟩) _ _ s
    rw [h2]; exact wpAny_pure hfin
/-- tuple's item by its own name, of a tuple or a value of a class over tuple -/
theorem call_tgi {x : Addr} {o : Obj} {items : Array Value} {n : Nat} {i : Int} {u : Tok} {v : Value} {Q : Value → Shared → Prop} (X : (K w.params).In s.heap) (ho : s.heap.get? x = some o) (hc : o.cls = .ref C) (hd : o.data = .seq items n)
    (e : mroIn (K w.params) C (.type "tuple") = some true) (h0 : 0 ≤ i) (hhi : i < 2 ^ 63) (hv : items[i.toNat]? = some v) (q : Q v s) :
    wpAny (model pr w) A (call (.builtin "tuple.__getitem__") [.ref x, .int i u]) Q E s := by
  refine wpAny_call ?_
  refine codeAny_call_builtin PySem.F.slot_tuple_getitem.plain PySem.F.entry_tuple_getitem ?_
  obtain ⟨hp, g, d, t, os⟩ := s
  have t1 : Looks (model pr w) hp (typeOf (.ref x)) (.ref C) := hc ▸ (Looks.ld ho).andThen .now
  have t2 : Looks (model pr w) hp (isSubtype (.ref C) (.type "tuple")) true := looks_mroIn X e
  refine chk (n := "__getitem__") (owner := "tuple") (rest := [.int i u]) (kw := []) ?_ ?_ ?_ ?_ ?_
  · decide +kernel
  · exact .inr (by rw [builtinKind_eq_fast]; kernel_rfl)
  · exact t1.andThen t2
  · exact args_tuple_getitem _ _
  unfold Builtin.«tuple.__getitem__»
  refine wpAny_bind ?_
  refine wpAny_pure ?_
  dsimp only
  refine wpAny_bind ?_
  unfold Builtin.Tuple.tupleItemsOf
  refine wpAny_bind ?_
  refine wpAny_bind (wpAny_loadPart ho ?_)
  rw [hd]
  refine wpAny_pure (wpAny_pure ?_)
  refine wpAny_bind (wpAny_typeOf (typeIs_int _ i u) ?_)
  rw [if_neg (by decide)]
  refine wpAny_bind (wpAny_specialOf (T := "int") (typeIs_int _ i u) int_index ?_)
  rw [if_neg (by simp)]
  refine wpAny_bind (wpAny_of_eq (a := i) rfl ?_)
  rw [if_neg (by simp only [Bool.or_eq_true, decide_eq_true_eq]; omega)]
  have hj : seqIndex? i items.size = some i.toNat := by
    have : i.toNat < items.size := by
      rcases Nat.lt_or_ge i.toNat items.size with h | h
      · exact h
      · rw [Array.getElem?_eq_none h] at hv; cases hv
    unfold seqIndex?
    simp only [show ¬ (i < 0) by omega, if_false]
    rw [if_pos (by simp; omega)]
  simp only [hj, Option.bind_some, hv]
  exact wpAny_pure q
theorem mt_tuple {pl : Sem Bool} {Q : Value × List Value → Shared → Prop} {name : Str} {v : Value} (X : (K w.params).In h)
    (e : findCls (K w.params) (.type "tuple") (.type "type") name = some (.val v)) (hh : handedIn v = true) (q : ∀ t', Q (v, []) (stt s h t')) :
    wpAny (model pr w) A (getMethod (.type "tuple") name pl) Q E (stt s h t) := by
  have hstub : opaqueClassAbove (.type "tuple") = pure none := by unfold opaqueClassAbove; dsimp only; rw [show Manifest.isStub "tuple" = false by decide +kernel]; rfl
  have ht : typeOf (.type "tuple") = pure (.type "type") := by first | rfl | kernel_rfl
  have L0 : Looks (model pr w) h (typeOf (.type "tuple")) (.type "type") := Looks.of_pure ht
  have hg : findIn (K w.params) (.type "type") "__getattribute__" = some (some (.builtin "type.__getattribute__")) := type_tga
  unfold getMethod specialOf
  with_reducible refine wpAny_bind (wpAny_bind (L0.at ((looks_findIn X hg).at ?_)))
  dsimp only
  rw [if_pos canon_tga]
  refine wpAny_bind (wpAny_mono (Q := fun v => Q (v, [])) (E := E) ?_ (fun _ _ z => wpAny_pure z) fun _ _ z => z)
  have LO : Looks (model pr w) h (opaqueClassAbove (.type "tuple")) none := Looks.of_pure hstub
  refine cls_open (s := stt s h t) X LO L0 hg (looks_hook X (r := none) (by rfl)) (by show subIn _ _ _ = _; kernel_rfl) e ?_
  exact wpAny_pure (by show wpAny _ _ (handedOut v) _ _ _; rw [handedOut_of hh]; exact wpAny_pure (q _))
theorem hi_tgi : handedIn (.builtin "tuple.__getitem__") = true := by kernel_rfl
theorem hi_tnew : handedIn (.builtin "tuple.__new__") = true := by kernel_rfl
theorem fc_tgi (P : Params) : findCls (K P) (.type "tuple") (.type "type") (Str.ofString "__getitem__") = some (.val (.builtin "tuple.__getitem__")) := by kernel_rfl
theorem fc_tnew (P : Params) : findCls (K P) (.type "tuple") (.type "type") (Str.ofString "__new__") = some (.val (.builtin "tuple.__new__")) := by kernel_rfl
end
theorem pg376 (P : Params) : plainGet (K P) 376 (Str.ofString "index") = true := by kernel_rfl
theorem hd376 (P : Params) : hasDictIn (K P) 376 = true := by kernel_rfl
theorem fi376 (P : Params) : findIn (K P) (.ref 376) (Str.ofString "index") = some none := by kernel_rfl
theorem pg99 (P : Params) : plainGet (K P) 99 (Str.ofString "index") = true := by kernel_rfl
theorem hd99 (P : Params) : hasDictIn (K P) 99 = true := by kernel_rfl
theorem fi99 (P : Params) : findIn (K P) (.ref 99) (Str.ofString "index") = some none := by kernel_rfl
section
variable {w : World} {A : Around} {s : Shared} {h₀ : Heap} {t₀ : Nat} {C x : Addr} {R : Result → Shared → Prop} {o : Obj} {items : Array Value} {n : Nat} {i : Int} {v : Value}
theorem get_lim {p pd : Addr} {es : List DictEntry} {ne : Nat} {u : Tok} (cx : Cx w h₀) (am : Amb A 1) (ho : h₀.get? x = some o) (hc : o.cls = .ref C) (hd : o.data = .seq items n)
    (e : mroIn (K w.params) C (.type "tuple") = some true) (e1 : ∀ h, (K w.params).In h → Looks (model prog w) h (isType (.ref C)) true)
    (hp : InstAt h₀ p ⟨.ref 376, some pd, .plain, #[]⟩ 376 (some (dictOf es ne))) (hl : getL (Str.ofString "index") es = some (some (.int i u)))
    (h0 : 0 ≤ i) (hhi : i < 2 ^ 63) (hv : items[i.toNat]? = some v)
    (q : ∀ h' t', Keeps [] h₀ h' → R (.ok (.ret v)) (stt s h' t')) :
    codeAny (model prog w) A (.call (.ref 359) ⟨[.ref p, .ref x, .ref C], []⟩) R (stt s h₀ t₀) := by
  refine enter (s := stt s h₀ t₀) am cx (k359 _) rfl (binds := [(Str.ofString "self", .ref p), (Str.ofString "obj", .ref x), (Str.ofString "objtype", .ref C)]) [] (fun _ h => nomatch h) (bindsK cx.X fun _ => by kernel_rfl) (locs rfl) (by decide) rfl rfl rfl ?_
  intro g L h₁ hg hL F N k₁
  have cx' : Cx w g := cx.keeps (fun b o e => hg ▸ e)
  refine wpAny_execs_cons ?_
  walk_at "bn"
  rw [if_neg (by decide)]
  walk_at "bn"
  refine nm_b F cx' (by kernel_rfl) Boot.«issubclass» (by decide) ?_
  walk_at "bn"
  refine nm_b F cx' (by kernel_rfl) Boot.«type» (by decide) ?_
  walk_at "bn"
  refine call_type_obj (k₁ _ _ ho) (by rw [hc]; rfl) ?_
  rw [hc]
  walk_at "bn"
  refine nm_b F cx' (by kernel_rfl) Boot.«tuple» (by decide) ?_
  walk_at "bn"
  refine call_iss (Fr.cx F cx') e (e1 _ (Fr.cx F cx')) ?_
  walk_at "bn"
  rw [if_neg (by decide)]
  walk_at "bn"
  refine nm_b F cx' (by kernel_rfl) Boot.«tuple» (by decide) ?_
  with_reducible refine mt_tuple (Fr.cx F cx') (fc_tgi _) hi_tgi fun _ => ?_
  walk_at "bn"
  have hp' : InstAt h₁ p ⟨.ref 376, some pd, .plain, #[]⟩ 376 (some (dictOf es ne)) := ⟨k₁ _ _ hp.at_, hp.cls, hp.no, k₁ _ _ hp.dict⟩
  refine get_own (s := stt s h₁ _) F cx'.X hp' (pg376 _) (hd376 _) (fi376 _) rfl hl rfl ?_
  walk_at "bn"
  refine call_tgi (Fr.cx F cx') (k₁ _ _ ho) hc hd e h0 hhi hv ?_
  exact q _ _ fun b o e _ => k₁ b o e
theorem get_str {p pd : Addr} {es : List DictEntry} {ne : Nat} {u : Tok} (cx : Cx w h₀) (am : Amb A 1) (ho : h₀.get? x = some o) (hc : o.cls = .ref C) (hd : o.data = .seq items n)
    (e : mroIn (K w.params) C (.type "tuple") = some true) (e1 : ∀ h, (K w.params).In h → Looks (model prog w) h (isType (.ref C)) true)
    (hp : InstAt h₀ p ⟨.ref 99, some pd, .plain, #[]⟩ 99 (some (dictOf es ne))) (hl : getL (Str.ofString "index") es = some (some (.int i u)))
    (h0 : 0 ≤ i) (hhi : i < 2 ^ 63) (hv : items[i.toNat]? = some v)
    (q : ∀ h' t', Keeps [] h₀ h' → R (.ok (.ret v)) (stt s h' t')) :
    codeAny (model prog w) A (.call (.ref 82) ⟨[.ref p, .ref x, .ref C], []⟩) R (stt s h₀ t₀) := by
  refine enter (s := stt s h₀ t₀) am cx (k82 _) rfl (binds := [(Str.ofString "self", .ref p), (Str.ofString "obj", .ref x), (Str.ofString "objtype", .ref C)]) [] (fun _ h => nomatch h) (bindsK cx.X fun _ => by kernel_rfl) (locs rfl) (by decide) rfl rfl rfl ?_
  intro g L h₁ hg hL F N k₁
  have cx' : Cx w g := cx.keeps (fun b o e => hg ▸ e)
  refine wpAny_execs_cons ?_
  walk_at "bn"
  rw [if_neg (by decide)]
  walk_at "bn"
  refine nm_b F cx' (by kernel_rfl) Boot.«issubclass» (by decide) ?_
  walk_at "bn"
  refine nm_b F cx' (by kernel_rfl) Boot.«type» (by decide) ?_
  walk_at "bn"
  refine call_type_obj (k₁ _ _ ho) (by rw [hc]; rfl) ?_
  rw [hc]
  walk_at "bn"
  refine nm_b F cx' (by kernel_rfl) Boot.«tuple» (by decide) ?_
  walk_at "bn"
  refine call_iss (Fr.cx F cx') e (e1 _ (Fr.cx F cx')) ?_
  walk_at "bn"
  rw [if_neg (by decide)]
  walk_at "bn"
  refine nm_b F cx' (by kernel_rfl) Boot.«tuple» (by decide) ?_
  with_reducible refine mt_tuple (Fr.cx F cx') (fc_tgi _) hi_tgi fun _ => ?_
  walk_at "bn"
  have hp' : InstAt h₁ p ⟨.ref 99, some pd, .plain, #[]⟩ 99 (some (dictOf es ne)) := ⟨k₁ _ _ hp.at_, hp.cls, hp.no, k₁ _ _ hp.dict⟩
  refine get_own (s := stt s h₁ _) F cx'.X hp' (pg99 _) (hd99 _) (fi99 _) rfl hl rfl ?_
  walk_at "bn"
  refine call_tgi (Fr.cx F cx') (k₁ _ _ ho) hc hd e h0 hhi hv ?_
  exact q _ _ fun b o e _ => k₁ b o e
end
end
section
/-- an item: so many in so many seconds -/
def Itm (h : Heap) (a : Addr) (amt per : Int) : Prop := ∃ d u1 u2 u3, h.get? a = some ⟨.ref 567, some d, .plain, #[some (.int amt u3), some (.int per u2), some (.str (Str.ofString "LIMITER") u1)]⟩ ∧ h.get? d = some (dictOf [] 0)
theorem Itm.keeps {h h' : Heap} {a : Addr} {amt per : Int} (x : Itm h a amt per) (k : ∀ b o, h.get? b = some o → h'.get? b = some o) : Itm h' a amt per :=
  let ⟨d, u1, u2, u3, e, f⟩ := x; ⟨d, u1, u2, u3, k _ _ e, k _ _ f⟩
theorem pg567 (P : Params) (x : Str) : plainGet (K P) 567 x = true := by kernel_rfl
theorem hd567 (P : Params) : hasDictIn (K P) 567 = true := by kernel_rfl
theorem ga455 (P : Params) : findIn (K P) (.ref 455) "__getattribute__" = some (some (.builtin "tuple.__getattribute__")) := by kernel_rfl
theorem gt455 (P : Params) : findIn (K P) (.ref 455) "__getattr__" = some none := by kernel_rfl
theorem ga171 (P : Params) : findIn (K P) (.ref 171) "__getattribute__" = some (some (.builtin "tuple.__getattribute__")) := by kernel_rfl
theorem gt171 (P : Params) : findIn (K P) (.ref 171) "__getattr__" = some none := by kernel_rfl
theorem entry_tga : entryFor table "tuple.__getattribute__" = some Builtin.«object.__getattribute__» :=
  entryFor_alias (id' := "object.__getattribute__") (by kernel_rfl) (by decide +kernel) (by decide +kernel) (by kernel_rfl)
theorem kind_tga : builtinKind "tuple.__getattribute__" = some .method ∨ builtinKind "tuple.__getattribute__" = some .slot := .inr (by rw [builtinKind_eq_fast]; kernel_rfl)
/-- an attribute of a value of a class over tuple, by a descriptor of its class -/
theorem get_bindT {pr : Program} {w : World} {A : Around} {E : Value → Shared → Prop} {s : Shared} {K : Frag} {x C : Addr} {ox : Obj} {od : Option Obj} {name : Str} {f : Addr} {a : Value} {expr : Bool} {Q : Value → Shared → Prop} (X : K.In s.heap) (I : InstAt s.heap x ox C od) (hga : findIn K (.ref C) "__getattribute__" = some (some (.builtin "tuple.__getattribute__")))
    (hsub : mroIn K C (.type "tuple") = some true) (hf : findObj K C od name = some (.bind (.ref f) a)) (hk : findIn K (.ref C) "__getattr__" = some none)
    (h : wpAny (model pr w) A.in1 (call (.ref f) [a, .ref x, .ref C]) (fun v s' => wpAny (model pr w) A (handedOut v) Q E s') (fun _ _ => False) { s with toks := s.toks + 1 }) :
    wpAny (model pr w) A (getAttr (.ref x) name expr) Q E s := by
  obtain ⟨hh', gg, d, t, os⟩ := s
  have L0 := I.type (M := model pr w)
  have L1 := looks_find (M := model pr w) X I hf
  have L2 := looks_findIn (M := model pr w) X hk
  have L3 := looks_findIn (M := model pr w) X hga
  unfold getAttr getAttrBy
  refine wpAny_bind (wpAny_mkText (wpAny_holding (wpAny_bind (L0.at (wpAny_bind (L3.at ?_))))))
  dsimp only
  rw [show (onTheHeap (.ref C) && Value.builtin "tuple.__getattribute__" == Value.builtin "object.__getattribute__") = false from by rw [show (Value.builtin "tuple.__getattribute__" == Value.builtin "object.__getattribute__") = false from by decide +kernel, Bool.and_false], if_neg (by decide)]
  unfold getAttrByItsOwn
  refine wpAny_bind ?_
  show wpAny _ _ (typeLookup (.ref C) "__getattr__") _ _ _
  refine L2.at ?_
  refine wpAny_bind (wpAny_attempt (wpAny_holding ?_))
  unfold callGetattribute
  rw [show (expr && onTheHeap (Value.builtin "tuple.__getattribute__")) = false from Bool.and_false _, if_neg (by decide)]
  unfold boundAndCalled
  rw [PySem.F.slot_tuple_getattribute.bind]
  refine wpAny_bind (wpAny_pure ?_)
  refine wpAny_call ?_
  refine codeAny_call_builtin PySem.F.slot_tuple_getattribute.plain entry_tga ?_
  refine chk (n := "__getattribute__") (owner := "tuple") (rest := [.str name t]) (kw := []) ?_ ?_ ?_ ?_ ?_
  · decide +kernel
  · exact kind_tga
  · exact L0.andThen (looks_mroIn X hsub)
  · exact PySem.F.args_tuple_getattribute_2 _ _
  unfold Builtin.«object.__getattribute__»
  refine wpAny_bind (wpAny_pure ?_)
  dsimp only
  refine wpAny_bind (wpAny_pure (wpAny_bind (L0.at (wpAny_bind (L1.at ?_)))))
  show wpAny _ _ (holding [a] (call (.ref f) [a, .ref x, .ref C]) >>= ret) _ _ _
  exact wpAny_bind (wpAny_holding (wpAny_mono h (fun v s' z => wpAny_pure z) fun _ _ z => z.elim))
theorem ic567 (P : Params) : isClsIn (K P) 567 = true := by kernel_rfl
theorem fa_am (P : Params) : findIn (K P) (.ref 567) (Str.ofString "amount") = some (some (.ref 553)) := by kernel_rfl
theorem fa_mu (P : Params) : findIn (K P) (.ref 567) (Str.ofString "multiples") = some (some (.ref 554)) := by kernel_rfl
theorem fa_ns (P : Params) : findIn (K P) (.ref 567) (Str.ofString "namespace") = some (some (.ref 555)) := by kernel_rfl
theorem fa_gr (P : Params) : findIn (K P) (.ref 567) (Str.ofString "GRANULARITY") = some (some (.ref 488)) := by kernel_rfl
theorem sg_am (P : Params) : specialIn (K P) (.ref 553) "__get__" = some (some (.builtin "member_descriptor.__get__")) := by kernel_rfl
theorem sg_mu (P : Params) : specialIn (K P) (.ref 554) "__get__" = some (some (.builtin "member_descriptor.__get__")) := by kernel_rfl
theorem sg_ns (P : Params) : specialIn (K P) (.ref 555) "__get__" = some (some (.builtin "member_descriptor.__get__")) := by kernel_rfl
theorem sg_gr (P : Params) : specialIn (K P) (.ref 488) "__get__" = some none := by kernel_rfl
theorem tk_am (P : Params) : takesIn (K P) (.ref 553) = some true := by kernel_rfl
theorem tk_mu (P : Params) : takesIn (K P) (.ref 554) = some true := by kernel_rfl
theorem tk_ns (P : Params) : takesIn (K P) (.ref 555) = some true := by kernel_rfl
theorem sl_am (P : Params) : slotIn (K P) 553 567 = some 0 := by kernel_rfl
theorem sl_mu (P : Params) : slotIn (K P) 554 567 = some 1 := by kernel_rfl
theorem sl_ns (P : Params) : slotIn (K P) 555 567 = some 2 := by kernel_rfl
theorem hi_gr : handedIn (.ref 488) = true := by kernel_rfl
theorem cp_gr : copiedNames.contains (Str.ofString "GRANULARITY") = false := by decide +kernel
theorem fo_sec (P : Params) : findObj (K P) 455 (some (o487 P)) (Str.ofString "seconds") = some (.bind (.ref 359) (.ref 447)) := by kernel_rfl
theorem fo_nam (P : Params) : findObj (K P) 455 (some (o487 P)) (Str.ofString "name") = some (.bind (.ref 359) (.ref 450)) := by kernel_rfl
section
variable {w : World} {A : Around} {E : Value → Shared → Prop} {s : Shared} {h : Heap} {t : Nat} {g : Heap} {L : Addr} {m : Str → Option Value} {x : Addr} {amt per : Int}
theorem it_inst {d u1 u2 u3} (e : h.get? x = some ⟨.ref 567, some d, .plain, #[some (.int amt u3), some (.int per u2), some (.str (Str.ofString "LIMITER") u1)]⟩) (f : h.get? d = some (dictOf [] 0)) : InstAt h x ⟨.ref 567, some d, .plain, #[some (.int amt u3), some (.int per u2), some (.str (Str.ofString "LIMITER") u1)]⟩ 567 (some (dictOf [] 0)) := ⟨e, rfl, rfl, f⟩
theorem it_amount {ex : Bool} {Q : Value → Shared → Prop} (F : Fr g L h m) (cx : Cx w g) (i : Itm h x amt per) (q : ∀ u t', Q (.int amt u) (stt s h t')) : wpAny (model prog w) A (getAttr (.ref x) (Str.ofString "amount") ex) Q E (stt s h t) := by
  obtain ⟨d, u1, u2, u3, e, f⟩ := i
  exact get_slot (s := stt s h t) F cx.X (it_inst e f) (pg567 _ _) (ic567 _) (fa_am _) (sg_am _) (tk_am _) (sl_am _) rfl rfl (q _ _)
theorem it_mult {ex : Bool} {Q : Value → Shared → Prop} (F : Fr g L h m) (cx : Cx w g) (i : Itm h x amt per) (q : ∀ u t', Q (.int per u) (stt s h t')) : wpAny (model prog w) A (getAttr (.ref x) (Str.ofString "multiples") ex) Q E (stt s h t) := by
  obtain ⟨d, u1, u2, u3, e, f⟩ := i
  exact get_slot (s := stt s h t) F cx.X (it_inst e f) (pg567 _ _) (ic567 _) (fa_mu _) (sg_mu _) (tk_mu _) (sl_mu _) rfl rfl (q _ _)
theorem it_ns {ex : Bool} {Q : Value → Shared → Prop} (F : Fr g L h m) (cx : Cx w g) (i : Itm h x amt per) (q : ∀ u t', Q (.str (Str.ofString "LIMITER") u) (stt s h t')) : wpAny (model prog w) A (getAttr (.ref x) (Str.ofString "namespace") ex) Q E (stt s h t) := by
  obtain ⟨d, u1, u2, u3, e, f⟩ := i
  exact get_slot (s := stt s h t) F cx.X (it_inst e f) (pg567 _ _) (ic567 _) (fa_ns _) (sg_ns _) (tk_ns _) (sl_ns _) rfl rfl (q _ _)
theorem it_gran {ex : Bool} {Q : Value → Shared → Prop} (F : Fr g L h m) (cx : Cx w g) (i : Itm h x amt per) (q : ∀ t', Q (.ref 488) (stt s h t')) : wpAny (model prog w) A (getAttr (.ref x) (Str.ofString "GRANULARITY") ex) Q E (stt s h t) := by
  obtain ⟨d, u1, u2, u3, e, f⟩ := i
  exact get_cls (s := stt s h t) F cx.X (it_inst e f) (pg567 _ _) (hd567 _) (fa_gr _) (sg_gr _) hi_gr cp_gr rfl (q _)
theorem gr_inst (cx : Cx w h) : InstAt h 488 (o488 w.params) 455 (some (o487 w.params)) := ⟨cx.X _ _ (k488 _), rfl, rfl, cx.X _ _ (k487 _)⟩
theorem gr_seconds {ex : Bool} {Q : Value → Shared → Prop} (am : Amb A 2) (cx : Cx w h) (q : ∀ u h' t', Keeps [] h h' → Q (.int 1 u) (stt s h' t')) : wpAny (model prog w) A (getAttr (.ref 488) (Str.ofString "seconds") ex) Q E (stt s h t) := by
  refine get_bindT (s := stt s h t) cx.X (gr_inst cx) (ga455 _) (g455 _) (fo_sec _) (gt455 _) ?_
  refine wpAny_call ?_
  refine get_lim (s := s) cx am.in1 (cx.X _ _ (k488 _)) rfl rfl (g455 _) (fun _ X => it455 X) ⟨cx.X _ _ (k447 _), rfl, rfl, cx.X _ _ (k446 _)⟩ rfl (by decide) (by decide) rfl fun h' t' k => ?_
  exact handed_on rfl (q _ _ _ k)
theorem gr_name {ex : Bool} {Q : Value → Shared → Prop} (am : Amb A 2) (cx : Cx w h) (q : ∀ u h' t', Keeps [] h h' → Q (.str (Str.ofString "second") u) (stt s h' t')) : wpAny (model prog w) A (getAttr (.ref 488) (Str.ofString "name") ex) Q E (stt s h t) := by
  refine get_bindT (s := stt s h t) cx.X (gr_inst cx) (ga455 _) (g455 _) (fo_nam _) (gt455 _) ?_
  refine wpAny_call ?_
  refine get_lim (s := s) cx am.in1 (cx.X _ _ (k488 _)) rfl rfl (g455 _) (fun _ X => it455 X) ⟨cx.X _ _ (k450 _), rfl, rfl, cx.X _ _ (k449 _)⟩ rfl (by decide) (by decide) rfl fun h' t' k => ?_
  exact handed_on rfl (q _ _ _ k)
end
end
section
section
variable {prog : Program} {w : World} {A : Around} {s s₁ : Shared} {R : Result → Shared → Prop} {name qual : Str} {params : Arguments} {body : List Stmt} {scope : Scope} {cl : List (Str × Addr)} {dV kV doc pm cdv ct : Value} {an : Option Addr} {f : Addr} {args : Args} {binds : List (Str × Value)} {n : Nat}
/-- entry of a function whose binding turns the state -/
theorem enterB {oc : Value} {od : Option Addr} {osl : Array (Option Value)} (am : Amb A (n + 1)) (cx : Cx w s.heap) (ho : (K w.params).lookup f = some ⟨oc, od, .func (fnX name qual params body scope cl dV kV doc pm an cdv ct), osl⟩) (hcd : codeIn (K w.params) cdv qual = true)
    (hbind : ∀ (M : Model) (A : Around) (E : Value → Shared → Prop) (Q : List (Str × Value) → Shared → Prop), Q binds s₁ → wpAny M A (bindArgs (fnX name qual params body scope cl dV kV doc pm an cdv ct) args) Q E s)
    (hx : ∀ b o, s.heap.get? b = some o → s₁.heap.get? b = some o)
    (st : List (Addr × Obj)) (hst : ∀ p ∈ st, s₁.heap.get? p.1 = some p.2) (hloc : ∀ y ∈ binds, scope.names.lookup y.1 = some .local)
    (hcell : ∀ x ∈ scope.names, x.2 ≠ .cell) (hco : scope.isCoroutine = false) (hgen : scope.isGenerator = false) (hk : scope.kind = .function)
    (h : ∀ g L h₁, g = hideAll s₁.heap (st.map (·.1)) → L = s₁.heap.objs.size → Fr g L h₁ (fun y => binds.reverse.lookup y) → News g L h₁ st → (∀ b o, s₁.heap.get? b = some o → h₁.get? b = some o) →
      wpAny (model prog w) (A.deeper (envX qual scope L f cdv cl)) (execs body (envX qual scope L f cdv cl))
        (fun fl s' => R (.ok (.ret (match fl with | .ret v => v | _ => .none))) s') (fun _ _ => False) { s₁ with heap := h₁, toks := s₁.toks + binds.length }) :
    codeAny (model prog w) A (.call (.ref f) args) R s := by
  refine codeAny_call_function (o := ⟨oc, od, .func (fnX name qual params body scope cl dV kV doc pm an cdv ct), osl⟩) (fd := fnX name qual params body scope cl dV kV doc pm an cdv ct) (body := body) (by have := am.dep; omega) (cx.X _ _ ho) rfl hco hgen rfl (codeRec_of cx.X hcd) ?_
  refine hbind _ _ _ _ ?_
  refine wpAny_newFunctionEnv hcell hloc (fun h₁ hns hsb => ⟨(cx.keeps hx).nolimit.fresh _ hsb, codeAny_func ?_⟩) hk
  have hk₁ : ∀ b o, s₁.heap.get? b = some o → h₁.get? b = some o := fun b o e => hsb.extBut b o (Nat.ne_of_lt (Heap.lt_size e)) (Heap.get?_push_of_some _ e)
  refine wpAny_mono (h _ s₁.heap.objs.size h₁ rfl rfl ⟨hns, fun b o e => hk₁ b o (of_hideAll _ e), Nat.le_of_eq (hideAll_size _ _)⟩
    (fun p hp => ⟨hk₁ _ _ (hst p hp), Nat.ne_of_lt (Heap.lt_size (hst p hp)), hideAll_none _ (List.mem_map_of_mem hp)⟩) hk₁) (fun _ _ y => y) fun _ _ y => y.elim
end
/-- a star argument from a tuple as it lies -/
theorem star_tup {prog : Program} {w : World} {A : Around} {E : Value → Shared → Prop} {s : Shared} {h : Heap} {t : Nat} {a : Addr} {its : Array Value} {n : Nat} {ws : List Value} {Q : List Value → Shared → Prop} (D : h.get? a = some ⟨.type "tuple", none, .seq its n, #[]⟩) (e : its.toList = ws)
    (hz : its.size ≤ sizeLine) (q : ∀ h', Keeps [] h h' → Q ws (stt s h' t)) : StarOf (model prog w) A E (.ref a) Q (stt s h t) := by
  have hT' : (stt s h t).TypeIs (.ref a) "tuple" := ⟨_, D, rfl⟩
  subst e
  have z : wpAny (model prog w) A (collect (.ref a)) Q E (stt s h t) := wpAny_collect_seq (s := stt s h t) a (.inr rfl) D rfl rfl (fun h' hk => q h' fun b o e _ => hk b o e) hz
  unfold StarOf notIterableAtAll
  exact wpAny_bind (wpAny_specialOf hT' PySem.F.slot_tuple_iter.lookup (wpAny_pure ⟨rfl, z⟩))
open LCg in
/-- a list comprehension over a tuple in the base -/
theorem ListComp_T {prog : Program} {w : World} {A : Around} {E : Value → Shared → Prop} {s : Shared} {h₀ : Heap} {L : Addr} {m : Str → Option Value} {env : Env} {elt iter : Expr} {x : Str} {px : Pos} {scope : Scope} {cl : List (Str × Addr)} {pos : Pos} {ax : Addr} {its : Array Value} {news : List (Addr × Obj)} {Q : Value → Shared → Prop} (F₀ : Fr h₀ L s.heap m)
    (hclos : closureFor scope env = pure cl) (hcell : ∀ y ∈ scope.names, y.2 ≠ .cell) (hkind : scope.kind = .function)
    (hnames : ∀ y ∈ scope.names, y.2 = .local → scope.names.lookup y.1 = some .local) (hx : scope.names.lookup x = some .local) (hh : A.handled = none) (ht : h₀.IsTuple ax its) (hsz : its.size ≤ sizeLine)
    (h : wpAny (model prog w) A (eval iter env) (fun xv s₁ => xv = .ref ax ∧ Fr h₀ L s₁.heap m ∧ News h₀ L s₁.heap news ∧
      ∀ s₂ : Shared, (∃ h, s₂ = { s₁ with heap := h }) → CompRest prog w A h₀ L m env elt x scope cl s₂ (fun _ => True) (fun i v => its[i]? = some v) (FinE h₀ L m s₂ Q) its.size 0 [] news) E s)
    (hs : ∀ x, foldedSetIterable iter env x = pure x := by intro _; rfl) :
    wpAny (model prog w) A (eval (.ListComp elt [⟨.Name x px, iter, [], 0⟩] scope pos) env) Q E s := by
  rw [eval_ListComp]
  refine wpAny_comprehension_free (use := none) rfl hs hclos hkind hnames (wpAny_mono h (fun xv s₁ h₁ => ?_) fun _ _ e => e)
  obtain ⟨rfl, F, N, R⟩ := h₁
  have keepT : ∀ h : Heap, (∀ b o, h₀.get? b = some o → h.get? b = some o) → h.IsTuple ax its := fun h k => by obtain ⟨o, e, r⟩ := ht; exact ⟨o, k _ _ e, r⟩
  have hl := keepT _ F.keep
  have hlt : ax < s₁.heap.objs.size := by obtain ⟨_, e, _⟩ := hl; exact Heap.lt_size e
  refine wpAny_pyIter_tuple hl ?_
  have up : ∀ b o, s₁.heap.get? b = some o → (s₁.heap.push { cls := .type "tuple_iterator", data := .fields #[.ref ax, .int 0 0] }).get? b = some o := fun b o e => Heap.get?_push_of_some _ e
  refine block_U (Walks.tuple hh s₁.heap.objs.size ax (Nat.ne_of_lt hlt) its) hsz (fun i h st => by obtain ⟨o, e, _⟩ := st.1; exact ⟨o, e⟩) (fun i h h' o nw st e e' k N S => ⟨by obtain ⟨o', q, r⟩ := st.1; rw [e] at q; cases q; exact ⟨o, e', r⟩, keepT _ k⟩) hcell hkind hx ⟨⟨_, Heap.get?_push_size _ rfl, rfl, rfl⟩, keepT _ fun b o e => up _ _ (F.keep b o e)⟩ (fun b hb => ?_)
    (F.keeps up) (N.grown up) (Nat.ne_of_lt F.ns.lt) (next_is_new F) (fun p hp => Nat.ne_of_lt (Heap.lt_size (N p hp).1)) trivial (R _ ⟨_, rfl⟩) ?_
  · show b < (s₁.heap.push _).objs.size
    rw [Heap.size_push]
    rcases List.mem_cons.mp hb with rfl | hb
    · exact Nat.lt_succ_self _
    · rw [List.mem_singleton.mp hb]; exact Nat.lt_succ_of_lt hlt
  · intro D C h tk m' ys news' F' N' o1 hn hC₀ hD₀ hCL hDL hCD offC fin
    refine ⟨m', hn, fun h'' hs'' => fin D h'' tk (F'.change hs'' hCL hC₀) (fun p hp => ?_) o1⟩
    refine ⟨hs''.extBut _ _ ?_ (N' p hp).1, (N' p hp).2⟩
    rcases List.mem_cons.mp hp with rfl | hp
    · exact Ne.symm hCD
    · exact offC p hp
end
section
set_option maxHeartbeats 1000000
open LCg in
/-- a list comprehension, by an invariant of heaps -/
theorem comp_core {prog : Program} {w : World} {A : Around} {E : Value → Shared → Prop} {s : Shared} {h : Heap} {t : Nat} {env : Env} {elt iter : Expr} {x : Str} {px : Pos} {ifs : List Expr} {scope : Scope} {cl : List (Str × Addr)} {pos : Pos} {I : Addr} {fp : List Addr} {n : Nat} {P : Nat → Value → Prop} {St : Nat → Heap → Prop} {RR : Value → Addr → Result → Shared → Prop}
    (W : Walks prog w A I fp [I] n P St) (hIo : ∀ i h, St i h → ∃ o, h.get? I = some o) (hsz : n ≤ sizeLine) (hst : St 0 h) (hfp : ∀ b ∈ fp, b < h.objs.size)
    (hcell : ∀ y ∈ scope.names, y.2 ≠ .cell) (hkind : scope.kind = .function) (hx : scope.names.lookup x = some .local)
    (k : ∀ C D h₁, Keeps [] h h₁ → (∀ b o, h.get? b = some o → b < D) → D < C → (∃ o, h₁.get? C = some o) → h₁.get? D = some (lst []) → ∃ J : Nat → List Value → Heap → Prop, J 0 [] h₁ ∧
      (∀ i ys h h', J i ys h → Keeps [I, C, D] h h' → J i ys h') ∧ (∀ i i' ys h h', St i h → J i' ys h' → h'.get? I = h.get? I → St i h') ∧
      (∀ i v ys h t oC m₂ (E : Value → Shared → Prop), i < n → P i v → J i ys h → (∃ o, h.get? I = some o) → h.get? D = some (lst ys) → h.get? C = some oC → NsObj oC m₂ → m₂ x = some v →
        wpAny (model prog w) A (forIn ifs true fun c r => if r = true then do let ok ← isTrue c (compEnvC scope cl C env) (eval c (compEnvC scope cl C env)); pure (ForInStep.yield ok) else pure (ForInStep.yield r))
          (fun ok s' => if ok = true then wpAny (model prog w) A (eval elt (compEnvC scope cl C env)) (fun y s' => ∃ h' t', s' = stt s h' t' ∧ (∀ a ∈ [I, C, D], h'.get? a = h.get? a) ∧ J (i + 1) (ys ++ [y]) h') E s'
            else ∃ h' t', s' = stt s h' t' ∧ (∀ a ∈ [I, C, D], h'.get? a = h.get? a) ∧ J (i + 1) ys h') E (stt s h t)) ∧
      (∀ ys h t, J n ys h → h.get? D = some (lst ys) → (∃ m, h.Ns C m) → RR (.ref D) C (.ok .next) (stt s h t))) :
    wpAny (model prog w) A (newList []) (fun acc s₃ => wpAny (model prog w) A (newFunctionEnv scope env.globals cl [] env.qual none .none (some env)) (fun cenv s₄ =>
      codeAny (model prog w) A (.compStart (.ListComp elt [⟨.Name x px, iter, ifs, 0⟩] scope pos) 0 (.ref I) acc { cenv with scope := relabel scope env }) (RR acc cenv.locals) s₄) E s₃) E (stt s h t) := by
  refine wpAny_newObj_type (wpAny_newFunctionEnv hcell (by intro y hy; simp at hy) (fun h₁ hns₁ hsb₁ => ?_) hkind)
  dsimp only at hns₁ hsb₁ ⊢
  generalize hH2 : h.push { cls := .type "list", dict := none, data := .seq ([] : List Value).toArray } = H2 at hns₁ hsb₁ ⊢
  have hC : H2.objs.size = h.objs.size + 1 := by rw [← hH2, Heap.size_push]
  have hDC : h.objs.size ≠ H2.objs.size := by rw [hC]; exact Nat.ne_of_lt (Nat.lt_succ_self _)
  have below : ∀ b, b < h.objs.size → b ≠ H2.objs.size ∧ b ≠ h.objs.size := fun b hb => ⟨by rw [hC]; exact Nat.ne_of_lt (Nat.lt_succ_of_lt hb), Nat.ne_of_lt hb⟩
  have hDf : h.objs.size ∉ fp := fun hm => Nat.lt_irrefl _ (hfp _ hm)
  have hCf : H2.objs.size ∉ fp := fun hm => by have := hfp _ hm; rw [hC] at this; exact Nat.lt_irrefl _ (Nat.lt_of_succ_lt this)
  have hIlt : I < h.objs.size := hfp I (W.sub I (List.mem_singleton.mpr rfl))
  have hCI : I ≠ H2.objs.size := (below I hIlt).1
  have hDI : I ≠ h.objs.size := (below I hIlt).2
  have old : ∀ b o, h.get? b = some o → h₁.get? b = some o := fun b o e => hsb₁.extBut b o (below b (Heap.lt_size e)).1 (Heap.get?_push_of_some _ (hH2 ▸ Heap.get?_push_of_some _ e))
  have hacc : h₁.get? h.objs.size = some (lst []) := hsb₁.extBut _ _ hDC (Heap.get?_push_of_some _ (hH2 ▸ Heap.get?_push_size _ rfl))
  have hst₁ : St 0 h₁ := W.frame _ _ _ hst fun b _ o e => old b o e
  obtain ⟨oC₁, heC₁, hoC₁⟩ := ns_obj hns₁
  obtain ⟨J, j0, stab, src, step, fin⟩ := k H2.objs.size h.objs.size h₁ (fun b o e _ => old b o e) (fun b o e => Heap.lt_size e) (by rw [hC]; exact Nat.lt_succ_self _) ⟨_, heC₁⟩ hacc
  have loop : ∀ t', codeAny (model prog w) A (.compLoop (.ListComp elt [⟨.Name x px, iter, ifs, 0⟩] scope pos) 0 (.ref I) (.ref h.objs.size) (compEnvC scope cl H2.objs.size env)) (RR (.ref h.objs.size) H2.objs.size) (stt s h₁ t') := by
    intro t'
    refine codeAny_compLoop_tests
      (fun k s' => ∃ h' tk i ys oC m', s' = stt s h' tk ∧ i ≤ n ∧ k = n + 1 - i ∧ ys.length ≤ i ∧ St i h' ∧ J i ys h' ∧ h'.get? H2.objs.size = some oC ∧ NsObj oC m' ∧ h'.get? h.objs.size = some (lst ys)) ?_ (n + 1)
      ⟨h₁, t', 0, [], oC₁, _, rfl, Nat.zero_le _, rfl, Nat.le_refl _, hst₁, j0, heC₁, hoC₁, hacc⟩
    rintro k' s' ⟨h', tk, i, ys, oC, m', rfl, hi, rfl, hyl, hst', hj, heC, hoC, heD⟩
    by_cases hlt : i < n
    · refine W.item i _ _ _ hlt hst' fun v h₂ tk₂ hPv hst₂ hk₂ => ?_
      have heC₂ := hk₂ _ _ (by simpa using Ne.symm hCI) heC
      have heD₂ := hk₂ _ _ (by simpa using Ne.symm hDI) heD
      have hj₂ := stab _ _ _ _ hj (fun b o e nb => hk₂ b o (fun z => nb (List.mem_singleton.mp z ▸ .head _)) e)
      refine wpAny_assign_Name (wpAny_storeName_local (lookup_relabel_local hx) (hoC.ns heC₂) (fun h₃ hn₃ hs₃ => ?_) (by simp [compEnvC, relabel, hkind]))
      obtain ⟨oC₃, heC₃, hoC₃⟩ := ns_obj hn₃
      have hst₃ : St (i + 1) h₃ := W.frame _ _ _ hst₂ fun b hb o e => hs₃.extBut b o (fun q => hCf (by have q' : b = H2.objs.size := q; rw [← q']; exact hb)) e
      have hj₃ := stab _ _ _ _ hj₂ (fun b o e nb => hs₃.extBut b o (fun z => nb (z ▸ .tail _ (.head _))) e)
      have heD₃ := hs₃.extBut _ _ hDC heD₂
      refine wpAny_mono (step i v ys h₃ _ oC₃ _ _ hlt hPv hj₃ (hIo _ _ hst₃) heD₃ heC₃ hoC₃ (by simp)) (fun ok s' hok => ?_) fun _ _ e => e
      cases ok with
      | true =>
        rw [if_pos rfl] at hok ⊢
        refine wpAny_mono hok (fun y s' hy => ?_) fun _ _ e => e
        obtain ⟨h₄, t₄, rfl, same, hj₄⟩ := hy
        have heC₄ := (same _ (.tail _ (.head _))).trans heC₃
        have heD₄ := (same _ (.tail _ (.tail _ (.head _)))).trans heD₃
        have hst₄ := src _ _ _ _ _ hst₃ hj₄ (same _ (.head _))
        refine append_at (s := stt s h₄ t₄) (hsz := by show ys.toArray.size ≤ sizeLine; rw [List.size_toArray]; omega) heD₄ fun h₅ hs₅ hD₅ => ?_
        have hj₅ := stab _ _ _ _ hj₄ (fun b o e nb => hs₅.extBut b o (fun z => nb (z ▸ .tail _ (.tail _ (.head _)))) e)
        exact ⟨n + 1 - (i + 1), by omega, h₅, t₄, i + 1, ys ++ [y], oC₃, _, rfl, hlt, rfl, by rw [List.length_append, List.length_singleton]; omega, W.frame _ _ _ hst₄ fun b hb o e => hs₅.extBut b o (fun q => hDf (q ▸ hb)) e, hj₅, hs₅.extBut _ _ (Ne.symm hDC) heC₄, hoC₃, hD₅.trans (congrArg some (lst_snoc ys y))⟩
      | false =>
        rw [if_neg Bool.false_ne_true] at hok ⊢
        obtain ⟨h₄, t₄, rfl, same, hj₄⟩ := hok
        have heC₄ := (same _ (.tail _ (.head _))).trans heC₃
        have heD₄ := (same _ (.tail _ (.tail _ (.head _)))).trans heD₃
        exact ⟨n + 1 - (i + 1), by omega, h₄, t₄, i + 1, ys, oC₃, _, rfl, hlt, rfl, by omega, src _ _ _ _ _ hst₃ hj₄ (same _ (.head _)), hj₄, heC₄, hoC₃, heD₄⟩
    · obtain rfl : i = n := Nat.le_antisymm hi (Nat.not_lt.mp hlt)
      refine W.done _ _ _ hst' fun h₂ tk₂ hk₂ => ?_
      exact fin _ _ _ (stab _ _ _ _ hj (fun b o e nb => hk₂ b o (fun z => nb (List.mem_singleton.mp z ▸ .head _)) e)) (hk₂ _ _ (by simpa using Ne.symm hDI) heD) ⟨_, hoC.ns (hk₂ _ _ (by simpa using Ne.symm hCI) heC)⟩
  exact codeAny_compStart_list (loop _) (W.self 0 _ _ _ hst₁ (loop _))
end
section
set_option maxHeartbeats 1000000
open LCg in
/-- the turns of a comprehension, by an invariant -/
def Turns (w : World) (A : Around) (s : Shared) (env : Env) (elt : Expr) (ifs : List Expr) (x : Str) (scope : Scope) (cl : List (Str × Addr)) (n : Nat) (P : Nat → Value → Prop) (src : Heap → Prop) (h : Heap) (Fin : Addr → Addr → List Value → Heap → Nat → Prop) : Prop :=
  ∀ I C D h₁, Keeps [] h h₁ → (∀ b o, h.get? b = some o → b < I) → I < D → D < C → (∃ o, h₁.get? I = some o) → (∃ o, h₁.get? C = some o) → h₁.get? D = some (lst []) → ∃ J : Nat → List Value → Heap → Prop, J 0 [] h₁ ∧
    (∀ i ys h h', J i ys h → Keeps [I, C, D] h h' → J i ys h') ∧ (∀ i ys h, J i ys h → src h) ∧
    (∀ i v ys h t oC m₂ (E : Value → Shared → Prop), i < n → P i v → J i ys h → (∃ o, h.get? I = some o) → h.get? D = some (lst ys) → h.get? C = some oC → NsObj oC m₂ → m₂ x = some v →
      wpAny (model prog w) A (forIn ifs true fun c r => if r = true then do let ok ← isTrue c (compEnvC scope cl C env) (eval c (compEnvC scope cl C env)); pure (ForInStep.yield ok) else pure (ForInStep.yield r))
        (fun ok s' => if ok = true then wpAny (model prog w) A (eval elt (compEnvC scope cl C env)) (fun y s' => ∃ h' t', s' = stt s h' t' ∧ (∀ a ∈ [I, C, D], h'.get? a = h.get? a) ∧ J (i + 1) (ys ++ [y]) h') E s'
          else ∃ h' t', s' = stt s h' t' ∧ (∀ a ∈ [I, C, D], h'.get? a = h.get? a) ∧ J (i + 1) ys h') E (stt s h t)) ∧
    (∀ ys h t, J n ys h → h.get? D = some (lst ys) → Fin C D ys h t)
inductive SrcK (w : World) (A : Around) (s : Shared) (env : Env) (elt : Expr) (ifs : List Expr) (x : Str) (scope : Scope) (cl : List (Str × Addr)) (Fin : Addr → Addr → List Value → Heap → Nat → Prop) : Value → Shared → Prop
  | range {r a b u1 u2 u3 n h t} : IsRange h r a b 1 u1 u2 u3 → Builtin.Range.small a b 1 = true → Builtin.Range.rangeSize a b 1 = ((n : Nat) : Int) → n ≤ sizeLine →
      Turns w A s env elt ifs x scope cl n (fun i v => ∃ t, v = .int (a + (i : Int)) t) (fun _ => True) h Fin → SrcK w A s env elt ifs x scope cl Fin (.ref r) (stt s h t)
  | list {ax its h t} : h.IsList ax its → its.size ≤ sizeLine → Turns w A s env elt ifs x scope cl its.size (fun i v => its[i]? = some v) (fun h => h.IsList ax its) h Fin → SrcK w A s env elt ifs x scope cl Fin (.ref ax) (stt s h t)
section
variable {w : World} {A : Around} {E : Value → Shared → Prop} {s : Shared} {env : Env} {elt iter : Expr} {x : Str} {px : Pos} {ifs : List Expr} {scope : Scope} {cl : List (Str × Addr)} {pos : Pos}
open LCg in
theorem src_core {RR : Value → Addr → Result → Shared → Prop} {Fin : Addr → Addr → List Value → Heap → Nat → Prop} {xv : Value} {s₁ : Shared} (hh : A.handled = none) (hcell : ∀ y ∈ scope.names, y.2 ≠ .cell) (hkind : scope.kind = .function) (hx : scope.names.lookup x = some .local)
    (c : SrcK w A s env elt ifs x scope cl Fin xv s₁)
    (fin : ∀ (I C D : Addr) ys h t (J : List Value → Heap → Prop), D < C → (∀ ys h h', J ys h → Keeps [I, C, D] h h' → J ys h') → (∀ ys h t, J ys h → h.get? D = some (lst ys) → Fin C D ys h t) → J ys h → h.get? D = some (lst ys) → (∃ m, h.Ns C m) → RR (.ref D) C (.ok .next) (stt s h t)) :
    wpAny (model prog w) A (pyIter xv) (fun it s₂ => wpAny (model prog w) A (newList []) (fun acc s₃ => wpAny (model prog w) A (newFunctionEnv scope env.globals cl [] env.qual none .none (some env)) (fun cenv s₄ =>
      codeAny (model prog w) A (.compStart (.ListComp elt [⟨.Name x px, iter, ifs, 0⟩] scope pos) 0 it acc { cenv with scope := relabel scope env }) (RR acc cenv.locals) s₄) E s₃) E s₂) E s₁ := by
  cases c with
  | @range r a b u1 u2 u3 n h t hr hsm hn hsz T =>
    refine wpAny_pyIter_range hr hsm ?_
    have up : ∀ (o' : Obj) b o, h.get? b = some o → (h.push o').get? b = some o := fun o' b o e => Heap.get?_push_of_some _ e
    refine comp_core (s := s) (range_walks hh a n) (fun i h st => ⟨_, st⟩) hsz (by show IsRangeIter _ _ _ _ _; rw [hn]; simpa using Heap.get?_push_size _ rfl) (fun b hb => by rw [List.mem_singleton.mp hb, Heap.size_push]; exact Nat.lt_succ_self _) hcell hkind hx fun C D h₁ k lt ltC ⟨oC, eC⟩ eD => ?_
    have lI : h.objs.size < D := lt _ _ (Heap.get?_push_size _ rfl)
    obtain ⟨J, j0, stab, src, step, fn⟩ := T h.objs.size C D h₁ (fun b o e _ => k.all _ _ (up _ _ _ e)) (fun b o e => Heap.lt_size e) lI ltC ⟨_, k.all _ _ (Heap.get?_push_size _ rfl)⟩ ⟨oC, eC⟩ eD
    refine ⟨J, j0, stab, fun i i' ys h h' st _ e => e.trans st, step, fun ys h t hj hD hm => fin _ C D ys h t (J n) ltC (stab n) fn hj hD hm⟩
  | @list ax its h t hl hsz T =>
    refine wpAny_pyIter_list hl ?_
    have up : ∀ (o' : Obj) b o, h.get? b = some o → (h.push o').get? b = some o := fun o' b o e => Heap.get?_push_of_some _ e
    have hlt : ax < h.objs.size := by obtain ⟨_, e, _⟩ := hl; exact Heap.lt_size e
    refine comp_core (s := s) (Walks.list hh h.objs.size ax (Nat.ne_of_lt hlt) its) (fun i h st => by obtain ⟨o, e, _⟩ := st.1; exact ⟨o, e⟩) hsz ⟨⟨_, Heap.get?_push_size _ rfl, rfl, rfl⟩, hl.push _⟩ (fun b hb => ?_) hcell hkind hx fun C D h₁ k lt ltC ⟨oC, eC⟩ eD => ?_
    · show b < (h.push _).objs.size
      rw [Heap.size_push]
      rcases List.mem_cons.mp hb with rfl | hb
      · exact Nat.lt_succ_self _
      · rw [List.mem_singleton.mp hb]; exact Nat.lt_succ_of_lt hlt
    · have lI : h.objs.size < D := lt _ _ (Heap.get?_push_size _ rfl)
      obtain ⟨J, j0, stab, src, step, fn⟩ := T h.objs.size C D h₁ (fun b o e _ => k.all _ _ (up _ _ _ e)) (fun b o e => Heap.lt_size e) lI ltC ⟨_, k.all _ _ (Heap.get?_push_size _ rfl)⟩ ⟨oC, eC⟩ eD
      refine ⟨J, j0, stab, fun i i' ys h h' st hj e => ⟨st.1.at fun o e' => e.trans e', src _ _ _ hj⟩, step, fun ys h t hj hD hm => fin _ C D ys h t (J its.size) ltC (stab its.size) fn hj hD hm⟩
open LCg in
/-- a comprehension as an expression -/
theorem comp_E {Q : Value → Shared → Prop} (hclos : closureFor scope env = pure cl) (hh : A.handled = none) (hcell : ∀ y ∈ scope.names, y.2 ≠ .cell) (hkind : scope.kind = .function) (hnames : ∀ y ∈ scope.names, y.2 = .local → scope.names.lookup y.1 = some .local) (hx : scope.names.lookup x = some .local)
    (q : wpAny (model prog w) A (eval iter env) (SrcK w A s env elt ifs x scope cl (fun _ D _ h t => Q (.ref D) (stt s h t))) E s)
    (hs : ∀ x, foldedSetIterable iter env x = pure x := by intro _; rfl) :
    wpAny (model prog w) A (eval (.ListComp elt [⟨.Name x px, iter, ifs, 0⟩] scope pos) env) Q E s := by
  rw [eval_ListComp]
  refine wpAny_comprehension_free (use := none) rfl hs hclos hkind hnames (wpAny_mono q (fun xv s₁ h₁ => ?_) fun _ _ e => e)
  refine src_core hh hcell hkind hx h₁ fun I C D ys h t J lt stab fn hj hD ⟨m, hm⟩ => ?_
  exact ⟨m, hm, fun h' sb => fn ys h' t (stab _ _ _ hj fun b o e nb => sb.extBut b o (fun z => nb (z ▸ .tail _ (.head _))) e) (sb.extBut _ _ (Nat.ne_of_lt lt) hD)⟩
open LCg in
/-- a comprehension stored in a local name -/
theorem comp_A {y : Str} {py spos : Pos} {Q : Flow → Shared → Prop} {g : Heap} (hsw : swapsWith (.ListComp elt [⟨.Name x px, iter, ifs, 0⟩] scope pos) (some (.Name y py)) spos.line env = pure true)
    (hclos : closureFor scope env = pure cl) (hh : A.handled = none) (hcell : ∀ y ∈ scope.names, y.2 ≠ .cell) (hkind : scope.kind = .function) (hnames : ∀ y ∈ scope.names, y.2 = .local → scope.names.lookup y.1 = some .local) (hx : scope.names.lookup x = some .local)
    (hy : env.kindOf y = some .local) (hp : (env.scope.kind == .class || (env.scope.kind == .module && env.locals != env.globals)) = false)
    (q : wpAny (model prog w) A (eval iter env) (SrcK w A s env elt ifs x scope cl (fun C D ys h t => ∃ m, Fr g env.locals h m ∧ env.locals ≠ C ∧ g.get? C = none ∧ ∀ h' t', Fr g env.locals h' (fun z => if z = y then some (.ref D) else m z) → Keeps [env.locals, C] h h' → h'.get? D = some (lst ys) → Q .next (stt s h' t'))) E s)
    (hLD : ∀ (C D : Addr) ys (h : Heap) m, h.get? D = some (lst ys) → Fr g env.locals h m → env.locals ≠ D := by
      intro C D ys h m e F z; obtain ⟨o, es, ep, e1, e2, _⟩ := F.ns; rw [z, e] at e1; cases e1; cases e2)
    (hs : ∀ x, foldedSetIterable iter env x = pure x := by intro _; rfl) :
    wpAny (model prog w) A (exec (.Assign [.Name y py] (.ListComp elt [⟨.Name x px, iter, ifs, 0⟩] scope pos) spos) env) Q E s := by
  rw [exec_Assign_Name_used _ _ _ _ hsw]
  refine wpAny_bind (wpAny_standAt (wpAny_bind ?_))
  show wpAny _ A (do let _ ← comprehension (.ListComp elt [⟨.Name x px, iter, ifs, 0⟩] scope pos) scope env _ (newList []) false (eval iter env) (some (assign (.Name y py) env))) _ _ s
  refine wpAny_bind (wpAny_mono (wpAny_comprehension_free (use := some (assign (.Name y py) env)) (Q := fun _ s' => Q .next s') rfl hs hclos hkind hnames
    (wpAny_mono q (fun xv s₁ h₁ => ?_) fun _ _ e => e)) (fun _ s' hq => wpAny_pure (wpAny_pure hq)) fun _ _ e => e)
  refine src_core hh hcell hkind hx h₁ fun I C D ys h t J lt stab fn hj hD ⟨m', hm'⟩ => ?_
  obtain ⟨m, F, nLC, gC, fq⟩ := fn ys h t hj hD
  have nLD := hLD C D ys h m hD F
  show wpAny _ A (assign (.Name y py) env (.ref D)) _ _ _
  refine wpAny_assign_Name (wpAny_storeName_local (s := stt s h t) hy F.ns (fun h₂ hn₂ hs₂ => ?_) hp)
  have F₂ := F.set hn₂ hs₂
  refine ⟨m', hm'.sameBut hs₂ (Ne.symm nLC), fun h₃ hs₃ => ?_⟩
  refine fq h₃ _ (F₂.change hs₃ (Ne.symm nLC) gC) (fun b o e nb => hs₃.extBut b o (fun z => nb (z ▸ .tail _ (.head _))) (hs₂.extBut b o (fun z => nb (z ▸ .head _)) e)) (hs₃.extBut _ _ (Nat.ne_of_lt lt) (hs₂.extBut _ _ (Ne.symm nLD) hD))
end
end
section
set_option maxHeartbeats 1000000
/-- the turns of a for loop, by an invariant -/
def ForT (w : World) (A : Around) (s : Shared) (env : Env) (target : Expr) (body : List Stmt) (n : Nat) (P : Nat → Value → Prop) (src : Heap → Prop) (h : Heap) (Q : Flow → Shared → Prop) : Prop :=
  ∀ I h₁, Keeps [] h h₁ → (∀ b o, h.get? b = some o → b < I) → (∃ o, h₁.get? I = some o) → ∃ J : Nat → Heap → Prop, J 0 h₁ ∧ (∀ i h h', J i h → Keeps [I] h h' → J i h') ∧ (∀ i h, J i h → src h) ∧
    (∀ i v h t (E : Value → Shared → Prop), i < n → P i v → J i h → (∃ o, h.get? I = some o) → wpAny (model prog w) A (assign target env v) (fun _ s₂ => wpAny (model prog w) A (execs body env) (fun f s₃ => match f with
      | .next | .cont => ∃ h' t', s₃ = stt s h' t' ∧ h'.get? I = h.get? I ∧ J (i + 1) h'
      | .brk => Q .next s₃
      | .ret v => Q (.ret v) s₃) E s₂) E (stt s h t)) ∧
    (∀ h t, J n h → Q .next (stt s h t))
inductive ForS (w : World) (A : Around) (s : Shared) (env : Env) (target : Expr) (body : List Stmt) (Q : Flow → Shared → Prop) : Value → Shared → Prop
  | range {r a b c u1 u2 u3 n h t} : IsRange h r a b c u1 u2 u3 → Builtin.Range.small a b c = true → Builtin.Range.rangeSize a b c = ((n : Nat) : Int) → (∀ it v, letOwnedTupleGo target it v = pure ()) →
      ForT w A s env target body n (fun i v => i < n ∧ ∃ t, v = .int (a + i * c) t) (fun _ => True) h Q → ForS w A s env target body Q (.ref r) (stt s h t)
  | list {ax its h t} : h.IsList ax its → ForT w A s env target body its.size (fun i v => its[i]? = some v) (fun h => h.IsList ax its) h Q → ForS w A s env target body Q (.ref ax) (stt s h t)
section
variable {w : World} {A : Around} {E : Value → Shared → Prop} {s : Shared} {env : Env} {target iter : Expr} {body : List Stmt} {pos : Pos} {Q : Flow → Shared → Prop}
theorem for_core {h : Heap} {t : Nat} {I : Addr} {fp : List Addr} {n : Nat} {P : Nat → Value → Prop} {St : Nat → Heap → Prop} {J : Nat → Heap → Prop} {R : Result → Shared → Prop} (W : Walks prog w A I fp [I] n P St) (hIo : ∀ i h, St i h → ∃ o, h.get? I = some o) (st0 : St 0 h) (j0 : J 0 h) (hR : ∀ f s', Q f s' → R (.ok f) s')
    (hgo : ∀ i v h t (E : Value → Shared → Prop) (Q' : Unit → Shared → Prop), St i h → Q' () (stt s h t) → wpAny (model prog w) A (letOwnedTupleGo target (.ref I) v) Q' E (stt s h t))
    (stab : ∀ i h h', J i h → Keeps [I] h h' → J i h') (src : ∀ i i' h h', St i h → J i' h' → h'.get? I = h.get? I → St i h')
    (step : ∀ i v h t (E : Value → Shared → Prop), i < n → P i v → J i h → (∃ o, h.get? I = some o) → wpAny (model prog w) A (assign target env v) (fun _ s₂ => wpAny (model prog w) A (execs body env) (fun f s₃ => match f with
      | .next | .cont => ∃ h' t', s₃ = stt s h' t' ∧ h'.get? I = h.get? I ∧ J (i + 1) h'
      | .brk => Q .next s₃
      | .ret v => Q (.ret v) s₃) E s₂) E (stt s h t))
    (done : ∀ h t, J n h → Q .next (stt s h t)) :
    codeAny (model prog w) A (.forLoop target (.ref I) body [] env) R (stt s h t) := by
  refine codeAny_forLoop_any (fun k s' => ∃ h' tk i, s' = stt s h' tk ∧ i ≤ n ∧ k = n + 1 - i ∧ St i h' ∧ J i h') ?_ (n + 1) ⟨h, t, 0, rfl, Nat.zero_le _, rfl, st0, j0⟩
  rintro k s' ⟨h', tk, i, rfl, hi, rfl, hst, hj⟩
  by_cases hlt : i < n
  · refine W.item i _ _ _ hlt hst fun v h₂ tk₂ hP hst₂ hk₂ => ?_
    have hj₂ := stab _ _ _ hj (fun b o e nb => hk₂ b o nb e)
    refine hgo _ _ _ _ _ _ hst₂ ?_
    refine wpAny_mono (step i v h₂ tk₂ _ hlt hP hj₂ (hIo _ _ hst₂)) (fun _ s₂ h₂' => wpAny_mono h₂' (fun f s₃ h₃ => ?_) fun _ _ e => e) fun _ _ e => e
    cases f with
    | next =>
      obtain ⟨h₄, t₄, rfl, e, hj₄⟩ := h₃
      exact ⟨n + 1 - (i + 1), by omega, h₄, t₄, i + 1, rfl, hlt, rfl, src _ _ _ _ hst₂ hj₄ e, hj₄⟩
    | cont =>
      obtain ⟨h₄, t₄, rfl, e, hj₄⟩ := h₃
      exact ⟨n + 1 - (i + 1), by omega, h₄, t₄, i + 1, rfl, hlt, rfl, src _ _ _ _ hst₂ hj₄ e, hj₄⟩
    | brk => exact hR _ _ h₃
    | ret v => exact hR _ _ h₃
  · obtain rfl : i = n := Nat.le_antisymm hi (Nat.not_lt.mp hlt)
    refine W.done _ _ _ hst fun h₂ tk₂ hk₂ => ?_
    refine wpAny_execs_nil ?_
    exact hR _ _ (done _ _ (stab _ _ _ hj (fun b o e nb => hk₂ b o nb e)))
/-- a for loop by an invariant -/
theorem for_K (hh : A.handled = none) (q : wpAny (model prog w) A (eval iter env) (ForS w A s env target body Q) E s)
    (hs : ∀ x, foldedSetIterable iter env x = pure x := by intro _; rfl) :
    wpAny (model prog w) A (exec (.For target iter body [] pos) env) Q E s := by
  refine wpAny_For (wpAny_mono q (fun xv s₁ c => ?_) fun _ _ e => e) hs
  cases c with
  | @range r a b c u1 u2 u3 n h t hr hsm hn ht T =>
    refine wpAny_pyIter_range hr hsm ?_
    obtain ⟨J, j0, stab, _, step, done⟩ := T h.objs.size (h.push { cls := .type "range_iterator", data := .fields #[rawInt a, rawInt (Builtin.Range.rangeSize a b c), rawInt c] }) (fun b o e _ => Heap.get?_push_of_some _ e) (fun b o e => Heap.lt_size e) ⟨_, Heap.get?_push_size _ rfl⟩
    refine for_core (s := s) (Q := Q) ((Walks.range hh h.objs.size a c n).bound) (fun i h st => ⟨_, st⟩) (by show IsRangeIter _ _ _ _ _; rw [hn]; simpa using Heap.get?_push_size _ rfl) j0 (fun _ _ z => z) (fun i v h t E Q' _ z => by rw [ht]; exact wpAny_pure z) stab (fun i i' h h' st _ e => e.trans st) step done
  | @list ax its h t hl T =>
    refine wpAny_pyIter_list hl ?_
    have hlt : ax < h.objs.size := by obtain ⟨_, e, _⟩ := hl; exact Heap.lt_size e
    obtain ⟨J, j0, stab, src, step, done⟩ := T h.objs.size (h.push { cls := .type "list_iterator", data := .fields #[.ref ax, .int 0 0] }) (fun b o e _ => Heap.get?_push_of_some _ e) (fun b o e => Heap.lt_size e) ⟨_, Heap.get?_push_size _ rfl⟩
    refine for_core (s := s) (Q := Q) (Walks.list hh h.objs.size ax (Nat.ne_of_lt hlt) its) (fun i h st => by obtain ⟨o, e, _⟩ := st.1; exact ⟨o, e⟩) ⟨⟨_, Heap.get?_push_size _ rfl, rfl, rfl⟩, hl.push _⟩ j0 (fun _ _ z => z) (fun i v h t E Q' st z => letGo_listiter st.1 z) stab (fun i i' h h' st hj e => ⟨st.1.at fun o e' => e.trans e', src _ _ hj⟩) step done
end
end
section
set_option maxHeartbeats 4000000
section
variable {M : Model} {A : Around} {E : Value → Shared → Prop} {s : Shared} {w : World} {g : Heap} {L : Addr} {m m₂ : Str → Option Value} {x : Str} {pos : Pos} {v : Value} {Q : Value → Shared → Prop} {env : Env}
theorem cn_l (N : s.heap.Ns env.locals m₂) (hv : m₂ x = some v) (h : Q v s) (hk : env.scope.kind = .function := by rfl) (hx : env.kindOf x = some .local := by rfl) (hd : (x == ("__debug__" : Str)) = false := by decide) :
    wpAny M A (eval (.Name x pos) env) Q E s := wpAny_Name (wpAny_loadName_local hk hx N hv h) hd
theorem cn_g (F : Fr g L s.heap m) (cx : Cx w g) (e : nsIn (K w.params) mainGlobals x = some (some v)) (h : Q v s) (hk : env.scope.kind = .function := by rfl) (hx : env.kindOf x = some .globalImplicit := by rfl) (hg : env.globals = mainGlobals := by rfl) (hd : (x == ("__debug__" : Str)) = false := by decide) :
    wpAny M A (eval (.Name x pos) env) Q E s := by
  obtain ⟨_, _, _, _, _, T⟩ := cx.T
  exact Name_function_global hk hx (loadGlobal_global (env := env) (hg.symm ▸ (topRead_of T).g.keeps F.keep) (mg_of cx.X (topRead_of T).g e) h) hd
end
section
variable {w : World} {A : Around} {E : Value → Shared → Prop} {s : Shared} {h : Heap} {t : Nat} {x : Addr} {amt per : Int}
theorem isi_str {y : Str} {u : Tok} {Q : Value → Shared → Prop} (q : ∀ t', Q (.bool false) (stt s h t')) : wpAny (model prog w) A (call (.builtin "isinstance") [.str y u, .type "bytes"]) Q E (stt s h t) :=
  call_isinstance_of (isinstance_nested_false_str (by decide) (by rfl) (by rw [isSubtype_type]; kernel_rfl) (q _)) (by intro e; cases e)
theorem isi_int {y : Int} {u : Tok} {Q : Value → Shared → Prop} (q : ∀ t', Q (.bool false) (stt s h t')) : wpAny (model prog w) A (call (.builtin "isinstance") [.int y u, .type "bytes"]) Q E (stt s h t) :=
  call_isinstance_of (isinstance_nested_false_int (by decide) (by rfl) (by rw [isSubtype_type]; kernel_rfl) (q _)) (by intro e; cases e)
theorem safe_str {y : Str} {u : Tok} {Q : Value → Shared → Prop} (am : Amb A 1) (cx : Cx w h) (q : ∀ u h' t', Keeps [] h h' → Q (.str y u) (stt s h' t')) : wpAny (model prog w) A (call (.ref 387) [.str y u]) Q E (stt s h t) := by
  refine wpAny_call ?_
  refine enter (s := stt s h t) am cx (k387 _) rfl (binds := [(Str.ofString "value", .str y u)]) [] (fun _ h => nomatch h) (bindsK cx.X fun _ => by kernel_rfl) (locs rfl) (by decide) rfl rfl rfl ?_
  intro g L h₁ hg hL F N k₁
  have cx' : Cx w g := cx.keeps (fun b o e => hg ▸ e)
  refine wpAny_execs_cons ?_
  walk_at "bn"
  refine nm_b F cx' (by kernel_rfl) Boot.«isinstance» (by decide) ?_
  walk_at "bn"
  refine nm_b F cx' (by kernel_rfl) Boot.«bytes» (by decide) ?_
  walk_at "bn"
  refine isi_str fun _ => ?_
  walk_at "bn"
  rw [if_neg (by decide)]
  walk_at "bn"
  refine nm_b F cx' (by kernel_rfl) Boot.«str» (by decide) ?_
  walk_at "bn"
  refine P.str_of_str ?_
  exact q _ _ _ fun b o e _ => k₁ b o e
theorem safe_int {y : Int} {u : Tok} {Q : Value → Shared → Prop} (am : Amb A 1) (cx : Cx w h) (hy : y.natAbs.log2 < 1920) (q : ∀ u h' t', Keeps [] h h' → Q (.str (toString y) u) (stt s h' t')) : wpAny (model prog w) A (call (.ref 387) [.int y u]) Q E (stt s h t) := by
  refine wpAny_call ?_
  refine enter (s := stt s h t) am cx (k387 _) rfl (binds := [(Str.ofString "value", .int y u)]) [] (fun _ h => nomatch h) (bindsK cx.X fun _ => by kernel_rfl) (locs rfl) (by decide) rfl rfl rfl ?_
  intro g L h₁ hg hL F N k₁
  have cx' : Cx w g := cx.keeps (fun b o e => hg ▸ e)
  refine wpAny_execs_cons ?_
  walk_at "bn"
  refine nm_b F cx' (by kernel_rfl) Boot.«isinstance» (by decide) ?_
  walk_at "bn"
  refine nm_b F cx' (by kernel_rfl) Boot.«bytes» (by decide) ?_
  walk_at "bn"
  refine isi_int fun _ => ?_
  walk_at "bn"
  rw [if_neg (by decide)]
  walk_at "bn"
  refine nm_b F cx' (by kernel_rfl) Boot.«str» (by decide) ?_
  walk_at "bn"
  refine P.str_of_int hy ?_
  exact q _ _ _ fun b o e _ => k₁ b o e
/-- the item's window -/
theorem it_expiry {Q : Value → Shared → Prop} (am : Amb A 4) (cx : Cx w h) (i : Itm h x amt per) (q : ∀ u h' t', Keeps [] h h' → Q (.int per u) (stt s h' t')) : wpAny (model prog w) A (call (.ref 522) [.ref x]) Q E (stt s h t) := by
  refine wpAny_call ?_
  refine enter (s := stt s h t) am cx (k522 _) rfl (binds := [(Str.ofString "self", .ref x)]) [] (fun _ h => nomatch h) (bindsK cx.X fun _ => by kernel_rfl) (locs rfl) (by decide) rfl rfl rfl ?_
  intro g L h₁ hg hL F N k₁
  have cx' : Cx w g := cx.keeps (fun b o e => hg ▸ e)
  have ig : Itm g x amt per := i.keeps (fun b o e => hg ▸ e)
  refine wpAny_execs_cons ?_
  walk_at "bn"
  refine it_gran F cx' (ig.keeps F.keep) fun _ => ?_
  refine gr_seconds ((am.deeper _).mono (by decide)) (cx'.keeps F.keep) fun _ h₂ _ k₂ => ?_
  have F₂ := fr_all F k₂.all
  walk_at "bn"
  refine it_mult F₂ cx' (ig.keeps F₂.keep) fun _ _ => ?_
  refine b_mulL (by decide) fun _ _ => ?_
  rw [Int.one_mul]
  exact q _ _ _ fun b o e _ => k₂.all _ _ (k₁ b o e)
theorem gn_safe (P : Params) : nsIn (K P) mainGlobals (Str.ofString "safe_string") = some (some (.ref 387)) := by kernel_rfl
/-- what an item's key reads -/
def keyOf (amt per : Int) : Str := Str.empty ++ Str.ofString "LIMITER" ++ Str.ofString "/" ++ Txt.join (Str.ofString "/") [Str.ofString "ann", Str.ofString (toString amt), Str.ofString (toString per), Str.ofString "second"]
open LCg in
theorem it_key {u₀ : Tok} {R : Result → Shared → Prop} (am : Amb A 4) (cx : Cx w h) (i : Itm h x amt per) (ha : amt.natAbs.log2 < 1920) (hp : per.natAbs.log2 < 1920)
    (h1 : (Str.ofString (toString amt)).length ≤ 10) (h2 : (Str.ofString (toString per)).length ≤ 10) (hz : (keyOf amt per).length ≤ 1000) (q : ∀ u h' t', Keeps [] h h' → R (.ok (.ret (.str (keyOf amt per) u))) (stt s h' t')) : codeAny (model prog w) A (.call (.ref 527) ⟨[.ref x, .str (Str.ofString "ann") u₀], []⟩) R (stt s h t) := by
  refine enterB (s := stt s h t) (s₁ := stt s (h.push ⟨.type "tuple", none, .seq #[.str (Str.ofString "ann") u₀] 0, #[]⟩) t) am cx (k527 _) rfl (binds := [(Str.ofString "self", .ref x), (Str.ofString "identifiers", .ref h.objs.size)]) ?_ (fun _ _ e => Heap.get?_push_of_some _ e) [] (fun _ h => nomatch h) (locs rfl) (by decide) rfl rfl rfl ?_
  · intro M A E Q hq
    have e : bindArgs (fnX (Str.ofString "key_for") (Str.ofString "RateLimitItem.key_for") (fParams (nthS (cBody (nthS prog.main.body 17)) 6)) (fBody (nthS (cBody (nthS prog.main.body 17)) 6)) (fScope (nthS (cBody (nthS prog.main.body 17)) 6)) [] .none .none (.str (docS (fBody (nthS (cBody (nthS prog.main.body 17)) 6))) 1119) (.str (Str.ofString "limits.limits") 790) none (.ref 526) .none)
        ⟨[.ref x, .str (Str.ofString "ann") u₀], []⟩ = (newTuple [.str (Str.ofString "ann") u₀] >>= fun v => pure [(Str.ofString "self", .ref x), (Str.ofString "identifiers", v)]) := by kernel_rfl
    show wpAny M A (bindArgs _ ⟨[.ref x, .str (Str.ofString "ann") u₀], []⟩) Q E _
    rw [e]
    refine wpAny_bind ?_
    refine wpAny_newObj_type (s := stt s h t) ?_ (by show (1 : Nat) ≤ sizeLine; decide)
    exact wpAny_pure hq
  intro g L h₁ hg hL F N k₁
  have kg : ∀ b o, h.get? b = some o → g.get? b = some o := fun b o e => hg ▸ Heap.get?_push_of_some _ e
  have cx' : Cx w g := cx.keeps kg
  have ig : Itm g x amt per := i.keeps kg
  have hT : g.get? h.objs.size = some ⟨.type "tuple", none, .seq #[.str (Str.ofString "ann") u₀] 0, #[]⟩ := hg ▸ Heap.get?_push_size _ rfl
  refine wpAny_execs_cons ?_
  walk_at "bn"
  refine GM.join ?_
  walk_at "bn"
  refine ListComp_T (news := []) F rfl (by decide) rfl (by decide) rfl am.hd ⟨_, hT, rfl, _, rfl⟩ (by show (1 : Nat) ≤ sizeLine; decide) ?_
  walk_at "bn"
  refine ⟨rfl, F, N, ?_⟩
  rintro s₂ ⟨h₂, rfl⟩
  refine CompRest.succ fun v I oI C oC D m₂ h₃ tk E' hv hn hm F₃ N₃ off ne => ?_
  have hns := hn.ns (N₃.get (.tail _ (.head _)))
  refine Call_ ?_
  refine cn_g F₃ cx' (gn_safe _) ?_
  refine callWith_D (w := w) (by kernel_rfl) ?_
  refine spliced_more ?_
  refine cn_l hns hm ?_
  refine spliced_none ?_
  refine ⟨Fr.cx F₃ cx', ?_⟩
  obtain rfl : v = .str (Str.ofString "ann") u₀ := by
    have : (#[Value.str (Str.ofString "ann") u₀])[0]? = some v := hv
    simpa using this.symm
  refine safe_str (s := stt s h t) ((am.deeper _).mono (by decide)) (cx'.keeps F₃.keep) fun u₁ h₄ _ k₄ => ?_
  refine CompEnd.intro (fr_all F₃ k₄.all) (news_all N₃ k₄.all) [] (fun _ z => z) trivial trivial ?_
  refine CompRest.zero ?_
  intro D h₅ tk F₅ N₅ _
  walk_at "bn"
  refine nm_g F₅ cx' (gn_safe _) ?_
  refine callWith_D (w := w) (by kernel_rfl) ?_
  walk_at "bn"
  refine it_amount (s := s) F₅ cx' (ig.keeps F₅.keep) fun _ _ => ?_
  walk_at "bn"
  refine ⟨Fr.cx F₅ cx', ?_⟩
  refine safe_int (s := s) ((am.deeper _).mono (by decide)) (cx'.keeps F₅.keep) ha fun u₂ h₆ _ k₆ => ?_
  have F₆ := fr_all F₅ k₆.all
  have N₆ := news_all N₅ k₆.all
  walk_at "bn"
  refine nm_g F₆ cx' (gn_safe _) ?_
  refine callWith_D (w := w) (by kernel_rfl) ?_
  walk_at "bn"
  refine it_mult (s := s) F₆ cx' (ig.keeps F₆.keep) fun _ _ => ?_
  walk_at "bn"
  refine ⟨Fr.cx F₆ cx', ?_⟩
  refine safe_int (s := s) ((am.deeper _).mono (by decide)) (cx'.keeps F₆.keep) hp fun u₃ h₇ _ k₇ => ?_
  have F₇ := fr_all F₆ k₇.all
  have N₇ := news_all N₆ k₇.all
  walk_at "bn"
  refine it_gran (s := s) F₇ cx' (ig.keeps F₇.keep) fun _ => ?_
  refine gr_name (s := s) ((am.deeper _).mono (by decide)) (cx'.keeps F₇.keep) fun u₄ h₈ _ k₈ => ?_
  have F₈ := fr_all F₇ k₈.all
  have N₈ := news_all N₇ k₈.all
  walk_at "bn"
  refine n_list (s := s) F₈ N₈ (by show (3 : Nat) ≤ sizeLine; decide) fun D₂ h₉ F₉ N₉ _ _ => ?_
  refine add_lists F₉ N₉ ⟨_, N₉.get (.tail _ (.head _)), rfl, _, rfl⟩ ⟨_, N₉.get (.head _), rfl, _, rfl⟩ (fun h' F' N' => ?_) (by show (4 : Nat) ≤ sizeLine; decide)
  walk_at "bn"
  refine join_list ⟨_, N'.get (.head _), rfl, _, rfl⟩ (.cons _ _ (.cons _ _ (.cons _ _ (.cons _ _ .nil)))) (by show (3 + ((Str.ofString (toString amt)).length + ((Str.ofString (toString per)).length + (6 + 0)))) + 4 * 1 ≤ 16777216; omega) fun u₅ k => ?_
  walk_at "bn"
  refine s_loc (s := s) F' N' (fun h'' t'' F'' N'' _ => ?_)
  walk_at "bn"
  refine JoinedStr_many ?_
  refine joinParts_cons ?_
  refine FormattedValue_plain ?_
  walk_at "bn"
  refine it_ns (s := s) F'' cx' (ig.keeps F''.keep) fun _ _ => ?_
  refine formatField_str (fun t₁ tk₁ => ?_) (by decide)
  refine ⟨by decide, ?_⟩
  refine joinParts_cons ?_
  walk_at "bn"
  refine ⟨by decide, ?_⟩
  show wpAny _ _ (joinParts _ [eval _ _]) _ _ _
  refine joinParts_cons ?_
  refine FormattedValue_plain ?_
  walk_at "bn"
  refine formatField_str (fun t₂ tk₂ => ?_) (by have := hz; unfold keyOf at this; rw [PySem.Str.length_append] at this; exact Nat.le_trans (m := 1000) (by omega) (by decide))
  refine ⟨(Nat.le_trans hz (by decide) : (keyOf amt per).length ≤ sizeLine), ?_⟩
  with_reducible refine joinParts_nil ?_ (Nat.le_trans hz (by decide))
  exact q _ _ _ fun b o e _ => F''.keep _ _ (kg _ _ e)
end
end
section
set_option maxHeartbeats 4000000
/-- the key of one window of a sliding limit -/
def winKey (key : Str) (q : Int) : Str := Str.empty ++ key ++ Str.ofString "/" ++ Str.ofString (toString q)
section
variable {w : World} {A : Around} {E : Value → Shared → Prop} {s : Shared} {h : Heap} {t : Nat}
theorem f_int {i : Int} {u : Tok} {Q : Value → Shared → Prop} (hi : i.natAbs.log2 < 1920) (q : ∀ u t', Q (.str (Str.ofString (toString i)) u) (stt s h t')) : wpAny (model prog w) A (formatField (.int i u) Str.empty) Q E (stt s h t) :=
  wpAny_formatField_int (s := stt s h t) hi (q _ _)
theorem sw_keys {key : Str} {u u1 u2 : Tok} {per now : Int} {R : Result → Shared → Prop} (am : Amb A 1) (cx : Cx w h) (hz : key.length ≤ 1000) (h0 : 0 < per) (h1 : per < 100) (h2 : per ≤ now)
    (hl1 : ((now - per) / per).natAbs.log2 < 1920) (hl2 : (now / per).natAbs.log2 < 1920) (hz1 : (winKey key ((now - per) / per)).length ≤ 2000) (hz2 : (winKey key (now / per)).length ≤ 2000)
    (q : ∀ T u v h' t', Keeps [] h h' → IsTup h' T #[.str (winKey key ((now - per) / per)) u, .str (winKey key (now / per)) v] → R (.ok (.ret (.ref T))) (stt s h' t')) :
    codeAny (model prog w) A (.call (.ref 585) ⟨[.ref 972, .str key u, .int per u1, .int now u2], []⟩) R (stt s h t) := by
  refine enter (s := stt s h t) am cx (k585 _) rfl (binds := [(Str.ofString "cls", .ref 972), (Str.ofString "key", .str key u), (Str.ofString "expiry", .int per u1), (Str.ofString "at", .int now u2)]) [] (fun _ h => nomatch h) (bindsK cx.X fun _ => by kernel_rfl) (locs rfl) (by decide) rfl rfl rfl ?_
  intro g L h₁ hg hL F N k₁
  refine wpAny_execs_cons ?_
  walk_at "bn"
  refine JoinedStr_many ?_
  refine joinParts_cons ?_
  refine FormattedValue_plain ?_
  walk_at "bn"
  have lk : (Str.empty ++ key).length ≤ 1000 := by rw [PySem.Str.length_append]; show 0 + _ ≤ _; omega
  have lk1 : (Str.empty ++ key ++ Str.ofString "/").length ≤ 1001 := by rw [PySem.Str.length_append]; show _ + 1 ≤ _; omega
  refine formatField_str (fun t₁ tk₁ => ?_) (Nat.le_trans hz (by decide))
  refine ⟨Nat.le_trans lk (by decide), ?_⟩
  with_reducible refine joinParts_cons ?_
  walk_at "bn"
  refine ⟨Nat.le_trans lk1 (by decide), ?_⟩
  show wpAny _ _ (joinParts _ [eval _ _]) _ _ _
  with_reducible refine joinParts_cons ?_
  refine FormattedValue_plain ?_
  walk_at "bn"
  rw [if_pos (decide_eq_true h2)]
  walk_at "bn"
  refine b_div (s := s) h0 (by omega) fun _ _ => ?_
  refine f_int (s := s) hl1 fun _ _ => ?_
  refine ⟨Nat.le_trans hz1 (by decide), ?_⟩
  with_reducible refine joinParts_nil ?_ (Nat.le_trans hz1 (by decide))
  walk_at "bn"
  refine JoinedStr_many ?_
  refine joinParts_cons ?_
  refine FormattedValue_plain ?_
  walk_at "bn"
  refine formatField_str (fun t₁ tk₁ => ?_) (Nat.le_trans hz (by decide))
  refine ⟨Nat.le_trans lk (by decide), ?_⟩
  with_reducible refine joinParts_cons ?_
  walk_at "bn"
  refine ⟨Nat.le_trans lk1 (by decide), ?_⟩
  show wpAny _ _ (joinParts _ [eval _ _]) _ _ _
  with_reducible refine joinParts_cons ?_
  refine FormattedValue_plain ?_
  walk_at "bn"
  refine b_div (s := s) h0 (by omega) fun _ _ => ?_
  refine f_int (s := s) hl2 fun _ _ => ?_
  refine ⟨Nat.le_trans hz2 (by decide), ?_⟩
  with_reducible refine joinParts_nil ?_ (Nat.le_trans hz2 (by decide))
  walk_at "bn"
  refine n_tuple (s := s) F N (by show (2 : Nat) ≤ sizeLine; decide) fun T h' F' N' k' _ => ?_
  exact q _ _ _ _ _ (fun b o e _ => k'.all _ _ (k₁ b o e)) ⟨_, N'.get (.head _), rfl, _, rfl⟩
end
section
variable {w : World} {A : Around} {E : Value → Shared → Prop} {s : Shared} {h : Heap} {t : Nat} {S : SA} {g : Heap} {L : Addr} {m : Str → Option Value} {c : Int} {news : List (Addr × Obj)}
theorem fa_swk (P : Params) : findIn (K P) (.ref 972) (Str.ofString "sliding_window_keys") = some (some (.ref 587)) := by kernel_rfl
theorem sg587 (P : Params) : specialIn (K P) (.ref 587) "__get__" = some (some (.builtin "classmethod.__get__")) := by kernel_rfl
theorem tk587 (P : Params) : takesIn (K P) (.ref 587) = some false := by kernel_rfl
theorem cn_swk : copiedNames.contains (Str.ofString "sliding_window_keys") = false := by decide +kernel
theorem fo_swk (P : Params) (es : List DictEntry) (n : Nat) (e : getL (Str.ofString "sliding_window_keys") es = some none) : findObj (K P) 972 (some (dictOf es n)) (Str.ofString "sliding_window_keys") = some (.bind (.builtin "classmethod.__get__") (.ref 587)) := by
  obtain ⟨cd, hc, hd⟩ := any_some (hd972 P)
  unfold findObj
  have ho : W.ownOf cd (some (dictOf es n)) (Str.ofString "sliding_window_keys") = some none := by unfold W.ownOf; rw [if_pos hd]; exact (lookIn_dict _ _ _).trans e
  rw [hc, Option.bind_some, fa_swk, Option.bind_some]
  simp only [sg587, tk587, Option.bind_some, ho, cn_swk, Bool.false_and, Bool.false_eq_true, if_false]
theorem ty587 (P : Params) : typeIn (K P) (.ref 587) = some (.type "classmethod") := by kernel_rfl
theorem al587 (P : Params) : (some (Value.ref 587)).all (fun a => (typeIn (K P) a).any fun t => t != .type "function" && t != .type "method_descriptor" && t != .type "wrapper_descriptor") = true := by rw [Option.all_some, ty587]; decide +kernel
theorem rc587 (P : Params) : recIn (K P) 587 "classmethod" = some [.ref 585, .bool false] := by kernel_rfl
/-- self.sliding_window_keys as a method -/
theorem mt_swk {pl : Sem Bool} {Q : Value × List Value → Shared → Prop} (F : Fr g L h m) (N : News g L h news) (cx : Cx w g) (st : Sto w S g c)
    (q : ∀ T h' t', Fr g L h' m → News g L h' ((T, methodObj (.ref 585) (.ref 972)) :: news) → Keeps [] h h' → Q (.ref T, []) (stt s h' t')) : wpAny (model prog w) A (getMethod (.ref S.self) (Str.ofString "sliding_window_keys") pl) Q E (stt s h t) := by
  refine method_usual (s := stt s h t) (cx.X.keeps F.keep) (st.keeps F.keep).inst (plainGet_of (pg972 _ (Str.ofString "sliding_window_keys"))).1 (plainGet_of (pg972 _ (Str.ofString "sliding_window_keys"))).2 (fa_swk _) (al587 _) ?_
  refine get_bind (s := stt s h t) (cx.X.keeps F.keep) (st.keeps F.keep).inst (plainGet_of (pg972 _ (Str.ofString "sliding_window_keys"))).1 (fo_swk _ _ _ rfl) (plainGet_of (pg972 _ (Str.ofString "sliding_window_keys"))).2 ?_
  refine wpAny_call ?_
  refine cm_get (cx.X.keeps F.keep) (rc587 _) ?_
  exact handed_on rfl (q _ _ _ (F.push _) (N.push F _) fun b o e _ => Heap.get?_push_of_some _ e)
end
end
section
set_option maxHeartbeats 4000000
/-- within a call: the base hides what the call may turn -/
structure Inn (as : List Addr) (r h₀ g : Heap) (L : Addr) : Prop where
  hg : g = hideAll h₀ as
  kg : Sub r g
  off : ∀ a ∈ as, a ≠ L
theorem Inn.gn {as r h₀ g L} (x : Inn as r h₀ g L) : ∀ a ∈ as, g.get? a = none := fun a ha => by rw [x.hg]; exact hideAll_none _ ha
theorem Inn.call {as bs r h₀ g L h h' m} (x : Inn as r h₀ g L) (F : Fr g L h m) (k : Keeps bs h h') (sub : ∀ b ∈ bs, b ∈ as := by simp) : Fr g L h' m :=
  fr_after F k (fun z => x.off _ (sub _ z) rfl) fun a ha => x.gn a (sub a ha)
theorem Inn.out {as r h₀ g L h m} (x : Inn as r h₀ g L) (F : Fr g L h m) : Keeps as h₀ h := keeps_of x.hg F
theorem ledger_ex {h : Heap} : ∀ as : List Addr, (∀ a ∈ as, ∃ o, h.get? a = some o) → ∃ st : List (Addr × Obj), st.map (·.1) = as ∧ ∀ p ∈ st, h.get? p.1 = some p.2
  | [], _ => ⟨[], rfl, fun _ z => nomatch z⟩
  | a :: r, e => by
    obtain ⟨o, ho⟩ := e a (.head _)
    obtain ⟨st, h1, h2⟩ := ledger_ex r fun b hb => e b (.tail _ hb)
    refine ⟨(a, o) :: st, by rw [List.map_cons, h1], fun p hp => ?_⟩
    rcases List.mem_cons.mp hp with rfl | hp
    · exact ho
    · exact h2 p hp
theorem nilN {g : Heap} {L : Addr} {h : Heap} : News g L h [] := fun _ z => nomatch z
section
variable {prog : Program} {w : World} {A : Around} {s : Shared} {h₀ r : Heap} {t₀ : Nat} {R : Result → Shared → Prop} {name qual : Str} {params : Arguments} {body : List Stmt} {scope : Scope} {cl : List (Str × Addr)} {dV kV doc pm cdv ct : Value} {an : Option Addr} {f : Addr} {args : Args} {n : Nat}
theorem enterI {oc : Value} {od : Option Addr} {osl : Array (Option Value)} (as : List Addr) (binds : List (Str × Value)) (am : Amb A (n + 1)) (cx : Cx w r) (kr : Sub r h₀) (hx : ∀ a ∈ as, ∃ o, h₀.get? a = some o) (hn : ∀ a ∈ as, r.get? a = none) (ho : (K w.params).lookup f = some ⟨oc, od, .func (fnX name qual params body scope cl dV kV doc pm an cdv ct), osl⟩) (hcd : codeIn (K w.params) cdv qual = true)
    (hbind : BindsTo (stt s h₀ t₀) (fnX name qual params body scope cl dV kV doc pm an cdv ct) args binds) (hloc : ∀ y ∈ binds, scope.names.lookup y.1 = some .local)
    (hcell : ∀ x ∈ scope.names, x.2 ≠ .cell) (hco : scope.isCoroutine = false) (hgen : scope.isGenerator = false) (hk : scope.kind = .function)
    (h : ∀ g L h₁, Inn as r h₀ g L → Fr g L h₁ (fun y => binds.reverse.lookup y) → Keeps [] h₀ h₁ →
      wpAny (model prog w) (A.deeper (envX qual scope L f cdv cl)) (execs body (envX qual scope L f cdv cl))
        (fun fl s' => R (.ok (.ret (match fl with | .ret v => v | _ => .none))) s') (fun _ _ => False) (stt s h₁ (t₀ + binds.length))) :
    codeAny (model prog w) A (.call (.ref f) args) R (stt s h₀ t₀) := by
  obtain ⟨st, e1, e2⟩ := ledger_ex as hx
  refine enter (s := stt s h₀ t₀) am (cx.keeps kr) ho hcd st e2 hbind hloc hcell hco hgen hk fun g L h₁ hg hL F N k => ?_
  rw [e1] at hg
  refine h g L h₁ ⟨hg, hg ▸ kr.hide hn, fun a ha => ?_⟩ F fun b o e _ => k b o e
  obtain ⟨o, ho⟩ := hx a ha
  rw [hL]
  exact Nat.ne_of_lt (Heap.lt_size ho)
end
theorem CtrAt.ex {w S h σ n} (x : CtrAt w S h σ n) : ∃ o, h.get? S.C = some o := let ⟨o, _, a, _⟩ := x; ⟨o, a⟩
theorem ExpAt.ex {w S h σ n} (x : ExpAt w S h σ n) : ∃ o, h.get? S.E = some o := let ⟨o, _, a, _⟩ := x; ⟨o, a⟩
theorem ex2 {w S h σ ε n n'} (x : CtrAt w S h σ n) (y : ExpAt w S h ε n') : ∀ a ∈ [S.C, S.E], ∃ o, h.get? a = some o := by
  intro a ha
  simp only [List.mem_cons, List.not_mem_nil, or_false] at ha
  rcases ha with rfl | rfl
  · exact x.ex
  · exact y.ex
section
variable {w : World} {A : Around} {E : Value → Shared → Prop} {s : Shared} {h₀ h : Heap} {t₀ t : Nat} {S : SA} {r g : Heap} {L : Addr} {m : Str → Option Value} {c : Int} {σ ε : Str → Option Int} {n n' : Nat} {R : Result → Shared → Prop}
theorem f_get (P : Params) : findIn (K P) (.ref 972) (Str.ofString "get") = some (some (.ref 897)) := by kernel_rfl
theorem i_get (P : Params) : isFn (K P) (.ref 897) = true := by kernel_rfl
theorem kp_get (P : Params) : keepIn (K P) (.ref 897) = true := by kernel_rfl
/-- `self.get(key)` with the key's text at hand -/
theorem call_get {k : Str} {u : Tok} {Q : Value → Shared → Prop} (rt : Rt w S c r) (kr : Sub r h) (am : Amb A 2) (hc : CtrAt w S h σ n) (he : ExpAt w S h ε n') (hn : n ≤ sizeLine) (hn' : n' ≤ sizeLine)
    (q : ∀ u h' t', Keeps [S.C, S.E] h h' → CtrAt w S h' (gotS σ ε c k) n → ExpAt w S h' (gotE ε c k) n' → Q (.int ((gotS σ ε c k k).getD 0) u) (stt s h' t')) :
    wpAny (model prog w) A (call (.ref 897) [.ref S.self, .str k u]) Q E (stt s h t) :=
  wpAny_call (get_spec (s := s) rt kr am hc he hn hn' q)
theorem info_spec {k1 k2 : Str} {u1 u2 u3 u4 : Tok} {per now : Int} (rt : Rt w S c r) (kr : Sub r h₀) (am : Amb A 3) (hc : CtrAt w S h₀ σ n) (he : ExpAt w S h₀ ε n') (hn : n ≤ sizeLine) (hn' : n' ≤ sizeLine) (h0 : 0 < per) (h1 : per < 100)
    (q : ∀ T u1 u2 u3 u4 h' t', Keeps [S.C, S.E] h₀ h' → CtrAt w S h' (gotS (gotS σ ε c k1) (gotE ε c k1) c k2) n → ExpAt w S h' (gotE (gotE ε c k1) c k2) n' →
      IsTup h' T #[.int ((gotS σ ε c k1 k1).getD 0) u1, .int (if (gotS σ ε c k1 k1).getD 0 = 0 then 0 else per - (now - per) % per) u2, .int ((gotS (gotS σ ε c k1) (gotE ε c k1) c k2 k2).getD 0) u3, .int (per - now % per + per) u4] →
      R (.ok (.ret (.ref T))) (stt s h' t')) :
    codeAny (model prog w) A (.call (.ref 941) ⟨[.ref S.self, .str k1 u1, .str k2 u2, .int per u3, .int now u4], []⟩) R (stt s h₀ t₀) := by
  refine enterI [S.C, S.E] [(Str.ofString "self", .ref S.self), (Str.ofString "previous_key", .str k1 u1), (Str.ofString "current_key", .str k2 u2), (Str.ofString "expiry", .int per u3), (Str.ofString "now", .int now u4)] am rt.cx kr (ex2 hc he) rt.nCE (k941 _) rfl (bindsK (rt.cx.X.keeps kr) fun _ => by kernel_rfl) (locs rfl) (by decide) rfl rfl rfl ?_
  intro g L h₁ I F k₁
  have cx := rt.cx.keeps I.kg
  have st := rt.st.keeps I.kg
  have c₁ := hc.keeps k₁ (by simp)
  have e₁ := he.keeps k₁ (by simp)
  have lC : S.C ∉ [L] := fun z => I.off S.C (by simp) (List.mem_singleton.mp z)
  have lE : S.E ∉ [L] := fun z => I.off S.E (by simp) (List.mem_singleton.mp z)
  have tail : ∀ ttl ttl' h₂ t₂ m₂ v1 v2 v3, ttl' = ttl → CtrAt w S h₂ (gotS (gotS σ ε c k1) (gotE ε c k1) c k2) n → ExpAt w S h₂ (gotE (gotE ε c k1) c k2) n' → Fr g L h₂ m₂ → m₂ (Str.ofString "previous_count") = some (.int ((gotS σ ε c k1 k1).getD 0) v1) → m₂ (Str.ofString "current_count") = some (.int ((gotS (gotS σ ε c k1) (gotE ε c k1) c k2 k2).getD 0) v2) → m₂ (Str.ofString "previous_ttl") = some (.int ttl v3) →
      m₂ (Str.ofString "expiry") = some (.int per u3) → m₂ (Str.ofString "now") = some (.int now u4) → (∀ T u1 u2 u3 u4 h' t', Keeps [S.C, S.E] h₀ h' → CtrAt w S h' (gotS (gotS σ ε c k1) (gotE ε c k1) c k2) n → ExpAt w S h' (gotE (gotE ε c k1) c k2) n' →
      IsTup h' T #[.int ((gotS σ ε c k1 k1).getD 0) u1, .int ttl' u2, .int ((gotS (gotS σ ε c k1) (gotE ε c k1) c k2 k2).getD 0) u3, .int (per - now % per + per) u4] →
      R (.ok (.ret (.ref T))) (stt s h' t')) →
      wpAny (model prog w) (A.deeper (envX (Str.ofString "MemoryStorage._get_sliding_window_info") (fScope (stM 11)) L 941 (.ref 940) [])) (execs ((fBody (stM 11)).drop 3) (envX (Str.ofString "MemoryStorage._get_sliding_window_info") (fScope (stM 11)) L 941 (.ref 940) []))
        (fun fl s' => R (.ok (.ret (match fl with | .ret v => v | _ => .none))) s') (fun _ _ => False) (stt s h₂ t₂) := by
    intro ttl ttl' h₂ t₂ m₂ v1 v2 v3 ett c₂ e₂ F₂ p1 p2 p3 p4 p5 q
    subst ett
    refine wpAny_execs_cons ?_
    walk_at "bn"
    refine b_mod (s := s) am.hd h0 fun _ _ => ?_
    walk_at "bn"
    refine s_loc (s := s) F₂ nilN fun h₃ t₃ F₃ _ k₃ => ?_
    have c₃ := c₂.keeps k₃ lC
    have e₃ := e₂.keeps k₃ lE
    walk_at "bn"
    refine n_tuple (s := s) F₃ nilN (by show (4 : Nat) ≤ sizeLine; decide) fun T h₄ F₄ N₄ k₄ _ => ?_
    walk_at "bn"
    exact q _ _ _ _ _ _ _ (I.out F₄) (c₃.keeps k₄ (by simp)) (e₃.keeps k₄ (by simp)) ⟨_, N₄.get (.head _), rfl, _, rfl⟩
  refine wpAny_execs_cons ?_
  walk_at "bn"
  refine mt_store F cx st (f_get _) (i_get _) rfl ?_
  refine callWith_D (w := w) (kp_get _) ?_
  walk_at "bn"
  refine ⟨Fr.cx F cx, ?_⟩
  refine call_get (s := s) rt (fun b o e => F.keep b o (I.kg b o e)) (am.deeper _) c₁ e₁ hn hn' fun v₁ h₂ t₂ k₂ c₂ e₂ => ?_
  have F₂ := I.call F k₂
  refine s_loc (s := s) F₂ nilN fun h₃ t₃ F₃ _ k₃ => ?_
  have c₃ := c₂.keeps k₃ lC
  have e₃ := e₂.keeps k₃ lE
  walk_at "bn"
  refine mt_store F₃ cx st (f_get _) (i_get _) rfl ?_
  refine callWith_D (w := w) (kp_get _) ?_
  walk_at "bn"
  refine ⟨Fr.cx F₃ cx, ?_⟩
  refine call_get (s := s) rt (fun b o e => F₃.keep b o (I.kg b o e)) (am.deeper _) c₃ e₃ hn hn' fun v₂ h₄ t₄ k₄ c₄ e₄ => ?_
  have F₄ := I.call F₃ k₄
  refine s_loc (s := s) F₄ nilN fun h₅ t₅ F₅ _ k₅ => ?_
  have c₅ := c₄.keeps k₅ lC
  have e₅ := e₄.keeps k₅ lE
  walk_at "bn"
  by_cases hz : (gotS σ ε c k1 k1).getD 0 = 0
  · rw [if_pos (by rw [hz]; rfl)]
    walk_at "bn"
    refine s_loc (s := s) F₅ nilN fun h₆ t₆ F₆ _ k₆ => ?_
    dsimp only
    refine wpAny_execs_nil ?_
    exact tail _ _ _ _ _ _ _ _ (if_pos hz) (c₅.keeps k₆ lC) (e₅.keeps k₆ lE) F₆ rfl rfl rfl rfl rfl q
  · rw [if_neg (by simpa using hz)]
    walk_at "bn"
    refine b_mod (s := s) am.hd h0 fun _ _ => ?_
    walk_at "bn"
    refine s_loc (s := s) F₅ nilN fun h₆ t₆ F₆ _ k₆ => ?_
    dsimp only
    refine wpAny_execs_nil ?_
    exact tail _ _ _ _ _ _ _ _ (if_neg hz) (c₅.keeps k₆ lC) (e₅.keeps k₆ lE) F₆ rfl rfl rfl rfl rfl q
end
end
section
set_option maxHeartbeats 4000000
/-- what subscripts ask of a dict -/
structure DSub (M : Model) (h : Heap) (d : Addr) : Prop where
  seqK : ∀ k name, Looks M h (sequenceKey (.ref d) k name) k
  gi : Looks M h (specialOf (.ref d) (Str.ofString "__getitem__")) (some (.builtin "dict.__getitem__"))
  si : Looks M h (specialOf (.ref d) (Str.ofString "__setitem__")) (some (.builtin "dict.__setitem__"))
theorem DSub.exact {M : Model} {h : Heap} {d : Addr} {o : Obj} (ho : h.get? d = some o) (hc : o.cls = .type "dict") : DSub M h d := by
  have ht : Looks M h (typeOf (.ref d)) (.type "dict") := hc ▸ (Looks.ld ho).andThen .now
  refine ⟨fun k name => ?_, ht.andThen (Looks.of_pure PySem.F.slot_dict_getitem.lookup), ht.andThen (Looks.of_pure PySem.F.slot_dict_setitem.lookup)⟩
  refine ht.andThen ?_
  exact Looks.of_pure (by dsimp only; rw [show seqItemTypes.contains "dict" = false by decide +kernel]; rfl)
theorem gi849 (P : Params) : findIn (K P) (.ref 849) (Str.ofString "__getitem__") = some (some (.builtin "dict.__getitem__")) := by kernel_rfl
theorem si849 (P : Params) : findIn (K P) (.ref 849) (Str.ofString "__setitem__") = some (some (.builtin "dict.__setitem__")) := by kernel_rfl
theorem ms849 (P : Params) : findIn (K P) (.ref 849) (Str.ofString "__missing__") = some (some (.ref 654)) := by kernel_rfl
theorem t654 (P : Params) : typeIn (K P) (.ref 654) = some (.type "function") := by kernel_rfl
theorem sq849 (P : Params) (S : Setting) : peek (K P) S (seqItemTypes.anyM fun n => isSubtype (.ref 849) (.type n)) = some false := by kernel_rfl
theorem DSub.counter {M : Model} {h : Heap} {d : Addr} {o : Obj} {P : Params} (X : (K P).In h) (ho : h.get? d = some o) (hc : o.cls = .ref 849) : DSub M h d := by
  have ht : Looks M h (typeOf (.ref d)) (.ref 849) := hc ▸ (Looks.ld ho).andThen .now
  refine ⟨fun k name => ?_, ht.andThen (looks_findIn X (gi849 _)), ht.andThen (looks_findIn X (si849 _))⟩
  refine ht.andThen ?_
  have z : Looks M h (seqItemTypes.anyM fun n => isSubtype (.ref 849) (.type n)) false := Looks.of_peek X (sq849 _ _)
  exact z.andThen (Looks.of_pure (by rfl))
section
variable {w : World} {A : Around} {E : Value → Shared → Prop} {s : Shared} {h : Heap} {t : Nat} {d : Addr} {o : Obj} {f : Str → Option Value} {n : Nat} {k : Str} {u : Tok} {v : Value} {S : SA} {σ : Str → Option Int}
theorem chk_gi {a : Value} {M : Model} {s : Shared} {Q : Unit → Shared → Prop} (x : DLike M s.heap d) (h : Q () s) : wpAny M A (checkBuiltinCall "dict.__getitem__" ⟨[.ref d, a], []⟩) Q E s := by
  refine chk (n := "__getitem__") (owner := "dict") (rest := [a]) (kw := []) ?_ ?_ ?_ ?_ ?_
  · decide +kernel
  · exact kind_getitem
  · exact x.inst
  · exact PySem.F.args_dict_getitem_2 _ _
  · exact h
theorem chk_si {a b : Value} {M : Model} {s : Shared} {Q : Unit → Shared → Prop} (x : DLike M s.heap d) (h : Q () s) : wpAny M A (checkBuiltinCall "dict.__setitem__" ⟨[.ref d, a, b], []⟩) Q E s := by
  refine chk (n := "__setitem__") (owner := "dict") (rest := [a, b]) (kw := []) ?_ ?_ ?_ ?_ ?_
  · decide +kernel
  · exact kind_setitem
  · exact x.inst
  · exact PySem.F.args_dict_setitem_3 _ _ _
  · exact h
theorem tail_d {value slice : Expr} {i : Value} {ops : List Value} {Q : Value → Shared → Prop} (y : DSub (model prog w) h d) (hg : wpAny (model prog w) A (getItem (.ref d) i) Q E (stt s h t))
    (hs : subscripted slice false (.ref d) i = operate ops (getItem (.ref d) i) := by with_unfolding_all rfl) : wpAny (model prog w) A (subscriptTail value slice (.ref d) i) Q E (stt s h t) := by
  unfold subscriptTail
  refine wpAny_bind ?_
  rw [getitemInPython_of_ne (by intro e; cases e)]
  refine wpAny_bind (y.gi.at ?_)
  have fin : wpAny (model prog w) A (subscripted slice false (.ref d) i) (fun r s₃ => wpAny (model prog w) A (letTemporaryGo value (.ref d) r >>= fun _ => pure r) Q E s₃) E (stt s h t) := by
    rw [hs]
    exact wpAny_operating (wpAny_mono hg (fun r s₃ h₃ => wpAny_bind (wpAny_letTemporaryGo (wpAny_pure h₃))) fun _ _ x => x)
  first
    | exact wpAny_pure (wpAny_bind fin)
    | exact wpAny_bind (wpAny_pure (wpAny_bind fin))
    | exact wpAny_bind fin
/-- an item that is there -/
theorem w_gi {Q : Value → Shared → Prop} (x : DLike (model prog w) h d) (y : DSub (model prog w) h d) (ho : h.get? d = some o) (hm : IsMap w o f n) (hv : f k = some v)
    (q : ∀ t', Q v (stt s h t')) : wpAny (model prog w) A (getItem (.ref d) (.str k u)) Q E (stt s h t) := by
  unfold getItem
  with_reducible refine wpAny_holding ?_
  refine wpAny_bind ((y.seqK _ _).at ?_)
  unfold callSpecial?
  refine wpAny_bind (wpAny_bind (y.gi.at ?_))
  refine wpAny_holding ?_
  rw [PySem.F.slot_dict_getitem.bind]
  refine wpAny_bind (wpAny_pure ?_)
  refine wpAny_bind ?_
  refine wpAny_call (codeAny_call_builtin PySem.F.slot_dict_getitem.plain PySem.F.entry_dict_getitem (chk_gi x ?_))
  show wpAny _ _ (dictGet d _ >>= _) _ _ _
  refine wpAny_bind (dget ho hm ?_)
  rw [hv]
  exact wpAny_pure (wpAny_pure (wpAny_pure (q _)))
/-- an item set -/
theorem w_si {Q : Unit → Shared → Prop} (x : DLike (model prog w) h d) (y : DSub (model prog w) h d) (ho : h.get? d = some o) (hm : IsMap w o f n) (hn : n ≤ sizeLine)
    (q : ∀ o' h' t', IsMap w o' (fun x => if x = k then some v else f x) (n + 1) → Like o o' → h'.get? d = some o' → Heap.SameBut d h h' → Q () (stt s h' t')) :
    wpAny (model prog w) A (setItem (.ref d) (.str k u) v) Q E (stt s h t) := by
  unfold setItem
  with_reducible refine wpAny_holding ?_
  refine wpAny_bind ((y.seqK _ _).at ?_)
  unfold callSpecial?
  refine wpAny_bind (wpAny_bind (y.si.at ?_))
  refine wpAny_holding ?_
  rw [PySem.F.slot_dict_setitem.bind]
  refine wpAny_bind (wpAny_pure ?_)
  refine wpAny_bind ?_
  refine wpAny_call (codeAny_call_builtin PySem.F.slot_dict_setitem.plain PySem.F.entry_dict_setitem (chk_si x ?_))
  unfold Builtin.«dict.__setitem__»
  refine wpAny_bind (notOrd x ?_)
  refine wpAny_bind (m := PySem.slotArgs _ _ _) (wpAny_pure ?_)
  refine wpAny_bind (wpAny_of_eq (a := d) rfl ?_)
  refine wpAny_bind (dset ho hm hn fun o' h' a b c e => ?_)
  exact wpAny_pure (wpAny_pure (wpAny_pure (q o' h' _ a b c e)))
/-- a Counter's item, 0 where there is none -/
theorem w_cgi {Q : Value → Shared → Prop} (am : Amb A 2) (cx : Cx w h) (hc : o.cls = .ref 849) (hsys : (d == sysModules) = false) (ho : h.get? d = some o) (hm : IsMap w o f n) (hv : Ints f σ)
    (q : ∀ u h' t', Keeps [] h h' → Q (.int ((σ k).getD 0) u) (stt s h' t')) : wpAny (model prog w) A (getItem (.ref d) (.str k u)) Q E (stt s h t) := by
  have x := DLike.counter (M := model prog w) cx.X ho hc
  have y := DSub.counter (M := model prog w) cx.X ho hc
  rcases hv k with ⟨e1, e2⟩ | ⟨i, u', e1, e2⟩
  · unfold getItem
    with_reducible refine wpAny_holding ?_
    refine wpAny_bind ((y.seqK _ _).at ?_)
    unfold callSpecial?
    refine wpAny_bind (wpAny_bind (y.gi.at ?_))
    refine wpAny_holding ?_
    rw [PySem.F.slot_dict_getitem.bind]
    refine wpAny_bind (wpAny_pure ?_)
    refine wpAny_bind ?_
    refine wpAny_call (codeAny_call_builtin PySem.F.slot_dict_getitem.plain PySem.F.entry_dict_getitem (chk_gi x ?_))
    show wpAny _ _ (dictGet d _ >>= _) _ _ _
    refine wpAny_bind (dget ho hm ?_)
    rw [e2]
    show wpAny _ _ (Builtin.Dict.missed d _ >>= _) _ _ _
    refine wpAny_bind (wpAny_missed_other hsys ?_)
    dsimp only
    have ht : Looks (model prog w) h (typeOf (.ref d)) (.ref 849) := hc ▸ (Looks.ld ho).andThen .now
    refine wpAny_bind (ht.at ?_)
    simp only [show (Value.ref 849 != Value.type "dict") = true by decide +kernel, if_true]
    refine wpAny_bind ?_
    unfold callSpecial? specialOf
    refine wpAny_bind (wpAny_bind (ht.at ((looks_findIn cx.X (ms849 _)).at ?_)))
    refine wpAny_holding ?_
    refine wpAny_bind ((bind_fn cx.X _ (t654 _)).at ?_)
    refine wpAny_bind ?_
    refine wpAny_call ?_
    refine enter (n := 0) (s := stt s h (t + 1)) (am.in1.mono (by decide)) cx (k654 _) rfl (binds := [(Str.ofString "self", .ref d), (Str.ofString "key", .str k u)]) [] (fun _ h => nomatch h) (bindsK cx.X fun _ => by kernel_rfl) (locs rfl) (by decide) rfl rfl rfl ?_
    intro g L h₁ hg hL F N k₁
    refine wpAny_execs_cons ?_
    walk_at "bn"
    rw [e1] at q
    dsimp only
    first
      | exact wpAny_bind (wpAny_rule (wpAny_pure (wpAny_pure (wpAny_pure (q _ _ _ fun b o e _ => k₁ b o e)))))
      | exact wpAny_pure (wpAny_bind (wpAny_rule (wpAny_pure (wpAny_pure (wpAny_pure (q _ _ _ fun b o e _ => k₁ b o e))))))
  · refine w_gi x y ho hm e2 fun _ => ?_
    rw [e1] at q
    exact q _ _ _ Keeps.refl
end
end
section
set_option maxHeartbeats 4000000
def incS (σ ε : Str → Option Int) (c : Int) (k : Str) (a : Int) : Str → Option Int := put (gotS σ ε c k) k ((gotS σ ε c k k).getD 0 + a)
def incE (σ ε : Str → Option Int) (c : Int) (k : Str) (X : Int) : Str → Option Int := if (gotS σ ε c k k).getD 0 = 0 then put (gotE ε c k) k (c + X) else gotE ε c k
theorem Ints.some {f σ} (x : Ints f σ) {k : Str} {i : Int} (e : σ k = some i) : ∃ u, f k = some (.int i u) := by
  rcases x k with ⟨a, _⟩ | ⟨j, u, a, b⟩
  · rw [a] at e; cases e
  · rw [a] at e; cases e; exact ⟨u, b⟩
theorem incS_at (σ ε : Str → Option Int) (c : Int) (k : Str) (a : Int) : incS σ ε c k a k = some ((gotS σ ε c k k).getD 0 + a) := if_pos rfl
section
variable {w : World} {A : Around} {E : Value → Shared → Prop} {s : Shared} {h₀ h : Heap} {t₀ t : Nat} {S : SA} {r g : Heap} {L : Addr} {m : Str → Option Value} {c : Int} {σ ε : Str → Option Int} {n n' : Nat} {R : Result → Shared → Prop}
theorem CtrAt.put {o : Obj} {f : Str → Option Value} {k : Str} {i : Int} {u : Tok} {o' : Obj} {h' : Heap} (iC : IsCtr S o) (l : Like o o') (vC : Ints f σ) (hm : IsMap w o' (fun x => if x = k then some (.int i u) else f x) (n + 1)) (e : h'.get? S.C = some o') : CtrAt w S h' (BN.put σ k i) (n + 1) :=
  ⟨_, _, e, iC.like l, hm, vC.put k i u⟩
theorem ExpAt.put {o : Obj} {f : Str → Option Value} {k : Str} {i : Int} {u : Tok} {o' : Obj} {h' : Heap} (iC : IsD o) (l : Like o o') (vC : Ints f ε) (hm : IsMap w o' (fun x => if x = k then some (.int i u) else f x) (n + 1)) (e : h'.get? S.E = some o') : ExpAt w S h' (BN.put ε k i) (n + 1) :=
  ⟨_, _, e, iC.like l, hm, vC.put k i u⟩
theorem CtrAt.grow {h n} (x : CtrAt w S h σ n) : CtrAt w S h σ (n + 1) := let ⟨o, f, a, b, ⟨⟨l, ep, c1, c2, c3, c4⟩⟩, d⟩ := x; ⟨o, f, a, b, ⟨⟨l, ep, c1, c2, c3, Nat.le_succ_of_le c4⟩⟩, d⟩
theorem ExpAt.grow {h n} (x : ExpAt w S h ε n) : ExpAt w S h ε (n + 1) := let ⟨o, f, a, b, ⟨⟨l, ep, c1, c2, c3, c4⟩⟩, d⟩ := x; ⟨o, f, a, b, ⟨⟨l, ep, c1, c2, c3, Nat.le_succ_of_le c4⟩⟩, d⟩
theorem incr_spec {k : Str} {u1 u2 u3 : Tok} {X a : Int} (rt : Rt w S c r) (kr : Sub r h₀) (am : Amb A 3) (hc : CtrAt w S h₀ σ n) (he : ExpAt w S h₀ ε n') (hn : n + 1 ≤ sizeLine) (hn' : n' + 1 ≤ sizeLine)
    (q : ∀ u h' t', Keeps [S.C, S.E] h₀ h' → CtrAt w S h' (incS σ ε c k a) (n + 1) → ExpAt w S h' (incE σ ε c k X) (n' + 1) → R (.ok (.ret (.int ((gotS σ ε c k k).getD 0 + a) u))) (stt s h' t')) :
    codeAny (model prog w) A (.call (.ref 882) ⟨[.ref S.self, .str k u1, .int X u2], [(Str.ofString "amount", .int a u3)]⟩) R (stt s h₀ t₀) := by
  refine enterI [S.C, S.E] [(Str.ofString "self", .ref S.self), (Str.ofString "key", .str k u1), (Str.ofString "expiry", .int X u2), (Str.ofString "amount", .int a u3)] am rt.cx kr (ex2 hc he) rt.nCE (k882 _) rfl (bindsK (rt.cx.X.keeps kr) fun _ => by kernel_rfl) (locs rfl) (by decide) rfl rfl rfl ?_
  intro g L h₁ I F k₁
  have cx := rt.cx.keeps I.kg
  have st := rt.st.keeps I.kg
  have c₁ := hc.keeps k₁ (by simp)
  have e₁ := he.keeps k₁ (by simp)
  refine wpAny_execs_cons ?_
  walk_at "bn"
  refine mt_store F cx st (f_get _) (i_get _) rfl ?_
  refine callWith_D (w := w) (kp_get _) ?_
  walk_at "bn"
  refine ⟨Fr.cx F cx, ?_⟩
  refine call_get (s := s) rt (fun b o e => F.keep b o (I.kg b o e)) ((am.deeper _).mono (by decide)) c₁ e₁ (by omega) (by omega) fun v₁ h₂ t₂ k₂ c₂ e₂ => ?_
  have F₂ := I.call F k₂
  refine wpAny_execs_cons ?_
  refine wpAny_AugAssign_SubscriptAny ?_
  walk_at "bn"
  refine at_storage (s := s) F₂ cx st fun _ => ?_
  walk_at "bn"
  obtain ⟨oC, fC, hoC, iC, mC, vC⟩ := c₂
  refine w_cgi (s := s) ((am.deeper _).mono (by decide)) (cx.keeps F₂.keep) iC.cls rt.sC hoC mC vC fun v₂ h₃ t₃ k₃ => ?_
  have F₃ := fr_all F₂ k₃.all
  have hoC₃ := k₃.all _ _ hoC
  have e₃ := e₂.keeps k₃ (by simp)
  walk_at "bn"
  refine P.iadd_int ?_
  refine w_si (s := s) (DLike.counter (Fr.cx F₃ cx) hoC₃ iC.cls) (DSub.counter (Fr.cx F₃ cx) hoC₃ iC.cls) hoC₃ mC (by omega) fun oC' h₄ t₄ mC' lC' gC' sC' => ?_
  have k₄ := Keeps.of_same sC'
  have F₄ := I.call F₃ k₄
  have c₄ : CtrAt w S h₄ (incS σ ε c k a) (n + 1) := CtrAt.put iC lC' vC mC' gC'
  have e₄ := e₃.keeps k₄ (by simpa using rt.dCE.symm)
  walk_at "bn"
  refine at_storage (s := s) F₄ cx st fun _ => ?_
  walk_at "bn"
  have tail : ∀ h₅ t₅, Fr g L h₅ (fun y => [(Str.ofString "self", Value.ref S.self), (Str.ofString "key", .str k u1), (Str.ofString "expiry", .int X u2), (Str.ofString "amount", .int a u3)].reverse.lookup y) → CtrAt w S h₅ (incS σ ε c k a) (n + 1) → ExpAt w S h₅ (incE σ ε c k X) (n' + 1) →
      wpAny (model prog w) (A.deeper (envX (Str.ofString "MemoryStorage.incr") (fScope (stM 3)) L 882 (.ref 881) [])) (execs ((fBody (stM 3)).drop 4) (envX (Str.ofString "MemoryStorage.incr") (fScope (stM 3)) L 882 (.ref 881) []))
        (fun fl s' => R (.ok (.ret (match fl with | .ret v => v | _ => .none))) s') (fun _ _ => False) (stt s h₅ t₅) := by
    intro h₅ t₅ F₅ c₅ e₅
    have c₅' := c₅
    obtain ⟨oC, fC, hoC, iC, mC, vC⟩ := c₅
    refine wpAny_execs_cons ?_
    walk_at "bn"
    refine at_storage (s := s) F₅ cx st fun _ => ?_
    refine mt_cget F₅ cx st hoC iC mC ?_
    walk_at "bn"
    refine w_dget (s := s) (DLike.counter (Fr.cx F₅ cx) hoC iC.cls) rt.sC hoC mC fun _ => ?_
    obtain ⟨u₂, e₂⟩ := vC.some (incS_at σ ε c k a)
    rw [e₂]
    exact q _ _ _ (I.out F₅) c₅' e₅
  obtain ⟨oC4, fC4, hoC4, iC4, mC4, vC4⟩ := c₄
  have hv4 := vC4.some (incS_at σ ε c k a)
  obtain ⟨u4, hv4⟩ := hv4
  have d4 := DSub.counter (M := model prog w) (Fr.cx F₄ cx) hoC4 iC4.cls
  refine tail_d (s := s) d4 ?_
  refine w_gi (s := s) (DLike.counter (Fr.cx F₄ cx) hoC4 iC4.cls) d4 hoC4 mC4 hv4 fun _ => ?_
  walk_at "bn"
  have c₄ : CtrAt w S h₄ (incS σ ε c k a) (n + 1) := ⟨_, _, hoC4, iC4, mC4, vC4⟩
  by_cases hz : (gotS σ ε c k k).getD 0 = 0
  · rw [if_pos (by rw [hz, Int.zero_add]; exact beq_self_eq_true a)]
    walk_at "bn"
    refine wpAny_Assign_Subscript ?_
    walk_at "bn"
    refine mt_clock (s := s) F₄ cx st fun _ => ?_
    refine callWith_F0 ⟨_, _, _, _, (st.keeps F₄.keep).lam⟩ ?_
    refine call_lam (s := s) (n := 0) ((am.deeper _).mono (by decide)) (cx.keeps F₄.keep).nolimit (st.keeps F₄.keep) fun _ h₅ _ k₅ => ?_
    have F₅ := fr_all F₄ k₅.all
    have c₅ := c₄.keeps k₅ (by simp)
    obtain ⟨oE, fE, hoE, iE, mE, vE⟩ := e₄.keeps k₅ (by simp)
    walk_at "bn"
    refine at_expirations (s := s) F₅ cx st fun _ => ?_
    walk_at "bn"
    refine w_si (s := s) (DLike.exact hoE iE.cls) (DSub.exact hoE iE.cls) hoE mE (by omega) fun oE' h₆ t₆ mE' lE' gE' sE' => ?_
    have k₆ := Keeps.of_same sE'
    have e₆ : ExpAt w S h₆ (incE σ ε c k X) (n' + 1) := by
      have z : incE σ ε c k X = put (gotE ε c k) k (c + X) := if_pos hz
      rw [z]
      exact ExpAt.put iE lE' vE mE' gE'
    dsimp only
    refine wpAny_execs_nil ?_
    exact tail _ _ (I.call F₅ k₆) (c₅.keeps k₆ (by simpa using rt.dCE)) e₆
  · rw [if_neg (by simp; omega)]
    refine wpAny_execs_nil ?_
    have z : incE σ ε c k X = gotE ε c k := if_neg hz
    exact tail _ _ F₄ c₄ (z ▸ e₄.grow)
end
end
section
set_option maxHeartbeats 4000000
/-- a tuple taken apart -/
theorem w_unpack {w : World} {A : Around} {E : Value → Shared → Prop} {s : Shared} {h : Heap} {t : Nat} {env : Env} {elts : List Expr} {x1} {pos : Pos} {T : Addr} {items : Array Value} {Q : Unit → Shared → Prop} (hh : A.handled = none) (ht : IsTup h T items)
    (q : ∀ h', Keeps [] h h' → wpAny (model prog w) A (assignInOrder ((assignEach elts env).map (·.2)) items.toList) Q E (stt s h' t)) (hn : (assignEach elts env).length = items.size := by rfl) (hstar : (assignEach elts env).findIdx? (·.1) = none := by rfl) :
    wpAny (model prog w) A (assign (.Tuple elts x1 pos) env (.ref T)) Q E (stt s h t) :=
  assign_Tuple_tuple (s := stt s h t) hh ht hn hstar fun h' he => q h' fun b o e _ => he b o (Nat.ne_of_lt (Heap.lt_size e)) e
/-- what a sliding limit's keys ask -/
structure WK (key : Str) (per now : Int) : Prop where
  hz : key.length ≤ 1000
  h0 : 0 < per
  h1 : per < 100
  h2 : per ≤ now
  hl1 : ((now - per) / per).natAbs.log2 < 1920
  hl2 : (now / per).natAbs.log2 < 1920
  hz1 : (winKey key ((now - per) / per)).length ≤ 2000
  hz2 : (winKey key (now / per)).length ≤ 2000
section
variable {w : World} {A : Around} {E : Value → Shared → Prop} {s : Shared} {h₀ h : Heap} {t₀ t : Nat} {S : SA} {r g : Heap} {L : Addr} {m : Str → Option Value} {c : Int} {σ ε : Str → Option Int} {n n' : Nat} {R : Result → Shared → Prop}
/-- `get_expiry` -/
theorem gexp_spec {k : Str} {u1 : Tok} (rt : Rt w S c r) (kr : Sub r h₀) (am : Amb A 2) (he : ExpAt w S h₀ ε n')
    (q : ∀ u h' t', Keeps [S.E] h₀ h' → ExpAt w S h' ε n' → R (.ok (.ret (.int ((ε k).getD c) u))) (stt s h' t')) :
    codeAny (model prog w) A (.call (.ref 919) ⟨[.ref S.self, .str k u1], []⟩) R (stt s h₀ t₀) := by
  refine enterI [S.E] [(Str.ofString "self", .ref S.self), (Str.ofString "key", .str k u1)] am rt.cx kr (by intro a ha; rw [List.mem_singleton.mp ha]; exact he.ex) (by intro a ha; rw [List.mem_singleton.mp ha]; exact rt.nE) (k919 _) rfl (bindsK (rt.cx.X.keeps kr) fun _ => by kernel_rfl) (locs rfl) (by decide) rfl rfl rfl ?_
  intro g L h₁ I F k₁
  have cx := rt.cx.keeps I.kg
  have st := rt.st.keeps I.kg
  have e₁ := he.keeps k₁ (by simp)
  obtain ⟨oE, fE, hoE, iE, mE, vE⟩ := e₁
  refine wpAny_execs_cons ?_
  walk_at "bn"
  refine at_expirations (s := s) F cx st fun _ => ?_
  refine mt_dict PySem.F.slot_dict_get PySem.F.type_dict_get hoE iE.cls iE.dict ?_
  walk_at "bn"
  refine mt_clock (s := s) F cx st fun _ => ?_
  refine callWith_F0 ⟨_, _, _, _, (st.keeps F.keep).lam⟩ ?_
  refine call_lam (s := s) (n := 0) ((am.deeper _).mono (by decide)) (cx.keeps F.keep).nolimit (st.keeps F.keep) fun _ h₂ _ k₂ => ?_
  have F₂ := fr_all F k₂.all
  have hoE₂ := k₂.all _ _ hoE
  walk_at "bn"
  refine w_dget (s := s) (DLike.exact hoE₂ iE.cls) rt.sE hoE₂ mE fun _ => ?_
  rcases vE k with ⟨a, b⟩ | ⟨i, u, a, b⟩
  · rw [a] at q
    rw [b]
    exact q _ _ _ (I.out F₂) ⟨_, _, hoE₂, iE, mE, vE⟩
  · rw [a] at q
    rw [b]
    exact q _ _ _ (I.out F₂) ⟨_, _, hoE₂, iE, mE, vE⟩
theorem f_inf (P : Params) : findIn (K P) (.ref 972) (Str.ofString "_get_sliding_window_info") = some (some (.ref 941)) := by kernel_rfl
theorem i_inf (P : Params) : isFn (K P) (.ref 941) = true := by kernel_rfl
theorem kp_inf (P : Params) : keepIn (K P) (.ref 941) = true := by kernel_rfl
theorem fn585 (P : Params) : fnIn (K P) 585 = true := by kernel_rfl
theorem f_inc (P : Params) : findIn (K P) (.ref 972) (Str.ofString "incr") = some (some (.ref 882)) := by kernel_rfl
theorem i_inc (P : Params) : isFn (K P) (.ref 882) = true := by kernel_rfl
theorem kp_inc (P : Params) : keepIn (K P) (.ref 882) = true := by kernel_rfl
theorem gsw_spec {key : Str} {u1 u2 : Tok} {per : Int} (rt : Rt w S c r) (kr : Sub r h₀) (am : Amb A 4) (hc : CtrAt w S h₀ σ n) (he : ExpAt w S h₀ ε n') (hn : n ≤ sizeLine) (hn' : n' ≤ sizeLine) (wk : WK key per c)
    (q : ∀ T u1 u2 u3 u4 h' t', Keeps [S.C, S.E] h₀ h' → CtrAt w S h' (gotS (gotS σ ε c (winKey key ((c - per) / per))) (gotE ε c (winKey key ((c - per) / per))) c (winKey key (c / per))) n → ExpAt w S h' (gotE (gotE ε c (winKey key ((c - per) / per))) c (winKey key (c / per))) n' →
      IsTup h' T #[.int ((gotS σ ε c (winKey key ((c - per) / per)) (winKey key ((c - per) / per))).getD 0) u1, .int (if (gotS σ ε c (winKey key ((c - per) / per)) (winKey key ((c - per) / per))).getD 0 = 0 then 0 else per - (c - per) % per) u2,
        .int ((gotS (gotS σ ε c (winKey key ((c - per) / per))) (gotE ε c (winKey key ((c - per) / per))) c (winKey key (c / per)) (winKey key (c / per))).getD 0) u3, .int (per - c % per + per) u4] →
      R (.ok (.ret (.ref T))) (stt s h' t')) :
    codeAny (model prog w) A (.call (.ref 948) ⟨[.ref S.self, .str key u1, .int per u2], []⟩) R (stt s h₀ t₀) := by
  refine enterI [S.C, S.E] [(Str.ofString "self", .ref S.self), (Str.ofString "key", .str key u1), (Str.ofString "expiry", .int per u2)] am rt.cx kr (ex2 hc he) rt.nCE (k948 _) rfl (bindsK (rt.cx.X.keeps kr) fun _ => by kernel_rfl) (locs rfl) (by decide) rfl rfl rfl ?_
  intro g L h₁ I F k₁
  have cx := rt.cx.keeps I.kg
  have st := rt.st.keeps I.kg
  have c₁ := hc.keeps k₁ (by simp)
  have e₁ := he.keeps k₁ (by simp)
  have lC : S.C ∉ [L] := fun z => I.off S.C (by simp) (List.mem_singleton.mp z)
  have lE : S.E ∉ [L] := fun z => I.off S.E (by simp) (List.mem_singleton.mp z)
  refine wpAny_execs_cons ?_
  walk_at "bn"
  refine mt_clock (s := s) F cx st fun _ => ?_
  refine callWith_F0 ⟨_, _, _, _, (st.keeps F.keep).lam⟩ ?_
  refine call_lam (s := s) (n := 0) ((am.deeper _).mono (by decide)) (cx.keeps F.keep).nolimit (st.keeps F.keep) fun _ h₂ _ k₂ => ?_
  have F₂ := fr_all F k₂.all
  refine s_loc (s := s) F₂ nilN fun h₃ t₃ F₃ _ k₃ => ?_
  have c₃ := (c₁.keeps k₂ (by simp)).keeps k₃ lC
  have e₃ := (e₁.keeps k₂ (by simp)).keeps k₃ lE
  walk_at "bn"
  refine Assign_Tuple ?_
  walk_at "bn"
  refine mt_swk (s := s) F₃ nilN cx st fun T h₄ t₄ F₄ N₄ k₄ => ?_
  have hT := N₄.get (.head _)
  refine callWith_M (g := 585) (self := .ref 972) cx.X N₄ (.head _) (fn585 _) ?_
  walk_at "bn"
  refine ⟨⟨hT, Fr.cx F₄ cx⟩, ?_⟩
  refine call_meth N₄ (.head _) ?_
  refine sw_keys (s := s) ((am.deeper _).mono (by decide)) (cx.keeps F₄.keep) wk.hz wk.h0 wk.h1 wk.h2 wk.hl1 wk.hl2 wk.hz1 wk.hz2 fun T' v1 v2 h₅ t₅ k₅ hT' => ?_
  dsimp only
  have F₅ := fr_all F₄ k₅.all
  refine w_unpack (s := s) am.hd hT' fun h₆ k₆ => ?_
  have F₆ := fr_all F₅ k₆.all
  refine assignInOrder_cons ?_
  refine wpAny_assign_Name ?_
  refine s_loc (s := s) F₆ nilN fun h₇ t₇ F₇ _ k₇ => ?_
  refine assignInOrder_cons ?_
  refine wpAny_assign_Name ?_
  refine s_loc (s := s) F₇ nilN fun h₈ t₈ F₈ _ k₈ => ?_
  have c₈ := ((((c₃.keeps k₄ (by simp)).keeps k₅ (by simp)).keeps k₆ (by simp)).keeps k₇ lC).keeps k₈ lC
  have e₈ := ((((e₃.keeps k₄ (by simp)).keeps k₅ (by simp)).keeps k₆ (by simp)).keeps k₇ lE).keeps k₈ lE
  refine assignInOrder_nil ?_
  walk_at "bn"
  refine mt_store F₈ cx st (f_inf _) (i_inf _) rfl ?_
  refine callWith_D (w := w) (kp_inf _) ?_
  walk_at "bn"
  refine ⟨Fr.cx F₈ cx, ?_⟩
  refine wpAny_call ?_
  refine info_spec (s := s) rt (fun b o e => F₈.keep b o (I.kg b o e)) ((am.deeper _).mono (by decide)) c₈ e₈ hn hn' wk.h0 wk.h1 fun T₂ _ _ _ _ h₉ t₉ k₉ c₉ e₉ hT₂ => ?_
  exact q _ _ _ _ _ _ _ (I.out (I.call F₈ k₉)) c₉ e₉ hT₂
end
end
section
set_option maxHeartbeats 4000000
theorem got_twice (σ ε : Str → Option Int) (c : Int) (k : Str) : gotS (gotS σ ε c k) (gotE ε c k) c k k = gotS σ ε c k k := by
  unfold gotS gotE del
  by_cases h : (ε k).getD 0 ≤ c
  · simp only [if_pos h, if_true]
    split <;> simp
  · simp only [if_neg h]
section
variable {w : World} {A : Around} {E : Value → Shared → Prop} {s : Shared} {h₀ h : Heap} {t₀ t : Nat} {S : SA} {r g : Heap} {L : Addr} {m : Str → Option Value} {c : Int} {σ ε : Str → Option Int} {n n' : Nat} {R : Result → Shared → Prop}
theorem acq_spec {key : Str} {u1 u2 u3 u4 : Tok} {lim per a : Int} (rt : Rt w S c r) (kr : Sub r h₀) (am : Amb A 4) (hc : CtrAt w S h₀ σ n) (he : ExpAt w S h₀ ε n') (hn : n + 1 ≤ sizeLine) (hn' : n' + 1 ≤ sizeLine) (wk : WK key per c) (ha : a ≤ lim)
    {k1 k2 : Str} (ek1 : winKey key ((c - per) / per) = k1) (ek2 : winKey key (c / per) = k2) {σ₂ ε₂ : Str → Option Int} (eσ : gotS (gotS σ ε c k1) (gotE ε c k1) c k2 = σ₂) (eε : gotE (gotE ε c k1) c k2 = ε₂)
    (hlet : (gotS σ ε c k1 k1).getD 0 * (if (gotS σ ε c k1 k1).getD 0 = 0 then 0 else per - (c - per) % per) / per + (σ₂ k2).getD 0 + a ≤ lim)
    (q : ∀ h' t', Keeps [S.C, S.E] h₀ h' → CtrAt w S h' (incS σ₂ ε₂ c k2 a) (n + 1) → ExpAt w S h' (incE σ₂ ε₂ c k2 (2 * per)) (n' + 1) → R (.ok (.ret (.bool true))) (stt s h' t')) :
    codeAny (model prog w) A (.call (.ref 934) ⟨[.ref S.self, .str key u1, .int lim u2, .int per u3, .int a u4], []⟩) R (stt s h₀ t₀) := by
  have h0 := wk.h0
  have h1 := wk.h1
  have hsame : (gotS σ₂ ε₂ c k2 k2).getD 0 = (σ₂ k2).getD 0 := by rw [← eσ, ← eε, got_twice]
  have httl : ∀ x : Int, -1000000 < (if x = 0 then 0 else per - (c - per) % per) ∧ (if x = 0 then 0 else per - (c - per) % per) < 1000000 := by
    intro x
    have := Int.emod_nonneg (c - per) (show per ≠ 0 by omega)
    have := Int.emod_lt_of_pos (c - per) h0
    split <;> omega
  refine enterI [S.C, S.E] [(Str.ofString "self", .ref S.self), (Str.ofString "key", .str key u1), (Str.ofString "limit", .int lim u2), (Str.ofString "expiry", .int per u3), (Str.ofString "amount", .int a u4)] am rt.cx kr (ex2 hc he) rt.nCE (k934 _) rfl (bindsK (rt.cx.X.keeps kr) fun _ => by kernel_rfl) (locs rfl) (by decide) rfl rfl rfl ?_
  intro g L h₁ I F k₁
  have cx := rt.cx.keeps I.kg
  have st := rt.st.keeps I.kg
  have c₁ := hc.keeps k₁ (by simp)
  have e₁ := he.keeps k₁ (by simp)
  have lC : S.C ∉ [L] := fun z => I.off S.C (by simp) (List.mem_singleton.mp z)
  have lE : S.E ∉ [L] := fun z => I.off S.E (by simp) (List.mem_singleton.mp z)
  refine wpAny_execs_cons ?_
  walk_at "bn"
  rw [if_neg (by simpa using ha)]
  walk_at "bn"
  refine mt_clock (s := s) F cx st fun _ => ?_
  refine callWith_F0 ⟨_, _, _, _, (st.keeps F.keep).lam⟩ ?_
  refine call_lam (s := s) (n := 0) ((am.deeper _).mono (by decide)) (cx.keeps F.keep).nolimit (st.keeps F.keep) fun _ h₂ _ k₂ => ?_
  have F₂ := fr_all F k₂.all
  refine s_loc (s := s) F₂ nilN fun h₃ t₃ F₃ _ k₃ => ?_
  have c₃ := (c₁.keeps k₂ (by simp)).keeps k₃ lC
  have e₃ := (e₁.keeps k₂ (by simp)).keeps k₃ lE
  walk_at "bn"
  refine Assign_Tuple ?_
  walk_at "bn"
  refine mt_swk (s := s) F₃ nilN cx st fun T h₄ t₄ F₄ N₄ k₄ => ?_
  have hT := N₄.get (.head _)
  refine callWith_M (g := 585) (self := .ref 972) cx.X N₄ (.head _) (fn585 _) ?_
  walk_at "bn"
  refine ⟨⟨hT, Fr.cx F₄ cx⟩, ?_⟩
  refine call_meth N₄ (.head _) ?_
  refine sw_keys (s := s) ((am.deeper _).mono (by decide)) (cx.keeps F₄.keep) wk.hz wk.h0 wk.h1 wk.h2 wk.hl1 wk.hl2 wk.hz1 wk.hz2 fun T' v1 v2 h₅ t₅ k₅ hT' => ?_
  dsimp only
  have F₅ := fr_all F₄ k₅.all
  refine w_unpack (s := s) am.hd hT' fun h₆ k₆ => ?_
  have F₆ := fr_all F₅ k₆.all
  refine assignInOrder_cons ?_
  refine wpAny_assign_Name ?_
  refine s_loc (s := s) F₆ nilN fun h₇ t₇ F₇ _ k₇ => ?_
  refine assignInOrder_cons ?_
  refine wpAny_assign_Name ?_
  refine s_loc (s := s) F₇ nilN fun h₈ t₈ F₈ _ k₈ => ?_
  have c₈ := ((((c₃.keeps k₄ (by simp)).keeps k₅ (by simp)).keeps k₆ (by simp)).keeps k₇ lC).keeps k₈ lC
  have e₈ := ((((e₃.keeps k₄ (by simp)).keeps k₅ (by simp)).keeps k₆ (by simp)).keeps k₇ lE).keeps k₈ lE
  refine assignInOrder_nil ?_
  walk_at "bn"
  refine Assign_Tuple ?_
  walk_at "bn"
  refine mt_store F₈ cx st (f_inf _) (i_inf _) rfl ?_
  refine callWith_D (w := w) (kp_inf _) ?_
  walk_at "bn"
  refine ⟨Fr.cx F₈ cx, ?_⟩
  refine wpAny_call ?_
  refine info_spec (s := s) rt (fun b o e => F₈.keep b o (I.kg b o e)) ((am.deeper _).mono (by decide)) c₈ e₈ (by omega) (by omega) wk.h0 wk.h1 fun T₂ _ _ _ _ h₉ t₉ k₉ c₉ e₉ hT₂ => ?_
  rw [ek1, ek2] at hT₂ c₉ e₉
  rw [eσ] at hT₂ c₉
  rw [eε] at e₉
  dsimp only
  have F₉ := I.call F₈ k₉
  refine w_unpack (s := s) am.hd hT₂ fun h₁₀ k₁₀ => ?_
  have F₁₀ := fr_all F₉ k₁₀.all
  refine assignInOrder_cons ?_
  refine wpAny_assign_Name ?_
  refine s_loc (s := s) F₁₀ nilN fun h₁₁ t₁₁ F₁₁ _ k₁₁ => ?_
  refine assignInOrder_cons ?_
  refine wpAny_assign_Name ?_
  refine s_loc (s := s) F₁₁ nilN fun h₁₂ t₁₂ F₁₂ _ k₁₂ => ?_
  refine assignInOrder_cons ?_
  refine wpAny_assign_Name ?_
  refine s_loc (s := s) F₁₂ nilN fun h₁₃ t₁₃ F₁₃ _ k₁₃ => ?_
  refine assignInOrder_cons ?_
  refine wpAny_assign_Name ?_
  refine s_loc (s := s) F₁₃ nilN fun h₁₄ t₁₄ F₁₄ _ k₁₄ => ?_
  have c₁₄ := ((((c₉.keeps k₁₀ (by simp)).keeps k₁₁ lC).keeps k₁₂ lC).keeps k₁₃ lC).keeps k₁₄ lC
  have e₁₄ := ((((e₉.keeps k₁₀ (by simp)).keeps k₁₁ lE).keeps k₁₂ lE).keeps k₁₃ lE).keeps k₁₄ lE
  refine assignInOrder_nil ?_
  walk_at "bn"
  refine b_mulR (s := s) (httl _) fun _ _ => ?_
  walk_at "bn"
  refine b_div (s := s) h0 (by omega) fun _ _ => ?_
  walk_at "bn"
  refine s_loc (s := s) F₁₄ nilN fun h₁₅ t₁₅ F₁₅ _ k₁₅ => ?_
  walk_at "bn"
  rw [if_neg (by simpa using hlet)]
  walk_at "bn"
  refine mt_store F₁₅ cx st (f_inc _) (i_inc _) rfl ?_
  refine callWith_KW (K := K w.params) cx.X (kp_inc _) rfl ?_
  walk_at "bn"
  refine b_mulL (s := s) (by decide) fun _ _ => ?_
  walk_at "bn"
  refine kwAll_cons ?_
  walk_at "bn"
  refine kwAll_nil ?_
  refine ⟨Fr.cx F₁₅ cx, ?_⟩
  refine wpAny_call ?_
  refine incr_spec (s := s) rt (fun b o e => F₁₅.keep b o (I.kg b o e)) ((am.deeper _).mono (by decide)) (c₁₄.keeps k₁₅ lC) (e₁₄.keeps k₁₅ lE) hn hn' fun _ h₁₆ t₁₆ k₁₆ c₁₆ e₁₆ => ?_
  rw [ek2] at c₁₆ e₁₆
  dsimp only
  have F₁₆ := I.call F₁₅ k₁₆
  refine s_loc (s := s) F₁₆ nilN fun h₁₇ t₁₇ F₁₇ _ k₁₇ => ?_
  walk_at "bn"
  refine b_mulR (s := s) (httl _) fun _ _ => ?_
  walk_at "bn"
  refine b_div (s := s) h0 (by omega) fun _ _ => ?_
  walk_at "bn"
  refine s_loc (s := s) F₁₇ nilN fun h₁₈ t₁₈ F₁₈ _ k₁₈ => ?_
  walk_at "bn"
  rw [if_neg (by rw [ek2, hsame]; simp only [decide_eq_true_eq, gt_iff_lt]; omega)]
  walk_at "bn"
  exact q _ _ (I.out F₁₈) ((c₁₆.keeps k₁₇ lC).keeps k₁₈ lC) ((e₁₆.keeps k₁₇ lE).keeps k₁₈ lE)
end
end
section
set_option maxHeartbeats 4000000
/-- where the search ends -/
def bis (ks : Nat → Int) (x : Int) : Nat → Nat → Nat → Nat
  | 0, lo, _ => lo
  | f + 1, lo, hi => if lo < hi then (if ks ((lo + hi) / 2) < x then bis ks x f ((lo + hi) / 2 + 1) hi else bis ks x f lo ((lo + hi) / 2)) else lo
/-- of keys that rise it is the number of those below -/
theorem bis_spec (ks : Nat → Int) (x : Int) (n : Nat) (mono : ∀ i j, i ≤ j → j < n → ks i ≤ ks j) : ∀ f lo hi, hi - lo ≤ f → lo ≤ hi → hi ≤ n → (∀ i, i < lo → ks i < x) → (∀ i, hi ≤ i → i < n → x ≤ ks i) →
    bis ks x f lo hi ≤ n ∧ (∀ i, i < bis ks x f lo hi → ks i < x) ∧ (∀ i, bis ks x f lo hi ≤ i → i < n → x ≤ ks i)
  | 0, lo, hi, hf, hl, hn, a, b => by
    have : lo = hi := by omega
    subst this
    exact ⟨hn, a, b⟩
  | f + 1, lo, hi, hf, hl, hn, a, b => by
    unfold bis
    by_cases h : lo < hi
    · rw [if_pos h]
      have hm : (lo + hi) / 2 < hi := by omega
      have hm' : lo ≤ (lo + hi) / 2 := by omega
      by_cases hk : ks ((lo + hi) / 2) < x
      · rw [if_pos hk]
        refine bis_spec ks x n mono f _ hi (by omega) (by omega) hn (fun i hi' => ?_) b
        exact Int.lt_of_le_of_lt (mono i _ (by omega) (by omega)) hk
      · rw [if_neg hk]
        refine bis_spec ks x n mono f lo _ (by omega) (by omega) (by omega) a (fun i hi' hin => ?_)
        exact Int.le_trans (Int.not_lt.mp hk) (mono _ i hi' hin)
    · rw [if_neg h]
      have : lo = hi := by omega
      subst this
      exact ⟨hn, a, b⟩
theorem entry_bl : entryFor table "_bisect.bisect_left" = some Builtin.«_bisect.bisect_left» := entryFor_of_tree (by kernel_rfl)
theorem entry_br : entryFor table "_bisect.bisect_right.loop" = some Builtin.«_bisect.bisect_right.loop» := entryFor_of_tree (by kernel_rfl)
theorem plain_bl : plainId "_bisect.bisect_left" = true := by decide +kernel
theorem plain_br : plainId "_bisect.bisect_right.loop" = true := by decide +kernel
theorem kind_bl : builtinKind "_bisect.bisect_left" = none := by decide +kernel
theorem args_bl (a b f : Value) : argsOk "_bisect.bisect_left" ⟨[a, b], [(Str.ofString "key", f)]⟩ := by unfold argsOk; kernel_rfl
section
variable {w : World} {A : Around} {E : Value → Shared → Prop} {s : Shared} {h₀ : Heap} {R : Result → Shared → Prop} {l : Addr} {items : Array Value} {f : Addr} {ks : Nat → Int} {x : Int} {ux : Tok}
/-- the key's call -/
def KeyCall (w : World) (A : Around) (s : Shared) (h₀ : Heap) (f : Addr) (items : Array Value) (ks : Nat → Int) : Prop :=
  ∀ (i : Nat) (v : Value) (h : Heap) (t : Nat) (Q : Value → Shared → Prop) (E : Value → Shared → Prop), items[i]? = some v → Keeps [] h₀ h → (∀ u h' t', Keeps [] h h' → Q (.int (ks i) u) (stt s h' t')) → wpAny (model prog w) A (call (.ref f) [v]) Q E (stt s h t)
theorem cs_list {s : Shared} {k : Int} {u : Tok} {v : Value} {Q : Option Value → Shared → Prop} (hl : s.heap.IsList l items) (h0 : 0 ≤ k) (hfit : k < 2 ^ 63) (hx : items[k.toNat]? = some v) (q : Q (some v) s) :
    wpAny (model prog w) A (callSpecial? (.ref l) (Str.ofString "__getitem__") [.int k u]) Q E s := by
  obtain ⟨o, ho, hc, ne, hd⟩ := id hl
  refine wpAny_callSpecial?_slot (name := Str.ofString "__getitem__") hl.typeIs slot_list_getitem (wpAny_call_entry slot_list_getitem hl.typeIs entry_list_getitem ?_ (args_list_getitem _ _))
  show wpAny _ _ (Builtin.List.listSubscript? (.int k u) >>= _) _ _ s
  refine wpAny_bind (wpAny_listSubscript_int (fitsIndex_of h0 hfit) ?_)
  clear hfit
  obtain ⟨j, rfl⟩ := Int.eq_ofNat_of_zero_le h0
  have hx' : items[j]? = some v := hx
  show wpAny _ _ ((seqItemAt l j >>= fun r => pure (r.map (j, ·))) >>= _) _ _ s
  refine wpAny_bind (wpAny_bind (wpAny_seqItemAt ho hd (wpAny_pure ?_)))
  rw [hx']
  first
    | exact wpAny_bind (wpAny_pure (wpAny_pure ⟨v, rfl, q⟩))
    | exact wpAny_pure ⟨v, rfl, q⟩
    | exact wpAny_bind (wpAny_pure (wpAny_pure ⟨v, rfl, wpAny_pure q⟩))
    | exact wpAny_pure ⟨v, rfl, wpAny_pure q⟩
theorem lt_direct {a b : Int} {ta tb : Tok} {h : Heap} {t : Nat} {Q : Option Value → Shared → Prop} (q : Q (some (.bool (decide (a < b)))) (stt s h t)) :
    wpAny (model prog w) A (callSpecialIfBound? (.int a ta) (Str.ofString "__lt__") [.int b tb]) Q E (stt s h t) :=
  wpAny_callSpecialIfBound?_slot (name := Str.ofString "__lt__") (typeIs_int _ _ _) PySem.F.slot_int_lt
    (call_gives PySem.F.slot_int_lt (typeIs_int _ a ta) PySem.F.entry_int_lt (PySem.F.args_int_lt_2 _ _) (gives_int_lt a b ta tb) q)
theorem mroL : mroOf (.type "list") = pure [.type "list", .type "object"] := by rw [mroOf_type]; kernel_rfl
theorem bis_loop (hl : h₀.IsList l items) (hz : items.size < 2 ^ 62) (hk : KeyCall w A.in1 s h₀ f items ks) : ∀ (fu lo hi : Nat) (h : Heap) (t : Nat), hi - lo ≤ fu → hi ≤ items.size → Keeps [] h₀ h →
    (∀ u h' t', Keeps [] h₀ h' → R (.ok (.ret (.int (bis ks x fu lo hi) u))) (stt s h' t')) →
    codeAny (model prog w) A (.builtin "_bisect.bisect_right.loop" ⟨[.ref l, .int x ux, rawInt lo, rawInt hi, .ref f, .bool false, .bool true, rawInt 0], []⟩) R (stt s h t)
  | fu, lo, hi, h, t, hf, hh, kh, q => by
    refine codeAny_builtin entry_br ?_
    rw [Around.under_plainId plain_br _]
    unfold Builtin.«_bisect.bisect_right.loop»
    by_cases hlt : lo < hi
    · obtain ⟨fu, rfl⟩ : ∃ k, fu = k + 1 := ⟨fu - 1, by omega⟩
      have hmid : (lo + hi) / 2 < items.size := by omega
      have hm : (((lo : Int) + (hi : Int)) / 2) = (((lo + hi) / 2 : Nat) : Int) := by omega
      have hli : h.IsList l items := by obtain ⟨o, e, r⟩ := hl; exact ⟨o, kh.all _ _ e, r⟩
      show wpAny _ _ (if (lo : Int) < (hi : Int) then _ else _) _ _ _
      rw [if_pos (by omega)]
      refine wpAny_bind ?_
      refine wpAny_mkInt ?_
      refine wpAny_bind ?_
      rw [hm]
      obtain ⟨v, hv⟩ : ∃ v, items[(lo + hi) / 2]? = some v := ⟨_, Array.getElem?_eq_getElem hmid⟩
      refine cs_list hli (by omega) (by omega) hv ?_
      dsimp only
      refine wpAny_bind ?_
      show wpAny _ _ (holding [v] (call (.ref f) [v])) _ _ _
      refine wpAny_holding ?_
      refine hk _ _ h _ _ _ hv kh fun u h' t' kk => ?_
      have kh' := kh.trans kk
      show wpAny _ _ (holding [.int (ks ((lo + hi) / 2)) u] _) _ _ _
      refine wpAny_holding ?_
      simp only [if_true]
      refine wpAny_bind (wpAny_typeOf (typeIs_int _ _ _) ?_)
      refine wpAny_bind (wpAny_typeOf (typeIs_int _ _ _) ?_)
      simp only [beq_self_eq_true, if_true]
      refine wpAny_bind (wpAny_cRoomFor_byValue rfl ?_)
      refine wpAny_bind (lt_direct (s := s) ?_)
      dsimp only
      refine wpAny_bind (wpAny_pure ?_)
      refine wpAny_bind (wpAny_pure ?_)
      have hq := plainId_quiet plain_br
      by_cases hc : ks ((lo + hi) / 2) < x
      · rw [if_neg (by rw [decide_eq_true hc]; decide)]
        refine wpAny_pure (a := Fin.again (.builtin "_bisect.bisect_right.loop" ⟨[.ref l, .int x ux, rawInt ((((lo + hi) / 2 : Nat) : Int) + 1), rawInt hi, .ref f, .bool false, .bool true, rawInt 0], []⟩)) ⟨hq _, ?_⟩
        have e : ((((lo + hi) / 2 : Nat) : Int) + 1) = (((lo + hi) / 2 + 1 : Nat) : Int) := by omega
        rw [e]
        refine bis_loop hl hz hk fu ((lo + hi) / 2 + 1) hi h' t' (by omega) hh kh' fun u h' t' k => ?_
        have z : bis ks x (fu + 1) lo hi = bis ks x fu ((lo + hi) / 2 + 1) hi := by rw [bis, if_pos hlt, if_pos hc]
        exact z ▸ q u h' t' k
      · rw [if_pos (by rw [decide_eq_false hc]; decide)]
        refine wpAny_pure (a := Fin.again (.builtin "_bisect.bisect_right.loop" ⟨[.ref l, .int x ux, rawInt lo, rawInt (((lo + hi) / 2 : Nat) : Int), .ref f, .bool false, .bool true, rawInt 0], []⟩)) ⟨hq _, ?_⟩
        refine bis_loop hl hz hk fu lo ((lo + hi) / 2) h' t' (by omega) (by omega) kh' fun u h' t' k => ?_
        have z : bis ks x (fu + 1) lo hi = bis ks x fu lo ((lo + hi) / 2) := by rw [bis, if_pos hlt, if_neg hc]
        exact z ▸ q u h' t' k
    · show wpAny _ _ (if (lo : Int) < (hi : Int) then _ else _) _ _ _
      rw [if_neg (by omega)]
      refine wpAny_bind (wpAny_mkInt (wpAny_pure ?_))
      have z : bis ks x fu lo hi = lo := by
        cases fu with
        | zero => rfl
        | succ k => unfold bis; rw [if_neg hlt]
      rw [z] at q
      exact q _ _ _ kh
/-- the search by keys -/
theorem call_bis {h : Heap} {t : Nat} {Q : Value → Shared → Prop} (hl : h.IsList l items) (hz : items.size < 2 ^ 62) (hk : KeyCall w A.in1 s h f items ks)
    (q : ∀ u h' t', Keeps [] h h' → Q (.int (bis ks x items.size 0 items.size) u) (stt s h' t')) :
    wpAny (model prog w) A (call (.builtin "_bisect.bisect_left") [.ref l, .int x ux] [(Str.ofString "key", .ref f)]) Q E (stt s h t) := by
  refine wpAny_call (codeAny_call_builtin plain_bl entry_bl ?_)
  have hc : wpAny (model prog w) A.in1 (Builtin.«_bisect.bisect_left» ⟨[.ref l, .int x ux], [(Str.ofString "key", .ref f)]⟩) (fun fin s' => match fin with
      | .done f => (match (Except.ok f : Result) with | .ok (.ret v) => Q v s' | .ok _ => False | .error e => E e s')
      | .again c' => c'.quiet = true ∧ codeAny (model prog w) A c' (fun r s' => match r with | .ok (.ret v) => Q v s' | .ok _ => False | .error e => E e s') s') (fun e s' => E e s') (stt s h t) := by
    unfold Builtin.«_bisect.bisect_left»
    refine wpAny_bind (wpAny_of_eq (a := (.ref l, .int x ux, none, none, some (.ref f))) (by kernel_rfl) ?_)
    dsimp only
    refine wpAny_bind (wpAny_pure ?_)
    refine wpAny_bind (wpAny_pure ?_)
    simp only [Bool.false_and, Bool.false_eq_true, if_false, Option.getD_some]
    refine wpAny_bind (wpAny_pure ?_)
    refine wpAny_holding ?_
    rw [if_neg (by decide)]
    simp only [bne_self_eq_false, Bool.false_eq_true, if_false]
    refine wpAny_bind ?_
    refine wpAny_bind (wpAny_typeOf (s := stt s h t) hl.typeIs ?_)
    refine wpAny_bind ?_
    unfold typeNameOfCut shownTypeOf
    refine wpAny_bind (wpAny_bind (wpAny_typeOf (s := stt s h t) hl.typeIs ?_))
    rw [if_neg (by decide)]
    refine wpAny_pure ?_
    refine wpAny_pure ?_
    dsimp only
    rw [mroL]
    refine wpAny_bind (wpAny_pure ?_)
    rw [if_neg (by decide)]
    simp only [if_true]
    refine wpAny_bind (wpAny_of_eq (a := some (.builtin "list.__len__")) slot_list_len.lookup ?_)
    simp only [Option.isNone_some, Bool.false_eq_true, if_false]
    rw [if_neg (by decide +kernel)]
    refine wpAny_pure ?_
    refine wpAny_bind ?_
    refine wpAny_runValue (codeAny_builtin entry_len ?_)
    rw [Around.under_plainId plain_len _]
    refine wpAny_mono (wpAny_len_body_list (s := stt s h t) (Q := fun r s' => r = .int items.size (t + 1) ∧ s' = stt s h (t + 2)) hl (by omega) ⟨rfl, rfl⟩) (fun fin s' h' => ?_) fun _ _ e => e
    obtain ⟨r, rfl, rfl, rfl⟩ := h'
    dsimp only
    refine wpAny_bind (wpAny_pure ?_)
    refine wpAny_bind ?_
    refine wpAny_bind (wpAny_typeOf (s := stt s h (t + 2)) hl.typeIs ?_)
    refine wpAny_bind ?_
    unfold typeNameOfCut shownTypeOf
    refine wpAny_bind (wpAny_bind (wpAny_typeOf (s := stt s h (t + 2)) hl.typeIs ?_))
    rw [if_neg (by decide)]
    refine wpAny_pure ?_
    refine wpAny_pure ?_
    dsimp only
    rw [mroL]
    refine wpAny_bind (wpAny_pure ?_)
    rw [if_neg (by decide)]
    simp only [Bool.false_eq_true, if_false]
    refine wpAny_bind (wpAny_of_eq (a := some (.builtin "list.__getitem__")) slot_list_getitem.lookup ?_)
    simp only [Option.isNone_some, Bool.false_eq_true, if_false]
    rw [if_neg (by decide +kernel)]
    refine wpAny_pure ?_
    refine wpAny_pure (a := Fin.again (.builtin "_bisect.bisect_right.loop" ⟨[.ref l, .int x ux, rawInt 0, rawInt (items.size : Int), .ref f, .bool false, .bool true, rawInt 0], []⟩)) ⟨plainId_quiet plain_br _, ?_⟩
    exact bis_loop (R := fun r s' => match r with | .ok (.ret v) => Q v s' | .ok _ => False | .error e => E e s') hl hz hk items.size 0 items.size h (t + 2) (by omega) (Nat.le_refl _) Keeps.refl q
  simp only [checkBuiltinCall, kind_bl]
  have ha := args_bl (.ref l) (.int x ux) (.ref f)
  cases hsig : Manifest.signature? "_bisect.bisect_left" with
  | none => exact wpAny_pure hc
  | some sig =>
    simp only [argsOk, hsig] at ha
    have h2 : Bind.checkArgs "_bisect.bisect_left" sig ⟨[.ref l, .int x ux], [(Str.ofString "key", .ref f)]⟩ = pure () := ha
    show wpAny _ _ (Bind.checkArgs "_bisect.bisect_left" sig ⟨[.ref l, .int x ux], [(Str.ofString "key", .ref f)]⟩) _ _ _
    rw [h2]; exact wpAny_pure hc
end
end
section
set_option maxHeartbeats 4000000
def gmL : Expr := match nthS (fBody (stM 9)) 2 with
  | .If _ (.Assign _ (.Call _ _ (⟨_, e, _⟩ :: _) _) _ :: _) _ _ => e
  | _ => .Constant .none 0 default
def gmA : Arguments := match gmL with | .Lambda a _ _ _ => a | _ => default
def gmB : Expr := match gmL with | .Lambda _ b _ _ => b | _ => .Constant .none 0 default
def gmS : Scope := match gmL with | .Lambda _ _ sc _ => sc | _ => default
def gmP : Pos := match gmL with | .Lambda _ _ _ p => p | _ => default
def gmQ : Str := (envX (Str.ofString "MemoryStorage.get_moving_window") default 0 926 (.ref 925) []).qual ++ Str.ofString "<lambda>"
/-- the code table of get_moving_window -/
def TabAt (h : Heap) (bad : List Addr) : Prop := h.get? 921 = some (tabObj #[]) ∨ ∃ c' : Addr, h.get? 921 = some (tabObj #[rawInt gmP.line, rawInt gmP.col, .ref c']) ∧ c' ∉ bad ∧ h.CodeRec (.ref c') gmQ
theorem codeRec_keeps {h h' : Heap} {as : List Addr} {c' : Addr} {q : Str} (x : h.CodeRec (.ref c') q) (k : Keeps as h h') (n : c' ∉ as) : h'.CodeRec (.ref c') q := by
  obtain ⟨c, oc, vs, tq, e, a, b⟩ := x
  cases e
  exact ⟨_, oc, vs, tq, rfl, k _ _ a n, b⟩
theorem TabAt.keeps {h h' : Heap} {bad as : List Addr} (x : TabAt h bad) (k : Keeps as h h') (sub : ∀ a ∈ as, a ∈ bad) (n : 921 ∉ as) : TabAt h' bad := by
  rcases x with a | ⟨c', a, b, c⟩
  · exact .inl (k _ _ a n)
  · exact .inr ⟨c', k _ _ a n, b, codeRec_keeps c k fun z => b (sub _ z)⟩
/-- an entry's own dict -/
def entD (w : World) (a e : Int) (t1 t2 u1 u2 : Tok) : List DictEntry :=
  [⟨PyData.keyHash w.params (Str.ofString "atime"), .str (Str.ofString "atime") t1, .int a u1⟩, ⟨PyData.keyHash w.params (Str.ofString "expiry"), .str (Str.ofString "expiry") t2, .int e u2⟩]
/-- an entry of the moving window -/
def EntAt (w : World) (h : Heap) (bad : List Addr) (v : Value) (a : Int) : Prop := ∃ x d n t1 t2 u1 u2 e, v = .ref x ∧ h.get? x = some ⟨.ref 612, some d, .plain, #[]⟩ ∧ h.get? d = some (dictOf (entD w a e t1 t2 u1 u2) n) ∧ x ∉ bad ∧ d ∉ bad
theorem EntAt.keeps {w : World} {h h' : Heap} {bad as : List Addr} {v : Value} {a : Int} (x : EntAt w h bad v a) (k : Keeps as h h') (sub : ∀ a ∈ as, a ∈ bad) : EntAt w h' bad v a :=
  let ⟨x, d, n, t1, t2, u1, u2, e, h1, h2, h3, h4, h5⟩ := x
  ⟨x, d, n, t1, t2, u1, u2, e, h1, k _ _ h2 fun z => h4 (sub _ z), k _ _ h3 fun z => h5 (sub _ z), h4, h5⟩
/-- entries and their moments -/
inductive Ents (w : World) (h : Heap) (bad : List Addr) : List Value → List Int → Prop
  | nil : Ents w h bad [] []
  | cons {v a vs as} : EntAt w h bad v a → Ents w h bad vs as → Ents w h bad (v :: vs) (a :: as)
theorem Ents.keeps {w : World} {h h' : Heap} {bad as : List Addr} (k : Keeps as h h') (sub : ∀ a ∈ as, a ∈ bad) : ∀ {vs ats}, Ents w h bad vs ats → Ents w h' bad vs ats
  | _, _, .nil => .nil
  | _, _, .cons e r => .cons (e.keeps k sub) (Ents.keeps k sub r)
theorem Ents.len {w h bad} : ∀ {vs ats}, Ents w h bad vs ats → vs.length = ats.length
  | _, _, .nil => rfl
  | _, _, .cons _ r => by simp [r.len]
theorem Ents.at {w h bad} : ∀ {vs ats}, Ents w h bad vs ats → ∀ {i : Nat} {v : Value}, vs[i]? = some v → ∃ a, ats[i]? = some a ∧ EntAt w h bad v a
  | _, _, .nil, i, v, e => by simp at e
  | _, _, .cons x r, 0, v, e => by simp at e; subst e; exact ⟨_, by simp, x⟩
  | _, _, .cons x r, i + 1, v, e => by
    have := r.at (i := i) (by simpa using e)
    simpa using this
theorem Ents.append {w h bad} : ∀ {vs ats}, Ents w h bad vs ats → ∀ {vs' ats'}, Ents w h bad vs' ats' → Ents w h bad (vs ++ vs') (ats ++ ats')
  | _, _, .nil, _, _, y => y
  | _, _, .cons x r, _, _, y => .cons x (r.append y)
theorem Ents.rep {w h bad v a} (x : EntAt w h bad v a) : ∀ n : Nat, Ents w h bad (List.replicate n v) (List.replicate n a)
  | 0 => .nil
  | n + 1 => by rw [List.replicate_succ, List.replicate_succ]; exact .cons x (Ents.rep x n)
/-- the events' dict: the list of one key -/
def MvAt (w : World) (S : SA) (h : Heap) (bad : List Addr) (key : Str) (ml : Option Addr) (ats : List Int) : Prop :=
  ∃ o f, h.get? S.V = some o ∧ IsD o ∧ IsMap w o f 8 ∧ match ml with
    | none => f key = none ∧ ats = [] ∧ IsMap w o f 7
    | some l => f key = some (.ref l) ∧ l ∉ bad ∧ ∃ vs n, h.get? l = some ⟨.type "list", none, .seq vs.toArray n, #[]⟩ ∧ Ents w h bad vs ats
theorem MvAt.keeps {w S h h' bad key ml ats} {as : List Addr} (x : MvAt w S h bad key ml ats) (k : Keeps as h h') (sub : ∀ a ∈ as, a ∈ bad) (n : S.V ∉ as) : MvAt w S h' bad key ml ats := by
  obtain ⟨o, f, a, b, c, d⟩ := x
  refine ⟨o, f, k _ _ a n, b, c, ?_⟩
  cases ml with
  | none => exact d
  | some l =>
    obtain ⟨d1, d2, vs, n, d3, d4⟩ := d
    exact ⟨d1, d2, vs, n, k _ _ d3 fun z => d2 (sub _ z), d4.keeps k sub⟩
theorem pg612 (P : Params) (x : Str) : plainGet (K P) 612 x = true := by kernel_rfl
theorem hd612 (P : Params) : hasDictIn (K P) 612 = true := by kernel_rfl
theorem fi612 (P : Params) : findIn (K P) (.ref 612) (Str.ofString "atime") = some none := by kernel_rfl
theorem gn_bis (P : Params) : nsIn (K P) mainGlobals (Str.ofString "bisect_left") = some (some (.builtin "_bisect.bisect_left")) := by kernel_rfl
section
variable {w : World} {A : Around} {E : Value → Shared → Prop} {s : Shared} {h₀ h : Heap} {t₀ t : Nat} {S : SA} {r g : Heap} {L : Addr} {m : Str → Option Value} {c : Int} {R : Result → Shared → Prop} {bad : List Addr}
theorem at_atime {v : Value} {a : Int} {ex : Bool} {Q : Value → Shared → Prop} (F : Fr g L h m) (cx : Cx w g) (x : EntAt w h bad v a) (q : ∀ u t', Q (.int a u) (stt s h t')) : wpAny (model prog w) A (getAttr v (Str.ofString "atime") ex) Q E (stt s h t) := by
  obtain ⟨x, d, n, t1, t2, u1, u2, e, rfl, h2, h3, _, _⟩ := x
  exact get_own (s := stt s h t) F cx.X ⟨h2, rfl, rfl, h3⟩ (pg612 _ _) (hd612 _) (fi612 _) rfl rfl rfl (q _ _)
/-- the lambda's call -/
theorem gm_key {f : Addr} {clos : List (Str × Addr)} {pm ctv : Value} {c' : Addr} {n : Nat} {v : Value} {a : Int} {Q : Value → Shared → Prop} (am : Amb A (n + 1)) (cx : Cx w h) (hf : h.get? f = some (kla_obj (Str.ofString "<lambda>") gmQ gmA gmB gmS clos pm c' ctv)) (hc : h.CodeRec (.ref c') gmQ) (x : EntAt w h bad v a)
    (q : ∀ u h' t', Keeps [] h h' → Q (.int (-a) u) (stt s h' t')) : wpAny (model prog w) A (call (.ref f) [v]) Q E (stt s h t) := by
  refine wpAny_call ?_
  refine kla_callFunE (s := stt s h t) (body := gmB) (by have := am.dep; omega) hf rfl rfl rfl rfl hc ?_
  refine wpAny_pure (a := [(Str.ofString "entry", v)]) ?_
  refine wpAny_newFunctionEnv (show ∀ x ∈ gmS.names, x.2 ≠ .cell by decide) (by intro y hy; rw [List.mem_singleton.mp hy]; rfl) (fun h₁ hns hsb => ⟨cx.nolimit.fresh _ hsb, ?_⟩) rfl
  have k : ∀ b o, h.get? b = some o → h₁.get? b = some o := fun b o e => hsb.extBut b o (Nat.ne_of_lt (Heap.lt_size e)) (Heap.get?_push_of_some _ e)
  have F : Fr h h.objs.size h₁ (fun y => [(Str.ofString "entry", v)].reverse.lookup y) := ⟨hns, k, Nat.le_refl _⟩
  refine kla_codeExpr ?_
  show wpAny _ _ (eval (.UnaryOp .USub (.Attribute (.Name (Str.ofString "entry") _) (Str.ofString "atime") _) _) _) _ _ _
  refine wpAny_UnaryOp ?_
  refine Attribute_any_ ?_
  refine wpAny_Name (wpAny_loadName_local rfl rfl hns rfl ?_)
  refine at_atime (s := s) F cx (x.keeps (as := []) (fun b o e _ => k b o e) (fun _ z => nomatch z)) fun _ _ => ?_
  refine u_neg (s := s) fun _ _ => ?_
  exact q _ _ _ fun b o e _ => k b o e
end
end
section
set_option maxHeartbeats 4000000
theorem Call_KW {M : Model} {A : Around} {E : Value → Shared → Prop} {s : Shared} {env : Env} {f : Expr} {args : List Expr} {kws : List Keyword} {pos : Pos} {Q : Value → Shared → Prop}
    (h : wpAny M A (eval f env) (fun fv s₁ => wpAny M A (callWith pos fv [] (backTo pos (starEach args env)) (backToKw pos (keywordEach kws env))) Q E s₁) E s)
    (he : eval (.Call f args kws pos) env = (do let fv ← eval f env; callWith pos fv [] (backTo pos (starEach args env)) (backToKw pos (keywordEach kws env))) := by rfl) : wpAny M A (eval (.Call f args kws pos) env) Q E s := by
  rw [he]
  exact wpAny_bind h
theorem bis_le (ks : Nat → Int) (x : Int) : ∀ f lo hi, lo ≤ hi → bis ks x f lo hi ≤ hi
  | 0, lo, hi, h => h
  | f + 1, lo, hi, h => by
    unfold bis
    split
    · split
      · exact bis_le ks x f _ hi (by omega)
      · exact Nat.le_trans (bis_le ks x f lo _ (by omega)) (by omega)
    · exact h
/-- how many of the moving window's entries count -/
def mvN (c per : Int) (ats : List Int) : Nat := bis (fun i => -(ats.getD i 0)) (-(c - per)) ats.length 0 ats.length
def mvS (c per : Int) (ats : List Int) : Int := if ats = [] then c else if mvN c per ats = 0 then ats.getD (ats.length - 1) 0 else ats.getD (mvN c per ats - 1) 0
section
variable {w : World} {A : Around} {E : Value → Shared → Prop} {s : Shared} {h₀ h : Heap} {t₀ t : Nat} {S : SA} {r g : Heap} {L : Addr} {m : Str → Option Value} {c : Int} {R : Result → Shared → Prop} {bad : List Addr}
theorem mk_lam {Q : Value → Shared → Prop} (F : Fr g L h m) (cx : Cx w g) (l9 : L ≠ 921) (g9 : g.get? 921 = none) (hbad : ∀ a ∈ bad, a ≠ 921 → ∃ o, g.get? a = some o)
    (hT : h.get? 921 = some (tabObj #[]) ∨ ∃ c' : Addr, h.get? 921 = some (tabObj #[rawInt gmP.line, rawInt gmP.col, .ref c']) ∧ c' ∉ bad ∧ g.CodeRec (.ref c') gmQ)
    (q : ∀ f c' ctv pm h' t', Fr g L h' m → (h'.get? 921 = some (tabObj #[rawInt gmP.line, rawInt gmP.col, .ref c']) ∧ c' ∉ bad ∧ c' ≠ L) → h'.get? f = some (kla_obj (Str.ofString "<lambda>") gmQ gmA gmB gmS [] pm c' ctv) → h'.CodeRec (.ref c') gmQ → Q (.ref f) (stt s h' t')) :
    wpAny (model prog w) A (makeFunction (Str.ofString "<lambda>") gmQ gmA (.expr gmB) gmS (envX (Str.ofString "MemoryStorage.get_moving_window") (fScope (stM 9)) L 926 (.ref 925) []) [] [] [] gmP gmP.line) Q E (stt s h t) := by
  obtain ⟨p, loose, mean, mg, mb, T⟩ := cx.T
  rcases hT with e | ⟨c', e, nb, cr⟩
  · refine kla_nest (s := stt s h t) (news := [(921, tabObj #[])]) (ps := #[]) F (fun p hp => by rw [List.mem_singleton.mp hp]; exact ⟨e, l9.symm, g9⟩) T cx.C rfl (.head (fun _ z => nomatch z)) trivial rfl rfl fun f c' oc vs t ctv h' tk F' N' hd hv hlt hf => ?_
    have hc : h'.CodeRec (.ref c') gmQ := ⟨c', oc, vs, t, rfl, N'.get (.tail _ (.head _)), hd, hv⟩
    refine q f c' ctv _ h' tk F' ⟨N'.get (.tail _ (.tail _ (.head _))), fun z => ?_, (N' _ (.tail _ (.head _))).2.1⟩ (N'.get (.head _)) hc
    have h9 : (921 : Nat) < c' := hlt _ (.head _)
    obtain ⟨o, ho⟩ := hbad c' z (by intro e; rw [e] at h9; exact absurd h9 (Nat.lt_irrefl _))
    have := (N' _ (.tail _ (.head _))).2.2
    rw [ho] at this
    cases this
  · refine kla_hit (s := stt s h t) (news := [(921, tabObj #[rawInt gmP.line, rawInt gmP.col, .ref c'])]) (c' := c') F (fun p hp => by rw [List.mem_singleton.mp hp]; exact ⟨e, l9.symm, g9⟩) T cx.C rfl (.head _) trivial (by rfl) rfl fun f ctv h' tk F' N' _ => ?_
    have hc : h'.CodeRec (.ref c') gmQ := codeRec_keeps (as := []) cr (fun b o e _ => F'.keep b o e) (by simp)
    refine q f c' ctv _ h' tk F' ⟨N'.get (.tail _ (.head _)), nb, ?_⟩ (N'.get (.head _)) hc
    obtain ⟨c, oc, vs, tq, e, a, _⟩ := cr
    cases e
    exact Nat.ne_of_lt (Nat.lt_of_lt_of_le (Heap.lt_size a) F.above)
theorem gmw_spec {key : Str} {ml : Option Addr} {ats : List Int} {u1 u2 u3 : Tok} {lim per : Int} (rt : Rt w S c r) (kr : Sub r h₀) (am : Amb A 3) (hm : MvAt w S h₀ bad key ml ats) (ht : TabAt h₀ bad) (b921 : 921 ∈ bad) (bV : S.V ∈ bad) (nV : S.V ≠ 921) (hbad : ∀ a ∈ bad, ∃ o, h₀.get? a = some o) (hz : ats.length < 2 ^ 20)
    (q : ∀ T u1 u2 h' t', Keeps [921] h₀ h' → MvAt w S h' bad key ml ats → TabAt h' bad → IsTup h' T #[.int (mvS c per ats) u1, .int (if ats = [] then 0 else mvN c per ats : Nat) u2] → R (.ok (.ret (.ref T))) (stt s h' t')) :
    codeAny (model prog w) A (.call (.ref 926) ⟨[.ref S.self, .str key u1, .int lim u2, .int per u3], []⟩) R (stt s h₀ t₀) := by
  refine enterI [921] [(Str.ofString "self", .ref S.self), (Str.ofString "key", .str key u1), (Str.ofString "limit", .int lim u2), (Str.ofString "expiry", .int per u3)] am rt.cx kr (by intro a ha; rw [List.mem_singleton.mp ha]; exact hbad _ b921) (by intro a ha; rw [List.mem_singleton.mp ha]; exact rt.nT) (k926 _) rfl (bindsK (rt.cx.X.keeps kr) fun _ => by kernel_rfl) (locs rfl) (by decide) rfl rfl rfl ?_
  intro g L h₁ I F k₁
  have cx := rt.cx.keeps I.kg
  have st := rt.st.keeps I.kg
  have l9 : (921 : Addr) ∉ [L] := fun z => I.off 921 (by simp) (List.mem_singleton.mp z)
  have m₁ : MvAt w S g bad key ml ats := hm.keeps (as := [921]) (fun b o e n => I.hg ▸ hideAll_get _ e n) (by intro a ha; rw [List.mem_singleton.mp ha]; exact b921) (by simpa using nV)
  have hdone : ∀ h' m', Fr g L h' m' → MvAt w S h' bad key ml ats := fun h' m' F => m₁.keeps (as := []) (fun b o e _ => F.keep b o e) (fun _ z => nomatch z) (by simp)
  have hT : ∀ h' m', Fr g L h' m' → (∀ o, h₁.get? 921 = some o → h'.get? 921 = some o) → TabAt h' bad := fun h' m' F' e9 => by
    rcases ht with a | ⟨c', a, b, c⟩
    · exact .inl (e9 _ (k₁ _ _ a (by simp)))
    · refine .inr ⟨c', e9 _ (k₁ _ _ a (by simp)), b, ?_⟩
      refine codeRec_keeps (as := []) (codeRec_keeps (h := h₀) (h' := g) (as := [921]) c (fun b o e n => I.hg ▸ hideAll_get _ e n) (by intro z; rw [List.mem_singleton.mp z] at b; exact b b921)) (fun b o e _ => F'.keep b o e) (by simp)
  refine wpAny_execs_cons ?_
  walk_at "bn"
  refine mt_clock (s := s) F cx st fun _ => ?_
  refine callWith_F0 ⟨_, _, _, _, (st.keeps F.keep).lam⟩ ?_
  refine call_lam (s := s) (n := 0) ((am.deeper _).mono (by decide)) (cx.keeps F.keep).nolimit (st.keeps F.keep) fun _ h₂ _ k₂ => ?_
  have F₂ := fr_all F k₂.all
  refine s_loc (s := s) F₂ nilN fun h₃ t₃ F₃ _ k₃ => ?_
  walk_at "bn"
  refine wpAny_NamedExpr ?_
  walk_at "bn"
  refine at_events (s := s) F₃ cx st fun _ => ?_
  obtain ⟨oV, fV, hoV, iV, mV, hml⟩ := m₁
  have hoV₃ := F₃.keep _ _ hoV
  refine mt_dict PySem.F.slot_dict_get PySem.F.type_dict_get hoV₃ iV.cls iV.dict ?_
  walk_at "bn"
  refine n_list (s := s) F₃ nilN (by show (0 : Nat) ≤ sizeLine; decide) fun D h₄ F₄ N₄ k₄ _ => ?_
  walk_at "bn"
  have hoV₄ := F₄.keep _ _ hoV
  refine w_dget (s := s) (DLike.exact hoV₄ iV.cls) rt.sV hoV₄ mV fun _ => ?_
  cases ml with
  | none =>
    obtain ⟨e1, e2, _⟩ := hml
    rw [e1]
    refine wpAny_assign_Name ?_
    refine s_loc (s := s) F₄ N₄ fun h₅ t₅ F₅ N₅ k₅ => ?_
    dsimp only [Option.getD_none]
    refine wpAny_truthy_list (s := stt s h₅ t₅) (l := D) (items := #[]) ⟨_, N₅.get (.head _), rfl, _, rfl⟩ (by decide) ?_
    rw [if_neg (by decide)]
    walk_at "bn"
    refine n_tuple (s := s) F₅ N₅ (by show (2 : Nat) ≤ sizeLine; decide) fun T h₆ F₆ N₆ k₆ _ => ?_
    simp only [show mvS c per ats = c from if_pos e2, if_pos e2] at q
    refine q _ _ _ _ _ (I.out F₆) (hdone _ _ F₆) ?_ ⟨_, N₆.get (.head _), rfl, _, rfl⟩
    · exact hT _ _ F₆ fun o e => k₆.all _ _ (k₅ _ _ (k₄.all _ _ (k₃ _ _ (k₂.all _ _ e) l9)) l9)
  | some l =>
    obtain ⟨e1, e2, vs, nn, e3, e4⟩ := hml
    rw [e1]
    refine wpAny_assign_Name ?_
    refine s_loc (s := s) F₄ N₄ fun h₅ t₅ F₅ N₅ k₅ => ?_
    dsimp only [Option.getD_some]
    have hl := F₅.keep _ _ e3
    have hlen := e4.len
    refine wpAny_truthy_list (s := stt s h₅ t₅) (l := l) (items := vs.toArray) ⟨_, hl, rfl, _, rfl⟩ (by simp; omega) ?_
    by_cases hv : vs = []
    · subst hv
      have e2' : ats = [] := by cases e4; rfl
      rw [if_neg (by decide)]
      walk_at "bn"
      refine n_tuple (s := s) F₅ N₅ (by show (2 : Nat) ≤ sizeLine; decide) fun T h₆ F₆ N₆ k₆ _ => ?_
      simp only [show mvS c per ats = c from if_pos e2', if_pos e2'] at q
      refine q _ _ _ _ _ (I.out F₆) (hdone _ _ F₆) ?_ ⟨_, N₆.get (.head _), rfl, _, rfl⟩
      · exact hT _ _ F₆ fun o e => k₆.all _ _ (k₅ _ _ (k₄.all _ _ (k₃ _ _ (k₂.all _ _ e) l9)) l9)
    · have hne : ats ≠ [] := fun z => by subst z; cases e4; exact hv rfl
      rw [if_pos (by cases vs with | nil => exact absurd rfl hv | cons a b => rfl)]
      walk_at "bn"
      refine Call_KW ?_
      refine nm_g F₅ cx (gn_bis _) ?_
      refine callWith_kw ?_
      walk_at "bn"
      refine kwAll_cons ?_
      refine kla_eval rfl ?_
      have e9 : ∀ o, h₁.get? 921 = some o → h₅.get? 921 = some o := fun o e => k₅ _ _ (k₄.all _ _ (k₃ _ _ (k₂.all _ _ e) l9)) l9
      have hbg : ∀ a ∈ bad, a ≠ 921 → ∃ o, g.get? a = some o := fun a ha n => by
        obtain ⟨o, ho⟩ := hbad a ha
        exact ⟨o, I.hg ▸ hideAll_get _ ho (by simpa using n)⟩
      refine mk_lam (s := s) F₅ cx (fun e => l9 (by simp [e])) (I.gn 921 (by simp)) hbg ?_ fun f c' ctv pm h₆ t₆ F₆ T₆ hf hc => ?_
      · rcases ht with a | ⟨c', a, b, c⟩
        · exact .inl (e9 _ (k₁ _ _ a (by simp)))
        · refine .inr ⟨c', e9 _ (k₁ _ _ a (by simp)), b, ?_⟩
          exact codeRec_keeps (h := h₀) (h' := g) (as := [921]) c (fun b o e n => I.hg ▸ hideAll_get _ e n) (by intro z; rw [List.mem_singleton.mp z] at b; exact b b921)
      refine kwAll_nil ?_
      have hl₆ := F₆.keep _ _ e3
      refine call_bis (s := s) (h := h₆) (items := vs.toArray) (ks := fun i => -(ats.getD i 0)) ⟨_, hl₆, rfl, _, rfl⟩ (by simp; omega) ?_ fun u₇ h₇ t₇ k₇ => ?_
      · intro i v h' t' Q' E' hv' kh q'
        obtain ⟨a, ha, ea⟩ := e4.at (i := i) (v := v) (by simpa using hv')
        refine gm_key (s := s) (n := 0) ((am.deeper _).in1.mono (by decide)) (cx.keeps fun b o e => kh.all _ _ (F₆.keep _ _ e)) (kh.all _ _ hf) (codeRec_keeps hc kh (by simp)) (ea.keeps (as := []) (fun b o e _ => kh.all _ _ (F₆.keep _ _ e)) (fun _ z => nomatch z)) fun u h'' t'' k'' => ?_
        have : ats.getD i 0 = a := by rw [List.getD_eq_getElem?_getD, ha]; rfl
        have z := q' u h'' t'' k''
        dsimp only at z
        rw [this] at z
        exact z
      have F₇ := fr_all F₆ k₇.all
      refine s_loc (s := s) F₇ nilN fun h₈ t₈ F₈ _ k₈ => ?_
      have hlen' : vs.toArray.size = ats.length := by simp [hlen]
      have hb : bis (fun i => -(ats.getD i 0)) (-(c - per)) ats.length 0 ats.length = mvN c per ats := rfl
      rw [hlen', hb] at F₈
      walk_at "bn"
      have hl₈ := F₈.keep _ _ e3
      have hLl : h₈.IsList l vs.toArray := ⟨_, hl₈, rfl, _, rfl⟩
      have fin : ∀ v, vs[(if mvN c per ats = 0 then ats.length - 1 else mvN c per ats - 1)]? = some v → ∃ a, EntAt w g bad v a ∧ mvS c per ats = a := by
        intro v hv'
        obtain ⟨a, ha, ea⟩ := e4.at hv'
        refine ⟨a, ea, ?_⟩
        unfold mvS
        rw [if_neg hne]
        split at ha
        · rename_i z; rw [if_pos z, List.getD_eq_getElem?_getD, ha]; rfl
        · rename_i z; rw [if_neg z, List.getD_eq_getElem?_getD, ha]; rfl
      have hN : mvN c per ats ≤ ats.length := bis_le _ _ _ _ _ (Nat.zero_le _)
      have hpos : 0 < ats.length := List.length_pos_iff.mpr hne
      obtain ⟨v, hv'⟩ : ∃ v, vs[(if mvN c per ats = 0 then ats.length - 1 else mvN c per ats - 1)]? = some v := ⟨_, List.getElem?_eq_getElem (by rw [hlen]; split <;> omega)⟩
      obtain ⟨a, ea, eS⟩ := fin v hv'
      have sub : ∀ (sl : Expr) (u : Tok) (Q' : Value → Shared → Prop) (E' : Value → Shared → Prop) (A' : Around) (t' : Nat) (vl : Expr), (subscripted sl false (.ref l) (.int ((mvN c per ats : Int) - 1) u) = operate [.ref l, .int ((mvN c per ats : Int) - 1) u] (getItem (.ref l) (.int ((mvN c per ats : Int) - 1) u))) → Q' v (stt s h₈ t') → wpAny (model prog w) A' (subscriptTail vl sl (.ref l) (.int ((mvN c per ats : Int) - 1) u)) Q' E' (stt s h₈ t') := by
        intro sl u Q' E' A' t' vl hs q'
        refine tail_any (s := stt s h₈ t') hLl.typeIs slot_list_getitem.lookup ?_ hs
        by_cases hz0 : mvN c per ats = 0
        · rw [if_pos hz0] at hv'
          rw [hz0]
          exact wpAny_getItem_list_neg (s := stt s h₈ t') hLl (by decide) (by simp; omega) (by decide) (by
            have e : ((((0 : Nat) : Int) - 1) + ((vs.toArray.size : Nat) : Int)).toNat = ats.length - 1 := by rw [hlen']; omega
            rw [e]; simpa using hv') q'
        · rw [if_neg hz0] at hv'
          exact wpAny_getItem_list (s := stt s h₈ t') hLl (by omega) (by omega) (by
            have e : ((mvN c per ats : Int) - 1).toNat = mvN c per ats - 1 := by omega
            rw [e]; simpa using hv') q'
      refine sub _ _ _ _ _ _ _ (by with_unfolding_all rfl) ?_
      refine at_atime (s := s) F₈ cx (ea.keeps (as := []) (fun b o e _ => F₈.keep _ _ e) (fun _ z => nomatch z)) fun _ _ => ?_
      walk_at "bn"
      refine n_tuple (s := s) F₈ nilN (by show (2 : Nat) ≤ sizeLine; decide) fun T h₉ F₉ N₉ k₉ _ => ?_
      rw [eS, if_neg hne] at q
      exact q _ _ _ _ _ (I.out F₉) (hdone _ _ F₉) (.inr ⟨c', k₉.all _ _ (k₈ _ _ (k₇.all _ _ T₆.1) l9), T₆.2.1, codeRec_keeps (codeRec_keeps (codeRec_keeps hc k₇ (by simp)) k₈ (by simpa using T₆.2.2)) k₉ (by simp)⟩) ⟨_, N₉.get (.head _), rfl, _, rfl⟩
end
end
section
set_option maxHeartbeats 4000000
theorem mk612 (P : Params) : makesIn (K P) 612 = true := by kernel_rfl
theorem in612 (P : Params) : findIn (K P) (.ref 612) "__init__" = some (some (.ref 609)) := by kernel_rfl
theorem t609 (P : Params) : typeIn (K P) (.ref 609) = some (.type "function") := by kernel_rfl
theorem sa612 (P : Params) : findIn (K P) (.ref 612) "__setattr__" = some (some (.builtin "object.__setattr__")) := by kernel_rfl
theorem po612 (P : Params) : plainOver (K P) 612 = true := by kernel_rfl
theorem tk612a (P : Params) : takerIn (K P) 612 (Str.ofString "atime") = some none := by kernel_rfl
theorem tk612e (P : Params) : takerIn (K P) 612 (Str.ofString "expiry") = some none := by kernel_rfl
theorem bo612 (P : Params) : findIn (K P) (.ref 612) "__bool__" = some none := by kernel_rfl
theorem le612 (P : Params) : findIn (K P) (.ref 612) "__len__" = some none := by kernel_rfl
section
variable {w : World} {A : Around} {E : Value → Shared → Prop} {s : Shared} {h₀ h : Heap} {t₀ t : Nat} {S : SA} {r g : Heap} {L : Addr} {m : Str → Option Value} {c : Int} {R : Result → Shared → Prop} {bad : List Addr} {news : List (Addr × Obj)}
theorem truthy_ent {v : Value} {a : Int} {Q : Bool → Shared → Prop} (cx : Cx w h) (x : EntAt w h bad v a) (q : Q true (stt s h t)) : wpAny (model prog w) A (truthy v) Q E (stt s h t) := by
  obtain ⟨x, d, n, t1, t2, u1, u2, e, rfl, h2, h3, _, _⟩ := x
  have ht : Looks (model prog w) h (typeOf (.ref x)) (.ref 612) := (Looks.ld h2).andThen .now
  unfold truthy
  dsimp only
  unfold callSpecial? specialOf
  refine wpAny_bind (wpAny_bind (wpAny_bind (ht.at ((looks_findIn cx.X (bo612 _)).at ?_))))
  refine wpAny_pure ?_
  dsimp only
  refine wpAny_bind (wpAny_bind (ht.at ((looks_findIn cx.X (le612 _)).at ?_)))
  exact wpAny_pure q
/-- `l[:0] = [...]` -/
theorem si_slice {l sl v : Addr} {items new : List Value} {n : Nat} {u : Tok} {Q : Unit → Shared → Prop} (hl : h.get? l = some ⟨.type "list", none, .seq items.toArray n, #[]⟩) (hs : h.IsSliceOf sl .none (.int 0 u) .none)
    (hv : h.IsList v new.toArray) (hne : l ≠ v) (hz : items.length + new.length ≤ sizeLine)
    (q : ∀ h' n', h'.get? l = some ⟨.type "list", none, .seq (new ++ items).toArray n', #[]⟩ → Heap.SameBut l h h' → Q () (stt s h' t)) :
    wpAny (model prog w) A (setItem (.ref l) (.ref sl) (.ref v)) Q E (stt s h t) := by
  have hl' : h.IsList l items.toArray := ⟨_, hl, rfl, _, rfl⟩
  obtain ⟨os, hos, hcs, hds⟩ := id hs
  have hTs : (stt s h t).TypeIs (.ref sl) "slice" := ⟨os, hos, hcs⟩
  have hTl : (stt s h t).TypeIs (.ref l) "list" := ⟨_, hl, rfl⟩
  have hTv : (stt s h t).TypeIs (.ref v) "list" := by obtain ⟨o, a, b, _⟩ := hv; exact ⟨o, a, b⟩
  unfold setItem
  try with_reducible refine wpAny_holding ?_
  first | refine wpAny_bind (wpAny_pure ?_) | skip
  refine wpAny_bind (wpAny_sequenceKey hTl (by decide) ?_)
  refine wpAny_bind (wpAny_callSpecial?_slot (name := Str.ofString "__setitem__") hTl PySem.F.slot_list_setitem
    (wpAny_call_entry PySem.F.slot_list_setitem hTl PySem.F.entry_list_setitem ?_ (PySem.F.args_list_setitem_3 _ _ _)))
  show wpAny _ _ (Builtin.List.listSubscript? (.ref sl) >>= _) _ _ _
  refine wpAny_bind ?_
  unfold Builtin.List.listSubscript?
  refine wpAny_bind (wpAny_specialOf hTs slice_no_index ?_)
  simp only [Option.isNone_none, if_true]
  refine wpAny_pure ?_
  show wpAny _ _ (typeOf (.ref sl) >>= _) _ _ _
  refine wpAny_bind (wpAny_typeOf hTs ?_)
  rw [if_neg (by decide)]
  rw [listSliceParts_eq]
  refine wpAny_bind (wpAny_bind (wpAny_field hos hds (x := .none) rfl (wpAny_bind (wpAny_listPart .none ?_))))
  rw [if_neg (show ¬ ((rawPart none == rawInt 0) = true) from Bool.false_ne_true)]
  refine wpAny_bind (wpAny_field hos hds (x := .none) rfl (wpAny_bind (wpAny_listPart .none ?_)))
  refine wpAny_bind (wpAny_field hos hds (x := .int 0 u) rfl (wpAny_bind (wpAny_listPart (.int 0 u) (wpAny_pure ?_))))
  have hx : ¬ (Builtin.List.listSameRef (.ref l) (.ref v) = true) := by
    simpa [Builtin.List.listSameRef] using hne
  rw [if_neg hx]
  obtain ⟨ov, hov, hvc, nv, hvd⟩ := hv
  refine wpAny_bind ?_
  unfold Builtin.List.listAllItems
  refine wpAny_bind (wpAny_typeOf hTv ?_)
  rw [if_pos (by decide)]
  unfold Builtin.List.listItems
  refine wpAny_bind (wpAny_seqItems hov hvd (wpAny_pure ?_))
  refine wpAny_bind (wpAny_bind (wpAny_seqItems hl rfl (wpAny_pure ?_)))
  refine wpAny_bind (wpAny_of_eq (sliceIndices_raw none (some 0) none items.toArray.size (by simp)) ?_)
  have e : sliceBounds none (some 0) none items.toArray.size = (0, 0, 1) := by
    simp only [sliceBounds, Option.getD_none, show (1 : Int) > 0 by decide, if_true, show ¬ ((0 : Int) < 0) by decide, if_false]
    congr 1
  rw [e]
  dsimp only
  rw [if_pos (by decide)]
  refine wpAny_bind (wpAny_rule ?_)
  rw [if_neg (by simp [Builtin.List.listTooLong]; omega)]
  show wpAny _ _ (updateSeq l _ >>= _) _ _ _
  refine wpAny_bind (wpAny_updateSeq hl rfl ?_)
  refine wpAny_bind (wpAny_letGo ?_)
  have e2 : ∃ n', Obj.mapSeq (fun xs => xs.extract 0 (Int.toNat 0) ++ new.toArray ++ xs.extract (Max.max 0 0 : Int).toNat) ⟨.type "list", none, .seq items.toArray n, #[]⟩ = ⟨.type "list", none, .seq (new ++ items).toArray n', #[]⟩ := by
    simp only [Obj.mapSeq, Obj.mk.injEq, Data.seq.injEq, true_and, and_true]
    simp
  obtain ⟨n', e2⟩ := e2
  have e3 := Heap.get?_update_self (Obj.mapSeq (fun xs => xs.extract 0 (Int.toNat 0) ++ new.toArray ++ xs.extract (Max.max 0 0 : Int).toNat)) hl (by rw [e2]; rfl)
  rw [e2] at e3
  exact wpAny_pure ⟨.none, rfl, wpAny_pure (q _ _ e3 (Heap.SameBut.update ..))⟩
end
end
section
set_option maxHeartbeats 4000000
/-- a limiter over the store -/
def Lim (w : World) (S : SA) (h : Heap) (a C : Addr) : Prop := ∃ d t n, h.get? a = some ⟨.ref C, some d, .plain, #[]⟩ ∧ h.get? d = some (dictOf [⟨PyData.keyHash w.params (Str.ofString "storage"), .str (Str.ofString "storage") t, .ref S.self⟩] n)
theorem Lim.keeps {w S h h' a C} (x : Lim w S h a C) (k : ∀ b o, h.get? b = some o → h'.get? b = some o) : Lim w S h' a C := let ⟨d, t, n, e, f⟩ := x; ⟨d, t, n, k _ _ e, k _ _ f⟩
/-- the name's tuple -/
def Who (h : Heap) (T : Addr) : Prop := ∃ u n, h.get? T = some ⟨.type "tuple", none, .seq #[.str (Str.ofString "ann") u] n, #[]⟩
theorem Who.keeps {h h' T} (x : Who h T) (k : ∀ b o, h.get? b = some o → h'.get? b = some o) : Who h' T := let ⟨u, n, e⟩ := x; ⟨u, n, k _ _ e⟩
/-- small numbers of an item -/
structure GI (amt per : Int) : Prop where
  ha : amt.natAbs.log2 < 1920
  hp : per.natAbs.log2 < 1920
  h1 : (Str.ofString (toString amt)).length ≤ 10
  h2 : (Str.ofString (toString per)).length ≤ 10
  hz : (keyOf amt per).length ≤ 1000
theorem f_key (P : Params) : findIn (K P) (.ref 567) (Str.ofString "key_for") = some (some (.ref 527)) := by kernel_rfl
theorem i_key (P : Params) : isFn (K P) (.ref 527) = true := by kernel_rfl
theorem kp_key (P : Params) : keepIn (K P) (.ref 527) = true := by kernel_rfl
theorem sg527 (P : Params) : specialIn (K P) (.ref 527) "__get__" = some (some (.builtin "function.__get__")) := by kernel_rfl
theorem tk527 (P : Params) : takesIn (K P) (.ref 527) = some false := by kernel_rfl
theorem cn_key : copiedNames.contains (Str.ofString "key_for") = false := by decide +kernel
theorem t527 (P : Params) : typeIn (K P) (.ref 527) = some (.type "function") := by kernel_rfl
theorem fn527 (P : Params) : fnIn (K P) 527 = true := by kernel_rfl
theorem f_ixp (P : Params) : findIn (K P) (.ref 567) (Str.ofString "get_expiry") = some (some (.ref 522)) := by kernel_rfl
theorem i_ixp (P : Params) : isFn (K P) (.ref 522) = true := by kernel_rfl
theorem kp_ixp (P : Params) : keepIn (K P) (.ref 522) = true := by kernel_rfl
section
variable {w : World} {A : Around} {E : Value → Shared → Prop} {s : Shared} {h₀ h : Heap} {t₀ t : Nat} {S : SA} {r g : Heap} {L : Addr} {m : Str → Option Value} {c : Int} {R : Result → Shared → Prop} {bad : List Addr} {it T lm C : Addr} {amt per : Int}
theorem mt_item {name : Str} {f : Addr} {pl : Sem Bool} {Q : Value × List Value → Shared → Prop} (F : Fr g L s.heap m) (cx : Cx w g) (i : Itm g it amt per) (hf : findIn (K w.params) (.ref 567) name = some (some (.ref f))) (ht : isFn (K w.params) (.ref f) = true)
    (h : Q (.ref f, [.ref it]) s) : wpAny (model prog w) A (getMethod (.ref it) name pl) Q E s := by
  obtain ⟨d, u1, u2, u3, e, f'⟩ := i.keeps F.keep
  exact method_inst F cx.X (it_inst e f') (pg567 _ _) hf ht rfl h
theorem fo_key (P : Params) (es : List DictEntry) (n : Nat) (e : getL (Str.ofString "key_for") es = some none) : findObj (K P) 567 (some (dictOf es n)) (Str.ofString "key_for") = some (.bind (.builtin "function.__get__") (.ref 527)) := by
  obtain ⟨cd, hc, hd⟩ := any_some (hd567 P)
  unfold findObj
  have ho : W.ownOf cd (some (dictOf es n)) (Str.ofString "key_for") = some none := by unfold W.ownOf; rw [if_pos hd]; exact (lookIn_dict _ _ _).trans e
  rw [hc, Option.bind_some, f_key, Option.bind_some]
  simp only [sg527, tk527, Option.bind_some, ho, cn_key, Bool.false_and, Bool.false_eq_true, if_false]
theorem Call_star {M : Model} {A : Around} {E : Value → Shared → Prop} {s : Shared} {env : Env} {o : Expr} {name : Str} {apos pos : Pos} {args : List Expr} {Q : Value → Shared → Prop}
    (h : wpAny M A (eval o env) (fun ov s₁ => wpAny M A (getAttr ov name true) (fun f s₂ => wpAny M A (callWith pos f [] (backTo pos (starEach args env)) []) Q E s₂) E s₁) E s)
    (he : eval (.Call (.Attribute o name apos) args [] pos) env = (do
      let ov ← eval o env
      standAt apos.atName
      let (f, first) ← holding [ov] (do pure (← getAttr ov name true, []))
      let cp ← pure pos
      callWith cp f first (backTo pos (starEach args env)) []) := by rfl) : wpAny M A (eval (.Call (.Attribute o name apos) args [] pos) env) Q E s := by
  rw [he]
  refine wpAny_bind (wpAny_mono h (fun ov s₁ h₁ => wpAny_bind (wpAny_standAt (wpAny_bind (wpAny_holding (wpAny_bind (wpAny_mono h₁ (fun f s₂ h₂ => wpAny_pure ?_) fun _ _ x => x)))))) fun _ _ x => x)
  exact wpAny_bind (wpAny_pure h₂)
/-- `item.key_for(*identifiers)` -/
theorem ev_key {cn : Str} {cs : Scope} {a : Addr} {ccd : Value} {cl : List (Str × Addr)} {pos p p2 p3 p4 : Pos} {Q : Value → Shared → Prop} (am : Amb A 5) (F : Fr g L h m) (cx : Cx w g) (i : Itm g it amt per) (gi : GI amt per) (wh : Who g T) (hm : m (Str.ofString "identifiers") = some (.ref T)) (hi : m (Str.ofString "item") = some (.ref it))
    (q : ∀ u h' t', Keeps [] h h' → Q (.str (keyOf amt per) u) (stt s h' t')) (hk : cs.kind = .function := by rfl) (hx : (envX cn cs L a ccd cl).kindOf (Str.ofString "identifiers") = some .local := by rfl) (hx' : (envX cn cs L a ccd cl).kindOf (Str.ofString "item") = some .local := by rfl) :
    wpAny (model prog w) A (eval (.Call (.Attribute (.Name (Str.ofString "item") p3) (Str.ofString "key_for") p4) [.Starred (.Name (Str.ofString "identifiers") p2) p] [] pos) (envX cn cs L a ccd cl)) Q E (stt s h t) := by
  obtain ⟨u, n, e⟩ := wh
  refine Call_star ?_
  refine nameX_L (s := stt s h t) F hi ?_ hk hx'
  have i₁ := i.keeps F.keep
  obtain ⟨d, v1, v2, v3, ei, ed⟩ := i₁
  refine get_bind (s := stt s h t) (Fr.cx F cx) (it_inst ei ed) (plainGet_of (pg567 _ (Str.ofString "key_for"))).1 (fo_key _ _ _ rfl) (plainGet_of (pg567 _ (Str.ofString "key_for"))).2 ?_
  refine wpAny_call ?_
  refine fn_get (s := stt s h (t + 1)) (Fr.cx F cx) (t527 _) ?_
  refine handed_on rfl ?_
  have k₁ : Keeps [] h (h.push (methodObj (.ref 527) (.ref it))) := fun b o e _ => Heap.get?_push_of_some _ e
  have F₁ : Fr g L (h.push (methodObj (.ref 527) (.ref it))) m := fr_all F k₁.all
  have hq : (h.push (methodObj (.ref 527) (.ref it))).get? h.objs.size = some (methodObj (.ref 527) (.ref it)) := Heap.get?_push_size _ rfl
  refine ks_call (P := MethP (K w.params) h.objs.size 527 (.ref it)) rfl (keeps_M (fn527 _)) ?_
  refine ks_lone ?_
  refine nameX_L (s := stt s (h.push (methodObj (.ref 527) (.ref it))) (t + 1)) F₁ hm ?_ hk hx
  refine star_tup (s := s) (F₁.keep _ _ e) rfl (by show (1 : Nat) ≤ sizeLine; decide) fun h' k => ?_
  have F' := fr_all F₁ k.all
  refine ⟨⟨k.all _ _ hq, Fr.cx F' cx⟩, ?_⟩
  refine wpAny_call (method_call (s := stt s h' (t + 1)) (k.all _ _ hq) ?_)
  exact it_key (s := s) (am.mono (by decide)) (cx.keeps F'.keep) (i.keeps F'.keep) gi.ha gi.hp gi.h1 gi.h2 gi.hz fun u h'' t' k' => q u h'' t' ((k₁.trans k).trans k')
/-- `item.get_expiry()` -/
theorem cw_exp {env : Env} {pos : Pos} {Q : Value → Shared → Prop} (am : Amb A 4) (F : Fr g L h m) (cx : Cx w g) (i : Itm g it amt per) (q : ∀ u h' t', Keeps [] h h' → Q (.int per u) (stt s h' t')) :
    wpAny (model prog w) A (callWith pos (.ref 522) [.ref it] (backTo pos (starEach [] env)) []) Q E (stt s h t) := by
  refine callWith_D0 (w := w) (Fr.cx F cx) (kp_ixp _) ?_
  exact it_expiry (s := s) am (cx.keeps F.keep) (i.keeps F.keep) q
theorem pg280 (P : Params) (x : Str) : plainGet (K P) 280 x = true := by kernel_rfl
theorem hd280 (P : Params) : hasDictIn (K P) 280 = true := by kernel_rfl
theorem fs280 (P : Params) : findIn (K P) (.ref 280) (Str.ofString "storage") = some none := by kernel_rfl
theorem pg241 (P : Params) (x : Str) : plainGet (K P) 241 x = true := by kernel_rfl
theorem hd241 (P : Params) : hasDictIn (K P) 241 = true := by kernel_rfl
theorem fs241 (P : Params) : findIn (K P) (.ref 241) (Str.ofString "storage") = some none := by kernel_rfl
theorem pg335 (P : Params) (x : Str) : plainGet (K P) 335 x = true := by kernel_rfl
theorem hd335 (P : Params) : hasDictIn (K P) 335 = true := by kernel_rfl
theorem fs335 (P : Params) : findIn (K P) (.ref 335) (Str.ofString "storage") = some none := by kernel_rfl
theorem at_lst {ex : Bool} {Q : Value → Shared → Prop} (F : Fr g L h m) (cx : Cx w g) (l : Lim w S g lm C) (h1 : plainGet (K w.params) C (Str.ofString "storage") = true) (h2 : hasDictIn (K w.params) C = true) (h3 : findIn (K w.params) (.ref C) (Str.ofString "storage") = some none)
    (q : ∀ t', Q (.ref S.self) (stt s h t')) : wpAny (model prog w) A (getAttr (.ref lm) (Str.ofString "storage") ex) Q E (stt s h t) := by
  obtain ⟨d, t, n, e, f⟩ := l.keeps F.keep
  exact get_own (s := stt s h _) F cx.X ⟨e, rfl, rfl, f⟩ h1 h2 h3 rfl rfl rfl (q _)
variable {σ ε : Str → Option Int} {n n' : Nat}
/-- the fixed window's test -/
theorem ft_spec {cost : Int} {u1 : Tok} (rt : Rt w S c r) (kr : Sub r h₀) (am : Amb A 6) (hc : CtrAt w S h₀ σ n) (he : ExpAt w S h₀ ε n') (hn : n ≤ sizeLine) (hn' : n' ≤ sizeLine) (li : Lim w S r lm 280) (i : Itm r it amt per) (gi : GI amt per) (wh : Who r T)
    (q : ∀ h' t', Keeps [S.C, S.E] h₀ h' → CtrAt w S h' (gotS σ ε c (keyOf amt per)) n → ExpAt w S h' (gotE ε c (keyOf amt per)) n' → R (.ok (.ret (.bool (decide ((gotS σ ε c (keyOf amt per) (keyOf amt per)).getD 0 < amt - cost + 1))))) (stt s h' t')) :
    codeAny (model prog w) A (.call (.ref 268) ⟨[.ref lm, .ref it, .ref T, .int cost u1], []⟩) R (stt s h₀ t₀) := by
  refine enterI [S.C, S.E] [(Str.ofString "self", .ref lm), (Str.ofString "item", .ref it), (Str.ofString "identifiers", .ref T), (Str.ofString "cost", .int cost u1)] am rt.cx kr (ex2 hc he) rt.nCE (k268 _) rfl (bindsK (rt.cx.X.keeps kr) fun _ => by kernel_rfl) (locs rfl) (by decide) rfl rfl rfl ?_
  intro g L h₁ I F k₁
  have cx := rt.cx.keeps I.kg
  have st := rt.st.keeps I.kg
  have li := li.keeps I.kg
  have i := i.keeps I.kg
  have wh := wh.keeps I.kg
  have c₁ := hc.keeps k₁ (by simp)
  have e₁ := he.keeps k₁ (by simp)
  refine wpAny_execs_cons ?_
  walk_at "bn"
  refine at_lst (s := s) F cx li (pg280 _ _) (hd280 _) (fs280 _) fun _ => ?_
  refine mt_store F cx st (f_get _) (i_get _) rfl ?_
  refine callWith_D (w := w) (kp_get _) ?_
  walk_at "bn"
  refine ev_key (s := s) (am.deeper _) F cx i gi wh rfl rfl fun u₂ h₂ t₂ k₂ => ?_
  have F₂ := fr_all F k₂.all
  walk_at "bn"
  refine ⟨Fr.cx F₂ cx, ?_⟩
  refine call_get (s := s) rt (fun b o e => F₂.keep b o (I.kg b o e)) ((am.deeper _).mono (by decide)) (c₁.keeps k₂ (by simp)) (e₁.keeps k₂ (by simp)) hn hn' fun v₁ h₃ t₃ k₃ c₃ e₃ => ?_
  have F₃ := I.call F₂ k₃
  walk_at "bn"
  refine it_amount (s := s) F₃ cx (i.keeps F₃.keep) fun _ _ => ?_
  walk_at "bn"
  exact q _ _ (I.out F₃) c₃ e₃
end
end
section
set_option maxHeartbeats 4000000
theorem f_acq (P : Params) : findIn (K P) (.ref 972) (Str.ofString "acquire_sliding_window_entry") = some (some (.ref 934)) := by kernel_rfl
theorem i_acq (P : Params) : isFn (K P) (.ref 934) = true := by kernel_rfl
theorem kp_acq (P : Params) : keepIn (K P) (.ref 934) = true := by kernel_rfl
theorem f_gmw (P : Params) : findIn (K P) (.ref 972) (Str.ofString "get_moving_window") = some (some (.ref 926)) := by kernel_rfl
theorem i_gmw (P : Params) : isFn (K P) (.ref 926) = true := by kernel_rfl
theorem kp_gmw (P : Params) : keepIn (K P) (.ref 926) = true := by kernel_rfl
theorem f_gsw (P : Params) : findIn (K P) (.ref 972) (Str.ofString "get_sliding_window") = some (some (.ref 948)) := by kernel_rfl
theorem i_gsw (P : Params) : isFn (K P) (.ref 948) = true := by kernel_rfl
theorem kp_gsw (P : Params) : keepIn (K P) (.ref 948) = true := by kernel_rfl
theorem f_gex (P : Params) : findIn (K P) (.ref 972) (Str.ofString "get_expiry") = some (some (.ref 919)) := by kernel_rfl
theorem i_gex (P : Params) : isFn (K P) (.ref 919) = true := by kernel_rfl
theorem kp_gex (P : Params) : keepIn (K P) (.ref 919) = true := by kernel_rfl
section
variable {w : World} {A : Around} {E : Value → Shared → Prop} {s : Shared} {h₀ h : Heap} {t₀ t : Nat} {S : SA} {r g : Heap} {L : Addr} {m : Str → Option Value} {c : Int} {R : Result → Shared → Prop} {bad : List Addr} {it T lm C : Addr} {amt per : Int} {σ ε : Str → Option Int} {n n' : Nat}
/-- the fixed window's hit -/
theorem fh_spec {cost : Int} {u1 : Tok} (rt : Rt w S c r) (kr : Sub r h₀) (am : Amb A 6) (hc : CtrAt w S h₀ σ n) (he : ExpAt w S h₀ ε n') (hn : n + 1 ≤ sizeLine) (hn' : n' + 1 ≤ sizeLine) (li : Lim w S r lm 280) (i : Itm r it amt per) (gi : GI amt per) (wh : Who r T)
    (q : ∀ h' t', Keeps [S.C, S.E] h₀ h' → CtrAt w S h' (incS σ ε c (keyOf amt per) cost) (n + 1) → ExpAt w S h' (incE σ ε c (keyOf amt per) per) (n' + 1) → R (.ok (.ret (.bool (decide ((gotS σ ε c (keyOf amt per) (keyOf amt per)).getD 0 + cost ≤ amt))))) (stt s h' t')) :
    codeAny (model prog w) A (.call (.ref 259) ⟨[.ref lm, .ref it, .ref T, .int cost u1], []⟩) R (stt s h₀ t₀) := by
  refine enterI [S.C, S.E] [(Str.ofString "self", .ref lm), (Str.ofString "item", .ref it), (Str.ofString "identifiers", .ref T), (Str.ofString "cost", .int cost u1)] am rt.cx kr (ex2 hc he) rt.nCE (k259 _) rfl (bindsK (rt.cx.X.keeps kr) fun _ => by kernel_rfl) (locs rfl) (by decide) rfl rfl rfl ?_
  intro g L h₁ I F k₁
  have cx := rt.cx.keeps I.kg
  have st := rt.st.keeps I.kg
  have li := li.keeps I.kg
  have i := i.keeps I.kg
  have wh := wh.keeps I.kg
  have c₁ := hc.keeps k₁ (by simp)
  have e₁ := he.keeps k₁ (by simp)
  refine wpAny_execs_cons ?_
  walk_at "bn"
  refine at_lst (s := s) F cx li (pg280 _ _) (hd280 _) (fs280 _) fun _ => ?_
  refine mt_store F cx st (f_inc _) (i_inc _) rfl ?_
  refine callWith_KW (K := K w.params) cx.X (kp_inc _) rfl ?_
  walk_at "bn"
  refine ev_key (s := s) (am.deeper _) F cx i gi wh rfl rfl fun u₂ h₂ t₂ k₂ => ?_
  have F₂ := fr_all F k₂.all
  walk_at "bn"
  refine mt_item F₂ cx i (f_ixp _) (i_ixp _) ?_
  refine cw_exp (s := s) ((am.deeper _).mono (by decide)) F₂ cx i fun u₃ h₃ t₃ k₃ => ?_
  have F₃ := fr_all F₂ k₃.all
  walk_at "bn"
  refine kwAll_cons ?_
  walk_at "bn"
  refine kwAll_nil ?_
  refine ⟨Fr.cx F₃ cx, ?_⟩
  refine wpAny_call ?_
  refine incr_spec (s := s) rt (fun b o e => F₃.keep b o (I.kg b o e)) ((am.deeper _).mono (by decide)) ((c₁.keeps k₂ (by simp)).keeps k₃ (by simp)) ((e₁.keeps k₂ (by simp)).keeps k₃ (by simp)) hn hn' fun _ h₄ t₄ k₄ c₄ e₄ => ?_
  dsimp only
  have F₄ := I.call F₃ k₄
  walk_at "bn"
  refine it_amount (s := s) F₄ cx (i.keeps F₄.keep) fun _ _ => ?_
  walk_at "bn"
  exact q _ _ (I.out F₄) c₄ e₄
/-- the sliding window's hit, when it lets -/
theorem sh_spec {cost : Int} {u1 : Tok} (rt : Rt w S c r) (kr : Sub r h₀) (am : Amb A 6) (hc : CtrAt w S h₀ σ n) (he : ExpAt w S h₀ ε n') (hn : n + 1 ≤ sizeLine) (hn' : n' + 1 ≤ sizeLine) (li : Lim w S r lm 335) (i : Itm r it amt per) (gi : GI amt per) (wh : Who r T) (wk : WK (keyOf amt per) per c) (ha : cost ≤ amt)
    {k1 k2 : Str} (ek1 : winKey (keyOf amt per) ((c - per) / per) = k1) (ek2 : winKey (keyOf amt per) (c / per) = k2) {σ₂ ε₂ : Str → Option Int} (eσ : gotS (gotS σ ε c k1) (gotE ε c k1) c k2 = σ₂) (eε : gotE (gotE ε c k1) c k2 = ε₂)
    (hlet : (gotS σ ε c k1 k1).getD 0 * (if (gotS σ ε c k1 k1).getD 0 = 0 then 0 else per - (c - per) % per) / per + (σ₂ k2).getD 0 + cost ≤ amt)
    (q : ∀ h' t', Keeps [S.C, S.E] h₀ h' → CtrAt w S h' (incS σ₂ ε₂ c k2 cost) (n + 1) → ExpAt w S h' (incE σ₂ ε₂ c k2 (2 * per)) (n' + 1) → R (.ok (.ret (.bool true))) (stt s h' t')) :
    codeAny (model prog w) A (.call (.ref 305) ⟨[.ref lm, .ref it, .ref T, .int cost u1], []⟩) R (stt s h₀ t₀) := by
  refine enterI [S.C, S.E] [(Str.ofString "self", .ref lm), (Str.ofString "item", .ref it), (Str.ofString "identifiers", .ref T), (Str.ofString "cost", .int cost u1)] am rt.cx kr (ex2 hc he) rt.nCE (k305 _) rfl (bindsK (rt.cx.X.keeps kr) fun _ => by kernel_rfl) (locs rfl) (by decide) rfl rfl rfl ?_
  intro g L h₁ I F k₁
  have cx := rt.cx.keeps I.kg
  have st := rt.st.keeps I.kg
  have li := li.keeps I.kg
  have i := i.keeps I.kg
  have wh := wh.keeps I.kg
  have c₁ := hc.keeps k₁ (by simp)
  have e₁ := he.keeps k₁ (by simp)
  refine wpAny_execs_cons ?_
  walk_at "bn"
  refine at_lst (s := s) F cx li (pg335 _ _) (hd335 _) (fs335 _) fun _ => ?_
  refine mt_store F cx st (f_acq _) (i_acq _) rfl ?_
  refine callWith_D (w := w) (kp_acq _) ?_
  walk_at "bn"
  refine ev_key (s := s) (am.deeper _) F cx i gi wh rfl rfl fun u₂ h₂ t₂ k₂ => ?_
  have F₂ := fr_all F k₂.all
  walk_at "bn"
  refine it_amount (s := s) F₂ cx (i.keeps F₂.keep) fun _ _ => ?_
  walk_at "bn"
  refine mt_item F₂ cx i (f_ixp _) (i_ixp _) ?_
  refine cw_exp (s := s) ((am.deeper _).mono (by decide)) F₂ cx i fun u₃ h₃ t₃ k₃ => ?_
  have F₃ := fr_all F₂ k₃.all
  walk_at "bn"
  refine ⟨Fr.cx F₃ cx, ?_⟩
  refine wpAny_call ?_
  refine acq_spec (s := s) rt (fun b o e => F₃.keep b o (I.kg b o e)) ((am.deeper _).mono (by decide)) ((c₁.keeps k₂ (by simp)).keeps k₃ (by simp)) ((e₁.keeps k₂ (by simp)).keeps k₃ (by simp)) hn hn' wk ha ek1 ek2 eσ eε hlet fun h₄ t₄ k₄ c₄ e₄ => ?_
  exact q _ _ (I.out (I.call F₃ k₄)) c₄ e₄
/-- the moving window's test -/
theorem mt_spec {cost : Int} {u1 : Tok} {ml : Option Addr} {ats : List Int} (rt : Rt w S c r) (kr : Sub r h₀) (am : Amb A 6) (hm : MvAt w S h₀ bad (keyOf amt per) ml ats) (ht : TabAt h₀ bad) (b921 : 921 ∈ bad) (bV : S.V ∈ bad) (nV : S.V ≠ 921) (hbad : ∀ a ∈ bad, ∃ o, h₀.get? a = some o) (hz : ats.length < 2 ^ 20) (li : Lim w S r lm 241) (i : Itm r it amt per) (gi : GI amt per) (wh : Who r T)
    (q : ∀ h' t', Keeps [921] h₀ h' → MvAt w S h' bad (keyOf amt per) ml ats → TabAt h' bad → R (.ok (.ret (.bool (decide (((if ats = [] then 0 else mvN c per ats : Nat) : Int) ≤ amt - cost))))) (stt s h' t')) :
    codeAny (model prog w) A (.call (.ref 229) ⟨[.ref lm, .ref it, .ref T, .int cost u1], []⟩) R (stt s h₀ t₀) := by
  refine enterI [921] [(Str.ofString "self", .ref lm), (Str.ofString "item", .ref it), (Str.ofString "identifiers", .ref T), (Str.ofString "cost", .int cost u1)] am rt.cx kr (by intro a ha; rw [List.mem_singleton.mp ha]; exact hbad _ b921) (by intro a ha; rw [List.mem_singleton.mp ha]; exact rt.nT) (k229 _) rfl (bindsK (rt.cx.X.keeps kr) fun _ => by kernel_rfl) (locs rfl) (by decide) rfl rfl rfl ?_
  intro g L h₁ I F k₁
  have cx := rt.cx.keeps I.kg
  have st := rt.st.keeps I.kg
  have li := li.keeps I.kg
  have i := i.keeps I.kg
  have wh := wh.keeps I.kg
  refine wpAny_execs_cons ?_
  walk_at "bn"
  refine at_lst (s := s) F cx li (pg241 _ _) (hd241 _) (fs241 _) fun _ => ?_
  refine mt_store F cx st (f_gmw _) (i_gmw _) rfl ?_
  refine callWith_D (w := w) (kp_gmw _) ?_
  walk_at "bn"
  refine ev_key (s := s) (am.deeper _) F cx i gi wh rfl rfl fun u₂ h₂ t₂ k₂ => ?_
  have F₂ := fr_all F k₂.all
  walk_at "bn"
  refine it_amount (s := s) F₂ cx (i.keeps F₂.keep) fun _ _ => ?_
  walk_at "bn"
  refine mt_item F₂ cx i (f_ixp _) (i_ixp _) ?_
  refine cw_exp (s := s) ((am.deeper _).mono (by decide)) F₂ cx i fun u₃ h₃ t₃ k₃ => ?_
  have F₃ := fr_all F₂ k₃.all
  walk_at "bn"
  refine ⟨Fr.cx F₃ cx, ?_⟩
  refine wpAny_call ?_
  have kk : Keeps [] h₀ h₃ := (k₁.trans k₂).trans k₃
  have m₃ := hm.keeps kk (fun _ z => nomatch z) (by simp)
  have t₃' := ht.keeps kk (fun _ z => nomatch z) (by simp)
  refine gmw_spec (s := s) rt (fun b o e => F₃.keep b o (I.kg b o e)) ((am.deeper _).mono (by decide)) m₃ t₃' b921 bV nV (fun a ha => let ⟨o, ho⟩ := hbad a ha; ⟨o, kk.all _ _ ho⟩) hz fun T' v1 v2 h₄ t₄ k₄ m₄ T₄ hT => ?_
  dsimp only
  have F₄ := I.call F₃ k₄
  walk_at "bn"
  refine tail_any (s := stt s h₄ _) (T := "tuple") ⟨_, hT.choose_spec.1, hT.choose_spec.2.1⟩ slot_tuple_getitem.lookup ?_ (by with_unfolding_all rfl)
  refine getItem_tuple (s := stt s h₄ _) (j := 1) (x := .int ((if ats = [] then 0 else mvN c per ats : Nat) : Int) v2) hT (by decide) (by decide) rfl rfl ?_
  walk_at "bn"
  refine it_amount (s := s) F₄ cx (i.keeps F₄.keep) fun _ _ => ?_
  walk_at "bn"
  exact q _ _ (I.out F₄) m₄ T₄
theorem f_wc (P : Params) : findIn (K P) (.ref 335) (Str.ofString "_weighted_count") = some (some (.ref 296)) := by kernel_rfl
theorem i_wc (P : Params) : isFn (K P) (.ref 296) = true := by kernel_rfl
theorem kp_wc (P : Params) : keepIn (K P) (.ref 296) = true := by kernel_rfl
theorem mt_wc {pl : Sem Bool} {Q : Value × List Value → Shared → Prop} (F : Fr g L s.heap m) (cx : Cx w g) (l : Lim w S g lm 335) (q : Q (.ref 296, [.ref lm]) s) : wpAny (model prog w) A (getMethod (.ref lm) (Str.ofString "_weighted_count") pl) Q E s := by
  obtain ⟨d, t, n, e, f⟩ := l.keeps F.keep
  exact method_inst F cx.X ⟨e, rfl, rfl, f⟩ (pg335 _ _) (f_wc _) (i_wc _) rfl q
/-- `_weighted_count` -/
theorem wc_spec {pc pe cc : Int} {u1 u2 u3 : Tok} (cx : Cx w h₀) (am : Amb A 5) (i : Itm h₀ it amt per) (h0 : 0 < per) (h1 : per < 100) (hpe : -1000000 < pe ∧ pe < 1000000)
    (q : ∀ u h' t', Keeps [] h₀ h' → R (.ok (.ret (.int (pc * pe / per + cc) u))) (stt s h' t')) :
    codeAny (model prog w) A (.call (.ref 296) ⟨[.ref lm, .ref it, .int pc u1, .int pe u2, .int cc u3], []⟩) R (stt s h₀ t₀) := by
  refine enterI [] [(Str.ofString "self", .ref lm), (Str.ofString "item", .ref it), (Str.ofString "previous_count", .int pc u1), (Str.ofString "previous_expires_in", .int pe u2), (Str.ofString "current_count", .int cc u3)] am cx (fun _ _ e => e) (fun _ z => nomatch z) (fun _ z => nomatch z) (k296 _) rfl (bindsK cx.X fun _ => by kernel_rfl) (locs rfl) (by decide) rfl rfl rfl ?_
  intro g L h₁ I F k₁
  have cx' := cx.keeps I.kg
  have i := i.keeps I.kg
  refine wpAny_execs_cons ?_
  walk_at "bn"
  refine b_mulR (s := s) hpe fun _ _ => ?_
  walk_at "bn"
  refine mt_item F cx' i (f_ixp _) (i_ixp _) ?_
  refine cw_exp (s := s) (am.deeper _) F cx' i fun u₃ h₃ t₃ k₃ => ?_
  have F₃ := fr_all F k₃.all
  refine b_div (s := s) h0 (by omega) fun _ _ => ?_
  walk_at "bn"
  exact q _ _ _ (I.out F₃)
/-- the sliding window's test -/
theorem st_spec {cost : Int} {u1 : Tok} (rt : Rt w S c r) (kr : Sub r h₀) (am : Amb A 7) (hc : CtrAt w S h₀ σ n) (he : ExpAt w S h₀ ε n') (hn : n ≤ sizeLine) (hn' : n' ≤ sizeLine) (li : Lim w S r lm 335) (i : Itm r it amt per) (gi : GI amt per) (wh : Who r T) (wk : WK (keyOf amt per) per c)
    {k1 k2 : Str} (ek1 : winKey (keyOf amt per) ((c - per) / per) = k1) (ek2 : winKey (keyOf amt per) (c / per) = k2)
    (q : ∀ h' t', Keeps [S.C, S.E] h₀ h' → CtrAt w S h' (gotS (gotS σ ε c k1) (gotE ε c k1) c k2) n → ExpAt w S h' (gotE (gotE ε c k1) c k2) n' →
      R (.ok (.ret (.bool (decide ((gotS σ ε c k1 k1).getD 0 * (if (gotS σ ε c k1 k1).getD 0 = 0 then 0 else per - (c - per) % per) / per + (gotS (gotS σ ε c k1) (gotE ε c k1) c k2 k2).getD 0 < amt - cost + 1))))) (stt s h' t')) :
    codeAny (model prog w) A (.call (.ref 314) ⟨[.ref lm, .ref it, .ref T, .int cost u1], []⟩) R (stt s h₀ t₀) := by
  have h0 := wk.h0
  have h1 := wk.h1
  have httl : ∀ x : Int, -1000000 < (if x = 0 then 0 else per - (c - per) % per) ∧ (if x = 0 then 0 else per - (c - per) % per) < 1000000 := by
    intro x
    have := Int.emod_nonneg (c - per) (show per ≠ 0 by omega)
    have := Int.emod_lt_of_pos (c - per) h0
    split <;> omega
  refine enterI [S.C, S.E] [(Str.ofString "self", .ref lm), (Str.ofString "item", .ref it), (Str.ofString "identifiers", .ref T), (Str.ofString "cost", .int cost u1)] am rt.cx kr (ex2 hc he) rt.nCE (k314 _) rfl (bindsK (rt.cx.X.keeps kr) fun _ => by kernel_rfl) (locs rfl) (by decide) rfl rfl rfl ?_
  intro g L h₁ I F k₁
  have cx := rt.cx.keeps I.kg
  have st := rt.st.keeps I.kg
  have li := li.keeps I.kg
  have i := i.keeps I.kg
  have wh := wh.keeps I.kg
  have c₁ := hc.keeps k₁ (by simp)
  have e₁ := he.keeps k₁ (by simp)
  have lC : S.C ∉ [L] := fun z => I.off S.C (by simp) (List.mem_singleton.mp z)
  have lE : S.E ∉ [L] := fun z => I.off S.E (by simp) (List.mem_singleton.mp z)
  refine wpAny_execs_cons ?_
  walk_at "bn"
  refine Assign_Tuple ?_
  walk_at "bn"
  refine at_lst (s := s) F cx li (pg335 _ _) (hd335 _) (fs335 _) fun _ => ?_
  refine mt_store F cx st (f_gsw _) (i_gsw _) rfl ?_
  refine callWith_D (w := w) (kp_gsw _) ?_
  walk_at "bn"
  refine ev_key (s := s) ((am.deeper _).mono (by decide)) F cx i gi wh rfl rfl fun u₂ h₂ t₂ k₂ => ?_
  have F₂ := fr_all F k₂.all
  walk_at "bn"
  refine mt_item F₂ cx i (f_ixp _) (i_ixp _) ?_
  refine cw_exp (s := s) ((am.deeper _).mono (by decide)) F₂ cx i fun u₃ h₃ t₃ k₃ => ?_
  have F₃ := fr_all F₂ k₃.all
  walk_at "bn"
  refine ⟨Fr.cx F₃ cx, ?_⟩
  refine wpAny_call ?_
  refine gsw_spec (s := s) rt (fun b o e => F₃.keep b o (I.kg b o e)) ((am.deeper _).mono (by decide)) ((c₁.keeps k₂ (by simp)).keeps k₃ (by simp)) ((e₁.keeps k₂ (by simp)).keeps k₃ (by simp)) hn hn' wk fun T₂ _ _ _ _ h₄ t₄ k₄ c₄ e₄ hT₂ => ?_
  rw [ek1, ek2] at hT₂ c₄ e₄
  dsimp only
  have F₄ := I.call F₃ k₄
  refine w_unpack (s := s) am.hd hT₂ fun h₁₀ k₁₀ => ?_
  have F₁₀ := fr_all F₄ k₁₀.all
  refine assignInOrder_cons ?_
  refine wpAny_assign_Name ?_
  refine s_loc (s := s) F₁₀ nilN fun h₁₁ t₁₁ F₁₁ _ k₁₁ => ?_
  refine assignInOrder_cons ?_
  refine wpAny_assign_Name ?_
  refine s_loc (s := s) F₁₁ nilN fun h₁₂ t₁₂ F₁₂ _ k₁₂ => ?_
  refine assignInOrder_cons ?_
  refine wpAny_assign_Name ?_
  refine s_loc (s := s) F₁₂ nilN fun h₁₃ t₁₃ F₁₃ _ k₁₃ => ?_
  refine assignInOrder_cons ?_
  refine wpAny_assign_Name ?_
  refine s_loc (s := s) F₁₃ nilN fun h₁₄ t₁₄ F₁₄ _ k₁₄ => ?_
  have c₁₄ := ((((c₄.keeps k₁₀ (by simp)).keeps k₁₁ lC).keeps k₁₂ lC).keeps k₁₃ lC).keeps k₁₄ lC
  have e₁₄ := ((((e₄.keeps k₁₀ (by simp)).keeps k₁₁ lE).keeps k₁₂ lE).keeps k₁₃ lE).keeps k₁₄ lE
  refine assignInOrder_nil ?_
  walk_at "bn"
  refine mt_wc F₁₄ cx li ?_
  refine callWith_D (w := w) (kp_wc _) ?_
  walk_at "bn"
  refine ⟨Fr.cx F₁₄ cx, ?_⟩
  refine wpAny_call ?_
  refine wc_spec (s := s) (cx.keeps F₁₄.keep) ((am.deeper _).mono (by decide)) (i.keeps F₁₄.keep) h0 h1 (httl _) fun _ h₁₅ t₁₅ k₁₅ => ?_
  have F₁₅ := fr_all F₁₄ k₁₅.all
  walk_at "bn"
  refine it_amount (s := s) F₁₅ cx (i.keeps F₁₅.keep) fun _ _ => ?_
  walk_at "bn"
  exact q _ _ (I.out F₁₅) (c₁₄.keeps k₁₅ (by simp)) (e₁₄.keeps k₁₅ (by simp))
end
end
section
set_option maxHeartbeats 4000000
theorem cl171 (P : Params) : specialIn (K P) (.ref 171) "__call__" = some (some (.builtin "type.__call__")) := by kernel_rfl
theorem tt171 (P : Params) : instIn (K P) (.ref 171) (.type "type") = some true := by kernel_rfl
theorem mro171 (P : Params) (S : Setting) : peek (K P) S (mroOf (.ref 171)) = some [.ref 171, .type "tuple", .type "object"] := by kernel_rfl
theorem mb171 (P : Params) (S : Setting) : peek (K P) S (Bind.madeBy (.ref 171)) = some none := by kernel_rfl
theorem sb171 (P : Params) (S : Setting) : peek (K P) S (Bind.madeHere "tuple.__new__" (.ref 171)) = some () := by kernel_rfl
theorem self171 (P : Params) : mroIn (K P) 171 (.ref 171) = some true := by kernel_rfl
theorem in171 (P : Params) : findIn (K P) (.ref 171) "__init__" = some (some (.builtin "object.__init__")) := by kernel_rfl
theorem fnew171 (P : Params) : findCls (K P) (.ref 171) (.type "type") "__new__" = some (.get (.builtin "staticmethod.__get__") (.ref 172) .none (.ref 171)) := by kernel_rfl
theorem rc172 (P : Params) : recIn (K P) 172 "staticmethod" = some [.ref 121] := by kernel_rfl
theorem ri171 (P : Params) : readsIn (K P) 171 (.type "type") = true := by kernel_rfl
theorem plain_tnew : plainId "tuple.__new__" = true := by decide +kernel
theorem ob171 (P : Params) : mroIn (K P) 171 (.type "object") = some true := by kernel_rfl
theorem oi_args3 (a b c : Value) : argsOk "object.__init__" ⟨[a, b, c], []⟩ := by unfold argsOk; kernel_rfl
theorem ck_tnew (P : Params) (S : Setting) (T : Addr) : peek (K P) S (checkBuiltinCall "tuple.__new__" ⟨[.ref 171, .ref T], []⟩) = some () := by kernel_rfl
theorem Amb.make {A : Around} {n : Nat} {C : Addr} {vals : List Value} (x : Amb A (n + 1)) : Amb (A.under (.builtin "type.__call__" ⟨.ref C :: vals, []⟩)) n :=
  ⟨x.hd, by have := x.dep; show A.depth + 1 + n < _; omega, by have := x.un; show A.units + 1 + 20 * n < _; omega⟩
/-- above all that lies here -/
def Fresh (h : Heap) (x : Addr) : Prop := ∀ b o, h.get? b = some o → b < x
theorem Fresh.old {h h' : Heap} {x : Addr} (f : Fresh h' x) (k : ∀ b o, h.get? b = some o → h'.get? b = some o) : Fresh h x := fun b o e => f b o (k b o e)
theorem Inn.fresh {as r h₀ g L h m} {x : Addr} (I : Inn as r h₀ g L) (F : Fr g L h m) (f : Fresh h x) : Fresh h₀ x := fun b o e => by
  obtain ⟨oL, _, _, hL, _⟩ := F.ns
  have h1 := F.above
  have h2 : g.objs.size = h₀.objs.size := by rw [I.hg, hideAll_size]
  have h3 := Heap.lt_size e
  exact Nat.lt_trans (Nat.lt_of_lt_of_le h3 (h2 ▸ h1)) (f _ _ hL)
section
variable {w : World} {A : Around} {E : Value → Shared → Prop} {s : Shared} {h : Heap} {t : Nat}
/-- tuple's own making, for WindowStats -/
theorem tnew171 {T : Addr} {its : Array Value} {n : Nat} {Q : Value → Shared → Prop} (X : (K w.params).In h) (ht : h.get? T = some ⟨.type "tuple", none, .seq its n, #[]⟩) (hz : its.size ≤ 100)
    (q : ∀ x d n h' t', Keeps [] h h' → Fresh h x → Fresh h d → h'.get? x = some ⟨.ref 171, some d, .seq its n, #[]⟩ → h'.get? d = some (dictOf [] 0) → Q (.ref x) (stt s h' t')) :
    wpAny (model prog w) A (call (.builtin "tuple.__new__") [.ref 171, .ref T]) Q E (stt s h t) := by
  refine wpAny_call ?_
  refine codeAny_call_builtin plain_tnew PySem.F.entry_tuple_new ?_
  refine (Looks.of_peek X (ck_tnew _ _ T)).at ?_
  unfold Builtin.«tuple.__new__»
  dsimp only
  refine wpAny_bind ((it171 X).at ?_)
  simp only [Bool.not_true, Bool.false_eq_true, if_false]
  refine wpAny_bind ((looks_mroIn X (g171 _)).at ?_)
  simp only [Bool.not_true, Bool.false_eq_true, if_false]
  refine wpAny_bind ((Looks.of_peek X (sb171 _ _)).at ?_)
  refine wpAny_bind ((looks_findIn X (in171 _)).at ?_)
  rw [if_pos (by decide +kernel)]
  refine wpAny_bind (m := noKeywords _ _) (wpAny_pure ?_)
  refine wpAny_bind (m := checkCount _ _ _ _) (wpAny_pure ?_)
  rw [if_neg (by decide +kernel)]
  refine wpAny_bind ?_
  refine wpAny_collect_seq (s := stt s h t) T (.inr rfl) ht rfl rfl (fun h' hk => ?_) (Nat.le_trans hz (by decide))
  refine wpAny_bind (wpAny_pure ?_)
  refine wpAny_bind (wpAny_alloc ?_)
  dsimp only
  refine wpAny_bind ?_
  rw [show its.toList.toArray = its by simp]
  have kA : ∀ b o, h.get? b = some o → (h'.push emptyDict).get? b = some o := fun b o e => Heap.get?_push_of_some _ (hk _ _ e)
  unfold newObj
  dsimp only
  rw [if_neg (Nat.not_lt.mpr (Nat.le_trans hz (by decide)))]
  try refine wpAny_bind (wpAny_pure ?_)
  unfold newObjAsIs classHasDel
  refine wpAny_bind (wpAny_alloc ?_)
  dsimp only
  refine wpAny_bind ?_
  refine wpAny_bind (wpAny_load (Heap.get?_push_of_some _ (kA _ _ (X _ _ (k171 _)))) (wpAny_pure ?_))
  dsimp only [o171]
  simp only [Bool.false_eq_true, if_false]
  refine wpAny_pure (wpAny_pure ?_)
  exact q _ _ _ _ _ (fun b o e _ => Heap.get?_push_of_some _ (kA _ _ e)) (fun b o e => Heap.lt_size (kA _ _ e)) (fun b o e => Heap.lt_size (hk _ _ e)) (Heap.get?_push_size _ rfl) (Heap.get?_push_of_some _ (Heap.get?_push_size _ rfl))
/-- WindowStats.__new__ -/
theorem wnew_spec {a b : Value} {R : Result → Shared → Prop} (am : Amb A 2) (cx : Cx w h)
    (q : ∀ x d n h' t', Keeps [] h h' → Fresh h x → Fresh h d → h'.get? x = some ⟨.ref 171, some d, .seq #[a, b] n, #[]⟩ → h'.get? d = some (dictOf [] 0) → R (.ok (.ret (.ref x))) (stt s h' t')) :
    codeAny (model prog w) A (.call (.ref 121) ⟨[.ref 171, a, b], []⟩) R (stt s h t) := by
  refine enterI [] [(Str.ofString "_cls", .ref 171), (Str.ofString "reset_time", a), (Str.ofString "remaining", b)] am cx (fun _ _ e => e) (fun _ z => nomatch z) (fun _ z => nomatch z) (k121 _) rfl (bindsK cx.X fun _ => by kernel_rfl) (locs rfl) (by decide) rfl rfl rfl ?_
  intro g L h₁ I F k₁
  have cx' := cx.keeps I.kg
  refine wpAny_execs_cons ?_
  walk_at "bn"
  refine nm_b F cx' (by kernel_rfl) Boot.«tuple» (by decide) ?_
  with_reducible refine mt_tuple (s := s) (Fr.cx F cx') (fc_tnew _) hi_tnew fun _ => ?_
  walk_at "bn"
  refine n_tuple (s := s) F nilN (by show (2 : Nat) ≤ sizeLine; decide) fun T h₂ F₂ N₂ k₂ _ => ?_
  walk_at "bn"
  refine tnew171 (s := s) (Fr.cx F₂ cx') (N₂.get (.head _)) (by show (2 : Nat) ≤ 100; decide) fun x d n h₃ t₃ k₃ fx fd e f => ?_
  exact q _ _ _ _ _ (I.out (fr_all F₂ k₃.all)) (I.fresh F₂ fx) (I.fresh F₂ fd) e f
/-- WindowStats(a, b) -/
theorem ws_make {a b : Value} {R : Result → Shared → Prop} (am : Amb A 3) (cx : Cx w h)
    (q : ∀ x d n h' t', Keeps [] h h' → Fresh h x → Fresh h d → h'.get? x = some ⟨.ref 171, some d, .seq #[a, b] n, #[]⟩ → h'.get? d = some (dictOf [] 0) → R (.ok (.ret (.ref x))) (stt s h' t')) :
    codeAny (model prog w) A (.call (.ref 171) ⟨[a, b], []⟩) R (stt s h t) := by
  have X := cx.X
  have call : Looks (model prog w) h (specialOf (.ref 171) "__call__") (some (.builtin "type.__call__")) := looks_specialIn X (cl171 _)
  have typ : Looks (model prog w) h (isInstance (.ref 171) (.type "type")) true := looks_instIn X (tt171 _)
  have hm : Looks (model prog w) h (mroOf (.ref 171)) [.ref 171, .type "tuple", .type "object"] := Looks.of_peek X (mro171 _ _)
  have mb : Looks (model prog w) h (Bind.madeBy (.ref 171)) none := Looks.of_peek X (mb171 _ _)
  refine codeAny_of_tree ?_
  show wpAny _ _ (callAny (.ref 171) _) _ _ _
  refine nd_load (X _ _ (k171 _)) ?_
  show wpAny _ _ (callAny.viaDunder (.ref 171) _) _ _ _
  unfold callAny.viaDunder
  refine wpAny_bind (call.at ?_)
  dsimp only
  rw [tc_bind]
  refine wpAny_bind (wpAny_pure (wpAny_bind (wpAny_pure ?_)))
  refine wpAny_pure (a := Fin.again (.call (.builtin "type.__call__") ⟨[.ref 171, a, b], []⟩)) (And.intro rfl ?_)
  refine codeAny_call_builtin_at (Code.quiet_builtin _ (by decide +kernel)) entry_typeCall (check_slot tc_kind tc_split typ (tc_args _ _ _) ?_)
  unfold Builtin.«type.__call__»
  dsimp only
  rw [if_neg (by decide +kernel)]
  refine wpAny_bind (hm.at ?_)
  simp only [List.isEmpty_cons, Bool.false_eq_true, if_false]
  refine wpAny_bind (mb.at ?_)
  dsimp only
  refine wpAny_bind ?_
  refine cls_bind (s := stt s h t) X (ri171 _) (fnew171 _) (wpAny_call (sm_get X (rc172 _) (handed_on rfl ?_)))
  refine wpAny_bind (wpAny_holding (wpAny_call ?_))
  refine wnew_spec (s := s) am.make (cx) fun x d n h' t' k fx fd e f => ?_
  dsimp only
  have X' := X.keeps k.all
  have t1 : Looks (model prog w) h' (typeOf (.ref x)) (.ref 171) := (Looks.ld e).andThen .now
  have i1 : Looks (model prog w) h' (isInstance (.ref x) (.ref 171)) true := t1.andThen (looks_mroIn X' (self171 _))
  have i2 : Looks (model prog w) h' (isInstance (.ref x) (.type "object")) true := t1.andThen (looks_mroIn X' (ob171 _))
  refine wpAny_bind (i1.at ?_)
  simp only [Bool.not_true, Bool.false_eq_true, if_false]
  refine wpAny_bind (wpAny_holding ?_)
  unfold callSpecial? specialOf
  refine wpAny_bind (wpAny_bind (t1.at ((looks_findIn X' (in171 _)).at ?_)))
  refine wpAny_holding ?_
  rw [oi_bind]
  refine wpAny_bind (wpAny_pure (wpAny_bind (wpAny_call ?_)))
  refine codeAny_call_builtin oi_plain entry_oi ?_
  refine check_slot (s := stt s h' t') oi_kind oi_split i2 (oi_args3 _ _ _) ?_
  unfold Builtin.«object.__init__»
  dsimp only
  try simp only [List.isEmpty_cons, Bool.not_false, Bool.true_or, if_true]
  refine wpAny_bind (t1.at ?_)
  refine wpAny_bind ((looks_findIn X' (in171 _)).at ?_)
  refine wpAny_bind ((Looks.of_peek X' (mb171 _ _)).at ?_)
  rw [if_neg (by decide +kernel), if_neg (by decide +kernel)]
  refine wpAny_pure ?_
  have z := q x d n h' t' k fx fd e f
  dsimp only
  first
    | exact wpAny_pure (wpAny_pure z)
    | exact wpAny_pure (wpAny_pure (wpAny_pure z))
    | exact wpAny_pure z
    | (refine wpAny_pure ?_; dsimp only; rw [if_neg (by decide +kernel)]; exact wpAny_pure z)
/-- a row of stats -/
def Ws (h : Heap) (x : Addr) (a b : Value) : Prop := ∃ d n, h.get? x = some ⟨.ref 171, some d, .seq #[a, b] n, #[]⟩ ∧ h.get? d = some (dictOf [] 0)
/-- a new one -/
def WsN (h₀ h : Heap) (x : Addr) (a b : Value) : Prop := ∃ d n, h.get? x = some ⟨.ref 171, some d, .seq #[a, b] n, #[]⟩ ∧ h.get? d = some (dictOf [] 0) ∧ Fresh h₀ x ∧ Fresh h₀ d
/-- one out of harm's way -/
def WsO (bad : List Addr) (h : Heap) (x : Addr) (a b : Value) : Prop := ∃ d n, h.get? x = some ⟨.ref 171, some d, .seq #[a, b] n, #[]⟩ ∧ h.get? d = some (dictOf [] 0) ∧ x ∉ bad ∧ d ∉ bad
theorem Fresh.off {h : Heap} {x : Addr} {bad : List Addr} (f : Fresh h x) (hb : ∀ a ∈ bad, ∃ o, h.get? a = some o) : x ∉ bad := fun z => let ⟨_, e⟩ := hb _ z; Nat.lt_irrefl _ (f _ _ e)
theorem WsN.off {h₀ h : Heap} {x : Addr} {a b : Value} {bad : List Addr} (y : WsN h₀ h x a b) (hb : ∀ a ∈ bad, ∃ o, h₀.get? a = some o) : WsO bad h x a b := let ⟨d, n, e, f, fx, fd⟩ := y; ⟨d, n, e, f, fx.off hb, fd.off hb⟩
theorem WsO.ws {bad : List Addr} {h : Heap} {x : Addr} {a b : Value} (y : WsO bad h x a b) : Ws h x a b := let ⟨d, n, e, f, _⟩ := y; ⟨d, n, e, f⟩
theorem WsO.keeps {bad as : List Addr} {h h' : Heap} {x : Addr} {a b : Value} (y : WsO bad h x a b) (k : Keeps as h h') (sub : ∀ a ∈ as, a ∈ bad) : WsO bad h' x a b := let ⟨d, n, e, f, nx, nd⟩ := y; ⟨d, n, k _ _ e fun z => nx (sub _ z), k _ _ f fun z => nd (sub _ z), nx, nd⟩
theorem WsO.less {bad bad' : List Addr} {h : Heap} {x : Addr} {a b : Value} (y : WsO bad' h x a b) (sub : ∀ a ∈ bad, a ∈ bad') : WsO bad h x a b := let ⟨d, n, e, f, nx, nd⟩ := y; ⟨d, n, e, f, fun z => nx (sub _ z), fun z => nd (sub _ z)⟩
theorem Ws.keeps {h h' : Heap} {x : Addr} {a b : Value} (y : Ws h x a b) (k : ∀ b o, h.get? b = some o → h'.get? b = some o) : Ws h' x a b := let ⟨d, n, e, f⟩ := y; ⟨d, n, k _ _ e, k _ _ f⟩
theorem fo_rt (P : Params) : findObj (K P) 171 (some (dictOf [] 0)) (Str.ofString "reset_time") = some (.bind (.ref 82) (.ref 163)) := by kernel_rfl
theorem fo_rm (P : Params) : findObj (K P) 171 (some (dictOf [] 0)) (Str.ofString "remaining") = some (.bind (.ref 82) (.ref 166)) := by kernel_rfl
theorem ws_reset {x : Addr} {a b : Value} {ex : Bool} {Q : Value → Shared → Prop} (am : Amb A 2) (cx : Cx w h) (y : Ws h x a b) (hh : handedIn a = true) (q : ∀ h' t', Keeps [] h h' → Q a (stt s h' t')) : wpAny (model prog w) A (getAttr (.ref x) (Str.ofString "reset_time") ex) Q E (stt s h t) := by
  obtain ⟨d, n, e, f⟩ := y
  refine get_bindT (s := stt s h t) (od := some (dictOf [] 0)) cx.X ⟨e, rfl, rfl, f⟩ (ga171 _) (g171 _) (fo_rt _) (gt171 _) ?_
  refine wpAny_call ?_
  refine get_str (s := s) cx am.in1 e rfl rfl (g171 _) (fun _ X => it171 X) ⟨cx.X _ _ (k163 _), rfl, rfl, cx.X _ _ (k162 _)⟩ rfl (by decide) (by decide) rfl fun h' t' k => ?_
  exact handed_on hh (q _ _ k)
theorem ws_remaining {x : Addr} {a b : Value} {ex : Bool} {Q : Value → Shared → Prop} (am : Amb A 2) (cx : Cx w h) (y : Ws h x a b) (hh : handedIn b = true) (q : ∀ h' t', Keeps [] h h' → Q b (stt s h' t')) : wpAny (model prog w) A (getAttr (.ref x) (Str.ofString "remaining") ex) Q E (stt s h t) := by
  obtain ⟨d, n, e, f⟩ := y
  refine get_bindT (s := stt s h t) (od := some (dictOf [] 0)) cx.X ⟨e, rfl, rfl, f⟩ (ga171 _) (g171 _) (fo_rm _) (gt171 _) ?_
  refine wpAny_call ?_
  refine get_str (s := s) cx am.in1 e rfl rfl (g171 _) (fun _ X => it171 X) ⟨cx.X _ _ (k166 _), rfl, rfl, cx.X _ _ (k165 _)⟩ rfl (by decide) (by decide) rfl fun h' t' k => ?_
  exact handed_on hh (q _ _ k)
end
end
section
set_option maxHeartbeats 4000000
theorem gn_ws (P : Params) : nsIn (K P) mainGlobals (Str.ofString "WindowStats") = some (some (.ref 171)) := by kernel_rfl
theorem kp_ws (P : Params) : keepIn (K P) (.ref 171) = true := by kernel_rfl
section
variable {w : World} {A : Around} {E : Value → Shared → Prop} {s : Shared} {h₀ h : Heap} {t₀ t : Nat} {S : SA} {r g : Heap} {L : Addr} {m : Str → Option Value} {c : Int} {R : Result → Shared → Prop} {bad : List Addr} {it T lm C : Addr} {amt per : Int} {σ ε : Str → Option Int} {n n' : Nat}
theorem w_max {a b : Int} {u v : Tok} {Q : Value → Shared → Prop} (hh : A.handled = none) (q : ∀ u h' t', Keeps [] h h' → Q (.int (max a b) u) (stt s h' t')) : wpAny (model prog w) A (call (.builtin "max") [.int a u, .int b v]) Q E (stt s h t) := by
  refine max_two_ints (s := stt s h t) hh fun h' tk k => ?_
  by_cases hb : b > a
  · rw [if_pos hb]
    have z := q v h' tk (fun b o e _ => k b o e)
    rwa [show max a b = b by omega] at z
  · rw [if_neg hb]
    have z := q u h' tk (fun b o e _ => k b o e)
    rwa [show max a b = a by omega] at z
theorem w_min {a b : Int} {u v : Tok} {Q : Value → Shared → Prop} (hh : A.handled = none) (q : ∀ u h' t', Keeps [] h h' → Q (.int (min a b) u) (stt s h' t')) : wpAny (model prog w) A (call (.builtin "min") [.int a u, .int b v]) Q E (stt s h t) := by
  refine min_two_ints (s := stt s h t) hh fun h' tk k => ?_
  by_cases hb : b < a
  · rw [if_pos hb]
    have z := q v h' tk (fun b o e _ => k b o e)
    rwa [show min a b = b by omega] at z
  · rw [if_neg hb]
    have z := q u h' tk (fun b o e _ => k b o e)
    rwa [show min a b = a by omega] at z
/-- the fixed window's stats -/
theorem fs_spec (rt : Rt w S c r) (kr : Sub r h₀) (am : Amb A 6) (hc : CtrAt w S h₀ σ n) (he : ExpAt w S h₀ ε n') (hn : n ≤ sizeLine) (hn' : n' ≤ sizeLine) (li : Lim w S r lm 280) (i : Itm r it amt per) (gi : GI amt per) (wh : Who r T)
    (q : ∀ x u v h' t', Keeps [S.C, S.E] h₀ h' → CtrAt w S h' (gotS σ ε c (keyOf amt per)) n → ExpAt w S h' (gotE ε c (keyOf amt per)) n' →
      WsN h₀ h' x (.int ((gotE ε c (keyOf amt per) (keyOf amt per)).getD c) u) (.int (max 0 (amt - (gotS σ ε c (keyOf amt per) (keyOf amt per)).getD 0)) v) → R (.ok (.ret (.ref x))) (stt s h' t')) :
    codeAny (model prog w) A (.call (.ref 277) ⟨[.ref lm, .ref it, .ref T], []⟩) R (stt s h₀ t₀) := by
  refine enterI [S.C, S.E] [(Str.ofString "self", .ref lm), (Str.ofString "item", .ref it), (Str.ofString "identifiers", .ref T)] am rt.cx kr (ex2 hc he) rt.nCE (k277 _) rfl (bindsK (rt.cx.X.keeps kr) fun _ => by kernel_rfl) (locs rfl) (by decide) rfl rfl rfl ?_
  intro g L h₁ I F k₁
  have cx := rt.cx.keeps I.kg
  have st := rt.st.keeps I.kg
  have li := li.keeps I.kg
  have i := i.keeps I.kg
  have wh := wh.keeps I.kg
  have c₁ := hc.keeps k₁ (by simp)
  have e₁ := he.keeps k₁ (by simp)
  have lC : S.C ∉ [L] := fun z => I.off S.C (by simp) (List.mem_singleton.mp z)
  have lE : S.E ∉ [L] := fun z => I.off S.E (by simp) (List.mem_singleton.mp z)
  refine wpAny_execs_cons ?_
  walk_at "bn"
  refine nm_b F cx (by kernel_rfl) Boot.«max» (by decide) ?_
  walk_at "bn"
  refine it_amount (s := s) F cx (i.keeps F.keep) fun _ _ => ?_
  walk_at "bn"
  refine at_lst (s := s) F cx li (pg280 _ _) (hd280 _) (fs280 _) fun _ => ?_
  refine mt_store F cx st (f_get _) (i_get _) rfl ?_
  refine callWith_D (w := w) (kp_get _) ?_
  walk_at "bn"
  refine ev_key (s := s) (am.deeper _) F cx i gi wh rfl rfl fun u₂ h₂ t₂ k₂ => ?_
  have F₂ := fr_all F k₂.all
  walk_at "bn"
  refine ⟨Fr.cx F₂ cx, ?_⟩
  refine call_get (s := s) rt (fun b o e => F₂.keep b o (I.kg b o e)) ((am.deeper _).mono (by decide)) (c₁.keeps k₂ (by simp)) (e₁.keeps k₂ (by simp)) hn hn' fun v₁ h₃ t₃ k₃ c₃ e₃ => ?_
  have F₃ := I.call F₂ k₃
  walk_at "bn"
  refine w_max (s := s) am.hd fun _ h₄ t₄ k₄ => ?_
  have F₄ := fr_all F₃ k₄.all
  refine s_loc (s := s) F₄ nilN fun h₅ t₅ F₅ _ k₅ => ?_
  have c₅ := (c₃.keeps k₄ (by simp)).keeps k₅ lC
  have e₅ := (e₃.keeps k₄ (by simp)).keeps k₅ lE
  walk_at "bn"
  refine at_lst (s := s) F₅ cx li (pg280 _ _) (hd280 _) (fs280 _) fun _ => ?_
  refine mt_store F₅ cx st (f_gex _) (i_gex _) rfl ?_
  refine callWith_D (w := w) (kp_gex _) ?_
  walk_at "bn"
  refine ev_key (s := s) (am.deeper _) F₅ cx i gi wh rfl rfl fun u₆ h₆ t₆ k₆ => ?_
  have F₆ := fr_all F₅ k₆.all
  walk_at "bn"
  refine ⟨Fr.cx F₆ cx, ?_⟩
  refine wpAny_call ?_
  refine gexp_spec (s := s) rt (fun b o e => F₆.keep b o (I.kg b o e)) ((am.deeper _).mono (by decide)) (e₅.keeps k₆ (by simp)) fun _ h₇ t₇ k₇ e₇ => ?_
  dsimp only
  have F₇ := I.call F₆ k₇
  have c₇ := (c₅.keeps k₆ (by simp)).keeps k₇ (by simpa using rt.dCE)
  refine s_loc (s := s) F₇ nilN fun h₈ t₈ F₈ _ k₈ => ?_
  walk_at "bn"
  refine nm_g F₈ cx (gn_ws _) ?_
  refine callWith_D (w := w) (kp_ws _) ?_
  walk_at "bn"
  refine ⟨Fr.cx F₈ cx, ?_⟩
  refine wpAny_call ?_
  refine ws_make (s := s) ((am.deeper _).mono (by decide)) (cx.keeps F₈.keep) fun x d n h₉ t₉ k₉ fx fd ex ed => ?_
  exact q _ _ _ _ _ (I.out (fr_all F₈ k₉.all)) ((c₇.keeps k₈ lC).keeps k₉ (by simp)) ((e₇.keeps k₈ lE).keeps k₉ (by simp)) ⟨d, n, ex, ed, I.fresh F₈ fx, I.fresh F₈ fd⟩
end
end
section
set_option maxHeartbeats 4000000
section
variable {w : World} {A : Around} {E : Value → Shared → Prop} {s : Shared} {h₀ h : Heap} {t₀ t : Nat} {S : SA} {r g : Heap} {L : Addr} {m : Str → Option Value} {c : Int} {R : Result → Shared → Prop} {bad : List Addr} {it T lm C : Addr} {amt per : Int} {σ ε : Str → Option Int} {n n' : Nat}
theorem TabAt.loc {h h' : Heap} (F : Fr g L h m) (x : TabAt h bad) (k : Keeps [L] h h') (l9 : L ≠ 921) : TabAt h' bad := by
  have n9 : (921 : Addr) ∉ [L] := fun z => l9 (List.mem_singleton.mp z).symm
  rcases x with a | ⟨c', a, b, cr⟩
  · exact .inl (k _ _ a n9)
  · refine .inr ⟨c', k _ _ a n9, b, codeRec_keeps cr k fun z => ?_⟩
    rw [List.mem_singleton.mp z] at cr
    obtain ⟨c, oc, vs, tq, e, e1, e2, _⟩ := cr
    cases e
    obtain ⟨oL, es, ep, e3, e4, _⟩ := F.ns
    rw [e1] at e3
    cases e3
    rw [e2] at e4
    cases e4
/-- the moving window's stats -/
theorem ms_spec {ml : Option Addr} {ats : List Int} (rt : Rt w S c r) (kr : Sub r h₀) (am : Amb A 6) (hm : MvAt w S h₀ bad (keyOf amt per) ml ats) (ht : TabAt h₀ bad) (b921 : 921 ∈ bad) (bV : S.V ∈ bad) (nV : S.V ≠ 921) (hbad : ∀ a ∈ bad, ∃ o, h₀.get? a = some o) (hz : ats.length < 2 ^ 20) (li : Lim w S r lm 241) (i : Itm r it amt per) (gi : GI amt per) (wh : Who r T)
    (q : ∀ x u v h' t', Keeps [921] h₀ h' → MvAt w S h' bad (keyOf amt per) ml ats → TabAt h' bad → WsN h₀ h' x (.int (mvS c per ats + per) u) (.int (amt - ((if ats = [] then 0 else mvN c per ats : Nat) : Int)) v) → R (.ok (.ret (.ref x))) (stt s h' t')) :
    codeAny (model prog w) A (.call (.ref 238) ⟨[.ref lm, .ref it, .ref T], []⟩) R (stt s h₀ t₀) := by
  refine enterI [921] [(Str.ofString "self", .ref lm), (Str.ofString "item", .ref it), (Str.ofString "identifiers", .ref T)] am rt.cx kr (by intro a ha; rw [List.mem_singleton.mp ha]; exact hbad _ b921) (by intro a ha; rw [List.mem_singleton.mp ha]; exact rt.nT) (k238 _) rfl (bindsK (rt.cx.X.keeps kr) fun _ => by kernel_rfl) (locs rfl) (by decide) rfl rfl rfl ?_
  intro g L h₁ I F k₁
  have cx := rt.cx.keeps I.kg
  have st := rt.st.keeps I.kg
  have li := li.keeps I.kg
  have i := i.keeps I.kg
  have wh := wh.keeps I.kg
  have mg : MvAt w S g bad (keyOf amt per) ml ats := hm.keeps (as := [921]) (fun b o e n => I.hg ▸ hideAll_get _ e n) (by intro a ha; rw [List.mem_singleton.mp ha]; exact b921) (by simpa using nV)
  have mk : ∀ h' m', Fr g L h' m' → MvAt w S h' bad (keyOf amt per) ml ats := fun h' m' F => mg.keeps (as := []) (fun b o e _ => F.keep b o e) (fun _ z => nomatch z) (by simp)
  have l9 : L ≠ 921 := fun z => I.off 921 (by simp) z.symm
  refine wpAny_execs_cons ?_
  walk_at "bn"
  refine Assign_Tuple ?_
  walk_at "bn"
  refine at_lst (s := s) F cx li (pg241 _ _) (hd241 _) (fs241 _) fun _ => ?_
  refine mt_store F cx st (f_gmw _) (i_gmw _) rfl ?_
  refine callWith_D (w := w) (kp_gmw _) ?_
  walk_at "bn"
  refine ev_key (s := s) (am.deeper _) F cx i gi wh rfl rfl fun u₂ h₂ t₂ k₂ => ?_
  have F₂ := fr_all F k₂.all
  walk_at "bn"
  refine it_amount (s := s) F₂ cx (i.keeps F₂.keep) fun _ _ => ?_
  walk_at "bn"
  refine mt_item F₂ cx i (f_ixp _) (i_ixp _) ?_
  refine cw_exp (s := s) ((am.deeper _).mono (by decide)) F₂ cx i fun u₃ h₃ t₃ k₃ => ?_
  have F₃ := fr_all F₂ k₃.all
  walk_at "bn"
  refine ⟨Fr.cx F₃ cx, ?_⟩
  refine wpAny_call ?_
  have kk : Keeps [] h₀ h₃ := (k₁.trans k₂).trans k₃
  refine gmw_spec (s := s) rt (fun b o e => F₃.keep b o (I.kg b o e)) ((am.deeper _).mono (by decide)) (hm.keeps kk (fun _ z => nomatch z) (by simp)) (ht.keeps kk (fun _ z => nomatch z) (by simp)) b921 bV nV (fun a ha => let ⟨o, ho⟩ := hbad a ha; ⟨o, kk.all _ _ ho⟩) hz fun T' v1 v2 h₄ t₄ k₄ m₄ T₄ hT => ?_
  dsimp only
  have F₄ := I.call F₃ k₄
  refine w_unpack (s := s) am.hd hT fun h₅ k₅ => ?_
  have F₅ := fr_all F₄ k₅.all
  refine assignInOrder_cons ?_
  refine wpAny_assign_Name ?_
  refine s_loc (s := s) F₅ nilN fun h₆ t₆ F₆ _ k₆ => ?_
  refine assignInOrder_cons ?_
  refine wpAny_assign_Name ?_
  refine s_loc (s := s) F₆ nilN fun h₇ t₇ F₇ _ k₇ => ?_
  refine assignInOrder_nil ?_
  walk_at "bn"
  refine mt_item F₇ cx i (f_ixp _) (i_ixp _) ?_
  refine cw_exp (s := s) ((am.deeper _).mono (by decide)) F₇ cx i fun u₈ h₈ t₈ k₈ => ?_
  have F₈ := fr_all F₇ k₈.all
  walk_at "bn"
  refine s_loc (s := s) F₈ nilN fun h₉ t₉ F₉ _ k₉ => ?_
  walk_at "bn"
  refine nm_g F₉ cx (gn_ws _) ?_
  refine callWith_D (w := w) (kp_ws _) ?_
  walk_at "bn"
  refine it_amount (s := s) F₉ cx (i.keeps F₉.keep) fun _ _ => ?_
  walk_at "bn"
  refine ⟨Fr.cx F₉ cx, ?_⟩
  refine wpAny_call ?_
  refine ws_make (s := s) ((am.deeper _).mono (by decide)) (cx.keeps F₉.keep) fun x d n h₁₀ t₁₀ k₁₀ fx fd ex ed => ?_
  have F₁₀ := fr_all F₉ k₁₀.all
  exact q _ _ _ _ _ (I.out F₁₀) (mk _ _ F₁₀) (((TabAt.loc F₈ ((TabAt.loc F₆ (TabAt.loc F₅ (T₄.keeps k₅ (fun _ z => nomatch z) (by simp)) k₆ l9) k₇ l9).keeps k₈ (fun _ z => nomatch z) (by simp)) k₉ l9)).keeps k₁₀ (fun _ z => nomatch z) (by simp)) ⟨d, n, ex, ed, I.fresh F₉ fx, I.fresh F₉ fd⟩
end
end
section
set_option maxHeartbeats 4000000
section
variable {w : World} {A : Around} {E : Value → Shared → Prop} {s : Shared} {h₀ h : Heap} {t₀ t : Nat} {S : SA} {r g : Heap} {L : Addr} {m : Str → Option Value} {c : Int} {R : Result → Shared → Prop} {bad : List Addr} {it T lm C : Addr} {amt per : Int} {σ ε : Str → Option Int} {n n' : Nat}
/-- the told reset of a sliding limit, as a broken number -/
def ssNum (c per pc pe cc ce : Int) : Int := if pc = 0 then (if cc = 0 then c else c + ce % per) else c * pc + (if cc = 0 then pe * pc % per else min (pe * pc % per) (ce % per * pc))
def ssDen (pc : Int) : Int := if pc = 0 then 1 else pc
/-- the sliding window's stats -/
theorem ss_spec (rt : Rt w S c r) (kr : Sub r h₀) (am : Amb A 7) (hc : CtrAt w S h₀ σ n) (he : ExpAt w S h₀ ε n') (hn : n ≤ sizeLine) (hn' : n' ≤ sizeLine) (li : Lim w S r lm 335) (i : Itm r it amt per) (gi : GI amt per) (wh : Who r T) (wk : WK (keyOf amt per) per c)
    {k1 k2 : Str} (ek1 : winKey (keyOf amt per) ((c - per) / per) = k1) (ek2 : winKey (keyOf amt per) (c / per) = k2)
    {pc pe cc : Int} (epc : (gotS σ ε c k1 k1).getD 0 = pc) (epe : (if pc = 0 then 0 else per - (c - per) % per) = pe) (ecc : (gotS (gotS σ ε c k1) (gotE ε c k1) c k2 k2).getD 0 = cc) (hpc : 0 ≤ pc ∧ pc < 1000000)
    (q : ∀ x P u1 u2 v h' t', Keeps [S.C, S.E] h₀ h' → CtrAt w S h' (gotS (gotS σ ε c k1) (gotE ε c k1) c k2) n → ExpAt w S h' (gotE (gotE ε c k1) c k2) n' →
      IsTup h' P #[.int (ssNum c per pc pe cc (per - c % per + per)) u1, .int (ssDen pc) u2] → Fresh h₀ P → WsN h₀ h' x (.ref P) (.int (max 0 (amt - (pc * pe / per + cc))) v) → R (.ok (.ret (.ref x))) (stt s h' t')) :
    codeAny (model prog w) A (.call (.ref 323) ⟨[.ref lm, .ref it, .ref T], []⟩) R (stt s h₀ t₀) := by
  have h0 := wk.h0
  have h1 := wk.h1
  have httl : ∀ x : Int, -1000000 < (if x = 0 then 0 else per - (c - per) % per) ∧ (if x = 0 then 0 else per - (c - per) % per) < 1000000 := by
    intro x
    have := Int.emod_nonneg (c - per) (show per ≠ 0 by omega)
    have := Int.emod_lt_of_pos (c - per) h0
    split <;> omega
  refine enterI [S.C, S.E] [(Str.ofString "self", .ref lm), (Str.ofString "item", .ref it), (Str.ofString "identifiers", .ref T)] am rt.cx kr (ex2 hc he) rt.nCE (k323 _) rfl (bindsK (rt.cx.X.keeps kr) fun _ => by kernel_rfl) (locs rfl) (by decide) rfl rfl rfl ?_
  intro g L h₁ I F k₁
  have cx := rt.cx.keeps I.kg
  have st := rt.st.keeps I.kg
  have li := li.keeps I.kg
  have i := i.keeps I.kg
  have wh := wh.keeps I.kg
  have c₁ := hc.keeps k₁ (by simp)
  have e₁ := he.keeps k₁ (by simp)
  have lC : S.C ∉ [L] := fun z => I.off S.C (by simp) (List.mem_singleton.mp z)
  have lE : S.E ∉ [L] := fun z => I.off S.E (by simp) (List.mem_singleton.mp z)
  refine wpAny_execs_cons ?_
  walk_at "bn"
  refine Assign_Tuple ?_
  walk_at "bn"
  refine at_lst (s := s) F cx li (pg335 _ _) (hd335 _) (fs335 _) fun _ => ?_
  refine mt_store F cx st (f_gsw _) (i_gsw _) rfl ?_
  refine callWith_D (w := w) (kp_gsw _) ?_
  walk_at "bn"
  refine ev_key (s := s) ((am.deeper _).mono (by decide)) F cx i gi wh rfl rfl fun u₂ h₂ t₂ k₂ => ?_
  have F₂ := fr_all F k₂.all
  walk_at "bn"
  refine mt_item F₂ cx i (f_ixp _) (i_ixp _) ?_
  refine cw_exp (s := s) ((am.deeper _).mono (by decide)) F₂ cx i fun u₃ h₃ t₃ k₃ => ?_
  have F₃ := fr_all F₂ k₃.all
  walk_at "bn"
  refine ⟨Fr.cx F₃ cx, ?_⟩
  refine wpAny_call ?_
  refine gsw_spec (s := s) rt (fun b o e => F₃.keep b o (I.kg b o e)) ((am.deeper _).mono (by decide)) ((c₁.keeps k₂ (by simp)).keeps k₃ (by simp)) ((e₁.keeps k₂ (by simp)).keeps k₃ (by simp)) hn hn' wk fun T₂ _ _ _ _ h₄ t₄ k₄ c₄ e₄ hT₂ => ?_
  rw [ek1, ek2] at hT₂ c₄ e₄
  rw [epc, epe, ecc] at hT₂
  dsimp only
  have F₄ := I.call F₃ k₄
  refine w_unpack (s := s) am.hd hT₂ fun h₁₀ k₁₀ => ?_
  have F₁₀ := fr_all F₄ k₁₀.all
  refine assignInOrder_cons ?_
  refine wpAny_assign_Name ?_
  refine s_loc (s := s) F₁₀ nilN fun h₁₁ t₁₁ F₁₁ _ k₁₁ => ?_
  refine assignInOrder_cons ?_
  refine wpAny_assign_Name ?_
  refine s_loc (s := s) F₁₁ nilN fun h₁₂ t₁₂ F₁₂ _ k₁₂ => ?_
  refine assignInOrder_cons ?_
  refine wpAny_assign_Name ?_
  refine s_loc (s := s) F₁₂ nilN fun h₁₃ t₁₃ F₁₃ _ k₁₃ => ?_
  refine assignInOrder_cons ?_
  refine wpAny_assign_Name ?_
  refine s_loc (s := s) F₁₃ nilN fun h₁₄ t₁₄ F₁₄ _ k₁₄ => ?_
  have c₁₄ := ((((c₄.keeps k₁₀ (by simp)).keeps k₁₁ lC).keeps k₁₂ lC).keeps k₁₃ lC).keeps k₁₄ lC
  have e₁₄ := ((((e₄.keeps k₁₀ (by simp)).keeps k₁₁ lE).keeps k₁₂ lE).keeps k₁₃ lE).keeps k₁₄ lE
  refine assignInOrder_nil ?_
  walk_at "bn"
  refine nm_b F₁₄ cx (by kernel_rfl) Boot.«max» (by decide) ?_
  walk_at "bn"
  refine it_amount (s := s) F₁₄ cx (i.keeps F₁₄.keep) fun _ _ => ?_
  walk_at "bn"
  refine mt_wc F₁₄ cx li ?_
  refine callWith_D (w := w) (kp_wc _) ?_
  walk_at "bn"
  refine ⟨Fr.cx F₁₄ cx, ?_⟩
  refine wpAny_call ?_
  refine wc_spec (s := s) (cx.keeps F₁₄.keep) ((am.deeper _).mono (by decide)) (i.keeps F₁₄.keep) h0 h1 (by rw [← epe]; exact httl _) fun _ h₁₅ t₁₅ k₁₅ => ?_
  have F₁₅ := fr_all F₁₄ k₁₅.all
  walk_at "bn"
  refine w_max (s := s) am.hd fun _ h₁₆ t₁₆ k₁₆ => ?_
  have F₁₆ := fr_all F₁₅ k₁₆.all
  refine s_loc (s := s) F₁₆ nilN fun h₁₇ t₁₇ F₁₇ _ k₁₇ => ?_
  walk_at "bn"
  refine at_lst (s := s) F₁₇ cx li (pg335 _ _) (hd335 _) (fs335 _) fun _ => ?_
  refine mt_clock (s := s) F₁₇ cx st fun _ => ?_
  refine callWith_F0 ⟨_, _, _, _, (st.keeps F₁₇.keep).lam⟩ ?_
  refine call_lam (s := s) (n := 0) ((am.deeper _).mono (by decide)) (cx.keeps F₁₇.keep).nolimit (st.keeps F₁₇.keep) fun _ h₁₈ _ k₁₈ => ?_
  have F₁₈ := fr_all F₁₇ k₁₈.all
  refine s_loc (s := s) F₁₈ nilN fun h₁₉ t₁₉ F₁₉ _ k₁₉ => ?_
  have c₁₉ := ((((c₁₄.keeps k₁₅ (by simp)).keeps k₁₆ (by simp)).keeps k₁₇ lC).keeps k₁₈ (by simp)).keeps k₁₉ lC
  have e₁₉ := ((((e₁₄.keeps k₁₅ (by simp)).keeps k₁₆ (by simp)).keeps k₁₇ lE).keeps k₁₈ (by simp)).keeps k₁₉ lE
  walk_at "bn"
  by_cases hp : pc = 0
  · rw [if_neg (by simp [hp])]
    walk_at "bn"
    by_cases hz : cc = 0
    · rw [if_neg (by simp [hz])]
      walk_at "bn"
      rw [if_pos (by decide)]
      walk_at "bn"
      refine nm_g F₁₉ cx (gn_ws _) ?_
      refine callWith_D (w := w) (kp_ws _) ?_
      walk_at "bn"
      refine n_tuple (s := s) F₁₉ nilN (by show (2 : Nat) ≤ sizeLine; decide) fun P h₂₀ F₂₀ N₂₀ k₂₀ lP => ?_
      walk_at "bn"
      refine ⟨Fr.cx F₂₀ cx, ?_⟩
      refine wpAny_call ?_
      refine ws_make (s := s) ((am.deeper _).mono (by decide)) (cx.keeps F₂₀.keep) fun x d n h₂₁ t₂₁ k₂₁ fx fd ex ed => ?_
      have F₂₁ := fr_all F₂₀ k₂₁.all
      have z := q x P
      rw [ssNum, ssDen, if_pos hp, if_pos hp, if_pos hz] at z
      exact z _ _ _ _ _ (I.out F₂₁) ((c₁₉.keeps k₂₀ (by simp)).keeps k₂₁ (by simp)) ((e₁₉.keeps k₂₀ (by simp)).keeps k₂₁ (by simp)) ⟨_, k₂₁.all _ _ (N₂₀.get (.head _)), rfl, _, rfl⟩ (I.fresh F₁₉ lP) ⟨d, n, ex, ed, I.fresh F₂₀ fx, I.fresh F₂₀ fd⟩
    · rw [if_pos (by simpa using hz)]
      rw [if_neg (by decide)]
      walk_at "bn"
      refine mt_item F₁₉ cx i (f_ixp _) (i_ixp _) ?_
      refine cw_exp (s := s) ((am.deeper _).mono (by decide)) F₁₉ cx i fun u₂₀ h₂₀ t₂₀ k₂₀ => ?_
      have F₂₀ := fr_all F₁₉ k₂₀.all
      refine s_loc (s := s) F₂₀ nilN fun h₂₁ t₂₁ F₂₁ _ k₂₁ => ?_
      walk_at "bn"
      rw [if_pos (by simp [hp])]
      walk_at "bn"
      refine nm_g F₂₁ cx (gn_ws _) ?_
      refine callWith_D (w := w) (kp_ws _) ?_
      walk_at "bn"
      refine b_mod (s := s) am.hd h0 fun _ _ => ?_
      walk_at "bn"
      refine n_tuple (s := s) F₂₁ nilN (by show (2 : Nat) ≤ sizeLine; decide) fun P h₂₂ F₂₂ N₂₂ k₂₂ lP => ?_
      walk_at "bn"
      refine ⟨Fr.cx F₂₂ cx, ?_⟩
      refine wpAny_call ?_
      refine ws_make (s := s) ((am.deeper _).mono (by decide)) (cx.keeps F₂₂.keep) fun x d n h₂₃ t₂₃ k₂₃ fx fd ex ed => ?_
      have F₂₃ := fr_all F₂₂ k₂₃.all
      have z := q x P
      rw [ssNum, ssDen, if_pos hp, if_pos hp, if_neg hz] at z
      exact z _ _ _ _ _ (I.out F₂₃) ((((c₁₉.keeps k₂₀ (by simp)).keeps k₂₁ lC).keeps k₂₂ (by simp)).keeps k₂₃ (by simp)) ((((e₁₉.keeps k₂₀ (by simp)).keeps k₂₁ lE).keeps k₂₂ (by simp)).keeps k₂₃ (by simp)) ⟨_, k₂₃.all _ _ (N₂₂.get (.head _)), rfl, _, rfl⟩ (I.fresh F₂₁ lP) ⟨d, n, ex, ed, I.fresh F₂₂ fx, I.fresh F₂₂ fd⟩
  · rw [if_pos (by simpa using hp)]
    rw [if_neg (by decide)]
    walk_at "bn"
    refine mt_item F₁₉ cx i (f_ixp _) (i_ixp _) ?_
    refine cw_exp (s := s) ((am.deeper _).mono (by decide)) F₁₉ cx i fun u₂₀ h₂₀ t₂₀ k₂₀ => ?_
    have F₂₀ := fr_all F₁₉ k₂₀.all
    refine s_loc (s := s) F₂₀ nilN fun h₂₁ t₂₁ F₂₁ _ k₂₁ => ?_
    have c₂₁ := (c₁₉.keeps k₂₀ (by simp)).keeps k₂₁ lC
    have e₂₁ := (e₁₉.keeps k₂₀ (by simp)).keeps k₂₁ lE
    walk_at "bn"
    rw [if_neg (by simpa using hp)]
    walk_at "bn"
    refine b_mulR (s := s) ⟨by omega, hpc.2⟩ fun _ _ => ?_
    walk_at "bn"
    refine b_mod (s := s) am.hd h0 fun _ _ => ?_
    refine s_loc (s := s) F₂₁ nilN fun h₂₂ t₂₂ F₂₂ _ k₂₂ => ?_
    have c₂₂ := c₂₁.keeps k₂₂ lC
    have e₂₂ := e₂₁.keeps k₂₂ lE
    walk_at "bn"
    by_cases hz : cc = 0
    · rw [if_neg (by simp [hz])]
      walk_at "bn"
      refine nm_g F₂₂ cx (gn_ws _) ?_
      refine callWith_D (w := w) (kp_ws _) ?_
      walk_at "bn"
      refine b_mulR (s := s) ⟨by omega, hpc.2⟩ fun _ _ => ?_
      walk_at "bn"
      refine n_tuple (s := s) F₂₂ nilN (by show (2 : Nat) ≤ sizeLine; decide) fun P h₃₂ F₃₂ N₃₂ k₃₂ lP => ?_
      walk_at "bn"
      refine ⟨Fr.cx F₃₂ cx, ?_⟩
      refine wpAny_call ?_
      refine ws_make (s := s) ((am.deeper _).mono (by decide)) (cx.keeps F₃₂.keep) fun x d n h₃₃ t₃₃ k₃₃ fx fd ex ed => ?_
      have F₃₃ := fr_all F₃₂ k₃₃.all
      have z := q x P
      rw [ssNum, ssDen, if_neg hp, if_neg hp, if_pos hz] at z
      exact z _ _ _ _ _ (I.out F₃₃) ((c₂₂.keeps k₃₂ (by simp)).keeps k₃₃ (by simp)) ((e₂₂.keeps k₃₂ (by simp)).keeps k₃₃ (by simp)) ⟨_, k₃₃.all _ _ (N₃₂.get (.head _)), rfl, _, rfl⟩ (I.fresh F₂₂ lP) ⟨d, n, ex, ed, I.fresh F₃₂ fx, I.fresh F₃₂ fd⟩
    · rw [if_pos (by simpa using hz)]
      walk_at "bn"
      refine nm_b F₂₂ cx (by kernel_rfl) Boot.«min» (by decide) ?_
      walk_at "bn"
      refine b_mod (s := s) am.hd h0 fun _ _ => ?_
      walk_at "bn"
      refine b_mulR (s := s) ⟨by omega, hpc.2⟩ fun _ _ => ?_
      walk_at "bn"
      refine w_min (s := s) am.hd fun _ h₂₃ t₂₃ k₂₃ => ?_
      have F₂₃ := fr_all F₂₂ k₂₃.all
      refine s_loc (s := s) F₂₃ nilN fun h₂₄ t₂₄ F₂₄ _ k₂₄ => ?_
      have c₂₄ := (c₂₂.keeps k₂₃ (by simp)).keeps k₂₄ lC
      have e₂₄ := (e₂₂.keeps k₂₃ (by simp)).keeps k₂₄ lE
      walk_at "bn"
      refine nm_g F₂₄ cx (gn_ws _) ?_
      refine callWith_D (w := w) (kp_ws _) ?_
      walk_at "bn"
      refine b_mulR (s := s) ⟨by omega, hpc.2⟩ fun _ _ => ?_
      walk_at "bn"
      refine n_tuple (s := s) F₂₄ nilN (by show (2 : Nat) ≤ sizeLine; decide) fun P h₃₂ F₃₂ N₃₂ k₃₂ lP => ?_
      walk_at "bn"
      refine ⟨Fr.cx F₃₂ cx, ?_⟩
      refine wpAny_call ?_
      refine ws_make (s := s) ((am.deeper _).mono (by decide)) (cx.keeps F₃₂.keep) fun x d n h₃₃ t₃₃ k₃₃ fx fd ex ed => ?_
      have F₃₃ := fr_all F₃₂ k₃₃.all
      have z := q x P
      rw [ssNum, ssDen, if_neg hp, if_neg hp, if_neg hz] at z
      exact z _ _ _ _ _ (I.out F₃₃) ((c₂₄.keeps k₃₂ (by simp)).keeps k₃₃ (by simp)) ((e₂₄.keeps k₃₂ (by simp)).keeps k₃₃ (by simp)) ⟨_, k₃₃.all _ _ (N₃₂.get (.head _)), rfl, _, rfl⟩ (I.fresh F₂₄ lP) ⟨d, n, ex, ed, I.fresh F₃₂ fx, I.fresh F₃₂ fd⟩
end
end
section
set_option maxHeartbeats 4000000
section
variable {w : World} {A : Around} {E : Value → Shared → Prop} {s : Shared} {h₀ h : Heap} {t₀ t : Nat} {S : SA} {r g : Heap} {L : Addr} {m : Str → Option Value} {c : Int} {R : Result → Shared → Prop} {bad : List Addr} {news : List (Addr × Obj)}
/-- Entry.__init__ -/
theorem en_init {x dx : Addr} {per : Int} {u1 u2 : Tok} (am : Amb A 1) (cx : Cx w h₀) (hx : h₀.get? x = some (instObj 612 dx)) (hd : h₀.get? dx = some (dictOf [] 0)) (cx' : Cx w (hideAll h₀ [dx]))
    (q : ∀ h' t' t1 t2 u1 u2, Keeps [dx] h₀ h' → h'.get? dx = some (dictOf (entD w c (c + per) t1 t2 u1 u2) 2) → R (.ok (.ret .none)) (stt s h' t')) :
    codeAny (model prog w) A (.call (.ref 609) ⟨[.ref x, .int per u1, .int c u2], []⟩) R (stt s h₀ t₀) := by
  have xd : x ≠ dx := by intro e; rw [e, hd] at hx; cases hx
  refine enter (s := stt s h₀ t₀) (n := 0) am cx (k609 _) rfl (binds := [(Str.ofString "self", .ref x), (Str.ofString "expiry", .int per u1), (Str.ofString "atime", .int c u2)]) [(dx, dictOf [] 0)] (fun p hp => by rw [List.mem_singleton.mp hp]; exact hd) (bindsK cx.X fun _ => by kernel_rfl) (locs rfl) (by decide) rfl rfl rfl ?_
  intro g L h₁ hg hL F N k₁
  have xg : g.get? x = some (instObj 612 dx) := by rw [hg]; exact hideAll_get _ hx (by simpa using xd)
  have cx : Cx w g := by rw [hg]; exact cx'
  refine wpAny_execs_cons ?_
  refine plainObj_wpAny_Assign_Attribute ?_
  walk_at "bn"
  refine set_dict (s := stt s h₁ _) (es := []) (n := 0) F cx.X N ⟨F.keep _ _ xg, rfl, rfl, N.get (.head _)⟩ rfl (sa612 _) (po612 _) (tk612a _) (hd612 _) rfl rfl (.head (fun _ z => nomatch z)) (by show (1 : Nat) ≤ 1000; decide) fun h₂ F₂ N₂ => ?_
  dsimp only
  refine wpAny_execs_cons ?_
  refine plainObj_wpAny_Assign_Attribute ?_
  walk_at "bn"
  refine get_own (s := stt s h₂ _) F₂ cx.X ⟨F₂.keep _ _ xg, rfl, rfl, N₂.get (.head _)⟩ (pg612 _ _) (hd612 _) (fi612 _) rfl rfl rfl ?_
  walk_at "bn"
  refine set_dict (s := stt s h₂ _) F₂ cx.X N₂ ⟨F₂.keep _ _ xg, rfl, rfl, N₂.get (.head _)⟩ rfl (sa612 _) (po612 _) (tk612e _) (hd612 _) rfl rfl (.head (fun _ z => nomatch z)) (by show (2 : Nat) ≤ 1000; decide) fun h₃ F₃ N₃ => ?_
  dsimp only
  refine wpAny_execs_nil ?_
  refine q _ _ _ _ _ _ (keeps_of hg F₃) (N₃.get (.head _))
theorem en_make {per : Int} {u1 u2 : Tok} (am : Amb A 3) (F : Fr g L h m) (N : News g L h news) (cx : Cx w g)
    (q : ∀ x dx t1 t2 u1 u2 h' t', Fr g L h' m → News g L h' ((x, instObj 612 dx) :: (dx, dictOf (entD w c (c + per) t1 t2 u1 u2) 2) :: news) → (∀ p ∈ news, p.1 < dx) → dx < x → (∀ b o, h.get? b = some o → b < dx) → R (.ok (.ret (.ref x))) (stt s h' t')) :
    codeAny (model prog w) A (.call (.ref 612) ⟨[.int per u1, .int c u2], []⟩) R (stt s h t) := by
  have X := cx.X.keeps F.keep
  refine make_core (makes_of X (mk612 _)) (looks_findIn X (in612 _)) (fun self => bind_fn X self (t609 _)) (.inl rfl) ?_
  have N₁ := (N.push F emptyDict).push (F.push _) (instObj 612 h.objs.size)
  have F₁ := (F.push emptyDict).push (instObj 612 h.objs.size)
  rw [Heap.size_push] at N₁
  have gd : g.get? h.objs.size = none := (N₁ _ (.tail _ (.head _))).2.2
  have Ld : L ≠ h.objs.size := fun e => (N₁ _ (.tail _ (.head _))).2.1 e.symm
  refine en_init (s := s) ((am.make).mono (by decide)) (cx.keeps F₁.keep) (N₁.get (.head _)) (N₁.get (.tail _ (.head _))) (cx.keeps fun b o e => hideAll_get _ (F₁.keep _ _ e) fun z => by rw [List.mem_singleton.mp z, gd] at e; cases e) fun h' t' t1 t2 u1 u2 k e => ?_
  refine ⟨rfl, q (h.objs.size + 1) h.objs.size t1 t2 u1 u2 h' t' (fr_after F₁ k (by simpa using Ld) (fun a ha => List.mem_singleton.mp ha ▸ gd)) (fun p hp => ?_) (fun p hp => Heap.lt_size (N p hp).1) (Nat.lt_succ_self _) fun b o e => Heap.lt_size e⟩
  rcases List.mem_cons.mp hp with rfl | hp
  · have z := N₁ _ (.head _)
    exact ⟨k _ _ z.1 (by simp), z.2⟩
  · rcases List.mem_cons.mp hp with rfl | hp
    · exact ⟨e, (N₁ _ (.tail _ (.head _))).2⟩
    · have z := N₁ _ (.tail _ (.tail _ hp))
      exact ⟨k _ _ z.1 (by have := Heap.lt_size (N p hp).1; simp; exact Nat.ne_of_lt this), z.2⟩
end
end
section
set_option maxHeartbeats 4000000
abbrev aqE (L : Addr) : Env := envX (Str.ofString "MemoryStorage.acquire_entry") (fScope (stM 7)) L 912 (.ref 911) []
abbrev listO (vs : List Value) (n : Nat) : Obj := ⟨.type "list", none, .seq vs.toArray n, #[]⟩
theorem gn_ent (P : Params) : nsIn (K P) mainGlobals (Str.ofString "Entry") = some (some (.ref 612)) := by kernel_rfl
theorem kp_ent (P : Params) : keepIn (K P) (.ref 612) = true := by kernel_rfl
section
variable {w : World} {A : Around} {E : Value → Shared → Prop} {s : Shared} {h₀ h : Heap} {t₀ t : Nat} {S : SA} {r g : Heap} {L : Addr} {m : Str → Option Value} {c : Int} {R : Result → Shared → Prop} {bad : List Addr} {news : List (Addr × Obj)}
theorem aq_fin {oV : Obj} {l : Addr} {vs : List Value} {n : Nat} {frs : List (Addr × Obj)} {key : Str} {fV : Str → Option Value} {per amt : Int} {uk ue ua ut : Tok}
    (am : Amb A 4) (cx : Cx w g) (st : Sto w S g c) (F : Fr g L h m) (N : News g L h ((S.V, oV) :: (l, listO vs n) :: frs)) (iV : IsD oV) (mV : IsMap w oV fV 8) (hk : fV key = some (.ref l)) (hfl : ∀ p ∈ frs, p.1 ≠ l)
    (p1 : m (Str.ofString "self") = some (.ref S.self)) (p2 : m (Str.ofString "key") = some (.str key uk)) (p4 : m (Str.ofString "expiry") = some (.int per ue)) (p5 : m (Str.ofString "amount") = some (.int amt ua)) (p6 : m (Str.ofString "timestamp") = some (.int c ut))
    (pe : m (Str.ofString "entry") = some .none ∨ ∃ v a, m (Str.ofString "entry") = some v ∧ EntAt w g bad v a ∧ a < c - per) (h1 : 0 < amt) (h2 : amt < 100) (hz : vs.length < 2 ^ 20)
    (q : ∀ x dx t1 t2 u1 u2 h' t' n', Fr g L h' m → News g L h' ((S.V, oV) :: (l, listO (List.replicate amt.toNat (.ref x) ++ vs) n') :: frs) → h'.get? x = some (instObj 612 dx) → h'.get? dx = some (dictOf (entD w c (c + per) t1 t2 u1 u2) 2) → (∀ b o, h.get? b = some o → b < dx) → dx < x → R (.ok (.ret (.bool true))) (stt s h' t')) :
    wpAny (model prog w) (A.deeper (aqE L)) (execs ((fBody (stM 7)).drop 5) (aqE L)) (fun fl s' => R (.ok (.ret (match fl with | .ret v => v | _ => .none))) s') (fun _ _ => False) (stt s h t) := by
  refine wpAny_execs_cons ?_
  walk_at "bn"
  refine Or.elim pe (fun pe => ?c1) (fun ⟨v, a, pe, ea, hlt⟩ => ?c2)
  case' c1 =>
    refine nameX_L F pe ?_
    refine wpAny_pure ?_
    rw [if_neg (by decide), if_neg (by decide)]
    walk_at "bn"
  case' c2 =>
    refine nameX_L F pe ?_
    refine truthy_ent (s := s) (cx.keeps F.keep) (ea.keeps (as := []) (fun b o e _ => F.keep b o e) (fun _ z => nomatch z)) ?_
    rw [if_pos rfl]
    walk_at "bn"
    refine at_atime (s := s) F cx (ea.keeps (as := []) (fun b o e _ => F.keep b o e) (fun _ z => nomatch z)) fun _ _ => ?_
    walk_at "bn"
    rw [if_neg (by simpa using hlt)]
    walk_at "bn"
    rw [if_neg (by decide)]
    walk_at "bn"
  all_goals (
    refine wpAny_Assign_Subscript ?_
    walk_at "bn"
    refine nm_g F cx (gn_ent _) ?_
    refine callWith_D (w := w) (kp_ent _) ?_
    walk_at "bn"
    refine mt_clock (s := s) F cx st fun _ => ?_
    refine callWith_F0 ⟨_, _, _, _, (st.keeps F.keep).lam⟩ ?_
    refine call_lam (s := s) (n := 0) ((am.deeper _).mono (by decide)) (cx.keeps F.keep).nolimit (st.keeps F.keep) fun _ h₁ _ k₁ => ?_
    have F₁ := fr_all F k₁.all
    have N₁ := news_all N k₁.all
    walk_at "bn"
    refine ⟨Fr.cx F₁ cx, ?_⟩
    refine wpAny_call ?_
    refine en_make (s := s) ((am.deeper _).mono (by decide)) F₁ N₁ cx fun x dx t1 t2 u1 u2 h₂ t₂ F₂ N₂ lt1 lt2 lt3 => ?_
    walk_at "bn"
    refine n_list (s := s) F₂ N₂ (by show (1 : Nat) ≤ sizeLine; decide) fun A1 h₃ F₃ N₃ k₃ _ => ?_
    walk_at "bn"
    refine mul_list (s := stt s h₃ _) F₃ N₃ (N₃.get (.head _)) (by omega) (by omega) (by show 1 * amt.toNat ≤ _; omega) fun h₄ F₄ N₄ => ?_
    walk_at "bn"
    refine at_events (s := s) F₄ cx st fun _ => ?_
    walk_at "bn"
    have hV4 : h₄.get? S.V = some oV := N₄.get (.tail _ (.tail _ (.tail _ (.tail _ (.head _)))))
    have hl4 : h₄.get? l = some (listO vs n) := N₄.get (.tail _ (.tail _ (.tail _ (.tail _ (.tail _ (.head _))))))
    have hl0 := N₁.get (.tail _ (.head _))
    have hl3 := N₃.get (.tail _ (.tail _ (.tail _ (.tail _ (.head _)))))
    have nVl : S.V ≠ l := fun e => by
      rw [e, hl4] at hV4
      have := iV.cls
      rw [← Option.some.inj hV4] at this
      exact absurd (show Value.type "list" = Value.type "dict" from this) (by decide)
    refine tail_d (s := s) (DSub.exact hV4 iV.cls) ?_
    refine w_gi (s := s) (DLike.exact hV4 iV.cls) (DSub.exact hV4 iV.cls) hV4 mV hk fun _ => ?_
    refine wpAny_Slice ?_
    refine wpAny_pure (a := Value.none) ?_
    rw [evalPart_some]
    refine c_int (s := s) fun u5 t5 => ?_
    refine wpAny_pure (a := Value.none) ?_
    have F₅ := F₄.push { cls := .type "slice", data := .fields #[.none, .int 0 u5, .none] }
    have N₅ := N₄.push F₄ { cls := .type "slice", data := .fields #[.none, .int 0 u5, .none] }
    have hA := N₅.get (.tail _ (.head _))
    have hl5 := N₅.get (.tail _ (.tail _ (.tail _ (.tail _ (.tail _ (.tail _ (.head _))))))) 
    have lA : l < h₃.objs.size := Heap.lt_size hl3
    have eA : List.foldl (fun x1 x2 => x1 ++ x2) #[] (List.replicate (if (#[Value.ref x] : Array Value).isEmpty = true then 0 else amt.toNat) #[Value.ref x]) = (List.replicate amt.toNat (Value.ref x)).toArray := by
      rw [listMul_foldl_if]; simp
    refine si_slice (s := s) (n := n) (items := vs) (new := List.replicate amt.toNat (.ref x)) hl5 (Heap.IsSliceOf.new ..) ⟨_, hA, rfl, _, congrArg (Data.seq · _) eA⟩ (Nat.ne_of_lt lA) (by rw [List.length_replicate]; show _ ≤ 16777216; omega) fun h₆ n₆ e₆ sb₆ => ?_
    walk_at "bn"
    have nl := N₅ _ (.tail _ (.tail _ (.tail _ (.tail _ (.tail _ (.tail _ (.head _)))))))
    have F₆ := fr_after F₅ (Keeps.of_same sb₆) (fun z => nl.2.1 (List.mem_singleton.mp z).symm) (fun a ha => List.mem_singleton.mp ha ▸ nl.2.2)
    have ldx : l < dx := lt3 _ _ hl0
    refine q x dx t1 t2 u1 u2 _ _ n₆ F₆ (fun p hp => ?_) ((sb₆.2 _ (Nat.ne_of_gt (Nat.lt_trans ldx lt2))).trans (N₅.get (.tail _ (.tail _ (.tail _ (.head _)))))) ((sb₆.2 _ (Nat.ne_of_gt ldx)).trans (N₅.get (.tail _ (.tail _ (.tail _ (.tail _ (.head _))))))) (fun b o e => lt3 b o (k₁.all _ _ e)) lt2
    rcases List.mem_cons.mp hp with rfl | hp
    · have z := N₅ _ (.tail _ (.tail _ (.tail _ (.tail _ (.tail _ (.head _))))))
      exact ⟨(sb₆.2 _ nVl).trans z.1, z.2⟩
    · rcases List.mem_cons.mp hp with rfl | hp
      · exact ⟨e₆, nl.2⟩
      · have z := N₅ p (.tail _ (.tail _ (.tail _ (.tail _ (.tail _ (.tail _ (.tail _ hp)))))))
        exact ⟨(sb₆.2 _ (hfl p hp)).trans z.1, z.2⟩)
end
end
section
set_option maxHeartbeats 4000000
section
variable {w : World} {A : Around} {E : Value → Shared → Prop} {s : Shared} {h₀ h : Heap} {t₀ t : Nat} {S : SA} {r g : Heap} {L : Addr} {m : Str → Option Value} {c : Int} {R : Result → Shared → Prop} {bad : List Addr} {news : List (Addr × Obj)}
theorem aq_try {oV : Obj} {l : Addr} {vs : List Value} {ats : List Int} {n : Nat} {frs : List (Addr × Obj)} {lE : List Env} {key : Str} {fV : Str → Option Value} {lim per amt : Int} {uk ul ue ua ut : Tok}
    (hfr : A.frames = some lE) (Fs : TI.Frs lE frs)
    (am : Amb A 4) (cx : Cx w g) (st : Sto w S g c) (F : Fr g L h m) (N : News g L h ((S.V, oV) :: (l, listO vs n) :: frs)) (iV : IsD oV) (mV : IsMap w oV fV 8) (hk : fV key = some (.ref l)) (hfl : ∀ p ∈ frs, p.1 ≠ l) (hfV : ∀ p ∈ frs, p.1 ≠ S.V)
    (p1 : m (Str.ofString "self") = some (.ref S.self)) (p2 : m (Str.ofString "key") = some (.str key uk)) (p3 : m (Str.ofString "limit") = some (.int lim ul)) (p4 : m (Str.ofString "expiry") = some (.int per ue)) (p5 : m (Str.ofString "amount") = some (.int amt ua)) (p6 : m (Str.ofString "timestamp") = some (.int c ut))
    (en : Ents w g bad vs ats) (hf : ∀ a, ats[(lim - amt).toNat]? = some a → a < c - per) (h1 : 0 < amt) (h2 : amt ≤ lim) (h3 : lim < 100) (hz : vs.length < 2 ^ 20)
    (q : ∀ frs' m' x dx t1 t2 u1 u2 h' t' n', TI.SameUp frs frs' → Fr g L h' m' → News g L h' ((S.V, oV) :: (l, listO (List.replicate amt.toNat (.ref x) ++ vs) n') :: frs') → h'.get? x = some (instObj 612 dx) → h'.get? dx = some (dictOf (entD w c (c + per) t1 t2 u1 u2) 2) → (∀ b o, g.get? b = some o → b < dx) → (∀ p ∈ frs, p.1 < dx) → S.V < dx → l < dx → dx < x → R (.ok (.ret (.bool true))) (stt s h' t')) :
    wpAny (model prog w) (A.deeper (aqE L)) (execs ((fBody (stM 7)).drop 4) (aqE L)) (fun fl s' => R (.ok (.ret (match fl with | .ret v => v | _ => .none))) s') (fun _ _ => False) (stt s h t) := by
  have hV := N.get (.head _)
  have hl := N.get (.tail _ (.head _))
  refine wpAny_execs_cons ?_
  refine wpAny_Try_except ?_
  walk_at "bn"
  refine at_events (s := s) F cx st fun _ => ?_
  walk_at "bn"
  refine tail_d (s := s) (DSub.exact hV iV.cls) ?_
  refine w_gi (s := s) (DLike.exact hV iV.cls) (DSub.exact hV iV.cls) hV mV hk fun _ => ?_
  walk_at "bn"
  cases hv : vs[(lim - amt).toNat]? with
  | some v =>
    refine sub_list (s := stt s h _) (l := l) (vs := vs.toArray) ⟨_, hl, rfl, _, rfl⟩ (by omega) (by omega) (v := v) (by simpa using hv) ?_
    refine s_loc (s := s) F N fun h₁ t₁ F₁ N₁ k₁ => ?_
    obtain ⟨a, ha, ea⟩ := en.at hv
    dsimp only
    refine wpAny_execs_nil ?_
    dsimp only
    refine wpAny_execs_nil ?_
    dsimp only
    refine aq_fin (s := s) (bad := bad) am cx st F₁ N₁ iV mV hk hfl p1 p2 p4 p5 p6 (.inr ⟨v, a, rfl, ea, hf a ha⟩) h1 (by omega) hz fun x dx t1 t2 u1 u2 h' t' n' F' N' ex ed lt lt2 => ?_
    exact q frs _ x dx t1 t2 u1 u2 h' t' n' (TI.SameUp.refl _) F' N' ex ed (fun b o e => lt b o (F₁.keep _ _ e)) (fun p hp => lt _ _ (N₁ p (.tail _ (.tail _ hp))).1) (lt _ _ (N₁.get (.head _))) (lt _ _ (N₁.get (.tail _ (.head _)))) lt2
  | none =>
    refine tail_any (s := stt s h _) (T := "list") ⟨_, hl, rfl⟩ PySem.F.slot_list_getitem.lookup (wpAny_getItem_list_out (s := stt s h _) am.hd ⟨_, hl, rfl, _, rfl⟩ (.inr ?_) (by omega) (by omega) fun h₁ tk e hx => ?_) (by with_unfolding_all rfl)
    · rw [List.getElem?_eq_none_iff] at hv
      simp only [List.size_toArray]
      omega
    · refine TLg.noted_newA (A₀ := A) (new := [(S.V, oV), (l, listO vs n)]) hfr Fs hx F N (fun p hp => ?_) (fun h₂ frs₂ SU Fs₂ H => ?_)
      · intro z
        rcases List.mem_cons.mp z with z | z
        · exact (N p (List.mem_append_left frs hp)).2.1 z
        · obtain ⟨p', hp', e'⟩ := List.mem_map.mp z
          rcases List.mem_cons.mp hp with rfl | hp
          · exact hfV p' hp' e'
          · rw [List.mem_singleton.mp hp] at e'
            exact hfl p' hp' e'
      have mapE : ∀ p ∈ frs₂, ∃ p' ∈ frs, p'.1 = p.1 := fun p hp => by obtain ⟨x, hx, e⟩ := SU.fwd p hp; exact ⟨x, hx, e.symm⟩
      refine H.land fun h₃ H₃ => ?_
      refine wpAny_handleBy_builtin (X := "IndexError") (T := "IndexError") (b := true) (isSubtype_of_subB (by decide +kernel)) (isSubtype_of_subB (by decide +kernel)) (isSubtype_of_subB (by decide +kernel)) ?_
      refine nm_b H₃.held.fr cx (by kernel_rfl) Boot.«IndexError» (by decide) ?_
      refine ⟨rfl, H₃.isA, ?_⟩
      rw [if_pos rfl]
      refine H₃.lands fun h₄ F₄ N₄ => ?_
      walk_at "bn"
      refine s_loc (s := s) F₄ N₄ fun h₅ t₅ F₅ N₅ k₅ => ?_
      dsimp only
      refine wpAny_execs_nil ?_
      dsimp only
      refine aq_fin (s := s) (bad := bad) am cx st F₅ N₅ iV mV hk (fun p hp => by obtain ⟨x, hx, e⟩ := mapE p hp; exact e ▸ hfl x hx) p1 p2 p4 p5 p6 (.inl rfl) h1 (by omega) hz fun x dx t1 t2 u1 u2 h' t' n' F' N' ex ed lt lt2 => ?_
      refine q frs₂ _ x dx t1 t2 u1 u2 h' t' n' SU F' N' ex ed (fun b o e => lt b o (F₅.keep _ _ e)) (fun p hp => ?_) (lt _ _ (N₅.get (.head _))) (lt _ _ (N₅.get (.tail _ (.head _)))) lt2
      obtain ⟨sl, hm⟩ := SU.back p hp
      exact lt _ _ (N₅ _ (.tail _ (.tail _ hm))).1
end
end
section
set_option maxHeartbeats 4000000
theorem Ents.map {w : World} {h h' : Heap} {bad : List Addr} (f : ∀ v a, EntAt w h bad v a → EntAt w h' bad v a) : ∀ {vs ats}, Ents w h bad vs ats → Ents w h' bad vs ats
  | _, _, .nil => .nil
  | _, _, .cons e r => .cons (f _ _ e) (Ents.map f r)
section
variable {w : World} {A : Around} {E : Value → Shared → Prop} {s : Shared} {h₀ h : Heap} {t₀ t : Nat} {S : SA} {r g : Heap} {L : Addr} {m : Str → Option Value} {c : Int} {R : Result → Shared → Prop} {bad : List Addr} {news : List (Addr × Obj)}
theorem w_dsetdefault {d : Addr} {o : Obj} {f : Str → Option Value} {n : Nat} {k : Str} {u : Tok} {v : Value} {Q : Value → Shared → Prop} (x : DLike (model prog w) h d) (hsys : (d == sysModules) = false) (ho : h.get? d = some o) (hm : IsMap w o f n) (hn : n ≤ sizeLine)
    (h1 : ∀ x t', f k = some x → Q x (stt s h t'))
    (h0 : ∀ o' h' t', f k = none → IsMap w o' (fun x => if x = k then some v else f x) (n + 1) → Like o o' → h'.get? d = some o' → Heap.SameBut d h h' → Q v (stt s h' t')) :
    wpAny (model prog w) A (call (.builtin "dict.setdefault") [.ref d, .str k u, v]) Q E (stt s h t) :=
  call_dsetdefault (s := stt s h t) x hsys ho hm hn (fun y e => h1 y _ e) fun o' h' a b c d e => h0 o' h' _ a b c d e
theorem aq_mid {oV : Obj} {l : Addr} {vs : List Value} {ats : List Int} {n : Nat} {frs : List (Addr × Obj)} {lE : List Env} {key : Str} {fV : Str → Option Value} {lim per amt : Int} {uk ul ue ua : Tok}
    (hfr : A.frames = some lE) (Fs : TI.Frs lE frs)
    (am : Amb A 4) (cx : Cx w g) (st : Sto w S g c) (F : Fr g L h m) (N : News g L h ((S.V, oV) :: (l, listO vs n) :: frs)) (iV : IsD oV) (mV : IsMap w oV fV 8) (hk : fV key = some (.ref l)) (hfl : ∀ p ∈ frs, p.1 ≠ l) (hfV : ∀ p ∈ frs, p.1 ≠ S.V)
    (p1 : m (Str.ofString "self") = some (.ref S.self)) (p2 : m (Str.ofString "key") = some (.str key uk)) (p3 : m (Str.ofString "limit") = some (.int lim ul)) (p4 : m (Str.ofString "expiry") = some (.int per ue)) (p5 : m (Str.ofString "amount") = some (.int amt ua))
    (en : Ents w g bad vs ats) (hf : ∀ a, ats[(lim - amt).toNat]? = some a → a < c - per) (h1 : 0 < amt) (h2 : amt ≤ lim) (h3 : lim < 100) (hz : vs.length < 2 ^ 20) (hbad : ∀ a ∈ bad, a = S.V ∨ a ∈ frs.map (·.1) ∨ ∃ o, g.get? a = some o) (nb : l ∉ bad) (as : List Addr) (hg : g = hideAll h₀ as)
    (q : ∀ frs' h' t', TI.SameUp frs frs' → (∀ p ∈ frs', h'.get? p.1 = some p.2) → Keeps as h₀ h' → MvAt w S h' bad key (some l) (List.replicate amt.toNat c ++ ats) → R (.ok (.ret (.bool true))) (stt s h' t')) :
    wpAny (model prog w) (A.deeper (aqE L)) (execs ((fBody (stM 7)).drop 3) (aqE L)) (fun fl s' => R (.ok (.ret (match fl with | .ret v => v | _ => .none))) s') (fun _ _ => False) (stt s h t) := by
  refine wpAny_execs_cons ?_
  walk_at "bn"
  refine mt_clock (s := s) F cx st fun _ => ?_
  refine callWith_F0 ⟨_, _, _, _, (st.keeps F.keep).lam⟩ ?_
  refine call_lam (s := s) (n := 0) ((am.deeper _).mono (by decide)) (cx.keeps F.keep).nolimit (st.keeps F.keep) fun _ h₁ _ k₁ => ?_
  have F₁ := fr_all F k₁.all
  have N₁ := news_all N k₁.all
  refine s_loc (s := s) F₁ N₁ fun h₂ t₂ F₂ N₂ k₂ => ?_
  dsimp only
  refine aq_try (s := s) (bad := bad) hfr Fs am cx st F₂ N₂ iV mV hk hfl hfV p1 p2 p3 p4 p5 rfl en hf h1 h2 h3 hz fun frs' m' x dx t1 t2 u1 u2 h' t' n' SU F' N' ex ed lt1 lt2 lt3 lt4 lt5 => ?_
  have hlt : ∀ a ∈ bad, a < dx := fun a ha => by
    rcases hbad a ha with rfl | hm | ⟨o, ho⟩
    · exact lt3
    · obtain ⟨p, hp, rfl⟩ := List.mem_map.mp hm
      exact lt2 p hp
    · exact lt1 _ _ ho
  have ent : EntAt w h' bad (.ref x) c := ⟨x, dx, 2, t1, t2, u1, u2, _, rfl, ex, ed, fun z => Nat.lt_asymm lt5 (hlt _ z), fun z => Nat.lt_irrefl _ (hlt _ z)⟩
  exact q frs' h' t' SU (fun p hp => (N' p (.tail _ (.tail _ hp))).1) (keeps_of hg F') ⟨oV, fV, N'.get (.head _), iV, mV, hk, nb, _, n', N'.get (.tail _ (.head _)), (Ents.rep ent _).append (en.map fun v a e => e.keeps (as := []) (fun b o e _ => F'.keep b o e) (fun _ z => nomatch z))⟩
theorem aq_spec {key : Str} {ml : Option Addr} {ats : List Int} {frs : List (Addr × Obj)} {lE : List Env} {lim per amt : Int} {u1 u2 u3 u4 : Tok}
    (rt : Rt w S c r) (kr : Sub r h₀) (am : Amb A 5) (hfr : A.frames = some lE) (Fs : TI.Frs lE frs) (hfs : ∀ p ∈ frs, h₀.get? p.1 = some p.2) (nfr : ∀ p ∈ frs, r.get? p.1 = none) (bfr : ∀ p ∈ frs, p.1 ∈ bad) (hfV : ∀ p ∈ frs, p.1 ≠ S.V)
    (hm : MvAt w S h₀ bad key ml ats) (bV : S.V ∈ bad) (hbad : ∀ a ∈ bad, ∃ o, h₀.get? a = some o) (hz : ats.length < 2 ^ 20) (nl : ∀ l, ml = some l → r.get? l = none)
    (h1 : 0 < amt) (h2 : amt ≤ lim) (h3 : lim < 100) (hf : ∀ a, ats[(lim - amt).toNat]? = some a → a < c - per)
    (q : ∀ frs' l' h' t', TI.SameUp frs frs' → (∀ p ∈ frs', h'.get? p.1 = some p.2) → Keeps (S.V :: (ml.toList ++ frs.map (·.1))) h₀ h' → MvAt w S h' bad key (some l') (List.replicate amt.toNat c ++ ats) → (∀ l, ml = some l → l' = l) → (ml = none → ∀ b o, h₀.get? b = some o → b < l') → R (.ok (.ret (.bool true))) (stt s h' t')) :
    codeAny (model prog w) A (.call (.ref 912) ⟨[.ref S.self, .str key u1, .int lim u2, .int per u3], [(Str.ofString "amount", .int amt u4)]⟩) R (stt s h₀ t₀) := by
  cases ml with
  | none =>
    obtain ⟨oV, fV, hoV, iV, mV, e1, e2, m7⟩ := hm
    subst e2
    refine enter (s := stt s h₀ t₀) (n := 4) am (rt.cx.keeps kr) (k912 _) rfl (binds := [(Str.ofString "self", .ref S.self), (Str.ofString "key", .str key u1), (Str.ofString "limit", .int lim u2), (Str.ofString "expiry", .int per u3), (Str.ofString "amount", .int amt u4)]) ((S.V, oV) :: frs)
      (fun p hp => ?_) (bindsK (rt.cx.X.keeps kr) fun _ => by kernel_rfl) (locs rfl) (by decide) rfl rfl rfl ?_
    · rcases List.mem_cons.mp hp with rfl | hp
      · exact hoV
      · exact hfs p hp
    intro g L h₁ hg hL F N k₁
    have kg : Sub r g := hg ▸ kr.hide (fun a ha => by
      rcases List.mem_cons.mp ha with rfl | ha
      · exact rt.nV
      · obtain ⟨p, hp, rfl⟩ := List.mem_map.mp ha
        exact nfr p hp)
    have cx := rt.cx.keeps kg
    have st := rt.st.keeps kg
    refine wpAny_execs_cons ?_
    walk_at "bn"
    rw [if_neg (by simp; omega)]
    refine wpAny_execs_nil ?_
    dsimp only
    refine wpAny_execs_cons ?_
    refine wpAny_Expr_any ?_
    walk_at "bn"
    refine at_events (s := s) F cx st fun _ => ?_
    refine mt_dict PySem.F.slot_dict_setdefault PySem.F.type_dict_setdefault (N.get (.head _)) iV.cls iV.dict ?_
    walk_at "bn"
    refine n_list (s := s) F N (by show (0 : Nat) ≤ sizeLine; decide) fun D h₂ F₂ N₂ k₂ lD => ?_
    walk_at "bn"
    have hV₂ := N₂.get (.tail _ (.head _))
    refine w_dsetdefault (s := s) (DLike.exact hV₂ iV.cls) rt.sV hV₂ m7 (by decide) (fun x _ e => by rw [e1] at e; cases e) fun oV' h₃ t₃ _ mV' lk e₃ sb => ?_
    have nVD : S.V ≠ D := Nat.ne_of_lt (lD _ _ (N.get (.head _)))
    have hD₂ := N₂ (D, _) (.head _)
    have hV₀ := N₂ (S.V, _) (.tail _ (.head _))
    have F₃ := fr_after F₂ (Keeps.of_same sb) (fun z => hV₀.2.1 (List.mem_singleton.mp z).symm) (fun a ha => List.mem_singleton.mp ha ▸ hV₀.2.2)
    have N₃ : News g L h₃ ((S.V, oV') :: (D, listO [] 0) :: frs) := fun p hp => by
      rcases List.mem_cons.mp hp with rfl | hp
      · exact ⟨e₃, hV₀.2⟩
      · rcases List.mem_cons.mp hp with rfl | hp
        · exact ⟨(sb.2 _ (Ne.symm nVD)).trans hD₂.1, hD₂.2⟩
        · have z := N₂ p (.tail _ (.tail _ hp))
          exact ⟨(sb.2 _ (hfV p hp)).trans z.1, z.2⟩
    have lt0 : ∀ b o, h₀.get? b = some o → b < D := fun b o e => lD _ _ (k₁ _ _ e)
    refine aq_mid (s := s) (bad := bad) (l := D) (vs := []) (ats := []) (h₀ := h₀) hfr Fs (am.mono (by decide)) cx st F₃ N₃ (iV.like lk) mV' (if_pos rfl) (fun p hp => Nat.ne_of_lt (lt0 _ _ (hfs p hp))) hfV rfl rfl rfl rfl rfl .nil (fun a z => by simp at z) h1 h2 h3 (by decide) (fun a ha => ?_) (fun z => ?_) _ hg fun frs' h' t' SU hfs' K M => q frs' D h' t' SU hfs' K M (fun _ z => nomatch z) fun _ => lt0
    · by_cases hm : a ∈ S.V :: frs.map (·.1)
      · rcases List.mem_cons.mp hm with z | z
        · exact .inl z
        · exact .inr (.inl z)
      · obtain ⟨o, ho⟩ := hbad a ha
        exact .inr (.inr ⟨o, hg ▸ hideAll_get _ ho hm⟩)
    · obtain ⟨o, ho⟩ := hbad _ z
      exact Nat.lt_irrefl _ (lt0 _ _ ho)
  | some l =>
    obtain ⟨oV, fV, hoV, iV, mV, e1, e2, vs, n, hl, en⟩ := hm
    have nVl : S.V ≠ l := fun e => by
      rw [e, hl] at hoV
      have := iV.cls
      rw [← Option.some.inj hoV] at this
      exact absurd (show Value.type "list" = Value.type "dict" from this) (by decide)
    have hfl : ∀ p ∈ frs, p.1 ≠ l := fun p hp e => e2 (e ▸ bfr p hp)
    refine enter (s := stt s h₀ t₀) (n := 4) am (rt.cx.keeps kr) (k912 _) rfl (binds := [(Str.ofString "self", .ref S.self), (Str.ofString "key", .str key u1), (Str.ofString "limit", .int lim u2), (Str.ofString "expiry", .int per u3), (Str.ofString "amount", .int amt u4)]) ((S.V, oV) :: (l, listO vs n) :: frs)
      (fun p hp => ?_) (bindsK (rt.cx.X.keeps kr) fun _ => by kernel_rfl) (locs rfl) (by decide) rfl rfl rfl ?_
    · rcases List.mem_cons.mp hp with rfl | hp
      · exact hoV
      · rcases List.mem_cons.mp hp with rfl | hp
        · exact hl
        · exact hfs p hp
    intro g L h₁ hg hL F N k₁
    have kg : Sub r g := hg ▸ kr.hide (fun a ha => by
      rcases List.mem_cons.mp ha with rfl | ha
      · exact rt.nV
      · rcases List.mem_cons.mp ha with rfl | ha
        · exact nl _ rfl
        · obtain ⟨p, hp, rfl⟩ := List.mem_map.mp ha
          exact nfr p hp)
    have cx := rt.cx.keeps kg
    have st := rt.st.keeps kg
    refine wpAny_execs_cons ?_
    walk_at "bn"
    rw [if_neg (by simp; omega)]
    refine wpAny_execs_nil ?_
    dsimp only
    refine wpAny_execs_cons ?_
    refine wpAny_Expr_any ?_
    walk_at "bn"
    refine at_events (s := s) F cx st fun _ => ?_
    refine mt_dict PySem.F.slot_dict_setdefault PySem.F.type_dict_setdefault (N.get (.head _)) iV.cls iV.dict ?_
    walk_at "bn"
    refine n_list (s := s) F N (by show (0 : Nat) ≤ sizeLine; decide) fun D h₂ F₂ N₂ k₂ lD => ?_
    walk_at "bn"
    have hV₂ := N₂.get (.tail _ (.head _))
    refine w_dsetdefault (s := s) (DLike.exact hV₂ iV.cls) rt.sV hV₂ mV (by decide) (fun x _ e => ?_) fun oV' h₃ t₃ e _ _ _ _ => by rw [e1] at e; cases e
    have hen := en.len
    have enG : Ents w g bad vs ats := en.map fun v a ⟨x, d, n', t1, t2, u1, u2, e', q1, q2, q3, q4, q5⟩ => by
      have xl : x ≠ l := fun z => by rw [z, hl] at q2; exact absurd (congrArg Obj.data (Option.some.inj q2)) (by intro z; cases z)
      have dl : d ≠ l := fun z => by rw [z, hl] at q3; exact absurd (congrArg Obj.data (Option.some.inj q3)) (by intro z; cases z)
      have nm : ∀ y, y ∉ bad → y ≠ l → y ∉ S.V :: l :: frs.map (·.1) := fun y h1 h2 z => by
        rcases List.mem_cons.mp z with rfl | z
        · exact h1 bV
        · rcases List.mem_cons.mp z with rfl | z
          · exact h2 rfl
          · obtain ⟨p, hp, rfl⟩ := List.mem_map.mp z
            exact h1 (bfr p hp)
      exact ⟨x, d, n', t1, t2, u1, u2, e', q1, hg ▸ hideAll_get _ q2 (nm _ q4 xl), hg ▸ hideAll_get _ q3 (nm _ q5 dl), q4, q5⟩
    refine aq_mid (s := s) (bad := bad) (l := l) (vs := vs) (ats := ats) (h₀ := h₀) hfr Fs (am.mono (by decide)) cx st F₂ (fun p hp => N₂ p (.tail _ hp)) iV mV e1 hfl hfV rfl rfl rfl rfl rfl enG hf h1 h2 h3 (by omega) (fun a ha => ?_) e2 _ hg fun frs' h' t' SU hfs' K M => q frs' l h' t' SU hfs' K M (fun _ z => Option.some.inj z) fun z => by cases z
    by_cases hm : a ∈ S.V :: l :: frs.map (·.1)
    · rcases List.mem_cons.mp hm with z | z
      · exact .inl z
      · rcases List.mem_cons.mp z with rfl | z
        · exact absurd ha e2
        · exact .inr (.inl z)
    · obtain ⟨o, ho⟩ := hbad a ha
      exact .inr (.inr ⟨o, hg ▸ hideAll_get _ ho hm⟩)
end
end
section
set_option maxHeartbeats 4000000
theorem f_aq (P : Params) : findIn (K P) (.ref 972) (Str.ofString "acquire_entry") = some (some (.ref 912)) := by kernel_rfl
theorem i_aq (P : Params) : isFn (K P) (.ref 912) = true := by kernel_rfl
theorem kp_aq (P : Params) : keepIn (K P) (.ref 912) = true := by kernel_rfl
theorem EntAt.more {w : World} {h : Heap} {bad new : List Addr} {v : Value} {a : Int} (x : EntAt w h bad v a) (hn : ∀ a ∈ new, h.get? a = none) : EntAt w h (new ++ bad) v a := by
  obtain ⟨x, d, n, t1, t2, u1, u2, e, h1, h2, h3, h4, h5⟩ := x
  refine ⟨x, d, n, t1, t2, u1, u2, e, h1, h2, h3, fun z => ?_, fun z => ?_⟩
  · rcases List.mem_append.mp z with z | z
    · rw [hn _ z] at h2; cases h2
    · exact h4 z
  · rcases List.mem_append.mp z with z | z
    · rw [hn _ z] at h3; cases h3
    · exact h5 z
theorem EntAt.less {w : World} {h : Heap} {bad bad' : List Addr} {v : Value} {a : Int} (x : EntAt w h bad' v a) (hs : ∀ a ∈ bad, a ∈ bad') : EntAt w h bad v a :=
  let ⟨x, d, n, t1, t2, u1, u2, e, h1, h2, h3, h4, h5⟩ := x
  ⟨x, d, n, t1, t2, u1, u2, e, h1, h2, h3, fun z => h4 (hs _ z), fun z => h5 (hs _ z)⟩
theorem Ents.rebad {w : World} {h : Heap} {bad bad' : List Addr} (f : ∀ v a, EntAt w h bad v a → EntAt w h bad' v a) : ∀ {vs ats}, Ents w h bad vs ats → Ents w h bad' vs ats
  | _, _, .nil => .nil
  | _, _, .cons e r => .cons (f _ _ e) (Ents.rebad f r)
theorem MvAt.more {w S h bad key ml ats} {new : List Addr} (x : MvAt w S h bad key ml ats) (hn : ∀ a ∈ new, h.get? a = none) : MvAt w S h (new ++ bad) key ml ats := by
  obtain ⟨o, f, a, b, c, d⟩ := x
  refine ⟨o, f, a, b, c, ?_⟩
  cases ml with
  | none => exact d
  | some l =>
    obtain ⟨d1, d2, vs, n, d3, d4⟩ := d
    refine ⟨d1, fun z => ?_, vs, n, d3, d4.rebad fun v a e => e.more hn⟩
    rcases List.mem_append.mp z with z | z
    · rw [hn _ z] at d3; cases d3
    · exact d2 z
theorem MvAt.less {w S h bad bad' key ml ats} (x : MvAt w S h bad' key ml ats) (hs : ∀ a ∈ bad, a ∈ bad') : MvAt w S h bad key ml ats := by
  obtain ⟨o, f, a, b, c, d⟩ := x
  refine ⟨o, f, a, b, c, ?_⟩
  cases ml with
  | none => exact d
  | some l =>
    obtain ⟨d1, d2, vs, n, d3, d4⟩ := d
    exact ⟨d1, fun z => d2 (hs _ z), vs, n, d3, d4.rebad fun v a e => e.less hs⟩
section
variable {w : World} {A : Around} {E : Value → Shared → Prop} {s : Shared} {h₀ h : Heap} {t₀ t : Nat} {S : SA} {r g : Heap} {L : Addr} {m : Str → Option Value} {c : Int} {R : Result → Shared → Prop} {bad : List Addr} {it T lm C : Addr} {amt per : Int}
/-- the moving window's hit, when it lets -/
theorem mh_spec {ml : Option Addr} {ats : List Int} {frs : List (Addr × Obj)} {lE : List Env} {cost : Int} {u1 : Tok}
    (rt : Rt w S c r) (kr : Sub r h₀) (am : Amb A 7) (hfr : A.frames = some lE) (Fs : TI.Frs lE frs) (hfs : ∀ p ∈ frs, h₀.get? p.1 = some p.2) (nfr : ∀ p ∈ frs, r.get? p.1 = none) (bfr : ∀ p ∈ frs, p.1 ∈ bad) (hfV : ∀ p ∈ frs, p.1 ≠ S.V)
    (hm : MvAt w S h₀ bad (keyOf amt per) ml ats) (bV : S.V ∈ bad) (hbad : ∀ a ∈ bad, ∃ o, h₀.get? a = some o) (hz : ats.length < 2 ^ 20) (nl : ∀ l, ml = some l → r.get? l = none) (li : Lim w S r lm 241) (i : Itm r it amt per) (gi : GI amt per) (wh : Who r T)
    (h1 : 0 < cost) (h2 : cost ≤ amt) (h3 : amt < 100) (hf : ∀ a, ats[(amt - cost).toNat]? = some a → a < c - per)
    (q : ∀ frs' l' h' t', TI.SameUp frs frs' → (∀ p ∈ frs', h'.get? p.1 = some p.2) → Keeps (S.V :: (ml.toList ++ frs.map (·.1))) h₀ h' → MvAt w S h' bad (keyOf amt per) (some l') (List.replicate cost.toNat c ++ ats) → (∀ l, ml = some l → l' = l) → (ml = none → ∀ b o, h₀.get? b = some o → b < l') → R (.ok (.ret (.bool true))) (stt s h' t')) :
    codeAny (model prog w) A (.call (.ref 220) ⟨[.ref lm, .ref it, .ref T, .int cost u1], []⟩) R (stt s h₀ t₀) := by
  have hVx : ∃ o, h₀.get? S.V = some o := hbad _ bV
  have hlx : ∀ l, ml = some l → ∃ o, h₀.get? l = some o := fun l e => by
    subst e
    obtain ⟨_, _, _, _, _, _, _, _, _, z, _⟩ := hm
    exact ⟨_, z⟩
  have hex : ∀ a ∈ S.V :: (ml.toList ++ frs.map (·.1)), ∃ o, h₀.get? a = some o := fun a ha => by
    rcases List.mem_cons.mp ha with rfl | ha
    · exact hVx
    · rcases List.mem_append.mp ha with ha | ha
      · exact hlx a (Option.mem_toList.mp ha)
      · obtain ⟨p, hp, rfl⟩ := List.mem_map.mp ha
        exact ⟨_, hfs p hp⟩
  have hnr : ∀ a ∈ S.V :: (ml.toList ++ frs.map (·.1)), r.get? a = none := fun a ha => by
    rcases List.mem_cons.mp ha with rfl | ha
    · exact rt.nV
    · rcases List.mem_append.mp ha with ha | ha
      · exact nl a (Option.mem_toList.mp ha)
      · obtain ⟨p, hp, rfl⟩ := List.mem_map.mp ha
        exact nfr p hp
  refine enterI (S.V :: (ml.toList ++ frs.map (·.1))) [(Str.ofString "self", .ref lm), (Str.ofString "item", .ref it), (Str.ofString "identifiers", .ref T), (Str.ofString "cost", .int cost u1)] am rt.cx kr hex hnr (k220 _) rfl (bindsK (rt.cx.X.keeps kr) fun _ => by kernel_rfl) (locs rfl) (by decide) rfl rfl rfl ?_
  intro g L h₁ I F k₁
  have cx := rt.cx.keeps I.kg
  have st := rt.st.keeps I.kg
  have li := li.keeps I.kg
  have i := i.keeps I.kg
  have wh := wh.keeps I.kg
  have hL0 : h₀.get? L = none := Heap.get?_none_of_le (by have := F.above; rw [I.hg, hideAll_size] at this; exact this)
  refine wpAny_execs_cons ?_
  walk_at "bn"
  refine at_lst (s := s) F cx li (pg241 _ _) (hd241 _) (fs241 _) fun _ => ?_
  refine mt_store F cx st (f_aq _) (i_aq _) rfl ?_
  refine callWith_KW (K := K w.params) cx.X (kp_aq _) rfl ?_
  walk_at "bn"
  refine ev_key (s := s) ((am.deeper _).mono (by decide)) F cx i gi wh rfl rfl fun u₂ h₂ t₂ k₂ => ?_
  have F₂ := fr_all F k₂.all
  walk_at "bn"
  refine it_amount (s := s) F₂ cx (i.keeps F₂.keep) fun _ _ => ?_
  walk_at "bn"
  refine mt_item F₂ cx i (f_ixp _) (i_ixp _) ?_
  refine cw_exp (s := s) ((am.deeper _).mono (by decide)) F₂ cx i fun u₃ h₃ t₃ k₃ => ?_
  have F₃ := fr_all F₂ k₃.all
  walk_at "bn"
  refine kwAll_cons ?_
  walk_at "bn"
  refine kwAll_nil ?_
  refine ⟨Fr.cx F₃ cx, ?_⟩
  refine wpAny_call ?_
  have k₀₃ : Keeps [] h₀ h₃ := (k₁.trans k₂).trans k₃
  obtain ⟨oL, esL, epL, hLo, hLd, hLk, hLf⟩ := F₃.ns
  refine aq_spec (s := s) (frs := (L, oL) :: frs) (bad := L :: bad) rt (fun b o e => F₃.keep b o (I.kg b o e)) ((am.deeper _).mono (by decide)) (Around.frames_deeper hfr) ⟨(fun e => nomatch (show ScopeKind.function = ScopeKind.module from e)), rfl, ⟨esL, epL, hLd⟩, Fs⟩ (fun p hp => ?_) (fun p hp => ?_) (fun p hp => ?_) (fun p hp => ?_) ((hm.more (new := [L]) (fun a ha => List.mem_singleton.mp ha ▸ hL0)).keeps k₀₃ (fun _ z => nomatch z) (by simp)) (.tail _ bV) (fun a ha => ?_) hz nl h1 h2 h3 hf fun frs' l' h' t' SU hfs' Kp M e1 e2 => ?_
  · rcases List.mem_cons.mp hp with rfl | hp
    · exact hLo
    · exact k₀₃.all _ _ (hfs p hp)
  · rcases List.mem_cons.mp hp with rfl | hp
    · exact TT.none_of kr hL0
    · exact nfr p hp
  · rcases List.mem_cons.mp hp with rfl | hp
    · exact .head _
    · exact .tail _ (bfr p hp)
  · rcases List.mem_cons.mp hp with rfl | hp
    · intro e
      obtain ⟨o, ho⟩ := hVx
      rw [show L = S.V from e, ho] at hL0
      cases hL0
    · exact hfV p hp
  · rcases List.mem_cons.mp ha with rfl | ha
    · exact ⟨_, hLo⟩
    · obtain ⟨o, ho⟩ := hbad a ha
      exact ⟨o, k₀₃.all _ _ ho⟩
  · dsimp only
    cases frs' with
    | nil => exact SU.elim
    | cons p frs' =>
      refine q frs' l' h' t' SU.2.2 (fun p hp => hfs' p (.tail _ hp)) (fun b o e n => ?_) (M.less fun a ha => .tail _ ha) e1 fun z b o e => e2 z b o (k₀₃.all _ _ e)
      refine Kp b o (k₀₃.all _ _ e) fun z => ?_
      rcases List.mem_cons.mp z with rfl | z
      · exact n (.head _)
      · rcases List.mem_append.mp z with z | z
        · exact n (.tail _ (List.mem_append_left _ z))
        · rcases List.mem_cons.mp z with z | z
          · rw [z, hL0] at e; cases e
          · exact n (.tail _ (List.mem_append_right _ z))
end
end
section
set_option maxHeartbeats 4000000
theorem mk280 (P : Params) : makesIn (K P) 280 = true := by kernel_rfl
theorem mk241 (P : Params) : makesIn (K P) 241 = true := by kernel_rfl
theorem mk335 (P : Params) : makesIn (K P) 335 = true := by kernel_rfl
theorem in280 (P : Params) : findIn (K P) (.ref 280) "__init__" = some (some (.ref 188)) := by kernel_rfl
theorem in241 (P : Params) : findIn (K P) (.ref 241) "__init__" = some (some (.ref 188)) := by kernel_rfl
theorem in335 (P : Params) : findIn (K P) (.ref 335) "__init__" = some (some (.ref 188)) := by kernel_rfl
theorem t188 (P : Params) : typeIn (K P) (.ref 188) = some (.type "function") := by kernel_rfl
theorem sa280 (P : Params) : findIn (K P) (.ref 280) "__setattr__" = some (some (.builtin "object.__setattr__")) := by kernel_rfl
theorem sa241 (P : Params) : findIn (K P) (.ref 241) "__setattr__" = some (some (.builtin "object.__setattr__")) := by kernel_rfl
theorem sa335 (P : Params) : findIn (K P) (.ref 335) "__setattr__" = some (some (.builtin "object.__setattr__")) := by kernel_rfl
theorem po280 (P : Params) : plainOver (K P) 280 = true := by kernel_rfl
theorem po241 (P : Params) : plainOver (K P) 241 = true := by kernel_rfl
theorem po335 (P : Params) : plainOver (K P) 335 = true := by kernel_rfl
theorem tk280 (P : Params) : takerIn (K P) 280 (Str.ofString "storage") = some none := by kernel_rfl
theorem tk241 (P : Params) : takerIn (K P) 241 (Str.ofString "storage") = some none := by kernel_rfl
theorem tk335 (P : Params) : takerIn (K P) 335 (Str.ofString "storage") = some none := by kernel_rfl
theorem mk567 (P : Params) : makesIn (K P) 567 = true := by kernel_rfl
theorem in567 (P : Params) : findIn (K P) (.ref 567) "__init__" = some (some (.ref 505)) := by kernel_rfl
theorem t505 (P : Params) : typeIn (K P) (.ref 505) = some (.type "function") := by kernel_rfl
theorem sa567 (P : Params) : findIn (K P) (.ref 567) "__setattr__" = some (some (.builtin "object.__setattr__")) := by kernel_rfl
theorem po567 (P : Params) : plainOver (K P) 567 = true := by kernel_rfl
theorem tk567n (P : Params) : takerIn (K P) 567 (Str.ofString "namespace") = some (some (.ref 555)) := by kernel_rfl
theorem tk567a (P : Params) : takerIn (K P) 567 (Str.ofString "amount") = some (some (.ref 553)) := by kernel_rfl
theorem tk567m (P : Params) : takerIn (K P) 567 (Str.ofString "multiples") = some (some (.ref 554)) := by kernel_rfl
theorem md555 (P : Params) : typeIn (K P) (.ref 555) = some (.type "member_descriptor") := by kernel_rfl
theorem md553 (P : Params) : typeIn (K P) (.ref 553) = some (.type "member_descriptor") := by kernel_rfl
theorem md554 (P : Params) : typeIn (K P) (.ref 554) = some (.type "member_descriptor") := by kernel_rfl
theorem sl555 (P : Params) : slotIn (K P) 555 567 = some 2 := by kernel_rfl
theorem sl553 (P : Params) : slotIn (K P) 553 567 = some 0 := by kernel_rfl
theorem sl554 (P : Params) : slotIn (K P) 554 567 = some 1 := by kernel_rfl
/-- how a class over object is called, its __init__ a def of the text's -/
theorem mk_obj {w : World} {A : Around} {s : Shared} {h : Heap} {t : Nat} {C f : Addr} {vals : List Value} {R : Result → Shared → Prop} (X : (K w.params).In h) (hm : makesIn (K w.params) C = true) (hi : findIn (K w.params) (.ref C) "__init__" = some (some (.ref f))) (hf : typeIn (K w.params) (.ref f) = some (.type "function"))
    (q : ∀ x dx h₁, Keeps [] h h₁ → h.get? x = none → h.get? dx = none → (∀ b o, h.get? b = some o → b < dx) → dx < x → h₁.get? x = some (instObj C dx) → h₁.get? dx = some (dictOf [] 0) →
      codeAny (model prog w) (A.under (.builtin "type.__call__" ⟨.ref C :: vals, []⟩)) (.call (.ref f) ⟨.ref x :: vals, []⟩) (InitBack x R) (stt s h₁ t)) :
    codeAny (model prog w) A (.call (.ref C) ⟨vals, []⟩) R (stt s h t) := by
  refine make_core (makes_of X hm) (looks_findIn X hi) (fun self => bind_fn X self hf) (.inl rfl) ?_
  have k : ∀ b o, h.get? b = some o → ((h.push emptyDict).push (instObj C h.objs.size)).get? b = some o := fun b o e => Heap.get?_push_of_some _ (Heap.get?_push_of_some _ e)
  have e1 : ((h.push emptyDict).push (instObj C h.objs.size)).get? (h.objs.size + 1) = some (instObj C h.objs.size) := by heap_get
  have e2 : ((h.push emptyDict).push (instObj C h.objs.size)).get? h.objs.size = some emptyDict := Heap.get?_push_of_some _ (Heap.get?_push_size _ rfl)
  refine q (h.objs.size + 1) h.objs.size _ (fun b o e _ => k b o e) (Heap.get?_none_of_le (Nat.le_succ _)) (Heap.get?_none_of_le (Nat.le_refl _)) (fun b o e => Heap.lt_size e) (Nat.lt_succ_self _) e1 e2
section
variable {w : World} {A : Around} {E : Value → Shared → Prop} {s : Shared} {h₀ h : Heap} {t₀ t : Nat} {S : SA} {r g : Heap} {L : Addr} {m : Str → Option Value} {c : Int} {R : Result → Shared → Prop} {C : Addr} {amt per : Int}
theorem lm_make (am : Amb A 2) (cx : Cx w h) (hm : makesIn (K w.params) C = true) (hi : findIn (K w.params) (.ref C) "__init__" = some (some (.ref 188))) (hs : findIn (K w.params) (.ref C) "__setattr__" = some (some (.builtin "object.__setattr__"))) (hp : plainOver (K w.params) C = true) (ht : takerIn (K w.params) C (Str.ofString "storage") = some none) (hd : hasDictIn (K w.params) C = true)
    (q : ∀ x h' t', Keeps [] h h' → h.get? x = none → Lim w S h' x C → R (.ok (.ret (.ref x))) (stt s h' t')) :
    codeAny (model prog w) A (.call (.ref C) ⟨[.ref S.self], []⟩) R (stt s h t) := by
  refine mk_obj (s := s) cx.X hm hi (t188 _) fun x dx h₁ k₁ nx nd lt lt2 ex ed => ?_
  have nb : ∀ b o, h.get? b = some o → b ≠ dx := fun b o e z => by rw [z, nd] at e; cases e
  have cx₁ := cx.keeps k₁.all
  have xd : x ≠ dx := Nat.ne_of_gt lt2
  refine enter (s := stt s h₁ t) (n := 0) (am.make.mono (by decide)) cx₁ (k188 _) rfl (binds := [(Str.ofString "self", .ref x), (Str.ofString "storage", .ref S.self)]) [(dx, dictOf [] 0)] (fun p hp => by rw [List.mem_singleton.mp hp]; exact ed) (bindsK cx₁.X fun _ => by kernel_rfl) (locs rfl) (by decide) rfl rfl rfl ?_
  intro g L h₂ hg hL F N k₂
  have xg : g.get? x = some (instObj C dx) := by rw [hg]; exact hideAll_get _ ex (by simpa using xd)
  have cxg : Cx w g := cx.keeps fun b o e => by rw [hg]; exact hideAll_get _ (k₁.all _ _ e) (by simpa using nb b o e)
  refine wpAny_execs_cons ?_
  walk_at "bn"
  refine plainObj_wpAny_Assign_Attribute ?_
  walk_at "bn"
  refine set_dict (s := stt s h₂ _) (es := []) (n := 0) F cxg.X N ⟨F.keep _ _ xg, rfl, rfl, N.get (.head _)⟩ rfl hs hp ht hd rfl rfl (.head (fun _ z => nomatch z)) (by show (1 : Nat) ≤ 1000; decide) fun h₃ F₃ N₃ => ?_
  dsimp only
  refine wpAny_execs_nil ?_
  refine ⟨rfl, q x h₃ _ (fun b o e _ => ?_) nx ⟨dx, _, _, F₃.keep _ _ xg, N₃.get (.head _)⟩⟩
  exact F₃.keep _ _ (by rw [hg]; exact hideAll_get _ (k₁.all _ _ e) (by simpa using nb b o e))
set_option maxHeartbeats 1000000 in
theorem it_make {u1 u2 : Tok} (am : Amb A 2) (cx : Cx w h) (h0 : per ≠ 0)
    (q : ∀ x h' t', Keeps [] h h' → h.get? x = none → Itm h' x amt per → R (.ok (.ret (.ref x))) (stt s h' t')) :
    codeAny (model prog w) A (.call (.ref 567) ⟨[.int amt u1, .int per u2], []⟩) R (stt s h t) := by
  refine mk_obj (s := s) cx.X (mk567 _) (in567 _) (t505 _) fun x dx h₁ k₁ nx nd lt lt2 ex ed => ?_
  have nb : ∀ b o, h.get? b = some o → b ≠ x := fun b o e z => by rw [z, nx] at e; cases e
  have cx₁ := cx.keeps k₁.all
  have xd : dx ≠ x := Nat.ne_of_lt lt2
  refine enter (s := stt s h₁ t) (n := 0) (am.make.mono (by decide)) cx₁ (k505 _) rfl (binds := [(Str.ofString "self", .ref x), (Str.ofString "amount", .int amt u1), (Str.ofString "multiples", .int per u2), (Str.ofString "namespace", .str (Str.ofString "LIMITER") 1075)]) [(x, instObj 567 dx)] (fun p hp => by rw [List.mem_singleton.mp hp]; exact ex) (bindsK cx₁.X fun _ => by kernel_rfl) (locs rfl) (by decide) rfl rfl rfl ?_
  intro g L h₂ hg hL F N k₂
  have dg : g.get? dx = some (dictOf [] 0) := by rw [hg]; exact hideAll_get _ ed (by simpa using xd)
  have cxg : Cx w g := cx.keeps fun b o e => by rw [hg]; exact hideAll_get _ (k₁.all _ _ e) (by simpa using nb b o e)
  refine wpAny_execs_cons ?_
  walk_at "bn"
  refine plainObj_wpAny_Assign_Attribute ?_
  walk_at "bn"
  refine set_slot (s := stt s h₂ _) (ox' := ⟨.ref 567, some dx, .plain, #[none, none, some (.str (Str.ofString "LIMITER") 1075)]⟩) (od := dictOf [] 0) F cxg.X N ⟨N.get (.head _), rfl, rfl, F.keep _ _ dg⟩ (sa567 _) (po567 _) (tk567n _) (md555 _) (sl555 _) (by decide) rfl rfl (.head (fun _ z => nomatch z)) fun h₃ F₃ N₃ => ?_
  dsimp only
  refine wpAny_execs_cons ?_
  refine plainObj_wpAny_Assign_Attribute ?_
  walk_at "bn"
  refine nm_b F₃ cxg (by kernel_rfl) Boot.«int» (by decide) ?_
  walk_at "bn"
  refine call_int_int ?_
  walk_at "bn"
  refine set_slot (s := stt s h₃ _) (ox' := ⟨.ref 567, some dx, .plain, #[some (.int amt u1), none, some (.str (Str.ofString "LIMITER") 1075)]⟩) (od := dictOf [] 0) F₃ cxg.X N₃ ⟨N₃.get (.head _), rfl, rfl, F₃.keep _ _ dg⟩ (sa567 _) (po567 _) (tk567a _) (md553 _) (sl553 _) (by decide) rfl rfl (.head (fun _ z => nomatch z)) fun h₄ F₄ N₄ => ?_
  dsimp only
  refine wpAny_execs_cons ?_
  refine plainObj_wpAny_Assign_Attribute ?_
  walk_at "bn"
  refine nm_b F₄ cxg (by kernel_rfl) Boot.«int» (by decide) ?_
  walk_at "bn"
  refine BoolOp_or ?_
  walk_at "bn"
  rw [if_pos (by simpa using h0)]
  walk_at "bn"
  refine call_int_int ?_
  walk_at "bn"
  refine set_slot (s := stt s h₄ _) (ox' := ⟨.ref 567, some dx, .plain, #[some (.int amt u1), some (.int per u2), some (.str (Str.ofString "LIMITER") 1075)]⟩) (od := dictOf [] 0) F₄ cxg.X N₄ ⟨N₄.get (.head _), rfl, rfl, F₄.keep _ _ dg⟩ (sa567 _) (po567 _) (tk567m _) (md554 _) (sl554 _) (by decide) rfl rfl (.head (fun _ z => nomatch z)) fun h₅ F₅ N₅ => ?_
  dsimp only
  refine wpAny_execs_nil ?_
  refine ⟨rfl, q x h₅ _ (fun b o e _ => ?_) nx ⟨dx, _, _, _, N₅.get (.head _), F₅.keep _ _ dg⟩⟩
  exact F₅.keep _ _ (by rw [hg]; exact hideAll_get _ (k₁.all _ _ e) (by simpa using nb b o e))
end
end
section
set_option maxHeartbeats 1000000
theorem cl849 (P : Params) : specialIn (K P) (.ref 849) "__call__" = some (some (.builtin "type.__call__")) := by kernel_rfl
theorem tt849 (P : Params) : instIn (K P) (.ref 849) (.type "type") = some true := by kernel_rfl
theorem mro849 (P : Params) (S : Setting) : peek (K P) S (mroOf (.ref 849)) = some [.ref 849, .type "dict", .type "object"] := by kernel_rfl
theorem mb849 (P : Params) (S : Setting) : peek (K P) S (Bind.madeBy (.ref 849)) = some (some "dict.__new__") := by kernel_rfl
theorem it849 (P : Params) (S : Setting) : peek (K P) S (isType (.ref 849)) = some true := by kernel_rfl
theorem sd849 (P : Params) : mroIn (K P) 849 (.type "dict") = some true := by kernel_rfl
theorem ss849 (P : Params) : mroIn (K P) 849 (.ref 849) = some true := by kernel_rfl
theorem in849 (P : Params) : findIn (K P) (.ref 849) "__init__" = some (some (.ref 647)) := by kernel_rfl
theorem t647 (P : Params) : typeIn (K P) (.ref 647) = some (.type "function") := by kernel_rfl
theorem ck_dnew (P : Params) (S : Setting) : peek (K P) S (checkBuiltinCall "dict.__new__" ⟨[.ref 849], []⟩) = some () := by kernel_rfl
theorem plain_dnew : plainId "dict.__new__" = true := by decide +kernel
theorem entry_dnew : entryFor table "dict.__new__" = some Builtin.«dict.__new__» := entryFor_of_tree (by kernel_rfl)
section
variable {w : World} {A : Around} {E : Value → Shared → Prop} {s : Shared} {h : Heap} {t : Nat} {R : Result → Shared → Prop}
theorem ctr_new {Q : Value → Shared → Prop} (X : (K w.params).In h)
    (q : Q (.ref (h.objs.size + 1)) (stt s ((h.push emptyDict).push { cls := .ref 849, dict := some h.objs.size, data := .dict #[] }) t)) :
    wpAny (model prog w) A (call (.builtin "dict.__new__") [.ref 849]) Q E (stt s h t) := by
  refine wpAny_call ?_
  refine codeAny_call_builtin plain_dnew entry_dnew ?_
  refine (Looks.of_peek X (ck_dnew _ _)).at ?_
  unfold Builtin.«dict.__new__»
  dsimp only
  refine wpAny_bind ((Looks.of_peek X (it849 _ _)).at ?_)
  simp only [Bool.not_true, Bool.false_eq_true, if_false]
  refine wpAny_bind ((looks_mroIn X (sd849 _)).at ?_)
  simp only [Bool.not_true, Bool.false_eq_true, if_false]
  refine wpAny_bind ((Looks.of_peek X (mro849 _ _)).at ?_)
  rw [if_neg (by decide)]
  refine wpAny_bind (wpAny_alloc ?_)
  have k1 : ∀ b o, h.get? b = some o → (h.push emptyDict).get? b = some o := fun b o e => Heap.get?_push_of_some _ e
  refine wpAny_bind ?_
  unfold newObj
  dsimp only
  first
    | rw [if_neg (by decide)]
    | skip
  try refine wpAny_bind (wpAny_pure ?_)
  unfold newObjAsIs classHasDel
  refine wpAny_bind (wpAny_alloc ?_)
  dsimp only
  refine wpAny_bind ?_
  refine wpAny_bind (wpAny_load (Heap.get?_push_of_some _ (k1 _ _ (X _ _ (k849 _)))) (wpAny_pure ?_))
  dsimp only [o849]
  simp only [Bool.false_eq_true, if_false]
  refine wpAny_pure (wpAny_pure ?_)
  simp only [Heap.size_push]
  exact q
theorem ctr_core (cx : Cx w h)
    (q : ∀ x d h₁, Keeps [] h h₁ → h.get? x = none → h.get? d = none → d < x → h₁.get? x = some { cls := .ref 849, dict := some d, data := .dict #[] } → h₁.get? d = some (dictOf [] 0) →
      codeAny (model prog w) (A.under (.builtin "type.__call__" ⟨[.ref 849], []⟩)) (.call (.ref 647) ⟨[.ref x], []⟩) (fun r s' => match r with | .ok (.ret v) => v = .none ∧ R (.ok (.ret (.ref x))) s' | _ => False) (stt s h₁ t))  :
    codeAny (model prog w) A (.call (.ref 849) ⟨[], []⟩) R (stt s h t) := by
  have X := cx.X
  have call : Looks (model prog w) h (specialOf (.ref 849) "__call__") (some (.builtin "type.__call__")) := looks_specialIn X (cl849 _)
  have typ : Looks (model prog w) h (isInstance (.ref 849) (.type "type")) true := looks_instIn X (tt849 _)
  have hm : Looks (model prog w) h (mroOf (.ref 849)) [.ref 849, .type "dict", .type "object"] := Looks.of_peek X (mro849 _ _)
  have mb : Looks (model prog w) h (Bind.madeBy (.ref 849)) (some "dict.__new__") := Looks.of_peek X (mb849 _ _)
  refine codeAny_of_tree ?_
  show wpAny _ _ (callAny (.ref 849) _) _ _ _
  refine nd_load (X _ _ (k849 _)) ?_
  show wpAny _ _ (callAny.viaDunder (.ref 849) _) _ _ _
  unfold callAny.viaDunder
  refine wpAny_bind (call.at ?_)
  dsimp only
  rw [tc_bind]
  refine wpAny_bind (wpAny_pure (wpAny_bind (wpAny_pure ?_)))
  refine wpAny_pure (a := Fin.again (.call (.builtin "type.__call__") ⟨[.ref 849], []⟩)) (And.intro rfl ?_)
  refine codeAny_call_builtin_at (Code.quiet_builtin _ (by decide +kernel)) entry_typeCall (check_slot tc_kind tc_split typ (tc_args _ _ _) ?_)
  unfold Builtin.«type.__call__»
  dsimp only
  rw [if_neg (by decide +kernel)]
  refine wpAny_bind (hm.at ?_)
  simp only [List.isEmpty_cons, Bool.false_eq_true, if_false]
  refine wpAny_bind (mb.at ?_)
  dsimp only
  refine wpAny_bind (wpAny_pure ?_)
  refine wpAny_bind (wpAny_holding ?_)
  refine ctr_new X ?_
  have k : Keeps [] h ((h.push emptyDict).push { cls := .ref 849, dict := some h.objs.size, data := .dict #[] }) := fun b o e _ => Heap.get?_push_of_some _ (Heap.get?_push_of_some _ e)
  have ex : ((h.push emptyDict).push { cls := .ref 849, dict := some h.objs.size, data := .dict #[] }).get? (h.objs.size + 1) = some { cls := .ref 849, dict := some h.objs.size, data := .dict #[] } := by heap_get
  have ed : ((h.push emptyDict).push { cls := .ref 849, dict := some h.objs.size, data := .dict #[] }).get? h.objs.size = some (dictOf [] 0) := Heap.get?_push_of_some _ (Heap.get?_push_size _ rfl)
  have q := q (h.objs.size + 1) h.objs.size _ k (Heap.get?_none_of_le (Nat.le_succ _)) (Heap.get?_none_of_le (Nat.le_refl _)) (Nat.lt_succ_self _) ex ed
  have X' := X.keeps k.all
  generalize ((h.push emptyDict).push { cls := .ref 849, dict := some h.objs.size, data := .dict #[] }) = h₁ at *
  have t1 : Looks (model prog w) h₁ (typeOf (.ref (h.objs.size + 1))) (.ref 849) := (Looks.ld ex).andThen .now
  have i1 : Looks (model prog w) h₁ (isInstance (.ref (h.objs.size + 1)) (.ref 849)) true := t1.andThen (looks_mroIn X' (ss849 _))
  refine wpAny_bind (i1.at ?_)
  simp only [Bool.not_true, Bool.false_eq_true, if_false]
  refine wpAny_bind (wpAny_holding ?_)
  unfold callSpecial? specialOf
  refine wpAny_bind (wpAny_bind (t1.at ((looks_findIn X' (in849 _)).at ?_)))
  refine wpAny_holding ?_
  refine wpAny_bind ((bind_fn X' _ (t647 _)).at ?_)
  refine wpAny_bind (wpAny_call (codeAny_mono q fun r s' z => ?_))
  rcases r with e | (v | _ | _ | _) <;> first | exact z.elim | skip
  obtain ⟨rfl, z⟩ := z
  exact wpAny_pure (wpAny_pure z)
end
end
section
set_option maxHeartbeats 1000000
section
variable {w : World} {A : Around} {E : Value → Shared → Prop} {s : Shared} {h : Heap} {t : Nat} {R : Result → Shared → Prop} {env : Env}
theorem iter_dict : typeLookup (.type "dict") "__iter__" = pure (some (.builtin "dict.__iter__")) := by rw [typeLookup_type, builtinLookup_eq_fast]; kernel_rfl
theorem merge_none {f : Value} {x : Sem Value} {d : Addr} {n : Nat} {Q : Addr → Shared → Prop} (hne : (d == sysModules) = false)
    (q : wpAny (model prog w) A x (fun v s₂ => v = .ref d ∧ s₂.heap.get? d = some (dictOf [] n) ∧ s₂.heap.get? s.heap.objs.size = some emptyDict ∧ Q s.heap.objs.size s₂) E { s with heap := s.heap.push emptyDict }) :
    wpAny (model prog w) A (mergedKeywords f [(none, x)]) Q E s := by
  unfold mergedKeywords
  refine wpAny_bind (wpAny_alloc ?_)
  dsimp only
  refine wpAny_bind (wpAny_holding ?_)
  rw [List.forIn_cons]
  refine wpAny_bind ?_
  refine wpAny_bind ?_
  refine wpAny_bind ?_
  refine wpAny_pure (a := ()) ?_
  refine wpAny_bind (wpAny_mono q (fun v s₂ h₂ => ?_) fun _ _ e => e)
  obtain ⟨rfl, hd, he, hq⟩ := h₂
  have ht : s₂.TypeIs (.ref d) "dict" := ⟨_, hd, rfl⟩
  refine wpAny_bind ?_
  refine wpAny_onRaise ?_
  refine wpAny_holding ?_
  refine wpAny_tryCatch ?_
  refine wpAny_onRaise ?_
  unfold mergeMapping
  have hid : isSubtype (.type "dict") (.type "dict") = pure true := by rw [isSubtype_type]; kernel_rfl
  refine wpAny_bind ?_
  unfold isInstance
  refine wpAny_bind (wpAny_typeOf ht (wpAny_of_eq hid ?_))
  dsimp only
  rw [if_pos rfl]
  refine wpAny_bind (wpAny_specialOf ht iter_dict (wpAny_bind (wpAny_pure ?_)))
  rw [show (some (Value.builtin "dict.__iter__") == some (Value.builtin "dict.__iter__")) = true from by decide +kernel]
  dsimp only
  rw [hne, if_neg Bool.false_ne_true]
  refine wpAny_bind (wpAny_dictEntries he rfl ?_)
  rw [if_pos (by rfl)]
  refine wpAny_bind (wpAny_dictEntries hd rfl ?_)
  refine wpAny_bind ?_
  refine wpAny_pure (a := PUnit.unit) ?_
  refine wpAny_bind (wpAny_dictEntries hd rfl ?_)
  refine wpAny_bind (wpAny_dictEpoch hd rfl ?_)
  refine wpAny_bind (wpAny_pure (a := PUnit.unit) ?_)
  refine wpAny_pure ?_
  refine wpAny_pure ?_
  dsimp only
  refine wpAny_pure ?_
  refine wpAny_pure (a := ()) ?_
  exact wpAny_pure hq
/-- a call by `**` of an empty dict -/
theorem cw_ds {f : Value} {first : List Value} {pos p : Pos} {e ke : Expr} {d : Addr} {n : Nat} {Q : Value → Shared → Prop} {P : Heap → Prop} (hk : ∀ h, P h → ∃ k, (k = Keeper.frame ∨ k = Keeper.machine ∨ k = Keeper.boundFrame) ∧ Looks (model prog w) h (keeperOf f) k) (hne : (d == sysModules) = false)
    (q : wpAny (model prog w) A (spliced (backTo pos (starEach [e] env))) (fun vs s₁ => wpAny (model prog w) A (eval ke env) (fun v s₂ => v = .ref d ∧ s₂.heap.get? d = some (dictOf [] n) ∧ s₂.heap.get? s₁.heap.objs.size = some emptyDict ∧ P s₂.heap ∧
      wpAny (model prog w) A (call f (first ++ vs)) Q E s₂) E { s₁ with heap := s₁.heap.push emptyDict }) E s)
    (he : starEach [e] env = [(false, eval e env)] := by rfl) :
    wpAny (model prog w) A (callWith pos f first (backTo pos (starEach [e] env)) (backToKw pos (keywordEach [⟨none, ke, p⟩] env))) Q E s := by
  have hkw : backToKw pos (keywordEach [⟨none, ke, p⟩] env) = [(none, do let v ← eval ke env; standAt pos; pure v)] := rfl
  rw [hkw]
  rw [he] at q ⊢
  unfold callWith evalArgs
  refine wpAny_bind (wpAny_holding ?_)
  refine wpAny_bind ?_
  refine wpAny_mono q (fun vs s₁ h₁ => ?_) fun _ _ e => e
  refine wpAny_bind (wpAny_pure ?_)
  dsimp only
  refine wpAny_holding ?_
  rw [if_neg (by simp)]
  refine wpAny_bind (merge_none (n := n) hne ?_)
  refine wpAny_bind ?_
  refine wpAny_mono h₁ (fun v s₂ h₂ => ?_) fun _ _ e => e
  obtain ⟨rfl, hd, h3, hX, hq⟩ := h₂
  refine wpAny_bind (wpAny_standAt (wpAny_pure ?_))
  refine ⟨rfl, hd, h3, ?_⟩
  refine wpAny_bind (wpAny_pure ?_)
  refine wpAny_bind (wpAny_holding ?_)
  unfold keywordsIn
  refine wpAny_bind (wpAny_dictEntries h3 rfl ?_)
  refine wpAny_bind (wpAny_pure (a := ([] : List (Str × Value))) ?_)
  refine wpAny_pure (wpAny_pure ?_)
  refine wpAny_bind (wpAny_standAt ?_)
  obtain ⟨k, hk', L⟩ := hk _ hX
  refine wpAny_bind (L.here ?_)
  have tail : ∀ {t : Sem Value}, wpAny (model prog w) A t Q E s₂ → wpAny (model prog w) A (t >>= fun r => holding [r] point >>= fun _ => pure r) Q E s₂ :=
    fun ht => wpAny_bind (wpAny_mono ht (fun r s₂ hr => wpAny_bind (wpAny_holding (wpAny_point (wpAny_pure hr)))) fun _ _ x => x)
  have marked (mk : Value) : wpAny (model prog w) A (callMarked mk f (first ++ vs) []) Q E s₂ := by unfold callMarked; exact Calls.wpAny_keep hq
  rcases hk' with rfl | rfl | rfl <;> dsimp only
  all_goals first
    | exact tail (marked _)
    | exact tail (wpAny_operating hq)
end
end
section
set_option maxHeartbeats 1000000
theorem slot_wd_get : Slot "wrapper_descriptor" "__get__" "wrapper_descriptor.__get__" := .of (owner := "wrapper_descriptor") (n := "__get__") (by rw [typeLookup_type, builtinLookup_eq_fast]; kernel_rfl) (by decide +kernel) (by decide +kernel) (by decide +kernel)
  (by first | exact .inl (by decide +kernel) | exact .inr (by decide +kernel)) (by rw [isSubtype_type]; kernel_rfl)
theorem entry_wd_get : entryFor table "wrapper_descriptor.__get__" = some Builtin.«wrapper_descriptor.__get__» := entryFor_of_tree (by kernel_rfl)
theorem args_wd_get (a b c : Value) : argsOk "wrapper_descriptor.__get__" ⟨[a, b, c], []⟩ := by unfold argsOk; kernel_rfl
theorem type_dinit : typeOf (.builtin "dict.__init__") = pure (.type "wrapper_descriptor") := by kernel_rfl
section
variable {w : World} {A : Around} {E : Value → Shared → Prop} {s : Shared} {h : Heap} {t : Nat} {R : Result → Shared → Prop} {env : Env}
theorem wd_get {x C : Addr} {Q : Fin → Shared → Prop} (hi : Looks (model prog w) h (isInstance (.ref x) (.type "dict")) true)
    (q : Q (.done (.ret (.ref h.objs.size))) (stt s (h.push { cls := .type "method-wrapper", data := .fields #[.builtin "dict.__init__", .ref x] }) t)) :
    wpAny (model prog w) A (Builtin.«wrapper_descriptor.__get__» ⟨[.builtin "dict.__init__", .ref x, .ref C], []⟩) Q E (stt s h t) := by
  unfold Builtin.«wrapper_descriptor.__get__»
  refine wpAny_bind ?_
  refine wpAny_pure (a := (Value.builtin "dict.__init__", some (Value.ref x), some (Value.ref C))) ?_
  dsimp only
  refine wpAny_bind ?_
  refine wpAny_bind ?_
  refine wpAny_pure (a := (Str.ofString "__init__", Value.type "dict")) ?_
  dsimp only
  refine wpAny_bind (hi.at ?_)
  simp only [Bool.not_true, Bool.false_eq_true, if_false]
  refine wpAny_pure ?_
  unfold newFields
  refine wpAny_bind (wpAny_newObj_type ?_ (by size_fits))
  exact wpAny_pure q
theorem al_init (P : Params) : alongIn (K P) (Str.ofString "__init__") [.type "dict", .type "object"] = some (some (.builtin "dict.__init__")) := by kernel_rfl
theorem sg_ga {so x : Addr} {tk : Tok} {Q : Fin → Shared → Prop} (X : (K w.params).In h)
    (hso : h.get? so = some (ks_superObj 849 x 849)) (hno : Looks (model prog w) h (opaqueClassAbove (.ref 849)) none) (hi : Looks (model prog w) h (isInstance (.ref x) (.type "dict")) true) (hxC : x ≠ 849)
    (hq : Q (.done (.ret (.ref h.objs.size))) (stt s (h.push { cls := .type "method-wrapper", data := .fields #[.builtin "dict.__init__", .ref x] }) t)) :
    wpAny (model prog w) A (Builtin.«super.__getattribute__» ⟨[.ref so, .str (Str.ofString "__init__") tk], []⟩) Q E (stt s h t) := by
  have hlk := slot_wd_get.lookup
  have hne : (Value.ref x == Value.ref 849) = false := by simp [hxC]
  have hC : Looks (model prog w) h (mroOf (.ref 849)) [.ref 849, .type "dict", .type "object"] := Looks.of_peek X (mro849 _ _)
  have hl : (([.ref 849, .type "dict", .type "object"] : List Value).dropWhile (· != .ref 849)).drop 1 = [.type "dict", .type "object"] := by decide
  have hdt : (ks_superObj 849 x 849).data = .fields #[.ref 849, .ref x, .ref 849] := rfl
  have f0 : (#[.ref 849, .ref x, .ref 849] : Array Value)[0]? = some (.ref 849) := rfl
  have f1 : (#[.ref 849, .ref x, .ref 849] : Array Value)[1]? = some (.ref x) := rfl
  have f2 : (#[.ref 849, .ref x, .ref 849] : Array Value)[2]? = some (.ref 849) := rfl
  have hn : (Str.ofString "__init__" == ("__class__" : Str)) = false := by decide
  have hf := al_init w.params
  unfold Builtin.«super.__getattribute__»
  repeat (first
    | (with_reducible refine wpAny_field hso hdt f0 ?_) | (with_reducible refine wpAny_field hso hdt f1 ?_) | (with_reducible refine wpAny_field hso hdt f2 ?_)
    | (with_reducible refine ks_wpAny_notOpaque hno ?_)
    | (with_reducible refine Looks.at hC ?_; rw [hl])
    | (simp only [hn, hne, Bool.or_false, Bool.false_eq_true, if_false])
    | wp_step
    | dsimp only)
  have es : (toString "dict" ++ toString "." ++ toString (Str.ofString "__init__").toString) = "dict.__init__" := by decide +kernel
  have hk : builtinKind "dict.__init__" = some .slot := by rw [builtinKind_eq_fast]; kernel_rfl
  simp only [es, hk]
  refine wpAny_of_eq hlk ?_
  dsimp only
  refine wpAny_bind ?_
  refine wpAny_holding ?_
  refine wpAny_call_entry slot_wd_get type_dinit entry_wd_get ?_ (args_wd_get _ _ _)
  refine wd_get (s := s) hi ?_
  refine ⟨_, rfl, ?_⟩
  exact wpAny_bind (wpAny_pure (wpAny_pure (wpAny_pure (wpAny_pure hq))))
end
end
section
set_option maxHeartbeats 1000000
abbrev mwO (x : Addr) : Obj := { cls := .type "method-wrapper", data := .fields #[.builtin "dict.__init__", .ref x] }
theorem op849 (P : Params) (S : Setting) : peek (K P) S (opaqueClassAbove (.ref 849)) = some none := by kernel_rfl
theorem plain_dinit : plainId "dict.__init__" = true := by decide +kernel
theorem entry_dinit : entryFor table "dict.__init__" = some Builtin.«dict.__init__» := entryFor_of_tree (by kernel_rfl)
theorem ck_dinit (x : Addr) : checkBoundCall "dict.__init__" ⟨[.ref x], []⟩ = pure () := by kernel_rfl
section
variable {w : World} {A : Around} {E : Value → Shared → Prop} {s : Shared} {h g : Heap} {t : Nat} {R : Result → Shared → Prop} {env : Env} {L : Addr} {m : Str → Option Value}
theorem sg_method {so x : Addr} {pl : Sem Bool} {Q : Value × List Value → Shared → Prop} (X : (K w.params).In h)
    (hso : h.get? so = some (ks_superObj 849 x 849)) (hi : Looks (model prog w) h (isInstance (.ref x) (.type "dict")) true) (hxC : x ≠ 849)
    (hq : Q (.ref h.objs.size, []) (stt s (h.push (mwO x)) (t + 1))) :
    wpAny (model prog w) A (getMethod (.ref so) (Str.ofString "__init__") pl) Q E (stt s h t) := by
  have hlk := F.ks_slot_super_ga.lookup
  have hcan := F.ks_canon_super_ga
  have hno : Looks (model prog w) h (opaqueClassAbove (.ref 849)) none := Looks.of_peek X (op849 _ _)
  have hT : ∀ t', (stt s h t').TypeIs (.ref so) "super" := fun _ => ⟨_, hso, rfl⟩
  unfold getMethod
  refine wpAny_bind (wpAny_specialOf (hT _) hlk ?_)
  show wpAny _ _ (if (Manifest.canonical "super.__getattribute__" != "object.__getattribute__") = true then _ else _) _ _ _
  rw [if_pos hcan]
  unfold getAttr getAttrBy
  refine wpAny_bind (wpAny_bind (wpAny_mkText (wpAny_holding (wpAny_bind (wpAny_typeOf (hT _) (wpAny_bind (wpAny_of_eq hlk ?_)))))))
  show wpAny _ _ (getAttrByItsOwn (.ref so) (.str (Str.ofString "__init__") t) (.type "super") (.builtin "super.__getattribute__") true false) _ _ _
  unfold getAttrByItsOwn hookBefore callGetattribute boundAndCalled
  refine wpAny_bind (wpAny_of_eq (show (if onTheHeap (.type "super") then typeLookup (.type "super") "__getattr__" else pure none) = pure none from rfl) ?_)
  refine wpAny_bind (wpAny_attempt (wpAny_holding ?_))
  show wpAny _ _ (bindSpecial (.builtin "super.__getattribute__") (.ref so) >>= _) _ _ _
  refine wpAny_bind (wpAny_of_eq (F.ks_slot_super_ga.bind _) ?_)
  refine wpAny_mono (Q := fun v s' => v = .ref h.objs.size ∧ s' = stt s (h.push (mwO x)) (t + 1)) (E := fun _ _ => False)
    (wpAny_call_entry F.ks_slot_super_ga (hT _) F.ks_entry_super_ga (sg_ga (s := s) X hso hno hi hxC ⟨_, rfl, rfl, rfl⟩) (F.ks_gaArgs_super _ _)) (fun v s' hv => ?_) fun _ _ z => z.elim
  obtain ⟨rfl, rfl⟩ := hv
  exact wpAny_pure (wpAny_pure hq)
theorem keep_mw {q x : Addr} (M : Model) (h : Heap) (e : h.get? q = some (mwO x)) : ∃ k, (k = Keeper.frame ∨ k = Keeper.machine ∨ k = Keeper.boundFrame) ∧ Looks M h (keeperOf (.ref q)) k := by
  refine ⟨.machine, .inr (.inl rfl), ?_⟩
  intro A Q E s k z
  unfold keeperOf
  refine wpAny_bind (wpAny_load (k _ _ e) ?_)
  dsimp only
  rw [if_pos (by decide +kernel), if_pos (by decide +kernel)]
  exact wpAny_pure z
theorem call_mw {q x : Addr} {Q : Value → Shared → Prop} (e : h.get? q = some (mwO x)) (D : DLike (model prog w) h x) (z : Q .none (stt s h t)) :
    wpAny (model prog w) A (call (.ref q) []) Q E (stt s h t) := by
  refine wpAny_call ?_
  refine codeAny_of_tree ?_
  show wpAny _ A.in1 (callAny (.ref q) ⟨[], []⟩) _ _ _
  unfold callAny
  refine wpAny_bind (wpAny_load e ?_)
  dsimp only
  rw [if_pos (by decide +kernel)]
  show wpAny _ _ (if (Value.type "method-wrapper" != Value.type "method") = true then (checkBoundCall "dict.__init__" ⟨[.ref x], []⟩ >>= fun _ => again (.builtin "dict.__init__" ⟨[.ref x], []⟩)) else _) _ _ _
  rw [if_pos (by decide +kernel)]
  refine wpAny_bind (wpAny_of_eq (ck_dinit x) ?_)
  refine wpAny_pure ⟨plainId_quiet plain_dinit _, codeAny_builtin entry_dinit ?_⟩
  rw [Around.under_plainId plain_dinit _]
  unfold Builtin.«dict.__init__»
  refine wpAny_bind ?_
  refine wpAny_bind (notOrd D ?_)
  refine wpAny_bind (wpAny_of_eq (a := x) rfl (wpAny_pure ?_))
  dsimp only
  unfold Builtin.Dict.updateCommon
  refine wpAny_bind ?_
  unfold Builtin.Dict.addKeywords
  refine wpAny_pure (a := PUnit.unit) ?_
  exact wpAny_pure z
theorem wp_eq {α : Type} {M : Model} {A : Around} {E : Value → Shared → Prop} {s : Shared} {t t' : Sem α} {Q : α → Shared → Prop} (e : t = t') (q : wpAny M A t' Q E s) : wpAny M A t Q E s := e ▸ q
theorem upd_spec {x : Addr} (am : Amb A 2) (cx : Cx w h) (q : ∀ h' t', Keeps [] h h' → R (.ok (.ret .none)) (stt s h' t')) :
    codeAny (model prog w) A (.call (.ref 692) ⟨[.ref x, .none], []⟩) R (stt s h t) := by
  refine enterB (s := stt s h t) (s₁ := stt s (h.push emptyDict) t) (n := 1) am cx (k692 _) rfl (binds := [(Str.ofString "self", .ref x), (Str.ofString "iterable", .none), (Str.ofString "kwds", .ref h.objs.size)]) ?_ (fun _ _ e => Heap.get?_push_of_some _ e) [(h.objs.size, emptyDict)] (fun p hp => by rw [List.mem_singleton.mp hp]; exact Heap.get?_push_size _ rfl) (locs rfl) (by decide) rfl rfl rfl ?_
  · intro M A E Q hq
    unfold bindArgs
    dsimp only [fnX]
    refine wpAny_bind ?_
    refine wpAny_pure (a := ([(Str.ofString "self", Value.ref x), (Str.ofString "iterable", Value.none)], ([] : List (Str × Value)))) ?_
    refine wpAny_bind (wpAny_seqItems (cx.X _ _ (k684 _)) rfl ?_)
    refine wp_eq (t' := alloc emptyDict >>= fun d => pure [(Str.ofString "self", .ref x), (Str.ofString "iterable", .none), (Str.ofString "kwds", .ref d)]) (by kernel_rfl) ?_
    exact wpAny_bind (wpAny_alloc (wpAny_pure hq))
  intro g L h₁ hg hL F N k₁
  have kg : ∀ b o, h.get? b = some o → g.get? b = some o := fun b o e => hg ▸ hideAll_get _ (Heap.get?_push_of_some _ e) (by have := Heap.lt_size e; simp; exact Nat.ne_of_lt this)
  have cx' : Cx w g := cx.keeps kg
  refine wpAny_execs_cons ?_
  walk_at "bn"
  refine wpAny_pure (a := Value.bool false) ?_
  walk_at "bn"
  rw [if_neg Bool.false_ne_true]
  walk_at "bn"
  have ndx : (h.objs.size == sysModules) = false := by
    have h2 : 2 < h.objs.size := Heap.lt_size (cx.X _ _ (k2 _))
    exact beq_false_of_ne (fun e => by rw [e] at h2; exact absurd h2 (by decide))
  refine wpAny_truthy_dict (knd := strKind prog w) (kvs := []) ndx ⟨_, _, _, N.get (.head _), ⟨rfl, rfl, rfl⟩, rfl, (fun e he => by simp at he), .nil, List.nodup_nil⟩ (by decide) ?_
  rw [if_neg (by decide)]
  walk_at "bn"
  exact q _ _ fun b o e _ => F.keep _ _ (kg _ _ e)
theorem entry_dga : entryFor table "dict.__getattribute__" = some Builtin.«object.__getattribute__» :=
  entryFor_alias (id' := "object.__getattribute__") (by kernel_rfl) (by decide +kernel) (by decide +kernel) (by kernel_rfl)
theorem kind_dga : builtinKind "dict.__getattribute__" = some .method ∨ builtinKind "dict.__getattribute__" = some .slot := .inr (by rw [builtinKind_eq_fast]; kernel_rfl)
/-- an attribute of a Counter, by a descriptor of its class -/
theorem get_bindD {x C : Addr} {ox : Obj} {od : Option Obj} {name : Str} {fb a : Value} {expr : Bool} {Q : Value → Shared → Prop} {s : Shared} {K : Frag} (X : K.In s.heap) (I : InstAt s.heap x ox C od) (hga : findIn K (.ref C) "__getattribute__" = some (some (.builtin "dict.__getattribute__")))
    (hsub : mroIn K C (.type "dict") = some true) (hf : findObj K C od name = some (.bind fb a)) (hk : findIn K (.ref C) "__getattr__" = some none)
    (h : wpAny (model prog w) A.in1 (call fb [a, .ref x, .ref C]) (fun v s' => wpAny (model prog w) A (handedOut v) Q E s') (fun _ _ => False) { s with toks := s.toks + 1 }) :
    wpAny (model prog w) A (getAttr (.ref x) name expr) Q E s := by
  obtain ⟨hh', gg, d, t, os⟩ := s
  have L0 := I.type (M := model prog w)
  have L1 := looks_find (M := model prog w) X I hf
  have L2 := looks_findIn (M := model prog w) X hk
  have L3 := looks_findIn (M := model prog w) X hga
  unfold getAttr getAttrBy
  refine wpAny_bind (wpAny_mkText (wpAny_holding (wpAny_bind (L0.at (wpAny_bind (L3.at ?_))))))
  dsimp only
  rw [show (onTheHeap (.ref C) && Value.builtin "dict.__getattribute__" == Value.builtin "object.__getattribute__") = false from by rw [show (Value.builtin "dict.__getattribute__" == Value.builtin "object.__getattribute__") = false from by decide +kernel, Bool.and_false], if_neg (by decide)]
  unfold getAttrByItsOwn
  refine wpAny_bind ?_
  show wpAny _ _ (typeLookup (.ref C) "__getattr__") _ _ _
  refine L2.at ?_
  refine wpAny_bind (wpAny_attempt (wpAny_holding ?_))
  unfold callGetattribute
  rw [show (expr && onTheHeap (Value.builtin "dict.__getattribute__")) = false from Bool.and_false _, if_neg (by decide)]
  unfold boundAndCalled
  rw [PySem.F.slot_dict_getattribute.bind]
  refine wpAny_bind (wpAny_pure ?_)
  refine wpAny_call ?_
  refine codeAny_call_builtin PySem.F.slot_dict_getattribute.plain entry_dga ?_
  refine chk (n := "__getattribute__") (owner := "dict") (rest := [.str name t]) (kw := []) ?_ ?_ ?_ ?_ ?_
  · decide +kernel
  · exact kind_dga
  · exact L0.andThen (looks_mroIn X hsub)
  · exact PySem.F.args_dict_getattribute_2 _ _
  unfold Builtin.«object.__getattribute__»
  refine wpAny_bind (wpAny_pure ?_)
  dsimp only
  refine wpAny_bind (wpAny_pure (wpAny_bind (L0.at (wpAny_bind (L1.at ?_)))))
  show wpAny _ _ (holding [a] (call fb [a, .ref x, .ref C]) >>= ret) _ _ _
  exact wpAny_bind (wpAny_holding (wpAny_mono h (fun v s' z => wpAny_pure z) fun _ _ z => z.elim))
theorem fo692 (P : Params) : findObj (K P) 849 (some (dictOf [] 0)) (Str.ofString "update") = some (.bind (.builtin "function.__get__") (.ref 692)) := by kernel_rfl
theorem fn692 (P : Params) : fnIn (K P) 692 = true := by kernel_rfl
theorem Call_starK {M : Model} {A : Around} {E : Value → Shared → Prop} {s : Shared} {env : Env} {o : Expr} {name : Str} {apos pos : Pos} {args : List Expr} {kws : List Keyword} {Q : Value → Shared → Prop}
    (h : wpAny M A (eval o env) (fun ov s₁ => wpAny M A (getAttr ov name true) (fun f s₂ => wpAny M A (callWith pos f [] (backTo pos (starEach args env)) (backToKw pos (keywordEach kws env))) Q E s₂) E s₁) E s)
    (he : eval (.Call (.Attribute o name apos) args kws pos) env = (do
      let ov ← eval o env
      standAt apos.atName
      let (f, first) ← holding [ov] (do pure (← getAttr ov name true, []))
      let cp ← pure pos
      callWith cp f first (backTo pos (starEach args env)) (backToKw pos (keywordEach kws env))) := by rfl) : wpAny M A (eval (.Call (.Attribute o name apos) args kws pos) env) Q E s := by
  rw [he]
  refine wpAny_bind (wpAny_mono h (fun ov s₁ h₁ => wpAny_bind (wpAny_standAt (wpAny_bind (wpAny_holding (wpAny_bind (wpAny_mono h₁ (fun f s₂ h₂ => wpAny_pure ?_) fun _ _ x => x)))))) fun _ _ x => x)
  exact wpAny_bind (wpAny_pure h₂)
theorem t692 (P : Params) : typeIn (K P) (.ref 692) = some (.type "function") := by kernel_rfl
theorem ki692 (P : Params) : findIn (K P) (.ref 849) (Str.ofString "update") = some (some (.ref 692)) := by kernel_rfl
theorem kp692 (P : Params) : keepIn (K P) (.ref 692) = true := by kernel_rfl
theorem is692 (P : Params) : isFn (K P) (.ref 692) = true := by kernel_rfl
theorem cls849 (P : Params) : ∃ cd, clsIn (K P) 849 = some cd := by
  unfold clsIn
  rw [k849]
  exact ⟨_, rfl⟩
theorem sup849 (P : Params) : nsIn (K P) mainGlobals "super" = some none := by kernel_rfl
/-- Counter.__init__ -/
theorem ctr_init {x d : Addr} (am : Amb A 4) (cx : Cx w h) (hx : h.get? x = some { cls := .ref 849, dict := some d, data := .dict #[] }) (hd : h.get? d = some (dictOf [] 0))
    (q : ∀ h' t', Keeps [] h h' → R (.ok (.ret .none)) (stt s h' t')) :
    codeAny (model prog w) A (.call (.ref 647) ⟨[.ref x], []⟩) R (stt s h t) := by
  refine codeAny_call_function (o := o647 w.params) (body := fBody (nthS (cBody (nthS prog.main.body 26)) 0)) (by have := am.dep; omega) (cx.X _ _ (k647 _)) rfl rfl rfl rfl (codeRec_of cx.X rfl) ?_
  show wpAny _ _ (bindArgs _ ⟨[.ref x], []⟩) _ _ _
  unfold bindArgs
  dsimp only [fnX]
  refine wpAny_bind ?_
  refine wpAny_pure (a := ([(Str.ofString "self", Value.ref x)], ([] : List (Str × Value)))) ?_
  refine wpAny_bind (wpAny_seqItems (cx.X _ _ (k639 _)) rfl ?_)
  refine wp_eq (t' := alloc emptyDict >>= fun d => pure [(Str.ofString "self", .ref x), (Str.ofString "iterable", .none), (Str.ofString "kwds", .ref d)]) (by kernel_rfl) ?_
  refine wpAny_bind (wpAny_alloc (wpAny_pure ?_))
  have k₀ : ∀ b o, h.get? b = some o → (h.push emptyDict).get? b = some o := fun b o e => Heap.get?_push_of_some _ e
  refine wpAny_newFunctionEnv (by decide) (locs rfl) (fun h₁ hns hsb => ⟨(cx.keeps k₀).nolimit.fresh _ hsb, ?_⟩) rfl
  have k₁ : ∀ b o, (h.push emptyDict).get? b = some o → h₁.get? b = some o := fun b o e => hsb.extBut b o (Nat.ne_of_lt (Heap.lt_size e)) (Heap.get?_push_of_some _ e)
  have kk : ∀ b o, h.get? b = some o → h₁.get? b = some o := fun b o e => k₁ b o (k₀ b o e)
  have F : Fr h (h.push emptyDict).objs.size h₁ (fun y => ([(Str.ofString "self", Value.ref x), (Str.ofString "iterable", Value.none), (Str.ofString "kwds", Value.ref h.objs.size)] : List (Str × Value)).reverse.lookup y) := ⟨hns, kk, by rw [Heap.size_push]; exact Nat.le_succ _⟩
  have N : News h (h.push emptyDict).objs.size h₁ [(h.objs.size, emptyDict)] := fun p hp => by
    rw [List.mem_singleton.mp hp]
    exact ⟨k₁ _ _ (Heap.get?_push_size _ rfl), by rw [Heap.size_push]; exact Nat.ne_of_lt (Nat.lt_succ_self _), Heap.get?_none_of_le (Nat.le_refl _)⟩
  refine ks_codeAny_funcAt ?_
  generalize hL : (h.push emptyDict).objs.size = L at F N
  show _root_.PySem.wpAt (model prog w) (A.deeper (ksEnv (Str.ofString "Counter.__init__") (fScope (nthS (cBody (nthS prog.main.body 26)) 0)) L 647 (.ref 646) 634)) (.func (fBody (nthS (cBody (nthS prog.main.body 26)) 0)) (ksEnv (Str.ofString "Counter.__init__") (fScope (nthS (cBody (nthS prog.main.body 26)) 0)) L 647 (.ref 646) 634)) (execs (fBody (nthS (cBody (nthS prog.main.body 26)) 0)) (ksEnv (Str.ofString "Counter.__init__") (fScope (nthS (cBody (nthS prog.main.body 26)) 0)) L 647 (.ref 646) 634)) _ _ _
  obtain ⟨p, loose, mean, mg, mb, T⟩ := cx.T
  obtain ⟨cd, hcd⟩ := cls849 w.params
  refine ks_wpAt_execs_cons ?_
  refine ks_wpAt_Expr_any ?_
  refine ks_wpAt_MethodCall ?_
  refine ks_node (K := K w.params) (odx := some (dictOf [] 0)) (cda := 646) (D := 849) (C := 849) (x := x) (news := [(h.objs.size, emptyDict)]) F cx.X N T (k647 _) rfl rfl ⟨kk _ _ hx, rfl, rfl, kk _ _ hd⟩ (k646 _) rfl rfl (k634 _) hcd (ss849 _) (sup849 _) (by decide) rfl rfl rfl rfl (by decide +kernel) (by decide +kernel) fun so h₂ F₂ N₂ _ => ?_
  have X₂ : (K w.params).In h₂ := cx.X.keeps F₂.keep
  have hx₂ : h₂.get? x = some { cls := .ref 849, dict := some d, data := .dict #[] } := F₂.keep _ _ hx
  have D₂ : DLike (model prog w) h₂ x := DLike.counter X₂ hx₂ rfl
  have x849 : x ≠ 849 := fun e => by rw [e, cx.X _ _ (k849 _)] at hx; cases hx
  have i₂ : Looks (model prog w) h₂ (isInstance (.ref x) (.type "dict")) true := ((Looks.ld hx₂).andThen .now).andThen (looks_mroIn X₂ (sd849 _))
  refine sg_method (s := s) X₂ (N₂.get (.head _)) i₂ x849 ?_
  have k₃ : ∀ b o, h₂.get? b = some o → (h₂.push (mwO x)).get? b = some o := fun b o e => Heap.get?_push_of_some _ e
  refine callWith_of (P := fun h => h.get? h₂.objs.size = some (mwO x)) rfl (fun h e => keep_mw _ _ e) (evalArgs_nil3 ⟨Heap.get?_push_size _ rfl, ?_⟩)
  refine call_mw (s := s) (x := x) (Heap.get?_push_size _ rfl) (DLike.counter (X₂.keeps k₃) (k₃ _ _ hx₂) rfl) ?_
  have F₃ := F₂.push (mwO x)
  have N₃ := N₂.push F₂ (mwO x)
  dsimp only
  refine wpAt_of_wpAny ?_
  refine wpAny_execs_cons ?_
  walk_at "bn"
  have I₃ : InstAt (h₂.push (mwO x)) x { cls := .ref 849, dict := some d, data := .dict #[] } 849 (some (dictOf [] 0)) := ⟨F₃.keep _ _ hx, rfl, rfl, F₃.keep _ _ hd⟩
  refine Call_starK ?_
  walk_at "bn"
  refine get_bindD (s := stt s (h₂.push (mwO x)) _) (K := K w.params) (Fr.cx F₃ cx) I₃ (ga849 _) (sd849 _) (fo692 _) (gt849 _) ?_
  refine wpAny_call ?_
  refine fn_get (s := stt s (h₂.push (mwO x)) _) (Fr.cx F₃ cx) (t692 _) ?_
  refine handed_on rfl ?_
  generalize hq : (h₂.push (mwO x)) = h₃ at *
  have F₄ := F₃.push (methodObj (.ref 692) (.ref x))
  have N₄ := N₃.push F₃ (methodObj (.ref 692) (.ref x))
  have kdne : (h.objs.size == sysModules) = false := by
    have h2 : 2 < h.objs.size := Heap.lt_size (cx.X _ _ (k2 _))
    exact beq_false_of_ne (fun e => by rw [e] at h2; exact absurd h2 (by decide))
  refine cw_ds (w := w) (d := h.objs.size) (n := 0) (P := MethP (K w.params) h₃.objs.size 692 (.ref x)) (keeps_M (fn692 _)) kdne ?_
  walk_at "bn"
  have F₅ := F₄.push emptyDict
  have N₅ := N₄.push F₄ emptyDict
  refine nameX_L F₅ (v := .ref h.objs.size) (by rfl) ?_
  refine ⟨rfl, N₅.get (.tail _ (.tail _ (.tail _ (.tail _ (.head _))))), N₅.get (.head _), ⟨N₅.get (.tail _ (.head _)), Fr.cx F₅ cx⟩, ?_⟩
  refine wpAny_call ?_
  refine method_call (s := stt s _ _) (N₅.get (.tail _ (.head _))) ?_
  refine upd_spec (s := s) ((am.deeper _).mono (by decide)) (cx.keeps F₅.keep) fun h₅ t₅ k₅ => ?_
  dsimp only
  refine wpAny_execs_nil ?_
  exact q _ _ fun b o e _ => k₅.all _ _ (F₅.keep _ _ e)
end
end
section
set_option maxHeartbeats 1000000
theorem mk972 (P : Params) : makesIn (K P) 972 = true := by kernel_rfl
theorem in972 (P : Params) : findIn (K P) (.ref 972) "__init__" = some (some (.ref 867)) := by kernel_rfl
theorem t867 (P : Params) : typeIn (K P) (.ref 867) = some (.type "function") := by kernel_rfl
theorem sa972 (P : Params) : findIn (K P) (.ref 972) "__setattr__" = some (some (.builtin "object.__setattr__")) := by kernel_rfl
theorem po972 (P : Params) : plainOver (K P) 972 = true := by kernel_rfl
theorem tkA (P : Params) : takerIn (K P) 972 (Str.ofString "clock") = some none := by kernel_rfl
theorem tkB (P : Params) : takerIn (K P) 972 (Str.ofString "storage") = some none := by kernel_rfl
theorem tkC (P : Params) : takerIn (K P) 972 (Str.ofString "expirations") = some none := by kernel_rfl
theorem tkD (P : Params) : takerIn (K P) 972 (Str.ofString "events") = some none := by kernel_rfl
theorem gn_ctr (P : Params) : nsIn (K P) mainGlobals (Str.ofString "Counter") = some (some (.ref 849)) := by kernel_rfl
theorem kp_ctr (P : Params) : keepIn (K P) (.ref 849) = true := by kernel_rfl
abbrev ctrO (cd : Addr) : Obj := { cls := .ref 849, dict := some cd, data := .dict #[] }
section
variable {w : World} {A : Around} {E : Value → Shared → Prop} {s : Shared} {h g : Heap} {t : Nat} {R : Result → Shared → Prop} {env : Env} {L : Addr} {m : Str → Option Value}
theorem ctr_make (am : Amb A 5) (cx : Cx w h)
    (q : ∀ x d h' t', Keeps [] h h' → h.get? x = none → h.get? d = none → d < x → h'.get? x = some (ctrO d) → h'.get? d = some (dictOf [] 0) → R (.ok (.ret (.ref x))) (stt s h' t')) :
    codeAny (model prog w) A (.call (.ref 849) ⟨[], []⟩) R (stt s h t) := by
  refine ctr_core (s := s) cx fun x d h₁ k₁ nx nd lt ex ed => ?_
  refine ctr_init (s := s) (am.make.mono (by decide)) (cx.keeps k₁.all) ex ed fun h₂ t₂ k₂ => ?_
  exact ⟨rfl, q x d h₂ t₂ (k₁.trans k₂) nx nd lt (k₂.all _ _ ex) (k₂.all _ _ ed)⟩
abbrev stoD (w : World) (lam C E V : Value) (t1 t2 t3 t4 : Tok) : List DictEntry :=
  [⟨PyData.keyHash w.params (Str.ofString "clock"), .str (Str.ofString "clock") t1, lam⟩, ⟨PyData.keyHash w.params (Str.ofString "storage"), .str (Str.ofString "storage") t2, C⟩,
   ⟨PyData.keyHash w.params (Str.ofString "expirations"), .str (Str.ofString "expirations") t3, E⟩, ⟨PyData.keyHash w.params (Str.ofString "events"), .str (Str.ofString "events") t4, V⟩]
theorem sto_make {lam : Value} (am : Amb A 8) (cx : Cx w h)
    (q : ∀ x dx C cd Ex V t1 t2 t3 t4 h' t', Keeps [] h h' → (∀ a ∈ [x, dx, C, cd, Ex, V], h.get? a = none) → C ≠ Ex → C ≠ V → Ex ≠ V → h'.get? x = some (instObj 972 dx) → h'.get? dx = some (dictOf (stoD w lam (.ref C) (.ref Ex) (.ref V) t1 t2 t3 t4) 4) →
      h'.get? C = some (ctrO cd) → h'.get? cd = some (dictOf [] 0) → h'.get? Ex = some emptyDict → h'.get? V = some emptyDict → R (.ok (.ret (.ref x))) (stt s h' t')) :
    codeAny (model prog w) A (.call (.ref 972) ⟨[lam], []⟩) R (stt s h t) := by
  refine mk_obj (s := s) cx.X (mk972 _) (in972 _) (t867 _) fun x dx h₁ k₁ nx nd lt lt2 ex ed => ?_
  have nb : ∀ b o, h.get? b = some o → b ≠ dx := fun b o e z => by rw [z, nd] at e; cases e
  have cx₁ := cx.keeps k₁.all
  have xd : x ≠ dx := Nat.ne_of_gt lt2
  refine enter (s := stt s h₁ t) (n := 6) (am.make.mono (by decide)) cx₁ (k867 _) rfl (binds := [(Str.ofString "self", .ref x), (Str.ofString "clock", lam)]) [(dx, dictOf [] 0)] (fun p hp => by rw [List.mem_singleton.mp hp]; exact ed) (bindsK cx₁.X fun _ => by kernel_rfl) (locs rfl) (by decide) rfl rfl rfl ?_
  intro g L h₂ hg hL F N k₂
  have xg : g.get? x = some (instObj 972 dx) := by rw [hg]; exact hideAll_get _ ex (by simpa using xd)
  have hkg : ∀ b o, h.get? b = some o → g.get? b = some o := fun b o e => by rw [hg]; exact hideAll_get _ (k₁.all _ _ e) (by simpa using nb b o e)
  have cxg : Cx w g := cx.keeps hkg
  refine wpAny_execs_cons ?_
  walk_at "bn"
  refine plainObj_wpAny_Assign_Attribute ?_
  walk_at "bn"
  refine set_dict (s := stt s h₂ _) (es := []) (n := 0) F cxg.X N ⟨F.keep _ _ xg, rfl, rfl, N.get (.head _)⟩ rfl (sa972 _) (po972 _) (tkA _) (hd972 _) rfl rfl (.head (fun _ z => nomatch z)) (by show (1 : Nat) ≤ 1000; decide) fun h₃ F₃ N₃ => ?_
  dsimp only
  refine wpAny_execs_cons ?_
  refine plainObj_wpAny_Assign_Attribute ?_
  walk_at "bn"
  refine nm_g F₃ cxg (gn_ctr _) ?_
  refine callWith_D0 (w := w) (Fr.cx F₃ cxg) (kp_ctr _) ?_
  refine wpAny_call ?_
  refine ctr_make (s := s) ((am.make.deeper _).mono (by decide)) (cxg.keeps F₃.keep) fun C cd h₄ t₄ k₄ nC ncd ltC eC ecd => ?_
  dsimp only
  have F₄ := fr_all F₃ k₄.all
  have dx3 := N₃.get (.head _)
  have gn : ∀ a, h₃.get? a = none → g.get? a = none := fun a e => TT.none_of F₃.keep e
  have ln : ∀ a, h₃.get? a = none → a ≠ L := fun a e z => by obtain ⟨o, _, _, ho, _⟩ := F₃.ns; rw [z, ho] at e; cases e
  have Cdx : C ≠ dx := fun e => by rw [e, dx3] at nC; cases nC
  have cddx : cd ≠ dx := fun e => by rw [e, dx3] at ncd; cases ncd
  have N₄ : News g L h₄ [(dx, _), (C, ctrO cd), (cd, dictOf [] 0)] := fun p hp => by
    rcases List.mem_cons.mp hp with rfl | hp
    · exact ⟨k₄.all _ _ dx3, (N₃ _ (.head _)).2⟩
    · rcases List.mem_cons.mp hp with rfl | hp
      · exact ⟨eC, ln _ nC, gn _ nC⟩
      · rw [List.mem_singleton.mp hp]
        exact ⟨ecd, ln _ ncd, gn _ ncd⟩
  walk_at "bn"
  refine set_dict (s := stt s h₄ _) F₄ cxg.X N₄ ⟨F₄.keep _ _ xg, rfl, rfl, N₄.get (.head _)⟩ rfl (sa972 _) (po972 _) (tkB _) (hd972 _) rfl rfl (.head (fun p hp => ?_)) (by show (2 : Nat) ≤ 1000; decide) fun h₅ F₅ N₅ => ?_
  · rcases List.mem_cons.mp hp with rfl | hp
    · exact Cdx
    · rw [List.mem_singleton.mp hp]; exact cddx
  dsimp only
  refine wpAny_execs_cons ?_
  refine plainObj_wpAny_Assign_Attribute ?_
  refine wpAny_Dict_empty ?_
  have F₆ := F₅.push emptyDict
  have N₆ := N₅.push F₅ emptyDict
  have ltE : ∀ p ∈ [(dx, _), (C, ctrO cd), (cd, dictOf [] 0)], p.1 < h₅.objs.size := fun p hp => Heap.lt_size (N₅ p hp).1
  walk_at "bn"
  refine set_dict (s := stt s (h₅.push emptyDict) _) F₆ cxg.X N₆ ⟨F₆.keep _ _ xg, rfl, rfl, N₆.get (.tail _ (.head _))⟩ rfl (sa972 _) (po972 _) (tkC _) (hd972 _) rfl rfl (.tail (Nat.ne_of_gt (ltE _ (.head _))) (.head (fun p hp => ?_))) (by show (3 : Nat) ≤ 1000; decide) fun h₇ F₇ N₇ => ?_
  · rcases List.mem_cons.mp hp with rfl | hp
    · exact Cdx
    · rw [List.mem_singleton.mp hp]; exact cddx
  dsimp only
  refine wpAny_execs_cons ?_
  refine plainObj_wpAny_Assign_Attribute ?_
  refine wpAny_Dict_empty ?_
  have F₈ := F₇.push emptyDict
  have N₈ := N₇.push F₇ emptyDict
  walk_at "bn"
  have ltV : ∀ p ∈ [(h₅.objs.size, emptyDict), (dx, _), (C, ctrO cd), (cd, dictOf [] 0)], p.1 < h₇.objs.size := fun p hp => Heap.lt_size (N₇ p hp).1
  refine set_dict (s := stt s (h₇.push emptyDict) _) F₈ cxg.X N₈ ⟨F₈.keep _ _ xg, rfl, rfl, N₈.get (.tail _ (.tail _ (.head _)))⟩ rfl (sa972 _) (po972 _) (tkD _) (hd972 _) rfl rfl (.tail (Nat.ne_of_gt (ltV _ (.tail _ (.head _)))) (.tail (Nat.ne_of_gt (ltE _ (.head _))) (.head (fun p hp => ?_)))) (by show (4 : Nat) ≤ 1000; decide) fun h₉ F₉ N₉ => ?_
  · rcases List.mem_cons.mp hp with rfl | hp
    · exact Cdx
    · rw [List.mem_singleton.mp hp]; exact cddx
  dsimp only
  refine wpAny_execs_nil ?_
  have none3 : ∀ a, h₃.get? a = none → h.get? a = none := fun a e => TT.none_of (fun b o e => F₃.keep _ _ (hkg _ _ e)) e
  have noneP : ∀ H : Heap, (∀ b o, h.get? b = some o → H.get? b = some o) → h.get? H.objs.size = none := fun H k => TT.none_of k (Heap.get?_none_of_le (Nat.le_refl _))
  have nE := noneP h₅ fun b o e => F₅.keep _ _ (hkg _ _ e)
  have nV := noneP h₇ fun b o e => F₇.keep _ _ (hkg _ _ e)
  refine ⟨rfl, q x dx C cd h₅.objs.size h₇.objs.size _ _ _ _ h₉ _ (fun b o e _ => F₉.keep _ _ (hkg _ _ e)) (fun a ha => ?_) (Nat.ne_of_lt (ltE _ (.tail _ (.head _)))) (Nat.ne_of_lt (ltV _ (.tail _ (.tail _ (.head _))))) (Nat.ne_of_lt (ltV _ (.head _))) (F₉.keep _ _ xg) (N₉.get (.tail _ (.tail _ (.head _)))) (N₉.get (.tail _ (.tail _ (.tail _ (.head _))))) (N₉.get (.tail _ (.tail _ (.tail _ (.tail _ (.head _)))))) (N₉.get (.tail _ (.head _))) (N₉.get (.head _))⟩
  simp only [List.mem_cons, List.not_mem_nil, or_false] at ha
  rcases ha with rfl | rfl | rfl | rfl | rfl | rfl
  · exact nx
  · exact nd
  · exact none3 _ nC
  · exact none3 _ ncd
  · exact nE
  · exact nV
end
end
section
set_option maxHeartbeats 1000000
section
variable {M : Model} {w : World} {A : Around} {E : Value → Shared → Prop} {s : Shared} {h h₀ : Heap} {t t₀ : Nat} {g : Heap} {L a : Addr} {m : Str → Option Value} {cn : Str} {cs : Scope} {ccd : Value} {cl : List (Str × Addr)} {x : Str} {pos : Pos} {v : Value}
/-- a name that is a cell of the function's own -/
theorem nm_c {c : Addr} {Q : Value → Shared → Prop} (hc : cl.lookup x = some c) (hv : s.heap.IsCell c (some v)) (q : Q v s) (hk : cs.kind = .function := by rfl) (hx : (envX cn cs L a ccd cl).kindOf x = some .cell := by rfl) (hb : (x == ("__debug__" : Str)) = false := by decide) :
    wpAny M A (eval (.Name x pos) (envX cn cs L a ccd cl)) Q E s := wpAny_Name (wpAny_loadName_cell hk hx hc hv q) hb
/-- an item of a list in the base -/
theorem sub_g {value slice : Expr} {l : Addr} {vs : Array Value} {k : Int} {u : Tok} {Q : Value → Shared → Prop} (F : Fr g L s.heap m) (hl : g.IsList l vs) (h0 : 0 ≤ k) (hhi : k < 2 ^ 63) (hx : vs[k.toNat]? = some v) (q : Q v s)
    (hs : subscripted slice false (.ref l) (.int k u) = operate [.ref l, .int k u] (getItem (.ref l) (.int k u)) := by with_unfolding_all rfl) :
    wpAny (model prog w) A (subscriptTail value slice (.ref l) (.int k u)) Q E s := sub_list (hl.at fun o e => F.keep l o e) h0 hhi hx q hs
/-- a cell is stored -/
theorem s_cell {c : Addr} {v₀ : Option Value} {Q : Unit → Shared → Prop} (hc : cl.lookup x = some c) (hv : h.IsCell c v₀) 
    (q : ∀ h', h'.IsCell c (some v) → Heap.SameBut c h h' → Q () (stt s h' t)) (hk : cs.kind = .function := by rfl) (hx : (envX cn cs L a ccd cl).kindOf x = some .cell := by rfl) :
    wpAny M A (storeName (envX cn cs L a ccd cl) x v) Q E (stt s h t) := wpAny_storeName_cell (s := stt s h t) hk hx hc hv q
end
end
local macro_rules | `(tactic| walk_at "bn_one") => `(tactic| ((with_reducible show wpAny _ _ (eval (Expr.Name _ _) _) _ _ _); refine nm_c (by rfl) (by assumption) ?_))
section
set_option maxHeartbeats 4000000
/-- the six numbers of the gate -/
structure Gt where
  a : Int
  b : Int
  c : Int
  d : Int
  e : Int
  f : Int
structure Ls where
  opened : Int
  fixed : Int
  moving : Int
  ahead : Int
  here : Int
/-- one line of the list -/
def lStep (g : Gt) (m : Int) (s : Ls) (p : Int × Int) : Ls :=
  let o := if s.fixed = 0 ∨ s.opened + g.b ≤ p.1 then p.1 else s.opened
  let f := (if s.fixed = 0 ∨ s.opened + g.b ≤ p.1 then 0 else s.fixed) + p.2
  { opened := o, fixed := f, moving := if m < p.1 + g.d then s.moving + p.2 else s.moving,
    ahead := if p.1 / g.f = m / g.f - 1 then s.ahead + p.2 else s.ahead, here := if p.1 / g.f = m / g.f then s.here + p.2 else s.here }
def lFold (g : Gt) (m : Int) (l : List (Int × Int)) : Ls := l.foldl (lStep g m) ⟨0, 0, 0, 0, 0⟩
def lWhole (g : Gt) (m : Int) (s : Ls) : Int := ((List.range s.ahead.toNat).filter fun (u : Nat) => decide (((u : Int) + 1) * g.f ≤ s.ahead * (g.f - m % g.f))).length
def lFixed (g : Gt) (m : Int) (s : Ls) : Int := if s.opened + g.b ≤ m then 0 else s.fixed
/-- what is left of the three limits -/
def lawLeft (g : Gt) (l : List (Int × Int)) (m : Int) : Int × Int × Int := let s := lFold g m l; (g.a - lFixed g m s, g.c - s.moving, g.e - s.here - lWhole g m s)
def gateV (g : Gt) (u : Nat → Tok) : List Value := [.int g.a (u 0), .int g.b (u 1), .int g.c (u 2), .int g.d (u 3), .int g.e (u 4), .int g.f (u 5)]
def gateN (g : Gt) : Int → Option Int
  | .ofNat 0 => some g.a
  | .ofNat 1 => some g.b
  | .ofNat 2 => some g.c
  | .ofNat 3 => some g.d
  | .ofNat 4 => some g.e
  | .ofNat 5 => some g.f
  | _ => none
theorem gateN_at {g : Gt} {u : Nat → Tok} {k i : Int} (e : gateN g k = some i) : 0 ≤ k ∧ k < 6 ∧ ∃ t, (gateV g u).toArray[k.toNat]? = some (.int i t) := by
  unfold gateN at e
  split at e <;> first | (cases e; done) | (cases e; exact ⟨by decide, by decide, _, rfl⟩)
theorem sub_gt {w : World} {A : Around} {E : Value → Shared → Prop} {s : Shared} {g : Heap} {L : Addr} {m : Str → Option Value} {value slice : Expr} {l : Addr} {gt : Gt} {ug : Nat → Tok} {k i : Int} {u : Tok} {Q : Value → Shared → Prop} (F : Fr g L s.heap m) (hl : g.IsList l (gateV gt ug).toArray) (e : gateN gt k = some i) (q : ∀ t, Q (.int i t) s)
    (hs : subscripted slice false (.ref l) (.int k u) = operate [.ref l, .int k u] (getItem (.ref l) (.int k u)) := by with_unfolding_all rfl) :
    wpAny (model prog w) A (subscriptTail value slice (.ref l) (.int k u)) Q E s := by
  obtain ⟨h0, h1, t, ht⟩ := gateN_at (u := ug) e
  exact sub_g F hl h0 (by omega) ht (q t) hs
end
local macro_rules | `(tactic| walk_at "bn_one") => `(tactic| ((with_reducible show wpAny _ _ (subscriptTail _ _ (Value.ref _) (Value.int _ _)) _ _ _); refine sub_gt (by assumption) (by assumption) (by rfl) fun _ => ?_))
section
set_option maxHeartbeats 4000000
def GateAt (h : Heap) (G : Addr) (g : Gt) : Prop := ∃ u, h.IsList G (gateV g u).toArray
/-- a line: a tuple of a moment and a cost -/
def PairAt (h : Heap) (v : Value) (p : Int × Int) : Prop := ∃ T u1 u2 n, v = .ref T ∧ h.get? T = some ⟨.type "tuple", none, .seq #[.int p.1 u1, .int p.2 u2] n, #[]⟩
inductive Pairs' (h : Heap) : List Value → List (Int × Int) → Prop
  | nil : Pairs' h [] []
  | cons {v p vs ps} : PairAt h v p → Pairs' h vs ps → Pairs' h (v :: vs) (p :: ps)
theorem Pairs'.at {h : Heap} : ∀ {vs ps}, Pairs' h vs ps → ∀ {i : Nat} {v : Value}, vs[i]? = some v → ∃ p, ps[i]? = some p ∧ PairAt h v p
  | _, _, .nil, i, v, e => by simp at e
  | _, _, .cons x r, 0, v, e => by simp at e; subst e; exact ⟨_, by simp, x⟩
  | _, _, .cons x r, i + 1, v, e => by
    have := r.at (i := i) (by simpa using e)
    simpa using this
theorem Pairs'.len {h : Heap} : ∀ {vs ps}, Pairs' h vs ps → vs.length = ps.length
  | _, _, .nil => rfl
  | _, _, .cons _ r => by simp [r.len]
theorem Pairs'.keeps {h h' : Heap} (k : ∀ b o, h.get? b = some o → h'.get? b = some o) : ∀ {vs ps}, Pairs' h vs ps → Pairs' h' vs ps
  | _, _, .nil => .nil
  | _, _, .cons ⟨T, u1, u2, n, e, f⟩ r => .cons ⟨T, u1, u2, n, e, k _ _ f⟩ (r.keeps k)
def LogAt (h : Heap) (a : Addr) (l : List (Int × Int)) : Prop := ∃ vs, h.IsList a vs.toArray ∧ Pairs' h vs l
abbrev stLL : Stmt := nthS prog.main.body 30
def llC (L : Addr) : List (Str × Addr) := [(Str.ofString "share", L + 2), (Str.ofString "gate", L + 1)]
abbrev llE (L : Addr) : Env := envX (Str.ofString "_law_left") (fScope stLL) L 979 (.ref 978) (llC L)
section
variable {w : World} {A : Around} {E : Value → Shared → Prop} {s : Shared} {h h₀ : Heap} {t t₀ : Nat} {r g : Heap} {L : Addr} {m : Str → Option Value} {R : Result → Shared → Prop} {G Lg : Addr} {gt : Gt} {lg : List (Int × Int)} {mo : Int}
theorem enterLL {u : Tok} (am : Amb A 1) (cx : Cx w h₀)
    (q : ∀ L h₁ t₁, Fr h₀ L h₁ (fun y => if y = Str.ofString "moment" then some (.int mo u) else if y = Str.ofString "log" then some (.ref Lg) else none) → h₁.IsCell (L + 1) (some (.ref G)) → h₁.IsCell (L + 2) none → 
      wpAny (model prog w) (A.deeper (llE L)) (execs (fBody stLL) (llE L)) (fun fl s' => R (.ok (.ret (match fl with | .ret v => v | _ => .none))) s') (fun _ _ => False) (stt s h₁ t₁)) :
    codeAny (model prog w) A (.call (.ref 979) ⟨[.ref G, .ref Lg, .int mo u], []⟩) R (stt s h₀ t₀) := by
  refine codeAny_call_cells (a := 979) (fd := fnX (Str.ofString "_law_left") (Str.ofString "_law_left") (fParams stLL) (fBody stLL) (fScope stLL) [] .none .none (.str (docS (fBody stLL)) 1776) (.str (Str.ofString "law_bn0043_01") 1769) none (.ref 978) .none) (body := fBody stLL) (by have := am.dep; omega) (cx.X _ _ (k979 _)) rfl cx.nolimit (codeRec_of cx.X rfl) rfl (binds := [(Str.ofString "gate", .ref G), (Str.ofString "log", .ref Lg), (Str.ofString "moment", .int mo u)]) (by kernel_rfl) rfl ?_ ?_ rfl rfl rfl
  · intro y hy
    simp only [List.mem_cons, List.not_mem_nil, or_false] at hy
    rcases hy with rfl | rfl | rfl
    · exact .inr ⟨rfl, rfl⟩
    · exact .inl rfl
    · exact .inl rfl
  · intro s₁ x
    obtain ⟨h₁, t₁, rfl, hk⟩ := x.done
    refine wpAny_mono (q h₀.objs.size h₁ t₁ ⟨x.toInCall.ns, hk, Nat.le_refl _⟩ (x.cell (Str.ofString "gate") (h₀.objs.size + 1) rfl) (x.cell (Str.ofString "share") (h₀.objs.size + 2) rfl)) (fun _ _ z => z) fun _ _ z => z.elim
end
end
section
set_option maxHeartbeats 1000000
section
variable {w : World} {A : Around} {E : Value → Shared → Prop} {s : Shared} {h h₀ : Heap} {t t₀ : Nat} {r g : Heap} {L : Addr} {m : Str → Option Value} {R : Result → Shared → Prop} {G Lg : Addr} {gt : Gt} {lg : List (Int × Int)} {mo : Int}
theorem IsCell.keepsK {h h' : Heap} {c : Addr} {v : Option Value} {as : List Addr} (x : h.IsCell c v) (k : Keeps as h h') (n : c ∉ as) : h'.IsCell c v := let ⟨o, a, b⟩ := x; ⟨o, k _ _ a n, b⟩
def llT : Expr := match nthS (fBody stLL) 6 with | .For t _ _ _ _ => t | _ => .Constant .none 0 default
def llB : List Stmt := match nthS (fBody stLL) 6 with | .For _ _ b _ _ => b | _ => []
/-- the loop's locals -/
structure LM (m : Str → Option Value) (st : Ls) (mo : Int) : Prop where
  o : ∃ u, m (Str.ofString "opened") = some (.int st.opened u)
  f : ∃ u, m (Str.ofString "fixed") = some (.int st.fixed u)
  mv : ∃ u, m (Str.ofString "moving") = some (.int st.moving u)
  a : ∃ u, m (Str.ofString "ahead") = some (.int st.ahead u)
  he : ∃ u, m (Str.ofString "here") = some (.int st.here u)
  mo : ∃ u, m (Str.ofString "moment") = some (.int mo u)
structure LP (m : Str → Option Value) (p : Int × Int) : Prop where
  th : ∃ u, m (Str.ofString "then") = some (.int p.1 u)
  co : ∃ u, m (Str.ofString "cost") = some (.int p.2 u)
abbrev LPost (w : World) (s : Shared) (g : Heap) (L : Addr) (h : Heap) (st : Ls) (mo : Int) (p : Int × Int) (Q : Flow → Shared → Prop) : Prop := ∀ h' t' m', Fr g L h' m' → Keeps [L] h h' → LM m' st mo → LP m' p → Q .next (stt s h' t')
variable {st : Ls} {p : Int × Int} {Q : Flow → Shared → Prop} {ug : Nat → Tok}
theorem ll_s0 (F : Fr g L h m) (hG : g.IsList G (gateV gt ug).toArray) (c1 : h.IsCell (L + 1) (some (.ref G))) (x : LM m st mo) (y : LP m p) 
    (q : LPost w s g L h { st with opened := if st.fixed = 0 ∨ st.opened + gt.b ≤ p.1 then p.1 else st.opened, fixed := if st.fixed = 0 ∨ st.opened + gt.b ≤ p.1 then 0 else st.fixed } mo p Q) :
    wpAny (model prog w) (A.deeper (llE L)) (exec (nthS llB 0) (llE L)) Q E (stt s h t) := by
  obtain ⟨⟨_, o⟩, ⟨_, f⟩, ⟨_, mv⟩, ⟨_, a⟩, ⟨_, he⟩, ⟨_, mm⟩⟩ := x
  obtain ⟨⟨_, th⟩, ⟨_, co⟩⟩ := y
  show wpAny _ _ (exec (Stmt.If _ _ _ _) _) _ _ _
  have yes : ∀ t', (st.fixed = 0 ∨ st.opened + gt.b ≤ p.1) → wpAny (model prog w) (A.deeper (llE L)) (execs [nthS (match nthS llB 0 with | .If _ b _ _ => b | _ => []) 0, nthS (match nthS llB 0 with | .If _ b _ _ => b | _ => []) 1] (llE L)) Q E (stt s h t') := by
    intro t' hc
    rw [if_pos hc, if_pos hc] at q
    refine wpAny_execs_cons ?_
    show wpAny _ _ (exec (Stmt.Assign [Expr.Name _ _] _ _) _) _ _ _
    walk_at "bn"
    refine s_loc (s := s) F nilN fun h₁ t₁ F₁ _ k₁ => ?_
    dsimp only
    refine wpAny_execs_cons ?_
    show wpAny _ _ (exec (Stmt.Assign [Expr.Name _ _] _ _) _) _ _ _
    walk_at "bn"
    refine s_loc (s := s) F₁ nilN fun h₂ t₂ F₂ _ k₂ => ?_
    dsimp only
    refine wpAny_execs_nil ?_
    exact q _ _ _ F₂ (k₁.trans k₂) ⟨⟨_, rfl⟩, ⟨_, rfl⟩, ⟨_, mv⟩, ⟨_, a⟩, ⟨_, he⟩, ⟨_, mm⟩⟩ ⟨⟨_, th⟩, ⟨_, co⟩⟩
  walk_at "bn"
  by_cases hf : st.fixed = 0
  · rw [if_pos (by simpa using hf), if_pos rfl]
    exact yes _ (.inl hf)
  · rw [if_neg (by simpa using hf)]
    walk_at "bn"
    by_cases hb : st.opened + gt.b ≤ p.1
    · rw [if_pos (by simpa using hb)]
      walk_at "bn"
      try rw [if_pos rfl]
      exact yes _ (.inr hb)
    · rw [if_neg (by simpa using hb)]
      walk_at "bn"
      try rw [if_neg Bool.false_ne_true]
      try refine wpAny_execs_nil ?_
      have hc : ¬ (st.fixed = 0 ∨ st.opened + gt.b ≤ p.1) := fun z => z.elim hf hb
      rw [if_neg hc, if_neg hc] at q
      exact q _ _ _ F Keeps.refl ⟨⟨_, o⟩, ⟨_, f⟩, ⟨_, mv⟩, ⟨_, a⟩, ⟨_, he⟩, ⟨_, mm⟩⟩ ⟨⟨_, th⟩, ⟨_, co⟩⟩
theorem ll_s1 (F : Fr g L h m) (x : LM m st mo) (y : LP m p) (q : LPost w s g L h { st with fixed := st.fixed + p.2 } mo p Q) :
    wpAny (model prog w) (A.deeper (llE L)) (exec (nthS llB 1) (llE L)) Q E (stt s h t) := by
  obtain ⟨⟨_, o⟩, ⟨_, f⟩, ⟨_, mv⟩, ⟨_, a⟩, ⟨_, he⟩, ⟨_, mm⟩⟩ := x
  obtain ⟨⟨_, th⟩, ⟨_, co⟩⟩ := y
  show wpAny _ _ (exec (Stmt.Assign [Expr.Name _ _] _ _) _) _ _ _
  walk_at "bn"
  refine s_loc (s := s) F nilN fun h₁ t₁ F₁ _ k₁ => ?_
  exact q _ _ _ F₁ k₁ ⟨⟨_, o⟩, ⟨_, rfl⟩, ⟨_, mv⟩, ⟨_, a⟩, ⟨_, he⟩, ⟨_, mm⟩⟩ ⟨⟨_, th⟩, ⟨_, co⟩⟩
theorem ll_s2 (F : Fr g L h m) (hG : g.IsList G (gateV gt ug).toArray) (c1 : h.IsCell (L + 1) (some (.ref G))) (x : LM m st mo) (y : LP m p) 
    (q : LPost w s g L h { st with moving := if mo < p.1 + gt.d then st.moving + p.2 else st.moving } mo p Q) :
    wpAny (model prog w) (A.deeper (llE L)) (exec (nthS llB 2) (llE L)) Q E (stt s h t) := by
  obtain ⟨⟨_, o⟩, ⟨_, f⟩, ⟨_, mv⟩, ⟨_, a⟩, ⟨_, he⟩, ⟨_, mm⟩⟩ := x
  obtain ⟨⟨_, th⟩, ⟨_, co⟩⟩ := y
  show wpAny _ _ (exec (Stmt.If _ _ _ _) _) _ _ _
  walk_at "bn"
  by_cases hc : mo < p.1 + gt.d
  · rw [if_pos hc] at q
    rw [if_pos (by simpa using hc)]
    walk_at "bn"
    refine s_loc (s := s) F nilN fun h₁ t₁ F₁ _ k₁ => ?_
    dsimp only
    refine wpAny_execs_nil ?_
    exact q _ _ _ F₁ k₁ ⟨⟨_, o⟩, ⟨_, f⟩, ⟨_, rfl⟩, ⟨_, a⟩, ⟨_, he⟩, ⟨_, mm⟩⟩ ⟨⟨_, th⟩, ⟨_, co⟩⟩
  · rw [if_neg hc] at q
    rw [if_neg (by simpa using hc)]
    walk_at "bn"
    exact q _ _ _ F Keeps.refl ⟨⟨_, o⟩, ⟨_, f⟩, ⟨_, mv⟩, ⟨_, a⟩, ⟨_, he⟩, ⟨_, mm⟩⟩ ⟨⟨_, th⟩, ⟨_, co⟩⟩
theorem ll_s3 (hf0 : 0 < gt.f) (hf1 : gt.f < 1000000) (F : Fr g L h m) (hG : g.IsList G (gateV gt ug).toArray) (c1 : h.IsCell (L + 1) (some (.ref G))) (x : LM m st mo) (y : LP m p) 
    (q : LPost w s g L h { st with here := if p.1 / gt.f = mo / gt.f then st.here + p.2 else st.here } mo p Q) :
    wpAny (model prog w) (A.deeper (llE L)) (exec (nthS llB 3) (llE L)) Q E (stt s h t) := by
  obtain ⟨⟨_, o⟩, ⟨_, f⟩, ⟨_, mv⟩, ⟨_, a⟩, ⟨_, he⟩, ⟨_, mm⟩⟩ := x
  obtain ⟨⟨_, th⟩, ⟨_, co⟩⟩ := y
  show wpAny _ _ (exec (Stmt.If _ _ _ _) _) _ _ _
  walk_at "bn"
  refine b_div (s := s) hf0 hf1 fun _ _ => ?_
  walk_at "bn"
  refine b_div (s := s) hf0 hf1 fun _ _ => ?_
  walk_at "bn"
  by_cases hc : p.1 / gt.f = mo / gt.f
  · rw [if_pos hc] at q
    rw [if_pos (by simpa using hc)]
    walk_at "bn"
    refine s_loc (s := s) F nilN fun h₁ t₁ F₁ _ k₁ => ?_
    dsimp only
    refine wpAny_execs_nil ?_
    exact q _ _ _ F₁ k₁ ⟨⟨_, o⟩, ⟨_, f⟩, ⟨_, mv⟩, ⟨_, a⟩, ⟨_, rfl⟩, ⟨_, mm⟩⟩ ⟨⟨_, th⟩, ⟨_, co⟩⟩
  · rw [if_neg hc] at q
    rw [if_neg (by simpa using hc)]
    walk_at "bn"
    exact q _ _ _ F Keeps.refl ⟨⟨_, o⟩, ⟨_, f⟩, ⟨_, mv⟩, ⟨_, a⟩, ⟨_, he⟩, ⟨_, mm⟩⟩ ⟨⟨_, th⟩, ⟨_, co⟩⟩
theorem ll_s4 (hf0 : 0 < gt.f) (hf1 : gt.f < 1000000) (F : Fr g L h m) (hG : g.IsList G (gateV gt ug).toArray) (c1 : h.IsCell (L + 1) (some (.ref G))) (x : LM m st mo) (y : LP m p) 
    (q : LPost w s g L h { st with ahead := if p.1 / gt.f = mo / gt.f - 1 then st.ahead + p.2 else st.ahead } mo p Q) :
    wpAny (model prog w) (A.deeper (llE L)) (exec (nthS llB 4) (llE L)) Q E (stt s h t) := by
  obtain ⟨⟨_, o⟩, ⟨_, f⟩, ⟨_, mv⟩, ⟨_, a⟩, ⟨_, he⟩, ⟨_, mm⟩⟩ := x
  obtain ⟨⟨_, th⟩, ⟨_, co⟩⟩ := y
  show wpAny _ _ (exec (Stmt.If _ _ _ _) _) _ _ _
  walk_at "bn"
  refine b_div (s := s) hf0 hf1 fun _ _ => ?_
  walk_at "bn"
  refine b_div (s := s) hf0 hf1 fun _ _ => ?_
  walk_at "bn"
  by_cases hc : p.1 / gt.f = mo / gt.f - 1
  · rw [if_pos hc] at q
    rw [if_pos (by simpa using hc)]
    walk_at "bn"
    refine s_loc (s := s) F nilN fun h₁ t₁ F₁ _ k₁ => ?_
    dsimp only
    refine wpAny_execs_nil ?_
    exact q _ _ _ F₁ k₁ ⟨⟨_, o⟩, ⟨_, f⟩, ⟨_, mv⟩, ⟨_, rfl⟩, ⟨_, he⟩, ⟨_, mm⟩⟩ ⟨⟨_, th⟩, ⟨_, co⟩⟩
  · rw [if_neg hc] at q
    rw [if_neg (by simpa using hc)]
    walk_at "bn"
    exact q _ _ _ F Keeps.refl ⟨⟨_, o⟩, ⟨_, f⟩, ⟨_, mv⟩, ⟨_, a⟩, ⟨_, he⟩, ⟨_, mm⟩⟩ ⟨⟨_, th⟩, ⟨_, co⟩⟩
end
end
section
set_option maxHeartbeats 1000000
section
variable {M : Model} {A : Around} {E : Value → Shared → Prop} {s : Shared} {x : Str} {pos : Pos} {v : Value} {Q : Value → Shared → Prop} {env : Env}
/-- a cell's name within a comprehension -/
theorem cn_c {c : Addr} (hc : env.cells.lookup x = some c) (hv : s.heap.IsCell c (some v)) (q : Q v s) (hk : env.scope.kind = .function := by rfl) (hx : env.kindOf x = some .cell := by rfl) (hb : (x == ("__debug__" : Str)) = false := by decide) :
    wpAny M A (eval (.Name x pos) env) Q E s := wpAny_Name (wpAny_loadName_cell hk hx hc hv q) hb
end
section
variable {w : World} {A : Around} {E : Value → Shared → Prop} {s : Shared} {h h₀ : Heap} {t t₀ : Nat} {r g : Heap} {L : Addr} {m : Str → Option Value} {R : Result → Shared → Prop} {G Lg : Addr} {gt : Gt} {lg : List (Int × Int)} {mo : Int} {ug : Nat → Tok}
def cnt (g : Gt) (sh : Int) (n : Nat) : Nat := ((List.range n).filter fun (u : Nat) => decide (((u : Int) + 1) * g.f ≤ sh)).length
theorem cnt_succ (g : Gt) (sh : Int) (n : Nat) : cnt g sh (n + 1) = cnt g sh n + (if ((n : Int) + 1) * g.f ≤ sh then 1 else 0) := by
  unfold cnt
  rw [List.range_succ, List.filter_append, List.length_append]
  congr 1
  by_cases h : ((n : Int) + 1) * g.f ≤ sh <;> simp [h]
theorem w_range1 {n : Int} {u : Tok} {Q : Value → Shared → Prop} (q : ∀ r h' t' u1 u2 u3, Keeps [] h h' → IsRange h' r 0 n 1 u1 u2 u3 → Q (.ref r) (stt s h' t')) : wpAny (model prog w) A (call (.type "range") [.int n u]) Q E (stt s h t) :=
  call_range_1 (s := stt s h t) (q _ _ _ _ _ _ (fun b o e _ => Heap.get?_push_of_some _ e) (IsRange.new ..))
theorem cnt_le (g : Gt) (sh : Int) (n : Nat) : cnt g sh n ≤ n := by
  unfold cnt
  exact Nat.le_trans (List.length_filter_le _ _) (by rw [List.length_range]; exact Nat.le_refl _)
theorem ll_whole {ah sh : Int} {u0 us : Tok} {Q : Flow → Shared → Prop} (am : Amb A 1) (cx : Cx w g) (hf0 : 0 < gt.f) (hf1 : gt.f < 1000000) (h0 : 0 ≤ ah) (h1 : ah ≤ 1000) (F : Fr g L h m) (hG : g.IsList G (gateV gt ug).toArray) (c1 : h.IsCell (L + 1) (some (.ref G))) (c2 : h.IsCell (L + 2) (some (.int sh us))) (p : m (Str.ofString "ahead") = some (.int ah u0))
    (q : ∀ h' t' u, Fr g L h' (fun y => if y = Str.ofString "whole" then some (.int (cnt gt sh ah.toNat) u) else m y) → Keeps [L] h h' → Q .next (stt s h' t')) :
    wpAny (model prog w) (A.deeper (llE L)) (exec (nthS (fBody stLL) 9) (llE L)) Q E (stt s h t) := by
  show wpAny _ _ (exec (Stmt.Assign [Expr.Name _ _] _ _) _) _ _ _
  walk_at "bn"
  refine nm_b F cx (by kernel_rfl) Boot.«len» (by decide) ?_
  walk_at "bn"
  refine comp_E (cl := llC L) (by with_unfolding_all rfl) am.hd (by decide) rfl (by decide) rfl ?_
  walk_at "bn"
  refine nm_b F cx (by kernel_rfl) Boot.«range» (by decide) ?_
  walk_at "bn"
  refine w_range1 (s := stt s h t) fun r₀ h₀ t₀ _ _ _ k₀ hr₀ => ?_
  refine SrcK.range (s := stt s h t) (n := ah.toNat) hr₀ (small_one (by decide) (by decide) (by omega) (by omega)) (by rw [rangeSize_one]; split <;> omega) (by show _ ≤ 16777216; omega) ?_
  intro I C D h₁ k lt ltD ltC eI eC eD
  have up : ∀ b o, h.get? b = some o → h₁.get? b = some o := fun b o e => k.all _ _ (k₀.all _ _ e)
  have ltI : ∀ b o, h.get? b = some o → b < I := fun b o e => lt b o (k₀.all _ _ e)
  have F₁ : Fr g L h₁ m := F.keeps up
  have lL : L < I := by obtain ⟨o, _, _, e, _⟩ := F.ns; exact ltI _ _ e
  have l1 : L + 1 < I := by obtain ⟨o, e, _⟩ := c1; exact ltI _ _ e
  have l2 : L + 2 < I := by obtain ⟨o, e, _⟩ := c2; exact ltI _ _ e
  have gn : ∀ a, I ≤ a → g.get? a = none := fun a ha => by
    cases e : g.get? a with
    | none => rfl
    | some o => exact absurd (ltI _ _ (F.keep _ _ e)) (Nat.not_lt.mpr ha)
  have off : ∀ a, a < I → a ∉ [I, C, D] := fun a ha z => by
    simp only [List.mem_cons, List.not_mem_nil, or_false] at z
    rcases z with rfl | rfl | rfl
    · exact Nat.lt_irrefl _ ha
    · exact Nat.lt_asymm ha (Nat.lt_trans ltD ltC)
    · exact Nat.lt_asymm ha ltD
  refine ⟨fun i ys h' => Fr g L h' m ∧ h'.IsCell (L + 1) (some (.ref G)) ∧ h'.IsCell (L + 2) (some (.int sh us)) ∧ ys.length = cnt gt sh i ∧ (∀ b o, h.get? b = some o → h'.get? b = some o), ⟨F₁, c1.keeps up, c2.keeps up, rfl, up⟩, ?_, fun _ _ _ _ => trivial, ?_, ?_⟩
  · rintro i ys h₂ h' ⟨a, b, c, d, e⟩ kk
    refine ⟨fr_after a kk (off _ lL) (fun x hx => gn x ?_), IsCell.keepsK b kk (off _ l1), IsCell.keepsK c kk (off _ l2), d, fun x o ex => kk _ _ (e _ _ ex) (off _ (ltI _ _ ex))⟩
    simp only [List.mem_cons, List.not_mem_nil, or_false] at hx
    rcases hx with rfl | rfl | rfl
    · exact Nat.le_refl _
    · exact Nat.le_of_lt (Nat.lt_trans ltD ltC)
    · exact Nat.le_of_lt ltD
  · rintro i v ys h₂ t₂ oC m₂ E' hi ⟨tk, rfl⟩ ⟨F₂, d1, d2, hl, hk⟩ _ _ eC hC hv
    have hns := hC.ns eC
    refine wpAny_tests_one ?_
    walk_at "bn"
    refine cn_l (env := compEnvC _ _ C _) hns hv ?_
    walk_at "bn"
    refine cn_c (c := L + 1) rfl d1 ?_
    walk_at "bn"
    refine b_mulR (s := stt s h t) ⟨by omega, hf1⟩ fun _ _ => ?_
    refine cn_c (c := L + 2) rfl d2 ?_
    walk_at "bn"
    rw [Int.zero_add]
    have hsucc := cnt_succ gt sh i
    by_cases hc : ((i : Int) + 1) * gt.f ≤ sh
    · rw [if_pos hc] at hsucc
      rw [if_pos (by simpa using hc)]
      refine cn_l (env := compEnvC _ _ C _) hns hv ?_
      exact ⟨h₂, _, rfl, fun _ _ => rfl, F₂, d1, d2, by rw [List.length_append, hl, hsucc]; rfl, hk⟩
    · rw [if_neg hc] at hsucc
      rw [if_neg (by simpa using hc)]
      exact ⟨h₂, _, rfl, fun _ _ => rfl, F₂, d1, d2, by rw [hl, hsucc]; rfl, hk⟩
  · rintro ys h₂ t₂ ⟨F₂, d1, d2, hl, hk⟩ eD
    walk_at "bn"
    have hcl := cnt_le gt sh ah.toNat
    refine call_len_list (s := stt (stt s h t) h₂ t₂) ⟨_, eD, rfl, _, rfl⟩ (by rw [List.size_toArray, hl]; omega) ?_
    rw [List.size_toArray, hl]
    refine s_loc (s := s) F₂ nilN fun h₃ t₃ F₃ _ k₃ => ?_
    exact q _ _ _ F₃ fun b o e n => k₃ b o (hk b o e) n
end
end
section
set_option maxHeartbeats 1000000
section
variable {w : World} {A : Around} {E : Value → Shared → Prop} {s : Shared} {h h₀ : Heap} {t t₀ : Nat} {r g : Heap} {L : Addr} {m : Str → Option Value} {R : Result → Shared → Prop} {G Lg : Addr} {gt : Gt} {lg : List (Int × Int)} {mo : Int} {ug : Nat → Tok}
/-- _law_left -/
theorem ll_spec {u : Tok} (am : Amb A 2) (cx : Cx w h₀) (hG : h₀.IsList G (gateV gt ug).toArray) (hLg : LogAt h₀ Lg lg) (hf0 : 0 < gt.f) (hf1 : gt.f < 1000000) (ha0 : 0 ≤ (lFold gt mo lg).ahead) (ha1 : (lFold gt mo lg).ahead ≤ 1000)
    (q : ∀ D n u1 u2 u3 h' t', Keeps [] h₀ h' → h₀.get? D = none → h'.get? D = some (listO [.int (lawLeft gt lg mo).1 u1, .int (lawLeft gt lg mo).2.1 u2, .int (lawLeft gt lg mo).2.2 u3] n) → R (.ok (.ret (.ref D))) (stt s h' t')) :
    codeAny (model prog w) A (.call (.ref 979) ⟨[.ref G, .ref Lg, .int mo u], []⟩) R (stt s h₀ t₀) := by
  refine enterLL (s := s) (am.mono (by decide)) cx fun L h₁ t₁ F c1 c2 => ?_
  obtain ⟨vs, hvs, hps⟩ := hLg
  refine wpAny_execs_cons ?_
  walk_at "bn"
  refine s_loc (s := s) F nilN fun h₂ t₂ F₂ _ k₂ => ?_
  walk_at "bn"
  refine s_loc (s := s) F₂ nilN fun h₃ t₃ F₃ _ k₃ => ?_
  walk_at "bn"
  refine s_loc (s := s) F₃ nilN fun h₄ t₄ F₄ _ k₄ => ?_
  walk_at "bn"
  refine s_loc (s := s) F₄ nilN fun h₅ t₅ F₅ _ k₅ => ?_
  walk_at "bn"
  refine s_loc (s := s) F₅ nilN fun h₆ t₆ F₆ _ k₆ => ?_
  have kL : Keeps [L] h₁ h₆ := (((k₂.trans k₃).trans k₄).trans k₅).trans k₆
  have n1 : L + 1 ∉ [L] := fun z => absurd (List.mem_singleton.mp z) (Nat.succ_ne_self L)
  have n2 : L + 2 ∉ [L] := fun z => absurd (List.mem_singleton.mp z) (Nat.ne_of_gt (Nat.lt_add_of_pos_right (by decide)))
  have c1 := IsCell.keepsK c1 kL n1
  have c2 := IsCell.keepsK c2 kL n2
  dsimp only
  refine wpAny_execs_cons ?_
  refine for_K (s := stt s h₆ t₆) am.hd ?_
  walk_at "bn"
  refine ForS.list (s := stt s h₆ t₆) (hvs.at fun o e => F₆.keep _ _ e) ?_
  intro I h₇ k₇ ltI eI
  have hLI : L < I := by obtain ⟨o, _, _, e, _⟩ := F₆.ns; exact ltI _ _ e
  have h1I : L + 1 < I := by obtain ⟨o, e, _⟩ := c1; exact ltI _ _ e
  have h2I : L + 2 < I := by obtain ⟨o, e, _⟩ := c2; exact ltI _ _ e
  have hI0 : h₀.get? I = none := by
    cases e : h₀.get? I with
    | none => rfl
    | some o => exact absurd (ltI _ _ (F₆.keep _ _ e)) (Nat.lt_irrefl _)
  refine ⟨fun i h => ∃ m, Fr h₀ L h m ∧ h.IsCell (L + 1) (some (.ref G)) ∧ h.IsCell (L + 2) none ∧ LM m (lFold gt mo (lg.take i)) mo, ⟨_, fr_all F₆ k₇.all, c1.keeps k₇.all, c2.keeps k₇.all, ⟨⟨_, rfl⟩, ⟨_, rfl⟩, ⟨_, rfl⟩, ⟨_, rfl⟩, ⟨_, rfl⟩, ⟨_, rfl⟩⟩⟩, ?_, ?_, ?_, ?_⟩
  · rintro i h h' ⟨m, a, b, c, d⟩ k
    have ne : ∀ x, x < I → x ∉ [I] := fun x hx z => by rw [List.mem_singleton.mp z] at hx; exact Nat.lt_irrefl _ hx
    exact ⟨m, fr_after a k (ne _ hLI) (fun x hx => List.mem_singleton.mp hx ▸ hI0), IsCell.keepsK b k (ne _ h1I), IsCell.keepsK c k (ne _ h2I), d⟩
  · rintro i h ⟨m, a, _⟩
    exact hvs.at fun o e => a.keep _ _ e
  · rintro i v h t E' hi hv ⟨m, F₈, d1, d2, x⟩ ⟨oI, hoI⟩
    obtain ⟨p, hp, T, v1, v2, n, rfl, hT⟩ := hps.at (i := i) (v := v) (by simpa using hv)
    refine w_unpack (s := s) am.hd ⟨_, F₈.keep _ _ hT, rfl, _, rfl⟩ fun h₉ k₉ => ?_
    have F₉ := fr_all F₈ k₉.all
    refine assignInOrder_cons ?_
    refine wpAny_assign_Name ?_
    refine s_loc (s := s) F₉ nilN fun hA tA FA _ kA => ?_
    refine assignInOrder_cons ?_
    refine wpAny_assign_Name ?_
    refine s_loc (s := s) FA nilN fun hB tB FB _ kB => ?_
    refine assignInOrder_nil ?_
    have kAB : Keeps [L] h hB := ((k₉.mono (by simp)).trans kA).trans kB
    have y : LP (fun y => if y = Str.ofString "cost" then some (Value.int p.2 v2) else (fun y => if y = Str.ofString "then" then some (Value.int p.1 v1) else m y) y) p := ⟨⟨_, rfl⟩, ⟨_, rfl⟩⟩
    have x : LM (fun y => if y = Str.ofString "cost" then some (Value.int p.2 v2) else (fun y => if y = Str.ofString "then" then some (Value.int p.1 v1) else m y) y) (lFold gt mo (lg.take i)) mo := ⟨x.o, x.f, x.mv, x.a, x.he, x.mo⟩
    have d1 := IsCell.keepsK d1 kAB n1
    have d2 := IsCell.keepsK d2 kAB n2
    have hstep : lFold gt mo (lg.take (i + 1)) = lStep gt mo (lFold gt mo (lg.take i)) p := by
      unfold lFold
      rw [List.take_add_one, hp, List.foldl_append]
      rfl
    have nI : I ∉ [L] := fun z => by rw [List.mem_singleton.mp z] at hLI; exact Nat.lt_irrefl _ hLI
    have hoI' := kAB _ _ hoI nI
    refine wpAny_execs_cons ?_
    refine ll_s0 (s := s) FB hG d1 x y fun hC tC mC FC kC xC yC => ?_
    have d1 := IsCell.keepsK d1 kC n1
    have d2 := IsCell.keepsK d2 kC n2
    have hoI' := kC _ _ hoI' nI
    dsimp only
    refine wpAny_execs_cons ?_
    refine ll_s1 (s := s) FC xC yC fun hC tC mC FC kC xC yC => ?_
    have d1 := IsCell.keepsK d1 kC n1
    have d2 := IsCell.keepsK d2 kC n2
    have hoI' := kC _ _ hoI' nI
    dsimp only
    refine wpAny_execs_cons ?_
    refine ll_s2 (s := s) FC hG d1 xC yC fun hC tC mC FC kC xC yC => ?_
    have d1 := IsCell.keepsK d1 kC n1
    have d2 := IsCell.keepsK d2 kC n2
    have hoI' := kC _ _ hoI' nI
    dsimp only
    refine wpAny_execs_cons ?_
    refine ll_s3 (s := s) hf0 hf1 FC hG d1 xC yC fun hC tC mC FC kC xC yC => ?_
    have d1 := IsCell.keepsK d1 kC n1
    have d2 := IsCell.keepsK d2 kC n2
    have hoI' := kC _ _ hoI' nI
    dsimp only
    refine wpAny_execs_cons ?_
    refine ll_s4 (s := s) hf0 hf1 FC hG d1 xC yC fun hC tC mC FC kC xC yC => ?_
    have d1 := IsCell.keepsK d1 kC n1
    have d2 := IsCell.keepsK d2 kC n2
    have hoI' := kC _ _ hoI' nI
    dsimp only
    refine wpAny_execs_nil ?_
    dsimp only
    rw [hstep]
    exact ⟨hC, tC, rfl, by rw [hoI]; exact hoI', mC, FC, d1, d2, xC⟩
  · rintro h t ⟨m, F₈, d1, d2, x⟩
    dsimp only
    have hfull : lg.take vs.toArray.size = lg := List.take_of_length_le (by rw [List.size_toArray, hps.len]; exact Nat.le_refl _)
    rw [hfull] at x
    obtain ⟨⟨_, o⟩, ⟨_, f⟩, ⟨_, mv⟩, ⟨_, a⟩, ⟨_, he⟩, ⟨_, mm⟩⟩ := x
    have rest : ∀ fx uf h₉ t₉ m₉, fx = lFixed gt mo (lFold gt mo lg) → Fr h₀ L h₉ m₉ → h₉.IsCell (L + 1) (some (.ref G)) → h₉.IsCell (L + 2) none → m₉ (Str.ofString "fixed") = some (.int fx uf) → m₉ (Str.ofString "moving") = m (Str.ofString "moving") → m₉ (Str.ofString "ahead") = m (Str.ofString "ahead") → m₉ (Str.ofString "here") = m (Str.ofString "here") → m₉ (Str.ofString "moment") = m (Str.ofString "moment") →
        wpAny (model prog w) (A.deeper (llE L)) (execs ((fBody stLL).drop 8) (llE L)) (fun fl s' => R (.ok (.ret (match fl with | .ret v => v | _ => .none))) s') (fun _ _ => False) (stt s h₉ t₉) := by
      intro fx uf h₉ t₉ m₉ efx F₉ d1 d2 pf pm pa ph pmo
      rw [mv] at pm
      rw [a] at pa
      rw [he] at ph
      rw [mm] at pmo
      refine wpAny_execs_cons ?_
      show wpAny _ _ (exec (Stmt.Assign [Expr.Name _ _] _ _) _) _ _ _
      walk_at "bn"
      refine b_mod (s := s) am.hd hf0 fun _ _ => ?_
      walk_at "bn"
      refine b_mulL (s := s) ⟨by omega, by omega⟩ fun _ _ => ?_
      refine s_cell (s := s) (c := L + 2) rfl d2 fun hA c2' sb => ?_
      have nLc : L ≠ L + 2 := Nat.ne_of_lt (Nat.lt_add_of_pos_right (by decide))
      have cn0 : h₀.get? (L + 2) = none := Heap.get?_none_of_le (Nat.le_trans F₉.above (Nat.le_add_right _ _))
      have FA := fr_after F₉ (Keeps.of_same sb) (fun z => nLc (List.mem_singleton.mp z)) (fun x hx => List.mem_singleton.mp hx ▸ cn0)
      have d1' := d1.sameBut sb (Nat.ne_of_lt (Nat.lt_succ_self _))
      dsimp only
      refine wpAny_execs_cons ?_
      refine ll_whole (s := s) (am.mono (by decide)) cx hf0 hf1 ha0 ha1 FA hG d1' c2' pa fun hB tB ub FB kB => ?_
      have d1'' := IsCell.keepsK d1' kB n1
      dsimp only
      refine wpAny_execs_cons ?_
      show wpAny _ _ (exec (Stmt.Return (some _) _) _) _ _ _
      walk_at "bn"
      refine n_list (s := s) FB nilN (by show (3 : Nat) ≤ sizeLine; decide) fun D hC FC NC kC lD => ?_
      subst efx
      refine q D _ _ _ _ hC _ (fun b o e _ => FC.keep _ _ e) ?_ (NC.get (.head _))
      cases e : h₀.get? D with
      | none => rfl
      | some o => exact absurd (lD _ _ (FB.keep _ _ e)) (Nat.lt_irrefl _)
    refine wpAny_execs_cons ?_
    show wpAny _ _ (exec (Stmt.If _ _ _ _) _) _ _ _
    walk_at "bn"
    by_cases hm : (lFold gt mo lg).opened + gt.b ≤ mo
    · rw [if_pos (by simpa using hm)]
      walk_at "bn"
      refine s_loc (s := s) F₈ nilN fun h₉ t₉ F₉ _ k₉ => ?_
      dsimp only
      refine wpAny_execs_nil ?_
      exact rest 0 _ _ _ _ (by unfold lFixed; rw [if_pos hm]) F₉ (IsCell.keepsK d1 k₉ n1) (IsCell.keepsK d2 k₉ n2) rfl rfl rfl rfl rfl
    · rw [if_neg (by simpa using hm)]
      refine wpAny_execs_nil ?_
      exact rest _ _ _ _ _ (by unfold lFixed; rw [if_neg hm]) F₈ d1 d2 f rfl rfl rfl rfl
end
end
section
set_option maxHeartbeats 1000000
/-- where the law's things lie -/
structure LA where
  S : SA
  L : Addr
  l1 : Addr
  l2 : Addr
  l3 : Addr
  i1 : Addr
  i2 : Addr
  i3 : Addr
  LL : Addr
  LI : Addr
  T : Addr
  G : Addr
  Lg : Addr
  ex : List Addr
/-- the places that turn -/
def LA.bad (X : LA) : List Addr := 921 :: X.S.C :: X.S.E :: X.S.V :: X.Lg :: X.S.clk :: X.L :: (X.L + 4) :: (X.L + 5) :: (X.L + 6) :: (X.L + 7) :: X.ex
def LA.core (X : LA) : List Addr := [921, X.S.C, X.S.E, X.S.V, X.Lg, X.S.clk, X.L, X.L + 4, X.L + 5, X.L + 6, X.L + 7]
def LA.vol (X : LA) : List Addr := [921, X.S.C, X.S.E, X.S.V, X.Lg]
def LA.scr (X : LA) : List Addr := [X.L, X.L + 4, X.L + 5, X.L + 6, X.L + 7]
/-- what never turns, but for the clock -/
structure Root (w : World) (X : LA) (gt : Gt) (ug : Nat → Tok) (c : Int) (r : Heap) : Prop where
  rt : Rt w X.S c r
  l1 : Lim w X.S r X.l1 280
  l2 : Lim w X.S r X.l2 241
  l3 : Lim w X.S r X.l3 335
  i1 : Itm r X.i1 gt.a gt.b
  i2 : Itm r X.i2 gt.c gt.d
  i3 : Itm r X.i3 gt.e gt.f
  ll : r.IsList X.LL #[.ref X.l1, .ref X.l2, .ref X.l3]
  li : r.IsList X.LI #[.ref X.i1, .ref X.i2, .ref X.i3]
  who : Who r X.T
  gate : r.IsList X.G (gateV gt ug).toArray
  c1 : r.IsCell (X.L + 1) (some (.ref X.LL))
  c2 : r.IsCell (X.L + 2) (some (.ref X.LI))
  c3 : r.IsCell (X.L + 3) (some (.ref X.T))
  c8 : r.IsCell (X.L + 8) (some (.ref X.S.clk))
  no : ∀ a ∈ X.vol ++ X.scr, r.get? a = none
/-- the law's addresses are apart -/
structure LA.Ok (X : LA) : Prop where
  nV : X.S.V ≠ 921
  nC : X.S.C ≠ 921
  nE : X.S.E ≠ 921
  nG : X.Lg ∉ [921, X.S.C, X.S.E, X.S.V]
  CE : X.S.C ≠ X.S.E
  CV : X.S.C ≠ X.S.V
  EV : X.S.E ≠ X.S.V
  ap : ∀ a ∈ X.scr, a ∉ X.vol
  clk : X.S.clk ∉ X.vol ++ X.scr
/-- the log, its lines out of harm's way -/
def PairOff (h : Heap) (bad : List Addr) (v : Value) (p : Int × Int) : Prop := ∃ T u1 u2 n, v = .ref T ∧ T ∉ bad ∧ h.get? T = some ⟨.type "tuple", none, .seq #[.int p.1 u1, .int p.2 u2] n, #[]⟩
inductive Offs (h : Heap) (bad : List Addr) : List Value → List (Int × Int) → Prop
  | nil : Offs h bad [] []
  | cons {v p vs ps} : PairOff h bad v p → Offs h bad vs ps → Offs h bad (v :: vs) (p :: ps)
theorem Offs.map {h h' : Heap} {bad bad' : List Addr} (f : ∀ v p, PairOff h bad v p → PairOff h' bad' v p) : ∀ {vs ps}, Offs h bad vs ps → Offs h' bad' vs ps
  | _, _, .nil => .nil
  | _, _, .cons e r => .cons (f _ _ e) (Offs.map f r)
theorem Offs.pairs {h : Heap} {bad : List Addr} : ∀ {vs ps}, Offs h bad vs ps → Pairs' h vs ps
  | _, _, .nil => .nil
  | _, _, .cons ⟨T, u1, u2, n, e, _, f⟩ r => .cons ⟨T, u1, u2, n, e, f⟩ r.pairs
theorem Offs.snoc {h : Heap} {bad : List Addr} {v p} (y : PairOff h bad v p) : ∀ {vs ps}, Offs h bad vs ps → Offs h bad (vs ++ [v]) (ps ++ [p])
  | _, _, .nil => .cons y .nil
  | _, _, .cons e r => .cons e (Offs.snoc y r)
theorem Offs.len {h : Heap} {bad : List Addr} : ∀ {vs ps}, Offs h bad vs ps → vs.length = ps.length
  | _, _, .nil => rfl
  | _, _, .cons _ r => by simp [r.len]
def LogOff (h : Heap) (bad : List Addr) (a : Addr) (l : List (Int × Int)) : Prop := ∃ vs, h.get? a = some (listO vs vs.length) ∧ Offs h bad vs l
theorem LogOff.at {h bad a l} (x : LogOff h bad a l) : LogAt h a l := let ⟨vs, e, o⟩ := x; ⟨vs, ⟨_, e, rfl, _, rfl⟩, o.pairs⟩
theorem LogOff.keeps {h h' : Heap} {bad as : List Addr} {a l} (x : LogOff h bad a l) (k : Keeps as h h') (sub : ∀ a ∈ as, a ∈ bad) (n : a ∉ as) : LogOff h' bad a l :=
  let ⟨vs, e, o⟩ := x; ⟨vs, k _ _ e n, o.map fun _ _ ⟨T, u1, u2, m, e, nb, f⟩ => ⟨T, u1, u2, m, e, nb, k _ _ f fun z => nb (sub _ z)⟩⟩
theorem LogOff.more {h : Heap} {bad new : List Addr} {a l} (x : LogOff h bad a l) (hn : ∀ a ∈ new, h.get? a = none) : LogOff h (new ++ bad) a l :=
  let ⟨vs, e, o⟩ := x; ⟨vs, e, o.map fun _ _ ⟨T, u1, u2, m, e, nb, f⟩ => ⟨T, u1, u2, m, e, fun z => by
    rcases List.mem_append.mp z with z | z
    · rw [hn _ z] at f; cases f
    · exact nb z, f⟩⟩
theorem LogOff.less {h : Heap} {bad bad' : List Addr} {a l} (x : LogOff h bad' a l) (hs : ∀ a ∈ bad, a ∈ bad') : LogOff h bad a l :=
  let ⟨vs, e, o⟩ := x; ⟨vs, e, o.map fun _ _ ⟨T, u1, u2, m, e, nb, f⟩ => ⟨T, u1, u2, m, e, fun z => nb (hs _ z), f⟩⟩
/-- what turns -/
structure VS where
  σ : Str → Option Int
  ε : Str → Option Int
  n : Nat
  n' : Nat
  ml : Option Addr
  ats : List Int
  lg : List (Int × Int)
  cv : Option Value
  lv : Option Value
  tv : Option Value
  sv : Option Value
structure LS (w : World) (X : LA) (gt : Gt) (r : Heap) (bad : List Addr) (v : VS) (h : Heap) : Prop where
  sub : Sub r h
  ctr : CtrAt w X.S h v.σ v.n
  exp : ExpAt w X.S h v.ε v.n'
  mv : MvAt w X.S h bad (keyOf gt.c gt.d) v.ml v.ats
  tab : TabAt h bad
  log : LogOff h bad X.Lg v.lg
  c4 : h.IsCell (X.L + 4) v.cv
  c5 : h.IsCell (X.L + 5) v.lv
  c6 : h.IsCell (X.L + 6) v.tv
  c7 : h.IsCell (X.L + 7) v.sv
  nl : ∀ l, v.ml = some l → r.get? l = none
  bx : ∀ a ∈ X.bad, ∃ o, h.get? a = some o
theorem TabAt.more {h : Heap} {bad new : List Addr} (x : TabAt h bad) (hn : ∀ a ∈ new, h.get? a = none) : TabAt h (new ++ bad) := by
  rcases x with a | ⟨c', a, b, c⟩
  · exact .inl a
  · refine .inr ⟨c', a, fun z => ?_, c⟩
    rcases List.mem_append.mp z with z | z
    · obtain ⟨_, _, _, _, e, f, _⟩ := c
      cases e
      rw [hn _ z] at f; cases f
    · exact b z
theorem TabAt.less {h : Heap} {bad bad' : List Addr} (x : TabAt h bad') (hs : ∀ a ∈ bad, a ∈ bad') : TabAt h bad := by
  rcases x with a | ⟨c', a, b, c⟩
  · exact .inl a
  · exact .inr ⟨c', a, fun z => b (hs _ z), c⟩
variable {w : World} {X : LA} {gt : Gt} {ug : Nat → Tok} {c : Int} {r h h' : Heap} {bad new as : List Addr} {v : VS}
/-- nothing of the law's turns -/
theorem LS.keeps (x : LS w X gt r bad v h) (k : Keeps as h h') (sub : ∀ a ∈ as, a ∈ bad) (hv : ∀ a ∈ as, a ∉ X.vol) (h4 : ∀ a ∈ as, a ∉ [X.L + 4, X.L + 5, X.L + 6, X.L + 7]) (hr : ∀ a ∈ as, r.get? a = none) (hb : ∀ a ∈ as, a ∈ X.bad → ∃ o, h'.get? a = some o) : LS w X gt r bad v h' := by
  have nv : ∀ y ∈ X.vol, y ∉ as := fun y hy z => hv y z hy
  have n4 : ∀ y ∈ [X.L + 4, X.L + 5, X.L + 6, X.L + 7], y ∉ as := fun y hy z => h4 y z hy
  refine ⟨x.sub.keeps k hr, x.ctr.keeps k (nv _ (by simp [LA.vol])), x.exp.keeps k (nv _ (by simp [LA.vol])), x.mv.keeps k sub (nv _ (by simp [LA.vol])), x.tab.keeps k sub (nv _ (by simp [LA.vol])), x.log.keeps k sub (nv _ (by simp [LA.vol])),
    IsCell.keepsK x.c4 k (n4 _ (by simp)), IsCell.keepsK x.c5 k (n4 _ (by simp)), IsCell.keepsK x.c6 k (n4 _ (by simp)), IsCell.keepsK x.c7 k (n4 _ (by simp)), x.nl, fun a ha => ?_⟩
  by_cases hm : a ∈ as
  · exact hb a hm ha
  · obtain ⟨o, ho⟩ := x.bx a ha
    exact ⟨o, k _ _ ho hm⟩
theorem LS.all (x : LS w X gt r bad v h) (k : Keeps [] h h') : LS w X gt r bad v h' := x.keeps k (fun _ z => nomatch z) (fun _ z => nomatch z) (fun _ z => nomatch z) (fun _ z => nomatch z) (fun _ z => nomatch z)
theorem LS.more (x : LS w X gt r bad v h) (hn : ∀ a ∈ new, h.get? a = none) (k : Keeps [] h h') : LS w X gt r (new ++ bad) v h' :=
  ⟨x.sub.keeps k (fun _ z => nomatch z), x.ctr.keeps k (by simp), x.exp.keeps k (by simp), (x.mv.more hn).keeps k (fun _ z => nomatch z) (by simp), (x.tab.more hn).keeps k (fun _ z => nomatch z) (by simp), (x.log.more hn).keeps k (fun _ z => nomatch z) (by simp), IsCell.keepsK x.c4 k (by simp), IsCell.keepsK x.c5 k (by simp), IsCell.keepsK x.c6 k (by simp), IsCell.keepsK x.c7 k (by simp), x.nl, fun a ha => let ⟨o, ho⟩ := x.bx a ha; ⟨o, k.all _ _ ho⟩⟩
theorem LS.less {bad' : List Addr} (x : LS w X gt r bad' v h) (hs : ∀ a ∈ bad, a ∈ bad') : LS w X gt r bad v h :=
  ⟨x.sub, x.ctr, x.exp, x.mv.less hs, x.tab.less hs, x.log.less hs, x.c4, x.c5, x.c6, x.c7, x.nl, x.bx⟩
/-- the law within a turn -/
structure Ctx (w : World) (X : LA) (gt : Gt) (ug : Nat → Tok) (c : Int) (r : Heap) (bad : List Addr) : Prop where
  rt : Root w X gt ug c r
  ok : X.Ok
  hb : ∀ a ∈ X.bad, a ∈ bad
  g1 : GI gt.a gt.b
  g2 : GI gt.c gt.d
  g3 : GI gt.e gt.f
  wk : WK (keyOf gt.e gt.f) gt.f c
theorem scr4 {X : LA} {a : Addr} (h : a ∈ [X.L + 4, X.L + 5, X.L + 6, X.L + 7]) : a ∈ X.scr := by
  simp only [List.mem_cons, List.not_mem_nil, or_false] at h
  simp only [LA.scr, List.mem_cons, List.not_mem_nil, or_false]
  exact .inr h
theorem LS.ce {σ ε : Str → Option Int} {n n' : Nat} (x : LS w X gt r bad v h) (ok : X.Ok) (hb : ∀ a ∈ X.bad, a ∈ bad) (no : ∀ a ∈ X.vol ++ X.scr, r.get? a = none) (k : Keeps [X.S.C, X.S.E] h h') (hc : CtrAt w X.S h' σ n) (he : ExpAt w X.S h' ε n') : LS w X gt r bad { v with σ := σ, ε := ε, n := n, n' := n' } h' := by
  have sub : ∀ a ∈ [X.S.C, X.S.E], a ∈ bad := fun a ha => hb a (by
    simp only [List.mem_cons, List.not_mem_nil, or_false] at ha
    simp only [LA.bad, List.mem_cons, List.not_mem_nil, or_false]
    rcases ha with h | h
    · exact .inr (.inl h)
    · exact .inr (.inr (.inl h)))
  have hr : ∀ a ∈ [X.S.C, X.S.E], r.get? a = none := fun a ha => no a (List.mem_append_left _ (by
    simp only [List.mem_cons, List.not_mem_nil, or_false] at ha
    simp only [LA.vol, List.mem_cons, List.not_mem_nil, or_false]
    rcases ha with h | h
    · exact .inr (.inl h)
    · exact .inr (.inr (.inl h))))
  have n4 : ∀ a ∈ [X.L + 4, X.L + 5, X.L + 6, X.L + 7], a ∉ [X.S.C, X.S.E] := fun a ha z => ok.ap a (scr4 ha) (by
    simp only [List.mem_cons, List.not_mem_nil, or_false] at z
    simp only [LA.vol, List.mem_cons, List.not_mem_nil, or_false]
    rcases z with h | h
    · exact .inr (.inl h)
    · exact .inr (.inr (.inl h)))
  have nV : X.S.V ∉ [X.S.C, X.S.E] := by simp; exact ⟨Ne.symm ok.CV, Ne.symm ok.EV⟩
  have n9 : (921 : Addr) ∉ [X.S.C, X.S.E] := by simp; exact ⟨Ne.symm ok.nC, Ne.symm ok.nE⟩
  have nG : X.Lg ∉ [X.S.C, X.S.E] := fun z => ok.nG (by
    simp only [List.mem_cons, List.not_mem_nil, or_false] at z ⊢
    rcases z with h | h
    · exact .inr (.inl h)
    · exact .inr (.inr (.inl h)))
  refine ⟨x.sub.keeps k hr, hc, he, x.mv.keeps k sub nV, x.tab.keeps k sub n9, x.log.keeps k sub nG, IsCell.keepsK x.c4 k (n4 _ (by simp)), IsCell.keepsK x.c5 k (n4 _ (by simp)), IsCell.keepsK x.c6 k (n4 _ (by simp)), IsCell.keepsK x.c7 k (n4 _ (by simp)), x.nl, fun a ha => ?_⟩
  by_cases hm : a ∈ [X.S.C, X.S.E]
  · simp only [List.mem_cons, List.not_mem_nil, or_false] at hm
    rcases hm with rfl | rfl
    · exact hc.ex
    · exact he.ex
  · obtain ⟨o, ho⟩ := x.bx a ha
    exact ⟨o, k _ _ ho hm⟩
theorem LS.t9 {ml ats} (x : LS w X gt r bad v h) (ok : X.Ok) (hb : ∀ a ∈ X.bad, a ∈ bad) (no : ∀ a ∈ X.vol ++ X.scr, r.get? a = none) (k : Keeps [921] h h') (hm : MvAt w X.S h' bad (keyOf gt.c gt.d) ml ats) (ht : TabAt h' bad) (em : ml = v.ml) (ea : ats = v.ats) : LS w X gt r bad v h' := by
  subst em ea
  have sub : ∀ a ∈ [(921 : Addr)], a ∈ bad := fun a ha => hb a (by rw [List.mem_singleton.mp ha]; simp [LA.bad])
  have hr : ∀ a ∈ [(921 : Addr)], r.get? a = none := fun a ha => no a (by rw [List.mem_singleton.mp ha]; simp [LA.vol])
  have n4 : ∀ a ∈ [X.L + 4, X.L + 5, X.L + 6, X.L + 7], a ∉ [(921 : Addr)] := fun a ha z => ok.ap a (scr4 ha) (by rw [List.mem_singleton.mp z]; simp [LA.vol])
  have nG : X.Lg ∉ [(921 : Addr)] := fun z => ok.nG (by rw [List.mem_singleton.mp z]; simp)
  refine ⟨x.sub.keeps k hr, x.ctr.keeps k (by simpa using ok.nC), x.exp.keeps k (by simpa using ok.nE), hm, ht, x.log.keeps k sub nG, IsCell.keepsK x.c4 k (n4 _ (by simp)), IsCell.keepsK x.c5 k (n4 _ (by simp)), IsCell.keepsK x.c6 k (n4 _ (by simp)), IsCell.keepsK x.c7 k (n4 _ (by simp)), x.nl, fun a ha => ?_⟩
  by_cases hm : a ∈ [(921 : Addr)]
  · rw [List.mem_singleton.mp hm]
    rcases ht with e | ⟨_, e, _⟩ <;> exact ⟨_, e⟩
  · obtain ⟨o, ho⟩ := x.bx a ha
    exact ⟨o, k _ _ ho hm⟩
end
section
theorem str_ext {a b : Str} (h : a.cps.toList = b.cps.toList) : a = b := by
  obtain ⟨⟨a⟩⟩ := a
  obtain ⟨⟨b⟩⟩ := b
  exact congrArg (fun l => (⟨⟨l⟩⟩ : Str)) h
theorem cps_append (a b : Str) : (a ++ b).cps.toList = a.cps.toList ++ b.cps.toList := by
  show (a.cps ++ b.cps).toList = _
  simp
theorem num_inj {a b : Int} (ha : 0 ≤ a) (hb : 0 ≤ b) (h : (Str.ofString (toString a)).cps.toList = (Str.ofString (toString b)).cps.toList) : a = b := by
  obtain ⟨m, rfl⟩ := Int.eq_ofNat_of_zero_le ha
  obtain ⟨n, rfl⟩ := Int.eq_ofNat_of_zero_le hb
  rw [KIN.signs_num, KIN.signs_num] at h
  have := congrArg NumText.digitsVal h
  rw [KIN.val_back, KIN.val_back] at this
  rw [this]
theorem winKey_inj {k : Str} {a b : Int} (ha : 0 ≤ a) (hb : 0 ≤ b) (h : winKey k a = winKey k b) : a = b := by
  unfold winKey at h
  have h := congrArg (fun s : Str => s.cps.toList) h
  rw [cps_append, cps_append _ (Str.ofString (toString b))] at h
  exact num_inj ha hb (List.append_cancel_left h)
theorem keyOf_last (a b : Int) : ∃ pre, (keyOf a b).cps.toList = pre ++ [100] := by
  unfold keyOf
  rw [cps_append]
  have e : ∃ pre, (Txt.join (Str.ofString "/") [Str.ofString "ann", Str.ofString (toString a), Str.ofString (toString b), Str.ofString "second"]).cps.toList = pre ++ (Str.ofString "second").cps.toList := by
    refine ⟨((Str.ofString "ann").cps ++ (Str.ofString "/").cps ++ (Str.ofString (toString a)).cps ++ (Str.ofString "/").cps ++ (Str.ofString (toString b)).cps ++ (Str.ofString "/").cps).toList, ?_⟩
    rw [← Array.toList_append]
    rfl
  obtain ⟨pre, e⟩ := e
  rw [e, show (Str.ofString "second").cps.toList = [115, 101, 99, 111, 110] ++ [100] from by decide]
  exact ⟨_, by rw [← List.append_assoc, ← List.append_assoc]⟩
theorem winKey_ne {k : Str} {a b q : Int} (hq : 0 ≤ q) : keyOf a b ≠ winKey k q := by
  intro h
  have h := congrArg (fun s : Str => s.cps.toList.getLast?) h
  obtain ⟨m, rfl⟩ := Int.eq_ofNat_of_zero_le hq
  obtain ⟨pre, e⟩ := keyOf_last a b
  rw [e] at h
  unfold winKey at h
  rw [cps_append, KIN.signs_num] at h
  have hne : (Nat.toDigits 10 m).map Char.toNat ≠ [] := by
    intro e
    have := toDigits_len_ge 10 m
    rw [List.map_eq_nil_iff] at e
    rw [e] at this
    simp at this
  rw [List.getLast?_append, List.getLast?_append] at h
  cases hl : ((Nat.toDigits 10 m).map Char.toNat).getLast? with
  | none => exact hne (List.getLast?_eq_none_iff.mp hl)
  | some d =>
    rw [hl] at h
    have hd : (100 : Nat) = d := by simpa using h
    have hm := List.mem_of_getLast? hl
    obtain ⟨ch, hch, e⟩ := List.mem_map.mp hm
    have r := digit_range (Nat.isDigit_of_mem_toDigits (by decide) (by decide) hch)
    rw [e] at r
    omega
end
section
def wsum (f : Int) : List (Int × Int) → Int → Int
  | [], _ => 0
  | p :: r, q => (if p.1 / f = q then p.2 else 0) + wsum f r q
theorem wsum_snoc (f : Int) (p : Int × Int) (q : Int) : ∀ l, wsum f (l ++ [p]) q = wsum f l q + (if p.1 / f = q then p.2 else 0)
  | [] => by simp [wsum]
  | x :: r => by simp only [List.cons_append, wsum, wsum_snoc f p q r]; omega
def msum (d : Int) : List (Int × Int) → Int → Int
  | [], _ => 0
  | p :: r, m => (if m < p.1 + d then p.2 else 0) + msum d r m
theorem msum_snoc (d : Int) (p : Int × Int) (m : Int) : ∀ l, msum d (l ++ [p]) m = msum d l m + (if m < p.1 + d then p.2 else 0)
  | [] => by simp [msum]
  | x :: r => by simp only [List.cons_append, msum, msum_snoc d p m r]; omega
theorem fold_sums (g : Gt) (m : Int) : ∀ (l : List (Int × Int)) (s : Ls), (l.foldl (lStep g m) s).here = s.here + wsum g.f l (m / g.f) ∧ (l.foldl (lStep g m) s).ahead = s.ahead + wsum g.f l (m / g.f - 1) ∧ (l.foldl (lStep g m) s).moving = s.moving + msum g.d l m
  | [], s => by simp [wsum, msum]
  | p :: r, s => by
    obtain ⟨a, b, c⟩ := fold_sums g m r (lStep g m s p)
    rw [List.foldl_cons, a, b, c]
    simp only [lStep, wsum, msum]
    refine ⟨?_, ?_, ?_⟩ <;> (split <;> omega)
theorem l_here (g : Gt) (m : Int) (l) : (lFold g m l).here = wsum g.f l (m / g.f) := by rw [lFold, (fold_sums g m l _).1]; simp
theorem l_ahead (g : Gt) (m : Int) (l) : (lFold g m l).ahead = wsum g.f l (m / g.f - 1) := by rw [lFold, (fold_sums g m l _).2.1]; simp
theorem l_moving (g : Gt) (m : Int) (l) : (lFold g m l).moving = msum g.d l m := by rw [lFold, (fold_sums g m l _).2.2]; simp
theorem fold_fix (g : Gt) (m m' : Int) : ∀ (l : List (Int × Int)) (s s' : Ls), s.opened = s'.opened → s.fixed = s'.fixed → (l.foldl (lStep g m) s).opened = (l.foldl (lStep g m') s').opened ∧ (l.foldl (lStep g m) s).fixed = (l.foldl (lStep g m') s').fixed
  | [], s, s', a, b => ⟨a, b⟩
  | p :: r, s, s', a, b => by
    rw [List.foldl_cons, List.foldl_cons]
    exact fold_fix g m m' r _ _ (by simp only [lStep, a, b]) (by simp only [lStep, a, b])
/-- the fixed window: when it opened, what came in -/
def fOp (g : Gt) (l : List (Int × Int)) : Int := (lFold g 0 l).opened
def fFx (g : Gt) (l : List (Int × Int)) : Int := (lFold g 0 l).fixed
theorem l_opened (g : Gt) (m : Int) (l) : (lFold g m l).opened = fOp g l := (fold_fix g m 0 l _ _ rfl rfl).1
theorem l_fixed (g : Gt) (m : Int) (l) : (lFold g m l).fixed = fFx g l := (fold_fix g m 0 l _ _ rfl rfl).2
theorem lFixed_eq (g : Gt) (m : Int) (l) : lFixed g m (lFold g m l) = if fOp g l + g.b ≤ m then 0 else fFx g l := by unfold lFixed; rw [l_opened, l_fixed]
theorem fOp_snoc (g : Gt) (p : Int × Int) (l) : fOp g (l ++ [p]) = if fFx g l = 0 ∨ fOp g l + g.b ≤ p.1 then p.1 else fOp g l := by
  unfold fOp fFx lFold
  rw [List.foldl_append]
  rfl
theorem fFx_snoc (g : Gt) (p : Int × Int) (l) : fFx g (l ++ [p]) = (if fFx g l = 0 ∨ fOp g l + g.b ≤ p.1 then 0 else fFx g l) + p.2 := by
  unfold fOp fFx lFold
  rw [List.foldl_append]
  rfl
/-- the list is in order -/
structure LogOk (c : Int) (l : List (Int × Int)) : Prop where
  cost : ∀ p ∈ l, 0 < p.2 ∧ p.2 ≤ 2
  time : ∀ p ∈ l, 20 ≤ p.1 ∧ p.1 ≤ c ∧ p.1 % 2 = 0
  asc : l.Pairwise fun p q => p.1 ≤ q.1
  len : l.length ≤ 8
theorem LogOk.later {c c' : Int} {l} (x : LogOk c l) (h : c ≤ c') : LogOk c' l := ⟨x.cost, fun p hp => ⟨(x.time p hp).1, by have := (x.time p hp).2.1; omega, (x.time p hp).2.2⟩, x.asc, x.len⟩
theorem LogOk.init {c : Int} {l p} (x : LogOk c (l ++ [p])) : LogOk c l := ⟨fun q hq => x.cost q (List.mem_append_left _ hq), fun q hq => x.time q (List.mem_append_left _ hq), (List.pairwise_append.mp x.asc).1, by have := x.len; rw [List.length_append] at this; omega⟩
theorem snoc_cases {α : Type} (l : List α) : l = [] ∨ ∃ r p, l = r ++ [p] := by
  rcases List.eq_nil_or_concat l with h | ⟨r, p, h⟩
  · exact .inl h
  · exact .inr ⟨r, p, by simpa using h⟩
theorem snoc_ind {α : Type} {P : List α → Prop} (h0 : P []) (h1 : ∀ l p, P l → P (l ++ [p])) (l : List α) : P l := by
  have : ∀ r : List α, P r.reverse := fun r => by
    induction r with
    | nil => exact h0
    | cons a r ih => rw [List.reverse_cons]; exact h1 _ _ ih
  simpa using this l.reverse
theorem fFx_pos {c : Int} (g : Gt) : ∀ {l}, LogOk c l → 0 ≤ fFx g l ∧ (l ≠ [] → 0 < fFx g l) := fun {l} => by
  refine snoc_ind (P := fun l => LogOk c l → 0 ≤ fFx g l ∧ (l ≠ [] → 0 < fFx g l)) ?_ ?_ l
  · exact fun _ => ⟨Int.le_refl _, fun h => absurd rfl h⟩
  · intro l p ih x
    have h := ih x.init
    have hc := (x.cost p (by simp)).1
    rw [fFx_snoc]
    split <;> exact ⟨by omega, fun _ => by omega⟩
theorem wsum_nonneg {c f q : Int} : ∀ {l}, LogOk c l → 0 ≤ wsum f l q := fun {l} x => by
  have : ∀ l : List (Int × Int), (∀ p ∈ l, 0 < p.2 ∧ p.2 ≤ 2) → 0 ≤ wsum f l q ∧ wsum f l q ≤ 2 * l.length := fun l => by
    induction l with
    | nil => intro _; simp [wsum]
    | cons p r ih =>
      intro hc
      have h := ih fun x hx => hc x (List.mem_cons_of_mem _ hx)
      have := hc p List.mem_cons_self
      simp only [wsum, List.length_cons]
      split <;> omega
  exact (this l x.cost).1
theorem wsum_le {c f q : Int} {l} (x : LogOk c l) : wsum f l q ≤ 16 := by
  have : ∀ l : List (Int × Int), (∀ p ∈ l, 0 < p.2 ∧ p.2 ≤ 2) → wsum f l q ≤ 2 * l.length := fun l => by
    induction l with
    | nil => intro _; simp [wsum]
    | cons p r ih =>
      intro hc
      have h := ih fun x hx => hc x (List.mem_cons_of_mem _ hx)
      have := hc p List.mem_cons_self
      simp only [wsum, List.length_cons]
      split <;> omega
  have h := this l x.cost
  have := x.len
  omega
/-- the moving window's moments, the newest first -/
def atsOf (l : List (Int × Int)) : List Int := l.reverse.flatMap fun p => List.replicate p.2.toNat p.1
theorem atsOf_snoc (l : List (Int × Int)) (p : Int × Int) : atsOf (l ++ [p]) = List.replicate p.2.toNat p.1 ++ atsOf l := by
  unfold atsOf
  rw [List.reverse_append]
  rfl
theorem atsOf_mem {l : List (Int × Int)} {a : Int} (h : a ∈ atsOf l) : ∃ p ∈ l, p.1 = a := by
  unfold atsOf at h
  obtain ⟨p, hp, h⟩ := List.mem_flatMap.mp h
  exact ⟨p, List.mem_reverse.mp hp, (List.eq_of_mem_replicate h).symm⟩
theorem atsOf_desc {c : Int} : ∀ {l}, LogOk c l → (atsOf l).Pairwise fun a b => b ≤ a := fun {l} => by
  refine snoc_ind (P := fun l => LogOk c l → (atsOf l).Pairwise fun a b => b ≤ a) ?_ ?_ l
  · exact fun _ => .nil
  · intro l p ih x
    rw [atsOf_snoc]
    refine List.pairwise_append.mpr ⟨?_, ih x.init, fun a ha b hb => ?_⟩
    · exact List.pairwise_replicate.mpr (.inr (Int.le_refl _))
    · obtain ⟨q, hq, rfl⟩ := atsOf_mem hb
      rw [List.eq_of_mem_replicate ha]
      exact (List.pairwise_append.mp x.asc).2.2 q hq p (by simp)
theorem atsOf_len {c : Int} : ∀ {l}, LogOk c l → (atsOf l).length ≤ 2 * l.length := fun {l} => by
  refine snoc_ind (P := fun l => LogOk c l → (atsOf l).length ≤ 2 * l.length) ?_ ?_ l
  · exact fun _ => Nat.le_refl _
  · intro l p ih x
    have := ih x.init
    have := (x.cost p (by simp)).2
    rw [atsOf_snoc, List.length_append, List.length_append, List.length_replicate]
    simp only [List.length_cons, List.length_nil]
    omega
theorem atsOf_count {c : Int} (d m : Int) : ∀ {l}, LogOk c l → ((atsOf l).countP fun a => decide (m - d < a) : Nat) = msum d l m := fun {l} => by
  refine snoc_ind (P := fun l => LogOk c l → (((atsOf l).countP fun a => decide (m - d < a) : Nat) : Int) = msum d l m) ?_ ?_ l
  · exact fun _ => rfl
  · intro l p ih x
    have h := ih x.init
    have := (x.cost p (by simp)).1
    rw [atsOf_snoc, List.countP_append, msum_snoc, ← h, List.countP_replicate]
    by_cases hc : m < p.1 + d
    · rw [if_pos (by simp; omega), if_pos hc]; omega
    · rw [if_neg (by simp; omega), if_neg hc]; omega
theorem count_split {α : Type} (P : α → Bool) (l : List α) (n : Nat) (h0 : n ≤ l.length) (h1 : ∀ i (h : i < l.length), i < n → P l[i] = true) (h2 : ∀ i (h : i < l.length), n ≤ i → P l[i] = false) : l.countP P = n := by
  rw [← List.take_append_drop n l, List.countP_append]
  have e1 : (l.take n).countP P = n := by
    rw [List.countP_eq_length.mpr, List.length_take]
    · omega
    · intro a ha
      obtain ⟨i, hi, rfl⟩ := List.mem_iff_getElem.mp ha
      rw [List.getElem_take]
      rw [List.length_take] at hi
      exact h1 i (by omega) (by omega)
  have e2 : (l.drop n).countP P = 0 := by
    rw [List.countP_eq_zero]
    intro a ha
    obtain ⟨i, hi, rfl⟩ := List.mem_iff_getElem.mp ha
    rw [List.getElem_drop]
    rw [List.length_drop] at hi
    simp [h2 (n + i) (by omega) (by omega)]
  rw [e1, e2]; rfl
theorem mvN_spec {c : Int} (m d : Int) {l} (x : LogOk c l) : (mvN m d (atsOf l) : Int) = msum d l m ∧ mvN m d (atsOf l) ≤ (atsOf l).length ∧ ∀ i (h : i < (atsOf l).length), (i < mvN m d (atsOf l) ↔ m - d < (atsOf l)[i]) := by
  have des := atsOf_desc x
  rw [List.pairwise_iff_getElem] at des
  have gd : ∀ i (h : i < (atsOf l).length), (atsOf l).getD i 0 = (atsOf l)[i] := fun i h => by simp [List.getD, h]
  obtain ⟨b1, b2, b3⟩ := bis_spec (fun i => -((atsOf l).getD i 0)) (-(m - d)) (atsOf l).length (fun i j hij hj => by
    rcases Nat.lt_or_eq_of_le hij with h | h
    · have := des i j (by omega) hj h
      try dsimp only
      rw [gd i (by omega), gd j hj]
      omega
    · rw [h]; exact Int.le_refl _) (atsOf l).length 0 (atsOf l).length (by omega) (by omega) (Nat.le_refl _) (fun i h => absurd h (Nat.not_lt_zero _)) (fun i h h' => absurd h (Nat.not_le.mpr h'))
  have iff : ∀ i (h : i < (atsOf l).length), (i < mvN m d (atsOf l) ↔ m - d < (atsOf l)[i]) := fun i h => by
    constructor
    · intro hi
      have := b2 i hi
      try dsimp only at this
      rw [gd i h] at this
      omega
    · intro hi
      refine Nat.lt_of_not_le fun hge => ?_
      have := b3 i hge h
      try dsimp only at this
      rw [gd i h] at this
      omega
  refine ⟨?_, b1, iff⟩
  rw [← atsOf_count d m x, count_split (fun a => decide (m - d < a)) (atsOf l) (mvN m d (atsOf l)) b1 (fun i h hi => decide_eq_true ((iff i h).mp hi)) fun i h hi => decide_eq_false fun z => absurd ((iff i h).mpr z) (Nat.not_lt.mpr hi)]
end
section
abbrev kF (g : Gt) : Str := keyOf g.a g.b
abbrev kS (g : Gt) (q : Int) : Str := winKey (keyOf g.e g.f) q
/-- a gate as the law makes it -/
structure GtOk (g : Gt) : Prop where
  a2 : 2 ≤ g.a
  a4 : g.a ≤ 5
  b5 : 3 ≤ g.b
  b9 : g.b ≤ 9
  c2 : 2 ≤ g.c
  c4 : g.c ≤ 5
  d3 : 3 ≤ g.d
  d7 : g.d ≤ 9
  dod : g.d % 2 = 1
  e2 : 2 ≤ g.e
  e5 : g.e ≤ 5
  f3 : 3 ≤ g.f
  f9 : g.f ≤ 9
/-- the fixed window's entry -/
def VF (g : Gt) (c : Int) (l : List (Int × Int)) (σ ε : Str → Option Int) : Prop :=
  (σ (kF g) = none ∧ ε (kF g) = none ∧ (l = [] ∨ fOp g l + g.b ≤ c)) ∨ (l ≠ [] ∧ σ (kF g) = some (fFx g l) ∧ ε (kF g) = some (fOp g l + g.b))
/-- the sliding windows' entries -/
def VSl (g : Gt) (c : Int) (l : List (Int × Int)) (σ ε : Str → Option Int) : Prop :=
  ∀ q, c / g.f - 1 ≤ q → (wsum g.f l q = 0 ∧ σ (kS g q) = none ∧ ε (kS g q) = none) ∨ (0 < wsum g.f l q ∧ σ (kS g q) = some (wsum g.f l q) ∧ ∃ e, ε (kS g q) = some e ∧ (q + 2) * g.f ≤ e)
section
variable {g : Gt} {c c' k : Int} {l : List (Int × Int)} {σ ε : Str → Option Int}
theorem div_later (ok : GtOk g) (h : c ≤ c') : c / g.f ≤ c' / g.f := Int.ediv_le_ediv (by have := ok.f3; omega) h
theorem win_pos (ok : GtOk g) (h : 20 ≤ c) : 1 ≤ c / g.f - 1 := by
  have h1 := ok.f3
  have h2 := ok.f9
  have : 2 ≤ c / g.f := (Int.le_ediv_iff_mul_le (by omega)).mpr (by omega)
  omega
theorem VF.later (x : VF g c l σ ε) (h : c ≤ c') : VF g c' l σ ε := by
  rcases x with ⟨a, b, d⟩ | x
  · exact .inl ⟨a, b, d.imp id fun z => by omega⟩
  · exact .inr x
theorem VSl.later (x : VSl g c l σ ε) (ok : GtOk g) (h : c ≤ c') : VSl g c' l σ ε := fun q hq => x q (by have := div_later ok h; omega)
theorem ne_key (ok : GtOk g) (hc : 20 ≤ c) {q : Int} (hq : c / g.f - 1 ≤ q) : kF g ≠ kS g q := winKey_ne (by have := win_pos ok hc; omega)
/-- a look at the fixed key -/
theorem got_f (x : VF g c l σ ε) (lo : LogOk c l) (hc : 0 ≤ c) : VF g c l (gotS σ ε c (kF g)) (gotE ε c (kF g)) ∧ (gotS σ ε c (kF g) (kF g)).getD 0 = lFixed g c (lFold g c l) ∧ (lFixed g c (lFold g c l) ≠ 0 → (gotE ε c (kF g) (kF g)).getD c = fOp g l + g.b) := by
  rw [lFixed_eq]
  rcases x with ⟨a, b, d⟩ | ⟨a, b, d⟩
  · have h0 : (ε (kF g)).getD 0 ≤ c := by rw [b]; exact hc
    have e0 : (if fOp g l + g.b ≤ c then 0 else fFx g l) = 0 := by
      rcases d with rfl | d
      · simp [fFx, lFold]
      · rw [if_pos d]
    unfold gotS gotE
    rw [if_pos h0, if_pos h0, e0]
    refine ⟨.inl ⟨by simp [del], by simp [del], d⟩, by simp [del], fun z => absurd rfl z⟩
  · by_cases h : fOp g l + g.b ≤ c
    · have h0 : (ε (kF g)).getD 0 ≤ c := by rw [d]; exact h
      unfold gotS gotE
      rw [if_pos h0, if_pos h0, if_pos h]
      exact ⟨.inl ⟨by simp [del], by simp [del], .inr h⟩, by simp [del], fun z => absurd rfl z⟩
    · have h0 : ¬ (ε (kF g)).getD 0 ≤ c := by rw [d]; exact h
      unfold gotS gotE
      rw [if_neg h0, if_neg h0, if_neg h]
      exact ⟨.inr ⟨a, b, d⟩, by rw [b]; rfl, fun _ => by rw [d]; rfl⟩
theorem got_f_s (x : VSl g c l σ ε) (ok : GtOk g) (hc : 20 ≤ c) : VSl g c l (gotS σ ε c (kF g)) (gotE ε c (kF g)) := fun q hq => by
  have ne := ne_key ok hc hq
  have e1 : gotS σ ε c (kF g) (kS g q) = σ (kS g q) := by unfold gotS; split <;> simp [del, Ne.symm ne]
  have e2 : gotE ε c (kF g) (kS g q) = ε (kS g q) := by unfold gotE; split <;> simp [del, Ne.symm ne]
  rw [e1, e2]
  exact x q hq
theorem del_none {α : Type} {σ : Str → Option α} {k : Str} (h : σ k = none) : del σ k = σ := by
  funext x
  unfold del
  by_cases e : x = k
  · rw [if_pos e, e, h]
  · rw [if_neg e]
/-- a look at a window that still counts turns nothing -/
theorem got_s (x : VSl g c l σ ε) (ok : GtOk g) (hc : 0 ≤ c) {q : Int} (hq : c / g.f - 1 ≤ q) : gotS σ ε c (kS g q) = σ ∧ gotE ε c (kS g q) = ε ∧ (σ (kS g q)).getD 0 = wsum g.f l q := by
  rcases x q hq with ⟨a, b, d⟩ | ⟨a, b, e, d, he⟩
  · have h0 : (ε (kS g q)).getD 0 ≤ c := by rw [d]; exact hc
    unfold gotS gotE
    rw [if_pos h0, if_pos h0, del_none b, del_none d, b, a]
    exact ⟨rfl, rfl, rfl⟩
  · have hf := ok.f3
    have h1 : c < (q + 2) * g.f := by
      have e1 : c < (c / g.f + 1) * g.f := Int.lt_ediv_add_one_mul_self c (by omega)
      have e2 : (c / g.f + 1) * g.f ≤ (q + 2) * g.f := Int.mul_le_mul_of_nonneg_right (by omega) (by omega)
      omega
    have h0 : ¬ (ε (kS g q)).getD 0 ≤ c := by rw [d]; show ¬ e ≤ c; omega
    unfold gotS gotE
    rw [if_neg h0, if_neg h0, b]
    exact ⟨rfl, rfl, rfl⟩
/-- the fixed window's hit -/
theorem hit_f (x : VF g c l σ ε) (lo : LogOk c l) (ok : GtOk g) (hc : 20 ≤ c) (hk : 0 < k) : VF g c (l ++ [(c, k)]) (incS σ ε c (kF g) k) (incE σ ε c (kF g) g.b) := by
  obtain ⟨y, e1, e2⟩ := got_f x lo (by omega)
  have hp := fFx_pos g lo
  refine .inr ⟨by simp, ?_, ?_⟩
  · unfold incS
    rw [e1, fFx_snoc, lFixed_eq]
    simp only [put, if_true]
    congr 2
    by_cases h : fOp g l + g.b ≤ c
    · rw [if_pos h, if_pos (.inr h)]
    · rw [if_neg h]
      by_cases h' : fFx g l = 0
      · rw [if_pos (.inl h'), h']
      · rw [if_neg (fun z => z.elim h' h)]
  · unfold incE
    rw [e1, fOp_snoc, lFixed_eq]
    by_cases h : fOp g l + g.b ≤ c
    · rw [if_pos h, if_pos rfl, if_pos (.inr h)]
      simp [put]
    · rw [if_neg h]
      by_cases h' : fFx g l = 0
      · rw [if_pos h', if_pos (.inl h')]
        simp [put]
      · rw [if_neg h', if_neg (fun z => z.elim h' h)]
        have e3 := e2 (by rw [lFixed_eq, if_neg h]; exact h')
        rcases y with ⟨a, b, d⟩ | ⟨a, b, d⟩
        · rcases d with d | d
          · subst d; exact absurd rfl h'
          · exact absurd d h
        · exact d
theorem hit_f_s (x : VSl g c l σ ε) (ok : GtOk g) (hc : 20 ≤ c) : VSl g c l (incS σ ε c (kF g) k) (incE σ ε c (kF g) g.b) := fun q hq => by
  have ne := ne_key ok hc hq
  have y := got_f_s x ok hc q hq
  have e1 : incS σ ε c (kF g) k (kS g q) = gotS σ ε c (kF g) (kS g q) := by unfold incS; simp [put, Ne.symm ne]
  have e2 : incE σ ε c (kF g) g.b (kS g q) = gotE ε c (kF g) (kS g q) := by unfold incE; split <;> simp [put, Ne.symm ne]
  rw [e1, e2]
  exact y
/-- the sliding window's hit -/
theorem hit_s (x : VSl g c l σ ε) (lo : LogOk c l) (ok : GtOk g) (hc : 20 ≤ c) (hk : 0 < k) : VSl g c (l ++ [(c, k)]) (incS σ ε c (kS g (c / g.f)) k) (incE σ ε c (kS g (c / g.f)) (2 * g.f)) := fun q hq => by
  have hf := ok.f3
  have wp := win_pos ok hc
  obtain ⟨e1, e2, e3⟩ := got_s x ok (by omega) (q := c / g.f) (by omega)
  have hw := wsum_nonneg (f := g.f) (q := c / g.f) lo
  unfold incS incE
  rw [e1, e2, e3, wsum_snoc]
  by_cases h : q = c / g.f
  · subst h
    rw [if_pos rfl]
    refine .inr ⟨by omega, by simp [put], ?_⟩
    by_cases h0 : wsum g.f l (c / g.f) = 0
    · rw [if_pos h0]
      refine ⟨c + 2 * g.f, by simp [put], ?_⟩
      have : c / g.f * g.f ≤ c := Int.ediv_mul_le c (by omega)
      rw [Int.add_mul]; omega
    · rw [if_neg h0]
      rcases x (c / g.f) (by omega) with ⟨a, _⟩ | ⟨_, _, e, d, he⟩
      · exact absurd a h0
      · exact ⟨e, d, he⟩
  · have ne : kS g q ≠ kS g (c / g.f) := fun z => h (winKey_inj (by omega) (by omega) z)
    rw [if_neg (Ne.symm h), Int.add_zero]
    have a1 : put σ (kS g (c / g.f)) (wsum g.f l (c / g.f) + k) (kS g q) = σ (kS g q) := by simp [put, ne]
    have a2 : (if wsum g.f l (c / g.f) = 0 then put ε (kS g (c / g.f)) (c + 2 * g.f) else ε) (kS g q) = ε (kS g q) := by split <;> simp [put, ne]
    rw [a1, a2]
    exact x q hq
theorem hit_s_f (x : VF g c l σ ε) (y : VSl g c l' σ ε) (ok : GtOk g) (hc : 20 ≤ c) : VF g c l (incS σ ε c (kS g (c / g.f)) k) (incE σ ε c (kS g (c / g.f)) (2 * g.f)) := by
  have wp := win_pos ok hc
  obtain ⟨e1, e2, e3⟩ := got_s y ok (by omega) (q := c / g.f) (by omega)
  have ne := ne_key (q := c / g.f) ok hc (by omega)
  have a1 : incS σ ε c (kS g (c / g.f)) k (kF g) = σ (kF g) := by unfold incS; rw [e1]; simp [put, ne]
  have a2 : incE σ ε c (kS g (c / g.f)) (2 * g.f) (kF g) = ε (kF g) := by unfold incE; rw [e1, e2]; split <;> simp [put, ne]
  unfold VF
  rw [a1, a2]
  exact x
end
end
section
section
variable {g : Gt} {c c' k m : Int} {l : List (Int × Int)}
/-- what a window before counts, weighed -/
def wgt (g : Gt) (l : List (Int × Int)) (m : Int) : Int := wsum g.f l (m / g.f - 1) * (g.f - m % g.f) / g.f
theorem cnt_eq (g : Gt) (hf : 0 < g.f) {s : Int} (hs : 0 ≤ s) : ∀ n : Nat, (cnt g s n : Int) = Min.min (n : Int) (s / g.f)
  | 0 => by
    have := Int.ediv_nonneg hs (Int.le_of_lt hf)
    simp [cnt]; omega
  | n + 1 => by
    rw [cnt_succ, Int.natCast_add, cnt_eq g hf hs n]
    have e : (((n : Int) + 1) * g.f ≤ s) ↔ (n : Int) + 1 ≤ s / g.f := (Int.le_ediv_iff_mul_le hf).symm
    by_cases h : ((n : Int) + 1) * g.f ≤ s
    · rw [if_pos h]; have := e.mp h; omega
    · rw [if_neg h]; have := fun z => h (e.mpr z); omega
theorem whole_eq (ok : GtOk g) (lo : LogOk c l) : lWhole g m (lFold g m l) = wgt g l m := by
  have hf := ok.f3
  have hw := wsum_nonneg (f := g.f) (q := m / g.f - 1) lo
  have hm0 := Int.emod_nonneg m (show g.f ≠ 0 by omega)
  have hm1 := Int.emod_lt_of_pos m (show 0 < g.f by omega)
  unfold lWhole wgt
  rw [l_ahead]
  have hs : 0 ≤ wsum g.f l (m / g.f - 1) * (g.f - m % g.f) := Int.mul_nonneg hw (by omega)
  show (cnt g (wsum g.f l (m / g.f - 1) * (g.f - m % g.f)) (wsum g.f l (m / g.f - 1)).toNat : Int) = _
  rw [cnt_eq g (by omega) hs, Int.toNat_of_nonneg hw]
  have : wsum g.f l (m / g.f - 1) * (g.f - m % g.f) / g.f ≤ wsum g.f l (m / g.f - 1) := by
    refine Int.ediv_le_of_le_mul (by omega) ?_
    exact Int.mul_le_mul_of_nonneg_left (by omega) hw
  omega
theorem left_eq (ok : GtOk g) (lo : LogOk c l) : lawLeft g l m = (g.a - (if fOp g l + g.b ≤ m then 0 else fFx g l), g.c - msum g.d l m, g.e - wsum g.f l (m / g.f) - wgt g l m) := by
  unfold lawLeft
  simp only [lFixed_eq, l_moving, l_here, whole_eq ok lo]
def left1 (g : Gt) (l : List (Int × Int)) (m : Int) : Int := g.a - (if fOp g l + g.b ≤ m then 0 else fFx g l)
def left2 (g : Gt) (l : List (Int × Int)) (m : Int) : Int := g.c - msum g.d l m
def left3 (g : Gt) (l : List (Int × Int)) (m : Int) : Int := g.e - wsum g.f l (m / g.f) - wgt g l m
/-- no window is overfull -/
structure Cap (g : Gt) (c : Int) (l : List (Int × Int)) : Prop where
  f : fFx g l ≤ g.a
  s : wsum g.f l (c / g.f) + wgt g l c ≤ g.e
theorem wsum_future (lo : LogOk c l) (ok : GtOk g) {q : Int} (h : c / g.f < q) : wsum g.f l q = 0 := by
  have : ∀ l : List (Int × Int), (∀ p ∈ l, p.1 ≤ c) → wsum g.f l q = 0 := fun l => by
    induction l with
    | nil => intro _; rfl
    | cons p r ih =>
      intro ht
      have h1 := div_later ok (ht p List.mem_cons_self)
      simp only [wsum]
      rw [if_neg (by omega), ih fun x hx => ht x (List.mem_cons_of_mem _ hx)]
      rfl
  exact this l fun p hp => (lo.time p hp).2.1
theorem wgt_le (ok : GtOk g) (lo : LogOk c l) : wgt g l m ≤ wsum g.f l (m / g.f - 1) := by
  have hf := ok.f3
  have hw := wsum_nonneg (f := g.f) (q := m / g.f - 1) lo
  have hm0 := Int.emod_nonneg m (show g.f ≠ 0 by omega)
  exact Int.ediv_le_of_le_mul (by omega) (Int.mul_le_mul_of_nonneg_left (by omega) hw)
theorem wgt_nonneg (ok : GtOk g) (lo : LogOk c l) : 0 ≤ wgt g l m := by
  have hf := ok.f3
  have hw := wsum_nonneg (f := g.f) (q := m / g.f - 1) lo
  have hm1 := Int.emod_lt_of_pos m (show 0 < g.f by omega)
  exact Int.ediv_nonneg (Int.mul_nonneg hw (by omega)) (by omega)
theorem mod_same (h : c / g.f = m / g.f) : m % g.f - c % g.f = m - c := by
  have a := Int.mul_ediv_add_emod c g.f
  have b := Int.mul_ediv_add_emod m g.f
  rw [h] at a
  omega
theorem wgt_anti (ok : GtOk g) (lo : LogOk c' l) (h : c ≤ m) (e : c / g.f = m / g.f) : wgt g l m ≤ wgt g l c := by
  have hf := ok.f3
  have hw := wsum_nonneg (f := g.f) (q := m / g.f - 1) lo
  have := mod_same e
  unfold wgt
  rw [e]
  exact Int.ediv_le_ediv (by omega) (Int.mul_le_mul_of_nonneg_left (by omega) hw)
/-- the sliding sum never grows by waiting -/
theorem cap_s (ok : GtOk g) (lo : LogOk c l) (h : c ≤ m) (hs : wsum g.f l (c / g.f) + wgt g l c ≤ k) (hk : 0 ≤ k) : wsum g.f l (m / g.f) + wgt g l m ≤ k := by
  have h1 := div_later ok h
  have n0 := wgt_nonneg (m := c) ok lo
  rcases Int.lt_or_eq_of_le h1 with h2 | h2
  · have e0 := wsum_future lo ok h2
    have w0 := wgt_le (m := m) ok lo
    rcases Int.lt_or_eq_of_le (show c / g.f ≤ m / g.f - 1 by omega) with h3 | h3
    · have := wsum_future lo ok h3
      omega
    · rw [← h3] at w0
      omega
  · have := wgt_anti ok lo h h2
    rw [← h2]
    omega
theorem Cap.later (x : Cap g c l) (ok : GtOk g) (lo : LogOk c l) (h : c ≤ m) : Cap g m l := ⟨x.f, cap_s ok lo h x.s (by have := ok.e2; omega)⟩
theorem msum_nonneg (lo : LogOk c l) : 0 ≤ msum g.d l m := by
  have := (mvN_spec m g.d lo).1
  omega
theorem msum_le (lo : LogOk c l) : msum g.d l m ≤ 16 := by
  have h1 := (mvN_spec m g.d lo)
  have h2 := atsOf_len lo
  have := lo.len
  omega
/-- the told reset of the fixed limit -/
theorem shut1 (lo : LogOk c l) (hm : c ≤ m) (hs : left1 g l c < k) (hk : k ≤ g.a) (ht : m ≤ fOp g l + g.b - 1) : left1 g l m < k := by
  unfold left1 at *
  split at hs
  · omega
  · rw [if_neg (by omega)]; exact hs
theorem told1 (hs : left1 g l c < k) (hk : k ≤ g.a) : c ≤ fOp g l + g.b - 1 ∧ (if fOp g l + g.b ≤ c then 0 else fFx g l) ≠ 0 := by
  unfold left1 at hs
  split at hs
  · omega
  · rename_i h
    exact ⟨by omega, by rw [if_neg h]; omega⟩
/-- the moving limit's -/
theorem told2 (lo : LogOk c l) (hs : left2 g l c < k) (hk : k ≤ g.c) : mvN c g.d (atsOf l) ≠ 0 ∧ atsOf l ≠ [] ∧ ∃ a, (atsOf l)[mvN c g.d (atsOf l) - 1]? = some a ∧ mvS c g.d (atsOf l) = a ∧ c - g.d < a := by
  obtain ⟨h1, h2, h3⟩ := mvN_spec c g.d lo
  unfold left2 at hs
  have hn : mvN c g.d (atsOf l) ≠ 0 := by omega
  have hlt : mvN c g.d (atsOf l) - 1 < (atsOf l).length := by omega
  have hne : atsOf l ≠ [] := by intro e; rw [e] at hlt; exact Nat.not_lt_zero _ hlt
  refine ⟨hn, hne, (atsOf l)[mvN c g.d (atsOf l) - 1], by simp [hlt], ?_, (h3 _ hlt).mp (by omega)⟩
  unfold mvS
  rw [if_neg hne, if_neg hn]
  simp [List.getD, hlt]
theorem shut2 (lo : LogOk c l) (hm : c ≤ m) (hs : left2 g l c < k) (hk : k ≤ g.c) (ht : m ≤ mvS c g.d (atsOf l) + g.d - 1) : left2 g l m < k := by
  obtain ⟨hn, hne, a, ha, hS, hca⟩ := told2 lo hs hk
  obtain ⟨h1, h2, h3⟩ := mvN_spec c g.d lo
  obtain ⟨h1', h2', h3'⟩ := mvN_spec m g.d lo
  have hlt : mvN c g.d (atsOf l) - 1 < (atsOf l).length := by omega
  have : mvN c g.d (atsOf l) - 1 < mvN m g.d (atsOf l) := (h3' _ hlt).mpr (by
    have e : (atsOf l)[mvN c g.d (atsOf l) - 1] = a := by simpa [hlt] using ha
    rw [e]; omega)
  unfold left2 at *
  omega
end
end
section
section
variable {g : Gt} {c c' k m : Int} {l : List (Int × Int)}
def pcO (g : Gt) (l : List (Int × Int)) (c : Int) : Int := wsum g.f l (c / g.f - 1)
def peO (g : Gt) (l : List (Int × Int)) (c : Int) : Int := if pcO g l c = 0 then 0 else g.f - (c - g.f) % g.f
def ccO (g : Gt) (l : List (Int × Int)) (c : Int) : Int := wsum g.f l (c / g.f)
def ceO (g : Gt) (c : Int) : Int := g.f - c % g.f + g.f
def told3 (g : Gt) (l : List (Int × Int)) (c : Int) : Int := ssNum c g.f (pcO g l c) (peO g l c) (ccO g l c) (ceO g c) / ssDen (pcO g l c)
theorem sub_mod (h : 0 < g.f) : (c - g.f) % g.f = c % g.f := by
  rw [Int.sub_emod, Int.emod_self, Int.sub_zero, Int.emod_emod]
theorem sub_div (h : 0 < g.f) : (c - g.f) / g.f = c / g.f - 1 := by
  have := Int.add_mul_ediv_right c (-1) (show g.f ≠ 0 by omega)
  rw [show c + -1 * g.f = c - g.f by omega] at this
  omega
theorem next_bound (hf : 0 < g.f) (hm : c ≤ m) (hne : m / g.f ≠ c / g.f) : c - c % g.f + g.f ≤ m := by
  have h1 : c / g.f ≤ m / g.f := Int.ediv_le_ediv hf hm
  have h2 : (c / g.f + 1) * g.f ≤ m := by
    have a : m / g.f * g.f ≤ m := Int.ediv_mul_le m (by omega)
    have b : (c / g.f + 1) * g.f ≤ m / g.f * g.f := Int.mul_le_mul_of_nonneg_right (by omega) (by omega)
    omega
  have h3 := Int.ediv_mul_add_emod c g.f
  rw [Int.add_mul] at h2
  omega
theorem at_bound (hf : 0 < g.f) (hm : m = c - c % g.f + g.f) : m / g.f = c / g.f + 1 ∧ m % g.f = 0 := by
  have h3 := Int.ediv_mul_add_emod c g.f
  have e : m = (c / g.f + 1) * g.f := by rw [Int.add_mul]; omega
  rw [e]
  exact ⟨Int.mul_ediv_cancel _ (by omega), Int.mul_emod_left ..⟩
/-- at a window's first moment all that came before counts whole -/
theorem left3_bound (ok : GtOk g) (lo : LogOk c l) (hm : m = c - c % g.f + g.f) : left3 g l m = g.e - ccO g l c := by
  have hf := ok.f3
  obtain ⟨e1, e2⟩ := at_bound (g := g) (by omega) hm
  unfold left3 wgt ccO
  rw [e1, e2, wsum_future lo ok (by omega), show c / g.f + 1 - 1 = c / g.f by omega]
  simp only [Int.sub_zero]
  rw [Int.mul_ediv_cancel _ (by omega)]
theorem left3_le (ok : GtOk g) (lo : LogOk c l) : left3 g l c ≤ g.e - ccO g l c := by
  have := wgt_nonneg (m := c) ok lo
  unfold left3 ccO
  omega
theorem told3_ge (ok : GtOk g) (lo : LogOk c l) : c ≤ told3 g l c := by
  have hf := ok.f3
  have hp := wsum_nonneg (f := g.f) (q := c / g.f - 1) lo
  have h0 := Int.emod_nonneg (ceO g c) (show g.f ≠ 0 by omega)
  unfold told3 ssNum ssDen
  by_cases h : pcO g l c = 0
  · rw [if_pos h, if_pos h, Int.ediv_one]
    split <;> omega
  · rw [if_neg h, if_neg h]
    have h1 := Int.emod_nonneg (peO g l c * pcO g l c) (show g.f ≠ 0 by omega)
    have hp' : 0 < pcO g l c := by unfold pcO at *; omega
    have h2 : 0 ≤ ceO g c % g.f * pcO g l c := Int.mul_nonneg h0 (by omega)
    have h3 : 0 ≤ (if ccO g l c = 0 then peO g l c * pcO g l c % g.f else min (peO g l c * pcO g l c % g.f) (ceO g c % g.f * pcO g l c)) := by split <;> omega
    rw [Int.add_comm, Int.add_mul_ediv_right _ _ (by omega)]
    have := Int.ediv_nonneg h3 (Int.le_of_lt hp')
    omega
theorem shut3 (ok : GtOk g) (lo : LogOk c l) (hm : c ≤ m) (hs : left3 g l c < k) (hk : k ≤ g.e) (ht : m ≤ told3 g l c) : left3 g l m < k := by
  have hf := ok.f3
  have hp := wsum_nonneg (f := g.f) (q := c / g.f - 1) lo
  have r0 := Int.emod_nonneg c (show g.f ≠ 0 by omega)
  have r1 := Int.emod_lt_of_pos c (show 0 < g.f by omega)
  have cc0 := wsum_nonneg (f := g.f) (q := c / g.f) lo
  have hle := left3_le ok lo (c := c)
  unfold told3 ssNum ssDen at ht
  by_cases h : pcO g l c = 0
  · have hw : wgt g l c = 0 := by
      have a := wgt_le (m := c) ok lo
      have b := wgt_nonneg (m := c) ok lo
      unfold pcO at h
      omega
    have hl : left3 g l c = g.e - ccO g l c := by unfold left3 ccO; omega
    rw [if_pos h, if_pos h, Int.ediv_one] at ht
    by_cases hc : ccO g l c = 0
    · omega
    · rw [if_neg hc] at ht
      by_cases he : m / g.f = c / g.f
      · have : left3 g l m = left3 g l c := by
          have a := wgt_le (m := m) ok lo
          have b := wgt_nonneg (m := m) ok lo
          rw [he] at a
          unfold pcO at h
          unfold left3
          rw [he]
          omega
        omega
      · have hb := next_bound (g := g) (by omega) hm he
        have hce : ceO g c % g.f ≤ g.f - c % g.f := by
          unfold ceO
          by_cases h0 : c % g.f = 0
          · rw [h0, Int.sub_zero, Int.add_emod_right, Int.emod_self]; omega
          · rw [Int.add_emod_right, Int.emod_eq_of_lt (by omega) (by omega)]
            exact Int.le_refl _
        have hme : m = c - c % g.f + g.f := by omega
        rw [left3_bound ok lo hme]
        omega
  · have hp' : 0 < pcO g l c := by unfold pcO at *; omega
    rw [if_neg h, if_neg h] at ht
    have hpe : peO g l c = g.f - c % g.f := by unfold peO; rw [if_neg h, sub_mod (by omega)]
    have hR : ∀ R : Int, (c * pcO g l c + R) / pcO g l c = c + R / pcO g l c := fun R => by rw [Int.add_comm, Int.add_mul_ediv_right _ _ (by omega)]; omega
    rw [hR] at ht
    have hd : (m - c) * pcO g l c ≤ peO g l c * pcO g l c % g.f := by
      have a : m - c ≤ (if ccO g l c = 0 then peO g l c * pcO g l c % g.f else min (peO g l c * pcO g l c % g.f) (ceO g c % g.f * pcO g l c)) / pcO g l c := by omega
      have b := (Int.le_ediv_iff_mul_le hp').mp a
      split at b
      · exact b
      · exact Int.le_trans b (Int.min_le_left ..)
    rw [hpe] at hd
    have hW : (g.f - c % g.f) * pcO g l c = g.f * wgt g l c + (g.f - c % g.f) * pcO g l c % g.f := by
      have := Int.mul_ediv_add_emod ((g.f - c % g.f) * pcO g l c) g.f
      have e : wgt g l c = (g.f - c % g.f) * pcO g l c / g.f := by unfold wgt pcO; rw [Int.mul_comm]
      rw [e]; omega
    have w0 := wgt_nonneg (m := c) ok lo
    by_cases he : m / g.f = c / g.f
    · have hms := mod_same (g := g) he.symm
      have : wgt g l c ≤ wgt g l m := by
        have e : wgt g l m = (g.f - m % g.f) * pcO g l c / g.f := by unfold wgt pcO; rw [he, Int.mul_comm]
        rw [e]
        refine (Int.le_ediv_iff_mul_le (by omega)).mpr ?_
        have e2 : (g.f - m % g.f) * pcO g l c = (g.f - c % g.f) * pcO g l c - (m - c) * pcO g l c := by rw [← Int.sub_mul]; congr 1; omega
        rw [e2, Int.mul_comm]
        omega
      unfold left3 at *
      rw [he]
      omega
    · have hb := next_bound (g := g) (by omega) hm he
      have h1 : (g.f - c % g.f) * pcO g l c ≤ (m - c) * pcO g l c := Int.mul_le_mul_of_nonneg_right (by omega) (by omega)
      have hw0 : wgt g l c = 0 := by
        have a : g.f * wgt g l c ≤ 0 := by omega
        rcases Int.lt_or_eq_of_le w0 with h2 | h2
        · have := Int.mul_pos (show 0 < g.f by omega) h2
          omega
        · exact h2.symm
      have heq : (m - c) * pcO g l c ≤ (g.f - c % g.f) * pcO g l c := by rw [hw0, Int.mul_zero] at hW; omega
      have hmle : m - c ≤ g.f - c % g.f := Int.le_of_mul_le_mul_right heq hp'
      have hme : m = c - c % g.f + g.f := by omega
      rw [left3_bound ok lo hme]
      have hl : left3 g l c = g.e - ccO g l c := by unfold left3 ccO; omega
      omega
end
end
section
section
variable {g : Gt} {c c' k m : Int} {l : List (Int × Int)}
theorem fOp_mem (g : Gt) : ∀ {l : List (Int × Int)}, l ≠ [] → ∃ p ∈ l, p.1 = fOp g l := fun {l} => by
  refine snoc_ind (P := fun l => l ≠ [] → ∃ p ∈ l, p.1 = fOp g l) ?_ ?_ l
  · exact fun h => absurd rfl h
  · intro l p ih _
    rw [fOp_snoc]
    by_cases h : fFx g l = 0 ∨ fOp g l + g.b ≤ p.1
    · rw [if_pos h]; exact ⟨p, by simp, rfl⟩
    · rw [if_neg h]
      by_cases hl : l = []
      · subst hl; exact absurd (.inl rfl) h
      · obtain ⟨q, hq, e⟩ := ih hl
        exact ⟨q, List.mem_append_left _ hq, e⟩
theorem free1 (ok : GtOk g) (h : ∀ p ∈ l, p.1 + 18 ≤ c) : left1 g l c = g.a := by
  unfold left1
  by_cases hl : l = []
  · subst hl; split <;> simp [fFx, lFold]
  · obtain ⟨p, hp, e⟩ := fOp_mem g hl
    have := h p hp
    have := ok.b9
    rw [if_pos (by omega)]; omega
theorem free2 (ok : GtOk g) (h : ∀ p ∈ l, p.1 + 18 ≤ c) : left2 g l c = g.c := by
  have h7 := ok.d7
  have : ∀ l : List (Int × Int), (∀ p ∈ l, p.1 + 18 ≤ c) → msum g.d l c = 0 := fun l => by
    induction l with
    | nil => intro _; rfl
    | cons p r ih =>
      intro h
      have := h p List.mem_cons_self
      simp only [msum]
      rw [if_neg (by omega), ih fun x hx => h x (List.mem_cons_of_mem _ hx)]
      rfl
  unfold left2
  rw [this l h]; omega
theorem free_w (ok : GtOk g) {q : Int} (hq : c / g.f - 1 ≤ q) : ∀ {l : List (Int × Int)}, (∀ p ∈ l, p.1 + 18 ≤ c) → wsum g.f l q = 0
  | [], _ => rfl
  | p :: r, h => by
    have hf := ok.f3
    have h9 := ok.f9
    have := h p List.mem_cons_self
    have e : p.1 / g.f + 2 ≤ c / g.f := by
      have e1 := Int.add_mul_ediv_right p.1 2 (show g.f ≠ 0 by omega)
      rw [← e1]
      exact Int.ediv_le_ediv (by omega) (by omega)
    simp only [wsum]
    rw [if_neg (by omega), free_w ok hq fun x hx => h x (List.mem_cons_of_mem _ hx)]
    rfl
theorem free3 (ok : GtOk g) (lo : LogOk c l) (h : ∀ p ∈ l, p.1 + 18 ≤ c) : left3 g l c = g.e := by
  have a := wgt_le (m := c) ok lo
  have b := wgt_nonneg (m := c) ok lo
  rw [free_w ok (Int.le_refl _) h] at a
  unfold left3
  rw [free_w ok (by omega) h]
  omega
theorem adm2 (ok : GtOk g) (lo : LogOk c l) (hc : c % 2 = 0) (hk : k ≤ left2 g l c) : ∀ a, (atsOf l)[(g.c - k).toNat]? = some a → a < c - g.d := by
  intro a ha
  obtain ⟨h1, h2, h3⟩ := mvN_spec c g.d lo
  obtain ⟨hlt, e⟩ := List.getElem?_eq_some_iff.mp ha
  unfold left2 at hk
  have n := msum_nonneg (m := c) (g := g) lo
  have : ¬ (c - g.d < a) := fun z => by
    have := (h3 _ hlt).mpr (by rw [e]; exact z)
    omega
  have hev : a % 2 = 0 := by
    obtain ⟨p, hp, rfl⟩ := atsOf_mem (List.mem_of_getElem? ha)
    exact (lo.time p hp).2.2
  have := ok.dod
  omega
theorem LogOk.snoc (lo : LogOk c l) (h0 : 0 < k) (h2 : k ≤ 2) (hc : 20 ≤ c) (he : c % 2 = 0) (hl : l.length < 8) : LogOk c (l ++ [(c, k)]) := by
  refine ⟨fun p hp => ?_, fun p hp => ?_, List.pairwise_append.mpr ⟨lo.asc, List.pairwise_singleton .., fun p hp q hq => ?_⟩, by simp; omega⟩
  · rcases List.mem_append.mp hp with hp | hp
    · exact lo.cost p hp
    · rw [List.mem_singleton.mp hp]; exact ⟨h0, h2⟩
  · rcases List.mem_append.mp hp with hp | hp
    · exact lo.time p hp
    · rw [List.mem_singleton.mp hp]; exact ⟨hc, Int.le_refl _, he⟩
  · rw [List.mem_singleton.mp hq]; exact (lo.time p hp).2.1
theorem wgt_snoc : wgt g (l ++ [(c, k)]) c = wgt g l c := by
  unfold wgt
  rw [wsum_snoc, if_neg (by show ¬ c / g.f = c / g.f - 1; omega), Int.add_zero]
theorem Cap.snoc (x : Cap g c l) (h1 : k ≤ left1 g l c) (h3 : k ≤ left3 g l c) : Cap g c (l ++ [(c, k)]) := by
  refine ⟨?_, ?_⟩
  · rw [fFx_snoc]
    unfold left1 at h1
    have := x.f
    by_cases h : fOp g l + g.b ≤ c
    · rw [if_pos h] at h1
      rw [if_pos (.inr h)]; omega
    · rw [if_neg h] at h1
      split <;> omega
  · rw [wsum_snoc, if_pos rfl, wgt_snoc]
    unfold left3 at h3
    show wsum g.f l (c / g.f) + k + _ ≤ _
    omega
theorem Cap.nil (ok : GtOk g) : Cap g c [] := by
  have := ok.a2
  have := ok.e2
  refine ⟨?_, ?_⟩
  · show (0 : Int) ≤ _; omega
  · unfold wgt
    simp only [wsum, Int.zero_mul, Int.zero_ediv]
    omega
theorem LogOk.nil : LogOk c [] := ⟨fun _ h => (nomatch h), fun _ h => (nomatch h), .nil, by simp⟩
theorem rem1 (x : Cap g c l) (ok : GtOk g) (lo : LogOk c l) : max 0 (g.a - lFixed g c (lFold g c l)) = left1 g l c := by
  have := x.f
  have := (fFx_pos g lo).1
  have := ok.a2
  rw [lFixed_eq]
  unfold left1
  split <;> omega
theorem wg_eq (ok : GtOk g) : pcO g l c * peO g l c / g.f = wgt g l c := by
  have hf := ok.f3
  unfold peO wgt
  by_cases h : pcO g l c = 0
  · rw [if_pos h]
    unfold pcO at h
    rw [h, Int.mul_zero, Int.zero_mul]
  · rw [if_neg h, sub_mod (by omega)]
    rfl
theorem rem3 (x : Cap g c l) (ok : GtOk g) : max 0 (g.e - (pcO g l c * peO g l c / g.f + ccO g l c)) = left3 g l c := by
  have := x.s
  rw [wg_eq ok]
  unfold left3 ccO
  omega
theorem left_tuple (ok : GtOk g) (lo : LogOk c l) : lawLeft g l m = (left1 g l m, left2 g l m, left3 g l m) := left_eq ok lo
end
end
section
set_option maxHeartbeats 1000000
/-- the logs that the three limits have taken in, the bounds, the cells -/
structure LK where
  N : Nat
  lF : List (Int × Int)
  lS : List (Int × Int)
  lM : List (Int × Int)
  lg : List (Int × Int)
  cv : Option Value
  lv : Option Value
  tv : Option Value
  sv : Option Value
/-- the store as the logs have it -/
def LV (w : World) (X : LA) (gt : Gt) (r : Heap) (bad : List Addr) (c : Int) (k : LK) (h : Heap) : Prop :=
  ∃ v, LS w X gt r bad v h ∧ VF gt c k.lF v.σ v.ε ∧ VSl gt c k.lS v.σ v.ε ∧ v.ats = atsOf k.lM ∧ v.lg = k.lg ∧ v.n ≤ k.N ∧ v.n' ≤ k.N ∧ v.cv = k.cv ∧ v.lv = k.lv ∧ v.tv = k.tv ∧ v.sv = k.sv ∧ ∀ l, v.ml = some l → X.L < l
section
variable {w : World} {X : LA} {gt : Gt} {ug : Nat → Tok} {c c' : Int} {r g h h' : Heap} {bad new as : List Addr} {k : LK} {A : Around} {E : Value → Shared → Prop} {s : Shared} {t : Nat} {m : Str → Option Value}
theorem LV.keeps (x : LV w X gt r bad c k h) (kk : Keeps as h h') (sub : ∀ a ∈ as, a ∈ bad) (hv : ∀ a ∈ as, a ∉ X.vol) (h4 : ∀ a ∈ as, a ∉ [X.L + 4, X.L + 5, X.L + 6, X.L + 7]) (hr : ∀ a ∈ as, r.get? a = none) (hb : ∀ a ∈ as, a ∈ X.bad → ∃ o, h'.get? a = some o) : LV w X gt r bad c k h' :=
  let ⟨v, a, b⟩ := x; ⟨v, a.keeps kk sub hv h4 hr hb, b⟩
theorem LV.all (x : LV w X gt r bad c k h) (kk : Keeps [] h h') : LV w X gt r bad c k h' := let ⟨v, a, b⟩ := x; ⟨v, a.all kk, b⟩
theorem LV.more (x : LV w X gt r bad c k h) (hn : ∀ a ∈ new, h.get? a = none) (kk : Keeps [] h h') : LV w X gt r (new ++ bad) c k h' := let ⟨v, a, b⟩ := x; ⟨v, a.more hn kk, b⟩
theorem LV.less {bad' : List Addr} (x : LV w X gt r bad' c k h) (hs : ∀ a ∈ bad, a ∈ bad') : LV w X gt r bad c k h := let ⟨v, a, b⟩ := x; ⟨v, a.less hs, b⟩
/-- time passes -/
theorem LV.later (x : LV w X gt r bad c k h) (ok : GtOk gt) (hc : c ≤ c') : LV w X gt r bad c' k h := let ⟨v, a, b, d, e⟩ := x; ⟨v, a, b.later hc, d.later ok hc, e⟩
/-- what a call asks -/
structure Sit (w : World) (X : LA) (gt : Gt) (ug : Nat → Tok) (c : Int) (r : Heap) (bad : List Addr) (k : LK) : Prop where
  cx : Ctx w X gt ug c r bad
  gk : GtOk gt
  lo : LogOk c k.lg
  hc : 20 ≤ c
  hN : k.N ≤ 1000
variable (z : Sit w X gt ug c r bad k)
include z
theorem c_st1 {Q : Value → Shared → Prop} (eF : k.lF = k.lg) (cap : Cap gt c k.lg) (x : LV w X gt r bad c k h) (am : Amb A 6)
    (q : ∀ y rst u1 u2 h' t', LV w X gt r bad c k h' → Keeps [X.S.C, X.S.E] h h' → (∀ kk, left1 gt k.lg c < kk → kk ≤ gt.a → rst = fOp gt k.lg + gt.b) → WsN h h' y (.int rst u1) (.int (left1 gt k.lg c) u2) → Q (.ref y) (stt s h' t')) :
    wpAny (model prog w) A (call (.ref 277) [.ref X.l1, .ref X.i1, .ref X.T]) Q E (stt s h t) := by
  obtain ⟨v, a, b, d, ea, el, hn, hn', e1, e2, e3, e4, el2⟩ := x
  rw [eF] at b
  have rt := z.cx.rt
  refine wpAny_call (fs_spec (s := s) rt.rt a.sub am a.ctr a.exp (Nat.le_trans hn (Nat.le_trans z.hN (by decide))) (Nat.le_trans hn' (Nat.le_trans z.hN (by decide))) rt.l1 rt.i1 z.cx.g1 rt.who fun y u1 u2 h' t' kk hc he hw => ?_)
  have y' := a.ce z.cx.ok z.cx.hb rt.no kk hc he
  obtain ⟨b1, b2, b3⟩ := got_f b z.lo (by have := z.hc; omega)
  rw [b2, rem1 cap z.gk z.lo] at hw
  refine q y _ u1 u2 h' t' ⟨_, y', ?_, got_f_s d z.gk z.hc, ea, el, hn, hn', e1, e2, e3, e4, el2⟩ kk (fun kq hq hqa => ?_) hw
  · rw [eF]; exact b1
  · exact b3 (by rw [lFixed_eq]; exact (told1 hq hqa).2)
theorem c_ts1 {cost : Int} {u : Tok} {Q : Value → Shared → Prop} (eF : k.lF = k.lg) (x : LV w X gt r bad c k h) (am : Amb A 6)
    (q : ∀ h' t', LV w X gt r bad c k h' → Keeps [X.S.C, X.S.E] h h' → Q (.bool (decide (cost ≤ left1 gt k.lg c))) (stt s h' t')) :
    wpAny (model prog w) A (call (.ref 268) [.ref X.l1, .ref X.i1, .ref X.T, .int cost u]) Q E (stt s h t) := by
  obtain ⟨v, a, b, d, ea, el, hn, hn', e1, e2, e3, e4, el2⟩ := x
  rw [eF] at b
  have rt := z.cx.rt
  refine wpAny_call (ft_spec (s := s) rt.rt a.sub am a.ctr a.exp (Nat.le_trans hn (Nat.le_trans z.hN (by decide))) (Nat.le_trans hn' (Nat.le_trans z.hN (by decide))) rt.l1 rt.i1 z.cx.g1 rt.who fun h' t' kk hc he => ?_)
  have y' := a.ce z.cx.ok z.cx.hb rt.no kk hc he
  obtain ⟨b1, b2, b3⟩ := got_f b z.lo (by have := z.hc; omega)
  have hd : decide ((gotS v.σ v.ε c (keyOf gt.a gt.b) (keyOf gt.a gt.b)).getD 0 < gt.a - cost + 1) = decide (cost ≤ left1 gt k.lg c) := by
    rw [b2, lFixed_eq]
    unfold left1
    refine decide_eq_decide.mpr ?_
    omega
  dsimp only
  rw [hd]
  refine q h' t' ⟨_, y', ?_, got_f_s d z.gk z.hc, ea, el, hn, hn', e1, e2, e3, e4, el2⟩ kk
  rw [eF]; exact b1
theorem c_st2 {Q : Value → Shared → Prop} (hx : ∀ a ∈ bad, ∃ o, h.get? a = some o) (eM : k.lM = k.lg) (x : LV w X gt r bad c k h) (am : Amb A 6)
    (q : ∀ y u1 u2 h' t', LV w X gt r bad c k h' → Keeps [921] h h' → WsN h h' y (.int (mvS c gt.d (atsOf k.lg) + gt.d) u1) (.int (left2 gt k.lg c) u2) → Q (.ref y) (stt s h' t')) :
    wpAny (model prog w) A (call (.ref 238) [.ref X.l2, .ref X.i2, .ref X.T]) Q E (stt s h t) := by
  obtain ⟨v, a, b, d, ea, el, hn, hn', e1, e2, e3, e4, el2⟩ := x
  rw [eM] at ea
  have rt := z.cx.rt
  have hl := atsOf_len z.lo
  have h8 := z.lo.len
  refine wpAny_call (ms_spec (s := s) (bad := bad) rt.rt a.sub am a.mv a.tab (z.cx.hb _ (by simp [LA.bad])) (z.cx.hb _ (by simp [LA.bad])) z.cx.ok.nV hx (by rw [ea]; omega) rt.l2 rt.i2 z.cx.g2 rt.who fun y u1 u2 h' t' kk hm ht hw => ?_)
  have y' := a.t9 z.cx.ok z.cx.hb rt.no kk hm ht rfl rfl
  have hv : gt.c - ((if v.ats = [] then 0 else mvN c gt.d v.ats : Nat) : Int) = left2 gt k.lg c := by
    rw [ea]
    obtain ⟨h1, h2, _⟩ := mvN_spec c gt.d z.lo
    unfold left2
    by_cases he : atsOf k.lg = []
    · rw [if_pos he]
      rw [he] at h2
      simp only [List.length_nil] at h2
      rw [he] at h1
      omega
    · rw [if_neg he, h1]
  rw [hv, ea] at hw
  exact q y u1 u2 h' t' ⟨v, y', b, d, by rw [eM]; exact ea, el, hn, hn', e1, e2, e3, e4, el2⟩ kk hw
theorem c_ts2 {cost : Int} {u : Tok} {Q : Value → Shared → Prop} (hx : ∀ a ∈ bad, ∃ o, h.get? a = some o) (eM : k.lM = k.lg) (x : LV w X gt r bad c k h) (am : Amb A 6)
    (q : ∀ h' t', LV w X gt r bad c k h' → Keeps [921] h h' → Q (.bool (decide (cost ≤ left2 gt k.lg c))) (stt s h' t')) :
    wpAny (model prog w) A (call (.ref 229) [.ref X.l2, .ref X.i2, .ref X.T, .int cost u]) Q E (stt s h t) := by
  obtain ⟨v, a, b, d, ea, el, hn, hn', e1, e2, e3, e4, el2⟩ := x
  rw [eM] at ea
  have rt := z.cx.rt
  have hl := atsOf_len z.lo
  have h8 := z.lo.len
  refine wpAny_call (mt_spec (s := s) (bad := bad) rt.rt a.sub am a.mv a.tab (z.cx.hb _ (by simp [LA.bad])) (z.cx.hb _ (by simp [LA.bad])) z.cx.ok.nV hx (by rw [ea]; omega) rt.l2 rt.i2 z.cx.g2 rt.who fun h' t' kk hm ht => ?_)
  have y' := a.t9 z.cx.ok z.cx.hb rt.no kk hm ht rfl rfl
  have hv : decide (((if v.ats = [] then 0 else mvN c gt.d v.ats : Nat) : Int) ≤ gt.c - cost) = decide (cost ≤ left2 gt k.lg c) := by
    refine decide_eq_decide.mpr ?_
    rw [ea]
    obtain ⟨h1, h2, _⟩ := mvN_spec c gt.d z.lo
    unfold left2
    by_cases he : atsOf k.lg = []
    · rw [if_pos he]
      rw [he] at h2
      simp only [List.length_nil] at h2
      rw [he] at h1
      omega
    · rw [if_neg he, h1]; omega
  dsimp only
  rw [hv]
  exact q h' t' ⟨v, y', b, d, by rw [eM]; exact ea, el, hn, hn', e1, e2, e3, e4, el2⟩ kk
end
end
section
set_option maxHeartbeats 1000000
section
variable {w : World} {X : LA} {gt : Gt} {ug : Nat → Tok} {c c' : Int} {r g h h' : Heap} {bad new as : List Addr} {k : LK} {A : Around} {E : Value → Shared → Prop} {s : Shared} {t : Nat} {m : Str → Option Value}
variable (z : Sit w X gt ug c r bad k)
include z
theorem c_st3 {Q : Value → Shared → Prop} (eS : k.lS = k.lg) (cap : Cap gt c k.lg) (x : LV w X gt r bad c k h) (am : Amb A 7)
    (q : ∀ y P u1 u2 v h' t', LV w X gt r bad c k h' → Keeps [X.S.C, X.S.E] h h' → IsTup h' P #[.int (ssNum c gt.f (pcO gt k.lg c) (peO gt k.lg c) (ccO gt k.lg c) (ceO gt c)) u1, .int (ssDen (pcO gt k.lg c)) u2] → Fresh h P → WsN h h' y (.ref P) (.int (left3 gt k.lg c) v) → Q (.ref y) (stt s h' t')) :
    wpAny (model prog w) A (call (.ref 323) [.ref X.l3, .ref X.i3, .ref X.T]) Q E (stt s h t) := by
  obtain ⟨v, a, b, d, ea, el, hn, hn', e1, e2, e3, e4, el2⟩ := x
  rw [eS] at d
  have rt := z.cx.rt
  have hf := z.gk.f3
  have hc := z.hc
  have wp := win_pos z.gk hc
  obtain ⟨g1, g2, g3⟩ := got_s d z.gk (by omega) (q := c / gt.f - 1) (by omega)
  obtain ⟨g4, g5, g6⟩ := got_s d z.gk (by omega) (q := c / gt.f) (by omega)
  have hp := wsum_nonneg (f := gt.f) (q := c / gt.f - 1) z.lo
  have hp2 := wsum_le (f := gt.f) (q := c / gt.f - 1) z.lo
  have r0 := Int.emod_nonneg c (show gt.f ≠ 0 by omega)
  refine wpAny_call (ss_spec (s := s) (k1 := kS gt (c / gt.f - 1)) (k2 := kS gt (c / gt.f)) (pc := pcO gt k.lg c) (pe := peO gt k.lg c) (cc := ccO gt k.lg c) rt.rt a.sub am a.ctr a.exp (Nat.le_trans hn (Nat.le_trans z.hN (by decide))) (Nat.le_trans hn' (Nat.le_trans z.hN (by decide))) rt.l3 rt.i3 z.cx.g3 rt.who z.cx.wk
    (by rw [sub_div (by omega)]) rfl (by rw [g1, g3]; rfl) rfl (by rw [g1, g2, g4, g6]; rfl) ⟨hp, by unfold pcO; omega⟩ fun y P u1 u2 vv h' t' kk hc' he hT hP hw => ?_)
  rw [g1, g2, g4] at hc'
  rw [g2, g5] at he
  have y' := a.ce z.cx.ok z.cx.hb rt.no kk hc' he
  rw [rem3 cap z.gk] at hw
  exact q y P u1 u2 vv h' t' ⟨_, y', b, by rw [eS]; exact d, ea, el, hn, hn', e1, e2, e3, e4, el2⟩ kk hT hP hw
theorem c_ts3 {cost : Int} {u : Tok} {Q : Value → Shared → Prop} (eS : k.lS = k.lg) (x : LV w X gt r bad c k h) (am : Amb A 7)
    (q : ∀ h' t', LV w X gt r bad c k h' → Keeps [X.S.C, X.S.E] h h' → Q (.bool (decide (cost ≤ left3 gt k.lg c))) (stt s h' t')) :
    wpAny (model prog w) A (call (.ref 314) [.ref X.l3, .ref X.i3, .ref X.T, .int cost u]) Q E (stt s h t) := by
  obtain ⟨v, a, b, d, ea, el, hn, hn', e1, e2, e3, e4, el2⟩ := x
  rw [eS] at d
  have rt := z.cx.rt
  have hf := z.gk.f3
  have hc := z.hc
  have wp := win_pos z.gk hc
  obtain ⟨g1, g2, g3⟩ := got_s d z.gk (by omega) (q := c / gt.f - 1) (by omega)
  obtain ⟨g4, g5, g6⟩ := got_s d z.gk (by omega) (q := c / gt.f) (by omega)
  refine wpAny_call (st_spec (s := s) (k1 := kS gt (c / gt.f - 1)) (k2 := kS gt (c / gt.f)) rt.rt a.sub am a.ctr a.exp (Nat.le_trans hn (Nat.le_trans z.hN (by decide))) (Nat.le_trans hn' (Nat.le_trans z.hN (by decide))) rt.l3 rt.i3 z.cx.g3 rt.who z.cx.wk
    (by rw [sub_div (by omega)]) rfl fun h' t' kk hc' he => ?_)
  rw [g1, g2, g4] at hc'
  rw [g2, g5] at he
  have y' := a.ce z.cx.ok z.cx.hb rt.no kk hc' he
  have hv : decide ((gotS v.σ v.ε c (kS gt (c / gt.f - 1)) (kS gt (c / gt.f - 1))).getD 0 * (if (gotS v.σ v.ε c (kS gt (c / gt.f - 1)) (kS gt (c / gt.f - 1))).getD 0 = 0 then 0 else gt.f - (c - gt.f) % gt.f) / gt.f + (gotS (gotS v.σ v.ε c (kS gt (c / gt.f - 1))) (gotE v.ε c (kS gt (c / gt.f - 1))) c (kS gt (c / gt.f)) (kS gt (c / gt.f))).getD 0 < gt.e - cost + 1) = decide (cost ≤ left3 gt k.lg c) := by
    rw [g1, g2, g4, g3, g6]
    refine decide_eq_decide.mpr ?_
    have := wg_eq (g := gt) (l := k.lg) (c := c) z.gk
    unfold peO pcO at this
    rw [this]
    unfold left3
    omega
  dsimp only
  rw [hv]
  exact q h' t' ⟨_, y', b, by rw [eS]; exact d, ea, el, hn, hn', e1, e2, e3, e4, el2⟩ kk
/-- the three hits, one behind the other -/
theorem c_ht1 {cost : Int} {u : Tok} {Q : Value → Shared → Prop} (eF : k.lF = k.lg) (h0 : 0 < cost) (hl : cost ≤ left1 gt k.lg c) (x : LV w X gt r bad c k h) (am : Amb A 6)
    (q : ∀ h' t', LV w X gt r bad c { k with N := k.N + 1, lF := k.lg ++ [(c, cost)] } h' → Keeps [X.S.C, X.S.E] h h' → Q (.bool true) (stt s h' t')) :
    wpAny (model prog w) A (call (.ref 259) [.ref X.l1, .ref X.i1, .ref X.T, .int cost u]) Q E (stt s h t) := by
  obtain ⟨v, a, b, d, ea, el, hn, hn', e1, e2, e3, e4, el2⟩ := x
  rw [eF] at b
  have rt := z.cx.rt
  refine wpAny_call (fh_spec (s := s) rt.rt a.sub am a.ctr a.exp (Nat.le_trans (Nat.succ_le_succ hn) (Nat.le_trans (Nat.succ_le_succ z.hN) (by decide))) (Nat.le_trans (Nat.succ_le_succ hn') (Nat.le_trans (Nat.succ_le_succ z.hN) (by decide))) rt.l1 rt.i1 z.cx.g1 rt.who fun h' t' kk hc he => ?_)
  have y' := a.ce z.cx.ok z.cx.hb rt.no kk hc he
  obtain ⟨b1, b2, b3⟩ := got_f b z.lo (by have := z.hc; omega)
  have hd : decide ((gotS v.σ v.ε c (keyOf gt.a gt.b) (keyOf gt.a gt.b)).getD 0 + cost ≤ gt.a) = true := by
    rw [b2, lFixed_eq]
    unfold left1 at hl
    exact decide_eq_true (by omega)
  dsimp only
  rw [hd]
  exact q h' t' ⟨_, y', hit_f b z.lo z.gk z.hc h0, hit_f_s d z.gk z.hc, ea, el, Nat.succ_le_succ hn, Nat.succ_le_succ hn', e1, e2, e3, e4, el2⟩ kk
theorem c_ht3 {cost : Int} {u : Tok} {Q : Value → Shared → Prop} (eS : k.lS = k.lg) (h0 : 0 < cost) (hl : cost ≤ left3 gt k.lg c) (he5 : cost ≤ gt.e) (x : LV w X gt r bad c k h) (am : Amb A 6)
    (q : ∀ h' t', LV w X gt r bad c { k with N := k.N + 1, lS := k.lg ++ [(c, cost)] } h' → Keeps [X.S.C, X.S.E] h h' → Q (.bool true) (stt s h' t')) :
    wpAny (model prog w) A (call (.ref 305) [.ref X.l3, .ref X.i3, .ref X.T, .int cost u]) Q E (stt s h t) := by
  obtain ⟨v, a, b, d, ea, el, hn, hn', e1, e2, e3, e4, el2⟩ := x
  rw [eS] at d
  have rt := z.cx.rt
  have hf := z.gk.f3
  have hc := z.hc
  have wp := win_pos z.gk hc
  obtain ⟨g1, g2, g3⟩ := got_s d z.gk (by omega) (q := c / gt.f - 1) (by omega)
  obtain ⟨g4, g5, g6⟩ := got_s d z.gk (by omega) (q := c / gt.f) (by omega)
  refine wpAny_call (sh_spec (s := s) (k1 := kS gt (c / gt.f - 1)) (k2 := kS gt (c / gt.f)) (σ₂ := v.σ) (ε₂ := v.ε) rt.rt a.sub am a.ctr a.exp (Nat.le_trans (Nat.succ_le_succ hn) (Nat.le_trans (Nat.succ_le_succ z.hN) (by decide))) (Nat.le_trans (Nat.succ_le_succ hn') (Nat.le_trans (Nat.succ_le_succ z.hN) (by decide))) rt.l3 rt.i3 z.cx.g3 rt.who z.cx.wk he5
    (by rw [sub_div (by omega)]) rfl (by rw [g1, g2, g4]) (by rw [g2, g5]) ?_ fun h' t' kk hc' he => ?_)
  · rw [g1, g3, g6]
    have := wg_eq (g := gt) (l := k.lg) (c := c) z.gk
    unfold peO pcO at this
    rw [this]
    unfold left3 at hl
    omega
  · have y' := a.ce z.cx.ok z.cx.hb rt.no kk hc' he
    exact q h' t' ⟨_, y', hit_s_f b d z.gk z.hc, hit_s d z.lo z.gk z.hc h0, ea, el, Nat.succ_le_succ hn, Nat.succ_le_succ hn', e1, e2, e3, e4, el2⟩ kk
end
end
section
set_option maxHeartbeats 1000000
theorem TabAt.keepsL {h h' : Heap} {bad as : List Addr} (x : TabAt h bad) (k : Keeps as h h') (sub : ∀ a ∈ as, a ∈ bad ∨ ∃ vs n, h.get? a = some (listO vs n)) (n : 921 ∉ as) : TabAt h' bad := by
  rcases x with a | ⟨c', a, b, cr⟩
  · exact .inl (k _ _ a n)
  · refine .inr ⟨c', k _ _ a n, b, codeRec_keeps cr k fun z => ?_⟩
    rcases sub _ z with y | ⟨vs, m, y⟩
    · exact b y
    · obtain ⟨_, _, _, _, e, f, f2, _⟩ := cr
      cases e
      rw [y] at f
      cases f
      cases f2
theorem LogOff.keepsL {h h' : Heap} {bad as : List Addr} {a l} (x : LogOff h bad a l) (k : Keeps as h h') (sub : ∀ a ∈ as, a ∈ bad ∨ ∃ vs n, h.get? a = some (listO vs n)) (n : a ∉ as) : LogOff h' bad a l :=
  let ⟨vs, e, o⟩ := x; ⟨vs, k _ _ e n, o.map fun _ _ ⟨T, u1, u2, m, e, nb, f⟩ => ⟨T, u1, u2, m, e, nb, k _ _ f fun z => by
    rcases sub _ z with y | ⟨vs, m, y⟩
    · exact nb y
    · rw [y] at f
      have := congrArg Obj.cls (Option.some.inj f)
      exact absurd (show Value.type "list" = Value.type "tuple" from this) (by decide)⟩⟩
section
variable {w : World} {X : LA} {gt : Gt} {ug : Nat → Tok} {c c' : Int} {r g h h' : Heap} {bad new as : List Addr} {k : LK} {A : Around} {E : Value → Shared → Prop} {s : Shared} {t : Nat} {m : Str → Option Value}
theorem c_ht2 (z : Sit w X gt ug c r bad k) {env : Env} {cost : Int} {u : Tok} {Q : Value → Shared → Prop} (hx : ∀ a ∈ bad, ∃ o, h.get? a = some o) (eM : k.lM = k.lg) (h0 : 0 < cost) (hl : cost ≤ left2 gt k.lg c) (hev : c % 2 = 0) (x : LV w X gt r bad c k h) (am : Amb A 7) (hfr : A.frames = some [env]) (hk : env.scope.kind ≠ .module) (hfe : env.frame = some X.L) (F : Fr g X.L h m) (hgL : ∀ a, X.L ≤ a → g.get? a = none) (hVL : X.L < X.S.V)
    (q : ∀ h' t', LV w X gt r bad c { k with lM := k.lg ++ [(c, cost)] } h' → Fr g X.L h' m → (∀ a ∈ bad, a ≠ X.S.V → a ≠ X.L → h'.get? a = h.get? a) → Q (.bool true) (stt s h' t')) :
    wpAny (model prog w) A (call (.ref 220) [.ref X.l2, .ref X.i2, .ref X.T, .int cost u]) Q E (stt s h t) := by
  obtain ⟨v, a, b, d, ea, el, hn, hn', e1, e2, e3, e4, el2⟩ := x
  rw [eM] at ea
  have rt := z.cx.rt
  have ok := z.cx.ok
  have hlen := atsOf_len z.lo
  have h8 := z.lo.len
  have gc := z.gk.c4
  have gn := msum_nonneg (m := c) (g := gt) z.lo
  obtain ⟨oL, esL, epL, hLo, hLd, hLk, hLf⟩ := F.ns
  have bL : X.L ∈ bad := z.cx.hb _ (by simp [LA.bad])
  have bV : X.S.V ∈ bad := z.cx.hb _ (by simp [LA.bad])
  have sL : X.L ∈ X.scr := by simp [LA.scr]
  have vV : X.S.V ∈ X.vol := by simp [LA.vol]
  have nLV : X.L ≠ X.S.V := Nat.ne_of_lt hVL
  refine wpAny_call (mh_spec (s := s) (bad := bad) (frs := [(X.L, oL)]) rt.rt a.sub am hfr ⟨hk, hfe, ⟨esL, epL, hLd⟩, trivial⟩ (fun p hp => by rw [List.mem_singleton.mp hp]; exact hLo) (fun p hp => by rw [List.mem_singleton.mp hp]; exact rt.no _ (List.mem_append_right _ sL)) (fun p hp => by rw [List.mem_singleton.mp hp]; exact bL) (fun p hp => by rw [List.mem_singleton.mp hp]; exact nLV)
    a.mv bV hx (by rw [ea]; omega) a.nl rt.l2 rt.i2 z.cx.g2 rt.who h0 (by unfold left2 at hl; omega) (by omega) (by rw [ea]; exact adm2 z.gk z.lo hev hl) fun frs' l' h' t' SU hfs' kk M f1 f2 => ?_)
  obtain ⟨sl, rfl⟩ := TLg.one_up SU
  have hL' : h'.get? X.L = some { oL with slots := sl } := hfs' _ (.head _)
  -- what the old list is
  have lx : ∀ l, v.ml = some l → l ∉ bad ∧ ∃ vs n, h.get? l = some (listO vs n) := fun l e => by
    obtain ⟨o, f, _, _, _, hm⟩ := a.mv
    rw [e] at hm
    obtain ⟨_, nb, vs, n, hl, _⟩ := hm
    exact ⟨nb, vs, n, hl⟩
  have asx : ∀ y ∈ X.S.V :: (v.ml.toList ++ [(X.L, oL)].map (·.1)), y = X.S.V ∨ v.ml = some y ∨ y = X.L := fun y hy => by
    rcases List.mem_cons.mp hy with h | hy
    · exact .inl h
    · rcases List.mem_append.mp hy with h | h
      · exact .inr (.inl (Option.mem_toList.mp h))
      · exact .inr (.inr (List.mem_singleton.mp h))
  have sub : ∀ y ∈ X.S.V :: (v.ml.toList ++ [(X.L, oL)].map (·.1)), y ∈ bad ∨ ∃ vs n, h.get? y = some (listO vs n) := fun y hy => by
    rcases asx y hy with rfl | e | rfl
    · exact .inl bV
    · exact .inr (lx _ e).2
    · exact .inl bL
  have nin : ∀ y ∈ bad, y ≠ X.S.V → y ≠ X.L → y ∉ X.S.V :: (v.ml.toList ++ [(X.L, oL)].map (·.1)) := fun y hb n1 n2 hy => by
    rcases asx y hy with e | e | e
    · exact n1 e
    · exact (lx _ e).1 hb
    · exact n2 e
  have hr : ∀ y ∈ X.S.V :: (v.ml.toList ++ [(X.L, oL)].map (·.1)), r.get? y = none := fun y hy => by
    rcases asx y hy with rfl | e | rfl
    · exact rt.no _ (List.mem_append_left _ vV)
    · exact a.nl _ e
    · exact rt.no _ (List.mem_append_right _ sL)
  have nLx : ∀ y ∈ X.vol, y ≠ X.L := fun y hy e => ok.ap X.L sL (e ▸ hy)
  have n4 : ∀ y ∈ [X.L + 4, X.L + 5, X.L + 6, X.L + 7], y ∈ bad ∧ y ≠ X.S.V ∧ y ≠ X.L := fun y hy => by
    refine ⟨z.cx.hb _ ?_, fun e => ok.ap y (scr4 hy) (e ▸ vV), ?_⟩
    · simp only [List.mem_cons, List.not_mem_nil, or_false] at hy
      simp only [LA.bad, List.mem_cons, List.not_mem_nil, or_false]
      rcases hy with h | h | h | h <;> simp [h]
    · simp only [List.mem_cons, List.not_mem_nil, or_false] at hy
      rcases hy with rfl | rfl | rfl | rfl
      all_goals exact Nat.ne_of_gt (Nat.lt_add_of_pos_right (by decide))
  have bC : X.S.C ∈ bad := z.cx.hb _ (by simp [LA.bad])
  have bE : X.S.E ∈ bad := z.cx.hb _ (by simp [LA.bad])
  have bG : X.Lg ∈ bad := z.cx.hb _ (by simp [LA.bad])
  have b9 : (921 : Addr) ∈ bad := z.cx.hb _ (by simp [LA.bad])
  have nG : X.Lg ≠ X.S.V := fun e => ok.nG (by rw [e]; simp)
  have mkc : ∀ {y vv}, y ∈ [X.L + 4, X.L + 5, X.L + 6, X.L + 7] → h.IsCell y vv → h'.IsCell y vv := fun {y vv} hy hc => IsCell.keepsK hc kk (nin _ (n4 y hy).1 (n4 y hy).2.1 (n4 y hy).2.2)
  have ls : LS w X gt r bad { v with ml := some l', ats := List.replicate cost.toNat c ++ v.ats } h' := by
    refine ⟨a.sub.keeps kk hr, a.ctr.keeps kk (nin _ bC ok.CV (nLx _ (by simp [LA.vol]))), a.exp.keeps kk (nin _ bE ok.EV (nLx _ (by simp [LA.vol]))), M, a.tab.keepsL kk sub (nin _ b9 (Ne.symm ok.nV) (nLx _ (by simp [LA.vol]))), a.log.keepsL kk sub (nin _ bG nG (nLx _ (by simp [LA.vol]))),
      mkc (by simp) a.c4, mkc (by simp) a.c5, mkc (by simp) a.c6, mkc (by simp) a.c7, fun l e => ?_, fun y hy => ?_⟩
    · cases e
      cases hm : v.ml with
      | some l₀ => rw [f1 _ hm]; exact a.nl _ hm
      | none =>
        cases hq : r.get? l' with
        | none => rfl
        | some o => exact absurd (f2 hm _ _ (a.sub _ _ hq)) (Nat.lt_irrefl _)
    · by_cases h1 : y = X.S.V
      · obtain ⟨o, _, e, _⟩ := M
        exact ⟨o, h1 ▸ e⟩
      · by_cases h2 : y = X.L
        · exact ⟨_, h2 ▸ hL'⟩
        · obtain ⟨o, ho⟩ := a.bx y hy
          exact ⟨o, kk _ _ ho (nin y (z.cx.hb _ hy) h1 h2)⟩
  refine q h' t' ⟨_, ls, b, d, ?_, el, hn, hn', e1, e2, e3, e4, fun l e => ?_⟩ ⟨⟨_, esL, epL, hL', hLd, hLk, hLf⟩, fun y o e => kk _ _ (F.keep _ _ e) fun hy => ?_, F.above⟩ fun y hy n1 n2 => ?_
  · show _ = atsOf (k.lg ++ [(c, cost)])
    rw [atsOf_snoc, ← ea]
  · cases e
    cases hm : v.ml with
    | some l₀ => rw [f1 _ hm]; exact el2 _ hm
    | none => exact f2 hm _ _ hLo
  · rcases asx y hy with rfl | e' | rfl
    · rw [hgL _ (Nat.le_of_lt hVL)] at e; cases e
    · rw [hgL _ (Nat.le_of_lt (el2 _ e'))] at e; cases e
    · rw [hgL _ (Nat.le_refl _)] at e; cases e
  · obtain ⟨o, ho⟩ := hx y hy
    rw [ho]
    exact kk _ _ ho (nin y hy n1 n2)
end
end
section
set_option maxHeartbeats 1000000
def lawC (L : Addr) : List (Str × Addr) := [(Str.ofString "clock", L + 8), (Str.ofString "still", L + 7), (Str.ofString "told", L + 6), (Str.ofString "left", L + 5), (Str.ofString "cost", L + 4), (Str.ofString "who", L + 3), (Str.ofString "items", L + 2), (Str.ofString "limiters", L + 1)]
theorem lawC_eq (L : Addr) : cellsFrom (L + 1) (fScope stLaw).names [] = lawC L := by with_unfolding_all rfl
abbrev lawE (L : Addr) : Env := envX (Str.ofString "law") (fScope stLaw) L 984 (.ref 983) (lawC L)
theorem ints_pairs : ∀ {vs : List Value} {ns : List Int}, IntsAre vs ns → ∃ l : List (Int × Tok), vs = l.map (fun p => Value.int p.1 p.2) ∧ ns = l.map (·.1)
  | _, _, .nil => ⟨[], rfl, rfl⟩
  | _, _, .cons n t h => let ⟨l, a, b⟩ := ints_pairs h; ⟨(n, t) :: l, by rw [a]; rfl, by rw [b]; rfl⟩
section
variable {w : World} {A : Around} {E : Value → Shared → Prop} {s : Shared} {h : Heap} {t : Nat} {l : Addr} {vs : List Value} {ns : List Int}
theorem numAt_eq {l : List (Int × Tok)} {i : Nat} {p : Int × Tok} (e : l[i]? = some p) : numAt l.toArray i = p.1 := by
  unfold numAt; rw [List.getElem?_toArray, e]; rfl
theorem w_maxL {Q : Value → Shared → Prop} (hh : A.handled = none) (hl : h.IsList l vs.toArray) (hi : IntsAre vs ns) (hn : 0 < ns.length) (q : ∀ M u h' t', M ∈ ns → (∀ a ∈ ns, a ≤ M) → Keeps [] h h' → Q (.int M u) (stt s h' t')) :
    wpAny (model prog w) A (call (.builtin "max") [.ref l]) Q E (stt s h t) := by
  obtain ⟨l', rfl, rfl⟩ := ints_pairs hi
  have hz : 0 < l'.toArray.size := by simpa using hn
  refine max_intList (s := stt s h t) (xs := l'.toArray) hh (by unfold intItems; rw [List.map_toArray]; exact hl) hz fun v h' tk hv k => ?_
  obtain ⟨g1, g2⟩ := argBest_gt (numAt l'.toArray) (l'.toArray.size - 1)
  generalize argBest (fun i j => decide (numAt l'.toArray i > numAt l'.toArray j)) (l'.toArray.size - 1) = b at *
  have hb : b < l'.length := by rw [List.size_toArray] at g1 hz; omega
  unfold intItems at hv
  rw [List.map_toArray, List.getElem?_toArray, List.getElem?_map, List.getElem?_eq_getElem hb] at hv
  cases hv
  refine q _ _ h' tk (List.mem_map_of_mem (List.getElem_mem hb)) (fun a ha => ?_) fun b o e _ => k b o e
  obtain ⟨p, hp, rfl⟩ := List.mem_map.mp ha
  obtain ⟨j, hj, rfl⟩ := List.getElem_of_mem hp
  have := g2 j (by rw [List.size_toArray]; omega)
  rwa [numAt_eq (List.getElem?_eq_getElem hj), numAt_eq (List.getElem?_eq_getElem hb)] at this
theorem w_minL {Q : Value → Shared → Prop} (hh : A.handled = none) (hl : h.IsList l vs.toArray) (hi : IntsAre vs ns) (hn : 0 < ns.length) (q : ∀ M u h' t', M ∈ ns → (∀ a ∈ ns, M ≤ a) → Keeps [] h h' → Q (.int M u) (stt s h' t')) :
    wpAny (model prog w) A (call (.builtin "min") [.ref l]) Q E (stt s h t) := by
  obtain ⟨l', rfl, rfl⟩ := ints_pairs hi
  have hz : 0 < l'.toArray.size := by simpa using hn
  refine min_intList (s := stt s h t) (xs := l'.toArray) hh (by unfold intItems; rw [List.map_toArray]; exact hl) hz fun v h' tk hv k => ?_
  obtain ⟨g1, g2⟩ := argBest_lt (numAt l'.toArray) (l'.toArray.size - 1)
  generalize argBest (fun i j => decide (numAt l'.toArray i < numAt l'.toArray j)) (l'.toArray.size - 1) = b at *
  have hb : b < l'.length := by rw [List.size_toArray] at g1 hz; omega
  unfold intItems at hv
  rw [List.map_toArray, List.getElem?_toArray, List.getElem?_map, List.getElem?_eq_getElem hb] at hv
  cases hv
  refine q _ _ h' tk (List.mem_map_of_mem (List.getElem_mem hb)) (fun a ha => ?_) fun b o e _ => k b o e
  obtain ⟨p, hp, rfl⟩ := List.mem_map.mp ha
  obtain ⟨j, hj, rfl⟩ := List.getElem_of_mem hp
  have := g2 j (by rw [List.size_toArray]; omega)
  rwa [numAt_eq (List.getElem?_eq_getElem hj), numAt_eq (List.getElem?_eq_getElem hb)] at this
end
theorem f_s1 (P : Params) : findIn (K P) (.ref 280) (Str.ofString "get_window_stats") = some (some (.ref 277)) := by kernel_rfl
theorem f_s2 (P : Params) : findIn (K P) (.ref 241) (Str.ofString "get_window_stats") = some (some (.ref 238)) := by kernel_rfl
theorem f_s3 (P : Params) : findIn (K P) (.ref 335) (Str.ofString "get_window_stats") = some (some (.ref 323)) := by kernel_rfl
theorem f_t1 (P : Params) : findIn (K P) (.ref 280) (Str.ofString "test") = some (some (.ref 268)) := by kernel_rfl
theorem f_t2 (P : Params) : findIn (K P) (.ref 241) (Str.ofString "test") = some (some (.ref 229)) := by kernel_rfl
theorem f_t3 (P : Params) : findIn (K P) (.ref 335) (Str.ofString "test") = some (some (.ref 314)) := by kernel_rfl
theorem f_h1 (P : Params) : findIn (K P) (.ref 280) (Str.ofString "hit") = some (some (.ref 259)) := by kernel_rfl
theorem f_h2 (P : Params) : findIn (K P) (.ref 241) (Str.ofString "hit") = some (some (.ref 220)) := by kernel_rfl
theorem f_h3 (P : Params) : findIn (K P) (.ref 335) (Str.ofString "hit") = some (some (.ref 305)) := by kernel_rfl
theorem i_s1 (P : Params) : isFn (K P) (.ref 277) = true := by kernel_rfl
theorem i_s2 (P : Params) : isFn (K P) (.ref 238) = true := by kernel_rfl
theorem i_s3 (P : Params) : isFn (K P) (.ref 323) = true := by kernel_rfl
theorem i_t1 (P : Params) : isFn (K P) (.ref 268) = true := by kernel_rfl
theorem i_t2 (P : Params) : isFn (K P) (.ref 229) = true := by kernel_rfl
theorem i_t3 (P : Params) : isFn (K P) (.ref 314) = true := by kernel_rfl
theorem i_h1 (P : Params) : isFn (K P) (.ref 259) = true := by kernel_rfl
theorem i_h2 (P : Params) : isFn (K P) (.ref 220) = true := by kernel_rfl
theorem i_h3 (P : Params) : isFn (K P) (.ref 305) = true := by kernel_rfl
theorem kp_s1 (P : Params) : keepIn (K P) (.ref 277) = true := by kernel_rfl
theorem kp_s2 (P : Params) : keepIn (K P) (.ref 238) = true := by kernel_rfl
theorem kp_s3 (P : Params) : keepIn (K P) (.ref 323) = true := by kernel_rfl
theorem kp_t1 (P : Params) : keepIn (K P) (.ref 268) = true := by kernel_rfl
theorem kp_t2 (P : Params) : keepIn (K P) (.ref 229) = true := by kernel_rfl
theorem kp_t3 (P : Params) : keepIn (K P) (.ref 314) = true := by kernel_rfl
theorem kp_h1 (P : Params) : keepIn (K P) (.ref 259) = true := by kernel_rfl
theorem kp_h2 (P : Params) : keepIn (K P) (.ref 220) = true := by kernel_rfl
theorem kp_h3 (P : Params) : keepIn (K P) (.ref 305) = true := by kernel_rfl
/-- the limiters' classes -/
def LA.lim (X : LA) : Nat → Addr | 0 => X.l1 | 1 => X.l2 | _ => X.l3
def LA.itm (X : LA) : Nat → Addr | 0 => X.i1 | 1 => X.i2 | _ => X.i3
def clsN : Nat → Addr | 0 => 280 | 1 => 241 | _ => 335
/-- a method of the limiters', with its three functions -/
structure Meth (w : World) (name : Str) (f : Nat → Addr) : Prop where
  fi : ∀ i, findIn (K w.params) (.ref (clsN i)) name = some (some (.ref (f i)))
  fn : ∀ i, isFn (K w.params) (.ref (f i)) = true
  kp : ∀ i, keepIn (K w.params) (.ref (f i)) = true
  gl : ∀ t v, getL name [⟨PyData.keyHash w.params (Str.ofString "storage"), .str (Str.ofString "storage") t, v⟩] = some none
def stN : Nat → Addr | 0 => 277 | 1 => 238 | _ => 323
def tsN : Nat → Addr | 0 => 268 | 1 => 229 | _ => 314
def htN : Nat → Addr | 0 => 259 | 1 => 220 | _ => 305
theorem m_st (w : World) : Meth w (Str.ofString "get_window_stats") stN := ⟨fun i => match i with | 0 => f_s1 _ | 1 => f_s2 _ | _ + 2 => f_s3 _, fun i => match i with | 0 => i_s1 _ | 1 => i_s2 _ | _ + 2 => i_s3 _, fun i => match i with | 0 => kp_s1 _ | 1 => kp_s2 _ | _ + 2 => kp_s3 _, fun _ _ => rfl⟩
theorem m_ts (w : World) : Meth w (Str.ofString "test") tsN := ⟨fun i => match i with | 0 => f_t1 _ | 1 => f_t2 _ | _ + 2 => f_t3 _, fun i => match i with | 0 => i_t1 _ | 1 => i_t2 _ | _ + 2 => i_t3 _, fun i => match i with | 0 => kp_t1 _ | 1 => kp_t2 _ | _ + 2 => kp_t3 _, fun _ _ => rfl⟩
theorem m_ht (w : World) : Meth w (Str.ofString "hit") htN := ⟨fun i => match i with | 0 => f_h1 _ | 1 => f_h2 _ | _ + 2 => f_h3 _, fun i => match i with | 0 => i_h1 _ | 1 => i_h2 _ | _ + 2 => i_h3 _, fun i => match i with | 0 => kp_h1 _ | 1 => kp_h2 _ | _ + 2 => kp_h3 _, fun _ _ => rfl⟩
theorem pgN (P : Params) (x : Str) : ∀ i, plainGet (K P) (clsN i) x = true
  | 0 => pg280 _ _ | 1 => pg241 _ _ | _ + 2 => pg335 _ _
section
variable {w : World} {A : Around} {E : Value → Shared → Prop} {s : Shared} {h g r : Heap} {t : Nat} {X : LA} {gt : Gt} {ug : Nat → Tok} {c : Int} {m : Str → Option Value} {env : Env}
theorem Root.limN (x : Root w X gt ug c r) : ∀ i, Lim w X.S r (X.lim i) (clsN i) | 0 => x.l1 | 1 => x.l2 | _ + 2 => x.l3
theorem mt_lim {name : Str} {f : Nat → Addr} {i : Nat} {pl : Sem Bool} {Q : Value × List Value → Shared → Prop} (M : Meth w name f) (F : Fr g X.L h m) (cx : Cx w g) (l : Lim w X.S h (X.lim i) (clsN i)) (q : Q (.ref (f i), [.ref (X.lim i)]) (stt s h t)) : wpAny (model prog w) A (getMethod (.ref (X.lim i)) name pl) Q E (stt s h t) := by
  obtain ⟨d, u, n, e, f'⟩ := l
  exact method_inst (s := stt s h t) F cx.X ⟨e, rfl, rfl, f'⟩ (pgN _ _ _) (M.fi i) (M.fn i) (M.gl _ _) q
/-- names that are read without a turn -/
def NameOf (w : World) (A : Around) (s : Shared) (h : Heap) (env : Env) (e : PySem.Expr) (v : Value) : Prop := ∀ (E : Value → Shared → Prop) t (Q : Value → Shared → Prop), Q v (stt s h t) → wpAny (model prog w) A (eval e env) Q E (stt s h t)
theorem limsAt (X : LA) {i : Nat} (hi : i < 3) : (#[Value.ref X.l1, .ref X.l2, .ref X.l3] : Array Value)[((i : Nat) : Int).toNat]? = some (.ref (X.lim i)) := by
  match i, hi with | 0, _ => rfl | 1, _ => rfl | 2, _ => rfl
theorem itmsAt (X : LA) {i : Nat} (hi : i < 3) : (#[Value.ref X.i1, .ref X.i2, .ref X.i3] : Array Value)[((i : Nat) : Int).toNat]? = some (.ref (X.itm i)) := by
  match i, hi with | 0, _ => rfl | 1, _ => rfl | 2, _ => rfl
variable {p1 p2 p3 p4 p5 p6 p7 p8 p9 : Pos} {x1 xk x2 x3 x4 : Str} {name : Str} {f : Nat → Addr} {i : Nat} {u : Tok} {pl : Sem Bool}
/-- limiters[k].name(items[k], who) -/
theorem lm_call2 {Q : Value → Shared → Prop} (M : Meth w name f) (hi : i < 3) (F : Fr g X.L h m) (cx : Cx w g) (kr : Sub r h) (R : Root w X gt ug c r)
    (n1 : NameOf w A s h env (.Name x1 p1) (.ref X.LL)) (nk : ∀ p, NameOf w A s h env (.Name xk p) (.int (i : Int) u)) (n2 : NameOf w A s h env (.Name x2 p2) (.ref X.LI)) (n3 : NameOf w A s h env (.Name x3 p3) (.ref X.T))
    (q : ∀ t', wpAny (model prog w) A (call (.ref (f i)) [.ref (X.lim i), .ref (X.itm i), .ref X.T]) Q E (stt s h t')) :
    wpAny (model prog w) A (eval (.Subscript (.Name x1 p1) (.Name xk p4) p5) env) (fun ov s₁ => wpAny (model prog w) A (getMethod ov name pl) (fun fx s₂ => wpAny (model prog w) A (callWith p9 fx.1 fx.2 (backTo p9 (starEach [.Subscript (.Name x2 p2) (.Name xk p7) p8, .Name x3 p3] env)) (backToKw p9 (keywordEach [] env))) Q E s₂) E s₁) E (stt s h t) := by
  refine Subscript_ ?_
  refine n1 _ _ _ ?_
  refine nk _ _ _ _ ?_
  refine sub_list (s := stt s h _) (R.ll.at (kr _)) (by omega) (by omega) (limsAt X hi) ?_ (by with_unfolding_all rfl)
  refine mt_lim (s := s) M F cx ((R.limN i).keeps kr) ?_
  refine callWith_D (w := w) (M.kp i) ?_
  refine spliced_more ?_
  refine Subscript_ ?_
  refine n2 _ _ _ ?_
  refine nk _ _ _ _ ?_
  refine sub_list (s := stt s h _) (R.li.at (kr _)) (by omega) (by omega) (itmsAt X hi) ?_ (by with_unfolding_all rfl)
  refine spliced_more ?_
  refine n3 _ _ _ ?_
  refine spliced_none ?_
  exact ⟨Fr.cx F cx, q _⟩
/-- limiters[k].name(items[k], who, cost) -/
theorem lm_call3 {cost : Int} {uc : Tok} {Q : Value → Shared → Prop} (M : Meth w name f) (hi : i < 3) (F : Fr g X.L h m) (cx : Cx w g) (kr : Sub r h) (R : Root w X gt ug c r)
    (n1 : NameOf w A s h env (.Name x1 p1) (.ref X.LL)) (nk : ∀ p, NameOf w A s h env (.Name xk p) (.int (i : Int) u)) (n2 : NameOf w A s h env (.Name x2 p2) (.ref X.LI)) (n3 : NameOf w A s h env (.Name x3 p3) (.ref X.T)) (n4 : ∀ p, NameOf w A s h env (.Name x4 p) (.int cost uc)) {q4 : Pos}
    (q : ∀ t', wpAny (model prog w) A (call (.ref (f i)) [.ref (X.lim i), .ref (X.itm i), .ref X.T, .int cost uc]) Q E (stt s h t')) :
    wpAny (model prog w) A (eval (.Subscript (.Name x1 p1) (.Name xk p4) p5) env) (fun ov s₁ => wpAny (model prog w) A (getMethod ov name pl) (fun fx s₂ => wpAny (model prog w) A (callWith p9 fx.1 fx.2 (backTo p9 (starEach [.Subscript (.Name x2 p2) (.Name xk p7) p8, .Name x3 p3, .Name x4 q4] env)) (backToKw p9 (keywordEach [] env))) Q E s₂) E s₁) E (stt s h t) := by
  refine Subscript_ ?_
  refine n1 _ _ _ ?_
  refine nk _ _ _ _ ?_
  refine sub_list (s := stt s h _) (R.ll.at (kr _)) (by omega) (by omega) (limsAt X hi) ?_ (by with_unfolding_all rfl)
  refine mt_lim (s := s) M F cx ((R.limN i).keeps kr) ?_
  refine callWith_D (w := w) (M.kp i) ?_
  refine spliced_more ?_
  refine Subscript_ ?_
  refine n2 _ _ _ ?_
  refine nk _ _ _ _ ?_
  refine sub_list (s := stt s h _) (R.li.at (kr _)) (by omega) (by omega) (itmsAt X hi) ?_ (by with_unfolding_all rfl)
  refine spliced_more ?_
  refine n3 _ _ _ ?_
  refine spliced_more ?_
  refine n4 _ _ _ _ ?_
  refine spliced_none ?_
  exact ⟨Fr.cx F cx, q _⟩
end
end
section
set_option maxHeartbeats 1000000
def nB : List Stmt := match nthS (fBody stLaw) 8 with | .For _ _ b _ _ => b | _ => []
def tB : List Stmt := match nthS nB 2 with | .For _ _ b _ _ => b | _ => []
/-- the law within a turn, at one moment -/
structure Law (w : World) (X : LA) (gt : Gt) (ug : Nat → Tok) (g : Heap) (c : Int) (r : Heap) (k : LK) : Prop where
  z : Sit w X gt ug c r X.bad k
  gr : Sub g r
  cx : Cx w g
  gL : ∀ a, X.L ≤ a → g.get? a = none
  VL : X.L < X.S.V
/-- within a comprehension -/
structure Off3 (X : LA) (g r h : Heap) (I C D : Addr) : Prop where
  nb : ∀ a ∈ [I, C, D], a ∉ X.bad
  nn : ∀ a ∈ [I, C, D], h.get? a = none
  nr : ∀ a ∈ [I, C, D], r.get? a = none
  ng : ∀ a ∈ [I, C, D], g.get? a = none
def BJ (w : World) (X : LA) (gt : Gt) (g r : Heap) (c : Int) (k : LK) (I C D : Addr) (h : Heap) (m : Str → Option Value) (h' : Heap) : Prop :=
  Fr g X.L h' m ∧ LV w X gt r ([I, C, D] ++ X.bad) c k h' ∧ Keeps X.core h h'
section
variable {w : World} {X : LA} {gt : Gt} {ug : Nat → Tok} {g : Heap} {c : Int} {r h h' h'' h₁ : Heap} {k : LK} {m : Str → Option Value} {I C D : Addr}
theorem vol_bad {a : Addr} (h : a ∈ X.vol) : a ∈ X.bad := by
  simp only [LA.vol, List.mem_cons, List.not_mem_nil, or_false] at h
  simp only [LA.bad, List.mem_cons, List.not_mem_nil, or_false]
  rcases h with h | h | h | h | h <;> simp [h]
theorem four_bad {a : Addr} (h : a ∈ [X.L + 4, X.L + 5, X.L + 6, X.L + 7]) : a ∈ X.bad := by
  simp only [List.mem_cons, List.not_mem_nil, or_false] at h
  simp only [LA.bad, List.mem_cons, List.not_mem_nil, or_false]
  rcases h with h | h | h | h <;> simp [h]
theorem L_bad : X.L ∈ X.bad := by simp [LA.bad]
theorem vol_core {a : Addr} (h : a ∈ X.vol) : a ∈ X.core := by
  simp only [LA.vol, List.mem_cons, List.not_mem_nil, or_false] at h
  simp only [LA.core, List.mem_cons, List.not_mem_nil, or_false]
  rcases h with h | h | h | h | h <;> simp [h]
theorem four_core {a : Addr} (h : a ∈ [X.L + 4, X.L + 5, X.L + 6, X.L + 7]) : a ∈ X.core := by
  simp only [List.mem_cons, List.not_mem_nil, or_false] at h
  simp only [LA.core, List.mem_cons, List.not_mem_nil, or_false]
  rcases h with h | h | h | h <;> simp [h]
theorem L_core : X.L ∈ X.core := by simp [LA.core]
theorem clk_core : X.S.clk ∈ X.core := by simp [LA.core]
theorem core_bad {a : Addr} (h : a ∈ X.core) : a ∈ X.bad := by
  simp only [LA.core, List.mem_cons, List.not_mem_nil, or_false] at h
  simp only [LA.bad, List.mem_cons]
  rcases h with h | h | h | h | h | h | h | h | h | h | h <;> simp [h]
theorem nc {a : Addr} (h : a ∉ X.bad) : a ∉ X.core := fun z => h (core_bad z)
theorem LV.sub {bad} (x : LV w X gt r bad c k h) : Sub r h := let ⟨_, a, _⟩ := x; a.sub
theorem LV.bx {bad} (x : LV w X gt r bad c k h) : ∀ a ∈ X.bad, ∃ o, h.get? a = some o := let ⟨_, a, _⟩ := x; a.bx
theorem off3 (Z : Law w X gt ug g c r k) (x : LV w X gt r X.bad c k h) (k0 : Keeps [] h h') (lt : ∀ b o, h'.get? b = some o → b < I) (ltD : I < D) (ltC : D < C) : Off3 X g r h I C D := by
  have up : ∀ b o, h.get? b = some o → b < I := fun b o e => lt b o (k0.all _ _ e)
  have nn : ∀ a ∈ [I, C, D], h.get? a = none := fun a ha => by
    cases e : h.get? a with
    | none => rfl
    | some o =>
      have q := up _ _ e
      simp only [List.mem_cons, List.not_mem_nil, or_false] at ha
      rcases ha with rfl | rfl | rfl
      · exact absurd q (Nat.lt_irrefl _)
      · exact absurd q (Nat.lt_asymm (Nat.lt_trans ltD ltC))
      · exact absurd q (Nat.lt_asymm ltD)
  have nr : ∀ a ∈ [I, C, D], r.get? a = none := fun a ha => TT.none_of x.sub (nn a ha)
  exact ⟨fun a ha z => (by obtain ⟨o, e⟩ := x.bx a z; rw [nn a ha] at e; cases e), nn, nr, fun a ha => TT.none_of Z.gr (nr a ha)⟩
theorem BJ.start (F : Fr g X.L h m) (x : LV w X gt r X.bad c k h) (k1 : Keeps [] h h₁) (o : Off3 X g r h I C D) : BJ w X gt g r c k I C D h m h₁ :=
  ⟨fr_all F k1.all, x.more o.nn k1, k1.mono (by simp)⟩
theorem BJ.stab (b : BJ w X gt g r c k I C D h m h') (o : Off3 X g r h I C D) (kk : Keeps [I, C, D] h' h'') : BJ w X gt g r c k I C D h m h'' := by
  obtain ⟨F, x, kb⟩ := b
  refine ⟨fr_after F kk (fun z => o.nb _ z L_bad) o.ng, x.keeps kk (fun a ha => List.mem_append_left _ ha) (fun a ha z => o.nb a ha (vol_bad z)) (fun a ha z => o.nb a ha (four_bad z)) o.nr (fun a ha z => absurd z (o.nb a ha)), fun b e hb nb => kk _ _ (kb _ _ hb nb) fun z => ?_⟩
  rw [o.nn _ z] at hb; cases hb
theorem BJ.out (b : BJ w X gt g r c k I C D h m h') : LV w X gt r X.bad c k h' := b.2.1.less fun _ z => List.mem_append_right _ z
theorem Law.sit3 (Z : Law w X gt ug g c r k) : Sit w X gt ug c r ([I, C, D] ++ X.bad) k :=
  ⟨⟨Z.z.cx.rt, Z.z.cx.ok, fun a ha => List.mem_append_right _ ha, Z.z.cx.g1, Z.z.cx.g2, Z.z.cx.g3, Z.z.cx.wk⟩, Z.z.gk, Z.z.lo, Z.z.hc, Z.z.hN⟩
/-- a call turned some of the places that turn -/
theorem BJ.call {as : List Addr} {k' : LK} (Z : Law w X gt ug g c r k) (b : BJ w X gt g r c k I C D h m h') (o : Off3 X g r h I C D) (kk : Keeps as h' h'') (hv : ∀ a ∈ as, a ∈ X.vol) (x : LV w X gt r ([I, C, D] ++ X.bad) c k' h'') : BJ w X gt g r c k' I C D h m h'' :=
  ⟨fr_after b.1 kk (fun z => Z.z.cx.ok.ap _ (by simp [LA.scr]) (hv _ z)) (fun a ha => TT.none_of Z.gr (Z.z.cx.rt.no a (List.mem_append_left _ (hv a ha)))), x, b.2.2.trans (kk.mono fun a ha => vol_core (hv a ha))⟩
theorem same3 {as : List Addr} (o : Off3 X g r h I C D) (kk : Keeps as h' h'') (hv : ∀ a ∈ as, a ∈ X.vol) (hx : ∀ a ∈ [I, C, D], ∃ o, h'.get? a = some o) : ∀ a ∈ [I, C, D], h''.get? a = h'.get? a := fun a ha => by
  obtain ⟨ob, e⟩ := hx a ha
  rw [e]; exact kk _ _ e fun z => o.nb a ha (vol_bad (hv a z))
theorem ex3 {oC oD : Obj} (hI : ∃ o, h.get? I = some o) (hC : h.get? C = some oC) (hD : h.get? D = some oD) : ∀ a ∈ [I, C, D], ∃ o, h.get? a = some o := fun a ha => by
  simp only [List.mem_cons, List.not_mem_nil, or_false] at ha
  rcases ha with rfl | rfl | rfl
  · exact hI
  · exact ⟨_, hC⟩
  · exact ⟨_, hD⟩
theorem ce_vol : ∀ a ∈ [X.S.C, X.S.E], a ∈ X.vol := fun a ha => by
  simp only [List.mem_cons, List.not_mem_nil, or_false] at ha
  simp only [LA.vol, List.mem_cons, List.not_mem_nil, or_false]
  rcases ha with h | h <;> simp [h]
theorem n9_vol : ∀ a ∈ [(921 : Addr)], a ∈ X.vol := fun a ha => by rw [List.mem_singleton.mp ha]; simp [LA.vol]
theorem exBad {oC oD : Obj} (x : LV w X gt r ([I, C, D] ++ X.bad) c k h) (hI : ∃ o, h.get? I = some o) (hC : h.get? C = some oC) (hD : h.get? D = some oD) : ∀ a ∈ [I, C, D] ++ X.bad, ∃ o, h.get? a = some o := fun a ha => by
  rcases List.mem_append.mp ha with z | z
  · exact ex3 hI hC hD a z
  · exact x.bx a z
end
/-- what is left of the limits, by number -/
def leftN (gt : Gt) (lg : List (Int × Int)) (c : Int) : Nat → Int | 0 => left1 gt lg c | 1 => left2 gt lg c | _ => left3 gt lg c
def RowAt (gt : Gt) (lg : List (Int × Int)) (c : Int) (bad : List Addr) (h : Heap) (j : Nat) (v : Value) : Prop :=
  ∃ y, v = .ref y ∧ match j with
  | 0 => ∃ rst u1 u2, WsO bad h y (.int rst u1) (.int (left1 gt lg c) u2) ∧ ∀ kk, left1 gt lg c < kk → kk ≤ gt.a → rst = fOp gt lg + gt.b
  | 1 => ∃ u1 u2, WsO bad h y (.int (mvS c gt.d (atsOf lg) + gt.d) u1) (.int (left2 gt lg c) u2)
  | _ => ∃ P u1 u2 u3, P ∉ bad ∧ IsTup h P #[.int (ssNum c gt.f (pcO gt lg c) (peO gt lg c) (ccO gt lg c) (ceO gt c)) u1, .int (ssDen (pcO gt lg c)) u2] ∧ WsO bad h y (.ref P) (.int (left3 gt lg c) u3)
section
variable {gt : Gt} {lg : List (Int × Int)} {c : Int} {bad bad' as : List Addr} {h h' : Heap} {j : Nat} {v : Value}
theorem RowAt.keeps (x : RowAt gt lg c bad h j v) (k : Keeps as h h') (sub : ∀ a ∈ as, a ∈ bad) : RowAt gt lg c bad h' j v := by
  obtain ⟨y, e, x⟩ := x
  refine ⟨y, e, ?_⟩
  match j, x with
  | 0, ⟨rst, u1, u2, a, b⟩ => exact ⟨rst, u1, u2, a.keeps k sub, b⟩
  | 1, ⟨u1, u2, a⟩ => exact ⟨u1, u2, a.keeps k sub⟩
  | _ + 2, ⟨P, u1, u2, u3, n, ⟨o, e1, e2⟩, a⟩ => exact ⟨P, u1, u2, u3, n, ⟨o, k _ _ e1 fun z => n (sub _ z), e2⟩, a.keeps k sub⟩
theorem RowAt.less (x : RowAt gt lg c bad' h j v) (sub : ∀ a ∈ bad, a ∈ bad') : RowAt gt lg c bad h j v := by
  obtain ⟨y, e, x⟩ := x
  refine ⟨y, e, ?_⟩
  match j, x with
  | 0, ⟨rst, u1, u2, a, b⟩ => exact ⟨rst, u1, u2, a.less sub, b⟩
  | 1, ⟨u1, u2, a⟩ => exact ⟨u1, u2, a.less sub⟩
  | _ + 2, ⟨P, u1, u2, u3, n, i, a⟩ => exact ⟨P, u1, u2, u3, fun z => n (sub _ z), i, a.less sub⟩
end
section
variable {w : World} {X : LA} {gt : Gt} {ug : Nat → Tok} {g : Heap} {c : Int} {r h : Heap} {k : LK} {m : Str → Option Value} {A : Around} {s : Shared} {t : Nat} {E : Value → Shared → Prop}
theorem cnName {env : Env} {x : Str} {pos : Pos} {cc : Addr} {v : Value} (hc : env.cells.lookup x = some cc) (hv : h.IsCell cc (some v)) (hk : env.scope.kind = .function := by rfl) (hx : env.kindOf x = some .cell := by rfl) (hb : (x == ("__debug__" : Str)) = false := by decide) : NameOf w A s h env (.Name x pos) v :=
  fun _ t _ q => cn_c (s := stt s h t) hc hv q hk hx hb
theorem clName {mm : Str → Option Value} {env : Env} {x : Str} {pos : Pos} {v : Value} (hns : h.Ns env.locals mm) (hv : mm x = some v) (hk : env.scope.kind = .function := by rfl) (hx : env.kindOf x = some .local := by rfl) (hb : (x == ("__debug__" : Str)) = false := by decide) : NameOf w A s h env (.Name x pos) v :=
  fun _ t _ q => cn_l (s := stt s h t) hns hv q hk hx hb
end
end
section
set_option maxHeartbeats 1000000
section
variable {w : World} {X : LA} {gt : Gt} {ug : Nat → Tok} {g : Heap} {c : Int} {r h h₁ : Heap} {k : LK} {m : Str → Option Value} {A : Around} {s : Shared} {t : Nat} {E : Value → Shared → Prop}
/-- get_window_stats of the i-th limit -/
theorem c_stN {bad : List Addr} {i : Nat} {Q : Value → Shared → Prop} (z : Sit w X gt ug c r bad k) (hx : ∀ a ∈ bad, ∃ o, h.get? a = some o) (eF : k.lF = k.lg) (eM : k.lM = k.lg) (eS : k.lS = k.lg) (cap : Cap gt c k.lg) (x : LV w X gt r bad c k h) (am : Amb A 7)
    (q : ∀ as v h' t', LV w X gt r bad c k h' → Keeps as h h' → (∀ a ∈ as, a ∈ X.vol) → RowAt gt k.lg c bad h' i v → Q v (stt s h' t')) :
    wpAny (model prog w) A (call (.ref (stN i)) [.ref (X.lim i), .ref (X.itm i), .ref X.T]) Q E (stt s h t) := by
  match i with
  | 0 => exact c_st1 z eF cap x (am.mono (by decide)) fun y rst u1 u2 h' t' x' kk e W => q _ _ _ _ x' kk ce_vol ⟨y, rfl, rst, u1, u2, W.off hx, e⟩
  | 1 => exact c_st2 z hx eM x (am.mono (by decide)) fun y u1 u2 h' t' x' kk W => q _ _ _ _ x' kk n9_vol ⟨y, rfl, u1, u2, W.off hx⟩
  | _ + 2 => exact c_st3 z eS cap x am fun y P u1 u2 v h' t' x' kk T fP W => q _ _ _ _ x' kk ce_vol ⟨y, rfl, P, u1, u2, v, fP.off hx, T, W.off hx⟩
theorem c_tsN {bad : List Addr} {i : Nat} {cost : Int} {u : Tok} {Q : Value → Shared → Prop} (z : Sit w X gt ug c r bad k) (hx : ∀ a ∈ bad, ∃ o, h.get? a = some o) (eF : k.lF = k.lg) (eM : k.lM = k.lg) (eS : k.lS = k.lg) (x : LV w X gt r bad c k h) (am : Amb A 7)
    (q : ∀ as h' t', LV w X gt r bad c k h' → Keeps as h h' → (∀ a ∈ as, a ∈ X.vol) → Q (.bool (decide (cost ≤ leftN gt k.lg c i))) (stt s h' t')) :
    wpAny (model prog w) A (call (.ref (tsN i)) [.ref (X.lim i), .ref (X.itm i), .ref X.T, .int cost u]) Q E (stt s h t) := by
  match i with
  | 0 => exact c_ts1 z eF x (am.mono (by decide)) fun h' t' x' kk => q _ _ _ x' kk ce_vol
  | 1 => exact c_ts2 z hx eM x (am.mono (by decide)) fun h' t' x' kk => q _ _ _ x' kk n9_vol
  | _ + 2 => exact c_ts3 z eS x am fun h' t' x' kk => q _ _ _ x' kk ce_vol
/-- the law's cells at hand -/
theorem LV.cell4 {bad} (x : LV w X gt r bad c k h) : h.IsCell (X.L + 4) k.cv := let ⟨_, a, _, _, _, _, _, _, e, _⟩ := x; e ▸ a.c4
theorem LV.cell5 {bad} (x : LV w X gt r bad c k h) : h.IsCell (X.L + 5) k.lv := let ⟨_, a, _, _, _, _, _, _, _, e, _⟩ := x; e ▸ a.c5
theorem LV.cell6 {bad} (x : LV w X gt r bad c k h) : h.IsCell (X.L + 6) k.tv := let ⟨_, a, _, _, _, _, _, _, _, _, e, _⟩ := x; e ▸ a.c6
theorem LV.cell7 {bad} (x : LV w X gt r bad c k h) : h.IsCell (X.L + 7) k.sv := let ⟨_, a, _, _, _, _, _, _, _, _, _, e, _⟩ := x; e ▸ a.c7
theorem ofSub {h : Heap} {cc : Addr} {v : Option Value} (x : r.IsCell cc v) (k : Sub r h) : h.IsCell cc v := let ⟨o, a, b⟩ := x; ⟨o, k _ _ a, b⟩
theorem rt_no (x : Root w X gt ug c r) : r.get? X.L = none := x.no _ (List.mem_append_right _ (by simp [LA.scr]))
/-- stats = [...] -/
theorem t1 {Q : Flow → Shared → Prop} (am : Amb A 7) (Z : Law w X gt ug g c r k) (eF : k.lF = k.lg) (eM : k.lM = k.lg) (eS : k.lS = k.lg) (cap : Cap gt c k.lg) (x : LV w X gt r X.bad c k h) (F : Fr g X.L h m)
    (q : ∀ D ys n h' t', Fr g X.L h' (fun y => if y = Str.ofString "stats" then some (.ref D) else m y) → LV w X gt r X.bad c k h' → Keeps X.core h h' → D ∉ X.bad → h'.get? D = some (listO ys n) → ys.length = 3 → (∀ j v, ys[j]? = some v → RowAt gt k.lg c X.bad h' j v) → Q .next (stt s h' t')) :
    wpAny (model prog w) A (exec (nthS tB 1) (lawE X.L)) Q E (stt s h t) := by
  show wpAny _ _ (exec (Stmt.Assign [Expr.Name _ _] _ _) _) _ _ _
  refine comp_A (g := g) (cl := [(Str.ofString "who", X.L + 3), (Str.ofString "limiters", X.L + 1), (Str.ofString "items", X.L + 2)]) (by with_unfolding_all rfl) (by with_unfolding_all rfl) am.hd (by decide) rfl (by decide) rfl rfl rfl ?_
  walk_at "bn"
  refine nm_b F Z.cx (by kernel_rfl) Boot.«range» (by decide) ?_
  walk_at "bn"
  refine w_range1 (s := stt s h t) fun r₀ h₀ t₀ _ _ _ k₀ hr₀ => ?_
  refine SrcK.range (s := stt s h t) (n := 3) hr₀ (by decide) (by decide) (by decide) ?_
  intro I C D h₁ kk lt ltD ltC eI eC eD
  have o := off3 Z x k₀ lt ltD ltC
  refine ⟨fun i ys h' => BJ w X gt g r c k I C D h m h' ∧ ys.length = i ∧ ∀ j v, ys[j]? = some v → RowAt gt k.lg c ([I, C, D] ++ X.bad) h' j v, ⟨BJ.start F x (k₀.trans kk) o, rfl, fun j v e => by simp at e⟩, ?_, fun _ _ _ _ => trivial, ?_, ?_⟩
  · rintro i ys h₂ h' ⟨b, hl, rows⟩ kk
    exact ⟨b.stab o kk, hl, fun j v e => (rows j v e).keeps kk fun a ha => List.mem_append_left _ ha⟩
  · rintro i v ys h₂ t₂ oC m₂ E' hi ⟨tk, rfl⟩ ⟨b, hl, rows⟩ eI eD eC hC hv
    have hns := hC.ns eC
    have hx := exBad b.2.1 eI eC eD
    rw [Int.zero_add] at hv
    have rt := Z.z.cx.rt
    refine wpAny_tests_nil ?_
    refine methodCall_KW ?_
    refine lm_call2 (s := s) (u := tk) (i := i) (m_st w) hi b.1 Z.cx b.2.1.sub rt (cnName (env := compEnvC _ _ C _) rfl (ofSub rt.c1 b.2.1.sub)) (fun p => clName (env := compEnvC _ _ C _) hns hv) (cnName (env := compEnvC _ _ C _) rfl (ofSub rt.c2 b.2.1.sub)) (cnName (env := compEnvC _ _ C _) rfl (ofSub rt.c3 b.2.1.sub)) fun t' => ?_
    refine c_stN (s := s) Z.sit3 hx eF eM eS cap b.2.1 am fun as v h' t' x' kk hv R => ?_
    refine ⟨h', t', rfl, same3 o kk hv (ex3 eI eC eD), b.call Z o kk hv x', by rw [List.length_append, hl]; rfl, fun j v' e => ?_⟩
    by_cases hj : j < ys.length
    · rw [List.getElem?_append_left hj] at e
      exact (rows j v' e).keeps kk fun a ha => List.mem_append_right _ (vol_bad (hv a ha))
    · rw [List.getElem?_append_right (Nat.not_lt.mp hj)] at e
      have : j = ys.length := by
        cases hd : j - ys.length with
        | zero => omega
        | succ n => rw [hd] at e; simp at e
      subst this
      simp at e
      subst e
      rw [hl]; exact R
  · rintro ys h₂ t₂ ⟨b, hl, rows⟩ eD
    have nL : X.L ∉ [I, C, D] := fun z => o.nb _ z L_bad
    refine ⟨m, b.1, fun z => nL (z ▸ by simp), o.ng _ (by simp), fun h' t' F' k' hD => ?_⟩
    have nLv : X.L ∉ X.vol := Z.z.cx.ok.ap _ (by simp [LA.scr])
    have hsub : ∀ a ∈ [X.L, C], a ∈ [I, C, D] ++ X.bad := fun a ha => by
      simp only [List.mem_cons, List.not_mem_nil, or_false] at ha
      rcases ha with rfl | rfl
      · exact List.mem_append_right _ L_bad
      · exact List.mem_append_left _ (by simp)
    refine q D ys _ h' t' F' ?_ ?_ (o.nb _ (by simp)) hD hl fun j v e => ((rows j v e).keeps k' hsub).less fun _ z => List.mem_append_right _ z
    · refine (b.2.1.keeps k' hsub (fun a ha z => ?_) (fun a ha z => ?_) (fun a ha => ?_) fun a ha hab => ?_).less fun _ z => List.mem_append_right _ z
      all_goals simp only [List.mem_cons, List.not_mem_nil, or_false] at ha
      · rcases ha with rfl | rfl
        · exact nLv z
        · exact o.nb _ (by simp) (vol_bad z)
      · rcases ha with rfl | rfl
        · simp only [List.mem_cons, List.not_mem_nil, or_false] at z
          rcases z with z | z | z | z <;> exact absurd z (Nat.ne_of_lt (Nat.lt_add_of_pos_right (by decide)))
        · exact o.nb _ (by simp) (four_bad z)
      · rcases ha with rfl | rfl
        · exact rt_no Z.z.cx.rt
        · exact o.nr _ (by simp)
      · rcases ha with rfl | rfl
        · obtain ⟨oL, _, _, e, _⟩ := F'.ns
          exact ⟨oL, e⟩
        · exact absurd hab (o.nb _ (by simp))
    · refine fun bb ob e nb => k' _ _ (b.2.2 _ _ e nb) fun z => ?_
      simp only [List.mem_cons, List.not_mem_nil, or_false] at z
      rcases z with rfl | rfl
      · exact nb L_core
      · rw [o.nn _ (by simp)] at e; cases e
end
end
section
set_option maxHeartbeats 1000000
theorem gn_ll (P : Params) : nsIn (K P) mainGlobals (Str.ofString "_law_left") = some (some (.ref 979)) := by kernel_rfl
theorem kp_ll (P : Params) : keepIn (K P) (.ref 979) = true := by kernel_rfl
section
variable {w : World} {X : LA} {gt : Gt} {ug : Nat → Tok} {g : Heap} {c : Int} {r h h' h'' h₁ : Heap} {k : LK} {m m' : Str → Option Value} {A : Around} {s : Shared} {t : Nat} {E : Value → Shared → Prop} {I C D : Addr}
theorem L_vol (Z : Law w X gt ug g c r k) : X.L ∉ X.vol := Z.z.cx.ok.ap _ (by simp [LA.scr])
theorem L_four : X.L ∉ [X.L + 4, X.L + 5, X.L + 6, X.L + 7] := fun z => by
  simp only [List.mem_cons, List.not_mem_nil, or_false] at z
  rcases z with z | z | z | z <;> exact absurd z (Nat.ne_of_lt (Nat.lt_add_of_pos_right (by decide)))
/-- a local is stored: nothing of the store's turns -/
theorem LV.loc (Z : Law w X gt ug g c r k) (x : LV w X gt r X.bad c k h) (F : Fr g X.L h' m') (k1 : Keeps [X.L] h h') : LV w X gt r X.bad c k h' := by
  have e : ∀ a ∈ [X.L], a = X.L := fun a ha => List.mem_singleton.mp ha
  refine x.keeps k1 (fun a ha => by rw [e a ha]; exact L_bad) (fun a ha => by rw [e a ha]; exact L_vol Z) (fun a ha => by rw [e a ha]; exact L_four) (fun a ha => by rw [e a ha]; exact rt_no Z.z.cx.rt) fun a ha _ => ?_
  obtain ⟨oL, _, _, eL, _⟩ := F.ns
  rw [e a ha]
  exact ⟨oL, eL⟩
theorem loc_bad (k1 : Keeps [X.L] h h') : Keeps X.core h h' := k1.mono fun a ha => by rw [List.mem_singleton.mp ha]; exact L_core
/-- a comprehension's list is stored in a local -/
theorem BJ.store (Z : Law w X gt ug g c r k) (o : Off3 X g r h I C D) (b : BJ w X gt g r c k I C D h m h₁) (F' : Fr g X.L h' m') (k' : Keeps [X.L, C] h₁ h') : LV w X gt r X.bad c k h' ∧ Keeps X.core h h' := by
  have hsub : ∀ a ∈ [X.L, C], a ∈ [I, C, D] ++ X.bad := fun a ha => by
    simp only [List.mem_cons, List.not_mem_nil, or_false] at ha
    rcases ha with rfl | rfl
    · exact List.mem_append_right _ L_bad
    · exact List.mem_append_left _ (by simp)
  constructor
  · refine (b.2.1.keeps k' hsub (fun a ha z => ?_) (fun a ha z => ?_) (fun a ha => ?_) fun a ha hab => ?_).less fun _ z => List.mem_append_right _ z
    all_goals simp only [List.mem_cons, List.not_mem_nil, or_false] at ha
    · rcases ha with rfl | rfl
      · exact L_vol Z z
      · exact o.nb _ (by simp) (vol_bad z)
    · rcases ha with rfl | rfl
      · exact L_four z
      · exact o.nb _ (by simp) (four_bad z)
    · rcases ha with rfl | rfl
      · exact rt_no Z.z.cx.rt
      · exact o.nr _ (by simp)
    · rcases ha with rfl | rfl
      · obtain ⟨oL, _, _, e, _⟩ := F'.ns
        exact ⟨oL, e⟩
      · exact absurd hab (o.nb _ (by simp))
  · refine fun bb ob e nb => k' _ _ (b.2.2 _ _ e nb) fun z => ?_
    simp only [List.mem_cons, List.not_mem_nil, or_false] at z
    rcases z with rfl | rfl
    · exact nb L_core
    · rw [o.nn _ (by simp)] at e; cases e
/-- a cell is stored -/
theorem LS.cell {v : VS} {bad : List Addr} {a : Addr} {v4 v5 v6 v7 : Option Value} (x : LS w X gt r bad v h) (ok : X.Ok) (hb : ∀ a ∈ X.bad, a ∈ bad) (no : ∀ a ∈ X.vol ++ X.scr, r.get? a = none) (ha : a ∈ [X.L + 4, X.L + 5, X.L + 6, X.L + 7]) (kk : Heap.SameBut a h h') (hx : ∃ o, h'.get? a = some o)
    (c4 : h'.IsCell (X.L + 4) v4) (c5 : h'.IsCell (X.L + 5) v5) (c6 : h'.IsCell (X.L + 6) v6) (c7 : h'.IsCell (X.L + 7) v7) : LS w X gt r bad { v with cv := v4, lv := v5, tv := v6, sv := v7 } h' := by
  have e : ∀ y ∈ [a], y = a := fun y hy => List.mem_singleton.mp hy
  have k := Keeps.of_same kk
  have sub : ∀ y ∈ [a], y ∈ bad := fun y hy => e y hy ▸ hb _ (four_bad ha)
  have nv : ∀ y ∈ X.vol, y ∉ [a] := fun y hy z => ok.ap a (scr4 ha) (e y z ▸ hy)
  refine ⟨x.sub.keeps k fun y hy => e y hy ▸ no a (List.mem_append_right _ (scr4 ha)), x.ctr.keeps k (nv _ (by simp [LA.vol])), x.exp.keeps k (nv _ (by simp [LA.vol])), x.mv.keeps k sub (nv _ (by simp [LA.vol])), x.tab.keeps k sub (nv _ (by simp [LA.vol])), x.log.keeps k sub (nv _ (by simp [LA.vol])), c4, c5, c6, c7, x.nl, fun y hy => ?_⟩
  by_cases hm : y = a
  · exact hm ▸ hx
  · obtain ⟨o, ho⟩ := x.bx y hy
    exact ⟨o, k _ _ ho fun z => hm (e y z)⟩
theorem IsCell.same {a b : Addr} {v : Option Value} (x : h.IsCell b v) (kk : Heap.SameBut a h h') (n : b ≠ a) : h'.IsCell b v := x.sameBut kk n
theorem IsCell.ex {a : Addr} {v : Option Value} (x : h.IsCell a v) : ∃ o, h.get? a = some o := let ⟨o, e, _⟩ := x; ⟨o, e⟩
theorem cne {i j : Nat} (h : i ≠ j) : X.L + i ≠ X.L + j := fun e => h (Nat.add_left_cancel e)
theorem LV.set4 {bad} {v : Option Value} (x : LV w X gt r bad c k h) (cx : Ctx w X gt ug c r bad) (kk : Heap.SameBut (X.L + 4) h h') (hc : h'.IsCell (X.L + 4) v) : LV w X gt r bad c { k with cv := v } h' :=
  let ⟨_, a, b, d, e, f, g, i, _, e2, e3, e4, e5⟩ := x
  ⟨_, a.cell cx.ok cx.hb cx.rt.no (by simp) kk (IsCell.ex hc) hc (IsCell.same a.c5 kk (cne (by decide))) (IsCell.same a.c6 kk (cne (by decide))) (IsCell.same a.c7 kk (cne (by decide))), b, d, e, f, g, i, rfl, e2, e3, e4, e5⟩
theorem LV.set5 {bad} {v : Option Value} (x : LV w X gt r bad c k h) (cx : Ctx w X gt ug c r bad) (kk : Heap.SameBut (X.L + 5) h h') (hc : h'.IsCell (X.L + 5) v) : LV w X gt r bad c { k with lv := v } h' :=
  let ⟨_, a, b, d, e, f, g, i, e1, _, e3, e4, e5⟩ := x
  ⟨_, a.cell cx.ok cx.hb cx.rt.no (by simp) kk (IsCell.ex hc) (IsCell.same a.c4 kk (cne (by decide))) hc (IsCell.same a.c6 kk (cne (by decide))) (IsCell.same a.c7 kk (cne (by decide))), b, d, e, f, g, i, e1, rfl, e3, e4, e5⟩
theorem LV.set6 {bad} {v : Option Value} (x : LV w X gt r bad c k h) (cx : Ctx w X gt ug c r bad) (kk : Heap.SameBut (X.L + 6) h h') (hc : h'.IsCell (X.L + 6) v) : LV w X gt r bad c { k with tv := v } h' :=
  let ⟨_, a, b, d, e, f, g, i, e1, e2, _, e4, e5⟩ := x
  ⟨_, a.cell cx.ok cx.hb cx.rt.no (by simp) kk (IsCell.ex hc) (IsCell.same a.c4 kk (cne (by decide))) (IsCell.same a.c5 kk (cne (by decide))) hc (IsCell.same a.c7 kk (cne (by decide))), b, d, e, f, g, i, e1, e2, rfl, e4, e5⟩
theorem LV.set7 {bad} {v : Option Value} (x : LV w X gt r bad c k h) (cx : Ctx w X gt ug c r bad) (kk : Heap.SameBut (X.L + 7) h h') (hc : h'.IsCell (X.L + 7) v) : LV w X gt r bad c { k with sv := v } h' :=
  let ⟨_, a, b, d, e, f, g, i, e1, e2, e3, _, e5⟩ := x
  ⟨_, a.cell cx.ok cx.hb cx.rt.no (by simp) kk (IsCell.ex hc) (IsCell.same a.c4 kk (cne (by decide))) (IsCell.same a.c5 kk (cne (by decide))) (IsCell.same a.c6 kk (cne (by decide))) hc, b, d, e, f, g, i, e1, e2, e3, rfl, e5⟩
theorem fr_cell {i : Nat} (Z : Law w X gt ug g c r k) (F : Fr g X.L h m) (kk : Heap.SameBut (X.L + i) h h') (hi : 0 < i) : Fr g X.L h' m :=
  fr_after F (Keeps.of_same kk) (fun z => absurd (List.mem_singleton.mp z) (Nat.ne_of_lt (Nat.lt_add_of_pos_right hi))) fun a ha => Z.gL a (List.mem_singleton.mp ha ▸ Nat.le_add_right _ _)
theorem cell_bad {a : Addr} (ha : a ∈ [X.L + 4, X.L + 5, X.L + 6, X.L + 7]) (kk : Heap.SameBut a h h') : Keeps X.core h h' := (Keeps.of_same kk).mono fun y hy => List.mem_singleton.mp hy ▸ four_core ha
theorem LV.log {bad} (x : LV w X gt r bad c k h) : LogOff h bad X.Lg k.lg := let ⟨_, a, _, _, _, f, _⟩ := x; f ▸ a.log
/-- a call of _law_left in the law -/
theorem left_call {mo : Int} {u : Tok} {Q : Value → Shared → Prop} (am : Amb A 2) (Z : Law w X gt ug g c r k) (x : LV w X gt r X.bad c k h)
    (q : ∀ D n u1 u2 u3 h' t', LV w X gt r X.bad c k h' → Keeps [] h h' → D ∉ X.bad → h.get? D = none → h'.get? D = some (listO [.int (left1 gt k.lg mo) u1, .int (left2 gt k.lg mo) u2, .int (left3 gt k.lg mo) u3] n) → Q (.ref D) (stt s h' t')) :
    wpAny (model prog w) A (call (.ref 979) [.ref X.G, .ref X.Lg, .int mo u]) Q E (stt s h t) := by
  have f3 := Z.z.gk.f3
  have f9 := Z.z.gk.f9
  refine wpAny_call ?_
  refine ll_spec (s := s) (gt := gt) (ug := ug) (lg := k.lg) am (Z.z.cx.rt.rt.cx.keeps x.sub) (Z.z.cx.rt.gate.at (x.sub _)) x.log.at (by omega) (by omega) (by rw [l_ahead]; exact wsum_nonneg Z.z.lo) (by rw [l_ahead]; have := wsum_le (f := gt.f) (q := mo / gt.f - 1) Z.z.lo; omega) fun D n u1 u2 u3 h' t' kk nD eD => ?_
  rw [left_tuple Z.z.gk Z.z.lo] at eD
  exact q D n u1 u2 u3 h' t' (x.all kk) kk (fun z => by obtain ⟨o, e⟩ := x.bx _ z; rw [nD] at e; cases e) nD eD
theorem clkList (Z : Law w X gt ug g c r k) {bad} (x : LV w X gt r bad c k h) : ∃ u n, h.get? X.S.clk = some ⟨.type "list", none, .seq #[.int c u] n, #[]⟩ := let ⟨u, n, e⟩ := Z.z.cx.rt.rt.st.clk; ⟨u, n, x.sub _ _ e⟩
/-- left = _law_left(gate, log, clock[0]) -/
theorem t0 {Q : Flow → Shared → Prop} (am : Amb A 3) (Z : Law w X gt ug g c r k) (x : LV w X gt r X.bad c k h) (F : Fr g X.L h m) (mg : m (Str.ofString "gate") = some (.ref X.G)) (ml : m (Str.ofString "log") = some (.ref X.Lg))
    (q : ∀ D n u1 u2 u3 h' t', Fr g X.L h' m → LV w X gt r X.bad c { k with lv := some (.ref D) } h' → Keeps X.core h h' → D ∉ X.bad → h'.get? D = some (listO [.int (left1 gt k.lg c) u1, .int (left2 gt k.lg c) u2, .int (left3 gt k.lg c) u3] n) → Q .next (stt s h' t')) :
    wpAny (model prog w) A (exec (nthS tB 0) (lawE X.L)) Q E (stt s h t) := by
  obtain ⟨uc, nc, eclk⟩ := clkList Z x
  have c8 := ofSub Z.z.cx.rt.c8 x.sub
  show wpAny _ _ (exec (Stmt.Assign [Expr.Name _ _] _ _) _) _ _ _
  walk_at "bn"
  refine nm_g F Z.cx (gn_ll _) ?_
  refine callWith_D (w := w) (kp_ll _) ?_
  walk_at "bn"
  refine sub_list (s := stt s h _) ⟨_, eclk, rfl, _, rfl⟩ (by decide) (by decide) rfl ?_ (by with_unfolding_all rfl)
  walk_at "bn"
  refine ⟨Fr.cx F Z.cx, ?_⟩
  refine left_call (s := s) (am.mono (by decide)) Z x fun D n u1 u2 u3 h' t' x' kk nD hD eD => ?_
  have F' := fr_all F kk.all
  refine s_cell (s := s) (c := X.L + 5) rfl x'.cell5 fun h'' c5 sb => ?_
  have nDL : D ≠ X.L + 5 := fun e => nD (e ▸ four_bad (by simp))
  exact q D n u1 u2 u3 h'' _ (fr_cell Z F' sb (by decide)) (x'.set5 Z.z.cx sb c5) ((kk.mono (by simp)).trans (cell_bad (by simp) sb)) nD (sb.extBut _ _ nDL eD)
end
end
section
set_option maxHeartbeats 1000000
/-- the limits that do not let -/
def shutL (gt : Gt) (lg : List (Int × Int)) (c cost : Int) (n : Nat) : List Int := ((List.range n).filter fun j => decide (leftN gt lg c j < cost)).map fun (j : Nat) => (j : Int)
theorem shutL_succ (gt : Gt) (lg : List (Int × Int)) (c cost : Int) (n : Nat) : shutL gt lg c cost (n + 1) = shutL gt lg c cost n ++ (if leftN gt lg c n < cost then [(n : Int)] else []) := by
  unfold shutL
  rw [List.range_succ, List.filter_append, List.map_append]
  by_cases h : leftN gt lg c n < cost <;> simp [h]
theorem IntsAre.snoc {vs : List Value} {ns : List Int} {n : Int} {u : Tok} (x : IntsAre vs ns) : IntsAre (vs ++ [.int n u]) (ns ++ [n]) := x.append (.cons n u .nil)
section
variable {w : World} {X : LA} {gt : Gt} {ug : Nat → Tok} {g : Heap} {c : Int} {r h h' h'' h₁ : Heap} {k : LK} {m m' : Str → Option Value} {A : Around} {s : Shared} {t : Nat} {E : Value → Shared → Prop} {I C D : Addr}
/-- shut = [k for k in range(3) if not ..test(..)] -/
theorem t2 {cost : Int} {uc : Tok} {Q : Flow → Shared → Prop} (am : Amb A 7) (Z : Law w X gt ug g c r k) (eF : k.lF = k.lg) (eM : k.lM = k.lg) (eS : k.lS = k.lg) (ec : k.cv = some (.int cost uc)) (x : LV w X gt r X.bad c k h) (F : Fr g X.L h m)
    (q : ∀ D ys n h' t', Fr g X.L h' (fun y => if y = Str.ofString "shut" then some (.ref D) else m y) → LV w X gt r X.bad c k h' → Keeps X.core h h' → D ∉ X.bad → h'.get? D = some (listO ys n) → IntsAre ys (shutL gt k.lg c cost 3) → Q .next (stt s h' t')) :
    wpAny (model prog w) A (exec (nthS tB 2) (lawE X.L)) Q E (stt s h t) := by
  show wpAny _ _ (exec (Stmt.Assign [Expr.Name _ _] _ _) _) _ _ _
  refine comp_A (g := g) (cl := [(Str.ofString "who", X.L + 3), (Str.ofString "limiters", X.L + 1), (Str.ofString "items", X.L + 2), (Str.ofString "cost", X.L + 4)]) (by with_unfolding_all rfl) (by with_unfolding_all rfl) am.hd (by decide) rfl (by decide) rfl rfl rfl ?_
  walk_at "bn"
  refine nm_b F Z.cx (by kernel_rfl) Boot.«range» (by decide) ?_
  walk_at "bn"
  refine w_range1 (s := stt s h t) fun r₀ h₀ t₀ _ _ _ k₀ hr₀ => ?_
  refine SrcK.range (s := stt s h t) (n := 3) hr₀ (by decide) (by decide) (by decide) ?_
  intro I C D h₁ kk lt ltD ltC eI eC eD
  have o := off3 Z x k₀ lt ltD ltC
  refine ⟨fun i ys h' => BJ w X gt g r c k I C D h m h' ∧ IntsAre ys (shutL gt k.lg c cost i), ⟨BJ.start F x (k₀.trans kk) o, .nil⟩, ?_, fun _ _ _ _ => trivial, ?_, ?_⟩
  · rintro i ys h₂ h' ⟨b, hl⟩ kk
    exact ⟨b.stab o kk, hl⟩
  · rintro i v ys h₂ t₂ oC m₂ E' hi ⟨tk, rfl⟩ ⟨b, hl⟩ eI eD eC hC hv
    have hns := hC.ns eC
    have hx := exBad b.2.1 eI eC eD
    rw [Int.zero_add] at hv
    have rt := Z.z.cx.rt
    refine wpAny_tests_one ?_
    refine wpAny_isTrue_Not ?_
    refine isTrue_plain ?_
    refine methodCall_KW ?_
    refine lm_call3 (s := s) (u := tk) (i := i) (cost := cost) (uc := uc) (m_ts w) hi b.1 Z.cx b.2.1.sub rt (cnName (env := compEnvC _ _ C _) rfl (ofSub rt.c1 b.2.1.sub)) (fun p => clName (env := compEnvC _ _ C _) hns hv) (cnName (env := compEnvC _ _ C _) rfl (ofSub rt.c2 b.2.1.sub)) (cnName (env := compEnvC _ _ C _) rfl (ofSub rt.c3 b.2.1.sub)) (fun p => cnName (env := compEnvC _ _ C _) rfl (ec ▸ b.2.1.cell4)) fun t' => ?_
    refine c_tsN (s := s) Z.sit3 hx eF eM eS b.2.1 am fun as h' t' x' kk hva => ?_
    have same := same3 o kk hva (ex3 eI eC eD)
    have b' := b.call Z o kk hva x'
    have hs := shutL_succ gt k.lg c cost i
    walk_at "bn"
    by_cases hd : cost ≤ leftN gt k.lg c i
    · rw [decide_eq_true hd]
      rw [if_neg (by omega), List.append_nil] at hs
      exact ⟨h', _, rfl, same, b', hs ▸ hl⟩
    · rw [decide_eq_false hd]
      rw [if_pos (by omega)] at hs
      have hns' := hC.ns ((same C (by simp)).trans eC)
      refine cn_l (env := compEnvC _ _ C _) (s := stt s h' _) hns' hv ?_
      exact ⟨h', _, rfl, same, b', hs ▸ IntsAre.snoc hl⟩
  · rintro ys h₂ t₂ ⟨b, hl⟩ eD
    have nL : X.L ∉ [I, C, D] := fun z => o.nb _ z L_bad
    refine ⟨m, b.1, fun z => nL (z ▸ by simp), o.ng _ (by simp), fun h' t' F' k' hD => ?_⟩
    obtain ⟨x', kb⟩ := b.store Z o F' k'
    exact q D ys _ h' t' F' x' kb (o.nb _ (by simp)) hD hl
end
end
section
set_option maxHeartbeats 1000000
def lefts (gt : Gt) (lg : List (Int × Int)) (c : Int) : List Int := [left1 gt lg c, left2 gt lg c, left3 gt lg c]
theorem RowAt.rem {gt lg c bad h j v} (x : RowAt gt lg c bad h j v) : ∃ y a u, v = .ref y ∧ WsO bad h y a (.int (leftN gt lg c j) u) := by
  obtain ⟨y, e, x⟩ := x
  match j, x with
  | 0, ⟨_, _, _, a, _⟩ => exact ⟨y, _, _, e, a⟩
  | 1, ⟨_, _, a⟩ => exact ⟨y, _, _, e, a⟩
  | _ + 2, ⟨_, _, _, _, _, _, a⟩ => exact ⟨y, _, _, e, a⟩
theorem lefts_take {gt lg c} {i : Nat} (hi : i < 3) : (lefts gt lg c).take (i + 1) = (lefts gt lg c).take i ++ [leftN gt lg c i] := by
  match i, hi with | 0, _ => rfl | 1, _ => rfl | 2, _ => rfl
theorem lefts_at {gt lg c} {i : Nat} {u1 u2 u3 : Tok} (hi : i < 3) : ∃ u, ([Value.int (left1 gt lg c) u1, .int (left2 gt lg c) u2, .int (left3 gt lg c) u3].toArray)[((i : Nat) : Int).toNat]? = some (.int (leftN gt lg c i) u) := by
  match i, hi with | 0, _ => exact ⟨_, rfl⟩ | 1, _ => exact ⟨_, rfl⟩ | 2, _ => exact ⟨_, rfl⟩
theorem lo_list {h : Heap} {D : Addr} {vs : List Value} {n : Nat} (e : h.get? D = some (listO vs n)) : h.IsList D vs.toArray := ⟨_, e, rfl, _, rfl⟩
theorem Amb.u64 {A : Around} {n : Nat} (am : Amb A (n + 4)) : A.units + 64 < cLine := by have := am.un; omega
section
variable {w : World} {X : LA} {gt : Gt} {ug : Nat → Tok} {g : Heap} {c : Int} {r h h' h'' h₁ : Heap} {k : LK} {m m' : Str → Option Value} {A : Around} {s : Shared} {t : Nat} {E : Value → Shared → Prop} {I C D : Addr}
/-- the stats' remaining and the shut limits are as told -/
theorem t3 {cost : Int} {uc : Tok} {Dl Ds Dh : Addr} {ys zs : List Value} {nl ns nh : Nat} {u1 u2 u3 : Tok} {Q : Flow → Shared → Prop} (am : Amb A 7) (Z : Law w X gt ug g c r k) (ec : k.cv = some (.int cost uc)) (x : LV w X gt r X.bad c k h) (F : Fr g X.L h m)
    (el : k.lv = some (.ref Dl)) (bl : Dl ∉ X.bad) (hl : h.get? Dl = some (listO [.int (left1 gt k.lg c) u1, .int (left2 gt k.lg c) u2, .int (left3 gt k.lg c) u3] nl))
    (es : m (Str.ofString "stats") = some (.ref Ds)) (bs : Ds ∉ X.bad) (hs : h.get? Ds = some (listO ys ns)) (ly : ys.length = 3) (rows : ∀ j v, ys[j]? = some v → RowAt gt k.lg c X.bad h j v)
    (eh : m (Str.ofString "shut") = some (.ref Dh)) (bh : Dh ∉ X.bad) (hh : h.get? Dh = some (listO zs nh)) (iz : IntsAre zs (shutL gt k.lg c cost 3))
    (q : ∀ h' t', Fr g X.L h' m → LV w X gt r X.bad c k h' → Keeps X.core h h' → Q .next (stt s h' t')) :
    wpAny (model prog w) A (exec (nthS tB 3) (lawE X.L)) Q E (stt s h t) := by
  show wpAny _ _ (exec (Stmt.If _ _ _ _) _) _ _ _
  walk_at "bn"
  refine comp_E (cl := []) (by with_unfolding_all rfl) am.hd (by decide) rfl (by decide) rfl ?_
  walk_at "bn"
  refine SrcK.list (s := stt s h t) (lo_list hs) (by rw [List.size_toArray, ly]; decide) ?_
  intro I C D h₁ kk lt ltD ltC eI eC eD
  have o := off3 Z x Keeps.refl lt ltD ltC
  refine ⟨fun i vs h' => BJ w X gt g r c k I C D h m h' ∧ IntsAre vs ((lefts gt k.lg c).take i), ⟨BJ.start F x kk o, .nil⟩, ?_, ?_, ?_, ?_⟩
  · rintro i vs h₂ h' ⟨b, hl⟩ kk
    exact ⟨b.stab o kk, hl⟩
  · rintro i vs h₂ ⟨b, _⟩
    exact lo_list (b.2.2 _ _ hs (nc bs))
  · rintro i v vs h₂ t₂ oC m₂ E' hi hv ⟨b, hl⟩ eI eD eC hC hm
    have hns := hC.ns eC
    have hi3 : i < 3 := by rw [List.size_toArray, ly] at hi; exact hi
    obtain ⟨y, a, u, rfl, W⟩ := (rows i v (by simpa using hv)).rem
    have W := (W.keeps b.2.2 fun _ z => core_bad z).ws
    refine wpAny_tests_nil ?_
    refine Attribute_any_ ?_
    refine cn_l (env := compEnvC _ _ C _) (s := stt s h₂ _) hns hm ?_
    refine ws_remaining (s := s) (am.mono (by decide)) (Z.cx.keeps b.1.keep) W rfl fun h' t' k' => ?_
    refine ⟨h', t', rfl, fun a ha => ?_, b.stab o (k'.mono (by simp)), by rw [lefts_take hi3]; exact IntsAre.snoc hl⟩
    obtain ⟨ob, e⟩ := ex3 eI eC eD a ha
    rw [e]; exact k'.all _ _ e
  · rintro vs h₂ t₂ ⟨b, hi⟩ eD
    have x₂ := b.out
    have F₂ := b.1
    have hi : IntsAre vs (lefts gt k.lg c) := by
      rw [List.take_of_length_le (by rw [List.size_toArray, ly]; exact Nat.le_refl _)] at hi
      exact hi
    walk_at "bn"
    refine nm_c (c := X.L + 5) (by rfl) (el ▸ x₂.cell5) ?_
    refine ke_ne_ints (s := stt s h₂ t₂) (lo_list eD) (lo_list (b.2.2 _ _ hl (nc bl))) hi (.cons _ _ (.cons _ _ (.cons _ _ .nil))) (am.u64 (n := 3)) ?_
    rw [show (!decide (lefts gt k.lg c = [left1 gt k.lg c, left2 gt k.lg c, left3 gt k.lg c])) = false by simp [lefts]]
    walk_at "bn"
    rw [if_neg Bool.false_ne_true]
    walk_at "bn"
    have el₂ := b.2.2 _ _ hl (nc bl)
    refine comp_E (cl := [(Str.ofString "left", X.L + 5), (Str.ofString "cost", X.L + 4)]) (by with_unfolding_all rfl) am.hd (by decide) rfl (by decide) rfl ?_
    walk_at "bn"
    refine nm_b F₂ Z.cx (by kernel_rfl) Boot.«range» (by decide) ?_
    walk_at "bn"
    refine w_range1 (s := stt s h₂ t₂) fun r₀ h₃ t₃ _ _ _ k₀ hr₀ => ?_
    refine SrcK.range (s := stt s h₂ t₂) (n := 3) hr₀ (by decide) (by decide) (by decide) ?_
    intro I' C' D' h₄ kk' lt' ltD' ltC' eI' eC' eD'
    have o' := off3 Z x₂ k₀ lt' ltD' ltC'
    refine ⟨fun i vs h' => BJ w X gt g r c k I' C' D' h₂ m h' ∧ IntsAre vs (shutL gt k.lg c cost i), ⟨BJ.start F₂ x₂ (k₀.trans kk') o', .nil⟩, ?_, fun _ _ _ _ => trivial, ?_, ?_⟩
    · rintro i vs h₂ h' ⟨b, hl⟩ kk
      exact ⟨b.stab o' kk, hl⟩
    · rintro i v vs h₅ t₅ oC m₂ E' hi ⟨tk, rfl⟩ ⟨b', hl'⟩ eI eD eC hC hv
      have hns := hC.ns eC
      rw [Int.zero_add] at hv
      have h5 : h₅.IsCell (X.L + 5) (some (.ref Dl)) := el ▸ b'.2.1.cell5
      have h4 : h₅.IsCell (X.L + 4) (some (.int cost uc)) := ec ▸ b'.2.1.cell4
      obtain ⟨ul, hul⟩ := lefts_at (gt := gt) (lg := k.lg) (c := c) (u1 := u1) (u2 := u2) (u3 := u3) hi
      have hs := shutL_succ gt k.lg c cost i
      refine wpAny_tests_one ?_
      refine wpAny_isTrue_Compare1 ?_
      refine Subscript_ ?_
      refine cn_c (c := X.L + 5) rfl h5 ?_
      refine cn_l (env := compEnvC _ _ C' _) (s := stt s h₅ _) hns hv ?_
      refine sub_list (s := stt s h₅ _) (lo_list (b'.2.2 _ _ el₂ (nc bl))) (by omega) (by omega) hul ?_ (by with_unfolding_all rfl)
      refine cn_c (c := X.L + 4) rfl h4 ?_
      refine P.lt_int ?_
      refine wpAny_truthy_bool ?_
      by_cases hd : leftN gt k.lg c i < cost
      · rw [decide_eq_true hd]
        rw [if_pos hd] at hs
        refine cn_l (env := compEnvC _ _ C' _) (s := stt s h₅ _) hns hv ?_
        exact ⟨h₅, _, rfl, fun _ _ => rfl, b', hs ▸ IntsAre.snoc hl'⟩
      · rw [decide_eq_false hd]
        rw [if_neg hd, List.append_nil] at hs
        exact ⟨h₅, _, rfl, fun _ _ => rfl, b', hs ▸ hl'⟩
    · rintro vs' h₅ t₅ ⟨b', hi'⟩ eD
      have hh' := b'.2.2 _ _ (b.2.2 _ _ hh (nc bh)) (nc bh)
      refine ke_ne_ints (s := stt s h₅ t₅) (lo_list hh') (lo_list eD) iz hi' (am.u64 (n := 3)) ?_
      rw [show (!decide (shutL gt k.lg c cost 3 = shutL gt k.lg c cost 3)) = false by simp]
      walk_at "bn"
      rw [if_neg Bool.false_ne_true]
      walk_at "bn"
      rw [if_neg Bool.false_ne_true]
      walk_at "bn"
      exact q h₅ _ b'.1 b'.out (b.2.2.trans b'.2.2)
end
end
section
set_option maxHeartbeats 1000000
/-- the law with one place more that turns: a loop's iterator -/
def LA.plus (X : LA) (I : Addr) : LA := { X with ex := I :: X.ex }
section
variable {w : World} {X : LA} {gt : Gt} {ug : Nat → Tok} {g : Heap} {c : Int} {r h h' h'' h₁ : Heap} {k : LK} {m m' : Str → Option Value} {A : Around} {s : Shared} {t : Nat} {E : Value → Shared → Prop} {I : Addr}
theorem with_bad {a : Addr} : a ∈ (X.plus I).bad ↔ a ∈ [I] ++ X.bad := by
  simp only [LA.plus, LA.bad, List.mem_cons, List.mem_append, List.not_mem_nil, or_false]
  constructor
  · rintro (h | h | h | h | h | h | h | h | h | h | h | h | h) <;> simp [h]
  · rintro (h | h | h | h | h | h | h | h | h | h | h | h | h) <;> simp [h]
theorem bad_with {a : Addr} (h : a ∈ X.bad) : a ∈ (X.plus I).bad := with_bad.mpr (List.mem_append_right _ h)
theorem Root.plus (x : Root w X gt ug c r) : Root w (X.plus I) gt ug c r := ⟨x.rt, x.l1, x.l2, x.l3, x.i1, x.i2, x.i3, x.ll, x.li, x.who, x.gate, x.c1, x.c2, x.c3, x.c8, x.no⟩
theorem LA.Ok.plus (x : X.Ok) : (X.plus I).Ok := ⟨x.nV, x.nC, x.nE, x.nG, x.CE, x.CV, x.EV, x.ap, x.clk⟩
theorem Law.plus (Z : Law w X gt ug g c r k) : Law w (X.plus I) gt ug g c r k :=
  ⟨⟨⟨Z.z.cx.rt.plus, Z.z.cx.ok.plus, fun _ h => h, Z.z.cx.g1, Z.z.cx.g2, Z.z.cx.g3, Z.z.cx.wk⟩, Z.z.gk, Z.z.lo, Z.z.hc, Z.z.hN⟩, Z.gr, Z.cx, Z.gL, Z.VL⟩
theorem LV.inn (x : LV w X gt r ([I] ++ X.bad) c k h) (hI : ∃ o, h.get? I = some o) : LV w (X.plus I) gt r (X.plus I).bad c k h := by
  obtain ⟨v, a, b⟩ := x.less (bad := (X.plus I).bad) fun _ z => with_bad.mp z
  refine ⟨v, ⟨a.sub, a.ctr, a.exp, a.mv, a.tab, a.log, a.c4, a.c5, a.c6, a.c7, a.nl, fun y hy => ?_⟩, b⟩
  rcases List.mem_append.mp (with_bad.mp hy) with z | z
  · rw [List.mem_singleton.mp z]; exact hI
  · exact a.bx y z
theorem LV.out (x : LV w (X.plus I) gt r (X.plus I).bad c k h) : LV w X gt r ([I] ++ X.bad) c k h := by
  obtain ⟨v, a, b⟩ := x.less (bad := [I] ++ X.bad) fun _ z => with_bad.mpr z
  exact ⟨v, ⟨a.sub, a.ctr, a.exp, a.mv, a.tab, a.log, a.c4, a.c5, a.c6, a.c7, a.nl, fun y hy => a.bx y (bad_with hy)⟩, b⟩
theorem LV.stab1 (x : LV w X gt r ([I] ++ X.bad) c k h) (kk : Keeps [I] h h') (nb : I ∉ X.bad) (nr : r.get? I = none) : LV w X gt r ([I] ++ X.bad) c k h' := by
  have e : ∀ a ∈ [I], a = I := fun a ha => List.mem_singleton.mp ha
  exact x.keeps kk (fun a ha => List.mem_append_left _ ha) (fun a ha z => nb (e a ha ▸ vol_bad z)) (fun a ha z => nb (e a ha ▸ four_bad z)) (fun a ha => by rw [e a ha]; exact nr) (fun a ha z => absurd (e a ha ▸ z) nb)
end
section
variable {w : World} {A : Around} {E : Value → Shared → Prop} {s : Shared} {env : Env} {target iter : PySem.Expr} {body : List Stmt} {pos : Pos} {Q : Flow → Shared → Prop}
/-- a for loop over a range of any size -/
theorem for_R (hh : A.handled = none) (q : wpAny (model prog w) A (eval iter env) (fun v s₁ => ∃ r a b c u1 u2 u3 n h t, v = .ref r ∧ s₁ = stt s h t ∧ IsRange h r a b c u1 u2 u3 ∧ Builtin.Range.rangeSize a b c = ((n : Nat) : Int) ∧ (∀ it v, letOwnedTupleGo target it v = pure ()) ∧
      ForT w A s env target body n (fun i v => i < n ∧ ∃ t, v = .int (a + i * c) t) (fun _ => True) h Q) E s)
    (hs : ∀ x, foldedSetIterable iter env x = pure x := by intro _; rfl) :
    wpAny (model prog w) A (exec (.For target iter body [] pos) env) Q E s := by
  refine wpAny_For (wpAny_mono q (fun xv s₁ ⟨r, a, b, c, u1, u2, u3, n, h, t, e1, e2, hr, hn, ht, T⟩ => ?_) fun _ _ e => e) hs
  subst e1 e2
  cases hsm : Builtin.Range.small a b c with
  | true =>
    refine wpAny_pyIter_range hr hsm ?_
    obtain ⟨J, j0, stab, _, step, done⟩ := T h.objs.size (h.push { cls := .type "range_iterator", data := .fields #[rawInt a, rawInt (Builtin.Range.rangeSize a b c), rawInt c] }) (fun b o e _ => Heap.get?_push_of_some _ e) (fun b o e => Heap.lt_size e) ⟨_, Heap.get?_push_size _ rfl⟩
    refine for_core (s := s) (Q := Q) ((Walks.range hh h.objs.size a c n).bound) (fun i h st => ⟨_, st⟩) (by show IsRangeIter _ _ _ _ _; rw [hn]; simpa using Heap.get?_push_size _ rfl) j0 (fun _ _ z => z) (fun i v h t E Q' _ z => by rw [ht]; exact wpAny_pure z) stab (fun i i' h h' st _ e => e.trans st) step done
  | false =>
    refine wpAny_pyIter_longrange hr hsm ?_
    obtain ⟨J, j0, stab, _, step, done⟩ := T h.objs.size (h.push { cls := .type "longrange_iterator", data := .fields #[rawInt a, rawInt (Builtin.Range.rangeSize a b c), rawInt c] }) (fun b o e _ => Heap.get?_push_of_some _ e) (fun b o e => Heap.lt_size e) ⟨_, Heap.get?_push_size _ rfl⟩
    refine for_core (s := s) (Q := Q) ((Walks.longrange hh h.objs.size a c n).bound) (fun i h st => ⟨_, st⟩) (by show IsLongIter _ _ _ _ _; rw [hn]; simpa using Heap.get?_push_size _ rfl) j0 (fun _ _ z => z) (fun i v h t E Q' _ z => by rw [ht]; exact wpAny_pure z) stab (fun i i' h h' st _ e => e.trans st) step done
end
section
variable {w : World} {X : LA} {gt : Gt} {ug : Nat → Tok} {g : Heap} {c : Int} {r h h' h'' h₁ : Heap} {k : LK} {m m' : Str → Option Value} {A : Around} {s : Shared} {t : Nat} {E : Value → Shared → Prop} {I C D : Addr}
/-- if not shut: break -/
theorem t4 {Dh : Addr} {zs : List Value} {nh : Nat} {l : List Int} {Q : Flow → Shared → Prop} (F : Fr g X.L h m) (eh : m (Str.ofString "shut") = some (.ref Dh)) (hh : h.get? Dh = some (listO zs nh)) (iz : IntsAre zs l) (hz : l.length ≤ 3)
    (qb : l = [] → ∀ t', Q .brk (stt s h t')) (q : l ≠ [] → ∀ t', Q .next (stt s h t')) :
    wpAny (model prog w) A (exec (nthS tB 4) (lawE X.L)) Q E (stt s h t) := by
  show wpAny _ _ (exec (Stmt.If _ _ _ _) _) _ _ _
  have hlen := iz.length
  walk_at "bn"
  refine wpAny_truthy_list (s := stt s h _) (lo_list hh) (by rw [List.size_toArray]; omega) ?_
  cases zs with
  | nil =>
    have : l = [] := by cases iz; rfl
    rw [show (!(([] : List Value).toArray).isEmpty) = false from rfl]
    rw [show (!false) = true from rfl, if_pos rfl]
    refine wpAny_execs_cons ?_
    refine wpAny_Break ?_
    exact qb this _
  | cons z zs =>
    have hn : l ≠ [] := by rintro rfl; cases iz
    rw [show (!(z :: zs).toArray.isEmpty) = true by simp]
    rw [show (!true) = false from rfl, if_neg Bool.false_ne_true]
    refine wpAny_execs_nil ?_
    exact q hn _
end
end
section
set_option maxHeartbeats 1000000
def toldV (gt : Gt) (lg : List (Int × Int)) (c rst : Int) : Nat → Int | 0 => rst - 1 | 1 => mvS c gt.d (atsOf lg) + gt.d - 1 | _ => told3 gt lg c
section
variable {w : World} {X : LA} {gt : Gt} {ug : Nat → Tok} {g : Heap} {c : Int} {r h h' h'' h₁ : Heap} {k : LK} {m m' : Str → Option Value} {A : Around} {s : Shared} {t : Nat} {E : Value → Shared → Prop} {I C D : Addr}
theorem three {α : Type} {l : List α} (h : l.length = 3) : ∃ a b c, l = [a, b, c] := by
  match l, h with | [a, b, c], _ => exact ⟨a, b, c, rfl⟩
theorem IsTup.sub0 {value slice : PySem.Expr} {P : Addr} {a b : Value} {u : Tok} {Q : Value → Shared → Prop} (hT : IsTup h P #[a, b]) (q : Q a (stt s h t)) (hs : subscripted slice false (.ref P) (.int 0 u) = operate [.ref P, .int 0 u] (getItem (.ref P) (.int 0 u)) := by with_unfolding_all rfl) :
    wpAny (model prog w) A (subscriptTail value slice (.ref P) (.int 0 u)) Q E (stt s h t) := by
  refine tail_any (s := stt s h t) (T := "tuple") ⟨_, hT.choose_spec.1, hT.choose_spec.2.1⟩ slot_tuple_getitem.lookup ?_ hs
  exact getItem_tuple (s := stt s h t) (j := 0) (x := a) hT (by decide) (by decide) rfl rfl q
theorem IsTup.sub1 {value slice : PySem.Expr} {P : Addr} {a b : Value} {u : Tok} {Q : Value → Shared → Prop} (hT : IsTup h P #[a, b]) (q : Q b (stt s h t)) (hs : subscripted slice false (.ref P) (.int 1 u) = operate [.ref P, .int 1 u] (getItem (.ref P) (.int 1 u)) := by with_unfolding_all rfl) :
    wpAny (model prog w) A (subscriptTail value slice (.ref P) (.int 1 u)) Q E (stt s h t) := by
  refine tail_any (s := stt s h t) (T := "tuple") ⟨_, hT.choose_spec.1, hT.choose_spec.2.1⟩ slot_tuple_getitem.lookup ?_ hs
  exact getItem_tuple (s := stt s h t) (j := 1) (x := b) hT (by decide) (by decide) rfl rfl q
theorem IsTup.up {P : Addr} {vs : Array Value} (x : IsTup h P vs) (k : Keeps [] h h') : IsTup h' P vs := let ⟨o, a, b⟩ := x; ⟨o, k.all _ _ a, b⟩
/-- told = [...] -/
theorem t5 {Ds : Addr} {ys : List Value} {ns : Nat} {Q : Flow → Shared → Prop} (am : Amb A 7) (Z : Law w X gt ug g c r k) (x : LV w X gt r X.bad c k h) (F : Fr g X.L h m)
    (es : m (Str.ofString "stats") = some (.ref Ds)) (hs : h.get? Ds = some (listO ys ns)) (ly : ys.length = 3) (rows : ∀ j v, ys[j]? = some v → RowAt gt k.lg c X.bad h j v)
    (q : ∀ D n rst u1 u2 u3 h' t', (∀ kk, left1 gt k.lg c < kk → kk ≤ gt.a → rst = fOp gt k.lg + gt.b) → Fr g X.L h' m → LV w X gt r X.bad c { k with tv := some (.ref D) } h' → Keeps X.core h h' → D ∉ X.bad → h'.get? D = some (listO [.int (toldV gt k.lg c rst 0) u1, .int (toldV gt k.lg c rst 1) u2, .int (toldV gt k.lg c rst 2) u3] n) → Q .next (stt s h' t')) :
    wpAny (model prog w) A (exec (nthS tB 5) (lawE X.L)) Q E (stt s h t) := by
  obtain ⟨v0, v1, v2, rfl⟩ := three ly
  obtain ⟨y0, rfl, rst, _, _, W0, hr⟩ := rows 0 _ rfl
  obtain ⟨y1, rfl, _, _, W1⟩ := rows 1 _ rfl
  obtain ⟨y2, rfl, P, _, _, _, nP, hP, W2⟩ := rows 2 _ rfl
  have W0 := W0.ws
  have W1 := W1.ws
  have W2 := W2.ws
  have hden : 0 < ssDen (pcO gt k.lg c) ∧ ssDen (pcO gt k.lg c) < 1000000 := by
    have h1 := wsum_nonneg (f := gt.f) (q := c / gt.f - 1) Z.z.lo
    have h2 := wsum_le (f := gt.f) (q := c / gt.f - 1) Z.z.lo
    unfold ssDen pcO
    split <;> omega
  have cxh := Z.cx.keeps F.keep
  show wpAny _ _ (exec (Stmt.Assign [Expr.Name _ _] _ _) _) _ _ _
  walk_at "bn"
  refine sub_list (s := stt s h _) (lo_list hs) (by decide) (by decide) rfl ?_ (by with_unfolding_all rfl)
  refine ws_reset (s := s) (am.mono (by decide)) cxh W0 rfl fun h₁ t₁ k₁ => ?_
  have F₁ := fr_all F k₁.all
  walk_at "bn"
  refine sub_list (s := stt s h₁ _) (lo_list (k₁.all _ _ hs)) (by decide) (by decide) rfl ?_ (by with_unfolding_all rfl)
  refine ws_reset (s := s) (am.mono (by decide)) (cxh.keeps k₁.all) (W1.keeps k₁.all) rfl fun h₂ t₂ k₂ => ?_
  have k₂' := k₁.trans k₂
  have F₂ := fr_all F₁ k₂.all
  walk_at "bn"
  refine sub_list (s := stt s h₂ _) (lo_list (k₂'.all _ _ hs)) (by decide) (by decide) rfl ?_ (by with_unfolding_all rfl)
  refine ws_reset (s := s) (am.mono (by decide)) (cxh.keeps k₂'.all) (W2.keeps k₂'.all) rfl fun h₃ t₃ k₃ => ?_
  have k₃' := k₂'.trans k₃
  have F₃ := fr_all F₂ k₃.all
  walk_at "bn"
  refine IsTup.sub0 (s := s) (IsTup.up hP k₃') ?_
  walk_at "bn"
  refine sub_list (s := stt s h₃ _) (lo_list (k₃'.all _ _ hs)) (by decide) (by decide) rfl ?_ (by with_unfolding_all rfl)
  refine ws_reset (s := s) (am.mono (by decide)) (cxh.keeps k₃'.all) (W2.keeps k₃'.all) rfl fun h₄ t₄ k₄ => ?_
  have k₄' := k₃'.trans k₄
  have F₄ := fr_all F₃ k₄.all
  walk_at "bn"
  refine IsTup.sub1 (s := s) (IsTup.up hP k₄') ?_
  refine b_div (s := s) hden.1 hden.2 fun _ _ => ?_
  walk_at "bn"
  refine n_list (s := s) F₄ nilN (by show (3 : Nat) ≤ sizeLine; decide) fun D h₅ F₅ N₅ k₅ lD => ?_
  have k₅' := k₄'.trans k₅
  have x₅ := x.all k₅'
  have nD : D ∉ X.bad := fun z => by
    obtain ⟨o, e⟩ := x.bx _ z
    exact Nat.lt_irrefl _ (lD _ _ (k₄'.all _ _ e))
  refine s_cell (s := s) (c := X.L + 6) rfl x₅.cell6 fun h₆ c6 sb => ?_
  have nDL : D ≠ X.L + 6 := fun e => nD (e ▸ four_bad (by simp))
  exact q D _ rst _ _ _ h₆ _ hr (fr_cell Z F₅ sb (by decide)) (x₅.set6 Z.z.cx sb c6) ((k₅'.mono (by simp)).trans (cell_bad (by simp) sb)) nD (sb.extBut _ _ nDL (N₅.get (.head _)))
def shutN (gt : Gt) (lg : List (Int × Int)) (c cost : Int) : List Nat := (List.range 3).filter fun j => decide (leftN gt lg c j < cost)
theorem shutL_eq (gt : Gt) (lg : List (Int × Int)) (c cost : Int) : shutL gt lg c cost 3 = (shutN gt lg c cost).map fun (j : Nat) => (j : Int) := rfl
theorem shutN_mem {lg : List (Int × Int)} {cost : Int} {j : Nat} (h : j ∈ shutN gt lg c cost) : j < 3 ∧ leftN gt lg c j < cost := by
  unfold shutN at h
  rw [List.mem_filter] at h
  exact ⟨List.mem_range.mp h.1, of_decide_eq_true h.2⟩
theorem shutN_of {lg : List (Int × Int)} {cost : Int} {j : Nat} (h : j < 3) (e : leftN gt lg c j < cost) : j ∈ shutN gt lg c cost := List.mem_filter.mpr ⟨List.mem_range.mpr h, decide_eq_true e⟩
theorem shutN_len {lg : List (Int × Int)} {cost : Int} : (shutN gt lg c cost).length ≤ 3 := Nat.le_trans (List.length_filter_le _ _) (by rw [List.length_range]; exact Nat.le_refl _)
theorem shut_at {lg : List (Int × Int)} {cost : Int} {zs : List Value} {i : Nat} {v : Value} (iz : IntsAre zs (shutL gt lg c cost 3)) (hv : zs[i]? = some v) : ∃ j u, v = .int ((j : Nat) : Int) u ∧ (shutN gt lg c cost)[i]? = some j ∧ j < 3 := by
  obtain ⟨n, u, rfl, e⟩ := iz.at i v hv
  rw [shutL_eq, List.getElem?_map] at e
  obtain ⟨j, e1, rfl⟩ := Option.map_eq_some_iff.mp e
  exact ⟨j, u, rfl, e1, (shutN_mem (List.mem_of_getElem? e1)).1⟩
theorem told_at {lg : List (Int × Int)} {rst : Int} {u1 u2 u3 : Tok} {i : Nat} (hi : i < 3) : ∃ u, ([Value.int (toldV gt lg c rst 0) u1, .int (toldV gt lg c rst 1) u2, .int (toldV gt lg c rst 2) u3].toArray)[((i : Nat) : Int).toNat]? = some (.int (toldV gt lg c rst i) u) := by
  match i, hi with | 0, _ => exact ⟨_, rfl⟩ | 1, _ => exact ⟨_, rfl⟩ | 2, _ => exact ⟨_, rfl⟩
/-- still = max([told[k] for k in shut]) -/
theorem t6 {cost rst : Int} {Dt Dh : Addr} {zs : List Value} {nt nh : Nat} {u1 u2 u3 : Tok} {Q : Flow → Shared → Prop} (am : Amb A 7) (Z : Law w X gt ug g c r k) (x : LV w X gt r X.bad c k h) (F : Fr g X.L h m)
    (et : k.tv = some (.ref Dt)) (bt : Dt ∉ X.bad) (ht : h.get? Dt = some (listO [.int (toldV gt k.lg c rst 0) u1, .int (toldV gt k.lg c rst 1) u2, .int (toldV gt k.lg c rst 2) u3] nt))
    (eh : m (Str.ofString "shut") = some (.ref Dh)) (bh : Dh ∉ X.bad) (hh : h.get? Dh = some (listO zs nh)) (iz : IntsAre zs (shutL gt k.lg c cost 3)) (hne : shutN gt k.lg c cost ≠ [])
    (q : ∀ M u h' t', M ∈ (shutN gt k.lg c cost).map (toldV gt k.lg c rst) → (∀ a ∈ (shutN gt k.lg c cost).map (toldV gt k.lg c rst), a ≤ M) → Fr g X.L h' m → LV w X gt r X.bad c { k with sv := some (.int M u) } h' → Keeps X.core h h' → Q .next (stt s h' t')) :
    wpAny (model prog w) A (exec (nthS tB 6) (lawE X.L)) Q E (stt s h t) := by
  have lz : zs.length = (shutN gt k.lg c cost).length := by rw [iz.length, shutL_eq, List.length_map]
  have l3 := shutN_len (gt := gt) (lg := k.lg) (c := c) (cost := cost)
  show wpAny _ _ (exec (Stmt.Assign [Expr.Name _ _] _ _) _) _ _ _
  walk_at "bn"
  refine nm_b F Z.cx (by kernel_rfl) Boot.«max» (by decide) ?_
  walk_at "bn"
  refine comp_E (cl := [(Str.ofString "told", X.L + 6)]) (by with_unfolding_all rfl) am.hd (by decide) rfl (by decide) rfl ?_
  walk_at "bn"
  refine SrcK.list (s := stt s h t) (lo_list hh) (by rw [List.size_toArray, lz]; exact Nat.le_trans l3 (by decide)) ?_
  intro I C D h₁ kk lt ltD ltC eI eC eD
  have o := off3 Z x Keeps.refl lt ltD ltC
  refine ⟨fun i vs h' => BJ w X gt g r c k I C D h m h' ∧ IntsAre vs (((shutN gt k.lg c cost).take i).map (toldV gt k.lg c rst)), ⟨BJ.start F x kk o, .nil⟩, ?_, ?_, ?_, ?_⟩
  · rintro i vs h₂ h' ⟨b, hl⟩ kk
    exact ⟨b.stab o kk, hl⟩
  · rintro i vs h₂ ⟨b, _⟩
    exact lo_list (b.2.2 _ _ hh (nc bh))
  · rintro i v vs h₂ t₂ oC m₂ E' hi hv ⟨b, hl⟩ eI eD eC hC hm
    have hns := hC.ns eC
    obtain ⟨j, u, rfl, ej, hj⟩ := shut_at iz (i := i) (v := v) (by simpa using hv)
    have h6 : h₂.IsCell (X.L + 6) (some (.ref Dt)) := et ▸ b.2.1.cell6
    obtain ⟨ul, hul⟩ := told_at (gt := gt) (lg := k.lg) (c := c) (rst := rst) (u1 := u1) (u2 := u2) (u3 := u3) hj
    refine wpAny_tests_nil ?_
    refine Subscript_ ?_
    refine cn_c (c := X.L + 6) rfl h6 ?_
    refine cn_l (env := compEnvC _ _ C _) (s := stt s h₂ _) hns hm ?_
    refine sub_list (s := stt s h₂ _) (lo_list (b.2.2 _ _ ht (nc bt))) (by omega) (by omega) hul ?_ (by with_unfolding_all rfl)
    refine ⟨h₂, _, rfl, fun _ _ => rfl, b, ?_⟩
    rw [List.take_add_one, ej, List.map_append]
    exact IntsAre.snoc hl
  · rintro vs h₂ t₂ ⟨b, hi⟩ eD
    have x₂ := b.out
    have F₂ := b.1
    rw [List.take_of_length_le (by rw [List.size_toArray, lz]; exact Nat.le_refl _)] at hi
    walk_at "bn"
    refine w_maxL (s := s) am.hd (lo_list eD) hi (by rw [List.length_map]; exact List.length_pos_iff.mpr hne) fun M u h₃ t₃ hM hMa k₃ => ?_
    have x₃ := x₂.all k₃
    refine s_cell (s := s) (c := X.L + 7) rfl x₃.cell7 fun h₄ c7 sb => ?_
    exact q M u h₄ _ hM hMa (fr_cell Z (fr_all F₂ k₃.all) sb (by decide)) (x₃.set7 Z.z.cx sb c7) ((b.2.2.trans (k₃.mono (by simp))).trans (cell_bad (by simp) sb))
/-- if still < clock[0]: return False -/
theorem t7 {M : Int} {u : Tok} {Q : Flow → Shared → Prop} (Z : Law w X gt ug g c r k) (x : LV w X gt r X.bad c k h) (es : k.sv = some (.int M u)) (hM : c ≤ M) (q : ∀ t', Q .next (stt s h t')) :
    wpAny (model prog w) A (exec (nthS tB 7) (lawE X.L)) Q E (stt s h t) := by
  obtain ⟨uc, nc, eclk⟩ := clkList Z x
  have c8 := ofSub Z.z.cx.rt.c8 x.sub
  have c7 : h.IsCell (X.L + 7) (some (.int M u)) := es ▸ x.cell7
  show wpAny _ _ (exec (Stmt.If _ _ _ _) _) _ _ _
  walk_at "bn"
  refine sub_list (s := stt s h _) ⟨_, eclk, rfl, _, rfl⟩ (by decide) (by decide) (show (#[Value.int c uc] : Array Value)[Int.toNat 0]? = some (.int c uc) from rfl) ?_ (by with_unfolding_all rfl)
  walk_at "bn"
  rw [if_neg (by simpa using hM)]
  walk_at "bn"
  exact q _
/-- then = still + 1 + (still + 1) % 2 -/
theorem t8 {M : Int} {u : Tok} {Q : Flow → Shared → Prop} (hh : A.handled = none) (Z : Law w X gt ug g c r k) (x : LV w X gt r X.bad c k h) (F : Fr g X.L h m) (es : k.sv = some (.int M u))
    (q : ∀ u' h' t', Fr g X.L h' (fun y => if y = Str.ofString "then" then some (.int (M + 1 + (M + 1) % 2) u') else m y) → LV w X gt r X.bad c k h' → Keeps X.core h h' → Q .next (stt s h' t')) :
    wpAny (model prog w) A (exec (nthS tB 8) (lawE X.L)) Q E (stt s h t) := by
  have c7 : h.IsCell (X.L + 7) (some (.int M u)) := es ▸ x.cell7
  show wpAny _ _ (exec (Stmt.Assign [Expr.Name _ _] _ _) _) _ _ _
  walk_at "bn"
  refine b_mod (s := s) hh (by decide) fun _ _ => ?_
  walk_at "bn"
  refine s_loc (s := s) F nilN fun h₁ t₁ F₁ _ k₁ => ?_
  exact q _ h₁ _ F₁ (x.loc Z F₁ k₁) (loc_bad k₁)
end
end
section
set_option maxHeartbeats 1000000
/-- the root again, from a heap that turned -/
theorem reroot (r h' : Heap) : ∃ r' : Heap, (∀ a o, r.get? a = some o → r'.get? a = h'.get? a) ∧ (∀ a, r.get? a = none → r'.get? a = none) := by
  refine ⟨hideAll h' ((List.range h'.objs.size).filter fun a => (r.get? a).isNone), fun a o e => ?_, fun a e => ?_⟩
  · have ni : a ∉ (List.range h'.objs.size).filter fun a => (r.get? a).isNone := fun z => by
      have := (List.mem_filter.mp z).2
      rw [e] at this; cases this
    cases e' : h'.get? a with
    | some o' => exact hideAll_get _ e' ni
    | none =>
      cases e2 : (hideAll h' ((List.range h'.objs.size).filter fun a => (r.get? a).isNone)).get? a with
      | none => rfl
      | some o2 => have := of_hideAll _ e2; rw [e'] at this; cases this
  · by_cases hl : a < h'.objs.size
    · exact hideAll_none _ (List.mem_filter.mpr ⟨List.mem_range.mpr hl, by rw [e]; rfl⟩)
    · exact Heap.get?_none_of_le (by rw [hideAll_size]; exact Nat.not_lt.mp hl)
theorem t_dict : Value.type "dict" ≠ Value.type "list" := by decide
theorem t_fun : Value.type "function" ≠ Value.type "list" := by decide
theorem t_tup : Value.type "tuple" ≠ Value.type "list" := by decide
section
variable {w : World} {X : LA} {gt : Gt} {ug : Nat → Tok} {g : Heap} {c c' : Int} {r r' h h' h'' h₁ : Heap} {k : LK} {m m' : Str → Option Value} {A : Around} {s : Shared} {t : Nat} {E : Value → Shared → Prop} {I C D : Addr} {bad : List Addr} {v : VS}
def clkO (c : Int) (u : Tok) (n : Nat) : Obj := ⟨.type "list", none, .seq #[.int c u] n, #[]⟩
theorem Root.tick (x : Root w X gt ug c r) (cx : Cx w g) (gr : Sub g r) (gk : g.get? X.S.clk = none) (kk : Keeps [X.S.clk] r r') (no : ∀ a, r.get? a = none → r'.get? a = none) {u : Tok} {n : Nat} (hc : r'.get? X.S.clk = some (clkO c' u n)) : Root w X gt ug c' r' := by
  obtain ⟨uc, nc, ec⟩ := x.rt.st.clk
  -- what is no such list stays
  have st : ∀ {a o}, r.get? a = some o → (o.cls ≠ .type "list" ∨ ∀ u n, o.data ≠ .seq #[.int c u] n) → r'.get? a = some o := fun {a o} e nx => kk _ _ e fun z => by
    rw [List.mem_singleton.mp z, ec] at e
    cases e
    rcases nx with nx | nx
    · exact nx rfl
    · exact nx _ _ rfl
  have cls : ∀ {a o}, r.get? a = some o → o.cls ≠ .type "list" → r'.get? a = some o := fun e nx => st e (.inl nx)
  have cell : ∀ {a vv}, r.IsCell a vv → r'.IsCell a vv := fun ⟨o, e, d⟩ => ⟨o, st e (.inr fun u n z => by rw [d] at z; cases z), d⟩
  have lim : ∀ {a C}, Lim w X.S r a C → Lim w X.S r' a C := fun ⟨d, t, n, e, f⟩ => ⟨d, t, n, cls e (fun z => by cases z), cls f t_dict⟩
  have itm : ∀ {a p q}, Itm r a p q → Itm r' a p q := fun ⟨d, u1, u2, u3, e, f⟩ => ⟨d, u1, u2, u3, cls e (fun z => by cases z), cls f t_dict⟩
  have lst : ∀ {a its}, r.IsList a its → (∀ u, its ≠ #[.int c u]) → r'.IsList a its := fun {a its} ⟨o, e, d, n, f⟩ nx => ⟨o, st e (.inr fun u n z => by rw [f] at z; cases z; exact nx _ rfl), d, n, f⟩
  have cx' : Cx w r' := cx.keeps fun b o e => kk _ _ (gr _ _ e) fun z => by rw [List.mem_singleton.mp z] at e; rw [gk] at e; cases e
  have rt := x.rt
  have s0 := rt.st
  refine ⟨⟨cx', ⟨cls s0.self (fun z => by cases z), cls s0.dict t_dict, cls s0.lam t_fun, ?_, cls s0.cd t_dict, let ⟨o, a, b⟩ := s0.cell; ⟨o, st a (.inr fun u n z => by rw [b] at z; cases z), b⟩, ⟨u, n, hc⟩⟩, no _ rt.nC, no _ rt.nE, no _ rt.nV, no _ rt.nT, rt.sC, rt.sE, rt.sV, rt.dCE, rt.dCV, rt.dEV⟩,
    lim x.l1, lim x.l2, lim x.l3, itm x.i1, itm x.i2, itm x.i3, lst x.ll (fun u z => by cases z), lst x.li (fun u z => by cases z), let ⟨u, n, e⟩ := x.who; ⟨u, n, cls e t_tup⟩, lst x.gate (fun u z => by cases z), cell x.c1, cell x.c2, cell x.c3, cell x.c8, fun a ha => no _ (x.no a ha)⟩
  refine codeRec_keeps s0.code kk fun z => ?_
  obtain ⟨_, _, _, _, e, f, f2, _⟩ := s0.code
  cases e
  rw [List.mem_singleton.mp z, ec] at f
  cases f
  cases f2
theorem LV.tick (x : LV w X gt r bad c k h) (cx : Ctx w X gt ug c r bad) (gk : GtOk gt) (hcc : c ≤ c') (sb : Heap.SameBut X.S.clk h h') (hc : h'.get? X.S.clk = some o') (e1 : ∀ a o, r.get? a = some o → r'.get? a = h'.get? a) (e2 : ∀ a, r.get? a = none → r'.get? a = none) : LV w X gt r' bad c' k h' := by
  obtain ⟨v, a, b⟩ := x.later gk hcc
  have kk := Keeps.of_same sb
  have e : ∀ y ∈ [X.S.clk], y = X.S.clk := fun y hy => List.mem_singleton.mp hy
  have hcb : X.S.clk ∈ bad := cx.hb _ (by simp [LA.bad])
  have sub : ∀ y ∈ [X.S.clk], y ∈ bad := fun y hy => e y hy ▸ hcb
  have nv : ∀ y ∈ X.vol, y ∉ [X.S.clk] := fun y hy z => cx.ok.clk (List.mem_append_left _ (e y z ▸ hy))
  have n4 : ∀ y ∈ [X.L + 4, X.L + 5, X.L + 6, X.L + 7], y ∉ [X.S.clk] := fun y hy z => cx.ok.clk (List.mem_append_right _ (e y z ▸ scr4 hy))
  refine ⟨v, ⟨fun y oy ey => ?_, a.ctr.keeps kk (nv _ (by simp [LA.vol])), a.exp.keeps kk (nv _ (by simp [LA.vol])), a.mv.keeps kk sub (nv _ (by simp [LA.vol])), a.tab.keeps kk sub (nv _ (by simp [LA.vol])), a.log.keeps kk sub (nv _ (by simp [LA.vol])),
    IsCell.keepsK a.c4 kk (n4 _ (by simp)), IsCell.keepsK a.c5 kk (n4 _ (by simp)), IsCell.keepsK a.c6 kk (n4 _ (by simp)), IsCell.keepsK a.c7 kk (n4 _ (by simp)), fun l hl => e2 _ (a.nl l hl), fun y hy => ?_⟩, b⟩
  · cases hy : r.get? y with
    | none => rw [e2 _ hy] at ey; cases ey
    | some o => rw [← e1 _ _ hy]; exact ey
  · by_cases hm : y = X.S.clk
    · exact ⟨_, hm ▸ hc⟩
    · obtain ⟨o, ho⟩ := a.bx y hy
      exact ⟨o, kk _ _ ho fun z => hm (e y z)⟩
/-- clock[0] = c' -/
theorem tick {u : Tok} {Q : Unit → Shared → Prop} {i : Tok} (Z : Law w X gt ug g c r k) (gk : g.get? X.S.clk = none) (x : LV w X gt r X.bad c k h) (F : Fr g X.L h m) (hcc : c ≤ c') (wk : WK (keyOf gt.e gt.f) gt.f c')
    (q : ∀ r' h', (∀ a, r.get? a = none → r'.get? a = none) → Law w X gt ug g c' r' k → LV w X gt r' X.bad c' k h' → Fr g X.L h' m → Keeps X.core h h' → Q () (stt s h' t)) :
    wpAny (model prog w) A (setItem (.ref X.S.clk) (.int 0 i) (.int c' u)) Q E (stt s h t) := by
  obtain ⟨uc, nc, eclk⟩ := clkList Z x
  refine ki_setAt (s := stt s h t) (n := nc) (items := #[.int c uc]) eclk (by decide) (by decide) (by show (0 : Int) < ((1 : Nat) : Int); decide) ?_
  have sb := Heap.SameBut.update h X.S.clk (Obj.mapSeq fun x => x.setIfInBounds (Int.toNat 0) (.int c' u))
  have e3 := Heap.get?_update_self (Obj.mapSeq fun x => x.setIfInBounds (Int.toNat 0) (.int c' u)) eclk rfl
  generalize h.update X.S.clk (Obj.mapSeq fun x => x.setIfInBounds (Int.toNat 0) (.int c' u)) = h' at sb e3
  have e4 : ∃ n', h'.get? X.S.clk = some (clkO c' u n') := ⟨_, e3⟩
  obtain ⟨n', e4⟩ := e4
  obtain ⟨r', f1, f2⟩ := reroot r h'
  have Zz := Z.z
  have ok := Zz.cx.ok
  have kr : Keeps [X.S.clk] r r' := fun b o e nb => by rw [f1 _ _ e]; exact Keeps.of_same sb _ _ (x.sub _ _ e) nb
  obtain ⟨u0, n0, er⟩ := Zz.cx.rt.rt.st.clk
  have R' : Root w X gt ug c' r' := Zz.cx.rt.tick Z.cx Z.gr gk kr f2 (u := u) (n := n') (by rw [f1 _ _ er]; exact e4)
  have clkb : X.S.clk ∈ X.bad := by simp [LA.bad]
  have nL : X.L ∉ [X.S.clk] := fun z => ok.clk (List.mem_append_right _ (by rw [← List.mem_singleton.mp z]; simp [LA.scr]))
  refine q r' h' f2 ⟨⟨⟨R', ok, fun _ z => z, Zz.cx.g1, Zz.cx.g2, Zz.cx.g3, wk⟩, Zz.gk, Zz.lo.later hcc, by have := Zz.hc; omega, Zz.hN⟩, fun b o e => kr _ _ (Z.gr _ _ e) fun z => ?_, Z.cx, Z.gL, Z.VL⟩ (x.tick Zz.cx Zz.gk hcc sb e4 f1 f2) (fr_after F (Keeps.of_same sb) nL fun a ha => by rw [List.mem_singleton.mp ha]; exact gk) ((Keeps.of_same sb).mono fun a ha => by rw [List.mem_singleton.mp ha]; exact clk_core)
  rw [List.mem_singleton.mp z, gk] at e; cases e
end
end
section
set_option maxHeartbeats 1000000
section
variable {w : World} {X : LA} {gt : Gt} {ug : Nat → Tok} {g : Heap} {c c' : Int} {r r' h h' h'' h₁ : Heap} {k : LK} {m m' : Str → Option Value} {A : Around} {s : Shared} {t : Nat} {E : Value → Shared → Prop} {I C D : Addr} {bad : List Addr} {v : VS}
/-- a shut limit stays shut through its told moment -/
theorem still_shut {lg : List (Int × Int)} {cost rst mo : Int} {j : Nat} (gk : GtOk gt) (lo : LogOk c lg) (h2 : cost ≤ 2) (hr : ∀ kk, left1 gt lg c < kk → kk ≤ gt.a → rst = fOp gt lg + gt.b) (hj : j ∈ shutN gt lg c cost) (hm : c ≤ mo) (ht : mo ≤ toldV gt lg c rst j) : leftN gt lg mo j < cost := by
  obtain ⟨j3, hs⟩ := shutN_mem hj
  have a2 := gk.a2
  have c2 := gk.c2
  have e2 := gk.e2
  match j, j3, hs, ht with
  | 0, _, hs, ht => exact shut1 lo hm hs (by omega) (by rw [← hr _ hs (by omega)]; exact ht)
  | 1, _, hs, ht => exact shut2 lo hm hs (by omega) ht
  | 2, _, hs, ht => exact shut3 gk lo hm hs (by omega) ht
theorem told_ge {lg : List (Int × Int)} {cost rst : Int} {j : Nat} (gk : GtOk gt) (lo : LogOk c lg) (h2 : cost ≤ 2) (hr : ∀ kk, left1 gt lg c < kk → kk ≤ gt.a → rst = fOp gt lg + gt.b) (hj : j ∈ shutN gt lg c cost) : c ≤ toldV gt lg c rst j := by
  obtain ⟨j3, hs⟩ := shutN_mem hj
  have a2 := gk.a2
  have c2 := gk.c2
  match j, j3, hs with
  | 0, _, hs => have := (told1 hs (by omega)).1; have e := hr _ hs (by omega); show c ≤ rst - 1; omega
  | 1, _, hs => obtain ⟨_, _, a, _, e, h⟩ := told2 lo hs (show cost ≤ gt.c by omega); show c ≤ mvS c gt.d (atsOf lg) + gt.d - 1; omega
  | 2, _, hs => exact told3_ge gk lo
/-- what told can reach -/
theorem clkName (Z : Law w X gt ug g c r k) (x : LV w X gt r bad c k h) : h.IsCell (X.L + 8) (some (.ref X.S.clk)) := ofSub Z.z.cx.rt.c8 x.sub
theorem range2 {a b : Int} : ∃ n : Nat, Builtin.Range.rangeSize a b 2 = ((n : Nat) : Int) ∧ ∀ i : Nat, i < n → a + (i : Int) * 2 < b := by
  refine ⟨(Builtin.Range.rangeSize a b 2).toNat, ?_, fun i hi => ?_⟩
  all_goals unfold Builtin.Range.rangeSize at *
  all_goals rw [if_pos (by decide)] at *
  all_goals by_cases h : a < b
  · rw [if_pos h]; omega
  · rw [if_neg h]; rfl
  · rw [if_pos h] at hi; omega
  · rw [if_neg h] at hi; simp at hi
/-- no moment up to then lets the cost in -/
theorem t9 {cost M : Int} {uc ut : Tok} {Q : Flow → Shared → Prop} (am : Amb A 7) (Z : Law w X gt ug g c r k) (x : LV w X gt r X.bad c k h) (F : Fr g X.L h m) (ec : k.cv = some (.int cost uc))
    (mg : m (Str.ofString "gate") = some (.ref X.G)) (ml : m (Str.ofString "log") = some (.ref X.Lg)) (mt : m (Str.ofString "then") = some (.int (M + 1 + (M + 1) % 2) ut)) (hev : c % 2 = 0)
    (hsh : ∀ mo, c ≤ mo → mo ≤ M → ∃ a ∈ lefts gt k.lg mo, a < cost)
    (q : ∀ m' h' t', (∀ y, y ≠ Str.ofString "moment" → m' y = m y) → Fr g X.L h' m' → LV w X gt r X.bad c k h' → Keeps X.core h h' → Q .next (stt s h' t')) :
    wpAny (model prog w) A (exec (nthS tB 9) (lawE X.L)) Q E (stt s h t) := by
  obtain ⟨uk, nk, eclk⟩ := clkList Z x
  have c8 := clkName Z x
  show wpAny _ _ (exec (Stmt.For _ _ _ [] _) _) _ _ _
  refine for_R (s := stt s h t) am.hd ?_
  walk_at "bn"
  refine nm_b F Z.cx (by kernel_rfl) Boot.«range» (by decide) ?_
  walk_at "bn"
  refine sub_list (s := stt s h _) ⟨_, eclk, rfl, _, rfl⟩ (by decide) (by decide) (show (#[Value.int c uk] : Array Value)[Int.toNat 0]? = some (.int c uk) from rfl) ?_ (by with_unfolding_all rfl)
  walk_at "bn"
  refine call_range_3 (s := stt s h _) (by decide) ?_ (.inl (PyProof.noPylong_small (by decide)))
  obtain ⟨n, hn, hlt⟩ := range2 (a := c + 2) (b := M + 1 + (M + 1) % 2)
  refine ⟨_, _, _, _, _, _, _, n, _, _, rfl, rfl, IsRange.new .., hn, fun _ _ => rfl, ?_⟩
  intro I h₁ k₁ ltI eI
  have ltI' : ∀ b o, h.get? b = some o → b < I := fun b o e => ltI _ _ (Heap.get?_push_of_some _ e)
  have k0 : Keeps [] h h₁ := fun b o e _ => k₁.all _ _ (Heap.get?_push_of_some _ e)
  have nI : h.get? I = none := by
    cases e : h.get? I with
    | none => rfl
    | some o => exact absurd (ltI' _ _ e) (Nat.lt_irrefl _)
  have nb : I ∉ X.bad := fun z => by obtain ⟨o, e⟩ := x.bx _ z; rw [nI] at e; cases e
  have nr : r.get? I = none := TT.none_of x.sub nI
  have ng : g.get? I = none := TT.none_of Z.gr nr
  have e1 : ∀ a ∈ [I], a = I := fun a ha => List.mem_singleton.mp ha
  have LI : X.L ≠ I := fun e => nb (e ▸ L_bad)
  refine ⟨fun i h' => ∃ m', (∀ y, y ≠ Str.ofString "moment" → m' y = m y) ∧ Fr g X.L h' m' ∧ LV w X gt r ([I] ++ X.bad) c k h' ∧ Keeps X.core h h', ⟨m, fun _ _ => rfl, fr_all F k0.all, x.more (new := [I]) (fun a ha => by rw [e1 a ha]; exact nI) k0, k0.mono (by simp)⟩, ?_, fun _ _ _ => trivial, ?_, ?_⟩
  · rintro i h₂ h' ⟨m', em, F', x', kb⟩ kk
    refine ⟨m', em, fr_after F' kk (fun z => LI (e1 _ z)) (fun a ha => by rw [e1 a ha]; exact ng), x'.stab1 kk nb nr, fun b o e hb => kk _ _ (kb _ _ e hb) fun z => ?_⟩
    rw [e1 _ z, nI] at e; cases e
  · rintro i v h₂ t₂ E' hi ⟨hi', tk, rfl⟩ ⟨m', em, F', x', kb⟩ eI
    have x₂ := x'.inn eI
    have Z' : Law w (X.plus I) gt ug g c r k := Z.plus
    refine wpAny_assign_Name ?_
    refine s_loc (s := s) F' nilN fun h₃ t₃ F₃ _ k₃ => ?_
    have x₃ := LV.loc Z' x₂ F₃ k₃
    have mg₃ : (fun y => if y = Str.ofString "moment" then some (Value.int (c + 2 + (i : Int) * 2) tk) else m' y) (Str.ofString "gate") = some (.ref X.G) := (em _ (by decide)).trans mg
    have ml₃ : (fun y => if y = Str.ofString "moment" then some (Value.int (c + 2 + (i : Int) * 2) tk) else m' y) (Str.ofString "log") = some (.ref X.Lg) := (em _ (by decide)).trans ml
    refine wpAny_execs_cons ?_
    show wpAny _ _ (exec (Stmt.If _ _ _ _) _) _ _ _
    walk_at "bn"
    refine nm_b F₃ Z.cx (by kernel_rfl) Boot.«min» (by decide) ?_
    walk_at "bn"
    refine nm_g F₃ Z.cx (gn_ll _) ?_
    refine callWith_D (w := w) (kp_ll _) ?_
    walk_at "bn"
    refine ⟨Fr.cx F₃ Z.cx, ?_⟩
    refine left_call (s := s) (X := X.plus I) (am.mono (by decide)) Z' x₃ fun D n' u1 u2 u3 h₄ t₄ x₄ k₄ nD hD eD => ?_
    have F₄ := fr_all F₃ k₄.all
    walk_at "bn"
    refine w_minL (s := s) (ns := lefts gt k.lg (c + 2 + (i : Int) * 2)) am.hd (lo_list eD) (.cons _ _ (.cons _ _ (.cons _ _ .nil))) (by show (0 : Nat) < 3; decide) fun M' u h₅ t₅ hM' hmin k₅ => ?_
    have x₅ := x₄.all k₅
    have F₅ := fr_all F₄ k₅.all
    have c4 : h₅.IsCell (X.L + 4) (some (.int cost uc)) := ec ▸ x₅.cell4
    walk_at "bn"
    have hl := hlt i hi'
    obtain ⟨a, ha, hac⟩ := hsh (c + 2 + (i : Int) * 2) (by omega) (by omega)
    have := hmin a ha
    rw [if_neg (by simp; omega)]
    walk_at "bn"
    have kI : h₅.get? I = h₂.get? I := by
      obtain ⟨o, e⟩ := eI
      rw [e]
      exact k₅.all _ _ (k₄.all _ _ (k₃ _ _ e fun z => LI (List.mem_singleton.mp z).symm))
    refine ⟨h₅, _, rfl, kI, _, fun y hy => ?_, F₅, x₅.out, ((kb.trans (loc_bad k₃)).trans (k₄.mono (by simp))).trans (k₅.mono (by simp))⟩
    rw [if_neg hy]
    exact em y hy
  · rintro h₂ t₂ ⟨m', em, F', x', kb⟩
    exact q m' h₂ t₂ em F' (x'.less fun _ z => List.mem_append_right _ z) kb
end
end
section
set_option maxHeartbeats 1000000
theorem dig_len {q : Int} (h0 : 0 ≤ q) (h1 : q < 10 ^ 40) : (Str.ofString (toString q)).length ≤ 40 := by
  obtain ⟨n, rfl⟩ := Int.eq_ofNat_of_zero_le h0
  have hn : n < 10 ^ 40 := by exact_mod_cast h1
  show (Str.ofString (toString (n : Int))).cps.size ≤ 40
  rw [← Array.length_toList, KIN.signs_num, List.length_map]
  exact (Nat.length_toDigits_le_iff (by decide) (by decide)).mpr hn
theorem wkey_len (key : Str) (q : Int) : (winKey key q).length = key.length + 1 + (Str.ofString (toString q)).length := by
  unfold winKey
  rw [Str.length_append, Str.length_append, Str.length_append, show (Str.ofString "/").length = 1 by decide, show Str.empty.length = 0 by decide, Nat.zero_add]
theorem log2_small {q : Int} (h0 : 0 ≤ q) (h1 : q < 10 ^ 40) : q.natAbs.log2 < 1920 := by
  obtain ⟨n, rfl⟩ := Int.eq_ofNat_of_zero_le h0
  have hn : n < 10 ^ 40 := by exact_mod_cast h1
  show n.log2 < 1920
  by_cases hz : n = 0
  · rw [hz]; decide
  · exact (Nat.log2_lt hz).mpr (Nat.lt_of_lt_of_le hn (by decide +kernel))
theorem kof_len {a p : Int} (h : 2 ≤ a) (h' : a ≤ 5) (hp : 3 ≤ p) (hp' : p ≤ 9) : (keyOf a p).length ≤ 1000 := by
  obtain rfl | rfl | rfl | rfl : a = 2 ∨ a = 3 ∨ a = 4 ∨ a = 5 := by omega
  all_goals obtain rfl | rfl | rfl | rfl | rfl | rfl | rfl : p = 3 ∨ p = 4 ∨ p = 5 ∨ p = 6 ∨ p = 7 ∨ p = 8 ∨ p = 9 := by omega
  all_goals decide +kernel
theorem num_len {a : Int} (h : 2 ≤ a) (h' : a ≤ 9) : (Str.ofString (toString a)).length ≤ 10 := by
  obtain rfl | rfl | rfl | rfl | rfl | rfl | rfl | rfl : a = 2 ∨ a = 3 ∨ a = 4 ∨ a = 5 ∨ a = 6 ∨ a = 7 ∨ a = 8 ∨ a = 9 := by omega
  all_goals decide +kernel
theorem gi_of {a p : Int} (h : 2 ≤ a) (h' : a ≤ 5) (hp : 3 ≤ p) (hp' : p ≤ 9) : GI a p :=
  ⟨log2_small (by omega) (by omega), log2_small (by omega) (by omega), num_len h (by omega), num_len (by omega) hp', kof_len h h' hp hp'⟩
theorem wk_of {g : Gt} {c : Int} (ok : GtOk g) (h : 20 ≤ c) (h' : c < 10 ^ 39) : WK (keyOf g.e g.f) g.f c := by
  have e2 := ok.e2
  have e5 := ok.e5
  have f3 := ok.f3
  have f9 := ok.f9
  have kl := kof_len e2 e5 f3 f9
  have d0 : ∀ x : Int, 0 ≤ x → x < 10 ^ 39 → 0 ≤ x / g.f ∧ x / g.f < 10 ^ 40 := fun x h0 h1 => ⟨Int.ediv_nonneg h0 (by omega), by
    have := Int.ediv_le_self g.f h0
    omega⟩
  obtain ⟨a1, a2⟩ := d0 (c - g.f) (by omega) (by omega)
  obtain ⟨b1, b2⟩ := d0 c (by omega) h'
  exact ⟨kl, by omega, by omega, by omega, log2_small a1 a2, log2_small b1 b2, by have := dig_len a1 a2; rw [wkey_len]; omega, by have := dig_len b1 b2; rw [wkey_len]; omega⟩
end
section
set_option maxHeartbeats 1000000
section
variable {w : World} {X : LA} {gt : Gt} {ug : Nat → Tok} {g : Heap} {c c' : Int} {r r' h h' h'' h₁ : Heap} {k : LK} {m m' : Str → Option Value} {A : Around} {s : Shared} {t : Nat} {E : Value → Shared → Prop} {I C D : Addr} {bad : List Addr} {v : VS}
/-- clock[0] = still -/
theorem t10 {M : Int} {u : Tok} {Q : Flow → Shared → Prop} (Z : Law w X gt ug g c r k) (gk : g.get? X.S.clk = none) (x : LV w X gt r X.bad c k h) (F : Fr g X.L h m) (es : k.sv = some (.int M u)) (hcc : c ≤ M) (hM : M < 10 ^ 39)
    (q : ∀ r' h' t', (∀ a, r.get? a = none → r'.get? a = none) → Law w X gt ug g M r' k → LV w X gt r' X.bad M k h' → Fr g X.L h' m → Keeps X.core h h' → Q .next (stt s h' t')) :
    wpAny (model prog w) A (exec (nthS tB 10) (lawE X.L)) Q E (stt s h t) := by
  have c8 := clkName Z x
  have c7 : h.IsCell (X.L + 7) (some (.int M u)) := es ▸ x.cell7
  show wpAny _ _ (exec (Stmt.Assign [Expr.Subscript _ _ _] _ _) _) _ _ _
  refine wpAny_Assign_Subscript ?_
  walk_at "bn"
  exact tick (s := s) Z gk x F hcc (wk_of Z.z.gk (by have := Z.z.hc; omega) hM) fun r' h' n1 Z' x' F' kk => q r' h' _ n1 Z' x' F' kk
/-- clock[0] = then -/
theorem t12 {M : Int} {u : Tok} {Q : Flow → Shared → Prop} (Z : Law w X gt ug g c r k) (gk : g.get? X.S.clk = none) (x : LV w X gt r X.bad c k h) (F : Fr g X.L h m) (es : m (Str.ofString "then") = some (.int M u)) (hcc : c ≤ M) (hM : M < 10 ^ 39)
    (q : ∀ r' h' t', (∀ a, r.get? a = none → r'.get? a = none) → Law w X gt ug g M r' k → LV w X gt r' X.bad M k h' → Fr g X.L h' m → Keeps X.core h h' → Q .next (stt s h' t')) :
    wpAny (model prog w) A (exec (nthS tB 12) (lawE X.L)) Q E (stt s h t) := by
  have c8 := clkName Z x
  show wpAny _ _ (exec (Stmt.Assign [Expr.Subscript _ _ _] _ _) _) _ _ _
  refine wpAny_Assign_Subscript ?_
  walk_at "bn"
  exact tick (s := s) Z gk x F hcc (wk_of Z.z.gk (by have := Z.z.hc; omega) hM) fun r' h' n1 Z' x' F' kk => q r' h' _ n1 Z' x' F' kk
/-- at the told moment no test lets -/
theorem t11 {c₀ cost rst : Int} {uc ut : Tok} {Dt Dh : Addr} {zs : List Value} {nt nh : Nat} {u1 u2 u3 : Tok} {Q : Flow → Shared → Prop} (am : Amb A 7) (Z : Law w X gt ug g c r k) (eF : k.lF = k.lg) (eM : k.lM = k.lg) (eS : k.lS = k.lg) (x : LV w X gt r X.bad c k h) (F : Fr g X.L h m) (ec : k.cv = some (.int cost uc)) (es : k.sv = some (.int c ut))
    (et : k.tv = some (.ref Dt)) (bt : Dt ∉ X.bad) (ht : h.get? Dt = some (listO [.int (toldV gt k.lg c₀ rst 0) u1, .int (toldV gt k.lg c₀ rst 1) u2, .int (toldV gt k.lg c₀ rst 2) u3] nt))
    (eh : m (Str.ofString "shut") = some (.ref Dh)) (bh : Dh ∉ X.bad) (hh : h.get? Dh = some (listO zs nh)) (iz : IntsAre zs (shutL gt k.lg c₀ cost 3))
    (hno : ∀ j ∈ shutN gt k.lg c₀ cost, toldV gt k.lg c₀ rst j = c → leftN gt k.lg c j < cost)
    (q : ∀ h' t', Fr g X.L h' m → LV w X gt r X.bad c k h' → Keeps X.core h h' → Q .next (stt s h' t')) :
    wpAny (model prog w) A (exec (nthS tB 11) (lawE X.L)) Q E (stt s h t) := by
  have lz : zs.length = (shutN gt k.lg c₀ cost).length := by rw [iz.length, shutL_eq, List.length_map]
  have l3 := shutN_len (gt := gt) (lg := k.lg) (c := c₀) (cost := cost)
  show wpAny _ _ (exec (Stmt.If _ _ _ _) _) _ _ _
  walk_at "bn"
  refine comp_E (cl := [(Str.ofString "who", X.L + 3), (Str.ofString "told", X.L + 6), (Str.ofString "still", X.L + 7), (Str.ofString "limiters", X.L + 1), (Str.ofString "items", X.L + 2), (Str.ofString "cost", X.L + 4)]) (by with_unfolding_all rfl) am.hd (by decide) rfl (by decide) rfl ?_
  walk_at "bn"
  refine SrcK.list (s := stt s h t) (lo_list hh) (by rw [List.size_toArray, lz]; exact Nat.le_trans l3 (by decide)) ?_
  intro I C D h₁ kk lt ltD ltC eI eC eD
  have o := off3 Z x Keeps.refl lt ltD ltC
  refine ⟨fun i vs h' => BJ w X gt g r c k I C D h m h' ∧ ∀ v ∈ vs, v = .bool false, ⟨BJ.start F x kk o, fun _ z => nomatch z⟩, ?_, ?_, ?_, ?_⟩
  · rintro i vs h₂ h' ⟨b, hl⟩ kk
    exact ⟨b.stab o kk, hl⟩
  · rintro i vs h₂ ⟨b, _⟩
    exact lo_list (b.2.2 _ _ hh (nc bh))
  · rintro i v vs h₂ t₂ oC m₂ E' hi hv ⟨b, hl⟩ eI eD eC hC hm
    have hns := hC.ns eC
    have hx := exBad b.2.1 eI eC eD
    have rt := Z.z.cx.rt
    obtain ⟨j, u, rfl, ej, hj⟩ := shut_at iz (i := i) (v := v) (by simpa using hv)
    have h6 : h₂.IsCell (X.L + 6) (some (.ref Dt)) := et ▸ b.2.1.cell6
    have h7 : h₂.IsCell (X.L + 7) (some (.int c ut)) := es ▸ b.2.1.cell7
    obtain ⟨ul, hul⟩ := told_at (gt := gt) (lg := k.lg) (c := c₀) (rst := rst) (u1 := u1) (u2 := u2) (u3 := u3) hj
    refine wpAny_tests_one ?_
    refine wpAny_isTrue_Compare1 ?_
    refine Subscript_ ?_
    refine cn_c (c := X.L + 6) rfl h6 ?_
    refine cn_l (env := compEnvC _ _ C _) (s := stt s h₂ _) hns hm ?_
    refine sub_list (s := stt s h₂ _) (lo_list (b.2.2 _ _ ht (nc bt))) (by omega) (by omega) hul ?_ (by with_unfolding_all rfl)
    refine cn_c (c := X.L + 7) rfl h7 ?_
    refine P.eq_int ?_
    refine wpAny_truthy_bool ?_
    by_cases hd : toldV gt k.lg c₀ rst j = c
    · have hlt := hno j (List.mem_of_getElem? ej) hd
      rw [if_pos (by simpa using hd)]
      refine methodCall_KW ?_
      refine lm_call3 (s := s) (u := u) (i := j) (cost := cost) (uc := uc) (m_ts w) hj b.1 Z.cx b.2.1.sub rt (cnName (env := compEnvC _ _ C _) rfl (ofSub rt.c1 b.2.1.sub)) (fun p => clName (env := compEnvC _ _ C _) hns hm) (cnName (env := compEnvC _ _ C _) rfl (ofSub rt.c2 b.2.1.sub)) (cnName (env := compEnvC _ _ C _) rfl (ofSub rt.c3 b.2.1.sub)) (fun p => cnName (env := compEnvC _ _ C _) rfl (ec ▸ b.2.1.cell4)) fun t' => ?_
      refine c_tsN (s := s) Z.sit3 hx eF eM eS b.2.1 am fun as h' t' x' kk hva => ?_
      rw [decide_eq_false (by omega)]
      refine ⟨h', t', rfl, same3 o kk hva (ex3 eI eC eD), b.call Z o kk hva x', fun v hv => ?_⟩
      rcases List.mem_append.mp hv with hv | hv
      · exact hl v hv
      · exact List.mem_singleton.mp hv
    · rw [if_neg (by simpa using hd)]
      exact ⟨h₂, _, rfl, fun _ _ => rfl, b, hl⟩
  · rintro vs h₂ t₂ ⟨b, hi⟩ eD
    refine SeqAt.in_listAt (s := stt s h₂ t₂) (fun _ => false) (lo_list eD) (fun y hy => ?_) ?_
    · rw [hi y (by simpa using hy)]
      exact SeqAt.EqAt.bool_bool false true
    · rw [show (vs.toArray.any fun _ => false) = false by simp]
      walk_at "bn"
      rw [if_neg Bool.false_ne_true]
      walk_at "bn"
      exact q h₂ _ b.1 b.out b.2.2
end
end
section
set_option maxHeartbeats 2000000
/-- the law between two statements -/
def St (w : World) (X : LA) (gt : Gt) (ug : Nat → Tok) (g : Heap) (no bad : List Addr) (lg : List (Int × Int)) (N : Nat) (cv : Option Value) (c : Int) (h : Heap) : Prop :=
  ∃ r k m, Law w X gt ug g c r k ∧ LV w X gt r bad c k h ∧ Fr g X.L h m ∧ k.lg = lg ∧ k.lF = lg ∧ k.lM = lg ∧ k.lS = lg ∧ k.N = N ∧ k.cv = cv ∧ m (Str.ofString "gate") = some (.ref X.G) ∧ m (Str.ofString "log") = some (.ref X.Lg) ∧ ∀ a ∈ no, r.get? a = none
section
variable {w : World} {X : LA} {gt : Gt} {ug : Nat → Tok} {g : Heap} {c c' : Int} {r r' h h' h'' h₁ : Heap} {k k' : LK} {m m' : Str → Option Value} {A : Around} {s : Shared} {t : Nat} {E : Value → Shared → Prop} {I C D : Addr} {bad : List Addr} {v : VS}
theorem Law.re (Z : Law w X gt ug g c r k) (e1 : k'.lg = k.lg) (e2 : k'.N = k.N) : Law w X gt ug g c r k' :=
  ⟨⟨Z.z.cx, Z.z.gk, by rw [e1]; exact Z.z.lo, Z.z.hc, by rw [e2]; exact Z.z.hN⟩, Z.gr, Z.cx, Z.gL, Z.VL⟩
theorem Law.minus (Z : Law w (X.plus I) gt ug g c r k) : Law w X gt ug g c r k :=
  ⟨⟨⟨⟨Z.z.cx.rt.rt, Z.z.cx.rt.l1, Z.z.cx.rt.l2, Z.z.cx.rt.l3, Z.z.cx.rt.i1, Z.z.cx.rt.i2, Z.z.cx.rt.i3, Z.z.cx.rt.ll, Z.z.cx.rt.li, Z.z.cx.rt.who, Z.z.cx.rt.gate, Z.z.cx.rt.c1, Z.z.cx.rt.c2, Z.z.cx.rt.c3, Z.z.cx.rt.c8, Z.z.cx.rt.no⟩, ⟨Z.z.cx.ok.nV, Z.z.cx.ok.nC, Z.z.cx.ok.nE, Z.z.cx.ok.nG, Z.z.cx.ok.CE, Z.z.cx.ok.CV, Z.z.cx.ok.EV, Z.z.cx.ok.ap, Z.z.cx.ok.clk⟩, fun _ h => h, Z.z.cx.g1, Z.z.cx.g2, Z.z.cx.g3, Z.z.cx.wk⟩, Z.z.gk, Z.z.lo, Z.z.hc, Z.z.hN⟩, Z.gr, Z.cx, Z.gL, Z.VL⟩
/-- what stays through a statement -/
theorem keep1 {a : Addr} {o : Obj} (kk : Keeps X.core h h') (nb : a ∉ X.bad) (e : h.get? a = some o) : h'.get? a = some o := kk _ _ e (nc nb)
theorem free_all {lg : List (Int × Int)} {cost : Int} (gk : GtOk gt) (lo : LogOk c lg) (h2 : cost ≤ 2) (h : ∀ p ∈ lg, p.1 + 18 ≤ c) : shutN gt lg c cost = [] := by
  have e1 := free1 gk h
  have e2 := free2 gk h
  have e3 := free3 gk lo h
  have := gk.a2
  have := gk.c2
  have := gk.e2
  unfold shutN
  rw [List.filter_eq_nil_iff]
  intro j hj
  have hj := List.mem_range.mp hj
  match j, hj with
  | 0, _ => simp [leftN, e1]; omega
  | 1, _ => simp [leftN, e2]; omega
  | 2, _ => simp [leftN, e3]; omega
theorem still_lt {lg : List (Int × Int)} {cost M : Int} {j : Nat} (gk : GtOk gt) (lo : LogOk c lg) (hcM : c ≤ M) (h2 : cost ≤ 2) (hj : j < 3) (hs : leftN gt lg M j < cost) : M < c + 18 := by
  by_cases h : ∀ p ∈ lg, p.1 + 18 ≤ M
  · have := free_all gk (lo.later hcM) h2 h
    have z := shutN_of (gt := gt) (lg := lg) (c := M) (cost := cost) hj hs
    rw [this] at z
    cases z
  · obtain ⟨p, hp⟩ := Classical.not_forall.mp h
    obtain ⟨hp, hq⟩ := Classical.not_imp.mp hp
    have := (lo.time p hp).2.1
    omega
theorem lefts_mem {lg : List (Int × Int)} {mo : Int} {j : Nat} (hj : j < 3) : leftN gt lg mo j ∈ lefts gt lg mo := by
  match j, hj with | 0, _ => simp [leftN, lefts] | 1, _ => simp [leftN, lefts] | 2, _ => simp [leftN, lefts]
/-- a turn of the inner loop -/
theorem turn {cost : Int} {uc : Tok} {lg : List (Int × Int)} {Q : Flow → Shared → Prop} (am : Amb A 7) (gk : g.get? X.S.clk = none) (h0 : 0 < cost) (h2 : cost ≤ 2) (hb : c + 100 < 10 ^ 39) (hev : c % 2 = 0) (cap : Cap gt c lg)
    (Z : Law w X gt ug g c r k) (x : LV w X gt r X.bad c k h) (F : Fr g X.L h m) (elg : k.lg = lg) (eF : k.lF = lg) (eM : k.lM = lg) (eS : k.lS = lg) (ec : k.cv = some (.int cost uc)) (mg : m (Str.ofString "gate") = some (.ref X.G)) (ml : m (Str.ofString "log") = some (.ref X.Lg))
    (qb : ∀ k' m' h' t', shutN gt lg c cost = [] → Law w X gt ug g c r k' → LV w X gt r X.bad c k' h' → Fr g X.L h' m' → k'.lg = lg → k'.lF = lg → k'.lM = lg → k'.lS = lg → k'.N = k.N → k'.cv = k.cv → m' (Str.ofString "gate") = some (.ref X.G) → m' (Str.ofString "log") = some (.ref X.Lg) → Keeps X.core h h' → Q .brk (stt s h' t'))
    (q : ∀ c' r' k' m' h' t', shutN gt lg c cost ≠ [] → c + 2 ≤ c' → c' ≤ c + 20 → c' % 2 = 0 → (∀ a, r.get? a = none → r'.get? a = none) → Law w X gt ug g c' r' k' → LV w X gt r' X.bad c' k' h' → Fr g X.L h' m' → k'.lg = lg → k'.lF = lg → k'.lM = lg → k'.lS = lg → k'.N = k.N → k'.cv = k.cv → m' (Str.ofString "gate") = some (.ref X.G) → m' (Str.ofString "log") = some (.ref X.Lg) → Keeps X.core h h' → Q .next (stt s h' t')) :
    wpAny (model prog w) A (execs tB (lawE X.L)) Q E (stt s h t) := by
  subst elg
  have lo := Z.z.lo
  have gtk := Z.z.gk
  have e20 := Z.z.hc
  refine wpAny_execs_cons ?_
  refine t0 (s := s) (am.mono (by decide)) Z x F mg ml fun Dl nl u1 u2 u3 h₀ _ F₀ x₀ k₀ bl hl => ?_
  dsimp only
  refine wpAny_execs_cons ?_
  refine t1 (s := s) (k := { k with lv := some (.ref Dl) }) am (Z.re rfl rfl) eF eM eS cap x₀ F₀ fun Ds ys ns h₁ _ F₁ x₁ k₁ bs hs ly rows => ?_
  have hl := keep1 k₁ bl hl
  dsimp only
  refine wpAny_execs_cons ?_
  refine t2 (s := s) (k := { k with lv := some (.ref Dl) }) am (Z.re rfl rfl) eF eM eS ec x₁ F₁ fun Dh zs nh h₂ _ F₂ x₂ k₂ bh hh iz => ?_
  have hl := keep1 k₂ bl hl
  have hs := keep1 k₂ bs hs
  have rows := fun j v e => (rows j v e).keeps k₂ fun _ z => core_bad z
  dsimp only
  refine wpAny_execs_cons ?_
  refine t3 (s := s) (k := { k with lv := some (.ref Dl) }) am (Z.re rfl rfl) ec x₂ F₂ rfl bl hl rfl bs hs ly rows rfl bh hh iz fun h₃ _ F₃ x₃ k₃ => ?_
  have hl := keep1 k₃ bl hl
  have hs := keep1 k₃ bs hs
  have hh := keep1 k₃ bh hh
  have rows := fun j v e => (rows j v e).keeps k₃ fun _ z => core_bad z
  have kA := ((k₀.trans k₁).trans k₂).trans k₃
  dsimp only
  refine wpAny_execs_cons ?_
  refine t4 (s := s) F₃ rfl hh iz (by rw [shutL_eq, List.length_map]; exact shutN_len) (fun hz _ => ?_) fun hz t₄ => ?_
  · dsimp only
    exact qb { k with lv := some (.ref Dl) } _ _ _ (by rw [shutL_eq] at hz; exact List.map_eq_nil_iff.mp hz) (Z.re rfl rfl) x₃ F₃ rfl eF eM eS rfl rfl mg ml kA
  have hne : shutN gt k.lg c cost ≠ [] := fun z => hz (by rw [shutL_eq, z]; rfl)
  dsimp only
  refine wpAny_execs_cons ?_
  refine t5 (s := s) (k := { k with lv := some (.ref Dl) }) am (Z.re rfl rfl) x₃ F₃ rfl hs ly rows fun Dt nt rst u4 u5 u6 h₅ _ hr F₅ x₅ k₅ bt ht => ?_
  have hh := keep1 k₅ bh hh
  dsimp only
  refine wpAny_execs_cons ?_
  refine t6 (s := s) (k := { k with lv := some (.ref Dl), tv := some (.ref Dt) }) am (Z.re rfl rfl) x₅ F₅ rfl bt ht rfl bh hh iz hne fun M uM h₆ _ hM hMa F₆ x₆ k₆ => ?_
  have hh := keep1 k₆ bh hh
  have ht := keep1 k₆ bt ht
  obtain ⟨j, hj, rfl⟩ := List.mem_map.mp hM
  have hcM : c ≤ toldV gt k.lg c rst j := told_ge gtk lo h2 hr hj
  have hsh := fun mo (a : c ≤ mo) (b : mo ≤ toldV gt k.lg c rst j) => still_shut gtk lo h2 hr hj a b
  have j3 := (shutN_mem hj).1
  have hMlt : toldV gt k.lg c rst j < c + 18 := still_lt gtk lo hcM h2 j3 (hsh _ hcM (Int.le_refl _))
  generalize hMe : toldV gt k.lg c rst j = M at *
  dsimp only
  refine wpAny_execs_cons ?_
  refine t7 (s := s) (k := { k with lv := some (.ref Dl), tv := some (.ref Dt), sv := some (.int M uM) }) (Z.re rfl rfl) x₆ rfl hcM fun t₇ => ?_
  dsimp only
  refine wpAny_execs_cons ?_
  refine t8 (s := s) (k := { k with lv := some (.ref Dl), tv := some (.ref Dt), sv := some (.int M uM) }) am.hd (Z.re rfl rfl) x₆ F₆ rfl fun u8 h₈ _ F₈ x₈ k₈ => ?_
  have hh := keep1 k₈ bh hh
  have ht := keep1 k₈ bt ht
  dsimp only
  refine wpAny_execs_cons ?_
  refine t9 (s := s) (k := { k with lv := some (.ref Dl), tv := some (.ref Dt), sv := some (.int M uM) }) am (Z.re rfl rfl) x₈ F₈ ec mg ml rfl hev (fun mo a b => ⟨_, lefts_mem j3, hsh mo a b⟩) fun m₉ h₉ _ em F₉ x₉ k₉ => ?_
  have hh := keep1 k₉ bh hh
  have ht := keep1 k₉ bt ht
  dsimp only
  refine wpAny_execs_cons ?_
  refine t10 (s := s) (k := { k with lv := some (.ref Dl), tv := some (.ref Dt), sv := some (.int M uM) }) (Z.re rfl rfl) gk x₉ F₉ rfl hcM (by omega) fun rB hB _ nB1 ZB xB FB kB => ?_
  have hh := keep1 kB bh hh
  have ht := keep1 kB bt ht
  dsimp only
  refine wpAny_execs_cons ?_
  refine t11 (s := s) (k := { k with lv := some (.ref Dl), tv := some (.ref Dt), sv := some (.int M uM) }) am ZB eF eM eS xB FB ec rfl rfl bt ht ((em _ (by decide)).trans rfl) bh hh iz (fun i hi e => still_shut gtk lo h2 hr hi hcM (by rw [e]; exact Int.le_refl _)) fun hC _ FC xC kC => ?_
  dsimp only
  refine wpAny_execs_cons ?_
  refine t12 (s := s) (k := { k with lv := some (.ref Dl), tv := some (.ref Dt), sv := some (.int M uM) }) ZB gk xC FC ((em _ (by decide)).trans rfl) (by omega) (by omega) fun rD hD _ nD1 ZD xD FD kD => ?_
  dsimp only
  refine wpAny_execs_nil ?_
  exact q _ rD { k with lv := some (.ref Dl), tv := some (.ref Dt), sv := some (.int M uM) } m₉ hD _ hne (by omega) (by omega) (by omega) (fun a ha => nD1 a (nB1 a ha)) ZD xD FD rfl eF eM eS rfl rfl ((em _ (by decide)).trans mg) ((em _ (by decide)).trans ml) (((((((kA.trans k₅).trans k₆).trans k₈).trans k₉).trans kB).trans kC).trans kD)
end
end
section
set_option maxHeartbeats 2000000
section
variable {w : World} {X : LA} {gt : Gt} {ug : Nat → Tok} {g : Heap} {c c' : Int} {r r' h h' h'' h₁ : Heap} {k k' : LK} {m m' : Str → Option Value} {A : Around} {s : Shared} {t : Nat} {E : Value → Shared → Prop} {I C D : Addr} {bad no : List Addr} {v : VS}
/-- an iterator out of the law's way -/
structure Off1 (X : LA) (g r h : Heap) (I : Addr) : Prop where
  nn : h.get? I = none
  nb : I ∉ X.bad
  nr : r.get? I = none
  ng : g.get? I = none
theorem off1 (Z : Law w X gt ug g c r k) (x : LV w X gt r X.bad c k h) (lt : ∀ b o, h.get? b = some o → b < I) : Off1 X g r h I := by
  have nn : h.get? I = none := by
    cases e : h.get? I with
    | none => rfl
    | some o => exact absurd (lt _ _ e) (Nat.lt_irrefl _)
  have nr := TT.none_of x.sub nn
  exact ⟨nn, fun z => (by obtain ⟨o, e⟩ := x.bx _ z; rw [nn] at e; cases e), nr, TT.none_of Z.gr nr⟩
theorem St.stab1 {lg N cv} (x : St w X gt ug g (I :: no) ([I] ++ X.bad) lg N cv c h') (nb : I ∉ X.bad) (ng : g.get? I = none) (kk : Keeps [I] h' h'') : St w X gt ug g (I :: no) ([I] ++ X.bad) lg N cv c h'' := by
  obtain ⟨r, k, m, Z, x, F, e1, e2, e3, e4, e5, e6, e7, e8, e9⟩ := x
  refine ⟨r, k, m, Z, x.stab1 kk nb (e9 _ (.head _)), fr_after F kk (fun z => nb (by rw [← List.mem_singleton.mp z]; exact L_bad)) (fun a ha => by rw [List.mem_singleton.mp ha]; exact ng), e1, e2, e3, e4, e5, e6, e7, e8, e9⟩
theorem core1 (o : h.get? I = none) (kb : Keeps X.core h h') (kk : Keeps [I] h' h'') : Keeps X.core h h'' := fun b ob e hb => kk _ _ (kb _ _ e hb) fun z => by rw [List.mem_singleton.mp z, o] at e; cases e
/-- for turn in range(24) -/
theorem n2 {cost : Int} {uc : Tok} {lg : List (Int × Int)} {N : Nat} {Q : Flow → Shared → Prop} (am : Amb A 7) (gk : g.get? X.S.clk = none) (cx : Cx w g) (h0 : 0 < cost) (h2 : cost ≤ 2) (hb : c + 400 < 10 ^ 39) (hev : c % 2 = 0) (cap : Cap gt c lg)
    (x : St w X gt ug g no X.bad lg N (some (.int cost uc)) c h)
    (q : ∀ c' h' t', c ≤ c' → c' ≤ c + 180 → c' % 2 = 0 → Cap gt c' lg → shutN gt lg c' cost = [] → St w X gt ug g no X.bad lg N (some (.int cost uc)) c' h' → Keeps X.core h h' → Q .next (stt s h' t')) :
    wpAny (model prog w) A (exec (nthS nB 2) (lawE X.L)) Q E (stt s h t) := by
  obtain ⟨r, k, m, Z, x, F, e1, e2, e3, e4, e5, e6, e7, e8, e9⟩ := x
  have gtk := Z.z.gk
  have lo : LogOk c lg := e1 ▸ Z.z.lo
  show wpAny _ _ (exec (Stmt.For _ _ _ [] _) _) _ _ _
  refine for_R (s := stt s h t) am.hd ?_
  walk_at "bn"
  refine nm_b F cx (by kernel_rfl) Boot.«range» (by decide) ?_
  walk_at "bn"
  refine w_range1 (s := stt s h t) fun r₀ h₀ t₀ _ _ _ k₀ hr₀ => ?_
  refine ⟨_, _, _, _, _, _, _, 24, _, _, rfl, rfl, hr₀, by decide, fun _ _ => rfl, ?_⟩
  intro I h₁ k₁ ltI eI
  have k0 : Keeps [] h h₁ := k₀.trans k₁
  have o := off1 Z x (fun b ob e => ltI b ob (k₀.all _ _ e))
  have LI : X.L ≠ I := fun e => o.nb (e ▸ L_bad)
  refine ⟨fun i h' => i ≤ 9 ∧ ∃ c', c ≤ c' ∧ c' ≤ c + 20 * (i : Int) ∧ c' % 2 = 0 ∧ (∀ p ∈ lg, p.1 + 2 * (i : Int) ≤ c') ∧ Cap gt c' lg ∧ St w X gt ug g (I :: no) ([I] ++ X.bad) lg N (some (.int cost uc)) c' h' ∧ Keeps X.core h h',
    ⟨by decide, c, Int.le_refl _, by simp, hev, fun p hp => by have := (lo.time p hp).2.1; simpa using this, cap, ⟨r, k, m, Z, x.more (new := [I]) (fun a ha => by rw [List.mem_singleton.mp ha]; exact o.nn) k0, fr_all F k0.all, e1, e2, e3, e4, e5, e6, e7, e8, fun a ha => ?_⟩, k0.mono (by simp)⟩, ?_, fun _ _ _ => trivial, ?_, ?_⟩
  · rcases List.mem_cons.mp ha with rfl | ha
    · exact o.nr
    · exact e9 a ha
  · rintro i h₂ h' ⟨hi, c', a1, a2, a3, a4, a5, st, kb⟩ kk
    exact ⟨hi, c', a1, a2, a3, a4, a5, st.stab1 o.nb o.ng kk, core1 o.nn kb kk⟩
  · rintro i v h₂ t₂ E' hi ⟨hi', tk, rfl⟩ ⟨hi9, c', a1, a2, a3, a4, a5, ⟨r, k, m, Z, x, F, e1, e2, e3, e4, e5, e6, e7, e8, e9⟩, kb⟩ eI
    have x₂ := x.inn eI
    have Z' : Law w (X.plus I) gt ug g c' r k := Z.plus
    refine wpAny_assign_Name ?_
    refine s_loc (s := s) F nilN fun h₃ t₃ F₃ _ k₃ => ?_
    have x₃ := LV.loc Z' x₂ F₃ k₃
    have lo' : LogOk c' lg := e1 ▸ Z.z.lo
    have kI : ∀ h₄, Keeps X.core h₃ h₄ → h₄.get? I = h₂.get? I := fun h₄ k₄ => by
      obtain ⟨ob, e⟩ := eI
      rw [e]
      exact k₄ _ _ (k₃ _ _ e fun z => LI (List.mem_singleton.mp z).symm) (nc o.nb)
    refine turn (s := s) (X := X.plus I) (k := k) (c := c') am gk h0 h2 (by omega) a3 a5 Z' x₃ F₃ e1 e2 e3 e4 e6 e7 e8 (fun k' m' h₄ t₄ hz Z₄ x₄ F₄ f1 f2 f3 f4 f5 f6 f7 f8 k₄ => ?_) fun c₄ r₄ k' m' h₄ t₄ hz b1 b2 b3 n1 Z₄ x₄ F₄ f1 f2 f3 f4 f5 f6 f7 f8 k₄ => ?_
    · dsimp only
      exact q c' h₄ t₄ a1 (by omega) a3 a5 hz ⟨r, k', m', Z₄.minus, x₄.out.less fun _ z => List.mem_append_right _ z, F₄, f1, f2, f3, f4, f5.trans e5, f6.trans e6, f7, f8, fun a ha => e9 a (.tail _ ha)⟩ ((kb.trans (loc_bad k₃)).trans k₄)
    · dsimp only
      have hi8 : i + 1 ≤ 9 := by
        rcases Nat.lt_or_ge i 9 with z | z
        · exact z
        · refine absurd (free_all gtk lo' h2 fun p hp => ?_) hz
          have := a4 p hp
          omega
      refine ⟨h₄, t₄, rfl, kI h₄ k₄, hi8, c₄, by omega, by omega, b3, fun p hp => by have := a4 p hp; omega, a5.later gtk lo' (by omega), ⟨r₄, k', m', Z₄.minus, x₄.out, F₄, f1, f2, f3, f4, f5.trans e5, f6.trans e6, f7, f8, fun a ha => n1 a (e9 a ha)⟩, (kb.trans (loc_bad k₃)).trans k₄⟩
  · rintro h₂ t₂ ⟨hi, _⟩
    omega
end
end
section
set_option maxHeartbeats 400000
section
variable {w : World} {X : LA} {gt : Gt} {ug : Nat → Tok} {g : Heap} {c c' : Int} {r r' h h' h'' h₁ : Heap} {k k' : LK} {m m' : Str → Option Value} {A : Around} {s : Shared} {t : Nat} {E : Value → Shared → Prop} {I C D : Addr} {bad no : List Addr} {v : VS}
/-- cost = 1 + n % 2 -/
theorem n0 {n : Int} {un : Tok} {Q : Flow → Shared → Prop} (hh : A.handled = none) (Z : Law w X gt ug g c r k) (x : LV w X gt r X.bad c k h) (F : Fr g X.L h m) (mn : m (Str.ofString "n") = some (.int n un))
    (q : ∀ u h' t', Fr g X.L h' m → LV w X gt r X.bad c { k with cv := some (.int (1 + n % 2) u) } h' → Keeps X.core h h' → Q .next (stt s h' t')) :
    wpAny (model prog w) A (exec (nthS nB 0) (lawE X.L)) Q E (stt s h t) := by
  show wpAny _ _ (exec (Stmt.Assign [Expr.Name _ _] _ _) _) _ _ _
  walk_at "bn"
  refine b_mod (s := s) hh (by decide) fun _ _ => ?_
  walk_at "bn"
  refine s_cell (s := s) (c := X.L + 4) rfl x.cell4 fun h' c4 sb => ?_
  exact q _ h' _ (fr_cell Z F sb (by decide)) (x.set4 Z.z.cx sb c4) (cell_bad (by simp) sb)
/-- clock[0] = clock[0] + n // 2 % 6 * 2 -/
theorem n1 {n : Int} {un : Tok} {Q : Flow → Shared → Prop} (hh : A.handled = none) (Z : Law w X gt ug g c r k) (gk : g.get? X.S.clk = none) (x : LV w X gt r X.bad c k h) (F : Fr g X.L h m) (mn : m (Str.ofString "n") = some (.int n un)) (hb : c + 20 < 10 ^ 39)
    (q : ∀ r' h' t', (∀ a, r.get? a = none → r'.get? a = none) → Law w X gt ug g (c + n / 2 % 6 * 2) r' k → LV w X gt r' X.bad (c + n / 2 % 6 * 2) k h' → Fr g X.L h' m → Keeps X.core h h' → Q .next (stt s h' t')) :
    wpAny (model prog w) A (exec (nthS nB 1) (lawE X.L)) Q E (stt s h t) := by
  obtain ⟨uk, nk, eclk⟩ := clkList Z x
  have c8 := clkName Z x
  have p0 := Int.emod_nonneg (n / 2) (show (6 : Int) ≠ 0 by decide)
  have p1 := Int.emod_lt_of_pos (n / 2) (show (0 : Int) < 6 by decide)
  have e20 := Z.z.hc
  show wpAny _ _ (exec (Stmt.Assign [Expr.Subscript _ _ _] _ _) _) _ _ _
  refine wpAny_Assign_Subscript ?_
  walk_at "bn"
  refine sub_list (s := stt s h _) ⟨_, eclk, rfl, _, rfl⟩ (by decide) (by decide) (show (#[Value.int c uk] : Array Value)[Int.toNat 0]? = some (.int c uk) from rfl) ?_ (by with_unfolding_all rfl)
  walk_at "bn"
  refine b_div (s := s) (by decide) (by decide) fun _ _ => ?_
  walk_at "bn"
  refine b_mod (s := s) hh (by decide) fun _ _ => ?_
  walk_at "bn"
  refine b_mulR (s := s) ⟨by decide, by decide⟩ fun _ _ => ?_
  walk_at "bn"
  exact tick (s := s) Z gk x F (by omega) (wk_of Z.z.gk (by omega) (by omega)) fun r' h' n1 Z' x' F' kk => q r' h' _ n1 Z' x' F' kk
def kH (k : LK) (p : Int × Int) : Nat → LK
  | 0 => k
  | 1 => { k with N := k.N + 1, lF := k.lg ++ [p] }
  | 2 => { k with N := k.N + 1, lF := k.lg ++ [p], lM := k.lg ++ [p] }
  | _ => { k with N := k.N + 2, lF := k.lg ++ [p], lM := k.lg ++ [p], lS := k.lg ++ [p] }
theorem kH_N {k : LK} {p : Int × Int} : ∀ i, i < 3 → (kH k p i).N ≤ k.N + 1
  | 0, _ => Nat.le_succ _
  | 1, _ => Nat.le_refl _
  | 2, _ => Nat.le_refl _
  | i + 3, h => absurd h (Nat.not_lt.mpr (Nat.le_add_left 3 i))
theorem kH_lg {k : LK} {p : Int × Int} : ∀ i, (kH k p i).lg = k.lg
  | 0 => rfl
  | 1 => rfl
  | 2 => rfl
  | _ + 3 => rfl
theorem kH_cv {k : LK} {p : Int × Int} : ∀ i, (kH k p i).cv = k.cv
  | 0 => rfl
  | 1 => rfl
  | 2 => rfl
  | _ + 3 => rfl
theorem trues_reads {h : Heap} : ∀ {vs : List Value}, (∀ v ∈ vs, v = .bool true) → ReadsAll h vs (List.replicate vs.length (.bool true)) []
  | [], _ => .nil
  | v :: vs, e => by
    have := e v (.head _)
    subst this
    exact ReadsAll.cons (as := []) (.bool true) (trues_reads fun v hv => e v (.tail _ hv))
/-- hit of the i-th limit -/
theorem c_htN {cost : Int} {u : Tok} {i : Nat} {env : Env} {Q : Value → Shared → Prop} (hi : i < 3) (z : Sit w X gt ug c r bad (kH k (c, cost) i)) (hx : ∀ a ∈ bad, ∃ o, h.get? a = some o) (gr : Sub g r) (hb : ∀ a ∈ X.bad, a ∈ bad) (eF : k.lF = k.lg) (eM : k.lM = k.lg) (eS : k.lS = k.lg) (h0 : 0 < cost) (h2 : cost ≤ 2) (hle : ∀ j, j < 3 → cost ≤ leftN gt k.lg c j) (hev : c % 2 = 0)
    (x : LV w X gt r bad c (kH k (c, cost) i) h) (am : Amb A 7) (hfr : A.frames = some [env]) (hk : env.scope.kind ≠ .module) (hfe : env.frame = some X.L) (F : Fr g X.L h m) (hgL : ∀ a, X.L ≤ a → g.get? a = none) (hVL : X.L < X.S.V)
    (q : ∀ h' t', LV w X gt r bad c (kH k (c, cost) (i + 1)) h' → Fr g X.L h' m → (∀ a ∈ bad, a ∉ X.core → h'.get? a = h.get? a) → Q (.bool true) (stt s h' t')) :
    wpAny (model prog w) A (call (.ref (htN i)) [.ref (X.lim i), .ref (X.itm i), .ref X.T, .int cost u]) Q E (stt s h t) := by
  have e2 := z.gk.e2
  have ceL : X.L ∉ [X.S.C, X.S.E] := fun y => z.cx.ok.ap _ (by simp [LA.scr]) (ce_vol _ y)
  have ceG : ∀ a ∈ [X.S.C, X.S.E], g.get? a = none := fun a ha => TT.none_of gr (z.cx.rt.no a (List.mem_append_left _ (ce_vol a ha)))
  have ks : ∀ h', Keeps [X.S.C, X.S.E] h h' → ∀ a ∈ bad, a ∉ X.core → h'.get? a = h.get? a := fun h' kk a ha nca => by
    obtain ⟨o, e⟩ := hx a ha
    rw [e]; exact kk _ _ e fun y => nca (vol_core (ce_vol a y))
  rcases (show i = 0 ∨ i = 1 ∨ i = 2 by omega) with rfl | rfl | rfl
  · exact c_ht1 (s := s) z eF h0 (hle 0 (by decide)) x (am.mono (by decide)) fun h' t' x' kk => q h' t' x' (fr_after F kk ceL ceG) (ks h' kk)
  · exact c_ht2 (s := s) (env := env) z hx eM h0 (hle 1 (by decide)) hev x (am.mono (by decide)) hfr hk hfe F hgL hVL fun h' t' x' F' same => q h' t' x' F' fun a ha nca => same a ha (fun e => nca (vol_core (by rw [e]; simp [LA.vol]))) (fun e => nca (by rw [e]; exact L_core))
  · exact c_ht3 (s := s) z eS h0 (hle 2 (by decide)) (by omega) x (am.mono (by decide)) fun h' t' x' kk => q h' t' x' (fr_after F kk ceL ceG) (ks h' kk)
/-- the three hits -/
theorem n3 {cost : Int} {uc : Tok} {Q : Flow → Shared → Prop} (am : Amb A 7) (hfr : A.frames = some [lawE X.L]) (Z : Law w X gt ug g c r k) (x : LV w X gt r X.bad c k h) (F : Fr g X.L h m) (hex : ∀ a ∈ X.ex, a ∉ X.core)
    (eF : k.lF = k.lg) (eM : k.lM = k.lg) (eS : k.lS = k.lg) (ec : k.cv = some (.int cost uc)) (h0 : 0 < cost) (h2 : cost ≤ 2) (hev : c % 2 = 0) (hN : k.N + 2 ≤ 1000) (hz : shutN gt k.lg c cost = [])
    (q : ∀ h' t', Fr g X.L h' m → LV w X gt r X.bad c (kH k (c, cost) 3) h' → (∀ a ∈ X.ex, h'.get? a = h.get? a) → Q .next (stt s h' t')) :
    wpAny (model prog w) A (exec (nthS nB 3) (lawE X.L)) Q E (stt s h t) := by
  have hle : ∀ j, j < 3 → cost ≤ leftN gt k.lg c j := fun j hj => by
    rcases Int.lt_or_le (leftN gt k.lg c j) cost with z | z
    · have := shutN_of hj z; rw [hz] at this; cases this
    · exact z
  have e2 := Z.z.gk.e2
  show wpAny _ _ (exec (Stmt.If _ _ _ _) _) _ _ _
  walk_at "bn"
  refine comp_E (cl := [(Str.ofString "who", X.L + 3), (Str.ofString "limiters", X.L + 1), (Str.ofString "items", X.L + 2), (Str.ofString "cost", X.L + 4)]) (by with_unfolding_all rfl) am.hd (by decide) rfl (by decide) rfl ?_
  walk_at "bn"
  refine nm_b F Z.cx (by kernel_rfl) Boot.«range» (by decide) ?_
  walk_at "bn"
  refine w_range1 (s := stt s h t) fun r₀ h₀ t₀ _ _ _ k₀ hr₀ => ?_
  refine SrcK.range (s := stt s h t) (n := 3) hr₀ (by decide) (by decide) (by decide) ?_
  intro I C D h₁ kk lt ltD ltC eI eC eD
  have o := off3 Z x k₀ lt ltD ltC
  have b0 := BJ.start F x (k₀.trans kk) o
  have exx : ∀ a ∈ X.ex, ∃ ob, h.get? a = some ob := fun a ha => x.bx a (by simp [LA.bad, ha])
  have exb : ∀ a ∈ X.ex, a ∈ X.bad := fun a ha => by simp [LA.bad, ha]
  have upx : ∀ {h₂ h' : Heap} {as : List Addr}, (∀ a ∈ X.ex, h₂.get? a = h.get? a) → Keeps as h₂ h' → (∀ a ∈ X.ex, a ∉ as) → ∀ a ∈ X.ex, h'.get? a = h.get? a := fun e kk n a ha => by
    obtain ⟨ob, eo⟩ := exx a ha
    rw [eo]; exact kk _ _ ((e a ha).trans eo) (n a ha)
  have ne3 : ∀ a ∈ X.ex, a ∉ [I, C, D] := fun a ha z => o.nb a z (exb a ha)
  refine ⟨fun i ys h' => Fr g X.L h' m ∧ LV w X gt r ([I, C, D] ++ X.bad) c (kH k (c, cost) i) h' ∧ ys.length = i ∧ (∀ v ∈ ys, v = .bool true) ∧ ∀ a ∈ X.ex, h'.get? a = h.get? a, ⟨b0.1, b0.2.1, rfl, fun _ z => (nomatch z), upx (fun _ _ => rfl) (k₀.trans kk) (fun _ _ => by simp)⟩, ?_, fun _ _ _ _ => trivial, ?_, ?_⟩
  · rintro i ys h₂ h' ⟨F, x, hl, hv, he⟩ kk
    exact ⟨fr_after F kk (fun z => o.nb _ z L_bad) o.ng, x.keeps kk (fun a ha => List.mem_append_left _ ha) (fun a ha z => o.nb a ha (vol_bad z)) (fun a ha z => o.nb a ha (four_bad z)) o.nr (fun a ha z => absurd z (o.nb a ha)), hl, hv, upx he kk ne3⟩
  · rintro i v ys h₂ t₂ oC m₂ E' hi ⟨tk, rfl⟩ ⟨F, x, hl, hvs, he⟩ eI eD eC hC hv
    have hns := hC.ns eC
    have hx := exBad x eI eC eD
    rw [Int.zero_add] at hv
    have rt := Z.z.cx.rt
    have ecH : (kH k (c, cost) i).cv = some (.int cost uc) := (kH_cv i).trans ec
    have c4 : h₂.IsCell (X.L + 4) (some (.int cost uc)) := ecH ▸ x.cell4
    have Zi : Sit w X gt ug c r ([I, C, D] ++ X.bad) (kH k (c, cost) i) := ⟨Z.sit3.cx, Z.z.gk, by rw [kH_lg]; exact Z.z.lo, Z.z.hc, Nat.le_trans (kH_N i hi) (by omega)⟩
    have app : ∀ v ∈ ys ++ [Value.bool true], v = .bool true := fun v hv => by
      rcases List.mem_append.mp hv with hv | hv
      · exact hvs v hv
      · exact List.mem_singleton.mp hv
    refine wpAny_tests_nil ?_
    refine methodCall_KW ?_
    refine lm_call3 (s := s) (u := tk) (i := i) (cost := cost) (uc := uc) (m_ht w) hi F Z.cx x.sub rt (cnName (env := compEnvC _ _ C _) rfl (ofSub rt.c1 x.sub)) (fun p => clName (env := compEnvC _ _ C _) hns hv) (cnName (env := compEnvC _ _ C _) rfl (ofSub rt.c2 x.sub)) (cnName (env := compEnvC _ _ C _) rfl (ofSub rt.c3 x.sub)) (fun p => cnName (env := compEnvC _ _ C _) rfl c4) fun t' => ?_
    refine c_htN (s := s) (k := k) (env := lawE X.L) hi Zi hx Z.gr (fun a ha => List.mem_append_right _ ha) eF eM eS h0 h2 hle hev x am hfr (show ScopeKind.function ≠ ScopeKind.module by decide) rfl F Z.gL Z.VL fun h' t' x' F' same => ?_
    refine ⟨h', t', rfl, fun a ha => same a (List.mem_append_left _ ha) (nc (o.nb a ha)), F', x', by rw [List.length_append, hl]; rfl, app, fun a ha => ?_⟩
    rw [same a (List.mem_append_right _ (exb a ha)) (hex a ha)]
    exact he a ha
  · rintro ys h₂ t₂ ⟨F, x, hl, hv, he⟩ eD
    walk_at "bn"
    refine n_list (s := s) F nilN (by show (3 : Nat) ≤ sizeLine; decide) fun D2 h₃ F₃ N₃ k₃ lD => ?_
    refine SeqAt.compareNe_shaped (s := stt s h₃ _) (.list (k₃.all _ _ eD) rfl rfl (trues_reads hv)) (.list (N₃.get (.head _)) rfl rfl (trues_reads (vs := [.bool true, .bool true, .bool true]) (by simp))) (by rw [hl]; decide) (by decide) (am.u64 (n := 3)) ?_
    rw [hl]
    rw [show (!(PyData.list (List.replicate 3 (PyData.bool true))).eqv (PyData.list (List.replicate [Value.bool true, .bool true, .bool true].length (PyData.bool true)))) = false by decide]
    walk_at "bn"
    rw [if_neg Bool.false_ne_true]
    walk_at "bn"
    exact q h₃ _ F₃ ((x.all k₃).less fun _ z => List.mem_append_right _ z) (upx he k₃ fun _ _ => by simp)
end
end
section
set_option maxHeartbeats 400000
section
variable {w : World} {X : LA} {gt : Gt} {ug : Nat → Tok} {g : Heap} {c c' : Int} {r r' h h' h'' h₁ : Heap} {k k' : LK} {m m' : Str → Option Value} {A : Around} {s : Shared} {t : Nat} {E : Value → Shared → Prop} {I C D : Addr} {bad no : List Addr} {v : VS} {p : Int × Int}
theorem LV.app {vs : List Value} {T : Addr} (x : LV w X gt r bad c k h) (cx : Ctx w X gt ug c r bad) (sb : Heap.SameBut X.Lg h h') (hv : Offs h bad vs k.lg) (hT : PairOff h bad (.ref T) p) (hl : h'.get? X.Lg = some (listO (vs ++ [.ref T]) (vs.length + 1))) : LV w X gt r bad c { k with lg := k.lg ++ [p] } h' := by
  obtain ⟨v, a, b, d, e1, e2, e3⟩ := x
  have kk := Keeps.of_same sb
  have e : ∀ y ∈ [X.Lg], y = X.Lg := fun y hy => List.mem_singleton.mp hy
  have gb : X.Lg ∈ bad := cx.hb _ (by simp [LA.bad])
  have sub : ∀ y ∈ [X.Lg], y ∈ bad := fun y hy => e y hy ▸ gb
  have ok := cx.ok
  have gv : X.Lg ∈ X.vol := by simp [LA.vol]
  have n4 : ∀ y ∈ [X.L + 4, X.L + 5, X.L + 6, X.L + 7], y ∉ [X.Lg] := fun y hy z => ok.ap y (scr4 hy) (e y z ▸ gv)
  have nn : ∀ y ∈ [921, X.S.C, X.S.E, X.S.V], y ∉ [X.Lg] := fun y hy z => ok.nG (e y z ▸ hy)
  refine ⟨{ v with lg := k.lg ++ [p] }, ⟨a.sub.keeps kk fun y hy => e y hy ▸ cx.rt.no _ (List.mem_append_left _ gv), a.ctr.keeps kk (nn _ (by simp)), a.exp.keeps kk (nn _ (by simp)), a.mv.keeps kk sub (nn _ (by simp)), a.tab.keeps kk sub (nn _ (by simp)), ⟨vs ++ [.ref T], by rw [List.length_append]; exact hl, Offs.snoc ?_ (hv.map fun _ _ ⟨T, u1, u2, m, e, nb, f⟩ => ⟨T, u1, u2, m, e, nb, kk _ _ f fun z => nb (sub _ z)⟩)⟩,
    IsCell.keepsK a.c4 kk (n4 _ (by simp)), IsCell.keepsK a.c5 kk (n4 _ (by simp)), IsCell.keepsK a.c6 kk (n4 _ (by simp)), IsCell.keepsK a.c7 kk (n4 _ (by simp)), a.nl, fun y hy => ?_⟩, b, d, e1, rfl, e3⟩
  · obtain ⟨T, u1, u2, m, e, nb, f⟩ := hT
    exact ⟨T, u1, u2, m, e, nb, kk _ _ f fun z => nb (sub _ z)⟩
  · by_cases hm : y = X.Lg
    · exact ⟨_, hm ▸ hl⟩
    · obtain ⟨o, ho⟩ := a.bx y hy
      exact ⟨o, kk _ _ ho fun z => hm (e y z)⟩
theorem Law.snoc (Z : Law w X gt ug g c r k) (e1 : k'.lg = k.lg ++ [(c, p.2)]) (e2 : k'.N ≤ 1000) (h0 : 0 < p.2) (h2 : p.2 ≤ 2) (hev : c % 2 = 0) (hl : k.lg.length < 8) : Law w X gt ug g c r k' :=
  ⟨⟨Z.z.cx, Z.z.gk, by rw [e1]; exact Z.z.lo.snoc h0 h2 Z.z.hc hev hl, Z.z.hc, e2⟩, Z.gr, Z.cx, Z.gL, Z.VL⟩
/-- log.append((clock[0], cost)) -/
theorem n4 {cost : Int} {uc : Tok} {Q : Flow → Shared → Prop} (hh : A.handled = none) (Z : Law w X gt ug g c r k) (x : LV w X gt r X.bad c k h) (F : Fr g X.L h m) (hex : ∀ a ∈ X.ex, a ∉ X.core) (ec : k.cv = some (.int cost uc)) (ml : m (Str.ofString "log") = some (.ref X.Lg))
    (q : ∀ h' t', Fr g X.L h' m → LV w X gt r X.bad c { k with lg := k.lg ++ [(c, cost)] } h' → (∀ a ∈ X.ex, h'.get? a = h.get? a) → Q .next (stt s h' t')) :
    wpAny (model prog w) A (exec (nthS nB 4) (lawE X.L)) Q E (stt s h t) := by
  obtain ⟨uk, nk, eclk⟩ := clkList Z x
  have c8 := clkName Z x
  have c4 : h.IsCell (X.L + 4) (some (.int cost uc)) := ec ▸ x.cell4
  obtain ⟨vs, hlg, hof⟩ := x.log
  have gnb : X.Lg ∈ X.bad := by simp [LA.bad]
  show wpAny _ _ (exec (Stmt.Expr _ _) _) _ _ _
  walk_at "bn"
  refine getMethod_list_append (s := stt s h _) hlg rfl rfl ?_
  walk_at "bn"
  refine sub_list (s := stt s h _) ⟨_, eclk, rfl, _, rfl⟩ (by decide) (by decide) (show (#[Value.int c uk] : Array Value)[Int.toNat 0]? = some (.int c uk) from rfl) ?_ (by with_unfolding_all rfl)
  walk_at "bn"
  refine n_tuple (s := s) F nilN (by show (2 : Nat) ≤ sizeLine; decide) fun T h₁ F₁ N₁ k₁ lT => ?_
  walk_at "bn"
  have x₁ := x.all k₁
  have nT : T ∉ X.bad := fun z => by obtain ⟨o, e⟩ := x.bx _ z; exact Nat.lt_irrefl _ (lT _ _ e)
  have hsz : vs.length ≤ 8 := by rw [hof.len]; exact Z.z.lo.len
  refine append_at (s := stt s h₁ _) (hsz := by rw [List.size_toArray]; exact Nat.le_trans hsz (by decide)) (k₁.all _ _ hlg) fun h₂ sb e₂ => ?_
  have hT : PairOff h₁ X.bad (.ref T) (c, cost) := ⟨T, uk, uc, _, rfl, nT, N₁.get (.head _)⟩
  have hof₁ : Offs h₁ X.bad vs k.lg := hof.map fun _ _ ⟨T, u1, u2, m, e, nb, f⟩ => ⟨T, u1, u2, m, e, nb, k₁.all _ _ f⟩
  have x₂ := LV.app (p := (c, cost)) (h' := h₂) x₁ Z.z.cx sb hof₁ hT (by rw [e₂]; simp [listO])
  have nL : X.L ≠ X.Lg := fun e => Z.z.cx.ok.ap X.L (by simp [LA.scr]) (by rw [e]; simp [LA.vol])
  have gG : g.get? X.Lg = none := TT.none_of Z.gr (Z.z.cx.rt.no _ (List.mem_append_left _ (by simp [LA.vol])))
  have F₂ : Fr g X.L h₂ m := fr_after F₁ (Keeps.of_same sb) (fun z => nL (List.mem_singleton.mp z)) fun a ha => by rw [List.mem_singleton.mp ha]; exact gG
  exact q h₂ _ F₂ x₂ fun a ha => by
    obtain ⟨o, e⟩ := x.bx a (by simp [LA.bad, ha])
    rw [e]
    exact sb.extBut _ _ (fun z => hex a ha (by rw [z]; simp [LA.core])) (k₁.all _ _ e)
end
end
section
set_option maxHeartbeats 400000
section
variable {w : World} {X : LA} {gt : Gt} {ug : Nat → Tok} {g : Heap} {c c' : Int} {r r' h h' h'' h₁ : Heap} {k k' : LK} {m m' : Str → Option Value} {A : Around} {s : Shared} {t : Nat} {E : Value → Shared → Prop} {I C D : Addr} {bad no : List Addr} {v : VS} {p : Int × Int}
/-- a turn of the outer loop -/
theorem turnN {n : Int} {un : Tok} {lg : List (Int × Int)} {N : Nat} {cv : Option Value} {Q : Flow → Shared → Prop} (am : Amb A 7) (hfr : A.frames = some [lawE X.L]) (gk : g.get? X.S.clk = none) (cx : Cx w g) (hex : ∀ a ∈ X.ex, a ∉ X.core) (hb : c + 500 < 10 ^ 39) (hev : c % 2 = 0) (cap : Cap gt c lg) (hl : lg.length < 8) (hN : N + 2 ≤ 1000)
    (Z : Law w X gt ug g c r k) (x : LV w X gt r X.bad c k h) (F : Fr g X.L h m) (e1 : k.lg = lg) (e2 : k.lF = lg) (e3 : k.lM = lg) (e4 : k.lS = lg) (e5 : k.N = N) (e7 : m (Str.ofString "gate") = some (.ref X.G)) (e8 : m (Str.ofString "log") = some (.ref X.Lg)) (e9 : ∀ a ∈ no, r.get? a = none) (mn : m (Str.ofString "n") = some (.int n un))
    (q : ∀ c' cost cv h' t', c ≤ c' → c' ≤ c + 200 → c' % 2 = 0 → Cap gt c' (lg ++ [(c', cost)]) → St w X gt ug g no X.bad (lg ++ [(c', cost)]) (N + 2) cv c' h' → (∀ a ∈ X.ex, h'.get? a = h.get? a) → Q .next (stt s h' t')) :
    wpAny (model prog w) A (execs nB (lawE X.L)) Q E (stt s h t) := by
  subst e1
  have lo := Z.z.lo
  have gtk := Z.z.gk
  have p0 := Int.emod_nonneg (n / 2) (show (6 : Int) ≠ 0 by decide)
  have p1 := Int.emod_lt_of_pos (n / 2) (show (0 : Int) < 6 by decide)
  have p2 := Int.emod_nonneg n (show (2 : Int) ≠ 0 by decide)
  have p3 := Int.emod_lt_of_pos n (show (0 : Int) < 2 by decide)
  have exx : ∀ a ∈ X.ex, ∃ ob, h.get? a = some ob := fun a ha => x.bx a (by simp [LA.bad, ha])
  have upx : ∀ {h₂ h' : Heap}, (∀ a ∈ X.ex, h₂.get? a = h.get? a) → Keeps X.core h₂ h' → ∀ a ∈ X.ex, h'.get? a = h.get? a := fun e kk a ha => by
    obtain ⟨ob, eo⟩ := exx a ha
    rw [eo]; exact kk _ _ ((e a ha).trans eo) (hex a ha)
  refine wpAny_execs_cons ?_
  refine n0 (s := s) am.hd Z x F mn fun uc h₀ _ F₀ x₀ k₀ => ?_
  dsimp only
  refine wpAny_execs_cons ?_
  refine n1 (s := s) (k := { k with cv := some (.int (1 + n % 2) uc) }) am.hd (Z.re rfl rfl) gk x₀ F₀ mn (by omega) fun r₁ h₁ _ nn1 Z₁ x₁ F₁ k₁ => ?_
  dsimp only
  refine wpAny_execs_cons ?_
  have cap₁ := cap.later (m := c + n / 2 % 6 * 2) gtk lo (by omega)
  refine n2 (s := s) (no := no) (lg := k.lg) (N := N) (cost := 1 + n % 2) (uc := uc) (c := c + n / 2 % 6 * 2) am gk cx (by omega) (by omega) (by omega) (by omega) cap₁
    ⟨r₁, { k with cv := some (.int (1 + n % 2) uc) }, m, Z₁, x₁, F₁, rfl, e2, e3, e4, e5, rfl, e7, e8, fun a ha => nn1 a (e9 a ha)⟩ fun c₂ h₂ _ b1 b2 b3 cap₂ hz st k₂ => ?_
  obtain ⟨r₂, k', m₂, Z₂, x₂, F₂, f1, f2, f3, f4, f5, f6, f7, f8, f9⟩ := st
  have ex₂ := upx (upx (upx (fun _ _ => rfl) k₀) k₁) k₂
  dsimp only
  refine wpAny_execs_cons ?_
  refine n3 (s := s) (cost := 1 + n % 2) (uc := uc) (k := k') am hfr Z₂ x₂ F₂ hex (f2.trans f1.symm) (f3.trans f1.symm) (f4.trans f1.symm) f6 (by omega) (by omega) b3 (by omega) (by rw [f1]; exact hz) fun h₃ _ F₃ x₃ ex₃ => ?_
  dsimp only
  refine wpAny_execs_cons ?_
  have Z₃ : Law w X gt ug g c₂ r₂ (kH k' (c₂, 1 + n % 2) 3) := ⟨⟨Z₂.z.cx, gtk, Z₂.z.lo, Z₂.z.hc, by show k'.N + 2 ≤ 1000; omega⟩, Z₂.gr, Z₂.cx, Z₂.gL, Z₂.VL⟩
  refine n4 (s := s) (k := kH k' (c₂, 1 + n % 2) 3) (cost := 1 + n % 2) (uc := uc) am.hd Z₃ x₃ F₃ hex f6 f8 fun h₄ _ F₄ x₄ ex₄ => ?_
  dsimp only
  refine wpAny_execs_nil ?_
  have hle : ∀ j, j < 3 → 1 + n % 2 ≤ leftN gt k.lg c₂ j := fun j hj => by
    rcases Int.lt_or_le (leftN gt k.lg c₂ j) (1 + n % 2) with z | z
    · have := shutN_of hj z; rw [hz] at this; cases this
    · exact z
  refine q c₂ (1 + n % 2) _ h₄ _ (by omega) (by omega) b3 (cap₂.snoc (hle 0 (by decide)) (hle 2 (by decide))) ⟨r₂, { kH k' (c₂, 1 + n % 2) 3 with lg := k'.lg ++ [(c₂, 1 + n % 2)] }, m₂, ?_, x₄, F₄, ?_, ?_, ?_, ?_, ?_, rfl, f7, f8, f9⟩ fun a ha => (ex₄ a ha).trans ((ex₃ a ha).trans (ex₂ a ha))
  · exact Law.snoc (p := (c₂, 1 + n % 2)) Z₃ rfl (by show k'.N + 2 ≤ 1000; omega) (by show 0 < 1 + n % 2; omega) (by show 1 + n % 2 ≤ 2; omega) b3 (by show k'.lg.length < 8; rw [f1]; exact hl)
  · show k'.lg ++ _ = _; rw [f1]
  · show k'.lg ++ _ = _; rw [f1]
  · show k'.lg ++ _ = _; rw [f1]
  · show k'.lg ++ _ = _; rw [f1]
  · show k'.N + 2 = _; rw [f5]
/-- for n in its -/
theorem loopN {Ln : Addr} {pn : Pos} {vs : List Value} {ns : List Int} {Q : Flow → Shared → Prop} (am : Amb A 7) (hfr : A.frames = some [lawE X.L]) (gk : g.get? X.S.clk = none) (cx : Cx w g) (hex : X.ex = []) (hb : c + 3000 < 10 ^ 39) (hev : c % 2 = 0)
    (Z : Law w X gt ug g c r k) (x : LV w X gt r X.bad c k h) (F : Fr g X.L h m) (e1 : k.lg = []) (e2 : k.lF = []) (e3 : k.lM = []) (e4 : k.lS = []) (e5 : k.N = 0) (e7 : m (Str.ofString "gate") = some (.ref X.G)) (e8 : m (Str.ofString "log") = some (.ref X.Lg))
    (nL : h.get? Ln = none) (kL : Keeps [] h h₁) (hL : h₁.IsList Ln vs.toArray) (hv : IntsAre vs ns) (hz : vs.length ≤ 8)
    (q : ∀ lg N cv c' h' t', N ≤ 100 → c' < 10 ^ 39 → Cap gt c' lg → St w X gt ug g [] X.bad lg N cv c' h' → Q .next (stt s h' t')) :
    ForS w A s (lawE X.L) (.Name (Str.ofString "n") pn) nB Q (.ref Ln) (stt s h₁ t) := by
  refine ForS.list hL ?_
  intro I h₂ k₂ ltI eI
  obtain ⟨oL, eoL, hL2⟩ := hL
  have hL : h₁.IsList Ln vs.toArray := ⟨oL, eoL, hL2⟩
  have nbL : Ln ∉ X.bad := fun z => by obtain ⟨o, e⟩ := x.bx _ z; rw [nL] at e; cases e
  have xh : LV w (X.plus Ln) gt r (X.plus Ln).bad c k h₁ := (x.more (new := [Ln]) (fun a ha => by rw [List.mem_singleton.mp ha]; exact nL) kL).inn ⟨_, eoL⟩
  have Zh : Law w (X.plus Ln) gt ug g c r k := Z.plus
  have o := off1 Zh xh ltI
  have ncL : Ln ∉ X.core := nc nbL
  have hexI : ∀ a ∈ ((X.plus Ln).plus I).ex, a ∉ X.core := fun a ha => by
    have : a = I ∨ a = Ln := by simpa [LA.plus, hex] using ha
    rcases this with rfl | rfl
    · exact fun z => o.nb (bad_with (core_bad z))
    · exact ncL
  have F₂ := fr_all F (kL.trans k₂).all
  have nIL : I ≠ Ln := fun e => o.nb (by rw [e]; exact with_bad.mpr (by simp))
  refine ⟨fun i h' => ∃ lg c' cv, lg.length = i ∧ c ≤ c' ∧ c' ≤ c + 200 * (i : Int) ∧ c' % 2 = 0 ∧ Cap gt c' lg ∧ St w (X.plus Ln) gt ug g [I] ([I] ++ (X.plus Ln).bad) lg (2 * i) cv c' h' ∧ h'.get? Ln = some oL,
    ⟨[], c, k.cv, rfl, Int.le_refl _, by simp, hev, Cap.nil Z.z.gk, ⟨r, k, m, Zh, xh.more (new := [I]) (fun a ha => by rw [List.mem_singleton.mp ha]; exact o.nn) k₂, F₂, e1, e2, e3, e4, e5, rfl, e7, e8, fun a ha => by rw [List.mem_singleton.mp ha]; exact o.nr⟩, k₂.all _ _ eoL⟩, ?_, ?_, ?_, ?_⟩
  · rintro i h₃ h' ⟨lg, c', cv, a1, a2, a3, a4, a5, st, hl⟩ kk
    exact ⟨lg, c', cv, a1, a2, a3, a4, a5, st.stab1 o.nb o.ng kk, kk _ _ hl fun z => nIL (List.mem_singleton.mp z).symm⟩
  · rintro i h₃ ⟨lg, c', cv, a1, a2, a3, a4, a5, st, hl⟩
    exact ⟨oL, hl, hL2⟩
  · rintro i v h₃ t₃ E' hi hvi ⟨lg, c', cv, a1, a2, a3, a4, a5, ⟨r, k, m, Z, x, F, f1, f2, f3, f4, f5, f6, f7, f8, f9⟩, hl⟩ eI
    have hi8 : i < 8 := by rw [List.size_toArray] at hi; omega
    obtain ⟨n, un, rfl, _⟩ := hv.at i v (by simpa using hvi)
    have x₂ := x.inn eI
    have Z' : Law w ((X.plus Ln).plus I) gt ug g c' r k := Z.plus
    refine wpAny_assign_Name ?_
    refine s_loc (s := s) F nilN fun h₄ t₄ F₄ _ k₄ => ?_
    have x₄ := LV.loc Z' x₂ F₄ k₄
    refine turnN (s := s) (X := (X.plus Ln).plus I) (no := [I]) (N := 2 * i) (cv := cv) am hfr gk cx hexI (by omega) a4 a5 (by omega) (by omega) Z' x₄ F₄ f1 f2 f3 f4 f5 f7 f8 f9 rfl fun c₅ cost cv₅ h₅ t₅ b1 b2 b3 cap₅ st₅ ex₅ => ?_
    obtain ⟨r₅, k₅, m₅, Z₅, x₅, F₅, g1, g2, g3, g4, g5, g6, g7, g8, g9⟩ := st₅
    dsimp only
    have keepL : ∀ a, a ≠ X.L → a ∈ ((X.plus Ln).plus I).ex → ∀ ob, h₃.get? a = some ob → h₅.get? a = some ob := fun a na ha ob e => by
      rw [ex₅ a ha]; exact k₄ _ _ e fun z => na (List.mem_singleton.mp z)
    have eI' : h₅.get? I = h₃.get? I := by
      obtain ⟨ob, e⟩ := eI
      rw [e]
      exact keepL I (fun e => o.nb (by rw [e]; exact bad_with L_bad)) (by simp [LA.plus]) _ e
    refine ⟨h₅, t₅, rfl, eI', lg ++ [(c₅, cost)], c₅, cv₅, by rw [List.length_append, a1]; rfl, by omega, by omega, b3, cap₅, ⟨r₅, k₅, m₅, Z₅.minus, x₅.out, F₅, g1, g2, g3, g4, g5, g6, g7, g8, g9⟩, ?_⟩
    exact keepL Ln (fun e => nbL (by rw [e]; exact L_bad)) (by simp [LA.plus]) _ hl
  · rintro h₃ t₃ ⟨lg, c', cv, a1, a2, a3, a4, a5, ⟨r, k, m, Z, x, F, f1, f2, f3, f4, f5, f6, f7, f8, f9⟩, hl⟩
    have hz' : vs.toArray.size ≤ 8 := by rw [List.size_toArray]; exact hz
    have x₂ : LV w (X.plus Ln) gt r (X.plus Ln).bad c' k h₃ := x.less fun _ z => List.mem_append_right _ z
    exact q lg (2 * vs.toArray.size) cv c' h₃ t₃ (by omega) (by omega) a5 ⟨r, k, m, Z.minus, x₂.out.less fun _ z => List.mem_append_right _ z, F, f1, f2, f3, f4, f5, f6, f7, f8, fun a ha => nomatch ha⟩
end
end
section
set_option maxHeartbeats 400000
section
variable {w : World} {X : LA} {gt : Gt} {ug : Nat → Tok} {g : Heap} {c c' : Int} {r r' h h' h'' h₁ : Heap} {k k' : LK} {m m' : Str → Option Value} {A : Around} {s : Shared} {t : Nat} {E : Value → Shared → Prop} {I C D : Addr} {bad no : List Addr} {v : VS} {p : Int × Int}
theorem part_int {i : Int} {kk : Nat} {pos : Pos} {env : Env} {Q : Value → Shared → Prop} (q : ∀ u t', Q (.int i u) (stt s h t')) : wpAny (model prog w) A (evalPart (some (.Constant (.int i) kk pos)) env) Q E (stt s h t) := by
  show wpAny _ _ (eval (.Constant (.int i) kk pos) env) _ _ _
  exact c_int q
/-- for n in script[1:6] + [3, 1, 1] -/
theorem l8 {Sc : Addr} {vs : List Value} {ns : List Int} {Q : Flow → Shared → Prop} (am : Amb A 7) (hfr : A.frames = some [lawE X.L]) (gk : g.get? X.S.clk = none) (cx : Cx w g) (hex : X.ex = []) (hb : c + 3000 < 10 ^ 39) (hev : c % 2 = 0)
    (Z : Law w X gt ug g c r k) (x : LV w X gt r X.bad c k h) (F : Fr g X.L h m) (e1 : k.lg = []) (e2 : k.lF = []) (e3 : k.lM = []) (e4 : k.lS = []) (e5 : k.N = 0) (e7 : m (Str.ofString "gate") = some (.ref X.G)) (e8 : m (Str.ofString "log") = some (.ref X.Lg))
    (es : m (Str.ofString "script") = some (.ref Sc)) (hS : g.IsList Sc vs.toArray) (hv : IntsAre vs ns) (hz : vs.length ≤ sizeLine)
    (q : ∀ lg N cv c' h' t', N ≤ 100 → c' < 10 ^ 39 → Cap gt c' lg → St w X gt ug g [] X.bad lg N cv c' h' → Q .next (stt s h' t')) :
    wpAny (model prog w) A (exec (nthS (fBody stLaw) 8) (lawE X.L)) Q E (stt s h t) := by
  show wpAny _ _ (exec (Stmt.For _ _ _ [] _) _) _ _ _
  refine for_K (s := stt s h t) am.hd ?_
  refine wpAny_BinOp ?_
  refine wpAny_Subscript_list_slice ?_
  walk_at "bn"
  refine part_int (s := s) fun u1 t1 => ?_
  refine part_int (s := s) fun u6 t6 => ?_
  refine ⟨Sc, vs.toArray, some 1, some 6, rfl, hS.at (F.keep _), by rw [List.size_toArray]; exact hz, .int 1 u1, .int 6 u6, ?_⟩
  have F₁ := (F.push ({ cls := .type "slice", data := .fields #[.int 1 u1, .int 6 u6, .none] } : Obj)).push ({ cls := .type "list", data := .seq (slicePick vs.toArray (some 1) (some 6) none) } : Obj)
  have k₁ : Keeps [] h ((h.push ({ cls := .type "slice", data := .fields #[.int 1 u1, .int 6 u6, .none] } : Obj)).push ({ cls := .type "list", data := .seq (slicePick vs.toArray (some 1) (some 6) none) } : Obj)) := fun b o e _ => Heap.get?_push_of_some _ (Heap.get?_push_of_some _ e)
  have eS : ((h.push ({ cls := .type "slice", data := .fields #[.int 1 u1, .int 6 u6, .none] } : Obj)).push ({ cls := .type "list", data := .seq (slicePick vs.toArray (some 1) (some 6) none) } : Obj)).get? (h.objs.size + 1) = some { cls := .type "list", data := .seq (slicePick vs.toArray (some 1) (some 6) none) } := by
    have e := Heap.get?_push_size (o := ({ cls := .type "list", data := .seq (slicePick vs.toArray (some 1) (some 6) none) } : Obj)) (h.push ({ cls := .type "slice", data := .fields #[.int 1 u1, .int 6 u6, .none] } : Obj)) rfl
    rwa [Heap.size_push] at e
  show wpAny _ _ _ _ _ (stt s ((h.push ({ cls := .type "slice", data := .fields #[.int 1 u1, .int 6 u6, .none] } : Obj)).push ({ cls := .type "list", data := .seq (slicePick vs.toArray (some 1) (some 6) none) } : Obj)) t6)
  generalize (h.push ({ cls := .type "slice", data := .fields #[.int 1 u1, .int 6 u6, .none] } : Obj)).push ({ cls := .type "list", data := .seq (slicePick vs.toArray (some 1) (some 6) none) } : Obj) = h₁ at F₁ k₁ eS ⊢
  walk_at "bn"
  rename_i a1 b1 a2 b2 a3 b3
  refine n_list (s := s) F₁ nilN (by show (3 : Nat) ≤ sizeLine; decide) fun T h₂ F₂ N₂ k₂ lT => ?_
  have hint := slice_ints_plain hv 1 6
  have hcl : clipAt ns.length 6 - clipAt ns.length 1 ≤ 5 := by
    unfold clipAt
    split <;> split <;> omega
  have hlen : (slicePick vs.toArray (some 1) (some 6) none).toList.length ≤ 5 := by
    rw [hint.length, List.length_take]
    exact Nat.le_trans (Nat.min_le_left _ _) hcl
  refine P.add_list (s := stt s h₂ _) (k₂.all _ _ eS) (N₂.get (.head _)) ?_ (by rw [← Array.length_toList]; exact Nat.le_trans (Nat.add_le_add_right hlen _) (by show 5 + 3 ≤ sizeLine; decide))
  have ek : [] = ([] : List Addr) := rfl
  have kA : Keeps [] h h₂ := k₁.trans k₂
  have nL : h.get? h₂.objs.size = none := TT.none_of kA.all (Heap.get?_none_of_le (Nat.le_refl _))
  refine loopN (s := stt s h t) (h := h) (vs := (slicePick vs.toArray (some 1) (some 6) none).toList ++ [.int 3 a1, .int 1 a2, .int 1 a3]) am hfr gk cx hex hb hev Z x F e1 e2 e3 e4 e5 e7 e8 nL (fun b o e _ => Heap.get?_push_of_some _ (kA.all _ _ e)) ⟨_, Heap.get?_push_size _ rfl, rfl, 0, ?_⟩ (hint.append (.cons _ _ (.cons _ _ (.cons _ _ .nil)))) (by rw [List.length_append]; exact Nat.add_le_add_right hlen 3) q
  simp
/-- the end -/
theorem l9 {lg : List (Int × Int)} {N : Nat} {cv : Option Value} {Q : Flow → Shared → Prop} (am : Amb A 7) (cap : Cap gt c lg)  (st : St w X gt ug g no X.bad lg N cv c h) (q : ∀ h' t', Sub g h' → (∃ ps, h'.get? 921 = some (tabObj ps)) → Q (.ret (.bool true)) (stt s h' t')) :
    wpAny (model prog w) A (exec (nthS (fBody stLaw) 9) (lawE X.L)) Q E (stt s h t) := by
  obtain ⟨r, k, m, Z, x, F, e1, e2, e3, e4, e5, e6, e7, e8, e9⟩ := st
  subst e1
  show wpAny _ _ (exec (Stmt.Return (some _) _) _) _ _ _
  walk_at "bn"
  refine comp_E (cl := [(Str.ofString "who", X.L + 3), (Str.ofString "limiters", X.L + 1), (Str.ofString "items", X.L + 2)]) (by with_unfolding_all rfl) am.hd (by decide) rfl (by decide) rfl ?_
  walk_at "bn"
  refine nm_b F Z.cx (by kernel_rfl) Boot.«range» (by decide) ?_
  walk_at "bn"
  refine w_range1 (s := stt s h t) fun r₀ h₀ t₀ _ _ _ k₀ hr₀ => ?_
  refine SrcK.range (s := stt s h t) (n := 3) hr₀ (by decide) (by decide) (by decide) ?_
  intro I C D h₁ kk lt ltD ltC eI eC eD
  have o := off3 Z x k₀ lt ltD ltC
  refine ⟨fun i ys h' => BJ w X gt g r c k I C D h m h' ∧ IntsAre ys ((lefts gt k.lg c).take i), ⟨BJ.start F x (k₀.trans kk) o, .nil⟩, ?_, fun _ _ _ _ => trivial, ?_, ?_⟩
  · rintro i ys h₂ h' ⟨b, hl⟩ kk
    exact ⟨b.stab o kk, hl⟩
  · rintro i v ys h₂ t₂ oC m₂ E' hi ⟨tk, rfl⟩ ⟨b, hl⟩ eI eD eC hC hv
    have hns := hC.ns eC
    have hx := exBad b.2.1 eI eC eD
    rw [Int.zero_add] at hv
    have rt := Z.z.cx.rt
    refine wpAny_tests_nil ?_
    refine Attribute_any_ ?_
    refine methodCall_KW ?_
    refine lm_call2 (s := s) (u := tk) (i := i) (m_st w) hi b.1 Z.cx b.2.1.sub rt (cnName (env := compEnvC _ _ C _) rfl (ofSub rt.c1 b.2.1.sub)) (fun p => clName (env := compEnvC _ _ C _) hns hv) (cnName (env := compEnvC _ _ C _) rfl (ofSub rt.c2 b.2.1.sub)) (cnName (env := compEnvC _ _ C _) rfl (ofSub rt.c3 b.2.1.sub)) fun t' => ?_
    refine c_stN (s := s) Z.sit3 hx e2 e3 e4 cap b.2.1 am fun as v h' t' x' kk hva R => ?_
    have b' := b.call Z o kk hva x'
    have sm := same3 o kk hva (ex3 eI eC eD)
    obtain ⟨y, a, u, rfl, W⟩ := R.rem
    refine ws_remaining (s := s) (am.mono (by decide)) (Z.cx.keeps b'.1.keep) W.ws rfl fun h'' t'' k'' => ?_
    refine ⟨h'', t'', rfl, fun a ha => ?_, b'.stab o (k''.mono (by simp)), by rw [lefts_take hi]; exact IntsAre.snoc hl⟩
    obtain ⟨ob, e⟩ := ex3 eI eC eD a ha
    rw [e]; exact k''.all _ _ ((sm a ha).trans e)
  · rintro ys h₂ t₂ ⟨b, hi⟩ eD
    have x₂ := b.out
    have F₂ := b.1
    rw [List.take_of_length_le (by exact Nat.le_refl _)] at hi
    obtain ⟨uk, nk, eclk⟩ := clkList Z x₂
    have c8 := clkName Z x₂
    walk_at "bn"
    refine nm_g F₂ Z.cx (gn_ll _) ?_
    refine callWith_D (w := w) (kp_ll _) ?_
    walk_at "bn"
    refine sub_list (s := stt s h₂ _) ⟨_, eclk, rfl, _, rfl⟩ (by decide) (by decide) (show (#[Value.int c uk] : Array Value)[Int.toNat 0]? = some (.int c uk) from rfl) ?_ (by with_unfolding_all rfl)
    walk_at "bn"
    refine ⟨Fr.cx F₂ Z.cx, ?_⟩
    refine left_call (s := s) (am.mono (by decide)) Z x₂ fun D2 n u1 u2 u3 h₃ t₃ x₃ k₃ nD hD e₃ => ?_
    refine ke_eq_ints (s := stt s h₃ _) (lo_list (k₃.all _ _ eD)) (lo_list e₃) hi (.cons _ _ (.cons _ _ (.cons _ _ .nil))) (am.u64 (n := 3)) ?_
    rw [show decide (lefts gt k.lg c = [left1 gt k.lg c, left2 gt k.lg c, left3 gt k.lg c]) = true by simp [lefts]]
    refine q _ _ (fun b o e => k₃.all _ _ (F₂.keep _ _ e)) ?_
    obtain ⟨v, a, _⟩ := x₃
    rcases a.tab with e | ⟨_, e, _⟩
    · exact ⟨_, e⟩
    · exact ⟨_, e⟩
end
end
section
set_option maxHeartbeats 1000000
/-- what was made, out of the way of what turns -/
structure Ld (g : Heap) (H : List Addr) (h : Heap) (ll : List (Addr × Obj)) : Prop where
  l : ∀ p ∈ ll, h.get? p.1 = some p.2 ∧ p.1 ∉ H
  e : ∀ b ∈ H, ∃ o, h.get? b = some o
  n : ∀ b ∈ H, g.get? b = none
  sub : Sub g h
  m : ∀ p ∈ ll, g.get? p.1 = none
section
variable {g h h' : Heap} {H as : List Addr} {l : List (Addr × Obj)} {a : Addr} {o : Obj}
theorem Ld.get (x : Ld g H h l) (hp : (a, o) ∈ l) : h.get? a = some o := (x.l _ hp).1
theorem Ld.turn (x : Ld g H h l) (k : Keeps as h h') (s : ∀ a ∈ as, a ∈ H) (hx : ∀ a ∈ as, ∃ o, h'.get? a = some o) : Ld g H h' l := by
  refine ⟨fun p hp => ⟨k _ _ (x.l p hp).1 fun z => (x.l p hp).2 (s _ z), (x.l p hp).2⟩, fun b hb => ?_, x.n, fun b o e => k _ _ (x.sub _ _ e) fun z => ?_, x.m⟩
  · by_cases hm : b ∈ as
    · exact hx b hm
    · obtain ⟨o, e⟩ := x.e b hb
      exact ⟨o, k _ _ e hm⟩
  · rw [x.n b (s _ z)] at e; cases e
theorem Ld.all (x : Ld g H h l) (k : Keeps [] h h') : Ld g H h' l := x.turn k (fun _ z => nomatch z) (fun _ z => nomatch z)
theorem Ld.off (x : Ld g H h l) (n : h.get? a = none) : a ∉ H := fun z => by obtain ⟨o, e⟩ := x.e a z; rw [n] at e; cases e
theorem Ld.cons (x : Ld g H h l) (k : Keeps [] h h') (n : h.get? a = none) (e : h'.get? a = some o) : Ld g H h' ((a, o) :: l) := by
  have y := x.all k
  refine ⟨fun p hp => ?_, y.e, y.n, y.sub, fun p hp => ?_⟩
  · rcases List.mem_cons.mp hp with rfl | hp
    · exact ⟨e, x.off n⟩
    · exact y.l p hp
  · rcases List.mem_cons.mp hp with rfl | hp
    · exact TT.none_of x.sub n
    · exact y.m p hp
theorem Ld.cons2 (x : Ld g H h l) (n : a ∉ H) (e : h.get? a = some o) (ng : g.get? a = none) : Ld g H h ((a, o) :: l) := by
  refine ⟨fun p hp => ?_, x.e, x.n, x.sub, fun p hp => ?_⟩
  · rcases List.mem_cons.mp hp with rfl | hp
    · exact ⟨e, n⟩
    · exact x.l p hp
  · rcases List.mem_cons.mp hp with rfl | hp
    · exact ng
    · exact x.m p hp
theorem Ld.hide (x : Ld g H h l) (k : Keeps [] h h') (n : ∀ a ∈ as, h.get? a = none) (e : ∀ a ∈ as, ∃ o, h'.get? a = some o) : Ld g (as ++ H) h' l := by
  have y := x.all k
  refine ⟨fun p hp => ⟨(y.l p hp).1, fun z => ?_⟩, fun b hb => ?_, fun b hb => ?_, y.sub, y.m⟩
  · rcases List.mem_append.mp z with z | z
    · have := (x.l p hp).1; rw [n _ z] at this; cases this
    · exact (y.l p hp).2 z
  · rcases List.mem_append.mp hb with z | z
    · exact e b z
    · exact y.e b z
  · rcases List.mem_append.mp hb with z | z
    · exact TT.none_of x.sub (n b z)
    · exact y.n b z
end
section
variable {w : World} {A : Around} {E : Value → Shared → Prop} {s : Shared} {h₀ h : Heap} {t₀ t : Nat} {S : SA} {r g : Heap} {L : Addr} {m : Str → Option Value} {c : Int} {R : Result → Shared → Prop} {C : Addr} {amt per : Int}
theorem lm_new (am : Amb A 2) (cx : Cx w h) (hm : makesIn (K w.params) C = true) (hi : findIn (K w.params) (.ref C) "__init__" = some (some (.ref 188))) (hs : findIn (K w.params) (.ref C) "__setattr__" = some (some (.builtin "object.__setattr__"))) (hp : plainOver (K w.params) C = true) (ht : takerIn (K w.params) C (Str.ofString "storage") = some none) (hd : hasDictIn (K w.params) C = true)
    (q : ∀ x d u n h' t', Keeps [] h h' → h.get? x = none → h.get? d = none → h'.get? x = some ⟨.ref C, some d, .plain, #[]⟩ → h'.get? d = some (dictOf [⟨PyData.keyHash w.params (Str.ofString "storage"), .str (Str.ofString "storage") u, .ref S.self⟩] n) → R (.ok (.ret (.ref x))) (stt s h' t')) :
    codeAny (model prog w) A (.call (.ref C) ⟨[.ref S.self], []⟩) R (stt s h t) := by
  refine mk_obj (s := s) cx.X hm hi (t188 _) fun x dx h₁ k₁ nx nd lt lt2 ex ed => ?_
  have nb : ∀ b o, h.get? b = some o → b ≠ dx := fun b o e z => by rw [z, nd] at e; cases e
  have cx₁ := cx.keeps k₁.all
  have xd : x ≠ dx := Nat.ne_of_gt lt2
  refine enter (s := stt s h₁ t) (n := 0) (am.make.mono (by decide)) cx₁ (k188 _) rfl (binds := [(Str.ofString "self", .ref x), (Str.ofString "storage", .ref S.self)]) [(dx, dictOf [] 0)] (fun p hp => by rw [List.mem_singleton.mp hp]; exact ed) (bindsK cx₁.X fun _ => by kernel_rfl) (locs rfl) (by decide) rfl rfl rfl ?_
  intro g L h₂ hg hL F N k₂
  have xg : g.get? x = some (instObj C dx) := by rw [hg]; exact hideAll_get _ ex (by simpa using xd)
  have cxg : Cx w g := cx.keeps fun b o e => by rw [hg]; exact hideAll_get _ (k₁.all _ _ e) (by simpa using nb b o e)
  refine wpAny_execs_cons ?_
  walk_at "bn"
  refine plainObj_wpAny_Assign_Attribute ?_
  walk_at "bn"
  refine set_dict (s := stt s h₂ _) (es := []) (n := 0) F cxg.X N ⟨F.keep _ _ xg, rfl, rfl, N.get (.head _)⟩ rfl hs hp ht hd rfl rfl (.head (fun _ z => nomatch z)) (by show (1 : Nat) ≤ 1000; decide) fun h₃ F₃ N₃ => ?_
  dsimp only
  refine wpAny_execs_nil ?_
  refine ⟨rfl, q x dx _ _ h₃ _ (fun b o e _ => ?_) nx nd (F₃.keep _ _ xg) (N₃.get (.head _))⟩
  exact F₃.keep _ _ (by rw [hg]; exact hideAll_get _ (k₁.all _ _ e) (by simpa using nb b o e))
set_option maxHeartbeats 1000000 in
theorem it_new {u1 u2 : Tok} (am : Amb A 2) (cx : Cx w h) (h0 : per ≠ 0)
    (q : ∀ x d u1 u2 u3 h' t', Keeps [] h h' → h.get? x = none → h.get? d = none → h'.get? x = some ⟨.ref 567, some d, .plain, #[some (.int amt u3), some (.int per u2), some (.str (Str.ofString "LIMITER") u1)]⟩ → h'.get? d = some (dictOf [] 0) → R (.ok (.ret (.ref x))) (stt s h' t')) :
    codeAny (model prog w) A (.call (.ref 567) ⟨[.int amt u1, .int per u2], []⟩) R (stt s h t) := by
  refine mk_obj (s := s) cx.X (mk567 _) (in567 _) (t505 _) fun x dx h₁ k₁ nx nd lt lt2 ex ed => ?_
  have nb : ∀ b o, h.get? b = some o → b ≠ x := fun b o e z => by rw [z, nx] at e; cases e
  have cx₁ := cx.keeps k₁.all
  have xd : dx ≠ x := Nat.ne_of_lt lt2
  refine enter (s := stt s h₁ t) (n := 0) (am.make.mono (by decide)) cx₁ (k505 _) rfl (binds := [(Str.ofString "self", .ref x), (Str.ofString "amount", .int amt u1), (Str.ofString "multiples", .int per u2), (Str.ofString "namespace", .str (Str.ofString "LIMITER") 1075)]) [(x, instObj 567 dx)] (fun p hp => by rw [List.mem_singleton.mp hp]; exact ex) (bindsK cx₁.X fun _ => by kernel_rfl) (locs rfl) (by decide) rfl rfl rfl ?_
  intro g L h₂ hg hL F N k₂
  have dg : g.get? dx = some (dictOf [] 0) := by rw [hg]; exact hideAll_get _ ed (by simpa using xd)
  have cxg : Cx w g := cx.keeps fun b o e => by rw [hg]; exact hideAll_get _ (k₁.all _ _ e) (by simpa using nb b o e)
  refine wpAny_execs_cons ?_
  walk_at "bn"
  refine plainObj_wpAny_Assign_Attribute ?_
  walk_at "bn"
  refine set_slot (s := stt s h₂ _) (ox' := ⟨.ref 567, some dx, .plain, #[none, none, some (.str (Str.ofString "LIMITER") 1075)]⟩) (od := dictOf [] 0) F cxg.X N ⟨N.get (.head _), rfl, rfl, F.keep _ _ dg⟩ (sa567 _) (po567 _) (tk567n _) (md555 _) (sl555 _) (by decide) rfl rfl (.head (fun _ z => nomatch z)) fun h₃ F₃ N₃ => ?_
  dsimp only
  refine wpAny_execs_cons ?_
  refine plainObj_wpAny_Assign_Attribute ?_
  walk_at "bn"
  refine nm_b F₃ cxg (by kernel_rfl) Boot.«int» (by decide) ?_
  walk_at "bn"
  refine call_int_int ?_
  walk_at "bn"
  refine set_slot (s := stt s h₃ _) (ox' := ⟨.ref 567, some dx, .plain, #[some (.int amt u1), none, some (.str (Str.ofString "LIMITER") 1075)]⟩) (od := dictOf [] 0) F₃ cxg.X N₃ ⟨N₃.get (.head _), rfl, rfl, F₃.keep _ _ dg⟩ (sa567 _) (po567 _) (tk567a _) (md553 _) (sl553 _) (by decide) rfl rfl (.head (fun _ z => nomatch z)) fun h₄ F₄ N₄ => ?_
  dsimp only
  refine wpAny_execs_cons ?_
  refine plainObj_wpAny_Assign_Attribute ?_
  walk_at "bn"
  refine nm_b F₄ cxg (by kernel_rfl) Boot.«int» (by decide) ?_
  walk_at "bn"
  refine BoolOp_or ?_
  walk_at "bn"
  rw [if_pos (by simpa using h0)]
  walk_at "bn"
  refine call_int_int ?_
  walk_at "bn"
  refine set_slot (s := stt s h₄ _) (ox' := ⟨.ref 567, some dx, .plain, #[some (.int amt u1), some (.int per u2), some (.str (Str.ofString "LIMITER") 1075)]⟩) (od := dictOf [] 0) F₄ cxg.X N₄ ⟨N₄.get (.head _), rfl, rfl, F₄.keep _ _ dg⟩ (sa567 _) (po567 _) (tk567m _) (md554 _) (sl554 _) (by decide) rfl rfl (.head (fun _ z => nomatch z)) fun h₅ F₅ N₅ => ?_
  dsimp only
  refine wpAny_execs_nil ?_
  refine ⟨rfl, q x dx _ _ _ h₅ _ (fun b o e _ => ?_) nx nd (N₅.get (.head _)) (F₅.keep _ _ dg)⟩
  exact F₅.keep _ _ (by rw [hg]; exact hideAll_get _ (k₁.all _ _ e) (by simpa using nb b o e))
theorem sto_new {lam : Value} (am : Amb A 8) (cx : Cx w h)
    (q : ∀ x dx C cd Ex V t1 t2 t3 t4 h' t', Keeps [] h h' → (∀ a ∈ [x, dx, C, cd, Ex, V], h.get? a = none) → C ≠ Ex → C ≠ V → Ex ≠ V → Fresh h V → (∀ a ∈ [x, dx, cd], a ∉ [C, Ex, V]) → h'.get? x = some (instObj 972 dx) → h'.get? dx = some (dictOf (stoD w lam (.ref C) (.ref Ex) (.ref V) t1 t2 t3 t4) 4) →
      h'.get? C = some (ctrO cd) → h'.get? cd = some (dictOf [] 0) → h'.get? Ex = some emptyDict → h'.get? V = some emptyDict → R (.ok (.ret (.ref x))) (stt s h' t')) :
    codeAny (model prog w) A (.call (.ref 972) ⟨[lam], []⟩) R (stt s h t) := by
  refine mk_obj (s := s) cx.X (mk972 _) (in972 _) (t867 _) fun x dx h₁ k₁ nx nd lt lt2 ex ed => ?_
  have nb : ∀ b o, h.get? b = some o → b ≠ dx := fun b o e z => by rw [z, nd] at e; cases e
  have cx₁ := cx.keeps k₁.all
  have xd : x ≠ dx := Nat.ne_of_gt lt2
  refine enter (s := stt s h₁ t) (n := 6) (am.make.mono (by decide)) cx₁ (k867 _) rfl (binds := [(Str.ofString "self", .ref x), (Str.ofString "clock", lam)]) [(dx, dictOf [] 0)] (fun p hp => by rw [List.mem_singleton.mp hp]; exact ed) (bindsK cx₁.X fun _ => by kernel_rfl) (locs rfl) (by decide) rfl rfl rfl ?_
  intro g L h₂ hg hL F N k₂
  have xg : g.get? x = some (instObj 972 dx) := by rw [hg]; exact hideAll_get _ ex (by simpa using xd)
  have hkg : ∀ b o, h.get? b = some o → g.get? b = some o := fun b o e => by rw [hg]; exact hideAll_get _ (k₁.all _ _ e) (by simpa using nb b o e)
  have cxg : Cx w g := cx.keeps hkg
  refine wpAny_execs_cons ?_
  walk_at "bn"
  refine plainObj_wpAny_Assign_Attribute ?_
  walk_at "bn"
  refine set_dict (s := stt s h₂ _) (es := []) (n := 0) F cxg.X N ⟨F.keep _ _ xg, rfl, rfl, N.get (.head _)⟩ rfl (sa972 _) (po972 _) (tkA _) (hd972 _) rfl rfl (.head (fun _ z => nomatch z)) (by show (1 : Nat) ≤ 1000; decide) fun h₃ F₃ N₃ => ?_
  dsimp only
  refine wpAny_execs_cons ?_
  refine plainObj_wpAny_Assign_Attribute ?_
  walk_at "bn"
  refine nm_g F₃ cxg (gn_ctr _) ?_
  refine callWith_D0 (w := w) (Fr.cx F₃ cxg) (kp_ctr _) ?_
  refine wpAny_call ?_
  refine ctr_make (s := s) ((am.make.deeper _).mono (by decide)) (cxg.keeps F₃.keep) fun C cd h₄ t₄ k₄ nC ncd ltC eC ecd => ?_
  dsimp only
  have F₄ := fr_all F₃ k₄.all
  have dx3 := N₃.get (.head _)
  have gn : ∀ a, h₃.get? a = none → g.get? a = none := fun a e => TT.none_of F₃.keep e
  have ln : ∀ a, h₃.get? a = none → a ≠ L := fun a e z => by obtain ⟨o, _, _, ho, _⟩ := F₃.ns; rw [z, ho] at e; cases e
  have Cdx : C ≠ dx := fun e => by rw [e, dx3] at nC; cases nC
  have cddx : cd ≠ dx := fun e => by rw [e, dx3] at ncd; cases ncd
  have N₄ : News g L h₄ [(dx, _), (C, ctrO cd), (cd, dictOf [] 0)] := fun p hp => by
    rcases List.mem_cons.mp hp with rfl | hp
    · exact ⟨k₄.all _ _ dx3, (N₃ _ (.head _)).2⟩
    · rcases List.mem_cons.mp hp with rfl | hp
      · exact ⟨eC, ln _ nC, gn _ nC⟩
      · rw [List.mem_singleton.mp hp]
        exact ⟨ecd, ln _ ncd, gn _ ncd⟩
  walk_at "bn"
  refine set_dict (s := stt s h₄ _) F₄ cxg.X N₄ ⟨F₄.keep _ _ xg, rfl, rfl, N₄.get (.head _)⟩ rfl (sa972 _) (po972 _) (tkB _) (hd972 _) rfl rfl (.head (fun p hp => ?_)) (by show (2 : Nat) ≤ 1000; decide) fun h₅ F₅ N₅ => ?_
  · rcases List.mem_cons.mp hp with rfl | hp
    · exact Cdx
    · rw [List.mem_singleton.mp hp]; exact cddx
  dsimp only
  refine wpAny_execs_cons ?_
  refine plainObj_wpAny_Assign_Attribute ?_
  refine wpAny_Dict_empty ?_
  have F₆ := F₅.push emptyDict
  have N₆ := N₅.push F₅ emptyDict
  have ltE : ∀ p ∈ [(dx, _), (C, ctrO cd), (cd, dictOf [] 0)], p.1 < h₅.objs.size := fun p hp => Heap.lt_size (N₅ p hp).1
  walk_at "bn"
  refine set_dict (s := stt s (h₅.push emptyDict) _) F₆ cxg.X N₆ ⟨F₆.keep _ _ xg, rfl, rfl, N₆.get (.tail _ (.head _))⟩ rfl (sa972 _) (po972 _) (tkC _) (hd972 _) rfl rfl (.tail (Nat.ne_of_gt (ltE _ (.head _))) (.head (fun p hp => ?_))) (by show (3 : Nat) ≤ 1000; decide) fun h₇ F₇ N₇ => ?_
  · rcases List.mem_cons.mp hp with rfl | hp
    · exact Cdx
    · rw [List.mem_singleton.mp hp]; exact cddx
  dsimp only
  refine wpAny_execs_cons ?_
  refine plainObj_wpAny_Assign_Attribute ?_
  refine wpAny_Dict_empty ?_
  have F₈ := F₇.push emptyDict
  have N₈ := N₇.push F₇ emptyDict
  walk_at "bn"
  have ltV : ∀ p ∈ [(h₅.objs.size, emptyDict), (dx, _), (C, ctrO cd), (cd, dictOf [] 0)], p.1 < h₇.objs.size := fun p hp => Heap.lt_size (N₇ p hp).1
  refine set_dict (s := stt s (h₇.push emptyDict) _) F₈ cxg.X N₈ ⟨F₈.keep _ _ xg, rfl, rfl, N₈.get (.tail _ (.tail _ (.head _)))⟩ rfl (sa972 _) (po972 _) (tkD _) (hd972 _) rfl rfl (.tail (Nat.ne_of_gt (ltV _ (.tail _ (.head _)))) (.tail (Nat.ne_of_gt (ltE _ (.head _))) (.head (fun p hp => ?_)))) (by show (4 : Nat) ≤ 1000; decide) fun h₉ F₉ N₉ => ?_
  · rcases List.mem_cons.mp hp with rfl | hp
    · exact Cdx
    · rw [List.mem_singleton.mp hp]; exact cddx
  dsimp only
  refine wpAny_execs_nil ?_
  have none3 : ∀ a, h₃.get? a = none → h.get? a = none := fun a e => TT.none_of (fun b o e => F₃.keep _ _ (hkg _ _ e)) e
  have noneP : ∀ H : Heap, (∀ b o, h.get? b = some o → H.get? b = some o) → h.get? H.objs.size = none := fun H k => TT.none_of k (Heap.get?_none_of_le (Nat.le_refl _))
  have nE := noneP h₅ fun b o e => F₅.keep _ _ (hkg _ _ e)
  have nV := noneP h₇ fun b o e => F₇.keep _ _ (hkg _ _ e)
  have hoff : ∀ a ∈ [x, dx, cd], a ∉ [C, h₅.objs.size, h₇.objs.size] := fun a ha z => by
    have x3 := F₃.keep _ _ xg
    have x5 := Heap.lt_size (F₅.keep _ _ xg)
    have x7 := Heap.lt_size (F₇.keep _ _ xg)
    simp only [List.mem_cons, List.not_mem_nil, or_false] at ha z
    rcases ha with rfl | rfl | rfl <;> rcases z with z | z | z
    · rw [z, nC] at x3; cases x3
    · exact Nat.ne_of_lt x5 z
    · exact Nat.ne_of_lt x7 z
    · exact Cdx z.symm
    · exact Nat.ne_of_lt (ltE _ (.head _)) z
    · exact Nat.ne_of_lt (ltV _ (.tail _ (.head _))) z
    · exact Nat.ne_of_lt ltC z
    · exact Nat.ne_of_lt (ltE _ (.tail _ (.tail _ (.head _)))) z
    · exact Nat.ne_of_lt (ltV _ (.tail _ (.tail _ (.tail _ (.head _))))) z
  refine ⟨rfl, q x dx C cd h₅.objs.size h₇.objs.size _ _ _ _ h₉ _ (fun b o e _ => F₉.keep _ _ (hkg _ _ e)) (fun a ha => ?_) (Nat.ne_of_lt (ltE _ (.tail _ (.head _)))) (Nat.ne_of_lt (ltV _ (.tail _ (.tail _ (.head _))))) (Nat.ne_of_lt (ltV _ (.head _))) (fun b o e => Heap.lt_size (F₇.keep _ _ (hkg _ _ e))) hoff (F₉.keep _ _ xg) (N₉.get (.tail _ (.tail _ (.head _)))) (N₉.get (.tail _ (.tail _ (.tail _ (.head _))))) (N₉.get (.tail _ (.tail _ (.tail _ (.tail _ (.head _)))))) (N₉.get (.tail _ (.head _))) (N₉.get (.head _))⟩
  simp only [List.mem_cons, List.not_mem_nil, or_false] at ha
  rcases ha with rfl | rfl | rfl | rfl | rfl | rfl
  · exact nx
  · exact nd
  · exact none3 _ nC
  · exact none3 _ ncd
  · exact nE
  · exact nV
end
end
section
set_option maxHeartbeats 400000
def firstV : List Int → Int | [] => 0 | n :: _ => n
def gtOf (f : Int) : Gt := ⟨2 + f % 3, 5 + f / 3 % 3 * 2, 2 + f / 9 % 3, 3 + f / 27 % 3 * 2, 2 + f / 81 % 4, 3 + f / 324 % 4 * 2⟩
theorem gtOk_of (f : Int) : GtOk (gtOf f) := by
  have h1 := Int.emod_nonneg f (show (3 : Int) ≠ 0 by decide)
  have h2 := Int.emod_lt_of_pos f (show (0 : Int) < 3 by decide)
  have h3 := Int.emod_nonneg (f / 3) (show (3 : Int) ≠ 0 by decide)
  have h4 := Int.emod_lt_of_pos (f / 3) (show (0 : Int) < 3 by decide)
  have h5 := Int.emod_nonneg (f / 9) (show (3 : Int) ≠ 0 by decide)
  have h6 := Int.emod_lt_of_pos (f / 9) (show (0 : Int) < 3 by decide)
  have h7 := Int.emod_nonneg (f / 27) (show (3 : Int) ≠ 0 by decide)
  have h8 := Int.emod_lt_of_pos (f / 27) (show (0 : Int) < 3 by decide)
  have h9 := Int.emod_nonneg (f / 81) (show (4 : Int) ≠ 0 by decide)
  have ha := Int.emod_lt_of_pos (f / 81) (show (0 : Int) < 4 by decide)
  have hb := Int.emod_nonneg (f / 324) (show (4 : Int) ≠ 0 by decide)
  have hc := Int.emod_lt_of_pos (f / 324) (show (0 : Int) < 4 by decide)
  unfold gtOf
  generalize f % 3 = a at *
  generalize f / 3 % 3 = b at *
  generalize f / 9 % 3 = c at *
  generalize f / 27 % 3 = d at *
  generalize f / 81 % 4 = e at *
  generalize f / 324 % 4 = g at *
  constructor <;> dsimp only <;> omega
def clk0 (f : Int) : Int := 20 + f / 1296 % 10 ^ 30 * 2
theorem clk0_ok (f : Int) : 20 ≤ clk0 f ∧ clk0 f % 2 = 0 ∧ clk0 f < 10 ^ 32 := by
  have h1 := Int.emod_nonneg (f / 1296) (show (10 ^ 30 : Int) ≠ 0 by decide)
  have h2 := Int.emod_lt_of_pos (f / 1296) (show (0 : Int) < 10 ^ 30 by decide)
  unfold clk0
  generalize f / 1296 % 10 ^ 30 = a at *
  omega
section
variable {w : World} {g : Heap} {L : Addr} {h h' h₁ : Heap} {m m' : Str → Option Value} {A : Around} {s : Shared} {t : Nat} {E : Value → Shared → Prop} {H : List Addr} {l : List (Addr × Obj)} {Q : Flow → Shared → Prop}
/-- first = script[0] if script else 0 -/
theorem l0 {Sc : Addr} {vs : List Value} {ns : List Int} (F : Fr g L h m) (es : m (Str.ofString "script") = some (.ref Sc)) (hS : g.IsList Sc vs.toArray) (hv : IntsAre vs ns) (hz : vs.length ≤ sizeLine)
    (q : ∀ u h' t', Fr g L h' (fun y => if y = Str.ofString "first" then some (.int (firstV ns) u) else m y) → Keeps [L] h h' → Q .next (stt s h' t')) :
    wpAny (model prog w) A (exec (nthS (fBody stLaw) 0) (lawE L)) Q E (stt s h t) := by
  show wpAny _ _ (exec (Stmt.Assign [Expr.Name _ _] _ _) _) _ _ _
  have hz' : (vs.length : Int) < 2 ^ 63 := by
    have : sizeLine < 2 ^ 63 := by decide
    omega
  walk_at "bn"
  refine wpAny_truthy_list (s := stt s h _) (hS.at (F.keep _)) (by rw [List.size_toArray]; exact hz') ?_
  cases hv with
  | nil =>
    rw [show (!(([] : List Value).toArray).isEmpty) = false from rfl, if_neg Bool.false_ne_true]
    refine c_int (s := s) fun u t' => ?_
    refine s_loc (s := s) F nilN fun h₁ t₁ F₁ _ k₁ => ?_
    exact q _ h₁ _ F₁ k₁
  | cons n u hr =>
    rename_i vs' ns'
    rw [show (!((Value.int n u :: vs').toArray).isEmpty) = true by simp, if_pos rfl]
    walk_at "bn"
    refine sub_list (s := stt s h _) (hS.at (F.keep _)) (by decide) (by decide) (show ((Value.int n u :: vs').toArray)[Int.toNat 0]? = some (.int n u) by simp) ?_ (by with_unfolding_all rfl)
    refine s_loc (s := s) F nilN fun h₁ t₁ F₁ _ k₁ => ?_
    exact q _ h₁ _ F₁ k₁
/-- gate = [...] -/
theorem l1 {f : Int} {u0 : Tok} (hh : A.handled = none) (F : Fr g L h m) (x : Ld g H h l) (hL : L ∈ H) (ef : m (Str.ofString "first") = some (.int f u0))
    (q : ∀ G ug n h' t', Fr g L h' (fun y => if y = Str.ofString "gate" then some (.ref G) else m y) → Keeps [L] h h' → Ld g H h' ((G, listO (gateV (gtOf f) ug) n) :: l) → Q .next (stt s h' t')) :
    wpAny (model prog w) A (exec (nthS (fBody stLaw) 1) (lawE L)) Q E (stt s h t) := by
  show wpAny _ _ (exec (Stmt.Assign [Expr.Name _ _] _ _) _) _ _ _
  walk_at "bn"
  refine b_mod (s := s) hh (by decide) fun a1 _ => ?_
  walk_at "bn"
  refine b_div (s := s) (by decide) (by decide) fun _ _ => ?_
  walk_at "bn"
  refine b_mod (s := s) hh (by decide) fun _ _ => ?_
  walk_at "bn"
  refine b_mulR (s := s) ⟨by decide, by decide⟩ fun _ _ => ?_
  walk_at "bn"
  refine b_div (s := s) (by decide) (by decide) fun _ _ => ?_
  walk_at "bn"
  refine b_mod (s := s) hh (by decide) fun _ _ => ?_
  walk_at "bn"
  refine b_div (s := s) (by decide) (by decide) fun _ _ => ?_
  walk_at "bn"
  refine b_mod (s := s) hh (by decide) fun _ _ => ?_
  walk_at "bn"
  refine b_mulR (s := s) ⟨by decide, by decide⟩ fun _ _ => ?_
  walk_at "bn"
  refine b_div (s := s) (by decide) (by decide) fun _ _ => ?_
  walk_at "bn"
  refine b_mod (s := s) hh (by decide) fun _ _ => ?_
  walk_at "bn"
  refine b_div (s := s) (by decide) (by decide) fun _ _ => ?_
  walk_at "bn"
  refine b_mod (s := s) hh (by decide) fun _ _ => ?_
  walk_at "bn"
  refine b_mulR (s := s) ⟨by decide, by decide⟩ fun _ _ => ?_
  walk_at "bn"
  refine n_list (s := s) F nilN (by show (6 : Nat) ≤ sizeLine; decide) fun G h₁ F₁ N₁ k₁ lG => ?_
  have e := N₁.get (.head _)
  have nG : h.get? G = none := by
    cases e : h.get? G with
    | none => rfl
    | some o => exact absurd (lG _ _ e) (Nat.lt_irrefl _)
  refine s_loc (s := s) F₁ nilN fun h₂ t₂ F₂ _ k₂ => ?_
  have xL : ∀ a ∈ [L], ∃ o, h₂.get? a = some o := fun a ha => by
    rw [List.mem_singleton.mp ha]
    obtain ⟨o, _, _, e, _⟩ := F₂.ns
    exact ⟨o, e⟩
  obtain ⟨ug, hug⟩ : ∃ ug : Nat → Tok, h₁.get? G = some (listO (gateV (gtOf f) ug) 0) := ⟨fun i => ([_, _, _, _, _, _] : List Tok).getD i 0, e⟩
  exact q G ug 0 h₂ _ F₂ (fun b o e n => k₂ b o (k₁.all _ _ e) n) ((x.cons k₁ nG hug).turn k₂ (fun a ha => by rw [List.mem_singleton.mp ha]; exact hL) xL)
/-- clock = [...] -/
theorem l2 {f : Int} {u0 : Tok} {v₀ : Option Value} (hh : A.handled = none) (F : Fr g L h m) (x : Ld g H h l) (hL : L + 8 ∈ H) (c8 : h.IsCell (L + 8) v₀) (ef : m (Str.ofString "first") = some (.int f u0))
    (q : ∀ C u n h' t', Fr g L h' m → Keeps [L + 8] h h' → h'.IsCell (L + 8) (some (.ref C)) → Ld g H h' ((C, clkO (clk0 f) u n) :: l) → Q .next (stt s h' t')) :
    wpAny (model prog w) A (exec (nthS (fBody stLaw) 2) (lawE L)) Q E (stt s h t) := by
  show wpAny _ _ (exec (Stmt.Assign [Expr.Name _ _] _ _) _) _ _ _
  walk_at "bn"
  refine b_div (s := s) (by decide) (by decide) fun _ _ => ?_
  walk_at "bn"
  refine pow_int_small (s := stt s h _) (by decide) (by decide) (by decide) ?_
  refine b_mod (s := s) hh (by decide) fun _ _ => ?_
  walk_at "bn"
  refine b_mulR (s := s) ⟨by decide, by decide⟩ fun _ _ => ?_
  walk_at "bn"
  refine n_list (s := s) F nilN (by show (1 : Nat) ≤ sizeLine; decide) fun C h₁ F₁ N₁ k₁ lC => ?_
  have e := N₁.get (.head _)
  have nC : h.get? C = none := by
    cases e : h.get? C with
    | none => rfl
    | some o => exact absurd (lC _ _ e) (Nat.lt_irrefl _)
  have c8' := IsCell.keepsK c8 k₁ (by simp)
  refine s_cell (s := s) (c := L + 8) rfl c8' fun h₂ c8'' sb => ?_
  have kk := Keeps.of_same sb
  have e1 : ∀ a ∈ [L + 8], a = L + 8 := fun a ha => List.mem_singleton.mp ha
  obtain ⟨u, hu⟩ : ∃ u : Tok, h₁.get? C = some (clkO (clk0 f) u 0) := ⟨_, e⟩
  refine q C u 0 h₂ _ (fr_after F₁ kk (fun z => absurd (e1 _ z) (Nat.ne_of_lt (Nat.lt_add_of_pos_right (by decide)))) fun a ha => by rw [e1 a ha]; exact x.n _ hL) (fun b o e n => kk b o (k₁.all _ _ e) n) c8'' ((x.cons k₁ nC hu).turn kk (fun a ha => by rw [e1 a ha]; exact hL) fun a ha => by rw [e1 a ha]; exact IsCell.ex c8'')
end
end
section
set_option maxHeartbeats 400000
theorem gn_sto (P : Params) : nsIn (K P) mainGlobals (Str.ofString "MemoryStorage") = some (some (.ref 972)) := by kernel_rfl
theorem kp_sto (P : Params) : keepIn (K P) (.ref 972) = true := by kernel_rfl
theorem cd983 {w : World} {g : Heap} (cx : Cx w g) : CodeHd g 983 981 := ⟨_, _, _, _, _, _, _, _, _, cx.X _ _ (k983 _), rfl, rfl, rfl, rfl, rfl, rfl, rfl, rfl, by decide⟩
abbrev lawQ : Str := Str.ofString "law.<locals>.<lambda>"
abbrev lamF (L : Addr) (pm : Value) (c' : Addr) (ctv : Value) : Obj := kla_obj (Str.ofString "<lambda>") lawQ lamA lamB lamS [(Str.ofString "clock", L + 8)] pm c' ctv
section
variable {w : World} {g : Heap} {L : Addr} {h h' h₁ : Heap} {m m' : Str → Option Value} {A : Around} {s : Shared} {t : Nat} {E : Value → Shared → Prop} {H : List Addr} {l : List (Addr × Obj)} {Q : Value → Shared → Prop}
theorem mk_lawlam {pos : Pos} {fl : Nat} (F : Fr g L h m) (cx : Cx w g) (x : Ld g (L :: 981 :: H) h l) (t9 : h.get? 981 = some (tabObj #[])) (nL : L ∉ H) (nL9 : L ≠ 981) (n9 : 981 ∉ H)
    (q : ∀ f c' oc vs tq ctv pm h' t', Fr g L h' m → (∀ b ∈ H, h'.get? b = h.get? b) → (∃ ps, h'.get? 981 = some (tabObj ps)) → oc.data = .fields vs → vs[1]? = some (.str lawQ tq) → Ld g (L :: 981 :: H) h' ((f, lamF L pm c' ctv) :: (c', oc) :: l) → Q (.ref f) (stt s h' t')) :
    wpAny (model prog w) A (makeFunction (Str.ofString "<lambda>") lawQ lamA (.expr lamB) lamS (lawE L) [] [] [] pos fl) Q E (stt s h t) := by
  obtain ⟨p, loose, mean, mg, mb, T⟩ := cx.T
  obtain ⟨st, e1, e2⟩ := ledger_ex H fun a ha => x.e a (.tail _ (.tail _ ha))
  have stH : ∀ p ∈ st, p.1 ∈ H := fun p hp => by rw [← e1]; exact List.mem_map_of_mem hp
  refine kla_nest (s := stt s h t) (news := (981, tabObj #[]) :: (st ++ l)) (ps := #[]) F (fun p hp => ?_) T (cd983 cx) rfl (.head (fun p hp => ?_)) trivial (by rfl) (by with_unfolding_all rfl) fun f c' oc vs tq ctv h' tk F' N' hd hv hlt hf => ?_
  · rcases List.mem_cons.mp hp with rfl | hp
    · exact ⟨t9, nL9.symm, x.n _ (by simp)⟩
    · rcases List.mem_append.mp hp with hp | hp
      · exact ⟨e2 p hp, fun z => nL (z ▸ stH p hp), x.n _ (.tail _ (.tail _ (stH p hp)))⟩
      · have := x.l p hp
        exact ⟨this.1, fun z => this.2 (z ▸ .head _), x.m p hp⟩
  · rcases List.mem_append.mp hp with hp | hp
    · exact fun z => n9 (z ▸ stH p hp)
    · exact fun z => (x.l p hp).2 (z ▸ .tail _ (.head _))
  have nf := N' (f, _) (.head _)
  have nc' := N' (c', oc) (.tail _ (.head _))
  have n981 := N' (981, _) (.tail _ (.tail _ (.head _)))
  have nst : ∀ p ∈ st, h'.get? p.1 = some p.2 := fun p hp => (N' p (.tail _ (.tail _ (.tail _ (List.mem_append_left _ hp))))).1
  have nl : ∀ p ∈ l, h'.get? p.1 = some p.2 := fun p hp => (N' p (.tail _ (.tail _ (.tail _ (List.mem_append_right _ hp))))).1
  have ltH : ∀ b ∈ L :: 981 :: H, b ≠ L → b < c' := fun b hb nb => by
    rcases List.mem_cons.mp hb with rfl | hb
    · exact absurd rfl nb
    · rcases List.mem_cons.mp hb with rfl | hb
      · exact hlt (981, _) (.head _)
      · rw [← e1] at hb
        obtain ⟨p, hp, rfl⟩ := List.mem_map.mp hb
        exact hlt p (.tail _ (List.mem_append_left _ hp))
  have offc : c' ∉ L :: 981 :: H := fun z => Nat.lt_irrefl _ (ltH c' z nc'.2.1)
  have offf : f ∉ L :: 981 :: H := fun z => Nat.lt_irrefl _ (Nat.lt_trans (ltH f z nf.2.1) hf)
  have y : Ld g (L :: 981 :: H) h' l := by
    refine ⟨fun p hp => ⟨nl p hp, (x.l p hp).2⟩, fun b hb => ?_, x.n, F'.keep, x.m⟩
    rcases List.mem_cons.mp hb with rfl | hb
    · obtain ⟨o, _, _, e, _⟩ := F'.ns
      exact ⟨o, e⟩
    · rcases List.mem_cons.mp hb with rfl | hb
      · exact ⟨_, n981.1⟩
      · rw [← e1] at hb
        obtain ⟨p, hp, rfl⟩ := List.mem_map.mp hb
        exact ⟨_, nst p hp⟩
  refine q f c' oc vs tq ctv _ h' tk F' (fun b hb => ?_) ⟨_, n981.1⟩ hd hv ((y.cons2 offc nc'.1 nc'.2.2).cons2 offf nf.1 nf.2.2)
  rw [← e1] at hb
  obtain ⟨p, hp, rfl⟩ := List.mem_map.mp hb
  rw [nst p hp, e2 p hp]
/-- store = MemoryStorage(lambda: clock[0]) -/
theorem l3 {Q : Flow → Shared → Prop} (am : Amb A 9) (F : Fr g L h m) (cx : Cx w g) (x : Ld g (L :: 981 :: H) h l) (t9 : h.get? 981 = some (tabObj #[])) (nL : L ∉ H) (nL9 : L ≠ 981) (n9 : 981 ∉ H)
    (q : ∀ sx dx C cd Ex V t1 t2 t3 t4 f c' oc vs tq ctv pm h' t', Fr g L h' (fun y => if y = Str.ofString "store" then some (.ref sx) else m y) → (∀ b ∈ H, h'.get? b = h.get? b) → (∃ ps, h'.get? 981 = some (tabObj ps)) → oc.data = .fields vs → vs[1]? = some (.str lawQ tq) → C ≠ Ex → C ≠ V → Ex ≠ V → (∀ a ∈ [C, Ex, V], a ∉ L :: 981 :: H) → L < V →
      h'.get? C = some (ctrO cd) → h'.get? Ex = some emptyDict → h'.get? V = some emptyDict → Ld g ([C, Ex, V] ++ L :: 981 :: H) h' ((sx, instObj 972 dx) :: (dx, dictOf (stoD w (.ref f) (.ref C) (.ref Ex) (.ref V) t1 t2 t3 t4) 4) :: (cd, dictOf [] 0) :: (f, lamF L pm c' ctv) :: (c', oc) :: l) → Q .next (stt s h' t')) :
    wpAny (model prog w) A (exec (nthS (fBody stLaw) 3) (lawE L)) Q E (stt s h t) := by
  show wpAny _ _ (exec (Stmt.Assign [Expr.Name _ _] _ _) _) _ _ _
  walk_at "bn"
  refine nm_g F cx (gn_sto _) ?_
  refine callWith_D (w := w) (kp_sto _) ?_
  walk_at "bn"
  refine kla_eval rfl ?_
  refine mk_lawlam (s := s) F cx x t9 nL nL9 n9 fun f c' oc vs tq ctv pm h₁ t₁ F₁ sm ⟨ps, e9⟩ hd hv y => ?_
  walk_at "bn"
  refine ⟨Fr.cx F₁ cx, ?_⟩
  refine wpAny_call ?_
  refine sto_new (s := s) (am.mono (by decide)) (cx.keeps F₁.keep) fun sx dx C cd Ex V q1 q2 q3 q4 h₂ t₂ k₂ hn nCE nCV nEV fV hoff esx edx eC ecd eE eV => ?_
  dsimp only
  have F₂ := fr_all F₁ k₂.all
  have hz : Ld g ([C, Ex, V] ++ L :: 981 :: H) h₂ ((f, lamF L pm c' ctv) :: (c', oc) :: l) := y.hide k₂ (fun a ha => hn a (by simp only [List.mem_cons, List.not_mem_nil, or_false] at ha ⊢; rcases ha with h | h | h <;> simp [h])) (fun a ha => by
    simp only [List.mem_cons, List.not_mem_nil, or_false] at ha
    rcases ha with rfl | rfl | rfl
    · exact ⟨_, eC⟩
    · exact ⟨_, eE⟩
    · exact ⟨_, eV⟩)
  have offH : ∀ a ∈ [sx, dx, cd], a ∉ [C, Ex, V] ++ L :: 981 :: H := fun a ha z => by
    rcases List.mem_append.mp z with z | z
    · exact hoff a ha z
    · exact y.off (hn a (by simp only [List.mem_cons, List.not_mem_nil, or_false] at ha ⊢; rcases ha with h | h | h <;> simp [h])) z
  have ng : ∀ a ∈ [sx, dx, cd], g.get? a = none := fun a ha => TT.none_of y.sub (hn a (by simp only [List.mem_cons, List.not_mem_nil, or_false] at ha ⊢; rcases ha with h | h | h <;> simp [h]))
  have w₂ := ((hz.cons2 (offH cd (by simp)) ecd (ng cd (by simp))).cons2 (offH dx (by simp)) edx (ng dx (by simp))).cons2 (offH sx (by simp)) esx (ng sx (by simp))
  have hLV : L < V := by obtain ⟨o, _, _, e, _⟩ := F₁.ns; exact fV _ _ e
  refine s_loc (s := s) F₂ nilN fun h₃ t₃ F₃ _ k₃ => ?_
  have hLin : L ∈ [C, Ex, V] ++ L :: 981 :: H := by simp
  have nCL : ∀ a ∈ [C, Ex, V], a ∉ [L] := fun a ha z => y.off (hn a (by simp only [List.mem_cons, List.not_mem_nil, or_false] at ha ⊢; rcases ha with h | h | h <;> simp [h])) (by rw [List.mem_singleton.mp z]; simp)
  have w₃ := w₂.turn k₃ (fun a ha => by rw [List.mem_singleton.mp ha]; exact hLin) (fun a ha => by
    rw [List.mem_singleton.mp ha]
    obtain ⟨o, _, _, e, _⟩ := F₃.ns
    exact ⟨o, e⟩)
  refine q sx dx C cd Ex V q1 q2 q3 q4 f c' oc vs tq ctv pm h₃ _ F₃ (fun b hb => ?_) ⟨ps, k₃ _ _ (k₂.all _ _ e9) (fun z => nL9 (List.mem_singleton.mp z).symm)⟩ hd hv nCE nCV nEV (fun a ha => y.off (hn a (by simp only [List.mem_cons, List.not_mem_nil, or_false] at ha ⊢; rcases ha with h | h | h <;> simp [h]))) hLV (k₃ _ _ eC (nCL _ (by simp))) (k₃ _ _ eE (nCL _ (by simp))) (k₃ _ _ eV (nCL _ (by simp))) w₃
  rw [← sm b hb]
  obtain ⟨o, e⟩ := y.e b (.tail _ (.tail _ hb))
  rw [e]
  exact k₃ _ _ (k₂.all _ _ e) fun z => nL (List.mem_singleton.mp z ▸ hb)
end
end
section
set_option maxHeartbeats 400000
theorem gn_l1 (P : Params) : nsIn (K P) mainGlobals (Str.ofString "FixedWindowRateLimiter") = some (some (.ref 280)) := by kernel_rfl
theorem gn_l2 (P : Params) : nsIn (K P) mainGlobals (Str.ofString "MovingWindowRateLimiter") = some (some (.ref 241)) := by kernel_rfl
theorem gn_l3 (P : Params) : nsIn (K P) mainGlobals (Str.ofString "SlidingWindowCounterRateLimiter") = some (some (.ref 335)) := by kernel_rfl
theorem gn_it (P : Params) : nsIn (K P) mainGlobals (Str.ofString "RateLimitItemPerSecond") = some (some (.ref 567)) := by kernel_rfl
theorem kp_l1 (P : Params) : keepIn (K P) (.ref 280) = true := by kernel_rfl
theorem kp_l2 (P : Params) : keepIn (K P) (.ref 241) = true := by kernel_rfl
theorem kp_l3 (P : Params) : keepIn (K P) (.ref 335) = true := by kernel_rfl
theorem kp_it (P : Params) : keepIn (K P) (.ref 567) = true := by kernel_rfl
def limO (C d : Addr) : Obj := ⟨.ref C, some d, .plain, #[]⟩
def limD (w : World) (S : SA) (u : Tok) (n : Nat) : Obj := dictOf [⟨PyData.keyHash w.params (Str.ofString "storage"), .str (Str.ofString "storage") u, .ref S.self⟩] n
def itmO (d : Addr) (a p : Int) (u1 u2 u3 : Tok) : Obj := ⟨.ref 567, some d, .plain, #[some (.int a u3), some (.int p u2), some (.str (Str.ofString "LIMITER") u1)]⟩
section
variable {w : World} {g : Heap} {L : Addr} {h h' h₁ : Heap} {m m' : Str → Option Value} {A : Around} {s : Shared} {t : Nat} {E : Value → Shared → Prop} {H : List Addr} {l : List (Addr × Obj)} {Q : Flow → Shared → Prop} {S : SA}
theorem Ld.pair {x d : Addr} {ox od : Obj} (y : Ld g H h l) (k : Keeps [] h h') (nx : h.get? x = none) (nd : h.get? d = none) (ex : h'.get? x = some ox) (ed : h'.get? d = some od) : Ld g H h' ((x, ox) :: (d, od) :: l) :=
  (y.cons k nd ed).cons2 (y.off nx) ex (TT.none_of y.sub nx)
theorem fresh_none {a : Addr} (lt : ∀ b o, h.get? b = some o → b < a) : h.get? a = none := by
  cases e : h.get? a with
  | none => rfl
  | some o => exact absurd (lt _ _ e) (Nat.lt_irrefl _)
/-- a cell of the law's is stored -/
theorem cell_step {c : Addr} {v : Option Value} (y : Ld g H h l) (F : Fr g L h m) (hc : c ∈ H) (hL : L ≠ c) (sb : Heap.SameBut c h h') (e : h'.IsCell c v) : Fr g L h' m ∧ Ld g H h' l :=
  ⟨fr_after F (Keeps.of_same sb) (fun z => hL (List.mem_singleton.mp z)) fun a ha => by rw [List.mem_singleton.mp ha]; exact y.n _ hc, y.turn (Keeps.of_same sb) (fun a ha => by rw [List.mem_singleton.mp ha]; exact hc) fun a ha => by rw [List.mem_singleton.mp ha]; exact IsCell.ex e⟩
theorem loc_step (y : Ld g H h l) (F' : Fr g L h' m') (hL : L ∈ H) (k : Keeps [L] h h') : Ld g H h' l := y.turn k (fun a ha => by rw [List.mem_singleton.mp ha]; exact hL) fun a ha => by
  rw [List.mem_singleton.mp ha]
  obtain ⟨o, _, _, e, _⟩ := F'.ns
  exact ⟨o, e⟩
/-- limiters = [...] -/
theorem l4 {v₀ : Option Value} (am : Amb A 3) (cx : Cx w g) (F : Fr g L h m) (x : Ld g H h l) (hL : L + 1 ∈ H) (c1 : h.IsCell (L + 1) v₀) (es : m (Str.ofString "store") = some (.ref S.self))
    (q : ∀ x1 d1 u1 n1 x2 d2 u2 n2 x3 d3 u3 n3 LL n h' t', Fr g L h' m → Keeps [L + 1] h h' → h'.IsCell (L + 1) (some (.ref LL)) → Ld g H h' ((LL, listO [.ref x1, .ref x2, .ref x3] n) :: (x3, limO 335 d3) :: (d3, limD w S u3 n3) :: (x2, limO 241 d2) :: (d2, limD w S u2 n2) :: (x1, limO 280 d1) :: (d1, limD w S u1 n1) :: l) → Q .next (stt s h' t')) :
    wpAny (model prog w) A (exec (nthS (fBody stLaw) 4) (lawE L)) Q E (stt s h t) := by
  show wpAny _ _ (exec (Stmt.Assign [Expr.Name _ _] _ _) _) _ _ _
  walk_at "bn"
  refine nm_g F cx (gn_l1 _) ?_
  refine callWith_D (w := w) (kp_l1 _) ?_
  walk_at "bn"
  refine ⟨Fr.cx F cx, ?_⟩
  refine wpAny_call ?_
  refine lm_new (s := s) (S := S) (am.mono (by decide)) (cx.keeps F.keep) (mk280 _) (in280 _) (sa280 _) (po280 _) (tk280 _) (hd280 _) fun x1 d1 u1 n1 h₁ t₁ k₁ nx1 nd1 ex1 ed1 => ?_
  have F₁ := fr_all F k₁.all
  have y₁ := x.pair (ox := limO 280 d1) (od := limD w S u1 n1) k₁ nx1 nd1 ex1 ed1
  walk_at "bn"
  refine nm_g F₁ cx (gn_l2 _) ?_
  refine callWith_D (w := w) (kp_l2 _) ?_
  walk_at "bn"
  refine ⟨Fr.cx F₁ cx, ?_⟩
  refine wpAny_call ?_
  refine lm_new (s := s) (S := S) (am.mono (by decide)) (cx.keeps F₁.keep) (mk241 _) (in241 _) (sa241 _) (po241 _) (tk241 _) (hd241 _) fun x2 d2 u2 n2 h₂ t₂ k₂ nx2 nd2 ex2 ed2 => ?_
  have F₂ := fr_all F₁ k₂.all
  have y₂ := y₁.pair (ox := limO 241 d2) (od := limD w S u2 n2) k₂ nx2 nd2 ex2 ed2
  walk_at "bn"
  refine nm_g F₂ cx (gn_l3 _) ?_
  refine callWith_D (w := w) (kp_l3 _) ?_
  walk_at "bn"
  refine ⟨Fr.cx F₂ cx, ?_⟩
  refine wpAny_call ?_
  refine lm_new (s := s) (S := S) (am.mono (by decide)) (cx.keeps F₂.keep) (mk335 _) (in335 _) (sa335 _) (po335 _) (tk335 _) (hd335 _) fun x3 d3 u3 n3 h₃ t₃ k₃ nx3 nd3 ex3 ed3 => ?_
  have F₃ := fr_all F₂ k₃.all
  have y₃ := y₂.pair (ox := limO 335 d3) (od := limD w S u3 n3) k₃ nx3 nd3 ex3 ed3
  walk_at "bn"
  refine n_list (s := s) F₃ nilN (by show (3 : Nat) ≤ sizeLine; decide) fun LL h₄ F₄ N₄ k₄ lL => ?_
  have y₄ := y₃.cons (o := listO [.ref x1, .ref x2, .ref x3] 0) k₄ (fresh_none lL) (N₄.get (.head _))
  have kk : Keeps [] h h₄ := ((k₁.trans k₂).trans k₃).trans k₄
  have c1' := IsCell.keepsK c1 kk (by simp)
  refine s_cell (s := s) (c := L + 1) rfl c1' fun h₅ c1'' sb => ?_
  obtain ⟨F₅, y₅⟩ := cell_step y₄ F₄ hL (Nat.ne_of_lt (Nat.lt_succ_self _)) sb c1''
  exact q x1 d1 u1 n1 x2 d2 u2 n2 x3 d3 u3 n3 LL 0 h₅ _ F₅ (fun b o e n => Keeps.of_same sb b o (kk.all _ _ e) n) c1'' y₅
/-- items = [...] -/
theorem l5 {gt : Gt} {ug : Nat → Tok} {G : Addr} {n : Nat} {v₀ : Option Value} (am : Amb A 3) (cx : Cx w g) (gk : GtOk gt) (F : Fr g L h m) (x : Ld g H h l) (hL : L + 2 ∈ H) (c2 : h.IsCell (L + 2) v₀) (eg : m (Str.ofString "gate") = some (.ref G)) (hG : (G, listO (gateV gt ug) n) ∈ l)
    (q : ∀ x1 d1 u1 v1 w1 x2 d2 u2 v2 w2 x3 d3 u3 v3 w3 LI n h' t', Fr g L h' m → Keeps [L + 2] h h' → h'.IsCell (L + 2) (some (.ref LI)) → Ld g H h' ((LI, listO [.ref x1, .ref x2, .ref x3] n) :: (x3, itmO d3 gt.e gt.f u3 v3 w3) :: (d3, dictOf [] 0) :: (x2, itmO d2 gt.c gt.d u2 v2 w2) :: (d2, dictOf [] 0) :: (x1, itmO d1 gt.a gt.b u1 v1 w1) :: (d1, dictOf [] 0) :: l) → Q .next (stt s h' t')) :
    wpAny (model prog w) A (exec (nthS (fBody stLaw) 5) (lawE L)) Q E (stt s h t) := by
  have b5 := gk.b5
  have d3' := gk.d3
  have f3 := gk.f3
  show wpAny _ _ (exec (Stmt.Assign [Expr.Name _ _] _ _) _) _ _ _
  walk_at "bn"
  refine nm_g F cx (gn_it _) ?_
  refine callWith_D (w := w) (kp_it _) ?_
  walk_at "bn"
  have e0 := x.get hG
  refine sub_list (s := stt s h _) (lo_list e0) (by decide) (by decide) (show ((gateV gt ug).toArray)[Int.toNat 0]? = some (.int gt.a (ug 0)) from rfl) ?_ (by with_unfolding_all rfl)
  walk_at "bn"
  refine sub_list (s := stt s h _) (lo_list e0) (by decide) (by decide) (show ((gateV gt ug).toArray)[Int.toNat 1]? = some (.int gt.b (ug 1)) from rfl) ?_ (by with_unfolding_all rfl)
  walk_at "bn"
  refine ⟨Fr.cx F cx, ?_⟩
  refine wpAny_call ?_
  refine it_new (s := s) (am.mono (by decide)) (cx.keeps F.keep) (by omega) fun x1 d1 u1 v1 w1 h₁ t₁ k₁ nx1 nd1 ex1 ed1 => ?_
  have F₁ := fr_all F k₁.all
  have y₁ := x.pair (ox := itmO d1 gt.a gt.b u1 v1 w1) (od := dictOf [] 0) k₁ nx1 nd1 ex1 ed1
  walk_at "bn"
  refine nm_g F₁ cx (gn_it _) ?_
  refine callWith_D (w := w) (kp_it _) ?_
  walk_at "bn"
  have e1 := k₁.all _ _ e0
  refine sub_list (s := stt s h₁ _) (lo_list e1) (by decide) (by decide) (show ((gateV gt ug).toArray)[Int.toNat 2]? = some (.int gt.c (ug 2)) from rfl) ?_ (by with_unfolding_all rfl)
  walk_at "bn"
  refine sub_list (s := stt s h₁ _) (lo_list e1) (by decide) (by decide) (show ((gateV gt ug).toArray)[Int.toNat 3]? = some (.int gt.d (ug 3)) from rfl) ?_ (by with_unfolding_all rfl)
  walk_at "bn"
  refine ⟨Fr.cx F₁ cx, ?_⟩
  refine wpAny_call ?_
  refine it_new (s := s) (am.mono (by decide)) (cx.keeps F₁.keep) (by omega) fun x2 d2 u2 v2 w2 h₂ t₂ k₂ nx2 nd2 ex2 ed2 => ?_
  have F₂ := fr_all F₁ k₂.all
  have y₂ := y₁.pair (ox := itmO d2 gt.c gt.d u2 v2 w2) (od := dictOf [] 0) k₂ nx2 nd2 ex2 ed2
  walk_at "bn"
  refine nm_g F₂ cx (gn_it _) ?_
  refine callWith_D (w := w) (kp_it _) ?_
  walk_at "bn"
  have e2 := k₂.all _ _ e1
  refine sub_list (s := stt s h₂ _) (lo_list e2) (by decide) (by decide) (show ((gateV gt ug).toArray)[Int.toNat 4]? = some (.int gt.e (ug 4)) from rfl) ?_ (by with_unfolding_all rfl)
  walk_at "bn"
  refine sub_list (s := stt s h₂ _) (lo_list e2) (by decide) (by decide) (show ((gateV gt ug).toArray)[Int.toNat 5]? = some (.int gt.f (ug 5)) from rfl) ?_ (by with_unfolding_all rfl)
  walk_at "bn"
  refine ⟨Fr.cx F₂ cx, ?_⟩
  refine wpAny_call ?_
  refine it_new (s := s) (am.mono (by decide)) (cx.keeps F₂.keep) (by omega) fun x3 d3 u3 v3 w3 h₃ t₃ k₃ nx3 nd3 ex3 ed3 => ?_
  have F₃ := fr_all F₂ k₃.all
  have y₃ := y₂.pair (ox := itmO d3 gt.e gt.f u3 v3 w3) (od := dictOf [] 0) k₃ nx3 nd3 ex3 ed3
  walk_at "bn"
  refine n_list (s := s) F₃ nilN (by show (3 : Nat) ≤ sizeLine; decide) fun LI h₄ F₄ N₄ k₄ lL => ?_
  have y₄ := y₃.cons (o := listO [.ref x1, .ref x2, .ref x3] 0) k₄ (fresh_none lL) (N₄.get (.head _))
  have kk : Keeps [] h h₄ := ((k₁.trans k₂).trans k₃).trans k₄
  have c2' := IsCell.keepsK c2 kk (by simp)
  refine s_cell (s := s) (c := L + 2) rfl c2' fun h₅ c2'' sb => ?_
  obtain ⟨F₅, y₅⟩ := cell_step y₄ F₄ hL (Nat.ne_of_lt (Nat.lt_add_of_pos_right (by decide))) sb c2''
  exact q x1 d1 u1 v1 w1 x2 d2 u2 v2 w2 x3 d3 u3 v3 w3 LI 0 h₅ _ F₅ (fun b o e n => Keeps.of_same sb b o (kk.all _ _ e) n) c2'' y₅
/-- who = ('ann',) -/
theorem l6 {v₀ : Option Value} (F : Fr g L h m) (x : Ld g H h l) (hL : L + 3 ∈ H) (c3 : h.IsCell (L + 3) v₀)
    (q : ∀ T u n h' t', Fr g L h' m → Keeps [L + 3] h h' → h'.IsCell (L + 3) (some (.ref T)) → Ld g H h' ((T, ⟨.type "tuple", none, .seq #[.str (Str.ofString "ann") u] n, #[]⟩) :: l) → Q .next (stt s h' t')) :
    wpAny (model prog w) A (exec (nthS (fBody stLaw) 6) (lawE L)) Q E (stt s h t) := by
  show wpAny _ _ (exec (Stmt.Assign [Expr.Name _ _] _ _) _) _ _ _
  walk_at "bn"
  refine n_tuple (s := s) F nilN (by show (1 : Nat) ≤ sizeLine; decide) fun T h₁ F₁ N₁ k₁ lT => ?_
  obtain ⟨u, hu⟩ : ∃ u : Tok, h₁.get? T = some ⟨.type "tuple", none, .seq #[.str (Str.ofString "ann") u] 0, #[]⟩ := ⟨_, N₁.get (.head _)⟩
  have y₁ := x.cons k₁ (fresh_none lT) hu
  have c3' := IsCell.keepsK c3 k₁ (by simp)
  refine s_cell (s := s) (c := L + 3) rfl c3' fun h₂ c3'' sb => ?_
  obtain ⟨F₂, y₂⟩ := cell_step y₁ F₁ hL (Nat.ne_of_lt (Nat.lt_add_of_pos_right (by decide))) sb c3''
  exact q T u 0 h₂ _ F₂ (fun b o e n => Keeps.of_same sb b o (k₁.all _ _ e) n) c3'' y₂
/-- log = [] -/
theorem l7 (F : Fr g L h m) (x : Ld g H h l) (hL : L ∈ H)
    (q : ∀ Lg h' t', Fr g L h' (fun y => if y = Str.ofString "log" then some (.ref Lg) else m y) → Keeps [L] h h' → Lg ∉ H → h'.get? Lg = some (listO [] 0) → Ld g ([Lg] ++ H) h' l → Q .next (stt s h' t')) :
    wpAny (model prog w) A (exec (nthS (fBody stLaw) 7) (lawE L)) Q E (stt s h t) := by
  show wpAny _ _ (exec (Stmt.Assign [Expr.Name _ _] _ _) _) _ _ _
  walk_at "bn"
  refine n_list (s := s) F nilN (by show (0 : Nat) ≤ sizeLine; decide) fun Lg h₁ F₁ N₁ k₁ lT => ?_
  have nLg := fresh_none lT
  have e₁ : h₁.get? Lg = some (listO [] 0) := N₁.get (.head _)
  have y₁ := x.hide (as := [Lg]) k₁ (fun a ha => by rw [List.mem_singleton.mp ha]; exact nLg) fun a ha => by rw [List.mem_singleton.mp ha]; exact ⟨_, e₁⟩
  refine s_loc (s := s) F₁ nilN fun h₂ t₂ F₂ _ k₂ => ?_
  have nH := x.off nLg
  have nL : Lg ∉ [L] := fun z => nH (List.mem_singleton.mp z ▸ hL)
  exact q Lg h₂ _ F₂ (fun b o e n => k₂ b o (k₁.all _ _ e) n) nH (k₂ _ _ e₁ nL) (loc_step y₁ F₂ (List.mem_append_right _ hL) k₂)
end
end
section
set_option maxHeartbeats 400000
/-- a program of no defs: what stays of the top when code tables are hidden -/
def pNone : Program := { (default : Program) with main := { (default : Module) with body := [.ImportFrom (some (Str.ofString "sys")) [] none default] } }
theorem pn_recs : recsOf pNone = [] := rfl
theorem pn_owns : ownsOf pNone = [] := rfl
theorem pn_imp : importsNone pNone = false := by decide +kernel
theorem kn921 (P : Params) : (K P).lookup 921 = none := by kernel_rfl
theorem kn981 (P : Params) : (K P).lookup 981 = none := by kernel_rfl
theorem Ns_hide {h : Heap} {a : Addr} {as : List Addr} {m : Str → Option Value} (x : h.Ns a m) (n : a ∉ as) : (hideAll h as).Ns a m :=
  let ⟨o, es, ep, e, r⟩ := x; ⟨o, es, ep, hideAll_get _ e n, r⟩
/-- the text's own things, two code tables hidden -/
theorem Cx.hide {w : World} {h : Heap} (cx : Cx w h) (t9 : h.get? 921 = some (tabObj #[])) (t8 : h.get? 981 = some (tabObj #[])) : Cx w (hideAll h [921, 981]) := by
  obtain ⟨p, loose, mean, mg, mb, T⟩ := cx.T
  have two : ∀ a : Addr, a ≠ 921 → a ≠ 981 → a ∉ [(921 : Addr), 981] := fun a h1 h2 z => by
    simp only [List.mem_cons, List.not_mem_nil, or_false] at z
    rcases z with z | z
    · exact h1 z
    · exact h2 z
  have out : ∀ (a : Addr) (o : Obj), h.get? a = some o → o ≠ tabObj #[] → (hideAll h [921, 981]).get? a = some o := fun a o e n => hideAll_get _ e (two a (fun z => by
    rw [z, t9] at e; exact n (Option.some.inj e).symm) (fun z => by
    rw [z, t8] at e; exact n (Option.some.inj e).symm))
  refine ⟨fun a o e => hideAll_get _ (cx.X _ _ e) (two a (fun z => by rw [z, kn921] at e; cases e) (fun z => by rw [z, kn981] at e; cases e)), ⟨pNone, loose ++ ((recsOf p).map (·.name) ++ ((litsOf p).map (·.1) ++ (clssOf p loose).map (·.name))), mean, mg, mb, ?_⟩, ?_⟩
  · refine ⟨Ns_hide T.g (two _ (by decide) (by decide)), Ns_hide T.b (two _ (by decide) (by decide)), ?_, ?_, ?_, ?_, ?_, ?_, T.builtins, ?_, ?_, ?_⟩
    · obtain ⟨mc, a, b⟩ := T.nolimit
      exact ⟨mc, Ns_hide a (two _ (by decide) (by decide)), b⟩
    · obtain ⟨mc, a, b⟩ := T.nodigits
      exact ⟨mc, Ns_hide a (two _ (by decide) (by decide)), b⟩
    · intro d hd; rw [pn_recs] at hd; cases hd
    · intro d hd; rw [pn_owns] at hd; cases hd
    · intro x d hd
      have : valOf pNone x = none := rfl
      rw [this] at hd; cases hd
    · intro x h1 h2 _ _ _
      simp only [List.mem_append, not_or] at h2
      exact T.free x h1 h2.1 h2.2.1 h2.2.2.1 h2.2.2.2
    · intro d hd; rw [pn_recs] at hd; cases hd
    · obtain ⟨bm, ob, h1, h2, h3, h4, h5⟩ := T.bmain
      exact ⟨bm, ob, h1, h2, out _ _ h3 (fun z => by rw [z] at h4; exact absurd (show Value.none = Value.type "module" from h4) (by decide)), h4, h5⟩
    · intro z; rw [pn_imp] at z; cases z
  · obtain ⟨o, vs, file, tf, flags, tg, inF, text, tt, e, f, r⟩ := cx.C
    exact ⟨o, vs, file, tf, flags, tg, inF, text, tt, out _ _ e (fun z => by rw [z] at f; exact absurd (show Value.none = Value.type "code" from f) (by decide)), f, r⟩
end
section
set_option maxHeartbeats 400000
theorem isMap_nil (w : World) {o : Obj} {ep : Nat} (h : o.data = .dict #[] ep) (n : Nat) : IsMap w o (fun _ => none) n := ⟨[], ep, h, .nil, fun _ => rfl, Nat.zero_le _⟩
abbrev hid (L : Addr) : List Addr := [921, L + 1, L + 2, L + 3, L + 4, L + 5, L + 6, L + 7, L + 8]
theorem na1 {L i : Nat} (h : 1 ≤ i) : L + i ≠ L := by omega
theorem na2 {L i j : Nat} (h : i ≠ j) : L + i ≠ L + j := by omega
theorem na3 {L b : Nat} (i : Nat) (h : b < L) : b ≠ L + i := by omega
abbrev k0 : LK := ⟨0, [], [], [], [], none, none, none, none⟩
section
variable {w : World} {X : LA} {gt : Gt} {ug : Nat → Tok} {g h : Heap} {c : Int} {ll : List (Addr × Obj)}
/-- what the law has made, before its loop -/
structure Made (w : World) (X : LA) (gt : Gt) (ug : Nat → Tok) (g h : Heap) (c : Int) (ll : List (Addr × Obj)) : Prop where
  cx : Cx w g
  sm : ∃ o, g.get? sysModules = some o
  ex : X.ex = []
  y : Ld g ([X.Lg] ++ ([X.S.C, X.S.E, X.S.V] ++ X.L :: hid X.L)) h ll
  nG : X.Lg ∉ [X.S.C, X.S.E, X.S.V] ++ X.L :: hid X.L
  nS : ∀ a ∈ [X.S.C, X.S.E, X.S.V], a ∉ X.L :: hid X.L
  CE : X.S.C ≠ X.S.E
  CV : X.S.C ≠ X.S.V
  EV : X.S.E ≠ X.S.V
  VL : X.L < X.S.V
  gL : ∀ a, X.L ≤ a → g.get? a = none
  n9 : 921 < X.L
  ec : X.S.cell = X.L + 8
  oS : (X.S.self, instObj 972 X.S.dself) ∈ ll
  oD : (X.S.dself, dictOf (selfD w X.S) 4) ∈ ll
  oF : (X.S.lam, lamF X.L X.S.pm X.S.lcode X.S.ctv) ∈ ll
  oC : ∃ oc vs tq, (X.S.lcode, oc) ∈ ll ∧ oc.data = .fields vs ∧ vs[1]? = some (.str lawQ tq)
  oc : (X.S.cd, dictOf [] 0) ∈ ll
  ok : ∃ u n, (X.S.clk, clkO c u n) ∈ ll
  o1 : ∃ d u n, (X.l1, limO 280 d) ∈ ll ∧ (d, limD w X.S u n) ∈ ll
  o2 : ∃ d u n, (X.l2, limO 241 d) ∈ ll ∧ (d, limD w X.S u n) ∈ ll
  o3 : ∃ d u n, (X.l3, limO 335 d) ∈ ll ∧ (d, limD w X.S u n) ∈ ll
  p1 : ∃ d u v x, (X.i1, itmO d gt.a gt.b u v x) ∈ ll ∧ (d, dictOf [] 0) ∈ ll
  p2 : ∃ d u v x, (X.i2, itmO d gt.c gt.d u v x) ∈ ll ∧ (d, dictOf [] 0) ∈ ll
  p3 : ∃ d u v x, (X.i3, itmO d gt.e gt.f u v x) ∈ ll ∧ (d, dictOf [] 0) ∈ ll
  oL : ∃ n, (X.LL, listO [.ref X.l1, .ref X.l2, .ref X.l3] n) ∈ ll
  oI : ∃ n, (X.LI, listO [.ref X.i1, .ref X.i2, .ref X.i3] n) ∈ ll
  oT : ∃ u n, (X.T, (⟨.type "tuple", none, .seq #[.str (Str.ofString "ann") u] n, #[]⟩ : Obj)) ∈ ll
  oG : ∃ n, (X.G, listO (gateV gt ug) n) ∈ ll
  c1 : h.IsCell (X.L + 1) (some (.ref X.LL))
  c2 : h.IsCell (X.L + 2) (some (.ref X.LI))
  c3 : h.IsCell (X.L + 3) (some (.ref X.T))
  c8 : h.IsCell (X.L + 8) (some (.ref X.S.clk))
  c4 : h.IsCell (X.L + 4) none
  c5 : h.IsCell (X.L + 5) none
  c6 : h.IsCell (X.L + 6) none
  c7 : h.IsCell (X.L + 7) none
  hC : h.get? X.S.C = some (ctrO X.S.cd)
  hE : h.get? X.S.E = some emptyDict
  hV : h.get? X.S.V = some emptyDict
  hG : h.get? X.Lg = some (listO [] 0)
  t9 : h.get? 921 = some (tabObj #[])
variable (Y : Made w X gt ug g h c ll)
include Y
theorem Made.inH : ∀ a ∈ X.vol ++ X.scr, a ∈ [X.Lg] ++ ([X.S.C, X.S.E, X.S.V] ++ X.L :: hid X.L) := fun a ha => by
  simp only [LA.vol, LA.scr, List.mem_append, List.mem_cons, List.not_mem_nil, or_false] at ha
  simp only [List.mem_append, List.mem_cons, List.not_mem_nil, or_false]
  rcases ha with (h | h | h | h | h) | (h | h | h | h | h) <;> simp [h]
theorem Made.r {a : Addr} {o : Obj} (m : (a, o) ∈ ll) : (hideAll h (X.vol ++ X.scr)).get? a = some o := hideAll_get _ (Y.y.get m) fun z => (Y.y.l _ m).2 (Y.inH _ z)
/-- the law's cells are apart from the store's things -/
theorem Made.far {i : Nat} (h1 : 1 ≤ i) (h8 : i ≤ 8) : X.L + i ∉ X.vol ∧ X.L + i ≠ X.L := by
  have e : X.L + i ∈ hid X.L := by
    simp only [List.mem_cons, List.not_mem_nil, or_false]
    rcases (show i = 1 ∨ i = 2 ∨ i = 3 ∨ i = 4 ∨ i = 5 ∨ i = 6 ∨ i = 7 ∨ i = 8 by omega) with rfl | rfl | rfl | rfl | rfl | rfl | rfl | rfl <;> simp
  have nS := Y.nS
  refine ⟨fun z => ?_, na1 h1⟩
  simp only [LA.vol, List.mem_cons, List.not_mem_nil, or_false] at z
  rcases z with z | z | z | z | z
  · exact na3 i Y.n9 z.symm
  · exact nS X.S.C (by simp) (z ▸ .tail _ e)
  · exact nS X.S.E (by simp) (z ▸ .tail _ e)
  · exact nS X.S.V (by simp) (z ▸ .tail _ e)
  · exact Y.nG (z ▸ List.mem_append_right _ (.tail _ e))
theorem Made.cell {i : Nat} {v : Option Value} (h1 : i = 1 ∨ i = 2 ∨ i = 3 ∨ i = 8) (x : h.IsCell (X.L + i) v) : (hideAll h (X.vol ++ X.scr)).IsCell (X.L + i) v := by
  obtain ⟨o, a, b⟩ := x
  refine ⟨o, hideAll_get _ a fun z => ?_, b⟩
  rcases List.mem_append.mp z with z | z
  · exact (Y.far (by omega) (by omega)).1 z
  · simp only [LA.scr, List.mem_cons, List.not_mem_nil, or_false] at z
    rcases z with z | z | z | z | z
    · exact na1 (by omega) z
    · exact na2 (j := 4) (by omega) z
    · exact na2 (j := 5) (by omega) z
    · exact na2 (j := 6) (by omega) z
    · exact na2 (j := 7) (by omega) z
theorem Made.okX : X.Ok := by
  have nS := Y.nS
  have nG := Y.nG
  refine ⟨fun e => nS X.S.V (by simp) (by rw [e]; simp), fun e => nS X.S.C (by simp) (by rw [e]; simp), fun e => nS X.S.E (by simp) (by rw [e]; simp), fun z => nG ?_, Y.CE, Y.CV, Y.EV, fun a ha z => ?_, fun z => ?_⟩
  · simp only [List.mem_cons, List.not_mem_nil, or_false] at z
    simp only [List.mem_append, List.mem_cons, List.not_mem_nil, or_false]
    rcases z with h | h | h | h <;> simp [h]
  · simp only [LA.scr, List.mem_cons, List.not_mem_nil, or_false] at ha
    rcases ha with rfl | rfl | rfl | rfl | rfl
    · simp only [LA.vol, List.mem_cons, List.not_mem_nil, or_false] at z
      rcases z with z | z | z | z | z
      · exact absurd z (Nat.ne_of_gt Y.n9)
      · exact nS X.S.C (by simp) (z ▸ .head _)
      · exact nS X.S.E (by simp) (z ▸ .head _)
      · exact nS X.S.V (by simp) (z ▸ .head _)
      · exact nG (z ▸ List.mem_append_right _ (.head _))
    · exact (Y.far (i := 4) (by decide) (by decide)).1 z
    · exact (Y.far (i := 5) (by decide) (by decide)).1 z
    · exact (Y.far (i := 6) (by decide) (by decide)).1 z
    · exact (Y.far (i := 7) (by decide) (by decide)).1 z
  · obtain ⟨u, n, m⟩ := Y.ok
    exact (Y.y.l _ m).2 (Y.inH _ z)
theorem Made.root : Root w X gt ug c (hideAll h (X.vol ++ X.scr)) := by
  have hno : ∀ a ∈ X.vol ++ X.scr, (hideAll h (X.vol ++ X.scr)).get? a = none := fun a ha => hideAll_none _ ha
  have hg : ∀ a ∈ X.vol ++ X.scr, g.get? a = none := fun a ha => Y.y.n _ (Y.inH _ ha)
  have sys : ∀ a : Addr, a ∈ X.vol → (a == sysModules) = false := fun a ha => by
    obtain ⟨o, e⟩ := Y.sm
    have := hg a (List.mem_append_left _ ha)
    by_cases z : a = sysModules
    · rw [z, e] at this; cases this
    · exact beq_eq_false_iff_ne.mpr z
  have vC : X.S.C ∈ X.vol := by simp [LA.vol]
  have vE : X.S.E ∈ X.vol := by simp [LA.vol]
  have vV : X.S.V ∈ X.vol := by simp [LA.vol]
  obtain ⟨oc, vs, tq, m, hd, hv⟩ := Y.oC
  obtain ⟨uk, nk, mk⟩ := Y.ok
  refine ⟨⟨Y.cx.keeps (Y.y.sub.hide hg), ⟨Y.r Y.oS, Y.r Y.oD, ?_, ⟨_, oc, vs, tq, rfl, Y.r m, hd, hv⟩, Y.r Y.oc, ?_, ⟨uk, nk, Y.r mk⟩⟩, hno _ (List.mem_append_left _ vC), hno _ (List.mem_append_left _ vE), hno _ (List.mem_append_left _ vV), hno _ (List.mem_append_left _ (by simp [LA.vol])), sys _ vC, sys _ vE, sys _ vV, Y.CE, Y.CV, Y.EV⟩,
    ?_, ?_, ?_, ?_, ?_, ?_, ?_, ?_, ?_, ?_, Y.cell (by simp) Y.c1, Y.cell (by simp) Y.c2, Y.cell (by simp) Y.c3, Y.cell (by simp) Y.c8, hno⟩
  · rw [Y.ec]; exact Y.r Y.oF
  · rw [Y.ec]; exact Y.cell (by simp) Y.c8
  · obtain ⟨d, u, n, a, b⟩ := Y.o1
    exact ⟨d, u, n, Y.r a, Y.r b⟩
  · obtain ⟨d, u, n, a, b⟩ := Y.o2
    exact ⟨d, u, n, Y.r a, Y.r b⟩
  · obtain ⟨d, u, n, a, b⟩ := Y.o3
    exact ⟨d, u, n, Y.r a, Y.r b⟩
  · obtain ⟨d, u, n, x, a, b⟩ := Y.p1
    exact ⟨d, u, n, x, Y.r a, Y.r b⟩
  · obtain ⟨d, u, n, x, a, b⟩ := Y.p2
    exact ⟨d, u, n, x, Y.r a, Y.r b⟩
  · obtain ⟨d, u, n, x, a, b⟩ := Y.p3
    exact ⟨d, u, n, x, Y.r a, Y.r b⟩
  · obtain ⟨n, m⟩ := Y.oL
    exact lo_list (Y.r m)
  · obtain ⟨n, m⟩ := Y.oI
    exact lo_list (Y.r m)
  · obtain ⟨u, n, m⟩ := Y.oT
    exact ⟨u, n, Y.r m⟩
  · obtain ⟨n, m⟩ := Y.oG
    exact lo_list (Y.r m)
theorem Made.law (gk : GtOk gt) (h0 : 20 ≤ c) (h1 : c < 10 ^ 39) : Law w X gt ug g c (hideAll h (X.vol ++ X.scr)) k0 := by
  have gi : ∀ {a p : Int}, 2 ≤ a → a ≤ 5 → 3 ≤ p → p ≤ 9 → GI a p := fun a b c d => gi_of a b c d
  exact ⟨⟨⟨Y.root, Y.okX, fun _ h => h, gi gk.a2 gk.a4 gk.b5 gk.b9, gi gk.c2 gk.c4 gk.d3 gk.d7, gi gk.e2 gk.e5 gk.f3 gk.f9, wk_of gk h0 h1⟩, gk, LogOk.nil, h0, by decide⟩, Y.y.sub.hide fun a ha => Y.y.n _ (Y.inH _ ha), Y.cx, Y.gL, Y.VL⟩
theorem Made.lv : LV w X gt (hideAll h (X.vol ++ X.scr)) X.bad c k0 h := by
  refine ⟨⟨fun _ => none, fun _ => none, 0, 0, none, [], [], none, none, none, none⟩, ⟨fun b o e => of_hideAll _ e, ⟨_, fun _ => none, Y.hC, ⟨rfl, rfl⟩, isMap_nil w rfl 0, fun _ => .inl ⟨rfl, rfl⟩⟩, ⟨_, fun _ => none, Y.hE, ⟨rfl, rfl⟩, isMap_nil w rfl 0, fun _ => .inl ⟨rfl, rfl⟩⟩, ⟨_, fun _ => none, Y.hV, ⟨rfl, rfl⟩, isMap_nil w rfl 8, rfl, rfl, isMap_nil w rfl 7⟩, .inl Y.t9, ⟨[], Y.hG, .nil⟩, Y.c4, Y.c5, Y.c6, Y.c7, (fun _ h => nomatch h), fun a ha => ?_⟩,
    .inl ⟨rfl, rfl, .inl rfl⟩, fun q _ => .inl ⟨rfl, rfl, rfl⟩, rfl, rfl, Nat.le_refl _, Nat.le_refl _, rfl, rfl, rfl, rfl, fun _ h => nomatch h⟩
  simp only [LA.bad, Y.ex, List.mem_cons, List.not_mem_nil, or_false] at ha
  obtain ⟨uk, nk, mk⟩ := Y.ok
  have hH : ∀ a ∈ X.vol ++ X.scr, ∃ o, h.get? a = some o := fun a ha => Y.y.e _ (Y.inH _ ha)
  rcases ha with rfl | rfl | rfl | rfl | rfl | rfl | h | h
  · exact ⟨_, Y.t9⟩
  · exact ⟨_, Y.hC⟩
  · exact ⟨_, Y.hE⟩
  · exact ⟨_, Y.hV⟩
  · exact ⟨_, Y.hG⟩
  · exact ⟨_, Y.y.get mk⟩
  · exact hH _ (List.mem_append_right _ (by rw [h]; simp [LA.scr]))
  · exact hH _ (List.mem_append_right _ (by rcases h with h | h | h | h <;> (rw [h]; simp [LA.scr])))
end
end
section
set_option maxHeartbeats 400000
section
variable {w : World} {A : Around} {s : Shared} {h₀ h h' g g₂ : Heap} {t₀ t : Nat} {R : Result → Shared → Prop} {L Sc : Addr} {m : Str → Option Value} {H H' : List Addr} {ll : List (Addr × Obj)} {ps : Array Value}
abbrev scrM (Sc : Addr) : Str → Option Value := fun y => if y = Str.ofString "script" then some (.ref Sc) else none
theorem enterL (am : Amb A 1) (cx : Cx w h₀)
    (q : ∀ L h₁ t₁, L = h₀.objs.size → Fr h₀ L h₁ (scrM Sc) → (∀ i : Nat, 1 ≤ i → i ≤ 8 → h₁.IsCell (L + i) none) →
      wpAny (model prog w) (A.deeper (lawE L)) (execs (fBody stLaw) (lawE L)) (fun fl s' => R (.ok (.ret (match fl with | .ret v => v | _ => .none))) s') (fun _ _ => False) (stt s h₁ t₁)) :
    codeAny (model prog w) A (.call (.ref 984) ⟨[.ref Sc], []⟩) R (stt s h₀ t₀) := by
  refine codeAny_call_cells (a := 984) (fd := fnX (Str.ofString "law") (Str.ofString "law") (fParams stLaw) (fBody stLaw) (fScope stLaw) [] .none .none .none (.str (Str.ofString "law_bn0043_01") 1769) none (.ref 983) .none) (body := fBody stLaw) (by have := am.dep; omega) (cx.X _ _ (k984 _)) rfl cx.nolimit (codeRec_of cx.X rfl) rfl (binds := [(Str.ofString "script", .ref Sc)]) (by kernel_rfl) rfl ?_ ?_ rfl rfl rfl
  · intro y hy
    rw [List.mem_singleton.mp hy]
    exact .inl rfl
  · intro s₁ x
    obtain ⟨h₁, t₁, rfl, hk⟩ := x.done
    refine wpAny_mono (q h₀.objs.size h₁ t₁ rfl ⟨x.toInCall.ns, hk, Nat.le_refl _⟩ fun i h1 h8 => ?_) (fun _ _ z => z) fun _ _ z => z.elim
    rcases (show i = 1 ∨ i = 2 ∨ i = 3 ∨ i = 4 ∨ i = 5 ∨ i = 6 ∨ i = 7 ∨ i = 8 by omega) with rfl | rfl | rfl | rfl | rfl | rfl | rfl | rfl
    · exact x.cell (Str.ofString "limiters") (h₀.objs.size + 1) rfl
    · exact x.cell (Str.ofString "items") (h₀.objs.size + 2) rfl
    · exact x.cell (Str.ofString "who") (h₀.objs.size + 3) rfl
    · exact x.cell (Str.ofString "cost") (h₀.objs.size + 4) rfl
    · exact x.cell (Str.ofString "left") (h₀.objs.size + 5) rfl
    · exact x.cell (Str.ofString "told") (h₀.objs.size + 6) rfl
    · exact x.cell (Str.ofString "still") (h₀.objs.size + 7) rfl
    · exact x.cell (Str.ofString "clock") (h₀.objs.size + 8) rfl
/-- the base, with the law's code table as it has grown -/
def base2 (h₀ : Heap) (ps : Array Value) : Heap := hideAll (regrown h₀ 981 ps) [921]
theorem b2_981 (t8 : h₀.get? 981 = some (tabObj #[])) : (base2 h₀ ps).get? 981 = some (tabObj ps) := hideAll_get _ (Heap.get?_update_self _ t8 rfl) (by decide)
theorem b2_get {b : Addr} {o : Obj} (e : h₀.get? b = some o) (n1 : b ≠ 921) (n8 : b ≠ 981) : (base2 h₀ ps).get? b = some o := hideAll_get _ ((Heap.get?_update_other _ _ (Ne.symm n8)).trans e) (by simpa using n1)
theorem b2_of {b : Addr} {o : Obj} (e : (base2 h₀ ps).get? b = some o) (n8 : b ≠ 981) : (hideAll h₀ [921, 981]).get? b = some o := by
  have e' : (regrown h₀ 981 ps).get? b = some o := of_hideAll _ e
  refine hideAll_get _ ((Heap.get?_update_other _ _ (Ne.symm n8)).symm.trans e') fun z => ?_
  simp only [List.mem_cons, List.not_mem_nil, or_false] at z
  rcases z with rfl | rfl
  · rw [show (base2 h₀ ps).get? 921 = none from hideAll_none _ (by simp)] at e; cases e
  · exact n8 rfl
theorem b2_sub (x : Sub (hideAll h₀ [921, 981]) h) (e : h.get? 981 = some (tabObj ps)) (t8 : h₀.get? 981 = some (tabObj #[])) : Sub (base2 h₀ ps) h := fun b o q => by
  by_cases n8 : b = 981
  · subst n8
    rw [b2_981 t8] at q
    rw [e, q]
  · exact x _ _ (b2_of q n8)
theorem b2_ld (x : Ld (hideAll h₀ [921, 981]) H h ll) (sub : ∀ a ∈ H', a ∈ H) (n8 : 981 ∈ H) (n : 981 ∉ H') (e : h.get? 981 = some (tabObj ps)) (t8 : h₀.get? 981 = some (tabObj #[])) : Ld (base2 h₀ ps) H' h ll := by
  have nn : ∀ b, b ≠ 981 → (hideAll h₀ [921, 981]).get? b = none → (base2 h₀ ps).get? b = none := fun b nb e => by
    cases q : (base2 h₀ ps).get? b with
    | none => rfl
    | some o => rw [b2_of q nb] at e; cases e
  refine ⟨fun p hp => ⟨(x.l p hp).1, fun z => (x.l p hp).2 (sub _ z)⟩, fun b hb => x.e b (sub b hb), fun b hb => nn b (fun z => n (z ▸ hb)) (x.n b (sub b hb)), b2_sub x.sub e t8, fun p hp => nn _ (fun z => (x.l p hp).2 (z ▸ n8)) (x.m p hp)⟩
theorem b2_fr (F : Fr (hideAll h₀ [921, 981]) L h m) (e : h.get? 981 = some (tabObj ps)) (t8 : h₀.get? 981 = some (tabObj #[])) : Fr (base2 h₀ ps) L h m :=
  ⟨F.ns, b2_sub F.keep e t8, by
    have := F.above
    rw [hideAll_size] at this
    unfold base2
    rw [hideAll_size]
    exact Nat.le_trans (Nat.le_of_eq (Heap.SameBut.update h₀ 981 _).1) this⟩
theorem b2_cx (cx : Cx w (hideAll h₀ [921, 981])) : Cx w (base2 h₀ ps) := cx.keeps fun b o e => by
  have n : b ∉ [(921 : Addr), 981] := fun z => by rw [hideAll_none _ z] at e; cases e
  simp only [List.mem_cons, List.not_mem_nil, or_false, not_or] at n
  exact b2_get (of_hideAll _ e) n.1 n.2
/-- what stood before stands, the code tables grown -/
theorem old_of (cx : Cx w h₀) (t9 : h₀.get? 921 = some (tabObj #[])) (t8 : h₀.get? 981 = some (tabObj #[])) (x : Sub (base2 h₀ ps) h') (e : ∃ ps, h'.get? 921 = some (tabObj ps)) : OldK h₀ h' := by
  obtain ⟨qs, e⟩ := e
  have i9 : isCodeTable h₀ 921 := (cx.C.tab t9).isCodeTable
  have i8 : isCodeTable h₀ 981 := ((cd983 cx).tab t8).isCodeTable
  refine ⟨fun b o q => ?_, fun b o q => ?_⟩
  · by_cases n9 : b = 921
    · subst n9
      rw [t9] at q; cases q
      exact .inr (.inl ⟨i9, rfl, #[], qs, rfl, by rw [e]; simp⟩)
    · by_cases n8 : b = 981
      · subst n8
        rw [t8] at q; cases q
        exact .inr (.inl ⟨i8, rfl, #[], ps, rfl, by rw [x _ _ (b2_981 t8)]; simp⟩)
      · exact .inl (x _ _ (b2_get q n9 n8))
  · by_cases n9 : b = 921
    · exact ⟨_, n9 ▸ e⟩
    · by_cases n8 : b = 981
      · exact ⟨_, n8 ▸ x _ _ (b2_981 t8)⟩
      · exact ⟨o, x _ _ (b2_get q n9 n8)⟩
end
end
section
set_option maxHeartbeats 1000000
theorem memAt {α : Type} {l : List α} {a : α} (i : Nat) (h : l[i]? = some a) : a ∈ l := List.mem_of_getElem? h
theorem notL {L b : Addr} (n : b ≠ L) : b ∉ [L] := fun z => n (List.mem_singleton.mp z)
section
variable {w : World} {A : Around} {s : Shared} {h₀ : Heap} {t₀ : Nat} {R : Result → Shared → Prop} {Sc : Addr}
theorem Made.fin {X : LA} {ug : Nat → Tok} {g h : Heap} {ll : List (Addr × Obj)} {m : Str → Option Value} {t : Nat} {E : Value → Shared → Prop} {Q : Flow → Shared → Prop} {f : Int} {vs : List Value} {ns : List Int} (Y : Made w X (gtOf f) ug g h (clk0 f) ll) (am : Amb A 7) (hfr : A.frames = some [lawE X.L]) (F : Fr g X.L h m)
    (e7 : m (Str.ofString "gate") = some (.ref X.G)) (e8 : m (Str.ofString "log") = some (.ref X.Lg)) (es : m (Str.ofString "script") = some (.ref Sc)) (hS : g.IsList Sc vs.toArray) (hv : IntsAre vs ns) (hz : vs.length ≤ sizeLine)
    (q : ∀ h' t', Sub g h' → (∃ ps, h'.get? 921 = some (tabObj ps)) → Q (.ret (.bool true)) (stt s h' t')) :
    wpAny (model prog w) A (execs [nthS (fBody stLaw) 8, nthS (fBody stLaw) 9] (lawE X.L)) Q E (stt s h t) := by
  obtain ⟨z0, z1, z2⟩ := clk0_ok f
  have hb : clk0 f + 3000 < 10 ^ 39 := by omega
  have h39 : clk0 f < 10 ^ 39 := by omega
  obtain ⟨uk, nk, mk⟩ := Y.ok
  refine wpAny_execs_cons ?_
  refine l8 (s := s) am hfr (Y.y.m _ mk) Y.cx Y.ex hb z1 (Y.law (gtOk_of _) z0 h39) Y.lv F rfl rfl rfl rfl rfl e7 e8 es hS hv hz fun lg N cv cN hN tN lN lc cap st => ?_
  dsimp only
  refine wpAny_execs_cons ?_
  refine l9 (s := s) am cap st fun hZ tZ sb e => ?_
  exact q hZ tZ sb e
theorem law_spec {vs : List Value} {ns : List Int} (am : Amb A 11) (hfr : A.frames = some []) (cx : Cx w h₀) (t9 : h₀.get? 921 = some (tabObj #[])) (t8 : h₀.get? 981 = some (tabObj #[])) (sm : ∃ o, h₀.get? sysModules = some o)
    (hS : h₀.IsList Sc vs.toArray) (hv : IntsAre vs ns) (hz : vs.length ≤ sizeLine) (q : ∀ h' t', OldK h₀ h' → R (.ok (.ret (.bool true))) (stt s h' t')) :
    codeAny (model prog w) A (.call (.ref 984) ⟨[.ref Sc], []⟩) R (stt s h₀ t₀) := by
  have cxg := cx.hide t9 t8
  refine enterL (s := s) (am.mono (by decide)) cx fun L h₁ t₁ hL F₀ cells => ?_
  have amb : Amb (A.deeper (lawE L)) 10 := am.deeper _
  have hfr' : (A.deeper (lawE L)).frames = some [lawE L] := by
    show A.frames.map _ = _
    rw [hfr]; rfl
  have gL : ∀ a, L ≤ a → (hideAll h₀ [921, 981]).get? a = none := fun a ha => Heap.get?_none_of_le (by rw [hideAll_size, ← hL]; exact ha)
  have lt9 : 921 < L := hL ▸ Heap.lt_size t9
  have lt8 : 981 < L := hL ▸ Heap.lt_size t8
  have nS9 : Sc ≠ 921 ∧ Sc ≠ 981 := by
    obtain ⟨o, e, c, _⟩ := hS
    constructor
    · rintro rfl
      rw [t9] at e; cases e
      exact absurd (show Value.none = Value.type "list" from c) (by decide)
    · rintro rfl
      rw [t8] at e; cases e
      exact absurd (show Value.none = Value.type "list" from c) (by decide)
  have gS : (hideAll h₀ [921, 981]).IsList Sc vs.toArray := by
    obtain ⟨o, e, r⟩ := hS
    exact ⟨o, hideAll_get _ e (by simpa using nS9), r⟩
  have F : Fr (hideAll h₀ [921, 981]) L h₁ (scrM Sc) := ⟨F₀.ns, fun b o e => F₀.keep _ _ (of_hideAll _ e), by rw [hideAll_size]; exact F₀.above⟩
  have inH : ∀ i : Nat, 1 ≤ i → i ≤ 8 → L + i ∈ hid L := fun i h1 h8 => by
    simp only [List.mem_cons, List.not_mem_nil, or_false]
    rcases (show i = 1 ∨ i = 2 ∨ i = 3 ∨ i = 4 ∨ i = 5 ∨ i = 6 ∨ i = 7 ∨ i = 8 by omega) with rfl | rfl | rfl | rfl | rfl | rfl | rfl | rfl <;> simp
  have ofH : ∀ b ∈ hid L, b = 921 ∨ ∃ i : Nat, 1 ≤ i ∧ i ≤ 8 ∧ b = L + i := fun b hb => by
    simp only [List.mem_cons, List.not_mem_nil, or_false] at hb
    rcases hb with h | h | h | h | h | h | h | h | h
    · exact .inl h
    · exact .inr ⟨1, by decide, by decide, h⟩
    · exact .inr ⟨2, by decide, by decide, h⟩
    · exact .inr ⟨3, by decide, by decide, h⟩
    · exact .inr ⟨4, by decide, by decide, h⟩
    · exact .inr ⟨5, by decide, by decide, h⟩
    · exact .inr ⟨6, by decide, by decide, h⟩
    · exact .inr ⟨7, by decide, by decide, h⟩
    · exact .inr ⟨8, by decide, by decide, h⟩
  have nLH : L ∉ hid L := fun z => by
    rcases ofH _ z with h | ⟨i, h1, _, h⟩
    · exact Nat.ne_of_gt lt9 h
    · exact na1 h1 h.symm
  have n8H : 981 ∉ hid L := fun z => by
    rcases ofH _ z with h | ⟨i, h1, _, h⟩
    · exact absurd h (by decide)
    · exact na3 i lt8 h
  have y : Ld (hideAll h₀ [921, 981]) (L :: 981 :: hid L) h₁ [] := by
    refine ⟨(fun _ z => nomatch z), fun b hb => ?_, fun b hb => ?_, F.keep, (fun _ z => nomatch z)⟩
    · rcases List.mem_cons.mp hb with rfl | hb
      · obtain ⟨o, _, _, e, _⟩ := F₀.ns
        exact ⟨o, e⟩
      · rcases List.mem_cons.mp hb with rfl | hb
        · exact ⟨_, F₀.keep _ _ t8⟩
        · rcases ofH _ hb with rfl | ⟨i, h1, h8, rfl⟩
          · exact ⟨_, F₀.keep _ _ t9⟩
          · exact IsCell.ex (cells i h1 h8)
    · rcases List.mem_cons.mp hb with rfl | hb
      · exact gL _ (Nat.le_refl _)
      · rcases List.mem_cons.mp hb with rfl | hb
        · exact hideAll_none _ (by simp)
        · rcases ofH _ hb with rfl | ⟨i, h1, h8, rfl⟩
          · exact hideAll_none _ (by simp)
          · exact gL _ (Nat.le_add_right _ _)
  have n9 : (921 : Addr) ≠ L := Nat.ne_of_lt lt9
  have n8 : (981 : Addr) ≠ L := Nat.ne_of_lt lt8
  have ci : ∀ {h h' : Heap} {i : Nat} {v : Option Value}, 1 ≤ i → h.IsCell (L + i) v → Keeps [L] h h' → h'.IsCell (L + i) v := fun h1 x k => IsCell.keepsK x k (notL (na1 h1))
  have cj : ∀ {h h' : Heap} {i j : Nat} {v : Option Value}, i ≠ j → h.IsCell (L + i) v → Keeps [L + j] h h' → h'.IsCell (L + i) v := fun h1 x k => IsCell.keepsK x k (notL (na2 h1))
  have nj : ∀ {b : Addr} (j : Nat), b < L → b ∉ [L + j] := fun j hb => notL (na3 j hb)
  refine wpAny_execs_cons ?_
  refine l0 (s := s) F (if_pos rfl) gS hv hz fun u h₂ t₂ F₂ k₂ => ?_
  dsimp only
  have y₂ := loc_step y F₂ (.head _) k₂
  refine wpAny_execs_cons ?_
  refine l1 (s := s) (f := firstV ns) (u0 := u) amb.hd F₂ y₂ (.head _) (if_pos rfl) fun G ug nG h₃ t₃ F₃ k₃ y₃ => ?_
  dsimp only
  refine wpAny_execs_cons ?_
  refine l2 (s := s) (f := firstV ns) (u0 := u) amb.hd F₃ y₃ (.tail _ (.tail _ (inH 8 (by decide) (by decide)))) (ci (by decide) (ci (by decide) (cells 8 (by decide) (by decide)) k₂) k₃) (by rfl) fun clk uk nk h₄ t₄ F₄ k₄ c8 y₄ => ?_
  dsimp only
  have k14 : ∀ b o, h₁.get? b = some o → b < L → h₄.get? b = some o := fun b o e lt => k₄ _ _ (k₃ _ _ (k₂ _ _ e (notL (Nat.ne_of_lt lt))) (notL (Nat.ne_of_lt lt))) (nj 8 lt)
  have c14 : ∀ i : Nat, 1 ≤ i → i ≤ 7 → h₄.IsCell (L + i) none := fun i h1 h7 => cj (by omega) (ci h1 (ci h1 (cells i h1 (by omega)) k₂) k₃) k₄
  refine wpAny_execs_cons ?_
  refine l3 (s := s) (amb.mono (by decide)) F₄ cxg y₄ (k14 _ _ (F₀.keep _ _ t8) lt8) nLH n8.symm n8H fun sx dx C cd Ex V q1 q2 q3 q4 f c' oc vs' tq ctv pm h₅ t₅ F₅ sm₅ e8 hd hq nCE nCV nEV nS LV eC eE eV y₅ => ?_
  obtain ⟨ps, e8⟩ := e8
  dsimp only
  have c5 : ∀ {i : Nat} {v : Option Value}, 1 ≤ i → i ≤ 8 → h₄.IsCell (L + i) v → h₅.IsCell (L + i) v := fun h1 h8 x => let ⟨o, a, b⟩ := x; ⟨o, (sm₅ _ (inH _ h1 h8)).trans a, b⟩
  have e9 : h₅.get? 921 = some (tabObj #[]) := (sm₅ 921 (.head _)).trans (k14 _ _ (F₀.keep _ _ t9) lt9)
  have up : ∀ {a : Addr} (b : List Addr), a ∈ hid L → a ∈ b ++ L :: 981 :: hid L := fun b h => List.mem_append_right _ (.tail _ (.tail _ h))
  refine wpAny_execs_cons ?_
  refine l4 (s := s) (S := ⟨sx, dx, f, c', L + 8, clk, C, Ex, V, cd, q1, q2, q3, q4, ctv, pm, 0⟩) (amb.mono (by decide)) cxg F₅ y₅ (up _ (inH 1 (by decide) (by decide))) (c5 (by decide) (by decide) (c14 1 (by decide) (by decide))) (if_pos rfl) fun x1 d1 u1 n1 x2 d2 u2 n2 x3 d3 u3 n3 LL nl h₆ t₆ F₆ k₆ c1 y₆ => ?_
  dsimp only
  refine wpAny_execs_cons ?_
  refine l5 (s := s) (gt := gtOf (firstV ns)) (ug := ug) (G := G) (n := nG) (amb.mono (by decide)) cxg (gtOk_of _) F₆ y₆ (up _ (inH 2 (by decide) (by decide))) (cj (by decide) (c5 (by decide) (by decide) (c14 2 (by decide) (by decide))) k₆) (by rfl) (memAt 13 rfl) fun i1 b1 v1 a1 o1 i2 b2 v2 a2 o2 i3 b3 v3 a3 o3 LI ni h₇ t₇ F₇ k₇ c2 y₇ => ?_
  dsimp only
  refine wpAny_execs_cons ?_
  refine l6 (s := s) F₇ y₇ (up _ (inH 3 (by decide) (by decide))) (cj (by decide) (cj (by decide) (c5 (by decide) (by decide) (c14 3 (by decide) (by decide))) k₆) k₇) fun T ut nt h₈ t₈ F₈ k₈ c3 y₈ => ?_
  dsimp only
  refine wpAny_execs_cons ?_
  refine l7 (s := s) F₈ y₈ (List.mem_append_right _ (.head _)) fun Lg h₉ t₉ F₉ k₉ nLg eLg y₉ => ?_
  dsimp only
  have kl : ∀ b o, h₅.get? b = some o → b < L → h₉.get? b = some o := fun b o e lt => k₉ _ _ (k₈ _ _ (k₇ _ _ (k₆ _ _ e (nj 1 lt)) (nj 2 lt)) (nj 3 lt)) (notL (Nat.ne_of_lt lt))
  have c9 : ∀ {i : Nat} {v : Option Value}, 4 ≤ i → i ≤ 8 → h₄.IsCell (L + i) v → h₉.IsCell (L + i) v := fun h1 h8 x => ci (by omega) (cj (by omega) (cj (by omega) (cj (by omega) (c5 (by omega) h8 x) k₆) k₇) k₈) k₉
  have k3 : ∀ a ∈ [C, Ex, V], ∀ o, h₅.get? a = some o → h₉.get? a = some o := fun a ha o e => by
    have n1 : ∀ i : Nat, 1 ≤ i → i ≤ 8 → a ∉ [L + i] := fun i h1 h8 => notL fun z => nS a ha (z ▸ .tail _ (.tail _ (inH i h1 h8)))
    exact k₉ _ _ (k₈ _ _ (k₇ _ _ (k₆ _ _ e (n1 1 (by decide) (by decide))) (n1 2 (by decide) (by decide))) (n1 3 (by decide) (by decide))) (notL fun z => nS a ha (z ▸ .head _))
  have E8 := kl _ _ e8 lt8
  have less : ∀ a ∈ [Lg] ++ ([C, Ex, V] ++ L :: hid L), a ∈ [Lg] ++ ([C, Ex, V] ++ L :: 981 :: hid L) := fun a ha => by
    rcases List.mem_append.mp ha with h | h
    · exact List.mem_append_left _ h
    · rcases List.mem_append.mp h with h | h
      · exact List.mem_append_right _ (List.mem_append_left _ h)
      · rcases List.mem_cons.mp h with rfl | h
        · exact List.mem_append_right _ (List.mem_append_right _ (.head _))
        · exact List.mem_append_right _ (up _ h)
  have n8' : 981 ∉ [Lg] ++ ([C, Ex, V] ++ L :: hid L) := fun z => by
    rcases List.mem_append.mp z with h | h
    · exact nLg (by rw [← List.mem_singleton.mp h]; exact List.mem_append_right _ (.tail _ (.head _)))
    · rcases List.mem_append.mp h with h | h
      · exact nS _ h (.tail _ (.head _))
      · rcases List.mem_cons.mp h with h | h
        · exact n8 h
        · exact n8H h
  have yB := b2_ld (H' := [Lg] ++ ([C, Ex, V] ++ L :: hid L)) y₉ less (List.mem_append_right _ (List.mem_append_right _ (.tail _ (.head _)))) n8' E8 t8
  have FB := b2_fr F₉ E8 t8
  have Y : Made w ⟨⟨sx, dx, f, c', L + 8, clk, C, Ex, V, cd, q1, q2, q3, q4, ctv, pm, 0⟩, L, x1, x2, x3, i1, i2, i3, LL, LI, T, G, Lg, []⟩ (gtOf (firstV ns)) ug (base2 h₀ ps) h₉ (clk0 (firstV ns)) _ :=
    { cx := b2_cx cxg
      sm := let ⟨o, e⟩ := sm; ⟨o, b2_get e (by decide) (by decide)⟩
      ex := rfl
      y := yB
      nG := fun z => nLg (by
        rcases List.mem_append.mp z with h | h
        · exact List.mem_append_left _ h
        · rcases List.mem_cons.mp h with h | h
          · exact List.mem_append_right _ (show Lg ∈ L :: 981 :: hid L from (show Lg = L from h) ▸ .head _)
          · exact up _ h)
      nS := fun a ha z => nS a ha (by
        rcases List.mem_cons.mp z with h | h
        · exact h ▸ .head _
        · exact .tail _ (.tail _ h))
      CE := nCE
      CV := nCV
      EV := nEV
      VL := LV
      gL := fun a ha => by
        cases e : (base2 h₀ ps).get? a with
        | none => rfl
        | some o => have := gL a ha; rw [b2_of e (Nat.ne_of_gt (Nat.lt_of_lt_of_le lt8 ha))] at this; cases this
      n9 := lt9
      ec := rfl
      oS := memAt 15 rfl
      oD := memAt 16 rfl
      oF := memAt 18 rfl
      oC := ⟨oc, vs', tq, memAt 19 rfl, hd, hq⟩
      oc := memAt 17 rfl
      ok := ⟨_, _, memAt 20 rfl⟩
      o1 := ⟨_, _, _, memAt 13 rfl, memAt 14 rfl⟩
      o2 := ⟨_, _, _, memAt 11 rfl, memAt 12 rfl⟩
      o3 := ⟨_, _, _, memAt 9 rfl, memAt 10 rfl⟩
      p1 := ⟨_, _, _, _, memAt 6 rfl, memAt 7 rfl⟩
      p2 := ⟨_, _, _, _, memAt 4 rfl, memAt 5 rfl⟩
      p3 := ⟨_, _, _, _, memAt 2 rfl, memAt 3 rfl⟩
      oL := ⟨_, memAt 8 rfl⟩
      oI := ⟨_, memAt 1 rfl⟩
      oT := ⟨_, _, memAt 0 rfl⟩
      oG := ⟨_, memAt 21 rfl⟩
      c1 := ci (by decide) (cj (by decide) (cj (by decide) c1 k₇) k₈) k₉
      c2 := ci (by decide) (cj (by decide) c2 k₈) k₉
      c3 := ci (by decide) c3 k₉
      c8 := c9 (by decide) (by decide) c8
      c4 := c9 (by decide) (by decide) (c14 4 (by decide) (by decide))
      c5 := c9 (by decide) (by decide) (c14 5 (by decide) (by decide))
      c6 := c9 (by decide) (by decide) (c14 6 (by decide) (by decide))
      c7 := c9 (by decide) (by decide) (c14 7 (by decide) (by decide))
      hC := k3 _ (by simp) _ eC
      hE := k3 _ (by simp) _ eE
      hV := k3 _ (by simp) _ eV
      hG := eLg
      t9 := kl _ _ e9 lt9 }
  refine Y.fin (s := s) (amb.mono (by decide)) hfr' FB (by rfl) (if_pos rfl) (by rfl) (let ⟨o, e, r⟩ := hS; ⟨o, b2_get e nS9.1 nS9.2, r⟩) hv hz fun hZ tZ sb e => ?_
  exact q hZ tZ (old_of cx t9 t8 sb e)
end
end
section
set_option maxHeartbeats 400000
theorem ka_eq (P : Params) : KA P = K P ++ KT P := rfl
theorem lookup_left {l l' : Frag} {a : Addr} {o : Obj} : l.lookup a = some o → (l ++ l').lookup a = some o := fun h => by
  induction l with
  | nil => cases h
  | cons p r ih =>
    obtain ⟨b, x⟩ := p
    simp only [List.cons_append, List.lookup] at h ⊢
    split at h
    · exact h
    · exact ih h
theorem k_of_ka {P : Params} {h : Heap} (X : (KA P).In h) : (K P).In h := fun a o e => X a o (by rw [ka_eq]; exact lookup_left e)
theorem ka921 (P : Params) : (KA P).lookup 921 = some (tabObj #[]) := by kernel_rfl
theorem ka981 (P : Params) : (KA P).lookup 981 = some (tabObj #[]) := by kernel_rfl
theorem cd925 (P : Params) {h : Heap} (X : (K P).In h) : CodeHd h 925 921 := ⟨_, _, _, _, _, _, _, _, _, X _ _ (k925 _), rfl, rfl, rfl, rfl, rfl, rfl, rfl, rfl, by decide⟩
theorem gn_law (P : Params) : nsIn (K P) mainGlobals (Str.ofString "law") = some (some (.ref 984)) := by kernel_rfl
theorem cx_of {q : Program} {loose : List Str} {mean : ExcName → Option Value} {mg mb : Str → Option Value} {w : World} {h : Heap} (X : (KA w.params).In h) (T : Top q loose mean mg mb h) : Cx w h :=
  ⟨k_of_ka X, ⟨_, _, _, _, _, T⟩, cd925 _ (k_of_ka X)⟩
theorem am_caller : Amb callerA 11 := ⟨rfl, by decide, by decide⟩
theorem entry {q : Program} {loose : List Str} {XP : (Str → Option Value) → Heap → Prop} {d : DefRec} {kwd : List (Str × PySem.Expr)} (hn : d.name = Str.ofString "law") (hi : importsNone q = true) :
    WalkO q loose XP (kHook KA KAs (fun _ => by kernel_rfl)).says PySem.Challenge.rw_bn0043_01.row.toRowW d kwd (fun f vs => PySem.call f vs) := by
  intro w s₀ s₁ mg mb G Y fa o pm cd doc dV kV ho hd hcd hD hmg hg args vals as hpre hlay hrd hwl hlo
  have X : (KA w.params).In s₁.heap := kIn_of Y
  have T := G.T
  have cx := cx_of X T
  have sm : ∃ o, s₁.heap.get? sysModules = some o := by
    obtain ⟨mm, ⟨o, es, ep, e, _⟩, _⟩ := (T.seer hi).mods
    exact ⟨o, e⟩
  obtain rfl : fa = 984 := by
    have := mg_of cx.X T.g (gn_law _)
    rw [hn, this] at hmg
    cases hmg; rfl
  wrow_args hpre hlay hrd hwl hlo
  rename_i ns _ _ _ _ _ _ _ Sc vs _ hL _ _ _ hI _ hlen _
  have hz : vs.length ≤ sizeLine := by
    have e := IntsAre.length hI
    have l : (63 : Nat) ≤ sizeLine := by decide
    omega
  refine enter_call ?_
  refine law_spec (s := s₁) (h₀ := s₁.heap) (t₀ := s₁.toks) am_caller rfl cx (X _ _ (ka921 _)) (X _ _ (ka981 _)) sm hL hI hz fun h' t' old => ?_
  exact ⟨.inl ⟨.bool true, .bool true, [], rfl, fun _ => rfl, .bool true, postW_of (by wrow_shape) (by wtm_val) (by w_fin), fun _ => ⟨.nil, fun _ z => nomatch z⟩⟩, old, rfl, .of_eq hg⟩
end
end BN
open PySem PySem.W PyProof.Rows
set_option maxHeartbeats 0 in
theorem PySem.Challenge.cw_bn0043_01_holds : PySem.Challenge.rw_bn0043_01.Holds := by
  w_on; o_law
  o_head (kHook BN.KA BN.KAs (fun _ => by kernel_rfl))
  case hw => w_witness2
  exact BN.entry (by rfl) (by decide +kernel)
