import PyProof.Rows.All
import Wide.All
import OpenK.AllK
import Wide.FinOn
import PySem.Challenge.RW_ki0005_01
open PySem PySem.W PyProof.Rows
set_option Elab.async false
set_option maxRecDepth 100000
set_option linter.unusedVariables false
set_option compiler.extract_closed false
namespace Mine
open PySem.Calls PyProof.V PySem.Spec
-- K0
noncomputable def stAt (i : Nat) : Stmt := PySem.Challenge.pw_ki0005_01.main.body.getD i (.Pass ⟨0, 0, 0, 0⟩)
noncomputable def stIn (i j : Nat) : Stmt := match stAt i with | .ClassDef _ _ _ body _ _ _ _ _ _ _ => body.getD j (.Pass ⟨0, 0, 0, 0⟩) | _ => .Pass ⟨0, 0, 0, 0⟩
noncomputable def fnD (st : Stmt) (qual : Str) (dV doc pm : Value) (an : Option Addr) (cd : Value) : FuncData := match st with
  | .FunctionDef name args body _ _ _ scope _ _ _ => ⟨name, qual, args, .stmts body, scope, 3, [], dV, .none, doc, pm, an, cd, .none, 0⟩
  | _ => ⟨qual, qual, ⟨[], [], none, [], [], none, []⟩, .stmts [], ⟨.function, [], false, false, []⟩, 3, [], dV, .none, doc, pm, an, cd, .none, 0⟩
noncomputable def d660 : { d : FuncData // fnD (stIn 28 5) (Str.ofString "MutableMapping.popitem") (Value.none) (Value.none) ((Value.str (Str.ofString "collections.abc") 312)) (none) ((Value.ref 659)) = d } := ⟨⟨_, _, _, .stmts _, _, _, _, _, _, _, _, _, _, _, _⟩, rfl⟩
noncomputable def d714 : { d : FuncData // fnD (stIn 31 2) (Str.ofString "Cache.__init__") ((Value.ref 707)) (Value.none) ((Value.str (Str.ofString "cachetools") 1128)) (none) ((Value.ref 713)) = d } := ⟨⟨_, _, _, .stmts _, _, _, _, _, _, _, _, _, _, _, _⟩, rfl⟩
noncomputable def d728 : { d : FuncData // fnD (stIn 31 4) (Str.ofString "Cache.__getitem__") (Value.none) (Value.none) ((Value.str (Str.ofString "cachetools") 1128)) (none) ((Value.ref 727)) = d } := ⟨⟨_, _, _, .stmts _, _, _, _, _, _, _, _, _, _, _, _⟩, rfl⟩
noncomputable def d735 : { d : FuncData // fnD (stIn 31 5) (Str.ofString "Cache.__setitem__") (Value.none) (Value.none) ((Value.str (Str.ofString "cachetools") 1128)) (none) ((Value.ref 734)) = d } := ⟨⟨_, _, _, .stmts _, _, _, _, _, _, _, _, _, _, _, _⟩, rfl⟩
noncomputable def d742 : { d : FuncData // fnD (stIn 31 6) (Str.ofString "Cache.__delitem__") (Value.none) (Value.none) ((Value.str (Str.ofString "cachetools") 1128)) (none) ((Value.ref 741)) = d } := ⟨⟨_, _, _, .stmts _, _, _, _, _, _, _, _, _, _, _, _⟩, rfl⟩
noncomputable def d749 : { d : FuncData // fnD (stIn 31 7) (Str.ofString "Cache.__contains__") (Value.none) (Value.none) ((Value.str (Str.ofString "cachetools") 1128)) (none) ((Value.ref 748)) = d } := ⟨⟨_, _, _, .stmts _, _, _, _, _, _, _, _, _, _, _, _⟩, rfl⟩
noncomputable def d756 : { d : FuncData // fnD (stIn 31 8) (Str.ofString "Cache.__missing__") (Value.none) (Value.none) ((Value.str (Str.ofString "cachetools") 1128)) (none) ((Value.ref 755)) = d } := ⟨⟨_, _, _, .stmts _, _, _, _, _, _, _, _, _, _, _, _⟩, rfl⟩
noncomputable def d763 : { d : FuncData // fnD (stIn 31 9) (Str.ofString "Cache.__iter__") (Value.none) (Value.none) ((Value.str (Str.ofString "cachetools") 1128)) (none) ((Value.ref 762)) = d } := ⟨⟨_, _, _, .stmts _, _, _, _, _, _, _, _, _, _, _, _⟩, rfl⟩
noncomputable def d770 : { d : FuncData // fnD (stIn 31 10) (Str.ofString "Cache.__len__") (Value.none) (Value.none) ((Value.str (Str.ofString "cachetools") 1128)) (none) ((Value.ref 769)) = d } := ⟨⟨_, _, _, .stmts _, _, _, _, _, _, _, _, _, _, _, _⟩, rfl⟩
noncomputable def d778 : { d : FuncData // fnD (stIn 31 11) (Str.ofString "Cache.get") ((Value.ref 771)) (Value.none) ((Value.str (Str.ofString "cachetools") 1128)) (none) ((Value.ref 777)) = d } := ⟨⟨_, _, _, .stmts _, _, _, _, _, _, _, _, _, _, _, _⟩, rfl⟩
noncomputable def d786 : { d : FuncData // fnD (stIn 31 12) (Str.ofString "Cache.pop") ((Value.ref 779)) (Value.none) ((Value.str (Str.ofString "cachetools") 1128)) (none) ((Value.ref 785)) = d } := ⟨⟨_, _, _, .stmts _, _, _, _, _, _, _, _, _, _, _, _⟩, rfl⟩
noncomputable def d794 : { d : FuncData // fnD (stIn 31 13) (Str.ofString "Cache.setdefault") ((Value.ref 787)) (Value.none) ((Value.str (Str.ofString "cachetools") 1128)) (none) ((Value.ref 793)) = d } := ⟨⟨_, _, _, .stmts _, _, _, _, _, _, _, _, _, _, _, _⟩, rfl⟩
noncomputable def d801 : { d : FuncData // fnD (stIn 31 14) (Str.ofString "Cache.clear") (Value.none) (Value.none) ((Value.str (Str.ofString "cachetools") 1128)) (none) ((Value.ref 800)) = d } := ⟨⟨_, _, _, .stmts _, _, _, _, _, _, _, _, _, _, _, _⟩, rfl⟩
noncomputable def d808 : { d : FuncData // fnD (stIn 31 15) (Str.ofString "Cache.maxsize") (Value.none) (Value.none) ((Value.str (Str.ofString "cachetools") 1128)) (none) ((Value.ref 807)) = d } := ⟨⟨_, _, _, .stmts _, _, _, _, _, _, _, _, _, _, _, _⟩, rfl⟩
noncomputable def d816 : { d : FuncData // fnD (stIn 31 16) (Str.ofString "Cache.currsize") (Value.none) (Value.none) ((Value.str (Str.ofString "cachetools") 1128)) (none) ((Value.ref 815)) = d } := ⟨⟨_, _, _, .stmts _, _, _, _, _, _, _, _, _, _, _, _⟩, rfl⟩
noncomputable def d824 : { d : FuncData // fnD (stIn 31 17) (Str.ofString "Cache.getsizeof") (Value.none) (Value.none) ((Value.str (Str.ofString "cachetools") 1128)) ((some 827)) ((Value.ref 823)) = d } := ⟨⟨_, _, _, .stmts _, _, _, _, _, _, _, _, _, _, _, _⟩, rfl⟩
noncomputable def d849 : { d : FuncData // fnD (stIn 32 0) (Str.ofString "FIFOCache.__init__") ((Value.ref 842)) (Value.none) ((Value.str (Str.ofString "cachetools") 1128)) (none) ((Value.ref 848)) = d } := ⟨⟨_, _, _, .stmts _, _, _, _, _, _, _, _, _, _, _, _⟩, rfl⟩
noncomputable def d857 : { d : FuncData // fnD (stIn 32 1) (Str.ofString "FIFOCache.__setitem__") ((Value.ref 850)) (Value.none) ((Value.str (Str.ofString "cachetools") 1128)) (none) ((Value.ref 856)) = d } := ⟨⟨_, _, _, .stmts _, _, _, _, _, _, _, _, _, _, _, _⟩, rfl⟩
noncomputable def d865 : { d : FuncData // fnD (stIn 32 2) (Str.ofString "FIFOCache.__delitem__") ((Value.ref 858)) (Value.none) ((Value.str (Str.ofString "cachetools") 1128)) (none) ((Value.ref 864)) = d } := ⟨⟨_, _, _, .stmts _, _, _, _, _, _, _, _, _, _, _, _⟩, rfl⟩
noncomputable def d872 : { d : FuncData // fnD (stIn 32 3) (Str.ofString "FIFOCache.popitem") (Value.none) (Value.none) ((Value.str (Str.ofString "cachetools") 1128)) (none) ((Value.ref 871)) = d } := ⟨⟨_, _, _, .stmts _, _, _, _, _, _, _, _, _, _, _, _⟩, rfl⟩
noncomputable def d879 : { d : FuncData // fnD (stIn 32 4) (Str.ofString "FIFOCache.clear") (Value.none) (Value.none) ((Value.str (Str.ofString "cachetools") 1128)) (none) ((Value.ref 878)) = d } := ⟨⟨_, _, _, .stmts _, _, _, _, _, _, _, _, _, _, _, _⟩, rfl⟩
noncomputable def d931 : { d : FuncData // fnD (stIn 33 1) (Str.ofString "LFUCache.__init__") ((Value.ref 924)) (Value.none) ((Value.str (Str.ofString "cachetools") 1128)) (none) ((Value.ref 930)) = d } := ⟨⟨_, _, _, .stmts _, _, _, _, _, _, _, _, _, _, _, _⟩, rfl⟩
noncomputable def d996 : { d : FuncData // fnD (stIn 34 0) (Str.ofString "LRUCache.__init__") ((Value.ref 989)) (Value.none) ((Value.str (Str.ofString "cachetools") 1128)) (none) ((Value.ref 995)) = d } := ⟨⟨_, _, _, .stmts _, _, _, _, _, _, _, _, _, _, _, _⟩, rfl⟩
noncomputable def d1053 : { d : FuncData // fnD (stAt 36) (Str.ofString "_law_size") (Value.none) (Value.none) ((Value.str (Str.ofString "law_ki0005_01") 1592)) (none) ((Value.ref 1052)) = d } := ⟨⟨_, _, _, .stmts _, _, _, _, _, _, _, _, _, _, _, _⟩, rfl⟩
noncomputable def d1058 : { d : FuncData // fnD (stAt 37) (Str.ofString "_law_without") (Value.none) (Value.none) ((Value.str (Str.ofString "law_ki0005_01") 1592)) (none) ((Value.ref 1057)) = d } := ⟨⟨_, _, _, .stmts _, _, _, _, _, _, _, _, _, _, _, _⟩, rfl⟩
noncomputable def d1065 : { d : FuncData // fnD (stAt 38) (Str.ofString "_law_value") (Value.none) (Value.none) ((Value.str (Str.ofString "law_ki0005_01") 1592)) (none) ((Value.ref 1064)) = d } := ⟨⟨_, _, _, .stmts _, _, _, _, _, _, _, _, _, _, _, _⟩, rfl⟩
noncomputable def d1070 : { d : FuncData // fnD (stAt 39) (Str.ofString "_law_room") (Value.none) (Value.none) ((Value.str (Str.ofString "law_ki0005_01") 1592)) (none) ((Value.ref 1069)) = d } := ⟨⟨_, _, _, .stmts _, _, _, _, _, _, _, _, _, _, _, _⟩, rfl⟩
noncomputable def d1075 : { d : FuncData // fnD (stAt 40) (Str.ofString "_law_put") (Value.none) (Value.none) ((Value.str (Str.ofString "law_ki0005_01") 1592)) (none) ((Value.ref 1074)) = d } := ⟨⟨_, _, _, .stmts _, _, _, _, _, _, _, _, _, _, _, _⟩, rfl⟩
noncomputable def d1082 : { d : FuncData // fnD (stAt 41) (Str.ofString "_law_deed") (Value.none) (Value.none) ((Value.str (Str.ofString "law_ki0005_01") 1592)) (none) ((Value.ref 1081)) = d } := ⟨⟨_, _, _, .stmts _, _, _, _, _, _, _, _, _, _, _, _⟩, rfl⟩
noncomputable def d1087 : { d : FuncData // fnD (stAt 42) (Str.ofString "_law_due") (Value.none) (Value.none) ((Value.str (Str.ofString "law_ki0005_01") 1592)) (none) ((Value.ref 1086)) = d } := ⟨⟨_, _, _, .stmts _, _, _, _, _, _, _, _, _, _, _, _⟩, rfl⟩
noncomputable def d1092 : { d : FuncData // fnD (stAt 43) (Str.ofString "law") (Value.none) (Value.none) ((Value.str (Str.ofString "law_ki0005_01") 1592)) (none) ((Value.ref 1091)) = d } := ⟨⟨_, _, _, .stmts _, _, _, _, _, _, _, _, _, _, _, _⟩, rfl⟩
noncomputable def K0 : Params → Frag := fun P =>
  (nat_lit 2, Obj.mk Value.none none (Data.dict #[DictEntry.mk (PyData.keyHash P (Str.ofString "\x69mport.loaded._collections")) (Value.str (Str.ofString "\x69mport.loaded._collections") 185) (Value.bool true), DictEntry.mk (PyData.keyHash P (Str.ofString "class._frozen_importlib.BuiltinImporter")) (Value.str (Str.ofString "class._frozen_importlib.BuiltinImporter") 187) (Value.ref 15), DictEntry.mk (PyData.keyHash P (Str.ofString "watched.\x69mport")) (Value.str (Str.ofString "watched.\x69mport") 208) (Value.ref 19), DictEntry.mk (PyData.keyHash P (Str.ofString "class._frozen_importlib.ModuleSpec")) (Value.str (Str.ofString "class._frozen_importlib.ModuleSpec") 218) (Value.ref 23), DictEntry.mk (PyData.keyHash P (Str.ofString "sys.modules.booked-epoch")) (Value.str (Str.ofString "sys.modules.booked-epoch") 247) (Value.int 3 0), DictEntry.mk (PyData.keyHash P (Str.ofString "sys.modules.landed._collections")) (Value.str (Str.ofString "sys.modules.landed._collections") 248) (Value.bool true), DictEntry.mk (PyData.keyHash P (Str.ofString "\x69mport.later-laid._collections")) (Value.str (Str.ofString "\x69mport.later-laid._collections") 263) (Value.bool true), DictEntry.mk (PyData.keyHash P (Str.ofString "watched.library")) (Value.str (Str.ofString "watched.library") 265) (Value.ref 28), DictEntry.mk (PyData.keyHash P (Str.ofString "watched.library-objects")) (Value.str (Str.ofString "watched.library-objects") 0) (Value.str (Str.ofString "\x0d") 0), DictEntry.mk (PyData.keyHash P (Str.ofString "watched.library-deep._collections")) (Value.str (Str.ofString "watched.library-deep._collections") 266) (Value.str (Str.ofString "\x04\x00\x00\x0c\x04\x00\x00\x0c\x04\x00\x00\x03\x04\x00\x00\x0c\x08\x04dict\x02") 0)] 10) #[]) ::
  (nat_lit 3, Obj.mk (Value.type "dict") none (Data.dict #[DictEntry.mk (PyData.keyHash P (Str.ofString "__name__")) (Value.str (Str.ofString "__name__") 165) (Value.str (Str.ofString "law_ki0005_01") 1592), DictEntry.mk (PyData.keyHash P (Str.ofString "__doc__")) (Value.str (Str.ofString "__doc__") 166) Value.none, DictEntry.mk (PyData.keyHash P (Str.ofString "__package__")) (Value.str (Str.ofString "__package__") 167) Value.none, DictEntry.mk (PyData.keyHash P (Str.ofString "__loader__")) (Value.str (Str.ofString "__loader__") 168) (Value.builtin "__main__.__loader__#opaque"), DictEntry.mk (PyData.keyHash P (Str.ofString "__spec__")) (Value.str (Str.ofString "__spec__") 169) Value.none, DictEntry.mk (PyData.keyHash P (Str.ofString "__annotations__")) (Value.str (Str.ofString "__annotations__") 170) (Value.ref 6), DictEntry.mk (PyData.keyHash P (Str.ofString "__builtins__")) (Value.str (Str.ofString "__builtins__") 171) (Value.ref 4), DictEntry.mk (PyData.keyHash P (Str.ofString "__file__")) (Value.str (Str.ofString "__file__") 173) (Value.str (Str.ofString "/claim/cut.py") 172), DictEntry.mk (PyData.keyHash P (Str.ofString "__cached__")) (Value.str (Str.ofString "__cached__") 174) Value.none, DictEntry.mk (PyData.keyHash P (Str.ofString "deque")) (Value.str (Str.ofString "deque") 272) (Value.type "collections.deque"), DictEntry.mk (PyData.keyHash P (Str.ofString "_wall")) (Value.str (Str.ofString "_wall") 285) (Value.ref 39), DictEntry.mk (PyData.keyHash P (Str.ofString "ABCMeta")) (Value.str (Str.ofString "ABCMeta") 311) (Value.ref 56), DictEntry.mk (PyData.keyHash P (Str.ofString "_ABCLike")) (Value.str (Str.ofString "_ABCLike") 354) (Value.ref 89), DictEntry.mk (PyData.keyHash P (Str.ofString "_abc_plain_meta")) (Value.str (Str.ofString "_abc_plain_meta") 361) (Value.ref 98), DictEntry.mk (PyData.keyHash P (Str.ofString "_abc_has_iter")) (Value.str (Str.ofString "_abc_has_iter") 368) (Value.ref 105), DictEntry.mk (PyData.keyHash P (Str.ofString "_abc_has_len")) (Value.str (Str.ofString "_abc_has_len") 375) (Value.ref 112), DictEntry.mk (PyData.keyHash P (Str.ofString "_abc_has_contains")) (Value.str (Str.ofString "_abc_has_contains") 382) (Value.ref 119), DictEntry.mk (PyData.keyHash P (Str.ofString "_abc_is_mappingproxy")) (Value.str (Str.ofString "_abc_is_mappingproxy") 389) (Value.ref 126), DictEntry.mk (PyData.keyHash P (Str.ofString "_abc_is_builtin_collection")) (Value.str (Str.ofString "_abc_is_builtin_collection") 396) (Value.ref 133), DictEntry.mk (PyData.keyHash P (Str.ofString "Iterable")) (Value.str (Str.ofString "Iterable") 437) (Value.ref 166), DictEntry.mk (PyData.keyHash P (Str.ofString "Sized")) (Value.str (Str.ofString "Sized") 474) (Value.ref 196), DictEntry.mk (PyData.keyHash P (Str.ofString "Container")) (Value.str (Str.ofString "Container") 521) (Value.ref 232), DictEntry.mk (PyData.keyHash P (Str.ofString "Collection")) (Value.str (Str.ofString "Collection") 551) (Value.ref 255), DictEntry.mk (PyData.keyHash P (Str.ofString "Set")) (Value.str (Str.ofString "Set") 708) (Value.ref 371), DictEntry.mk (PyData.keyHash P (Str.ofString "Mapping")) (Value.str (Str.ofString "Mapping") 796) (Value.ref 443), DictEntry.mk (PyData.keyHash P (Str.ofString "MappingView")) (Value.str (Str.ofString "MappingView") 864) (Value.ref 493), DictEntry.mk (PyData.keyHash P (Str.ofString "KeysView")) (Value.str (Str.ofString "KeysView") 924) (Value.ref 540), DictEntry.mk (PyData.keyHash P (Str.ofString "ItemsView")) (Value.str (Str.ofString "ItemsView") 988) (Value.ref 585), DictEntry.mk (PyData.keyHash P (Str.ofString "ValuesView")) (Value.str (Str.ofString "ValuesView") 1031) (Value.ref 620), DictEntry.mk (PyData.keyHash P (Str.ofString "MutableMapping")) (Value.str (Str.ofString "MutableMapping") 1118) (Value.ref 695), DictEntry.mk (PyData.keyHash P (Str.ofString "Cache")) (Value.str (Str.ofString "Cache") 1306) (Value.ref 830), DictEntry.mk (PyData.keyHash P (Str.ofString "FIFOCache")) (Value.str (Str.ofString "FIFOCache") 1369) (Value.ref 882), DictEntry.mk (PyData.keyHash P (Str.ofString "LFUCache")) (Value.str (Str.ofString "LFUCache") 1509) (Value.ref 979), DictEntry.mk (PyData.keyHash P (Str.ofString "LRUCache")) (Value.str (Str.ofString "LRUCache") 1591) (Value.ref 1044), DictEntry.mk (PyData.keyHash P (Str.ofString "_law_size")) (Value.str (Str.ofString "_law_size") 1600) (Value.ref 1053), DictEntry.mk (PyData.keyHash P (Str.ofString "_law_without")) (Value.str (Str.ofString "_law_without") 1606) (Value.ref 1058), DictEntry.mk (PyData.keyHash P (Str.ofString "_law_value")) (Value.str (Str.ofString "_law_value") 1615) (Value.ref 1065), DictEntry.mk (PyData.keyHash P (Str.ofString "_law_room")) (Value.str (Str.ofString "_law_room") 1621) (Value.ref 1070), DictEntry.mk (PyData.keyHash P (Str.ofString "_law_put")) (Value.str (Str.ofString "_law_put") 1627) (Value.ref 1075), DictEntry.mk (PyData.keyHash P (Str.ofString "_law_deed")) (Value.str (Str.ofString "_law_deed") 1637) (Value.ref 1082), DictEntry.mk (PyData.keyHash P (Str.ofString "_law_due")) (Value.str (Str.ofString "_law_due") 1643) (Value.ref 1087), DictEntry.mk (PyData.keyHash P (Str.ofString "law")) (Value.str (Str.ofString "law") 1649) (Value.ref 1092)] 42) #[]) ::
  (nat_lit 55, Obj.mk (Value.type "dict") none (Data.dict #[DictEntry.mk (PyData.keyHash P (Str.ofString "__module__")) (Value.str (Str.ofString "__module__") 295) (Value.str (Str.ofString "abc") 286), DictEntry.mk (PyData.keyHash P (Str.ofString "__firstlineno__")) (Value.str (Str.ofString "__firstlineno__") 299) (Value.int 6 298), DictEntry.mk (PyData.keyHash P (Str.ofString "register")) (Value.str (Str.ofString "register") 307) (Value.ref 53), DictEntry.mk (PyData.keyHash P (Str.ofString "__static_attributes__")) (Value.str (Str.ofString "__static_attributes__") 308) (Value.ref 54), DictEntry.mk (PyData.keyHash P (Str.ofString "__doc__")) (Value.str (Str.ofString "__doc__") 309) Value.none] 2) #[]) ::
  (nat_lit 56, Obj.mk (Value.type "type") none (Data.cls (ClassData.mk (Str.ofString "ABCMeta") [Value.type "type"] [Value.ref 56, Value.type "type", Value.type "object"] 55 (Str.ofString "ABCMeta") true [] [Value.ref 89] false none false)) #[some (Value.ref 40), none, some (Value.str (Str.ofString "ABCMeta") 288), some (Value.str (Str.ofString "ABCMeta") 296), some (Value.builtin "type.__new__"), some (Value.bool true)]) ::
  (nat_lit 88, Obj.mk (Value.type "dict") none (Data.dict #[DictEntry.mk (PyData.keyHash P (Str.ofString "__module__")) (Value.str (Str.ofString "__module__") 321) (Value.str (Str.ofString "collections.abc") 312), DictEntry.mk (PyData.keyHash P (Str.ofString "__firstlineno__")) (Value.str (Str.ofString "__firstlineno__") 325) (Value.int 11 324), DictEntry.mk (PyData.keyHash P (Str.ofString "__instancecheck__")) (Value.str (Str.ofString "__instancecheck__") 334) (Value.ref 72), DictEntry.mk (PyData.keyHash P (Str.ofString "__subclasscheck__")) (Value.str (Str.ofString "__subclasscheck__") 342) (Value.ref 79), DictEntry.mk (PyData.keyHash P (Str.ofString "register")) (Value.str (Str.ofString "register") 350) (Value.ref 86), DictEntry.mk (PyData.keyHash P (Str.ofString "__static_attributes__")) (Value.str (Str.ofString "__static_attributes__") 351) (Value.ref 87), DictEntry.mk (PyData.keyHash P (Str.ofString "__doc__")) (Value.str (Str.ofString "__doc__") 352) Value.none] 2) #[]) ::
  (nat_lit 89, Obj.mk (Value.type "type") none (Data.cls (ClassData.mk (Str.ofString "_ABCLike") [Value.ref 56] [Value.ref 89, Value.ref 56, Value.type "type", Value.type "object"] 88 (Str.ofString "_ABCLike") true [] [] false none false)) #[some (Value.ref 59), none, some (Value.str (Str.ofString "_ABCLike") 314), some (Value.str (Str.ofString "_ABCLike") 322), some (Value.builtin "type.__new__"), some (Value.bool true)]) ::
  (nat_lit 165, Obj.mk (Value.type "dict") none (Data.dict #[DictEntry.mk (PyData.keyHash P (Str.ofString "__module__")) (Value.str (Str.ofString "__module__") 404) (Value.str (Str.ofString "collections.abc") 312), DictEntry.mk (PyData.keyHash P (Str.ofString "__firstlineno__")) (Value.str (Str.ofString "__firstlineno__") 408) (Value.int 42 407), DictEntry.mk (PyData.keyHash P (Str.ofString "__slots__")) (Value.str (Str.ofString "__slots__") 409) (Value.ref 141), DictEntry.mk (PyData.keyHash P (Str.ofString "__iter__")) (Value.str (Str.ofString "__iter__") 416) (Value.ref 148), DictEntry.mk (PyData.keyHash P (Str.ofString "_abc_kind")) (Value.str (Str.ofString "_abc_kind") 424) (Value.ref 155), DictEntry.mk (PyData.keyHash P (Str.ofString "__class_getitem__")) (Value.str (Str.ofString "__class_getitem__") 432) (Value.ref 167), DictEntry.mk (PyData.keyHash P (Str.ofString "__static_attributes__")) (Value.str (Str.ofString "__static_attributes__") 433) (Value.ref 163), DictEntry.mk (PyData.keyHash P (Str.ofString "__doc__")) (Value.str (Str.ofString "__doc__") 435) Value.none, DictEntry.mk (PyData.keyHash P (Str.ofString "__abstractmethods__")) (Value.str (Str.ofString "__abstractmethods__") 442) (Value.ref 170)] 3) #[]) ::
  (nat_lit 166, Obj.mk (Value.ref 89) none (Data.cls (ClassData.mk (Str.ofString "Iterable") [Value.type "object"] [Value.ref 166, Value.type "object"] 165 (Str.ofString "Iterable") false [] [Value.ref 255] true none false)) #[none, none, some (Value.str (Str.ofString "Iterable") 397), some (Value.str (Str.ofString "Iterable") 405), some (Value.builtin "object.__new__"), some (Value.bool false)]) ::
  (nat_lit 195, Obj.mk (Value.type "dict") none (Data.dict #[DictEntry.mk (PyData.keyHash P (Str.ofString "__module__")) (Value.str (Str.ofString "__module__") 450) (Value.str (Str.ofString "collections.abc") 312), DictEntry.mk (PyData.keyHash P (Str.ofString "__firstlineno__")) (Value.str (Str.ofString "__firstlineno__") 454) (Value.int 58 453), DictEntry.mk (PyData.keyHash P (Str.ofString "__slots__")) (Value.str (Str.ofString "__slots__") 455) (Value.ref 178), DictEntry.mk (PyData.keyHash P (Str.ofString "__len__")) (Value.str (Str.ofString "__len__") 462) (Value.ref 185), DictEntry.mk (PyData.keyHash P (Str.ofString "_abc_kind")) (Value.str (Str.ofString "_abc_kind") 470) (Value.ref 192), DictEntry.mk (PyData.keyHash P (Str.ofString "__static_attributes__")) (Value.str (Str.ofString "__static_attributes__") 471) (Value.ref 193), DictEntry.mk (PyData.keyHash P (Str.ofString "__doc__")) (Value.str (Str.ofString "__doc__") 472) Value.none, DictEntry.mk (PyData.keyHash P (Str.ofString "__abstractmethods__")) (Value.str (Str.ofString "__abstractmethods__") 479) (Value.ref 199)] 3) #[]) ::
  (nat_lit 196, Obj.mk (Value.ref 89) none (Data.cls (ClassData.mk (Str.ofString "Sized") [Value.type "object"] [Value.ref 196, Value.type "object"] 195 (Str.ofString "Sized") false [] [Value.ref 255, Value.ref 493] true none false)) #[none, none, some (Value.str (Str.ofString "Sized") 443), some (Value.str (Str.ofString "Sized") 451), some (Value.builtin "object.__new__"), some (Value.bool false)]) ::
  (nat_lit 231, Obj.mk (Value.type "dict") none (Data.dict #[DictEntry.mk (PyData.keyHash P (Str.ofString "__module__")) (Value.str (Str.ofString "__module__") 487) (Value.str (Str.ofString "collections.abc") 312), DictEntry.mk (PyData.keyHash P (Str.ofString "__firstlineno__")) (Value.str (Str.ofString "__firstlineno__") 491) (Value.int 70 490), DictEntry.mk (PyData.keyHash P (Str.ofString "__slots__")) (Value.str (Str.ofString "__slots__") 492) (Value.ref 207), DictEntry.mk (PyData.keyHash P (Str.ofString "__contains__")) (Value.str (Str.ofString "__contains__") 500) (Value.ref 214), DictEntry.mk (PyData.keyHash P (Str.ofString "_abc_kind")) (Value.str (Str.ofString "_abc_kind") 508) (Value.ref 221), DictEntry.mk (PyData.keyHash P (Str.ofString "__class_getitem__")) (Value.str (Str.ofString "__class_getitem__") 516) (Value.ref 233), DictEntry.mk (PyData.keyHash P (Str.ofString "__static_attributes__")) (Value.str (Str.ofString "__static_attributes__") 517) (Value.ref 229), DictEntry.mk (PyData.keyHash P (Str.ofString "__doc__")) (Value.str (Str.ofString "__doc__") 519) Value.none, DictEntry.mk (PyData.keyHash P (Str.ofString "__abstractmethods__")) (Value.str (Str.ofString "__abstractmethods__") 526) (Value.ref 236)] 3) #[]) ::
  (nat_lit 232, Obj.mk (Value.ref 89) none (Data.cls (ClassData.mk (Str.ofString "Container") [Value.type "object"] [Value.ref 232, Value.type "object"] 231 (Str.ofString "Container") false [] [Value.ref 255] true none false)) #[none, none, some (Value.str (Str.ofString "Container") 480), some (Value.str (Str.ofString "Container") 488), some (Value.builtin "object.__new__"), some (Value.bool false)]) ::
  (nat_lit 254, Obj.mk (Value.type "dict") none (Data.dict #[DictEntry.mk (PyData.keyHash P (Str.ofString "__module__")) (Value.str (Str.ofString "__module__") 534) (Value.str (Str.ofString "collections.abc") 312), DictEntry.mk (PyData.keyHash P (Str.ofString "__firstlineno__")) (Value.str (Str.ofString "__firstlineno__") 538) (Value.int 85 537), DictEntry.mk (PyData.keyHash P (Str.ofString "__slots__")) (Value.str (Str.ofString "__slots__") 539) (Value.ref 244), DictEntry.mk (PyData.keyHash P (Str.ofString "_abc_kind")) (Value.str (Str.ofString "_abc_kind") 547) (Value.ref 251), DictEntry.mk (PyData.keyHash P (Str.ofString "__static_attributes__")) (Value.str (Str.ofString "__static_attributes__") 548) (Value.ref 252), DictEntry.mk (PyData.keyHash P (Str.ofString "__doc__")) (Value.str (Str.ofString "__doc__") 549) Value.none, DictEntry.mk (PyData.keyHash P (Str.ofString "__abstractmethods__")) (Value.str (Str.ofString "__abstractmethods__") 558) (Value.ref 258)] 3) #[]) ::
  (nat_lit 255, Obj.mk (Value.ref 89) none (Data.cls (ClassData.mk (Str.ofString "Collection") [Value.ref 196, Value.ref 166, Value.ref 232] [Value.ref 255, Value.ref 196, Value.ref 166, Value.ref 232, Value.type "object"] 254 (Str.ofString "Collection") false [] [Value.ref 371, Value.ref 443, Value.ref 620] true none false)) #[some (Value.ref 237), none, some (Value.str (Str.ofString "Collection") 527), some (Value.str (Str.ofString "Collection") 535), some (Value.builtin "object.__new__"), some (Value.bool false)]) ::
  (nat_lit 442, Obj.mk (Value.type "dict") none (Data.dict #[DictEntry.mk (PyData.keyHash P (Str.ofString "__module__")) (Value.str (Str.ofString "__module__") 723) (Value.str (Str.ofString "collections.abc") 312), DictEntry.mk (PyData.keyHash P (Str.ofString "__firstlineno__")) (Value.str (Str.ofString "__firstlineno__") 727) (Value.int 185 726), DictEntry.mk (PyData.keyHash P (Str.ofString "__slots__")) (Value.str (Str.ofString "__slots__") 728) (Value.ref 382), DictEntry.mk (PyData.keyHash P (Str.ofString "__getitem__")) (Value.str (Str.ofString "__getitem__") 736) (Value.ref 389), DictEntry.mk (PyData.keyHash P (Str.ofString "get")) (Value.str (Str.ofString "get") 745) (Value.ref 397), DictEntry.mk (PyData.keyHash P (Str.ofString "__contains__")) (Value.str (Str.ofString "__contains__") 753) (Value.ref 404), DictEntry.mk (PyData.keyHash P (Str.ofString "keys")) (Value.str (Str.ofString "keys") 760) (Value.ref 411), DictEntry.mk (PyData.keyHash P (Str.ofString "items")) (Value.str (Str.ofString "items") 767) (Value.ref 418), DictEntry.mk (PyData.keyHash P (Str.ofString "values")) (Value.str (Str.ofString "values") 774) (Value.ref 425), DictEntry.mk (PyData.keyHash P (Str.ofString "__eq__")) (Value.str (Str.ofString "__eq__") 782) (Value.ref 432), DictEntry.mk (PyData.keyHash P (Str.ofString "__reversed__")) (Value.str (Str.ofString "__reversed__") 783) Value.none, DictEntry.mk (PyData.keyHash P (Str.ofString "_abc_kind")) (Value.str (Str.ofString "_abc_kind") 791) (Value.ref 439), DictEntry.mk (PyData.keyHash P (Str.ofString "__static_attributes__")) (Value.str (Str.ofString "__static_attributes__") 792) (Value.ref 440), DictEntry.mk (PyData.keyHash P (Str.ofString "__doc__")) (Value.str (Str.ofString "__doc__") 793) Value.none, DictEntry.mk (PyData.keyHash P (Str.ofString "__hash__")) (Value.str (Str.ofString "__hash__") 794) Value.none, DictEntry.mk (PyData.keyHash P (Str.ofString "__abstractmethods__")) (Value.str (Str.ofString "__abstractmethods__") 803) (Value.ref 446)] 4) #[]) ::
  (nat_lit 443, Obj.mk (Value.ref 89) none (Data.cls (ClassData.mk (Str.ofString "Mapping") [Value.ref 255] [Value.ref 443, Value.ref 255, Value.ref 196, Value.ref 166, Value.ref 232, Value.type "object"] 442 (Str.ofString "Mapping") false [] [Value.ref 695] true none false)) #[some (Value.ref 375), none, some (Value.str (Str.ofString "Mapping") 716), some (Value.str (Str.ofString "Mapping") 724), some (Value.builtin "object.__new__"), some (Value.bool false)]) ::
  (nat_lit 645, Obj.mk (Value.type "object") none Data.plain #[]) ::
  (nat_lit 659, Obj.mk (Value.type "code") none (Data.fields #[Value.str (Str.ofString "popitem") 1073, Value.str (Str.ofString "MutableMapping.popitem") 1074, Value.str (Str.ofString "/claim/cut.py") 1075, Value.int 330 0, Value.int 1 0, Value.int 0 0, Value.int 0 0, Value.int 3 0, Value.ref 654, Value.bool true, Value.int 273 0, Value.ref 655, Value.none, Value.ref 656, Value.ref 657, Value.ref 658, Value.int 1079 0, Value.int 330 0, Value.str (Str.ofString "/claim/cut.py") 1080]) #[]) ::
  (nat_lit 660, ⟨.type "function", none, .func d660.1, #[]⟩) ::
  (nat_lit 694, Obj.mk (Value.type "dict") none (Data.dict #[DictEntry.mk (PyData.keyHash P (Str.ofString "__module__")) (Value.str (Str.ofString "__module__") 1039) (Value.str (Str.ofString "collections.abc") 312), DictEntry.mk (PyData.keyHash P (Str.ofString "__firstlineno__")) (Value.str (Str.ofString "__firstlineno__") 1043) (Value.int 309 1042), DictEntry.mk (PyData.keyHash P (Str.ofString "__slots__")) (Value.str (Str.ofString "__slots__") 1044) (Value.ref 630), DictEntry.mk (PyData.keyHash P (Str.ofString "__setitem__")) (Value.str (Str.ofString "__setitem__") 1053) (Value.ref 637), DictEntry.mk (PyData.keyHash P (Str.ofString "__delitem__")) (Value.str (Str.ofString "__delitem__") 1061) (Value.ref 644), DictEntry.mk (PyData.keyHash P (Str.ofString "_MutableMapping__marker")) (Value.str (Str.ofString "_MutableMapping__marker") 1062) (Value.ref 645), DictEntry.mk (PyData.keyHash P (Str.ofString "pop")) (Value.str (Str.ofString "pop") 1072) (Value.ref 653), DictEntry.mk (PyData.keyHash P (Str.ofString "popitem")) (Value.str (Str.ofString "popitem") 1081) (Value.ref 660), DictEntry.mk (PyData.keyHash P (Str.ofString "clear")) (Value.str (Str.ofString "clear") 1088) (Value.ref 667), DictEntry.mk (PyData.keyHash P (Str.ofString "update")) (Value.str (Str.ofString "update") 1097) (Value.ref 676), DictEntry.mk (PyData.keyHash P (Str.ofString "setdefault")) (Value.str (Str.ofString "setdefault") 1106) (Value.ref 684), DictEntry.mk (PyData.keyHash P (Str.ofString "_abc_kind")) (Value.str (Str.ofString "_abc_kind") 1114) (Value.ref 691), DictEntry.mk (PyData.keyHash P (Str.ofString "__static_attributes__")) (Value.str (Str.ofString "__static_attributes__") 1115) (Value.ref 692), DictEntry.mk (PyData.keyHash P (Str.ofString "__doc__")) (Value.str (Str.ofString "__doc__") 1116) Value.none, DictEntry.mk (PyData.keyHash P (Str.ofString "__abstractmethods__")) (Value.str (Str.ofString "__abstractmethods__") 1127) (Value.ref 698)] 3) #[]) ::
  (nat_lit 695, Obj.mk (Value.ref 89) none (Data.cls (ClassData.mk (Str.ofString "MutableMapping") [Value.ref 443] [Value.ref 695, Value.ref 443, Value.ref 255, Value.ref 196, Value.ref 166, Value.ref 232, Value.type "object"] 694 (Str.ofString "MutableMapping") false [] [Value.ref 830] true none false)) #[some (Value.ref 623), none, some (Value.str (Str.ofString "MutableMapping") 1032), some (Value.str (Str.ofString "MutableMapping") 1040), some (Value.builtin "object.__new__"), some (Value.bool false)]) ::
  (nat_lit 706, Obj.mk (Value.type "object") none Data.plain #[]) ::
  (nat_lit 707, Obj.mk (Value.type "tuple") none (Data.seq #[Value.none]) #[]) ::
  (nat_lit 713, Obj.mk (Value.type "code") none (Data.fields #[Value.str (Str.ofString "__init__") 1144, Value.str (Str.ofString "Cache.__init__") 1145, Value.str (Str.ofString "/claim/cut.py") 1146, Value.int 367 0, Value.int 3 0, Value.int 0 0, Value.int 0 0, Value.int 3 0, Value.ref 708, Value.bool true, Value.int 273 0, Value.ref 709, Value.none, Value.ref 710, Value.ref 711, Value.ref 712, Value.int 1150 0, Value.int 367 0, Value.str (Str.ofString "/claim/cut.py") 1151]) #[]) ::
  (nat_lit 714, ⟨.type "function", none, .func d714.1, #[]⟩) ::
  (nat_lit 727, Obj.mk (Value.type "code") none (Data.fields #[Value.str (Str.ofString "__getitem__") 1160, Value.str (Str.ofString "Cache.__getitem__") 1161, Value.str (Str.ofString "/claim/cut.py") 1162, Value.int 381 0, Value.int 2 0, Value.int 0 0, Value.int 0 0, Value.int 3 0, Value.ref 722, Value.bool true, Value.int 273 0, Value.ref 723, Value.none, Value.ref 724, Value.ref 725, Value.ref 726, Value.int 1165 0, Value.int 381 0, Value.str (Str.ofString "/claim/cut.py") 1166]) #[]) ::
  (nat_lit 728, ⟨.type "function", none, .func d728.1, #[]⟩) ::
  (nat_lit 734, Obj.mk (Value.type "code") none (Data.fields #[Value.str (Str.ofString "__setitem__") 1168, Value.str (Str.ofString "Cache.__setitem__") 1169, Value.str (Str.ofString "/claim/cut.py") 1170, Value.int 387 0, Value.int 3 0, Value.int 0 0, Value.int 0 0, Value.int 3 0, Value.ref 729, Value.bool true, Value.int 273 0, Value.ref 730, Value.none, Value.ref 731, Value.ref 732, Value.ref 733, Value.int 1179 0, Value.int 387 0, Value.str (Str.ofString "/claim/cut.py") 1180]) #[]) ::
  (nat_lit 735, ⟨.type "function", none, .func d735.1, #[]⟩) ::
  (nat_lit 741, Obj.mk (Value.type "code") none (Data.fields #[Value.str (Str.ofString "__delitem__") 1182, Value.str (Str.ofString "Cache.__delitem__") 1183, Value.str (Str.ofString "/claim/cut.py") 1184, Value.int 421 0, Value.int 2 0, Value.int 0 0, Value.int 0 0, Value.int 3 0, Value.ref 736, Value.bool true, Value.int 273 0, Value.ref 737, Value.none, Value.ref 738, Value.ref 739, Value.ref 740, Value.int 1189 0, Value.int 421 0, Value.str (Str.ofString "/claim/cut.py") 1190]) #[]) ::
  (nat_lit 742, ⟨.type "function", none, .func d742.1, #[]⟩) ::
  (nat_lit 748, Obj.mk (Value.type "code") none (Data.fields #[Value.str (Str.ofString "__contains__") 1192, Value.str (Str.ofString "Cache.__contains__") 1193, Value.str (Str.ofString "/claim/cut.py") 1194, Value.int 431 0, Value.int 2 0, Value.int 0 0, Value.int 0 0, Value.int 3 0, Value.ref 743, Value.bool true, Value.int 273 0, Value.ref 744, Value.none, Value.ref 745, Value.ref 746, Value.ref 747, Value.int 1197 0, Value.int 431 0, Value.str (Str.ofString "/claim/cut.py") 1198]) #[]) ::
  (nat_lit 749, ⟨.type "function", none, .func d749.1, #[]⟩) ::
  (nat_lit 755, Obj.mk (Value.type "code") none (Data.fields #[Value.str (Str.ofString "__missing__") 1200, Value.str (Str.ofString "Cache.__missing__") 1201, Value.str (Str.ofString "/claim/cut.py") 1202, Value.int 434 0, Value.int 2 0, Value.int 0 0, Value.int 0 0, Value.int 3 0, Value.ref 750, Value.bool true, Value.int 273 0, Value.ref 751, Value.none, Value.ref 752, Value.ref 753, Value.ref 754, Value.int 1205 0, Value.int 434 0, Value.str (Str.ofString "/claim/cut.py") 1206]) #[]) ::
  (nat_lit 756, ⟨.type "function", none, .func d756.1, #[]⟩) ::
  (nat_lit 762, Obj.mk (Value.type "code") none (Data.fields #[Value.str (Str.ofString "__iter__") 1208, Value.str (Str.ofString "Cache.__iter__") 1209, Value.str (Str.ofString "/claim/cut.py") 1210, Value.int 437 0, Value.int 1 0, Value.int 0 0, Value.int 0 0, Value.int 3 0, Value.ref 757, Value.bool true, Value.int 273 0, Value.ref 758, Value.none, Value.ref 759, Value.ref 760, Value.ref 761, Value.int 1212 0, Value.int 437 0, Value.str (Str.ofString "/claim/cut.py") 1213]) #[]) ::
  (nat_lit 763, ⟨.type "function", none, .func d763.1, #[]⟩) ::
  (nat_lit 769, Obj.mk (Value.type "code") none (Data.fields #[Value.str (Str.ofString "__len__") 1215, Value.str (Str.ofString "Cache.__len__") 1216, Value.str (Str.ofString "/claim/cut.py") 1217, Value.int 440 0, Value.int 1 0, Value.int 0 0, Value.int 0 0, Value.int 3 0, Value.ref 764, Value.bool true, Value.int 273 0, Value.ref 765, Value.none, Value.ref 766, Value.ref 767, Value.ref 768, Value.int 1219 0, Value.int 440 0, Value.str (Str.ofString "/claim/cut.py") 1220]) #[]) ::
  (nat_lit 770, ⟨.type "function", none, .func d770.1, #[]⟩) ::
  (nat_lit 771, Obj.mk (Value.type "tuple") none (Data.seq #[Value.none]) #[]) ::
  (nat_lit 777, Obj.mk (Value.type "code") none (Data.fields #[Value.str (Str.ofString "get") 1222, Value.str (Str.ofString "Cache.get") 1223, Value.str (Str.ofString "/claim/cut.py") 1224, Value.int 443 0, Value.int 3 0, Value.int 0 0, Value.int 0 0, Value.int 3 0, Value.ref 772, Value.bool true, Value.int 273 0, Value.ref 773, Value.none, Value.ref 774, Value.ref 775, Value.ref 776, Value.int 1228 0, Value.int 443 0, Value.str (Str.ofString "/claim/cut.py") 1229]) #[]) ::
  (nat_lit 778, ⟨.type "function", none, .func d778.1, #[]⟩) ::
  (nat_lit 779, Obj.mk (Value.type "tuple") none (Data.seq #[Value.ref 706]) #[]) ::
  (nat_lit 785, Obj.mk (Value.type "code") none (Data.fields #[Value.str (Str.ofString "pop") 1231, Value.str (Str.ofString "Cache.pop") 1232, Value.str (Str.ofString "/claim/cut.py") 1233, Value.int 449 0, Value.int 3 0, Value.int 0 0, Value.int 0 0, Value.int 3 0, Value.ref 780, Value.bool true, Value.int 273 0, Value.ref 781, Value.none, Value.ref 782, Value.ref 783, Value.ref 784, Value.int 1238 0, Value.int 449 0, Value.str (Str.ofString "/claim/cut.py") 1239]) #[]) ::
  (nat_lit 786, ⟨.type "function", none, .func d786.1, #[]⟩) ::
  (nat_lit 787, Obj.mk (Value.type "tuple") none (Data.seq #[Value.none]) #[]) ::
  (nat_lit 793, Obj.mk (Value.type "code") none (Data.fields #[Value.str (Str.ofString "setdefault") 1241, Value.str (Str.ofString "Cache.setdefault") 1242, Value.str (Str.ofString "/claim/cut.py") 1243, Value.int 459 0, Value.int 3 0, Value.int 0 0, Value.int 0 0, Value.int 3 0, Value.ref 788, Value.bool true, Value.int 273 0, Value.ref 789, Value.none, Value.ref 790, Value.ref 791, Value.ref 792, Value.int 1248 0, Value.int 459 0, Value.str (Str.ofString "/claim/cut.py") 1249]) #[]) ::
  (nat_lit 794, ⟨.type "function", none, .func d794.1, #[]⟩) ::
  (nat_lit 800, Obj.mk (Value.type "code") none (Data.fields #[Value.str (Str.ofString "clear") 1251, Value.str (Str.ofString "Cache.clear") 1252, Value.str (Str.ofString "/claim/cut.py") 1253, Value.int 466 0, Value.int 1 0, Value.int 0 0, Value.int 0 0, Value.int 3 0, Value.ref 795, Value.bool true, Value.int 273 0, Value.ref 796, Value.none, Value.ref 797, Value.ref 798, Value.ref 799, Value.int 1256 0, Value.int 466 0, Value.str (Str.ofString "/claim/cut.py") 1257]) #[]) ::
  (nat_lit 801, ⟨.type "function", none, .func d801.1, #[]⟩) ::
  (nat_lit 807, Obj.mk (Value.type "code") none (Data.fields #[Value.str (Str.ofString "maxsize") 1259, Value.str (Str.ofString "Cache.maxsize") 1260, Value.str (Str.ofString "/claim/cut.py") 1261, Value.int 473 0, Value.int 1 0, Value.int 0 0, Value.int 0 0, Value.int 3 0, Value.ref 802, Value.bool true, Value.int 273 0, Value.ref 803, Value.none, Value.ref 804, Value.ref 805, Value.ref 806, Value.int 1263 0, Value.int 473 0, Value.str (Str.ofString "/claim/cut.py") 1264]) #[]) ::
  (nat_lit 808, ⟨.type "function", none, .func d808.1, #[]⟩) ::
  (nat_lit 809, Obj.mk (Value.type "property") none (Data.fields #[Value.ref 808, Value.none, Value.none, Value.none, Value.str (Str.ofString "maxsize") 1266, Value.bool false]) #[]) ::
  (nat_lit 815, Obj.mk (Value.type "code") none (Data.fields #[Value.str (Str.ofString "currsize") 1267, Value.str (Str.ofString "Cache.currsize") 1268, Value.str (Str.ofString "/claim/cut.py") 1269, Value.int 477 0, Value.int 1 0, Value.int 0 0, Value.int 0 0, Value.int 3 0, Value.ref 810, Value.bool true, Value.int 273 0, Value.ref 811, Value.none, Value.ref 812, Value.ref 813, Value.ref 814, Value.int 1271 0, Value.int 477 0, Value.str (Str.ofString "/claim/cut.py") 1272]) #[]) ::
  (nat_lit 816, ⟨.type "function", none, .func d816.1, #[]⟩) ::
  (nat_lit 817, Obj.mk (Value.type "property") none (Data.fields #[Value.ref 816, Value.none, Value.none, Value.none, Value.str (Str.ofString "currsize") 1274, Value.bool false]) #[]) ::
  (nat_lit 823, Obj.mk (Value.type "code") none (Data.fields #[Value.str (Str.ofString "getsizeof") 1275, Value.str (Str.ofString "Cache.getsizeof") 1276, Value.str (Str.ofString "/claim/cut.py") 1277, Value.int 481 0, Value.int 1 0, Value.int 0 0, Value.int 0 0, Value.int 3 0, Value.ref 818, Value.bool true, Value.int 273 0, Value.ref 819, Value.none, Value.ref 820, Value.ref 821, Value.ref 822, Value.int 1279 0, Value.int 481 0, Value.str (Str.ofString "/claim/cut.py") 1280]) #[]) ::
  (nat_lit 824, ⟨.type "function", none, .func d824.1, #[]⟩) ::
  (nat_lit 825, Obj.mk (Value.type "dict") none (Data.dict #[DictEntry.mk (PyData.keyHash P (Str.ofString "__module__")) (Value.str (Str.ofString "__module__") 1282) (Value.str (Str.ofString "cachetools") 1128), DictEntry.mk (PyData.keyHash P (Str.ofString "__name__")) (Value.str (Str.ofString "__name__") 1285) (Value.str (Str.ofString "getsizeof") 1284), DictEntry.mk (PyData.keyHash P (Str.ofString "__qualname__")) (Value.str (Str.ofString "__qualname__") 1288) (Value.str (Str.ofString "Cache.getsizeof") 1287), DictEntry.mk (PyData.keyHash P (Str.ofString "__doc__")) (Value.str (Str.ofString "__doc__") 1290) Value.none, DictEntry.mk (PyData.keyHash P (Str.ofString "__annotations__")) (Value.str (Str.ofString "__annotations__") 1292) (Value.ref 827)] 5) #[]) ::
  (nat_lit 826, Obj.mk (Value.type "staticmethod") (some 825) (Data.fields #[Value.ref 824, Value.bool false]) #[]) ::
  (nat_lit 827, Obj.mk (Value.type "dict") none (Data.dict #[]) #[]) ::
  (nat_lit 829, Obj.mk (Value.type "dict") none (Data.dict #[DictEntry.mk (PyData.keyHash P (Str.ofString "__module__")) (Value.str (Str.ofString "__module__") 1137) (Value.str (Str.ofString "cachetools") 1128), DictEntry.mk (PyData.keyHash P (Str.ofString "__firstlineno__")) (Value.str (Str.ofString "__firstlineno__") 1141) (Value.int 363 1140), DictEntry.mk (PyData.keyHash P (Str.ofString "_Cache__marker")) (Value.str (Str.ofString "_Cache__marker") 1142) (Value.ref 706), DictEntry.mk (PyData.keyHash P (Str.ofString "_Cache__size")) (Value.str (Str.ofString "_Cache__size") 1143) Value.none, DictEntry.mk (PyData.keyHash P (Str.ofString "__init__")) (Value.str (Str.ofString "__init__") 1152) (Value.ref 714), DictEntry.mk (PyData.keyHash P (Str.ofString "__repr__")) (Value.str (Str.ofString "__repr__") 1159) (Value.ref 721), DictEntry.mk (PyData.keyHash P (Str.ofString "__getitem__")) (Value.str (Str.ofString "__getitem__") 1167) (Value.ref 728), DictEntry.mk (PyData.keyHash P (Str.ofString "__setitem__")) (Value.str (Str.ofString "__setitem__") 1181) (Value.ref 735), DictEntry.mk (PyData.keyHash P (Str.ofString "__delitem__")) (Value.str (Str.ofString "__delitem__") 1191) (Value.ref 742), DictEntry.mk (PyData.keyHash P (Str.ofString "__contains__")) (Value.str (Str.ofString "__contains__") 1199) (Value.ref 749), DictEntry.mk (PyData.keyHash P (Str.ofString "__missing__")) (Value.str (Str.ofString "__missing__") 1207) (Value.ref 756), DictEntry.mk (PyData.keyHash P (Str.ofString "__iter__")) (Value.str (Str.ofString "__iter__") 1214) (Value.ref 763), DictEntry.mk (PyData.keyHash P (Str.ofString "__len__")) (Value.str (Str.ofString "__len__") 1221) (Value.ref 770), DictEntry.mk (PyData.keyHash P (Str.ofString "get")) (Value.str (Str.ofString "get") 1230) (Value.ref 778), DictEntry.mk (PyData.keyHash P (Str.ofString "pop")) (Value.str (Str.ofString "pop") 1240) (Value.ref 786), DictEntry.mk (PyData.keyHash P (Str.ofString "setdefault")) (Value.str (Str.ofString "setdefault") 1250) (Value.ref 794), DictEntry.mk (PyData.keyHash P (Str.ofString "clear")) (Value.str (Str.ofString "clear") 1258) (Value.ref 801), DictEntry.mk (PyData.keyHash P (Str.ofString "maxsize")) (Value.str (Str.ofString "maxsize") 1266) (Value.ref 809), DictEntry.mk (PyData.keyHash P (Str.ofString "currsize")) (Value.str (Str.ofString "currsize") 1274) (Value.ref 817), DictEntry.mk (PyData.keyHash P (Str.ofString "getsizeof")) (Value.str (Str.ofString "getsizeof") 1293) (Value.ref 826), DictEntry.mk (PyData.keyHash P (Str.ofString "__static_attributes__")) (Value.str (Str.ofString "__static_attributes__") 1299) (Value.ref 828), DictEntry.mk (PyData.keyHash P (Str.ofString "__dict__")) (Value.str (Str.ofString "__dict__") 1301) (Value.ref 831), DictEntry.mk (PyData.keyHash P (Str.ofString "__weakref__")) (Value.str (Str.ofString "__weakref__") 1303) (Value.ref 832), DictEntry.mk (PyData.keyHash P (Str.ofString "__doc__")) (Value.str (Str.ofString "__doc__") 1304) Value.none] 4) #[]) ::
  (nat_lit 830, Obj.mk (Value.ref 89) none (Data.cls (ClassData.mk (Str.ofString "Cache") [Value.ref 695] [Value.ref 830, Value.ref 695, Value.ref 443, Value.ref 255, Value.ref 196, Value.ref 166, Value.ref 232, Value.type "object"] 829 (Str.ofString "Cache") true [] [Value.ref 882, Value.ref 979, Value.ref 1044] false none false)) #[some (Value.ref 699), none, some (Value.str (Str.ofString "Cache") 1130), some (Value.str (Str.ofString "Cache") 1138), some (Value.builtin "object.__new__"), some (Value.bool true)]) ::
  (nat_lit 831, Obj.mk (Value.type "getset_descriptor") none (Data.fields #[Value.str (Str.ofString "__dict__") 1300, Value.ref 830, Value.builtin "function.__dict__", Value.builtin "function.__dict__#set"]) #[]) ::
  (nat_lit 832, Obj.mk (Value.type "getset_descriptor") none (Data.fields #[Value.str (Str.ofString "__weakref__") 1302, Value.ref 830, Value.builtin "ExceptionGroup.__weakref__", Value.none]) #[]) ::
  (nat_lit 842, Obj.mk (Value.type "tuple") none (Data.seq #[Value.none]) #[]) ::
  (nat_lit 848, Obj.mk (Value.type "code") none (Data.fields #[Value.str (Str.ofString "__init__") 1319, Value.str (Str.ofString "FIFOCache.__init__") 1320, Value.str (Str.ofString "/claim/cut.py") 1321, Value.int 486 0, Value.int 3 0, Value.int 0 0, Value.int 0 0, Value.int 3 0, Value.ref 843, Value.bool true, Value.int 273 0, Value.ref 844, Value.none, Value.ref 845, Value.ref 846, Value.ref 847, Value.int 1325 0, Value.int 486 0, Value.str (Str.ofString "/claim/cut.py") 1326]) #[]) ::
  (nat_lit 849, ⟨.type "function", none, .func d849.1, #[]⟩) ::
  (nat_lit 850, Obj.mk (Value.type "tuple") none (Data.seq #[Value.ref 735]) #[]) ::
  (nat_lit 856, Obj.mk (Value.type "code") none (Data.fields #[Value.str (Str.ofString "__setitem__") 1329, Value.str (Str.ofString "FIFOCache.__setitem__") 1330, Value.str (Str.ofString "/claim/cut.py") 1331, Value.int 490 0, Value.int 4 0, Value.int 0 0, Value.int 0 0, Value.int 3 0, Value.ref 851, Value.bool true, Value.int 273 0, Value.ref 852, Value.none, Value.ref 853, Value.ref 854, Value.ref 855, Value.int 1336 0, Value.int 490 0, Value.str (Str.ofString "/claim/cut.py") 1337]) #[]) ::
  (nat_lit 857, ⟨.type "function", none, .func d857.1, #[]⟩) ::
  (nat_lit 858, Obj.mk (Value.type "tuple") none (Data.seq #[Value.ref 742]) #[]) ::
  (nat_lit 864, Obj.mk (Value.type "code") none (Data.fields #[Value.str (Str.ofString "__delitem__") 1340, Value.str (Str.ofString "FIFOCache.__delitem__") 1341, Value.str (Str.ofString "/claim/cut.py") 1342, Value.int 497 0, Value.int 3 0, Value.int 0 0, Value.int 0 0, Value.int 3 0, Value.ref 859, Value.bool true, Value.int 273 0, Value.ref 860, Value.none, Value.ref 861, Value.ref 862, Value.ref 863, Value.int 1346 0, Value.int 497 0, Value.str (Str.ofString "/claim/cut.py") 1347]) #[]) ::
  (nat_lit 865, ⟨.type "function", none, .func d865.1, #[]⟩) ::
  (nat_lit 871, Obj.mk (Value.type "code") none (Data.fields #[Value.str (Str.ofString "popitem") 1349, Value.str (Str.ofString "FIFOCache.popitem") 1350, Value.str (Str.ofString "/claim/cut.py") 1351, Value.int 501 0, Value.int 1 0, Value.int 0 0, Value.int 0 0, Value.int 3 0, Value.ref 866, Value.bool true, Value.int 273 0, Value.ref 867, Value.none, Value.ref 868, Value.ref 869, Value.ref 870, Value.int 1355 0, Value.int 501 0, Value.str (Str.ofString "/claim/cut.py") 1356]) #[]) ::
  (nat_lit 872, ⟨.type "function", none, .func d872.1, #[]⟩) ::
  (nat_lit 878, Obj.mk (Value.type "code") none (Data.fields #[Value.str (Str.ofString "clear") 1358, Value.str (Str.ofString "FIFOCache.clear") 1359, Value.str (Str.ofString "/claim/cut.py") 1360, Value.int 511 0, Value.int 1 0, Value.int 0 0, Value.int 0 0, Value.int 3 0, Value.ref 873, Value.bool true, Value.int 273 0, Value.ref 874, Value.none, Value.ref 875, Value.ref 876, Value.ref 877, Value.int 1362 0, Value.int 511 0, Value.str (Str.ofString "/claim/cut.py") 1363]) #[]) ::
  (nat_lit 879, ⟨.type "function", none, .func d879.1, #[]⟩) ::
  (nat_lit 881, Obj.mk (Value.type "dict") none (Data.dict #[DictEntry.mk (PyData.keyHash P (Str.ofString "__module__")) (Value.str (Str.ofString "__module__") 1314) (Value.str (Str.ofString "cachetools") 1128), DictEntry.mk (PyData.keyHash P (Str.ofString "__firstlineno__")) (Value.str (Str.ofString "__firstlineno__") 1318) (Value.int 484 1317), DictEntry.mk (PyData.keyHash P (Str.ofString "__init__")) (Value.str (Str.ofString "__init__") 1327) (Value.ref 849), DictEntry.mk (PyData.keyHash P (Str.ofString "__setitem__")) (Value.str (Str.ofString "__setitem__") 1338) (Value.ref 857), DictEntry.mk (PyData.keyHash P (Str.ofString "__delitem__")) (Value.str (Str.ofString "__delitem__") 1348) (Value.ref 865), DictEntry.mk (PyData.keyHash P (Str.ofString "popitem")) (Value.str (Str.ofString "popitem") 1357) (Value.ref 872), DictEntry.mk (PyData.keyHash P (Str.ofString "clear")) (Value.str (Str.ofString "clear") 1364) (Value.ref 879), DictEntry.mk (PyData.keyHash P (Str.ofString "__static_attributes__")) (Value.str (Str.ofString "__static_attributes__") 1366) (Value.ref 880), DictEntry.mk (PyData.keyHash P (Str.ofString "__doc__")) (Value.str (Str.ofString "__doc__") 1367) Value.none] 2) #[]) ::
  (nat_lit 882, Obj.mk (Value.ref 89) none (Data.cls (ClassData.mk (Str.ofString "FIFOCache") [Value.ref 830] [Value.ref 882, Value.ref 830, Value.ref 695, Value.ref 443, Value.ref 255, Value.ref 196, Value.ref 166, Value.ref 232, Value.type "object"] 881 (Str.ofString "FIFOCache") true [] [] false none false)) #[some (Value.ref 835), none, some (Value.str (Str.ofString "FIFOCache") 1307), some (Value.str (Str.ofString "FIFOCache") 1315), some (Value.builtin "object.__new__"), some (Value.bool true)]) ::
  (nat_lit 924, Obj.mk (Value.type "tuple") none (Data.seq #[Value.none]) #[]) ::
  (nat_lit 930, Obj.mk (Value.type "code") none (Data.fields #[Value.str (Str.ofString "__init__") 1430, Value.str (Str.ofString "LFUCache.__init__") 1431, Value.str (Str.ofString "/claim/cut.py") 1432, Value.int 529 0, Value.int 3 0, Value.int 0 0, Value.int 0 0, Value.int 3 0, Value.ref 925, Value.bool true, Value.int 273 0, Value.ref 926, Value.none, Value.ref 927, Value.ref 928, Value.ref 929, Value.int 1437 0, Value.int 529 0, Value.str (Str.ofString "/claim/cut.py") 1438]) #[]) ::
  (nat_lit 931, ⟨.type "function", none, .func d931.1, #[]⟩) ::
  (nat_lit 978, Obj.mk (Value.type "dict") none (Data.dict #[DictEntry.mk (PyData.keyHash P (Str.ofString "__module__")) (Value.str (Str.ofString "__module__") 1377) (Value.str (Str.ofString "cachetools") 1128), DictEntry.mk (PyData.keyHash P (Str.ofString "__firstlineno__")) (Value.str (Str.ofString "__firstlineno__") 1381) (Value.int 514 1380), DictEntry.mk (PyData.keyHash P (Str.ofString "_Link")) (Value.str (Str.ofString "_Link") 1429) (Value.ref 917), DictEntry.mk (PyData.keyHash P (Str.ofString "__init__")) (Value.str (Str.ofString "__init__") 1439) (Value.ref 931), DictEntry.mk (PyData.keyHash P (Str.ofString "__getitem__")) (Value.str (Str.ofString "__getitem__") 1450) (Value.ref 939), DictEntry.mk (PyData.keyHash P (Str.ofString "__setitem__")) (Value.str (Str.ofString "__setitem__") 1463) (Value.ref 947), DictEntry.mk (PyData.keyHash P (Str.ofString "__delitem__")) (Value.str (Str.ofString "__delitem__") 1474) (Value.ref 955), DictEntry.mk (PyData.keyHash P (Str.ofString "popitem")) (Value.str (Str.ofString "popitem") 1485) (Value.ref 962), DictEntry.mk (PyData.keyHash P (Str.ofString "clear")) (Value.str (Str.ofString "clear") 1493) (Value.ref 969), DictEntry.mk (PyData.keyHash P (Str.ofString "_LFUCache__touch")) (Value.str (Str.ofString "_LFUCache__touch") 1503) (Value.ref 976), DictEntry.mk (PyData.keyHash P (Str.ofString "__static_attributes__")) (Value.str (Str.ofString "__static_attributes__") 1506) (Value.ref 977), DictEntry.mk (PyData.keyHash P (Str.ofString "__doc__")) (Value.str (Str.ofString "__doc__") 1507) Value.none] 2) #[]) ::
  (nat_lit 979, Obj.mk (Value.ref 89) none (Data.cls (ClassData.mk (Str.ofString "LFUCache") [Value.ref 830] [Value.ref 979, Value.ref 830, Value.ref 695, Value.ref 443, Value.ref 255, Value.ref 196, Value.ref 166, Value.ref 232, Value.type "object"] 978 (Str.ofString "LFUCache") true [] [] false none false)) #[some (Value.ref 885), none, some (Value.str (Str.ofString "LFUCache") 1370), some (Value.str (Str.ofString "LFUCache") 1378), some (Value.builtin "object.__new__"), some (Value.bool true)]) ::
  (nat_lit 989, Obj.mk (Value.type "tuple") none (Data.seq #[Value.none]) #[]) ::
  (nat_lit 995, Obj.mk (Value.type "code") none (Data.fields #[Value.str (Str.ofString "__init__") 1522, Value.str (Str.ofString "LRUCache.__init__") 1523, Value.str (Str.ofString "/claim/cut.py") 1524, Value.int 597 0, Value.int 3 0, Value.int 0 0, Value.int 0 0, Value.int 3 0, Value.ref 990, Value.bool true, Value.int 273 0, Value.ref 991, Value.none, Value.ref 992, Value.ref 993, Value.ref 994, Value.int 1528 0, Value.int 597 0, Value.str (Str.ofString "/claim/cut.py") 1529]) #[]) ::
  (nat_lit 996, ⟨.type "function", none, .func d996.1, #[]⟩) ::
  (nat_lit 1043, Obj.mk (Value.type "dict") none (Data.dict #[DictEntry.mk (PyData.keyHash P (Str.ofString "__module__")) (Value.str (Str.ofString "__module__") 1517) (Value.str (Str.ofString "cachetools") 1128), DictEntry.mk (PyData.keyHash P (Str.ofString "__firstlineno__")) (Value.str (Str.ofString "__firstlineno__") 1521) (Value.int 595 1520), DictEntry.mk (PyData.keyHash P (Str.ofString "__init__")) (Value.str (Str.ofString "__init__") 1530) (Value.ref 996), DictEntry.mk (PyData.keyHash P (Str.ofString "__getitem__")) (Value.str (Str.ofString "__getitem__") 1541) (Value.ref 1004), DictEntry.mk (PyData.keyHash P (Str.ofString "__setitem__")) (Value.str (Str.ofString "__setitem__") 1552) (Value.ref 1012), DictEntry.mk (PyData.keyHash P (Str.ofString "__delitem__")) (Value.str (Str.ofString "__delitem__") 1562) (Value.ref 1020), DictEntry.mk (PyData.keyHash P (Str.ofString "popitem")) (Value.str (Str.ofString "popitem") 1571) (Value.ref 1027), DictEntry.mk (PyData.keyHash P (Str.ofString "clear")) (Value.str (Str.ofString "clear") 1578) (Value.ref 1034), DictEntry.mk (PyData.keyHash P (Str.ofString "_LRUCache__touch")) (Value.str (Str.ofString "_LRUCache__touch") 1586) (Value.ref 1041), DictEntry.mk (PyData.keyHash P (Str.ofString "__static_attributes__")) (Value.str (Str.ofString "__static_attributes__") 1588) (Value.ref 1042), DictEntry.mk (PyData.keyHash P (Str.ofString "__doc__")) (Value.str (Str.ofString "__doc__") 1589) Value.none] 2) #[]) ::
  (nat_lit 1044, Obj.mk (Value.ref 89) none (Data.cls (ClassData.mk (Str.ofString "LRUCache") [Value.ref 830] [Value.ref 1044, Value.ref 830, Value.ref 695, Value.ref 443, Value.ref 255, Value.ref 196, Value.ref 166, Value.ref 232, Value.type "object"] 1043 (Str.ofString "LRUCache") true [] [] false none false)) #[some (Value.ref 982), none, some (Value.str (Str.ofString "LRUCache") 1510), some (Value.str (Str.ofString "LRUCache") 1518), some (Value.builtin "object.__new__"), some (Value.bool true)]) ::
  (nat_lit 1052, Obj.mk (Value.type "code") none (Data.fields #[Value.str (Str.ofString "_law_size") 1594, Value.str (Str.ofString "_law_size") 1595, Value.str (Str.ofString "/claim/cut.py") 1596, Value.int 637 0, Value.int 1 0, Value.int 0 0, Value.int 0 0, Value.int 3 0, Value.ref 1047, Value.bool true, Value.int 273 0, Value.ref 1048, Value.none, Value.ref 1049, Value.ref 1050, Value.ref 1051, Value.int 1598 0, Value.int 637 0, Value.str (Str.ofString "/claim/cut.py") 1599]) #[]) ::
  (nat_lit 1053, ⟨.type "function", none, .func d1053.1, #[]⟩) ::
  (nat_lit 1057, Obj.mk (Value.type "code") none (Data.fields #[Value.str (Str.ofString "_law_without") 1601, Value.str (Str.ofString "_law_without") 1602, Value.str (Str.ofString "/claim/cut.py") 1603, Value.int 639 0, Value.int 2 0, Value.int 0 0, Value.int 0 0, Value.int 3 0, Value.ref 1054, Value.bool true, Value.int 273 0, Value.ref 1055, Value.none, Value.none, Value.none, Value.ref 1056, Value.int 1604 0, Value.int 639 0, Value.str (Str.ofString "/claim/cut.py") 1605]) #[]) ::
  (nat_lit 1058, ⟨.type "function", none, .func d1058.1, #[]⟩) ::
  (nat_lit 1064, Obj.mk (Value.type "code") none (Data.fields #[Value.str (Str.ofString "_law_value") 1607, Value.str (Str.ofString "_law_value") 1608, Value.str (Str.ofString "/claim/cut.py") 1609, Value.int 641 0, Value.int 2 0, Value.int 0 0, Value.int 0 0, Value.int 3 0, Value.ref 1059, Value.bool true, Value.int 273 0, Value.ref 1060, Value.none, Value.ref 1061, Value.ref 1062, Value.ref 1063, Value.int 1613 0, Value.int 641 0, Value.str (Str.ofString "/claim/cut.py") 1614]) #[]) ::
  (nat_lit 1065, ⟨.type "function", none, .func d1065.1, #[]⟩) ::
  (nat_lit 1069, Obj.mk (Value.type "code") none (Data.fields #[Value.str (Str.ofString "_law_room") 1616, Value.str (Str.ofString "_law_room") 1617, Value.str (Str.ofString "/claim/cut.py") 1618, Value.int 646 0, Value.int 2 0, Value.int 0 0, Value.int 0 0, Value.int 3 0, Value.ref 1066, Value.bool true, Value.int 273 0, Value.ref 1067, Value.none, Value.none, Value.none, Value.ref 1068, Value.int 1619 0, Value.int 646 0, Value.str (Str.ofString "/claim/cut.py") 1620]) #[]) ::
  (nat_lit 1070, ⟨.type "function", none, .func d1070.1, #[]⟩) ::
  (nat_lit 1074, Obj.mk (Value.type "code") none (Data.fields #[Value.str (Str.ofString "_law_put") 1622, Value.str (Str.ofString "_law_put") 1623, Value.str (Str.ofString "/claim/cut.py") 1624, Value.int 648 0, Value.int 7 0, Value.int 0 0, Value.int 0 0, Value.int 3 0, Value.ref 1071, Value.bool true, Value.int 273 0, Value.ref 1072, Value.none, Value.none, Value.none, Value.ref 1073, Value.int 1625 0, Value.int 648 0, Value.str (Str.ofString "/claim/cut.py") 1626]) #[]) ::
  (nat_lit 1075, ⟨.type "function", none, .func d1075.1, #[]⟩) ::
  (nat_lit 1081, Obj.mk (Value.type "code") none (Data.fields #[Value.str (Str.ofString "_law_deed") 1628, Value.str (Str.ofString "_law_deed") 1629, Value.str (Str.ofString "/claim/cut.py") 1630, Value.int 659 0, Value.int 4 0, Value.int 0 0, Value.int 0 0, Value.int 3 0, Value.ref 1076, Value.bool true, Value.int 273 0, Value.ref 1077, Value.none, Value.ref 1078, Value.ref 1079, Value.ref 1080, Value.int 1635 0, Value.int 659 0, Value.str (Str.ofString "/claim/cut.py") 1636]) #[]) ::
  (nat_lit 1082, ⟨.type "function", none, .func d1082.1, #[]⟩) ::
  (nat_lit 1086, Obj.mk (Value.type "code") none (Data.fields #[Value.str (Str.ofString "_law_due") 1638, Value.str (Str.ofString "_law_due") 1639, Value.str (Str.ofString "/claim/cut.py") 1640, Value.int 687 0, Value.int 8 0, Value.int 0 0, Value.int 0 0, Value.int 3 0, Value.ref 1083, Value.bool true, Value.int 273 0, Value.ref 1084, Value.none, Value.none, Value.none, Value.ref 1085, Value.int 1641 0, Value.int 687 0, Value.str (Str.ofString "/claim/cut.py") 1642]) #[]) ::
  (nat_lit 1087, ⟨.type "function", none, .func d1087.1, #[]⟩) ::
  (nat_lit 1091, Obj.mk (Value.type "code") none (Data.fields #[Value.str (Str.ofString "law") 1644, Value.str (Str.ofString "law") 1645, Value.str (Str.ofString "/claim/cut.py") 1646, Value.int 707 0, Value.int 1 0, Value.int 0 0, Value.int 0 0, Value.int 3 0, Value.ref 1088, Value.bool true, Value.int 273 0, Value.ref 1089, Value.none, Value.none, Value.none, Value.ref 1090, Value.int 1647 0, Value.int 707 0, Value.str (Str.ofString "/claim/cut.py") 1648]) #[]) ::
  (nat_lit 1092, ⟨.type "function", none, .func d1092.1, #[]⟩) :: []
noncomputable def K0as : List Nat := nat_lit 2 :: nat_lit 3 :: nat_lit 55 :: nat_lit 56 :: nat_lit 88 :: nat_lit 89 :: nat_lit 165 :: nat_lit 166 :: nat_lit 195 :: nat_lit 196 :: nat_lit 231 :: nat_lit 232 :: nat_lit 254 :: nat_lit 255 :: nat_lit 442 :: nat_lit 443 :: nat_lit 645 :: nat_lit 659 :: nat_lit 660 :: nat_lit 694 :: nat_lit 695 :: nat_lit 706 :: nat_lit 707 :: nat_lit 713 :: nat_lit 714 :: nat_lit 727 :: nat_lit 728 :: nat_lit 734 :: nat_lit 735 :: nat_lit 741 :: nat_lit 742 :: nat_lit 748 :: nat_lit 749 :: nat_lit 755 :: nat_lit 756 :: nat_lit 762 :: nat_lit 763 :: nat_lit 769 :: nat_lit 770 :: nat_lit 771 :: nat_lit 777 :: nat_lit 778 :: nat_lit 779 :: nat_lit 785 :: nat_lit 786 :: nat_lit 787 :: nat_lit 793 :: nat_lit 794 :: nat_lit 800 :: nat_lit 801 :: nat_lit 807 :: nat_lit 808 :: nat_lit 809 :: nat_lit 815 :: nat_lit 816 :: nat_lit 817 :: nat_lit 823 :: nat_lit 824 :: nat_lit 825 :: nat_lit 826 :: nat_lit 827 :: nat_lit 829 :: nat_lit 830 :: nat_lit 831 :: nat_lit 832 :: nat_lit 842 :: nat_lit 848 :: nat_lit 849 :: nat_lit 850 :: nat_lit 856 :: nat_lit 857 :: nat_lit 858 :: nat_lit 864 :: nat_lit 865 :: nat_lit 871 :: nat_lit 872 :: nat_lit 878 :: nat_lit 879 :: nat_lit 881 :: nat_lit 882 :: nat_lit 924 :: nat_lit 930 :: nat_lit 931 :: nat_lit 978 :: nat_lit 979 :: nat_lit 989 :: nat_lit 995 :: nat_lit 996 :: nat_lit 1043 :: nat_lit 1044 :: nat_lit 1052 :: nat_lit 1053 :: nat_lit 1057 :: nat_lit 1058 :: nat_lit 1064 :: nat_lit 1065 :: nat_lit 1069 :: nat_lit 1070 :: nat_lit 1074 :: nat_lit 1075 :: nat_lit 1081 :: nat_lit 1082 :: nat_lit 1086 :: nat_lit 1087 :: nat_lit 1091 :: nat_lit 1092 :: []
-- Wk0
section
variable {prog : Program} {w : World} {A : Around} {E : Value → Shared → Prop} {s : Shared} {K : Frag} {x C p L : Addr} {ox od : Obj} {name : Str} {h₀ : Heap} {m : Str → Option Value} {news : List (Addr × Obj)} {es : List DictEntry} {n : Nat} {Q : Value → Shared → Prop} {fv v : Value} {rest : List Value}
theorem findObj_own_sm {a g : Value} (hh : hasDictIn K C = true) (ha : findIn K (.ref C) name = some (some a)) (hg : specialIn K a "__get__" = some (some g)) (ht : takesIn K a = some false) (hl : lookIn name od = some (some v)) :
    findObj K C (some od) name = some (.value v) := by
  obtain ⟨cd, hc, hd⟩ := any_some hh
  unfold findObj
  rw [hc, Option.bind_some, ha, Option.bind_some]
  have ho : ownOf cd (some od) name = some (some v) := by unfold W.ownOf; rw [if_pos hd]; exact hl
  simp [hg, ht, ho]
/-- a static method read off an object that has no such attribute of its own -/
theorem get_smI {expr : Bool} (F : Fr h₀ L s.heap m) (X₀ : K.In h₀) (I : InstAt s.heap x ox C (some (dictOf es n))) (hg : plainGet K C name = true) (hh : hasDictIn K C = true) (ha : findIn K (.ref C) name = some (some (.ref p)))
    (hgf : specialIn K (.ref p) "__get__" = some (some (.builtin "staticmethod.__get__"))) (hts : takesIn K (.ref p) = some false) (hc : copiedNames.contains name = false) (hl : getL name es = some none) (hp : recIn K p "staticmethod" = some (fv :: rest)) (hv : handedIn fv = true)
    (h : Q fv { s with toks := s.toks + 1 }) : wpAny (model prog w) A (getAttr (.ref x) name expr) Q E s :=
  get_bind (X₀.keeps F.keep) I (plainGet_of hg).1 (findObj_fn hh ha hgf hts hc (by show lookIn name (dictOf es n) = _; rw [lookIn_dict, hl])) (plainGet_of hg).2
      (wpAny_call (sm_get (s := { s with toks := s.toks + 1 }) (X₀.keeps F.keep) hp (handed_on hv h)))
/-- an attribute of the object's own ahead of a static method of its class -/
theorem get_ownSm {expr : Bool} {a g : Value} (F : Fr h₀ L s.heap m) (X₀ : K.In h₀) (I : InstAt s.heap x ox C (some (dictOf es n))) (hg : plainGet K C name = true) (hh : hasDictIn K C = true) (ha : findIn K (.ref C) name = some (some a))
    (hgf : specialIn K a "__get__" = some (some g)) (hts : takesIn K a = some false) (hl : getL name es = some (some v)) (hv : handedIn v = true)
    (h : Q v { s with toks := s.toks + 1 }) : wpAny (model prog w) A (getAttr (.ref x) name expr) Q E s :=
  get_value (X₀.keeps F.keep) I (plainGet_of hg).1 (findObj_own_sm hh ha hgf hts hl) hv h
/-- o.f(..), f an attribute of the object's own ahead of a static method of its class -/
theorem meth_ownSm {pl : Sem Bool} {g : Value} {Q : Value × List Value → Shared → Prop} (F : Fr h₀ L s.heap m) (X₀ : K.In h₀) (I : InstAt s.heap x ox C (some (dictOf es n))) (hg : plainGet K C name = true) (hh : hasDictIn K C = true) (ha : findIn K (.ref C) name = some (some (.ref p)))
    (ht : typeIn K (.ref p) = some (.type "staticmethod")) (hgf : specialIn K (.ref p) "__get__" = some (some g)) (hts : takesIn K (.ref p) = some false) (hl : getL name es = some (some v)) (hv : handedIn v = true)
    (h : Q (v, []) { s with toks := s.toks + 1 }) : wpAny (model prog w) A (getMethod (.ref x) name pl) Q E s :=
  method_usual (r := some (.ref p)) (X₀.keeps F.keep) I (plainGet_of hg).1 (plainGet_of hg).2 ha (by simp only [Option.all_some, ht, Option.any_some]; decide +kernel)
    (get_ownSm F X₀ I hg hh ha hgf hts hl hv h)
end
section
variable {M : Model} {A : Around} {E : Value → Shared → Prop} {s : Shared} {K : Frag} {x C L f : Addr} {h₀ : Heap} {m : Str → Option Value} {ox : Obj} {od : Option Obj} {i : Value}
/-- del o[i] of an own class -/
theorem own_delItem {Q : Unit → Shared → Prop} (F : Fr h₀ L s.heap m) (X₀ : K.In h₀) (I : InstAt s.heap x ox C od) (hq : noSeq K C = true) (hs : findIn K (.ref C) "__delitem__" = some (some (.ref f))) (hf : isFn K (.ref f) = true)
    (h : wpAny M A (call (.ref f) [.ref x, i]) (fun _ s' => Q () s') E s) : wpAny M A (delItem (.ref x) i) Q E s := by
  have X := X₀.keeps F.keep
  unfold delItem sequenceKey
  refine wpAny_holding (wpAny_bind (wpAny_bind (I.type.here ?_)))
  refine wpAny_bind ((anyM_none X hq).here ?_)
  rw [if_pos (show (!false) = true from rfl)]
  exact wpAny_pure (wpAny_bind (special_fn X I hs (beq_iff_eq.mp hf) (wpAny_mono h (fun _ _ z => wpAny_pure z) fun _ _ z => z)))
end
-- Cm
theorem fill0 : (PySem.Challenge.rw_ki0005_01.prog = PySem.Challenge.rw_ki0005_01.prog) ∧ (Mine.K0 = Mine.K0) := by
  k_fill; exact ⟨rfl, rfl⟩
noncomputable abbrev Led := List (Addr × Obj)
noncomputable abbrev ent (w : World) (nm : String) (t : Tok) (v : Value) : DictEntry := ⟨PyData.keyHash w.params (Str.ofString nm), Value.str (Str.ofString nm) t, v⟩
noncomputable abbrev IntD (w : World) (o : Obj) (kvs : List (Int × Value)) (c : List (Int × Int)) : Prop := o.IsDictOf (PySem.intKind PySem.Challenge.rw_ki0005_01.row.prog w) kvs ∧ FlatPairs PyData.int kvs (kdfD c)
-- Mac
theorem eqA {t v d : Int} : t + (v - (t - d)) = d + v := by omega
theorem two_inv {news : List (Addr × Obj)} {v : Value} {d1 d2 : Dat} (D : DatIn news v (.tuple [d1, d2])) : ∃ r v1 v2 n, v = .ref r ∧ (r, ({ cls := .type "tuple", data := .seq [v1, v2].toArray n } : Obj)) ∈ news ∧ DatIn news v1 d1 ∧ DatIn news v2 d2 := by
  cases D with
  | tuple hm r =>
    cases r with
    | cons h1 r =>
      cases r with
      | cons h2 r => cases r; exact ⟨_, _, _, _, rfl, hm, h1, h2⟩
theorem int_inv {news : List (Addr × Obj)} {v : Value} {i : Int} (D : DatIn news v (.int i)) : ∃ t, v = .int i t := by cases D; exact ⟨_, rfl⟩
theorem le5 {n k : Nat} (h : n ≤ 5) (e : Nat.ble 5 k = true) : n ≤ k := Nat.le_trans h (Nat.le_of_ble_eq_true e)
theorem lt5 {n k : Nat} (h : n ≤ 5) (e : Nat.ble 6 k = true) : n < k := Nat.lt_of_le_of_lt h (Nat.le_of_ble_eq_true e)
theorem le51 {α : Type} {xs : List α} {y : α} (h : xs.length ≤ 5) : xs.length + [y].length ≤ 100 := Nat.le_trans (Nat.add_le_add_right h 1) (Nat.le_of_ble_eq_true rfl)
theorem ctA {i k n : Nat} (h : i + (k + 1) = n) : i < n := h ▸ Nat.lt_add_of_pos_right (Nat.succ_pos k)
theorem ctB {i k n : Nat} (h : i + (k + 1) = n) : i + 1 + k = n := (Nat.add_right_comm i 1 k).trans h
theorem ten {d : Int} (h : 0 ≤ d ∧ d < 10) (h2 : ¬ d < 2) : d = 2 ∨ d = 3 ∨ d = 4 ∨ d = 5 ∨ d = 6 ∨ d = 7 ∨ d = 8 ∨ d = 9 := by
  obtain ⟨n, rfl⟩ := Int.eq_ofNat_of_zero_le h.1
  exact (by decide : ∀ n < 10, ¬ ((n : Nat) : Int) < 2 → ((n : Nat) : Int) = 2 ∨ ((n : Nat) : Int) = 3 ∨ ((n : Nat) : Int) = 4 ∨ ((n : Nat) : Int) = 5 ∨ ((n : Nat) : Int) = 6 ∨ ((n : Nat) : Int) = 7 ∨ ((n : Nat) : Int) = 8 ∨ ((n : Nat) : Int) = 9) n (Int.ofNat_lt.mp h.2) h2
theorem not_fits {v r : Int} (h : ¬ (v ≤ r ∧ 0 ≤ v)) : r < v ∨ v < 0 := if h1 : v ≤ r then .inr (Int.not_le.mp fun h2 => h ⟨h1, h2⟩) else .inl (Int.not_le.mp h1)
theorem nl1 {a d : Nat} {b : Prop} (h : a < d ∧ b) : a < d := h.1
theorem nl2 {a d : Nat} {b c : Prop} (h : c ∧ a < d ∧ b) : a < d := h.2.1
theorem nl3 {a d : Nat} {b c c2 : Prop} (h : c2 ∧ c ∧ a < d ∧ b) : a < d := h.2.2.1
theorem nl4 {a d : Nat} {b c c2 c3 : Prop} (h : c3 ∧ c2 ∧ c ∧ a < d ∧ b) : a < d := h.2.2.2.1
theorem nl5 {a d : Nat} {b c c2 c3 c4 : Prop} (h : c4 ∧ c3 ∧ c2 ∧ c ∧ a < d ∧ b) : a < d := h.2.2.2.2.1
theorem nl6 {a d : Nat} {b c c2 c3 c4 c5 : Prop} (h : c5 ∧ c4 ∧ c3 ∧ c2 ∧ c ∧ a < d ∧ b) : a < d := nl5 h.2
theorem nl7 {a d : Nat} {b c c2 c3 c4 c5 c6 : Prop} (h : c6 ∧ c5 ∧ c4 ∧ c3 ∧ c2 ∧ c ∧ a < d ∧ b) : a < d := nl6 h.2
theorem nl8 {a d : Nat} {b c c2 c3 c4 c5 c6 c7 : Prop} (h : c7 ∧ c6 ∧ c5 ∧ c4 ∧ c3 ∧ c2 ∧ c ∧ a < d ∧ b) : a < d := nl7 h.2
theorem nl9 {a d : Nat} {b c c2 c3 c4 c5 c6 c7 c8 : Prop} (h : c8 ∧ c7 ∧ c6 ∧ c5 ∧ c4 ∧ c3 ∧ c2 ∧ c ∧ a < d ∧ b) : a < d := nl8 h.2
theorem sz_lit {n : Nat} (h : Nat.ble n 16777216 = true) : n ≤ sizeLine := by rw [sizeLine_eq]; exact Nat.le_of_ble_eq_true h
theorem rm {x n a m R : Nat} (d : Nat) (h : a + m < R) (f : x = a + d) (e : Nat.ble (d + n) m = true) : x + n < R := by rw [f, Nat.add_assoc]; exact Nat.lt_of_le_of_lt (Nat.add_le_add_left (Nat.le_of_ble_eq_true e) a) h
theorem rm0 {a m R : Nat} (h : a + m < R) : a < R := Nat.lt_of_le_of_lt (Nat.le_add_right a m) h
theorem ltL {a R : Nat} (e : Nat.ble (a + 1) R = true) : a < R := Nat.le_of_ble_eq_true e
local macro_rules | `(tactic| walk_at "eval Name") => `(tactic| (k_dflt (first | (refine' nameX_L ?F ?v ?_ ?a ?b; (case F => k_asm); (case a | b | v => rfl); k_whole) | (refine' nameX_K ?F ?X ?T ?e ?_ ?a ?b; (case F | X | T => k_asm); (case a | b => rfl); (case e => k_is); k_whole))))
local macro_rules | `(tactic| walk_at "my sub") => `(tactic| first | exact List.forall_mem_nil _ | (refine' List.forall_mem_cons.mpr ⟨?a, ?b⟩; (case a => k_mem); (case b => walk_at "my sub")) | (refine' List.forall_mem_append.mpr ⟨?a, ?b⟩; (case a | b => walk_at "my sub")) | (intro p9 h9; walk_at "my subm"))
local macro_rules | `(tactic| walk_at "my news") => `(tactic| (refine' kst_newsOf ?nn ?ss; (case nn => k_asm); (case ss => walk_at "my sub")))
set_option hygiene false
local macro_rules | `(tactic| k_invariant "lt" [z]) => `(tactic| assumption)
local macro_rules | `(tactic| k_invariant "lt" [$n, $ns,*]) => `(tactic| first | exact $n (by assumption) | k_invariant "lt" [$ns,*])
local macro_rules | `(tactic| walk_at "my lt") => `(tactic| k_invariant "lt" [nl1, nl2, nl3, nl4, nl5, nl6, nl7, nl8, nl9, z])
local macro_rules | `(tactic| k_ne) => `(tactic| ((refine neN ?_); (try dsimp only); first | (refine Nat.ne_of_gt ?_; walk_at "my lt") | (refine Nat.ne_of_lt ?_; walk_at "my lt")))
local macro_rules | `(tactic| size_fits) => `(tactic| exact sz_lit (by rfl))
local macro_rules | `(tactic| k_invariant "rm" [$n, $ns,*]) => `(tactic| first | exact rm $n (by assumption) (by rfl) (by rfl) | k_invariant "rm" [$ns,*])
local macro_rules | `(tactic| k_invariant "rm" [z]) => `(tactic| exact ltL (by rfl))
local macro_rules | `(tactic| ktr_room) => `(tactic| walk_at "my room")
local macro_rules | `(tactic| walk_at "my room") => `(tactic| ((with_reducible show (_ : Nat) < _); first | exact rm0 (by assumption) | k_invariant "rm" [0, 1, 2, 3, 4, 5, z]))
local macro_rules | `(tactic| ktr_units) => `(tactic| ktr_room)
local macro_rules | `(tactic| k_room) => `(tactic| ktr_room)
local macro_rules | `(tactic| k_units) => `(tactic| ktr_room)
local macro_rules | `(tactic| walk_at "execs cons") => `(tactic| ((with_reducible refine wpAny_execs_cons ?_); try dsimp only))
local macro_rules | `(tactic| walk_at "execs cons Assign cons") => `(tactic| walk_at "execs cons")
local macro_rules | `(tactic| walk_at "my subm") => `(tactic| first | assumption | (refine List.Mem.tail _ ?_; walk_at "my subm"))
local macro_rules | `(tactic| walk_at "my pre") => `(tactic| first | k_asm | exact rfl | k_mem | walk_at "my subm" | walk_at "my room" | walk_at "my news" | (intro p9 h9; first | walk_at "my subm" | (have h10 := (show ∀ p ∈ _, p ∈ _ by assumption) p9 h9; walk_at "my subm")) | exact le5 (by assumption) (by rfl) | exact lt5 (by assumption) (by rfl) | ((fail_if_success (with_reducible show (_ : Bool) = _)); omega))
local macro_rules | `(tactic| walk_at "CompSrcT") => `(tactic| (k_dflt (refine LCt.CompSrcT.ledger (by rfl) (by k_asm) (by k_asm) (by k_mem) (by first | exact pD_size (by assumption) (by assumption) | exact qD_size (by assumption) (by assumption)) ?_); intro g'))
local macro_rules | `(tactic| walk_at "CompSrc") => `(tactic| (k_dflt (refine LCg.CompSrc.ledger (by rfl) (by k_asm) (by k_asm) (by k_mem) (by first | exact pD_size (by assumption) (by assumption) | exact qD_size (by assumption) (by assumption)) ?_); intro g'))
local macro_rules | `(tactic| k_invariant "c" [z]) => `(tactic| (k_whole; intros))
local macro_rules | `(tactic| k_invariant "c" [$n:ident, $ns,*]) => `(tactic| ((first | (case $n:ident => walk_at "my pre") | (fail_if_success (case' $n:ident => skip))); k_invariant "c" [$ns,*]))
local macro_rules | `(tactic| walk_at "my close") => `(tactic| k_invariant "c" [B, T, F, X, _X, R, hdp, hun, N, hm, hmq, XB, TB, D, G, hl, hh, hf, hr, hsm, hb, hn, hD, hDq, hc, hk, hs, z])
local macro_rules | `(tactic| k_invariant "lw" $f) => `(tactic| ((with_reducible apply $f); walk_at "my close"))
local macro_rules | `(tactic| k_invariant "r" ($a, $f)) => `(tactic| ((with_reducible show wpAny _ _ (call (Value.ref $a) _) _ _ _); apply $f; walk_at "my close"))
local macro_rules | `(tactic| k_in) => `(tactic| first | k_in_fast | assumption | exact Frag.In.keeps (by k_asm) (Fr.keep (by k_asm)))
local macro_rules | `(tactic| walk_at "noteFrame ref") => `(tactic| (k_here; (rename RaisedK _ _ _ _ _ _ _ _ => rkX); k_caught0; intro _ _ _ _ _ _; (try k_sweep)))
local macro_rules | `(tactic| walk_at "exec Raise some none") => `(tactic| refine Raise_new rfl ?_)
local macro_rules | `(tactic| walk_at "callWith ref") => `(tactic| (k_here; k_dflt (first | (refine' callWith_K ?k1 ?k2 ?_; (case k1 => k_asm); (case k2 => k_is); k_whole) | (refine' callWith_K0 ?k1 ?k2 ?_; (case k1 => k_in); (case k2 => k_is); k_whole))))
set_option hygiene true
-- Dr
/-! association lists by int keys -/
theorem find_any {β : Type} (p : β → Bool) (l : List β) : (l.find? p).isSome = l.any p := by
  induction l with
  | nil => rfl
  | cons a l ih => rw [List.find?_cons, List.any_cons]; cases p a <;> simp [ih]
section
variable {α : Type}
noncomputable def aHas (c : List (Int × α)) (k : Int) : Bool := c.any fun p => decide (p.1 = k)
noncomputable def aLook (c : List (Int × α)) (k : Int) : Option α := (c.find? fun p => decide (p.1 = k)).map (·.2)
noncomputable def aPut (c : List (Int × α)) (k : Int) (v : α) : List (Int × α) := if aHas c k = true then c.map (fun p => if p.1 = k then (p.1, v) else p) else c ++ [(k, v)]
noncomputable def aDel (c : List (Int × α)) (k : Int) : List (Int × α) := c.filter fun p => decide (p.1 ≠ k)
theorem aLook_has (c : List (Int × α)) (k : Int) : (aLook c k).isSome = aHas c k := by
  unfold aLook aHas
  rw [Option.isSome_map, find_any]
end
theorem aHas_of_look {α : Type} {c : List (Int × α)} {k : Int} {v : α} (h : aLook c k = some v) : aHas c k = true := by rw [← aLook_has, h]; rfl
inductive RelL {α : Type} (rel : α → Value → Prop) : List (Int × Value) → List (Int × α) → Prop
  | nil : RelL rel [] []
  | cons {k : Int} {v : α} {x : Value} {kvs : List (Int × Value)} {c : List (Int × α)} : rel v x → RelL rel kvs c → RelL rel ((k, x) :: kvs) ((k, v) :: c)
section
variable {α : Type} {rel : α → Value → Prop} {kvs : List (Int × Value)} {c : List (Int × α)} {k : Int}
theorem RelL.length (h : RelL rel kvs c) : kvs.length = c.length := by
  induction h with
  | nil => rfl
  | cons _ _ ih => simp [ih]
theorem RelL.keys (h : RelL rel kvs c) : kvs.map (·.1) = c.map (·.1) := by
  induction h with
  | nil => rfl
  | cons _ _ ih => simp [ih]
theorem RelL.any (h : RelL rel kvs c) (k : Int) : (kvs.any fun kv => decide (kv.1 = k)) = aHas c k := by
  induction h with
  | nil => rfl
  | cons _ _ ih => simp only [List.any_cons, aHas] at ih ⊢; rw [ih]
theorem RelL.look (h : RelL rel kvs c) {v : α} (hl : aLook c k = some v) : ∃ x, valueAt kvs k = some x ∧ rel v x := by
  induction h with
  | nil => cases hl
  | @cons k' v' x kvs c hr _ ih =>
    unfold aLook at hl ih
    unfold valueAt at ih ⊢
    rw [List.find?_cons] at hl ⊢
    by_cases e : k' = k
    · simp only [e, decide_true, Option.map_some, Option.some.injEq] at hl ⊢
      subst hl
      exact ⟨x, rfl, hr⟩
    · simp only [e, decide_false] at hl ⊢
      exact ih hl
theorem RelL.isSome (h : RelL rel kvs c) (k : Int) : (valueAt kvs k).isSome = aHas c k := by
  rw [← h.any k]
  unfold valueAt
  rw [Option.isSome_map, find_any]
theorem RelL.none (h : RelL rel kvs c) (hl : aHas c k = false) : valueAt kvs k = none := by
  have := h.isSome k
  rw [hl] at this
  cases q : valueAt kvs k with
  | none => rfl
  | some x => rw [q] at this; cases this
theorem RelL.put (h : RelL rel kvs c) {v : α} {x : Value} (hr : rel v x) (k : Int) : RelL rel (stored kvs k x) (aPut c k v) := by
  unfold stored aPut
  rw [h.any k]
  by_cases hc : aHas c k = true
  · rw [if_pos hc, if_pos hc]
    clear hc
    induction h with
    | nil => exact .nil
    | @cons k' v' x' kvs c hr' _ ih =>
      rw [List.map_cons, List.map_cons]
      by_cases e : k' = k
      · simp only [e, if_true]
        exact .cons hr ih
      · simp only [e, if_false]
        exact .cons hr' ih
  · rw [if_neg hc, if_neg hc]
    clear hc
    induction h with
    | nil => exact .cons hr .nil
    | cons hr' _ ih => exact .cons hr' ih
theorem RelL.del (h : RelL rel kvs c) (k : Int) : RelL rel (without kvs k) (aDel c k) := by
  unfold without aDel
  induction h with
  | nil => exact .nil
  | @cons k' v' x' kvs c hr' _ ih =>
    simp only [List.filter_cons]
    by_cases e : k' = k
    · simpa [e] using ih
    · simp only [e, ne_eq, not_false_eq_true, decide_true, if_true]
      exact .cons hr' ih
theorem RelL.at (h : RelL rel kvs c) {i : Nat} {v : α} (hx : c[i]? = some (k, v)) : ∃ x, kvs[i]? = some (k, x) ∧ rel v x := by
  induction h generalizing i with
  | nil => cases hx
  | @cons k' v' x' kvs c hr' _ ih =>
    cases i with
    | zero => simp only [List.getElem?_cons_zero, Option.some.injEq, Prod.mk.injEq] at hx ⊢; obtain ⟨rfl, rfl⟩ := hx; exact ⟨x', ⟨rfl, rfl⟩, hr'⟩
    | succ i => simp only [List.getElem?_cons_succ] at hx ⊢; exact ih hx
end
noncomputable abbrev PG : Program := PySem.Challenge.rw_ki0005_01.row.prog
/-- a dict object of int keys that bears c -/
noncomputable def DR {α : Type} (w : World) (rel : α → Value → Prop) (d : Addr) (o : Obj) (c : List (Int × α)) : Prop :=
  (d == sysModules) = false ∧ c.length ≤ 100 ∧ ∃ kvs, o.IsDictOf (PySem.intKind PySem.Challenge.rw_ki0005_01.row.prog w) kvs ∧ RelL rel kvs c
section
variable {α : Type} {w : World} {rel : α → Value → Prop} {A : Around} {E : Value → Shared → Prop} {s : Shared} {h₀ : Heap} {L d : Addr} {m : Str → Option Value} {news : Led} {u : Obj → Led} {o : Obj} {c : List (Int × α)} {k : Int} {tk : Tok} {v : α} {x : Value}
theorem dr_size {n : Nat} (h : n ≤ 100) : n ≤ sizeLine := Nat.le_trans h (sz_lit (by rfl))
theorem dr_at {kvs : List (Int × Value)} (N : News h₀ L s.heap news) (hp : (d, o) ∈ news) (hd : o.IsDictOf (PySem.intKind PySem.Challenge.rw_ki0005_01.row.prog w) kvs) : s.heap.DictOf (PySem.intKind PySem.Challenge.rw_ki0005_01.row.prog w) d kvs :=
  Heap.dictOf_iff.mpr ⟨o, (N _ hp).1, hd⟩
theorem dr_pop_method {pl : Sem Bool} {Q : Value × List Value → Shared → Prop} (N : News h₀ L s.heap news) (hp : (d, o) ∈ news) (D : DR w rel d o c) (h : Q (.builtin "dict.pop", [.ref d]) s) :
    wpAny (model PySem.Challenge.rw_ki0005_01.row.prog w) A (getMethod (.ref d) (Str.ofString "pop") pl) Q E s := by
  refine Classical.byContradiction fun hn9 => ?_
  obtain ⟨lo, hlen, kvs, hd, hr⟩ := D
  refine hn9 ?_; clear hn9
  have hD := dr_at N hp hd
  exact getMethod_builtin hD.typeIs PySem.F.plainAttrs_dict PySem.F.slot_dict_pop PySem.F.type_dict_pop hD.mapOf.noDict h
theorem dr_clear_method {pl : Sem Bool} {Q : Value × List Value → Shared → Prop} (N : News h₀ L s.heap news) (hp : (d, o) ∈ news) (D : DR w rel d o c) (h : Q (.builtin "dict.clear", [.ref d]) s) :
    wpAny (model PySem.Challenge.rw_ki0005_01.row.prog w) A (getMethod (.ref d) (Str.ofString "clear") pl) Q E s := by
  refine Classical.byContradiction fun hn9 => ?_
  obtain ⟨lo, hlen, kvs, hd, hr⟩ := D
  refine hn9 ?_; clear hn9
  have hD := dr_at N hp hd
  exact getMethod_builtin hD.typeIs PySem.F.plainAttrs_dict PySem.F.slot_dict_clear PySem.F.type_dict_clear hD.mapOf.noDict h
theorem dr_pop {Q : Value → Shared → Prop} (F : Fr h₀ L s.heap m) (N : News h₀ L s.heap news) (U : UpdF d o news u) (D : DR w rel d o c) (hl : aLook c k = some v)
    (h : ∀ h' o' x, rel v x → Fr h₀ L h' m → News h₀ L h' (u o') → DR w rel d o' (aDel c k) → Q x { s with heap := h', toks := s.toks + 1 }) :
    wpAny (model PySem.Challenge.rw_ki0005_01.row.prog w) A (call (.builtin "dict.pop") [.ref d, .int k tk]) Q E s := by
  refine Classical.byContradiction fun hn9 => ?_
  obtain ⟨lo, hlen, kvs, hd, hr⟩ := D
  refine hn9 ?_; clear hn9
  refine Classical.byContradiction fun hn9 => ?_
  obtain ⟨pre, post, rfl, hg, a, b⟩ := U.split
  refine hn9 ?_; clear hn9
  have hm := N (d, o) (List.mem_append_right _ (.head _))
  have hD := dr_at N (List.mem_append_right _ (.head _)) hd
  obtain ⟨x, hx, hrx⟩ := hr.look hl
  refine call_meetsIn PySem.F.slot_dict_pop hD.typeIs PySem.F.entry_dict_pop (PySem.F.args_dict_pop_2 _ _) (meets_dict_pop_there (PySem.intKind PySem.Challenge.rw_ki0005_01.row.prog w) d (intKind_is _ _ k tk) [] (.inl rfl) rfl) ⟨kvs, x, hD, (by rw [hr.length]; exact dr_size hlen), hx, fun h' hmm hs => ?_⟩
  obtain ⟨o', ho', hd'⟩ := Heap.dictOf_iff.mp hmm
  exact h h' o' x hrx (F.change hs hm.2.1 hm.2.2) (hg o' ▸ N.setIn a b hs ho') ⟨lo, Nat.le_trans (List.length_filter_le _ _) hlen, _, hd', hr.del k⟩
theorem dr_pop_missing {Q : Value → Shared → Prop} (hh : A.handled = none) (N : News h₀ L s.heap news) (hp : (d, o) ∈ news) (D : DR w rel d o c) (hl : aHas c k = false)
    (h : ∀ h' e, Heap.NewExc s.heap h' e "KeyError" → E (.ref e) { s with heap := h', toks := s.toks + 1 }) :
    wpAny (model PySem.Challenge.rw_ki0005_01.row.prog w) A (call (.builtin "dict.pop") [.ref d, .int k tk]) Q E s := by
  refine Classical.byContradiction fun hn9 => ?_
  obtain ⟨lo, hlen, kvs, hd, hr⟩ := D
  refine hn9 ?_; clear hn9
  have hD := dr_at N hp hd
  exact call_meetsIn PySem.F.slot_dict_pop hD.typeIs PySem.F.entry_dict_pop (PySem.F.args_dict_pop_2 _ _) (meets_dict_pop_missing (PySem.intKind PySem.Challenge.rw_ki0005_01.row.prog w) d (intKind_is _ _ k tk) lo rfl) ⟨hh, kvs, hD, hr.none hl, h⟩
theorem dr_del {Q : Unit → Shared → Prop} (F : Fr h₀ L s.heap m) (N : News h₀ L s.heap news) (U : UpdF d o news u) (D : DR w rel d o c) (hl : aHas c k = true)
    (h : ∀ h' o', Fr h₀ L h' m → News h₀ L h' (u o') → DR w rel d o' (aDel c k) → Q () { s with heap := h', toks := s.toks + 1 }) :
    wpAny (model PySem.Challenge.rw_ki0005_01.row.prog w) A (delItem (.ref d) (.int k tk)) Q E s := by
  refine Classical.byContradiction fun hn9 => ?_
  obtain ⟨lo, hlen, kvs, hd, hr⟩ := D
  refine hn9 ?_; clear hn9
  refine Classical.byContradiction fun hn9 => ?_
  obtain ⟨pre, post, rfl, hg, a, b⟩ := U.split
  refine hn9 ?_; clear hn9
  have hm := N (d, o) (List.mem_append_right _ (.head _))
  have hD := dr_at N (List.mem_append_right _ (.head _)) hd
  unfold delItem
  try with_reducible refine wpAny_holding ?_
  refine wpAny_bind (wpAny_sequenceKey hD.typeIs (by decide) ?_)
  refine wpAny_bind (wpAny_callSpecial?_slot (name := Str.ofString "__delitem__") hD.typeIs PySem.F.slot_dict_delitem
    (call_meetsIn PySem.F.slot_dict_delitem hD.typeIs PySem.F.entry_dict_delitem (PySem.F.args_dict_delitem_2 _ _) (meets_dict_delitem_pairs (PySem.intKind PySem.Challenge.rw_ki0005_01.row.prog w) d (intKind_is _ _ k tk)) ⟨kvs, hD, (by rw [hr.length]; exact dr_size hlen), (by rw [hr.isSome k]; exact hl), fun h' hmm hs => ?_⟩))
  obtain ⟨o', ho', hd'⟩ := Heap.dictOf_iff.mp hmm
  exact wpAny_pure (h h' o' (F.change hs hm.2.1 hm.2.2) (hg o' ▸ N.setIn a b hs ho') ⟨lo, Nat.le_trans (List.length_filter_le _ _) hlen, _, hd', hr.del k⟩)
theorem dr_del_missing {Q : Unit → Shared → Prop} (hh : A.handled = none) (N : News h₀ L s.heap news) (hp : (d, o) ∈ news) (D : DR w rel d o c) (hl : aHas c k = false)
    (h : ∀ h' e, Heap.NewExc s.heap h' e "KeyError" → E (.ref e) { s with heap := h', toks := s.toks + 1 }) :
    wpAny (model PySem.Challenge.rw_ki0005_01.row.prog w) A (delItem (.ref d) (.int k tk)) Q E s := by
  refine Classical.byContradiction fun hn9 => ?_
  obtain ⟨lo, hlen, kvs, hd, hr⟩ := D
  refine hn9 ?_; clear hn9
  have hD := dr_at N hp hd
  unfold delItem
  try with_reducible refine wpAny_holding ?_
  refine wpAny_bind (wpAny_sequenceKey hD.typeIs (by decide) ?_)
  exact wpAny_bind (wpAny_callSpecial?_slot (name := Str.ofString "__delitem__") hD.typeIs PySem.F.slot_dict_delitem
    (call_meetsIn PySem.F.slot_dict_delitem hD.typeIs PySem.F.entry_dict_delitem (PySem.F.args_dict_delitem_2 _ _) (meets_dict_delitem_missing (PySem.intKind PySem.Challenge.rw_ki0005_01.row.prog w) d (intKind_is _ _ k tk) lo) ⟨hh, kvs, hD, hr.none hl, h⟩))
theorem dr_set {Q : Unit → Shared → Prop} (F : Fr h₀ L s.heap m) (N : News h₀ L s.heap news) (U : UpdF d o news u) (D : DR w rel d o c) (hv : rel v x) (hroom : c.length < 100)
    (h : ∀ h' o', Fr h₀ L h' m → News h₀ L h' (u o') → DR w rel d o' (aPut c k v) → Q () { s with heap := h', toks := s.toks + 1 }) :
    wpAny (model PySem.Challenge.rw_ki0005_01.row.prog w) A (setItem (.ref d) (.int k tk) x) Q E s := by
  refine Classical.byContradiction fun hn9 => ?_
  obtain ⟨lo, hlen, kvs, hd, hr⟩ := D
  refine hn9 ?_; clear hn9
  refine Classical.byContradiction fun hn9 => ?_
  obtain ⟨pre, post, rfl, hg, a, b⟩ := U.split
  refine hn9 ?_; clear hn9
  have hm := N (d, o) (List.mem_append_right _ (.head _))
  refine wpAny_setItem_pairs (hsz := by rw [hr.length]; exact dr_size hlen) (intKind_is _ _ k tk) (dr_at N (List.mem_append_right _ (.head _)) hd) fun h' hmm hs => ?_
  obtain ⟨o', ho', hd'⟩ := Heap.dictOf_iff.mp hmm
  refine h h' o' (F.change hs hm.2.1 hm.2.2) (hg o' ▸ N.setIn a b hs ho') ⟨lo, ?_, _, hd', hr.put hv k⟩
  unfold aPut
  split
  · rw [List.length_map]; exact hlen
  · rw [List.length_append]; exact hroom
theorem dr_clear {Q : Value → Shared → Prop} (F : Fr h₀ L s.heap m) (N : News h₀ L s.heap news) (U : UpdF d o news u) (D : DR w rel d o c)
    (h : ∀ h' o', Fr h₀ L h' m → News h₀ L h' (u o') → DR w rel d o' ([] : List (Int × α)) → Q .none { s with heap := h' }) :
    wpAny (model PySem.Challenge.rw_ki0005_01.row.prog w) A (call (.builtin "dict.clear") [.ref d]) Q E s := by
  refine Classical.byContradiction fun hn9 => ?_
  obtain ⟨lo, hlen, kvs, hd, hr⟩ := D
  refine hn9 ?_; clear hn9
  refine Classical.byContradiction fun hn9 => ?_
  obtain ⟨pre, post, rfl, hg, a, b⟩ := U.split
  refine hn9 ?_; clear hn9
  have hm := N (d, o) (List.mem_append_right _ (.head _))
  have hD := dr_at N (List.mem_append_right _ (.head _)) hd
  refine call_meetsIn PySem.F.slot_dict_clear hD.typeIs PySem.F.entry_dict_clear (PySem.F.args_dict_clear_1 _) (meets_dict_clear (PySem.intKind PySem.Challenge.rw_ki0005_01.row.prog w) d) ⟨kvs, hD, (by rw [hr.length]; exact dr_size hlen), fun h' hmm hs => ?_⟩
  obtain ⟨o', ho', hd'⟩ := Heap.dictOf_iff.mp hmm
  exact h h' o' (F.change hs hm.2.1 hm.2.2) (hg o' ▸ N.setIn a b hs ho') ⟨lo, Nat.zero_le _, [], hd', .nil⟩
theorem dr_getItem {Q : Value → Shared → Prop} (N : News h₀ L s.heap news) (hp : (d, o) ∈ news) (D : DR w rel d o c) (hl : aLook c k = some v) (h : ∀ x, rel v x → Q x { s with toks := s.toks + 1 }) :
    wpAny (model PySem.Challenge.rw_ki0005_01.row.prog w) A (getItem (.ref d) (.int k tk)) Q E s := by
  refine Classical.byContradiction fun hn9 => ?_
  obtain ⟨lo, hlen, kvs, hd, hr⟩ := D
  refine hn9 ?_; clear hn9
  obtain ⟨x, hx, hrx⟩ := hr.look hl
  exact wpAny_getItem_of (intKind_is _ _ k tk) (dr_at N hp hd).mapOf hx (h x hrx)
theorem dr_getItem_missing {Q : Value → Shared → Prop} (hh : A.handled = none) (N : News h₀ L s.heap news) (hp : (d, o) ∈ news) (D : DR w rel d o c) (hl : aHas c k = false)
    (h : ∀ h' e, Heap.NewExc s.heap h' e "KeyError" → E (.ref e) { s with heap := h', toks := s.toks + 1 }) :
    wpAny (model PySem.Challenge.rw_ki0005_01.row.prog w) A (getItem (.ref d) (.int k tk)) Q E s := by
  refine Classical.byContradiction fun hn9 => ?_
  obtain ⟨lo, hlen, kvs, hd, hr⟩ := D
  refine hn9 ?_; clear hn9
  exact wpAny_getItem_missing_of (intKind_is _ _ k tk) lo hh (dr_at N hp hd).mapOf (hr.none hl) h
theorem dr_tail {value slice : PySem.Expr} {Q : Value → Shared → Prop} {key : Value} (N : News h₀ L s.heap news) (hp : (d, o) ∈ news) (D : DR w rel d o c) (h : wpAny (model PySem.Challenge.rw_ki0005_01.row.prog w) A (getItem (.ref d) key) Q E s)
    (hs : subscripted slice false (.ref d) key = operate [.ref d, key] (getItem (.ref d) key) := by with_unfolding_all rfl) : wpAny (model PySem.Challenge.rw_ki0005_01.row.prog w) A (subscriptTail value slice (.ref d) key) Q E s := by
  refine Classical.byContradiction fun hn9 => ?_
  obtain ⟨lo, hlen, kvs, hd, hr⟩ := D
  refine hn9 ?_; clear hn9
  exact tail_any (dr_at N hp hd).typeIs slot_dict_getitem.lookup h hs
theorem dr_in {Q : Value → Shared → Prop} (N : News h₀ L s.heap news) (hp : (d, o) ∈ news) (D : DR w rel d o c) (h : Q (.bool (aHas c k)) { s with toks := s.toks + 1 }) :
    wpAny (model PySem.Challenge.rw_ki0005_01.row.prog w) A (compareOp .In (.int k tk) (.ref d)) Q E s := by
  refine Classical.byContradiction fun hn9 => ?_
  obtain ⟨lo, hlen, kvs, hd, hr⟩ := D
  refine hn9 ?_; clear hn9
  exact wpAny_in_of (intKind_is _ _ k tk) lo (dr_at N hp hd).mapOf (by rw [hr.isSome k]; exact h)
theorem dr_notin {Q : Value → Shared → Prop} (N : News h₀ L s.heap news) (hp : (d, o) ∈ news) (D : DR w rel d o c) (h : Q (.bool (!aHas c k)) { s with toks := s.toks + 1 }) :
    wpAny (model PySem.Challenge.rw_ki0005_01.row.prog w) A (compareOp .NotIn (.int k tk) (.ref d)) Q E s := by
  refine Classical.byContradiction fun hn9 => ?_
  obtain ⟨lo, hlen, kvs, hd, hr⟩ := D
  refine hn9 ?_; clear hn9
  exact wpAny_notIn_of (intKind_is _ _ k tk) lo (dr_at N hp hd).mapOf (by rw [hr.isSome k]; exact h)
theorem dr_in_b {Q : Value → Shared → Prop} (b : Bool) (N : News h₀ L s.heap news) (hp : (d, o) ∈ news) (D : DR w rel d o c) (hb : aHas c k = b) (h : Q (.bool b) { s with toks := s.toks + 1 }) :
    wpAny (model PySem.Challenge.rw_ki0005_01.row.prog w) A (compareOp .In (.int k tk) (.ref d)) Q E s := dr_in N hp D (by rw [hb]; exact h)
theorem dr_notin_b {Q : Value → Shared → Prop} (b : Bool) (N : News h₀ L s.heap news) (hp : (d, o) ∈ news) (D : DR w rel d o c) (hb : aHas c k = b) (h : Q (.bool (!b)) { s with toks := s.toks + 1 }) :
    wpAny (model PySem.Challenge.rw_ki0005_01.row.prog w) A (compareOp .NotIn (.int k tk) (.ref d)) Q E s := dr_notin N hp D (by rw [hb]; exact h)
theorem dr_len {Q : Value → Shared → Prop} (N : News h₀ L s.heap news) (hp : (d, o) ∈ news) (D : DR w rel d o c) (h : Q (.int (c.length : Nat) (s.toks + 1)) { s with toks := s.toks + 1 + 1 }) :
    wpAny (model PySem.Challenge.rw_ki0005_01.row.prog w) A (call (.builtin "len") [.ref d]) Q E s := by
  refine Classical.byContradiction fun hn9 => ?_
  obtain ⟨lo, hlen, kvs, hd, hr⟩ := D
  refine hn9 ?_; clear hn9
  exact call_len_dict lo (dr_at N hp hd) (by rw [hr.length]; omega) (by rw [hr.length]; exact h)
theorem dr_iter {Q : Value → Shared → Prop} (F : Fr h₀ L s.heap m) (N : News h₀ L s.heap news) (hp : (d, o) ∈ news) (D : DR w rel d o c)
    (h : ∀ (I : Addr) h' oI kvs ep, Fr h₀ L h' m → News h₀ L h' ((I, oI) :: news) → (∀ p ∈ news, p.1 < I) → RelL rel kvs c → KdkIter oI d 0 kvs.length ep → KdkAt (PySem.intKind PySem.Challenge.rw_ki0005_01.row.prog w) o kvs ep → Q (.ref I) { s with heap := h' }) :
    wpAny (model PySem.Challenge.rw_ki0005_01.row.prog w) A (call (.builtin "iter") [.ref d]) Q E s := by
  refine Classical.byContradiction fun hn9 => ?_
  obtain ⟨lo, hlen, kvs, hd, hr⟩ := D
  refine hn9 ?_; clear hn9
  exact kdk_iter F N hp hd lo fun I h' oI ep F' N' l1 a b => h I h' oI kvs ep F' N' l1 hr a b
theorem dr_next {it : Addr} {io : Obj} {ep : Nat} {kvs : List (Int × Value)} {c' : List (Int × α)} {Q : Value → Shared → Prop} (F : Fr h₀ L s.heap m) (N : News h₀ L s.heap news) (U : UpdF it io news u) (hi : KdkIter io d 0 kvs.length ep) (ha : KdkAt (PySem.intKind PySem.Challenge.rw_ki0005_01.row.prog w) o kvs ep) (hp : (d, o) ∈ news)
    (hr : RelL rel kvs ((k, v) :: c')) (h : ∀ h' o' t, Fr h₀ L h' m → News h₀ L h' (u o') → Q (.int k t) { s with heap := h' }) :
    wpAny (model PySem.Challenge.rw_ki0005_01.row.prog w) A (call (.builtin "next") [.ref it]) Q E s := by
  obtain ⟨x, hx, _⟩ := hr.at (i := 0) rfl
  refine kdk_next F N U hi ha hp hx fun h' o' key hk F' N' _ => ?_
  obtain ⟨t, rfl⟩ := PySem.Value.isInt_shape hk
  exact h h' o' t F' N'
end
section
variable {w : World} {A : Around} {E : Value → Shared → Prop} {s : Shared} {K : Frag} {x C L f it d : Addr} {h₀ : Heap} {m : Str → Option Value} {ox io : Obj} {od : Option Obj} {news : Led} {i n ep : Nat}
/-- iter(o) of an own class -/
theorem iter_own {Q : Value → Shared → Prop} (F : Fr h₀ L s.heap m) (X₀ : K.In h₀) (I : InstAt s.heap x ox C od) (hs : findIn K (.ref C) "__iter__" = some (some (.ref f))) (hf : isFn K (.ref f) = true)
    (h : wpAny (model PySem.Challenge.rw_ki0005_01.row.prog w) A.in1 (call (.ref f) [.ref x]) (OwitIt (model PySem.Challenge.rw_ki0005_01.row.prog w) A.in1 Q E) E s) : wpAny (model PySem.Challenge.rw_ki0005_01.row.prog w) A (call (.builtin "iter") [.ref x]) Q E s := by
  refine call_function_entry (by decide +kernel) (by decide +kernel) kdk_entry_iter (kdk_args_iter _) ?_
  unfold Builtin.«iter»
  refine wpAny_bind (m := someArgs "iter" 1 2 _) (wpAny_of_eq (a := [Value.ref x]) (by first | rfl | kernel_rfl!) ?_)
  show wpAny _ _ (pyIter (.ref x) >>= _) _ _ _
  exact wpAny_bind (wpAny_mono (owit_iter F X₀ I hs hf h) (fun v s' hq => wpAny_pure ⟨_, rfl, hq⟩) fun _ _ z => z)
theorem owit_key {M : Model} {Q : Value → Shared → Prop} (N : News h₀ L s.heap news) (hp : (it, io) ∈ news) (hi : KdkIter io d i n ep) (h : Q (.ref it) s) : OwitIt M A Q E (.ref it) s := by
  have hit := hi.at (N _ hp).1
  unfold OwitIt
  exact wpAny_specialOf (name := Str.ofString "__next__") hit.typeIs PySem.F.slot_dict_keyiterator_next.lookup h
end
-- Pu
noncomputable def szS (v : Int) : Int := v.fmod 5 - 1
noncomputable def szU (_ : Int) : Int := 1
noncomputable def szB (z : Bool) : Int → Int := if z = true then szS else szU
noncomputable abbrev Fits (sz : Int → Int) (room value : Int) : Prop := sz value ≤ room ∧ 0 ≤ sz value
noncomputable def Tups (d : Led) : Prop := ∀ p ∈ d, p.2.cls = .type "tuple"
theorem Tups.nil : Tups [] := fun _ h => nomatch h
theorem Tups.cons {r : Addr} {o : Obj} {d : Led} (h : o.cls = .type "tuple") (k : Tups d) : Tups ((r, o) :: d) := List.forall_mem_cons.mpr ⟨h, k⟩
theorem Tups.append {d e : Led} (h : Tups d) (k : Tups e) : Tups (d ++ e) := List.forall_mem_append.mpr ⟨h, k⟩
noncomputable abbrev pairO (k v : Int) (ta tb : Tok) (n : Nat := 0) : Obj := { cls := .type "tuple", data := .seq [Value.int k ta, Value.int v tb].toArray n }
noncomputable def total (sz : Int → Int) (c : List (Int × Int)) : Int := (c.map fun p => sz p.2).sum
noncomputable def zOf (sz : Int → Int) (c : List (Int × Int)) : List (Int × Int) := c.map fun p => (p.1, sz p.2)
noncomputable def uOf (q : List Int) : List (Int × Unit) := q.map fun k => (k, ())
noncomputable def qDel (q : List Int) (k : Int) : List Int := q.filter fun j => decide (j ≠ k)
noncomputable abbrev isI : Int → Value → Prop := fun n x => ∃ t : Tok, x = Value.int n t
noncomputable abbrev isU : Unit → Value → Prop := fun _ _ => True
section
variable {α : Type}
theorem aHas_iff {c : List (Int × α)} {k : Int} : aHas c k = true ↔ k ∈ c.map (·.1) := by
  unfold aHas
  rw [List.any_eq_true, List.mem_map]
  constructor
  · rintro ⟨p, hp, h⟩; exact ⟨p, hp, of_decide_eq_true h⟩
  · rintro ⟨p, hp, h⟩; exact ⟨p, hp, decide_eq_true h⟩
theorem aHas_cons {c : List (Int × α)} {k j : Int} {v : α} : aHas ((j, v) :: c) k = (decide (j = k) || aHas c k) := rfl
theorem aLook_cons {c : List (Int × α)} {k j : Int} {v : α} : aLook ((j, v) :: c) k = if j = k then some v else aLook c k := by
  unfold aLook
  rw [List.find?_cons]
  by_cases h : j = k
  · simp [h]
  · simp [h]
theorem aDel_cons {c : List (Int × α)} {k j : Int} {v : α} : aDel ((j, v) :: c) k = if j = k then aDel c k else (j, v) :: aDel c k := by
  unfold aDel
  rw [List.filter_cons]
  by_cases h : j = k
  · simp [h]
  · simp [h]
theorem aLook_of_has {c : List (Int × α)} {k : Int} (h : aHas c k = true) : ∃ v, aLook c k = some v := by
  rw [← aLook_has] at h
  exact Option.isSome_iff_exists.mp h
theorem aDel_none {c : List (Int × α)} {k : Int} (h : aHas c k = false) : aDel c k = c := by
  unfold aDel
  rw [List.filter_eq_self]
  intro p hp
  refine decide_eq_true fun e => ?_
  have : aHas c k = true := aHas_iff.mpr (List.mem_map.mpr ⟨p, hp, e⟩)
  rw [h] at this; cases this
theorem aHas_del {c : List (Int × α)} {k j : Int} : aHas (aDel c k) j = (decide (j ≠ k) && aHas c j) := by
  induction c with
  | nil => simp [aDel, aHas]
  | cons p c ih =>
    obtain ⟨i, v⟩ := p
    rw [aDel_cons, aHas_cons]
    by_cases h : i = k
    · subst h
      rw [if_pos rfl, ih]
      by_cases e : j = i
      · subst e; simp
      · have e' : ¬ i = j := fun q => e q.symm
        simp [e, e']
    · rw [if_neg h, aHas_cons, ih]
      by_cases e : i = j
      · subst e; simp [h]
      · simp [e]
theorem aLook_del_ne {c : List (Int × α)} {k j : Int} (h : ¬ k = j) : aLook (aDel c k) j = aLook c j := by
  induction c with
  | nil => rfl
  | cons p c ih =>
    obtain ⟨i, v⟩ := p
    rw [aDel_cons, aLook_cons]
    by_cases e : i = k
    · subst e
      rw [if_pos rfl, ih, if_neg h]
    · rw [if_neg e, aLook_cons, ih]
theorem keys_del {c : List (Int × α)} {k : Int} : (aDel c k).map (·.1) = qDel (c.map (·.1)) k := by
  unfold aDel qDel
  rw [List.filter_map]
  rfl
theorem keys_put {c : List (Int × α)} {k : Int} {v : α} : (aPut c k v).map (·.1) = if aHas c k = true then c.map (·.1) else c.map (·.1) ++ [k] := by
  unfold aPut
  split
  · rw [List.map_map]
    refine List.map_congr_left fun p _ => ?_
    show (if p.1 = k then (p.1, v) else p).1 = p.1
    split <;> rfl
  · rw [List.map_append]; rfl
end
theorem qDel_none {q : List Int} {k : Int} (h : k ∉ q) : qDel q k = q := by
  unfold qDel
  rw [List.filter_eq_self]
  intro j hj
  exact decide_eq_true fun e => h (e ▸ hj)
theorem qDel_head {q : List Int} {k : Int} (h : (k :: q).Nodup) : qDel (k :: q) k = q := by
  have := (List.nodup_cons.mp h).1
  unfold qDel
  rw [List.filter_cons]
  simp only [ne_eq, not_true_eq_false, decide_false, Bool.false_eq_true, if_false]
  exact qDel_none this
theorem mem_qDel {q : List Int} {k j : Int} : j ∈ qDel q k ↔ j ∈ q ∧ j ≠ k := by
  unfold qDel
  rw [List.mem_filter]
  simp
theorem nodup_qDel {q : List Int} {k : Int} (h : q.Nodup) : (qDel q k).Nodup := h.filter _
section
variable {sz : Int → Int} {c : List (Int × Int)} {k v : Int}
theorem zOf_look : aLook (zOf sz c) k = (aLook c k).map sz := by
  induction c with
  | nil => rfl
  | cons p c ih =>
    obtain ⟨i, x⟩ := p
    show aLook ((i, sz x) :: zOf sz c) k = _
    rw [aLook_cons, aLook_cons, ih]
    split <;> rfl
theorem zOf_length : (zOf sz c).length = c.length := by unfold zOf; rw [List.length_map]
theorem zOf_look_some (h : aLook c k = some v) : aLook (zOf sz c) k = some (sz v) := by rw [zOf_look, h]; rfl
theorem zOf_has : aHas (zOf sz c) k = aHas c k := by
  induction c with
  | nil => rfl
  | cons p c ih =>
    obtain ⟨i, x⟩ := p
    show aHas ((i, sz x) :: zOf sz c) k = _
    rw [aHas_cons, aHas_cons, ih]
theorem zOf_del : aDel (zOf sz c) k = zOf sz (aDel c k) := by
  induction c with
  | nil => rfl
  | cons p c ih =>
    obtain ⟨i, x⟩ := p
    show aDel ((i, sz x) :: zOf sz c) k = _
    rw [aDel_cons, aDel_cons, ih]
    split <;> rfl
theorem zOf_put : aPut (zOf sz c) k (sz v) = zOf sz (aPut c k v) := by
  unfold aPut
  rw [zOf_has]
  split
  · unfold zOf
    rw [List.map_map, List.map_map]
    refine List.map_congr_left fun p _ => ?_
    show (if p.1 = k then (p.1, sz v) else (p.1, sz p.2)) = (fun p : Int × Int => (p.1, sz p.2)) (if p.1 = k then (p.1, v) else p)
    split <;> rfl
  · simp [zOf]
theorem total_cons {p : Int × Int} : total sz (p :: c) = sz p.2 + total sz c := by unfold total; rw [List.map_cons, List.sum_cons]
theorem total_append {l : List (Int × Int)} : total sz (c ++ l) = total sz c + total sz l := by
  induction c with
  | nil => simp [total]
  | cons p c ih => rw [List.cons_append, total_cons, total_cons, ih]; exact (Int.add_assoc _ _ _).symm
theorem total_del (hn : (c.map (·.1)).Nodup) (h : aLook c k = some v) : total sz (aDel c k) = total sz c - sz v := by
  induction c with
  | nil => cases h
  | cons p c ih =>
    obtain ⟨i, x⟩ := p
    rw [List.map_cons, List.nodup_cons] at hn
    rw [aLook_cons] at h
    rw [aDel_cons, total_cons]
    by_cases e : i = k
    · subst e
      rw [if_pos rfl] at h ⊢
      cases h
      rw [aDel_none]
      · show total sz c = sz v + total sz c - sz v; rw [Int.add_comm (sz v)]; exact (Int.add_sub_cancel _ _).symm
      · cases q : aHas c i with
        | false => rfl
        | true => exact absurd (aHas_iff.mp q) hn.1
    · rw [if_neg e] at h ⊢
      rw [total_cons, ih hn.2 h]
      exact (Int.add_sub_assoc _ _ _).symm
theorem total_put (hn : (c.map (·.1)).Nodup) : total sz (aPut c k v) = total sz (aDel c k) + sz v := by
  unfold aPut
  split
  · rename_i h
    induction c with
    | nil => cases h
    | cons p c ih =>
      obtain ⟨i, x⟩ := p
      rw [List.map_cons, List.nodup_cons] at hn
      rw [List.map_cons, total_cons, aDel_cons]
      by_cases e : i = k
      · subst e
        rw [if_pos rfl, if_pos rfl]
        have h0 : aHas c i = false := by
          cases q : aHas c i with
          | false => rfl
          | true => exact absurd (aHas_iff.mp q) hn.1
        rw [aDel_none h0]
        have e2 : (c.map fun p => if p.1 = i then (p.1, v) else p) = c := by
          have : (c.map fun p => if p.1 = i then (p.1, v) else p) = c.map id := List.map_congr_left fun p hp => by
            rw [if_neg fun e => hn.1 (List.mem_map.mpr ⟨p, hp, e⟩)]; rfl
          rw [this, List.map_id]
        rw [e2]; exact Int.add_comm _ _
      · rw [if_neg e, if_neg e, total_cons]
        have h' : aHas c k = true := by
          rw [aHas_cons, decide_eq_false e, Bool.false_or] at h; exact h
        have := ih hn.2 h'
        rw [this]; exact (Int.add_assoc _ _ _).symm
  · rename_i h
    rw [total_append, aDel_none (by simpa using h)]
    simp [total]
theorem total_nonneg (h : ∀ p ∈ c, 0 ≤ sz p.2) : 0 ≤ total sz c := by
  induction c with
  | nil => simp [total]
  | cons p c ih =>
    rw [total_cons]
    have h1 := h p (.head _)
    have h2 := ih fun q hq => h q (.tail _ hq)
    omega
theorem mem_of_aDel {p : Int × Int} (h : p ∈ aDel c k) : p ∈ c := (List.mem_filter.mp h).1
theorem mem_of_aPut {p : Int × Int} (h : p ∈ aPut c k v) : p ∈ c ∨ p = (k, v) := by
  unfold aPut at h
  split at h
  · obtain ⟨r, hr, e⟩ := List.mem_map.mp h
    split at e
    · rename_i e2; subst e2; exact .inr e.symm
    · exact .inl (e ▸ hr)
  · rcases List.mem_append.mp h with h | h
    · exact .inl h
    · exact .inr (List.mem_singleton.mp h)
end
section
variable {q : List Int} {k : Int}
theorem uOf_has : aHas (uOf q) k = decide (k ∈ q) := by
  induction q with
  | nil => rfl
  | cons j q ih =>
    show aHas ((j, ()) :: uOf q) k = _
    rw [aHas_cons, ih]
    by_cases e : j = k
    · subst e; simp
    · have e' : ¬ k = j := fun h => e h.symm
      simp [e, e']
theorem uOf_del : aDel (uOf q) k = uOf (qDel q k) := by
  unfold aDel uOf qDel
  rw [List.filter_map]
  rfl
theorem uOf_put_new (h : k ∉ q) : aPut (uOf q) k () = uOf (q ++ [k]) := by
  unfold aPut
  rw [uOf_has, if_neg (by simpa using h)]
  simp [uOf]
end
/-- the keys and the queue agree -/
structure Core (sz : Int → Int) (c : List (Int × Int)) (q : List Int) : Prop where
  nk : (c.map (·.1)).Nodup
  nq : q.Nodup
  kq : ∀ k, aHas c k = true ↔ k ∈ q
  pos : ∀ p ∈ c, 0 ≤ sz p.2
  key : ∀ p ∈ c, 0 ≤ p.1 ∧ p.1 < 5
section
variable {sz : Int → Int} {c : List (Int × Int)} {q : List Int} {k v : Int}
theorem Core.del (G : Core sz c q) (k : Int) : Core sz (aDel c k) (qDel q k) := by
  refine ⟨?_, nodup_qDel G.nq, fun j => ?_, fun p hp => G.pos p (mem_of_aDel hp), fun p hp => G.key p (mem_of_aDel hp)⟩
  · rw [keys_del]; exact nodup_qDel G.nk
  · rw [aHas_del, mem_qDel, ← G.kq j]
    simp [and_comm]
theorem Core.pop (G : Core sz c (k :: q)) : Core sz (aDel c k) q := by
  have := G.del k
  rwa [qDel_head G.nq] at this
theorem nodup_five : ∀ (l : List Int) (n : Nat), l.Nodup → (∀ j ∈ l, 0 ≤ j ∧ j < (n : Int)) → l.length ≤ n := by
  intro l n
  induction n generalizing l with
  | zero =>
    intro _ h
    cases l with
    | nil => exact Nat.le_refl _
    | cons j l => have := h j (.head _); omega
  | succ n ih =>
    intro hn h
    have h1 := ih (qDel l n) (nodup_qDel hn) fun j hj => by
      have := mem_qDel.mp hj
      have := h j this.1
      omega
    have h2 : l.length ≤ (qDel l n).length + 1 := by
      clear ih h h1
      induction l with
      | nil => exact Nat.zero_le _
      | cons j l ih =>
        rw [List.nodup_cons] at hn
        unfold qDel
        rw [List.filter_cons]
        by_cases e : j = (n : Int)
        · subst e
          simp only [ne_eq, not_true_eq_false, decide_false, Bool.false_eq_true, if_false]
          have := qDel_none hn.1
          unfold qDel at this
          simp only [ne_eq] at this
          rw [this, List.length_cons]
          exact Nat.le_refl _
        · have e2 : decide (j ≠ (n : Int)) = true := decide_eq_true e
          rw [if_pos e2, List.length_cons, List.length_cons]
          have := ih hn.2
          unfold qDel at this
          omega
    omega
theorem Core.len (G : Core sz c q) : c.length ≤ 5 := by
  have := nodup_five (c.map (·.1)) 5 G.nk fun j hj => by
    obtain ⟨p, hp, rfl⟩ := List.mem_map.mp hj
    exact G.key p hp
  rwa [List.length_map] at this
theorem Core.lenq (G : Core sz c q) : q.length ≤ 5 := nodup_five q 5 G.nq fun j hj => by
    obtain ⟨p, hp, rfl⟩ := List.mem_map.mp (aHas_iff.mp ((G.kq j).mpr hj))
    exact G.key p hp
theorem Core.head (G : Core sz c (k :: q)) : ∃ v, aLook c k = some v := aLook_of_has ((G.kq k).mpr (.head _))
end
/-- what goes, ahead of a set -/
noncomputable def evict (sz : Int → Int) (room size key : Int) : List (Int × Int) → List Int → List (Int × Int) × List Int
  | c, [] => (c, [])
  | c, k :: q => if total sz (aDel c key) + size > room then evict sz room size key (aDel c k) q else (c, k :: q)
theorem evict_stop {sz : Int → Int} {room size key : Int} {c : List (Int × Int)} {q : List Int} (h : ¬ total sz (aDel c key) + size > room) : evict sz room size key c q = (c, q) := by
  cases q with
  | nil => rfl
  | cons k q => unfold evict; rw [if_neg h]
theorem evict_go {sz : Int → Int} {room size key k : Int} {c : List (Int × Int)} {q : List Int} (h : total sz (aDel c key) + size > room) : evict sz room size key c (k :: q) = evict sz room size key (aDel c k) q := by
  show (if total sz (aDel c key) + size > room then _ else _) = _
  rw [if_pos h]
theorem Core.more {sz : Int → Int} {room size key : Int} {c : List (Int × Int)} {q : List Int} (G : Core sz c q) (hs : size ≤ room) (h : total sz (aDel c key) + size > room) : ∃ k q', q = k :: q' := by
  cases q with
  | cons k q => exact ⟨k, q, rfl⟩
  | nil =>
    exfalso
    have e : c = [] := by
      cases c with
      | nil => rfl
      | cons p c =>
        have := (G.kq p.1).mp (by rw [aHas_iff]; exact .head _)
        cases this
    subst e
    simp [aDel, total] at h
    omega
theorem evict_core {sz : Int → Int} {room size key : Int} : ∀ {q : List Int} {c : List (Int × Int)}, Core sz c q → Core sz (evict sz room size key c q).1 (evict sz room size key c q).2
  | [], _, G => G
  | k :: q, c, G => by
    by_cases h : total sz (aDel c key) + size > room
    · rw [evict_go h]; exact evict_core G.pop
    · rw [evict_stop h]; exact G
theorem evict_room {sz : Int → Int} {room size key : Int} (hs : size ≤ room) : ∀ {q : List Int} {c : List (Int × Int)}, Core sz c q → total sz (aDel (evict sz room size key c q).1 key) + size ≤ room
  | [], c, G => by
    rcases Int.lt_or_le room (total sz (aDel c key) + size) with h | h
    · obtain ⟨_, _, e⟩ := G.more hs h; cases e
    · exact h
  | k :: q, c, G => by
    by_cases h : total sz (aDel c key) + size > room
    · rw [evict_go h]; exact evict_room hs G.pop
    · rw [evict_stop h]; exact Int.not_lt.mp h
/-- a set -/
noncomputable def putQ (again : Bool) (c : List (Int × Int)) (q : List Int) (key : Int) : List Int := if again = true ∨ aHas c key = false then qDel q key ++ [key] else q
theorem putQ_keys {c : List (Int × Int)} {key v : Int} : putQ false c (c.map (·.1)) key = (aPut c key v).map (·.1) := by
  unfold putQ
  rw [keys_put]
  cases h : aHas c key with
  | true => simp
  | false =>
    rw [if_pos (.inr rfl), if_neg (by simp), qDel_none]
    intro e
    rw [← aHas_iff, h] at e; cases e
theorem evict_keys {sz : Int → Int} {room size key : Int} : ∀ {q : List Int} {c : List (Int × Int)}, q.Nodup → q = c.map (·.1) → (evict sz room size key c q).2 = (evict sz room size key c q).1.map (·.1)
  | [], c, _, e => e
  | k :: q, c, hn, e => by
    by_cases h : total sz (aDel c key) + size > room
    · rw [evict_go h]
      refine evict_keys (List.nodup_cons.mp hn).2 ?_
      rw [keys_del, ← e, qDel_head hn]
    · rw [evict_stop h]; exact e
theorem Core.put {sz : Int → Int} {c : List (Int × Int)} {q : List Int} {again : Bool} {key v : Int} (G : Core sz c q) (hv : 0 ≤ sz v) (hk : 0 ≤ key ∧ key < 5) : Core sz (aPut c key v) (putQ again c q key) := by
  have hmem : ∀ j, j ∈ putQ again c q key ↔ (j ∈ q ∨ j = key) := by
    intro j
    unfold putQ
    split
    · rw [List.mem_append, List.mem_singleton, mem_qDel]
      by_cases e : j = key
      · simp [e]
      · simp [e]
    · rename_i h
      have h2 : aHas c key = true := by
        cases q : aHas c key with
        | true => rfl
        | false => exact absurd (.inr q) h
      have := (G.kq key).mp h2
      constructor
      · exact .inl
      · rintro (h | rfl)
        · exact h
        · exact this
  refine ⟨?_, ?_, fun j => ?_, fun p hp => ?_, fun p hp => ?_⟩
  · rw [keys_put]
    split
    · exact G.nk
    · rename_i h
      rw [List.nodup_append]
      refine ⟨G.nk, by simp, fun a ha b hb => ?_⟩
      rw [List.mem_singleton] at hb
      subst hb
      intro e; subst e
      exact h (aHas_iff.mpr ha)
  · unfold putQ
    split
    · rw [List.nodup_append]
      refine ⟨nodup_qDel G.nq, by simp, fun a ha b hb => ?_⟩
      rw [List.mem_singleton] at hb
      subst hb
      exact (mem_qDel.mp ha).2
    · exact G.nq
  · rw [hmem, aHas_iff, keys_put]
    split
    · rename_i h
      rw [← aHas_iff, G.kq]
      constructor
      · exact .inl
      · rintro (h2 | rfl)
        · exact h2
        · exact (G.kq _).mp h
    · rw [List.mem_append, List.mem_singleton, ← aHas_iff, G.kq]
  · rcases mem_of_aPut hp with h | h
    · exact G.pos p h
    · subst h; exact hv
  · rcases mem_of_aPut hp with h | h
    · exact G.key p h
    · subst h; exact hk
-- Fl
-- Wh
/-- a turn's end: the state is told anew, the frame stands as it stood -/
noncomputable def FixEnd {σ : Type} (h₀ : Heap) (L : Addr) (m : Str → Option Value) (s : Shared) (R : σ → Led → Prop) (μ : σ → Nat) (c : σ) (s₃ : Shared) : Prop :=
  ∃ h' tk c' nx', s₃ = { s with heap := h', toks := tk } ∧ Fr h₀ L h' m ∧ News h₀ L h' nx' ∧ R c' nx' ∧ μ c' < μ c
noncomputable def FixPost {σ : Type} (h₀ : Heap) (L : Addr) (m : Str → Option Value) (s : Shared) (R : σ → Led → Prop) (μ : σ → Nat) (Q : Flow → Shared → Prop) (c : σ) (f : Flow) (s₃ : Shared) : Prop :=
  match f with
  | .next => FixEnd h₀ L m s R μ c s₃
  | .cont => FixEnd h₀ L m s R μ c s₃
  | .brk => Q .next s₃
  | .ret v => Q (.ret v) s₃
theorem FixEnd.intro {σ : Type} {h₀ : Heap} {L : Addr} {m : Str → Option Value} {s : Shared} {R : σ → Led → Prop} {μ : σ → Nat} {c : σ} {h' : Heap} {tk : Nat} (c' : σ) (nx' : Led) (F : Fr h₀ L h' m) (N : News h₀ L h' nx') (hR : R c' nx') (hm : μ c' < μ c) :
    FixEnd h₀ L m s R μ c { s with heap := h', toks := tk } := ⟨h', tk, c', nx', rfl, F, N, hR, hm⟩
section
variable {prog : Program} {w : World} {A : Around} {E : Value → Shared → Prop} {Q : Flow → Shared → Prop} {s : Shared} {env : Env} {h₀ : Heap} {L : Addr}
theorem while_fix {σ : Type} {test : PySem.Expr} {body : List Stmt} {pos : Pos} {m : Str → Option Value} {nx₀ : Led} (R : σ → Led → Prop) (μ : σ → Nat) (c₀ : σ)
    (F : Fr h₀ L s.heap m) (N : News h₀ L s.heap nx₀) (hR : R c₀ nx₀)
    (turn : ∀ c nx h tk, Fr h₀ L h m → News h₀ L h nx → R c nx →
      wpAny (model prog w) A (isTrue test env (eval test env)) (fun b s₂ =>
        if b = true then wpAny (model prog w) A (execs body env) (FixPost h₀ L m s R μ Q c) E s₂ else Q .next s₂) E { s with heap := h, toks := tk })
    (hE : PassesOwn (model prog w) A env E := by passes_own) :
    wpAny (model prog w) A (exec (.While test body [] pos) env) Q E s := by
  refine While_inv2 (fun n m₁ nx => m₁ = m ∧ ∃ c, R c nx ∧ n = μ c) F N ⟨rfl, c₀, hR, rfl⟩ ?_ hE
  rintro n m₁ nx h tk F₁ N₁ ⟨rfl, c, hc, rfl⟩
  refine wpAny_mono (turn c nx h tk F₁ N₁ hc) (fun b s₂ p => ?_) fun _ _ x => x
  cases b with
  | false => simpa using p
  | true =>
    simp only [if_true] at p ⊢
    refine wpAny_mono p (fun f s₃ q => ?_) fun _ _ x => x
    cases f with
    | ret v => exact q
    | brk => exact q
    | next => refine Classical.byContradiction fun hn9 => ?_; obtain ⟨h', tk, c', nx', rfl, F', N', hc', hm⟩ := q; exact hn9 ⟨h', tk, _, nx', μ c', rfl, F', N', hm, rfl, c', hc', rfl⟩
    | cont => refine Classical.byContradiction fun hn9 => ?_; obtain ⟨h', tk, c', nx', rfl, F', N', hc', hm⟩ := q; exact hn9 ⟨h', tk, _, nx', μ c', rfl, F', N', hm, rfl, c', hc', rfl⟩
/-- as while_fix, and one name that holds an int is stored -/
noncomputable def OneEnd {σ : Type} (h₀ : Heap) (L : Addr) (m : Str → Option Value) (y : Str) (val : σ → Int) (s : Shared) (R : σ → Led → Prop) (μ : σ → Nat) (c : σ) (s₃ : Shared) : Prop :=
  ∃ h' tk c' nx' m', s₃ = { s with heap := h', toks := tk } ∧ Fr h₀ L h' m' ∧ (∃ t, m' y = some (.int (val c') t)) ∧ (∀ z, z ≠ y → m' z = m z) ∧ News h₀ L h' nx' ∧ R c' nx' ∧ μ c' < μ c
noncomputable def OnePost {σ : Type} (h₀ : Heap) (L : Addr) (m : Str → Option Value) (y : Str) (val : σ → Int) (s : Shared) (R : σ → Led → Prop) (μ : σ → Nat) (Q : Flow → Shared → Prop) (c : σ) (f : Flow) (s₃ : Shared) : Prop :=
  match f with
  | .next => OneEnd h₀ L m y val s R μ c s₃
  | .cont => OneEnd h₀ L m y val s R μ c s₃
  | .brk => Q .next s₃
  | .ret v => Q (.ret v) s₃
theorem OneEnd.intro {σ : Type} {h₀ : Heap} {L : Addr} {m m' : Str → Option Value} {y : Str} {val : σ → Int} {s : Shared} {R : σ → Led → Prop} {μ : σ → Nat} {c : σ} {h' : Heap} {tk : Nat} {t : Tok} (c' : σ) (nx' : Led) (F : Fr h₀ L h' m') (N : News h₀ L h' nx') (hR : R c' nx') (hm : μ c' < μ c)
    {i : Int} (hy : m' y = some (.int i t)) (hi : i = val c') (hz : ∀ z, z ≠ y → m' z = m z) :
    OneEnd h₀ L m y val s R μ c { s with heap := h', toks := tk } := ⟨h', tk, c', nx', m', rfl, F, ⟨t, hi ▸ hy⟩, hz, N, hR, hm⟩
theorem while_one {σ : Type} {test : PySem.Expr} {body : List Stmt} {pos : Pos} {m : Str → Option Value} {nx₀ : Led} (y : Str) (val : σ → Int) (R : σ → Led → Prop) (μ : σ → Nat) (c₀ : σ) {t₀ : Tok}
    (F : Fr h₀ L s.heap m) (N : News h₀ L s.heap nx₀) {i₀ : Int} (hy : m y = some (.int i₀ t₀)) (hi : i₀ = val c₀) (hR : R c₀ nx₀)
    (turn : ∀ c nx h tk t, Fr h₀ L h (fun z => if z = y then some (.int (val c) t) else m z) → News h₀ L h nx → R c nx →
      wpAny (model prog w) A (isTrue test env (eval test env)) (fun b s₂ =>
        if b = true then wpAny (model prog w) A (execs body env) (OnePost h₀ L m y val s R μ Q c) E s₂ else Q .next s₂) E { s with heap := h, toks := tk })
    (hE : PassesOwn (model prog w) A env E := by passes_own) :
    wpAny (model prog w) A (exec (.While test body [] pos) env) Q E s := by
  refine While_inv2 (fun n m₁ nx => ∃ c, R c nx ∧ n = μ c ∧ (∃ t, m₁ y = some (.int (val c) t)) ∧ ∀ z, z ≠ y → m₁ z = m z) F N ⟨c₀, hR, rfl, ⟨t₀, hi ▸ hy⟩, fun _ _ => rfl⟩ ?_ hE
  rintro n m₁ nx h tk F₁ N₁ hb9
  refine Classical.byContradiction fun hn9 => ?_
  obtain ⟨c, hc, rfl, ⟨t, h1⟩, h2⟩ := hb9
  refine hn9 ?_; clear hn9
  have e : m₁ = fun z => if z = y then some (.int (val c) t) else m z := by
    funext z
    by_cases hz : z = y
    · rw [if_pos hz, hz]; exact h1
    · rw [if_neg hz]; exact h2 z hz
  rw [e] at F₁
  refine wpAny_mono (turn c nx h tk t F₁ N₁ hc) (fun b s₂ p => ?_) fun _ _ x => x
  cases b with
  | false => simpa using p
  | true =>
    simp only [if_true] at p ⊢
    refine wpAny_mono p (fun f s₃ q => ?_) fun _ _ x => x
    cases f with
    | ret v => exact q
    | brk => exact q
    | next => refine Classical.byContradiction fun hn9 => ?_; obtain ⟨h', tk, c', nx', m', rfl, F', hy', hz', N', hc', hm⟩ := q; exact hn9 ⟨h', tk, _, nx', μ c', rfl, F', N', hm, c', hc', rfl, hy', hz'⟩
    | cont => refine Classical.byContradiction fun hn9 => ?_; obtain ⟨h', tk, c', nx', m', rfl, F', hy', hz', N', hc', hm⟩ := q; exact hn9 ⟨h', tk, _, nx', μ c', rfl, F', N', hm, c', hc', rfl, hy', hz'⟩
end
-- Xc
/-! exceptions that are raised while another is handled -/
theorem turn_back {base g g' : Heap} {l : List Env} {e : Addr} {cls : Value} {news : Led} {h : Heap} (T : KtsTurn (l.filterMap (·.frame)) g g') (R : RaisedSN base g' l e cls news h) : RaisedSN base g l e cls news h := by
  refine Classical.byContradiction fun hn9 => ?_
  obtain ⟨B, a0, hB, hBG, hl, hfl⟩ := R
  refine hn9 ?_; clear hn9
  refine ⟨B, a0, hB, fun b o q nm => hBG b o (T.other b o q nm) nm, fun q hq => ⟨(hl q hq).1, ?_, (hl q hq).2.2⟩, hfl⟩
  cases hg : g.get? q.1 with
  | none => rfl
  | some o =>
    obtain ⟨sl, hs⟩ := T.up hg
    have := (hl q hq).2.1
    rw [hs] at this; cases this
theorem sn_sub {base G : Heap} {l : List Env} {e : Addr} {cls : Value} {news news' : Led} {h : Heap} (R : RaisedSN base G l e cls news h) (k : ∀ q ∈ news', q ∈ news) : RaisedSN base G l e cls news' h := by
  refine Classical.byContradiction fun hn9 => ?_
  obtain ⟨B, a0, hB, hBG, hl, hfl⟩ := R
  refine hn9 ?_; clear hn9
  exact ⟨B, a0, hB, hBG, fun q hq => hl q (k q hq), hfl⟩
theorem turn_slots {fs : List Addr} {g g' : Heap} (T : KtsTurn fs g g') : g.UpToSlots g' := fun b o hb _ => T.up hb
/-- a new exception, with what `leaving` asks of its record -/
structure NewX (h h' : Heap) (e : Addr) (cls : String) : Prop where
  keeps : ∀ b o, h.get? b = some o → h'.get? b = some o
  new : h.get? e = none
  there : ∃ ob vs a0, h'.get? e = some ob ∧ ob.cls = .type cls ∧ ob.data = .fields vs ∧ vs[1]? = some .none ∧ vs[0]? = some a0
/-- a record that was raised outside all handlers -/
noncomputable def Bare (o : Obj) : Prop := ∃ us, o.data = .fields us ∧ us[2]? = some .none
section
variable {M : Model} {A : Around} {E : Value → Shared → Prop} {s' : Shared} {base g g₂ h : Heap} {outer : List Env} {L a e : Addr} {m : Str → Option Value} {name : Str} {scope : Scope} {cd : Value} {Q : Unit → Shared → Prop} {news : Led}
theorem leave_newX {cls : String} (K : Below A base outer g) (hx : NewX h s'.heap e cls) (F : Fr g L h m) (N : News g L h news)
    (hQ : ∀ h', RaisedSN base g outer e (.type cls) news h' → g.UpToSlots h' → Q () { s' with heap := h' }) (hk : scope.kind = .function := by rfl) :
    wpAny M (A.deeper (envOf name scope L a cd)) (leaving (envOf name scope L a cd) (.ref e)) Q E s' := by
  have K' := K.push (name := name) (a := a) (cd := cd) F hk
  have hin : ∀ env ∈ (envOf name scope L a cd :: outer), ∀ b, env.frame = some b → b ∈ (envOf name scope L a cd :: outer).filterMap (·.frame) := fun env he b hb => List.mem_filterMap.mpr ⟨env, he, hb⟩
  have st : base.StaysIn (hideAll h ((envOf name scope L a cd :: outer).filterMap (·.frame))) := fun b o q => hideAll_get _ (K'.stays b o q) fun hm => by
    rw [(K'.frames.mem hm).1] at q; cases q
  have sg : ∀ b o, g.get? b = some o → b ∉ outer.filterMap (·.frame) → (hideAll h ((envOf name scope L a cd :: outer).filterMap (·.frame))).get? b = some o := fun b o q nm => hideAll_get _ (F.keep b o q) fun hm => by
    rcases kts_mem hm with z | z
    · rw [z, kts_self F] at q
      cases q
    · exact nm z
  have hl : ∀ q ∈ news, (hideAll h ((envOf name scope L a cd :: outer).filterMap (·.frame))).get? q.1 = some q.2 ∧ g.get? q.1 = none ∧ base.get? q.1 = none := fun q hq => by
    refine ⟨hideAll_get _ (N q hq).1 fun hm => ?_, (N q hq).2.2, fresh_of_stays K.stays (N q hq).2.2⟩
    obtain ⟨env, he, hf⟩ := List.mem_filterMap.mp hm
    rcases List.mem_cons.mp he with rfl | he
    · exact (N q hq).2.1 (Option.some.inj hf).symm
    · obtain ⟨o, ho, _⟩ := (K.frames.mem (List.mem_filterMap.mpr ⟨env, he, hf⟩)).2
      rw [(N q hq).2.2] at ho; cases ho
  refine Classical.byContradiction fun hn9 => ?_
  obtain ⟨ob, vs, tp, he, hcls, hd, h1, h0⟩ := hx.there
  refine hn9 ?_; clear hn9
  have hen : (hideAll h ((envOf name scope L a cd :: outer).filterMap (·.frame))).get? e = none := by
    cases q : (hideAll h ((envOf name scope L a cd :: outer).filterMap (·.frame))).get? e with
    | none => rfl
    | some o => have := of_hideAll _ q; rw [hx.new] at this; cases this
  refine wpAny_leaving_firstW (a0 := tp) K'.stack ((funFrames_hide K'.frames hin).of_keeps fun b o hb _ => ⟨o, hx.keeps b o hb, rfl⟩) rfl he (fun b o hb => hx.keeps b o (of_hideAll _ hb)) hen hd h1 h0 fun h' hL => ?_
  refine Classical.byContradiction fun hn9 => ?_
  obtain ⟨k1, ⟨_, _, k2⟩, k3, k4⟩ := hL
  refine hn9 ?_; clear hn9
  exact hQ h' ⟨_, tp, st, sg, hl, k1, hen, k2, by rw [← hcls]; exact k3⟩ (((Heap.UpToSlots.of_keeps F.keep).trans (Heap.UpToSlots.of_keeps hx.keeps)).trans k4)
end
/-! the record of the handled exception, followed -/
noncomputable def Tr (base : Heap) (l : List Env) (e : Addr) (cls : Value) (us : Array Value) (fl : Value) (h : Heap) : Prop :=
  base.StaysIn h ∧ base.get? e = none ∧ h.FunFrames base l ∧ ∃ oe T oT ts, h.get? e = some oe ∧ oe.cls = cls ∧ oe.data = .fields us ∧ us[1]? = some (.ref T) ∧ base.get? T = none ∧ T ≠ e ∧ h.get? T = some oT ∧ oT.data = .fields ts ∧ ts[3]? = some fl
section
variable {M : Model} {A : Around} {E : Value → Shared → Prop} {s : Shared} {base : Heap} {env : Env} {outer l : List Env} {L e : Addr} {oe : Obj} {vs us : Array Value} {cls fl : Value} {Q : Unit → Shared → Prop}
theorem tr_note (hfr : A.frames = some (env :: outer)) (hl : s.heap.FunFrames base (env :: outer)) (hf : env.frame = some L) (he : s.heap.get? e = some oe) (hkb : base.StaysIn s.heap) (hen : base.get? e = none) (hd : oe.data = .fields vs) (h1 : vs[1]? = some .none)
    (h : ∀ h' T, Tr base (env :: outer) e oe.cls (vs.setIfInBounds 1 (.ref T)) (rawInt L) h' → s.heap.UpToSlots h' → Q () { s with heap := h' }) : wpAny M A (noteFrame (.ref e) env) Q E s := by
  have hsz : 1 < vs.size := (Array.getElem?_eq_some_iff.mp h1).1
  have hene : e ∉ (env :: outer).filterMap (·.frame) := fun hm => by
    obtain ⟨_, o, ho, hnf⟩ := hl.mem hm
    rw [he] at ho; injection ho with ho; subst ho; exact hnf vs hd
  unfold noteFrame
  simp only [hf]
  refine wpAny_bind (wpAny_field he hd h1 ?_)
  rw [if_neg (by decide)]
  refine wpAny_bind (wpAny_frameOf_fun hfr hl hf fun h₁ hs₁ => ?_)
  refine wpAny_bind (wpAny_entryPlaceOf fun pl hpl => ?_)
  unfold EntryCells.newEntry newFields
  refine wpAny_bind (wpAny_newObj_type ?_ (hpl.sizeOk5 _ _ _ _ _))
  have he₁ : h₁.get? e = some oe := (hs₁.2.1 e hene).trans he
  have kb₁ : base.StaysIn h₁ := fun b o hbo => (hs₁.2.1 b fun hm => by rw [(hl.mem hm).1] at hbo; cases hbo).trans (hkb b o hbo)
  have he₂ := Heap.get?_push_of_some (h := h₁) { cls := .type "traceback", dict := none, data := .fields ([Value.none, .ref L, .none, rawInt L, .none] ++ (if pl.isEmpty then List.replicate 6 Value.none else pl)).toArray } he₁
  refine wpAny_setField he₂ hd hsz (h _ h₁.objs.size ?_ ?_)
  · have hTe : h₁.objs.size ≠ e := Nat.ne_of_gt (Heap.lt_size he₁)
    have hd₃ := Obj.data_mapFields hd (·.setIfInBounds 1 (Value.ref h₁.objs.size))
    have he₃ := Heap.get?_update_self (Obj.mapFields (·.setIfInBounds 1 (Value.ref h₁.objs.size))) he₂ (Obj.isFreed_of_fields hd₃)
    have hT₃ := (Heap.get?_update_other (h₁.push { cls := .type "traceback", dict := none, data := .fields ([Value.none, .ref L, .none, rawInt L, .none] ++ (if pl.isEmpty then List.replicate 6 Value.none else pl)).toArray })
      (Obj.mapFields (·.setIfInBounds 1 (Value.ref h₁.objs.size))) (Ne.symm hTe)).trans (Heap.get?_push_size h₁ rfl)
    have keep : ∀ b o, b ≠ e → h₁.get? b = some o →
        ((h₁.push { cls := .type "traceback", dict := none, data := .fields ([Value.none, .ref L, .none, rawInt L, .none] ++ (if pl.isEmpty then List.replicate 6 Value.none else pl)).toArray }).update e (Obj.mapFields (·.setIfInBounds 1 (Value.ref h₁.objs.size)))).get? b = some o :=
      fun b o hbe hb => by
        rw [Heap.get?_update_other _ _ (Ne.symm hbe)]
        exact Heap.get?_push_of_some _ hb
    have noRecord : ∀ b o, s.heap.get? b = some o → (∀ vs, o.data ≠ .fields vs) → b ≠ e := fun b o hb hnf q => by
      rw [q, he] at hb; injection hb with hb; subst hb; exact hnf vs hd
    refine ⟨fun b o hbo => keep b o (fun q => by rw [q, hen] at hbo; cases hbo) (kb₁ b o hbo), hen, hl.of_keeps fun b o hb hnf => ?_, ?_⟩
    · obtain ⟨sl, hs⟩ := hs₁.2.2 b o hb
      exact ⟨_, keep b _ (noRecord b o hb hnf) hs, rfl⟩
    · exact ⟨_, h₁.objs.size, _, _, he₃, Obj.cls_mapFields _ _, hd₃, by simp [hsz], kb₁.fresh, hTe, hT₃, rfl, by first | (simp; done) | (rcases hpl with rfl | ⟨_, _, _, _, _, _, _, rfl⟩ <;> simp)⟩
  · intro b o hb hnf
    have noRecord : b ≠ e := fun q => by
      rw [q, he] at hb; injection hb with hb; subst hb; exact hnf vs hd
    obtain ⟨sl, hs⟩ := hs₁.2.2 b o hb
    refine ⟨sl, ?_⟩
    rw [Heap.get?_update_other _ _ (Ne.symm noRecord)]
    exact Heap.get?_push_of_some _ hs
theorem tr_land (hx : Tr base l e cls us fl s.heap) (h : ∀ h', Tr base l e cls us .none h' → s.heap.UpToSlots h' → Q () { s with heap := h' }) : wpAny M A (setFlight (.ref e) none) Q E s := by
  refine Classical.byContradiction fun hn9 => ?_
  obtain ⟨hkb, hen, hl, oe, T, oT, ts, he, hcls, hd, h1, hnT, hTe, hT, hdT, h3⟩ := hx
  refine hn9 ?_; clear hn9
  have hsz3 : 3 < ts.size := (Array.getElem?_eq_some_iff.mp h3).1
  have other : ∀ b, b ≠ T → (s.heap.update T (Obj.mapFields (·.setIfInBounds 3 ((none : Option Addr).elim Value.none fun f => rawInt f)))).get? b = s.heap.get? b :=
    fun b hb => Heap.get?_update_other _ _ (Ne.symm hb)
  have noRecord : ∀ b o, s.heap.get? b = some o → (∀ vs, o.data ≠ .fields vs) → b ≠ T := fun b o hb hnf q => by
    rw [q, hT] at hb; injection hb with hb; subst hb; exact hnf ts hdT
  unfold setFlight
  refine wpAny_bind (wpAny_field he hd h1 ?_)
  rw [if_pos (show (Value.ref T != Value.none) = true from by simp)]
  refine wpAny_setField hT hdT hsz3 (h _ ⟨fun b o hbo => (other b fun q => by rw [q, hnT] at hbo; cases hbo).trans (hkb b o hbo), hen, hl.of_keeps fun b o hb hnf => ⟨o, (other b (noRecord b o hb hnf)).trans hb, rfl⟩, ?_⟩ fun b o hb hnf => ⟨o.slots, (other b (noRecord b o hb hnf)).trans hb⟩)
  exact ⟨oe, T, _, _, (other e (Ne.symm hTe)).trans he, hcls, hd, h1, hnT, hTe, Heap.get?_update_self _ hT (Obj.isFreed_of_fields (Obj.data_mapFields hdT _)), Obj.data_mapFields hdT _, by simp [hsz3]⟩
end
section
variable {prog : Program} {w : World} {A₀ : Around} {E : Value → Shared → Prop} {s' : Shared} {base g g₀ h : Heap} {outer : List Env} {L a e : Addr} {m : Str → Option Value} {name : Str} {scope : Scope} {cd : Value}
  {b₀ : Stmt} {suite : List Stmt} {pos np : Pos} {rest : List ExceptHandler} {Q : Flow → Shared → Prop} {news : Led} {KF : Frag}
  {p : Program} {loose : List Str} {mean : ExcName → Option Value} {mg mb : Str → Option Value} {x : Str} {X T' : String}
/-- except T': of what a builtin raised in this very frame; the record stays in the ledger -/
theorem caught_X (hx : Heap.NewExc h s'.heap e X) (F : Fr g L h m) (N : News g L h news) (K : Below A₀ base outer g) (XB : KF.In base) (TB : Top p loose mean mg mb base)
    (D : KtsDicts (outer.filterMap (·.frame)) g) (T0 : KtsTurn (outer.filterMap (·.frame)) g₀ g)
    (ex : nsIn KF mainGlobals x = some none) (hv : bootBuiltins x = some (.type T')) (hn' : x ≠ "__name__")
    (hexc : isSubtype (.type T') (.type "BaseException") = pure true) (hnt : isSubtype (.type ((Manifest.find? T').elim "type" fun y => y.metatype)) (.type "tuple") = pure false) (hsub : isSubtype (.type X) (.type T') = pure true)
    (k : ∀ h' g' oe, KtsTurn (outer.filterMap (·.frame)) g₀ g' → Fr g' L h' m → News g' L h' ((e, oe) :: news) → Bare oe → Below A₀ base outer g' → KF.In g' → Top p loose mean mg mb g' → KtsDicts (outer.filterMap (·.frame)) g' →
      wpAny (model prog w) ((A₀.deeper (envOf name scope L a cd)).mark (some (.ref e))) (execs (b₀ :: suite) (envOf name scope L a cd)) Q E { s' with heap := h' })
    (hk : scope.kind = .function := by rfl) (hxk : (envOf name scope L a cd).kindOf x = some .globalImplicit := by rfl) (hd : (x == ("__debug__" : Str)) = false := by decide)
    (hE : PassesOwnAt (model prog w) ((A₀.deeper (envOf name scope L a cd)).mark (some (.ref e))) (A₀.deeper (envOf name scope L a cd)) (envOf name scope L a cd) E := by passes_own) :
    wpAny (model prog w) (A₀.deeper (envOf name scope L a cd)) (noteFrame (.ref e) (envOf name scope L a cd))
      (fun _ s₂ => wpAny (model prog w) (A₀.deeper (envOf name scope L a cd)) (setFlight (.ref e) none) (fun _ s₃ =>
        wpAny (model prog w) (A₀.deeper (envOf name scope L a cd)) (handleBy (.ref e) (envOf name scope L a cd) (.ExceptHandler (some (.Name x np)) none (b₀ :: suite) pos :: rest)) Q E s₃) E s₂) E s' := by
  have K' := K.push (name := name) (a := a) (cd := cd) F hk
  have hin : ∀ env ∈ (envOf name scope L a cd :: outer), ∀ b, env.frame = some b → b ∈ (envOf name scope L a cd :: outer).filterMap (·.frame) := fun env he b hb => List.mem_filterMap.mpr ⟨env, he, hb⟩
  let B := hideAll h ((envOf name scope L a cd :: outer).filterMap (·.frame))
  have hB : base.StaysIn B := fun b o q => hideAll_get _ (K'.stays b o q) fun hm => by
    rw [(K'.frames.mem hm).1] at q; cases q
  have hBG : ∀ b o, h.get? b = some o → b ∉ (envOf name scope L a cd :: outer).filterMap (·.frame) → B.get? b = some o := fun b o q nm => hideAll_get _ q nm
  have hl : ∀ q ∈ news, B.get? q.1 = some q.2 ∧ g.get? q.1 = none := fun q hq => by
    refine ⟨hideAll_get _ (N q hq).1 fun hm => ?_, (N q hq).2.2⟩
    obtain ⟨env, he, hf⟩ := List.mem_filterMap.mp hm
    rcases List.mem_cons.mp he with rfl | he
    · exact (N q hq).2.1 (Option.some.inj hf).symm
    · obtain ⟨o, ho, _⟩ := (K.frames.mem (List.mem_filterMap.mpr ⟨env, he, hf⟩)).2
      rw [(N q hq).2.2] at ho; cases ho
  refine Classical.byContradiction fun hn9 => ?_
  obtain ⟨ob, tp, he, hcls, hdt⟩ := hx.there
  refine hn9 ?_; clear hn9
  have hen : B.get? e = none := by
    cases q : B.get? e with
    | none => rfl
    | some o => have := of_hideAll _ q; rw [hx.new] at this; cases this
  have hge : g.get? e = none := by
    cases q : g.get? e with
    | none => rfl
    | some o => have := F.keep _ _ q; rw [hx.new] at this; cases this
  have hLe : e ≠ L := fun q => by
    refine Classical.byContradiction fun hn9 => ?_
    obtain ⟨o, _, _, ho, _⟩ := F.ns
    refine hn9 ?_; clear hn9
    rw [← q, hx.new] at ho; cases ho
  refine tr_note K'.stack ((funFrames_hide K'.frames hin).of_keeps fun b o hb _ => ⟨o, hx.keeps b o hb, rfl⟩) rfl he (fun b o hb => hx.keeps b o (of_hideAll _ hb)) hen hdt rfl fun h₄ Ta t₄ sm₄ => ?_
  refine tr_land t₄ fun h₅ t₅ sm₅ => ?_
  have hsm₅ : h.UpToSlots h₅ := ((Heap.UpToSlots.of_keeps hx.keeps).trans sm₄).trans sm₅
  obtain ⟨g₅, T₅, F₅, K₅⟩ := kts_ground (G := h) (B := B) K F hBG t₅.1 hsm₅
  have X₅ : KF.In g₅ := XB.keeps K₅.stays
  have P₅ : TopRead p loose mg mb g₅ := topRead_of (TB.keeps K₅.stays)
  have hob : ∃ ob, h₅.get? e = some ob ∧ ob.cls = .type X := by
    refine Classical.byContradiction fun hn9 => ?_
    obtain ⟨_, _, _, oe, _, _, _, hq, hc, _⟩ := t₅
    refine hn9 ?_; clear hn9
    exact ⟨oe, hq, hc.trans hcls⟩
  obtain ⟨ob₅, hob, hobc⟩ := hob
  refine wpAny_handleBy_builtin (X := X) (T := T') (b := true) hexc hnt hsub (name_B F₅ X₅ P₅ ex hv hn' ⟨rfl, ⟨ob₅, hob, hobc⟩, ?_⟩ hk hxk hd)
  refine tr_land t₅ fun h₆ t₆ sm₆ => ?_
  obtain ⟨g₆, T₆, F₆, K₆⟩ := kts_ground (G := h) (B := B) K F hBG t₆.1 (hsm₅.trans sm₆)
  refine Classical.byContradiction fun hn9 => ?_
  obtain ⟨k1, _, _, oe, _, _, _, hoe, _, hod, _⟩ := t₆
  refine hn9 ?_; clear hn9
  have N₆ : News g₆ L h₆ ((e, oe) :: news) := fun q hq => by
    rcases List.mem_cons.mp hq with rfl | hq
    · exact ⟨hoe, hLe, T₆.none_ _ hge⟩
    · exact ⟨k1 _ _ (hl q hq).1, (N q hq).2.1, T₆.none_ _ (hl q hq).2⟩
  exact wpAny_passesOwnAt hE (k h₆ g₆ oe (T0.trans T₆) F₆ N₆ ⟨_, hod, by simp⟩ K₆ (XB.keeps K₆.stays) (TB.keeps K₆.stays) (D.turn T₆))
end
-- Xd
theorem entry_unchain : entryFor table "proto.unchain" = some Builtin.«proto.unchain» := entryFor_of_tree (by kernel_rfl)
noncomputable abbrev link (b : Addr) : Obj → Obj := Obj.mapFields (·.setIfInBounds 2 (.ref b))
noncomputable abbrev cut3 : Obj → Obj := Obj.mapFields (·.setIfInBounds 3 .none)
noncomputable abbrev cut4 : Obj → Obj := Obj.mapFields (·.setIfInBounds 4 (.bool true))
section
variable {prog : Program} {w : World} {A : Around} {E : Value → Shared → Prop} {s : Shared} {env : Env} {a b : Addr} {ob oe : Obj} {vs us : Array Value}
theorem raise_core {Q : Flow → Shared → Prop} (hh : A.handled = some (.ref b)) (hab : a ≠ b) (ha : s.heap.get? a = some ob) (hd : ob.data = .fields vs) (h1 : vs[1]? = some .none) (h2 : 2 < vs.size)
    (hb : s.heap.get? b = some oe) (hdb : oe.data = .fields us) (hu : us[2]? = some .none) (hE : E (.ref a) { s with heap := s.heap.update a (link b) }) :
    wpAny (model prog w) A (do setFlight (.ref a) none; raiseNew (.ref a) : Sem Flow) Q E s := by
  unfold setFlight raiseNew
  refine wpAny_bind (wpAny_bind (wpAny_field ha hd h1 ?_))
  rw [if_neg (by decide)]
  refine wpAny_pure (wpAny_bind (wpAny_handled ?_))
  rw [hh]
  dsimp only
  rw [if_pos (show (Value.ref b != Value.ref a) = true from by simp; exact fun e => hab e.symm)]
  refine wpAny_bind (wpAny_holding (wpAny_runValue (codeAny_builtin entry_unchain ?_)))
  unfold Builtin.«proto.unchain»
  dsimp only
  refine wpAny_bind (wpAny_field hb hdb hu ?_)
  rw [if_pos (show (Value.none == Value.none) = true from rfl)]
  refine wpAny_bind (wpAny_pure ?_)
  refine wpAny_pure ?_
  show wpAny _ A (do setField (.ref a) 2 (.ref b); throw (.ref a)) Q E s
  exact wpAny_bind (wpAny_setField (a := a) (i := 2) ha hd h2 (wpAny_throw hE))
/-- what a raise inside a handler comes to -/
noncomputable def ChainTo (E : Value → Shared → Prop) (b : Addr) (v : Value) (s₁ : Shared) : Prop :=
  ∃ a ob vs oe us, v = .ref a ∧ a ≠ b ∧ s₁.heap.get? a = some ob ∧ ob.data = .fields vs ∧ vs[1]? = some .none ∧ 2 < vs.size ∧ s₁.heap.get? b = some oe ∧ oe.data = .fields us ∧ us[2]? = some .none ∧ E (.ref a) { s₁ with heap := s₁.heap.update a (link b) }
theorem Raise_chain {e : PySem.Expr} {pos : Pos} {Q : Flow → Shared → Prop} (hh : A.handled = some (.ref b))
    (h : wpAny (model prog w) A (eval e env) (Raisable (ChainTo E b)) E s) : wpAny (model prog w) A (exec (.Raise (some e) none pos) env) Q E s := by
  show wpAny _ A (do standAt pos; raiseStmt env (some (do let v ← eval e env; standAt pos; pure v)) none) Q E s
  refine wpAny_bind (wpAny_standAt ?_)
  unfold raiseStmt
  dsimp only
  refine wpAny_bind (wpAny_bind (wpAny_mono h (fun v s₁ h₁ => wpAny_bind (wpAny_standAt (wpAny_pure ?_))) fun _ _ x => x))
  refine Classical.byContradiction fun hn9 => ?_
  obtain ⟨a, ob, vs, X, N, I, hc, rfl, ha, hcls, hd, h1, a', ob', vs', oe, us, hv, hab, ha', hd', h1', h2, hb, hdb, hu, hE⟩ := h₁
  refine hn9 ?_; clear hn9
  cases hv
  have hT : s₁.TypeIs (.ref a) X := ⟨ob, ha, hcls⟩
  have hnt : ∀ {Q' : Bool → Shared → Prop}, Q' false s₁ → wpAny (model prog w) A (isType (.ref a)) Q' E s₁ := by
    intro Q' hq
    simp only [isType, loadHead]
    refine wpAny_bind (wpAny_loadPart ha ?_)
    rw [hd]; exact wpAny_pure hq
  refine wpAny_bind (wpAny_pure ?_)
  dsimp only
  refine wpAny_bind (wpAny_holding ?_)
  unfold excFromValue isExcClass
  refine wpAny_bind (wpAny_bind (hnt ?_))
  simp only [Bool.false_eq_true, if_false]
  refine wpAny_pure ?_
  simp only [Bool.false_eq_true, if_false]
  refine wpAny_bind (wpAny_isInstance hT hc.base ?_)
  simp only [if_true]
  refine wpAny_pure ?_
  refine wpAny_bind (hnt ?_)
  simp only [Bool.false_eq_true, if_false]
  unfold raisedInstance
  refine wpAny_bind (wpAny_bind (wpAny_typeOf hT (wpAny_bind (m := typeOf (.type X)) (wpAny_pure ?_))))
  rw [if_pos hc.metaType]
  refine wpAny_pure ?_
  exact raise_core hh hab ha' hd' h1' h2 hb hdb hu hE
/-- raise .. from None, inside a handler -/
noncomputable def FromTo (E : Value → Shared → Prop) (b : Addr) (v : Value) (s₁ : Shared) : Prop :=
  ∃ a ob vs oe us, v = .ref a ∧ a ≠ b ∧ s₁.heap.get? a = some ob ∧ ob.data = .fields vs ∧ vs[1]? = some .none ∧ 4 < vs.size ∧ s₁.heap.get? b = some oe ∧ oe.data = .fields us ∧ us[2]? = some .none ∧ E (.ref a) { s₁ with heap := ((s₁.heap.update a cut3).update a cut4).update a (link b) }
theorem cut_get {h : Heap} {f : Array Value → Array Value} (ha : h.get? a = some ob) (hd : ob.data = .fields vs) : (h.update a (Obj.mapFields f)).get? a = some (Obj.mapFields f ob) :=
  Heap.get?_update_self _ ha (Obj.isFreed_of_fields (Obj.data_mapFields hd f))
theorem Raise_from {e : PySem.Expr} {n : Nat} {cp pos : Pos} {Q : Flow → Shared → Prop} (hh : A.handled = some (.ref b))
    (h : wpAny (model prog w) A (eval e env) (Raisable (FromTo E b)) E s) : wpAny (model prog w) A (exec (.Raise (some e) (some (.Constant .none n cp)) pos) env) Q E s := by
  show wpAny _ A (do standAt pos; raiseStmt env (some (do let v ← eval e env; standAt pos; pure v)) (some (do let v ← eval (.Constant .none n cp) env; standAt pos; pure v))) Q E s
  refine wpAny_bind (wpAny_standAt ?_)
  unfold raiseStmt
  dsimp only
  refine wpAny_bind (wpAny_bind (wpAny_mono h (fun v s₁ h₁ => wpAny_bind (wpAny_standAt (wpAny_pure ?_))) fun _ _ x => x))
  refine Classical.byContradiction fun hn9 => ?_
  obtain ⟨a, ob, vs, X, N, I, hc, rfl, ha, hcls, hd, h1, a', ob', vs', oe, us, hv, hab, ha', hd', h1', h2, hb, hdb, hu, hE⟩ := h₁
  refine hn9 ?_; clear hn9
  cases hv
  rw [ha] at ha'
  cases ha'
  rw [hd] at hd'
  cases hd'
  have hT : s₁.TypeIs (.ref a) X := ⟨ob, ha, hcls⟩
  refine wpAny_bind (wpAny_holding (wpAny_bind (wpAny_Constant_none (wpAny_bind (wpAny_standAt (wpAny_pure ?_))))))
  refine wpAny_bind (wpAny_pure ?_)
  have hnt : ∀ {Q' : Bool → Shared → Prop}, Q' false s₁ → wpAny (model prog w) A (isType (.ref a)) Q' E s₁ := by
    intro Q' hq
    simp only [isType, loadHead]
    refine wpAny_bind (wpAny_loadPart ha ?_)
    rw [hd]; exact wpAny_pure hq
  refine wpAny_bind (wpAny_holding ?_)
  unfold excFromValue isExcClass
  refine wpAny_bind (wpAny_bind (hnt ?_))
  simp only [Bool.false_eq_true, if_false]
  refine wpAny_pure ?_
  simp only [Bool.false_eq_true, if_false]
  refine wpAny_bind (wpAny_isInstance hT hc.base ?_)
  simp only [if_true]
  refine wpAny_pure ?_
  have e3 := cut_get (f := (·.setIfInBounds 3 .none)) ha hd
  have d3 := Obj.data_mapFields hd (·.setIfInBounds 3 Value.none)
  have e4 := cut_get (f := (·.setIfInBounds 4 (.bool true))) e3 d3
  have d4 := Obj.data_mapFields d3 (·.setIfInBounds 4 (Value.bool true))
  have hba : b ≠ a := fun e => hab e.symm
  have hb4 : ((s₁.heap.update a cut3).update a cut4).get? b = some oe := by
    rw [Heap.get?_update_other _ _ hab, Heap.get?_update_other _ _ hab]; exact hb
  have hT4 : ({ s₁ with heap := (s₁.heap.update a cut3).update a cut4 } : Shared).TypeIs (.ref a) X := ⟨_, e4, by rw [Obj.cls_mapFields, Obj.cls_mapFields]; exact hcls⟩
  rw [if_pos (show (Value.none == Value.none) = true from rfl)]
  refine wpAny_bind (wpAny_pure ?_)
  refine wpAny_bind (wpAny_setField (a := a) (i := 3) ha hd (by omega) ?_)
  refine wpAny_bind (wpAny_setField (s := { s₁ with heap := s₁.heap.update a cut3 }) (a := a) (i := 4) e3 d3 (by rw [Array.size_setIfInBounds]; exact h2) ?_)
  have hnt4 : ∀ {Q' : Bool → Shared → Prop}, Q' false { s₁ with heap := (s₁.heap.update a cut3).update a cut4 } → wpAny (model prog w) A (isType (.ref a)) Q' E { s₁ with heap := (s₁.heap.update a cut3).update a cut4 } := by
    intro Q' hq
    simp only [isType, loadHead]
    refine wpAny_bind (wpAny_loadPart e4 ?_)
    rw [d4]; exact wpAny_pure hq
  refine wpAny_bind (hnt4 ?_)
  simp only [Bool.false_eq_true, if_false]
  unfold raisedInstance
  refine wpAny_bind (wpAny_bind (wpAny_typeOf hT4 (wpAny_bind (m := typeOf (.type X)) (wpAny_pure ?_))))
  rw [if_pos hc.metaType]
  refine wpAny_pure ?_
  exact raise_core hh hab e4 d4 (by rw [Array.getElem?_setIfInBounds_ne (by decide), Array.getElem?_setIfInBounds_ne (by decide)]; exact h1) (by rw [Array.size_setIfInBounds, Array.size_setIfInBounds]; omega) hb4 hdb hu hE
theorem Raise_classFrom {X N I : String} {x : Str} {n : Nat} {np cp pos : Pos} {Q : Flow → Shared → Prop} (hh : A.handled = some (.ref b)) (hc : ExcClass X N I)
    (hself : isSubtype (.type X) (.type X) = pure true)
    (hx : wpAny (model prog w) A (eval (.Name x np) env) (fun v s₁ => v = .type X ∧ s₁ = s) E s)
    (h : ∀ h' e, Heap.NewExc s.heap h' e X → FromTo E b (.ref e) { s with heap := h' }) :
    wpAny (model prog w) A (exec (.Raise (some (.Name x np)) (some (.Constant .none n cp)) pos) env) Q E s := by
  show wpAny _ A (do standAt pos; raiseStmt env (some (do let v ← eval (.Name x np) env; standAt pos; pure v)) (some (do let v ← eval (.Constant .none n cp) env; standAt pos; pure v))) Q E s
  refine wpAny_bind (wpAny_standAt ?_)
  unfold raiseStmt
  dsimp only
  refine wpAny_bind (wpAny_bind (wpAny_mono hx (fun v s₁ h₁ => wpAny_bind (wpAny_standAt (wpAny_pure ?_))) fun _ _ e => e))
  obtain ⟨rfl, hs₁⟩ := h₁
  subst s₁
  refine wpAny_bind (wpAny_holding (wpAny_bind (wpAny_Constant_none (wpAny_bind (wpAny_standAt (wpAny_pure ?_))))))
  refine wpAny_bind (wpAny_pure ?_)
  refine wpAny_bind (wpAny_holding ?_)
  unfold excFromValue isExcClass
  refine wpAny_bind (wpAny_bind (wpAny_pure ?_))
  simp only [if_true]
  rw [hc.base]
  refine wpAny_pure ?_
  simp only [if_true]
  refine wpAny_bind (call_exc hc fun h' e hn => ?_)
  refine Classical.byContradiction fun hn9 => ?_
  obtain ⟨a', ob', vs', oe, us, hv, hab, ha', hd', h1', h2, hb, hdb, hu, hE⟩ := h h' e hn
  refine hn9 ?_; clear hn9
  cases hv
  refine Classical.byContradiction fun hn9 => ?_
  obtain ⟨ob, t, he, hcls, hd⟩ := hn.there
  refine hn9 ?_; clear hn9
  have hob : some ob = some ob' := he.symm.trans ha'
  have hobe := Option.some.inj hob
  subst hobe
  have hT : ({ s with heap := h' } : Shared).TypeIs (.ref e) X := ⟨ob, he, hcls⟩
  refine wpAny_bind (wpAny_isInstance hT hc.base ?_)
  simp only [Bool.not_true, Bool.false_eq_true, if_false]
  refine wpAny_pure ?_
  have e3 := cut_get (f := (·.setIfInBounds 3 .none)) ha' hd'
  have d3 := Obj.data_mapFields hd' (·.setIfInBounds 3 Value.none)
  have e4 := cut_get (f := (·.setIfInBounds 4 (.bool true))) e3 d3
  have d4 := Obj.data_mapFields d3 (·.setIfInBounds 4 (Value.bool true))
  have hb4 : ((h'.update e cut3).update e cut4).get? b = some oe := by
    rw [Heap.get?_update_other _ _ hab, Heap.get?_update_other _ _ hab]; exact hb
  have hT4 : ({ s with heap := (h'.update e cut3).update e cut4 } : Shared).TypeIs (.ref e) X := ⟨_, e4, by rw [Obj.cls_mapFields, Obj.cls_mapFields]; exact hcls⟩
  rw [if_pos (show (Value.none == Value.none) = true from rfl)]
  refine wpAny_bind (wpAny_pure ?_)
  refine wpAny_bind (wpAny_setField (a := e) (i := 3) ha' hd' (by omega) ?_)
  refine wpAny_bind (wpAny_setField (s := { s with heap := h'.update e cut3 }) (a := e) (i := 4) e3 d3 (by rw [Array.size_setIfInBounds]; exact h2) ?_)
  refine wpAny_bind (m := isType (.type X)) (wpAny_pure ?_)
  simp only [if_true]
  refine wpAny_bind (wpAny_holding ?_)
  unfold raisedFor
  simp only [Bool.false_eq_true, if_false]
  refine wpAny_bind (wpAny_typeOf hT4 ?_)
  refine wpAny_bind (call_issubclass (issubclass_self hc hself) ?_)
  dsimp only [wants]
  refine wpAny_bind (wpAny_truthy_bool ?_)
  simp only [if_true]
  refine wpAny_pure ?_
  exact raise_core hh hab e4 d4 (by rw [Array.getElem?_setIfInBounds_ne (by decide), Array.getElem?_setIfInBounds_ne (by decide)]; exact h1') (by rw [Array.size_setIfInBounds, Array.size_setIfInBounds]; omega) hb4 hdb hu hE
theorem update_keeps {h h' : Heap} {f : Obj → Obj} (k : ∀ c o, h.get? c = some o → h'.get? c = some o) (hn : h.get? a = none) : ∀ c o, h.get? c = some o → (h'.update a f).get? c = some o := fun c o hc => by
  rw [Heap.get?_update_other _ _ (fun e => by rw [e, hc] at hn; cases hn)]
  exact k c o hc
theorem ChainTo.intro {X : String} {h : Heap} (hx : Heap.NewExc h s.heap a X) (hb : h.get? b = some oe) (hr : Bare oe) (k : ∀ h', NewX h h' a X → E (.ref a) { s with heap := h' }) : ChainTo E b (.ref a) s := by
  obtain ⟨us, hdb, hu⟩ := hr
  refine Classical.byContradiction fun hn9 => ?_
  obtain ⟨ob, t, he, hcls, hd⟩ := hx.there
  refine hn9 ?_; clear hn9
  refine ⟨a, ob, _, oe, us, rfl, (fun e => by rw [e] at hx; rw [hx.new] at hb; cases hb), he, hd, rfl, (by show 2 < 6; decide), hx.keeps _ _ hb, hdb, hu, k _ ⟨update_keeps hx.keeps hx.new, hx.new, ?_⟩⟩
  exact ⟨_, _, t, cut_get he hd, by rw [Obj.cls_mapFields]; exact hcls, Obj.data_mapFields hd _, by simp, by simp⟩
theorem FromTo.intro {X : String} {h : Heap} (hx : Heap.NewExc h s.heap a X) (hb : h.get? b = some oe) (hr : Bare oe) (k : ∀ h', NewX h h' a X → E (.ref a) { s with heap := h' }) : FromTo E b (.ref a) s := by
  obtain ⟨us, hdb, hu⟩ := hr
  refine Classical.byContradiction fun hn9 => ?_
  obtain ⟨ob, t, he, hcls, hd⟩ := hx.there
  refine hn9 ?_; clear hn9
  refine ⟨a, ob, _, oe, us, rfl, (fun e => by rw [e] at hx; rw [hx.new] at hb; cases hb), he, hd, rfl, (by show 4 < 6; decide), hx.keeps _ _ hb, hdb, hu, k _ ⟨update_keeps (update_keeps (update_keeps hx.keeps hx.new) hx.new) hx.new, hx.new, ?_⟩⟩
  have e3 := cut_get (f := (·.setIfInBounds 3 .none)) he hd
  have d3 := Obj.data_mapFields hd (·.setIfInBounds 3 Value.none)
  have e4 := cut_get (f := (·.setIfInBounds 4 (.bool true))) e3 d3
  have d4 := Obj.data_mapFields d3 (·.setIfInBounds 4 (Value.bool true))
  exact ⟨_, _, t, cut_get e4 d4, by rw [Obj.cls_mapFields, Obj.cls_mapFields, Obj.cls_mapFields]; exact hcls, Obj.data_mapFields d4 _, by simp, by simp⟩
end
theorem depth_mark {A : Around} {x : Option Value} (h : A.depth < recursionLimit) : (A.mark x).depth < recursionLimit := h
theorem call_exc_raise2 {prog : Program} {w : World} {A : Around} {E E' : Value → Shared → Prop} {s : Shared} {X N I : String} (hc : ExcClass X N I) {rest : List Value} (hrest : rest.length ≤ sizeLine)
    (h : ∀ h' e, Heap.NewExc s.heap h' e X → E' (.ref e) { s with heap := h' }) : wpAny (model prog w) A (call (.type X) rest) (Raisable E') E s :=
  call_exc (hrest := hrest) hc fun h' e hx => by
    refine Classical.byContradiction fun hn9 => ?_
    obtain ⟨ob, t, he, hcls, hd⟩ := hx.there
    refine hn9 ?_; clear hn9
    exact ⟨e, ob, _, X, N, I, hc, rfl, he, hcls, hd, rfl, h h' e hx⟩
-- Xe
section
variable {prog : Program} {w : World} {K : Type} [DecidableEq K] {knd : KeyKind prog w K} {A : Around} {E : Value → Shared → Prop} {s : Shared} {h₀ : Heap} {L d it : Addr} {m : Str → Option Value} {news : Led} {g : Obj → Led} {o io : Obj} {kvs : List (K × Value)} {i ep : Nat}
theorem kdk_next_end {Q : Value → Shared → Prop} (hh : A.handled = none) (F : Fr h₀ L s.heap m) (N : News h₀ L s.heap news) (U : UpdF it io news g) (hi : KdkIter io d i kvs.length ep) (ha : KdkAt knd o kvs ep) (hp : (d, o) ∈ news) (hx : kvs[i]? = none)
    (h : ∀ h1 o' h' e, Fr h₀ L h1 m → News h₀ L h1 (g o') → Heap.NewExc h1 h' e "StopIteration" → E (.ref e) { s with heap := h' }) :
    wpAny (model prog w) A (call (.builtin "next") [.ref it]) Q E s := by
  refine Classical.byContradiction fun hn9 => ?_
  obtain ⟨pre, post, hl, hg, a, b⟩ := U.split
  refine hn9 ?_; clear hn9
  have hmem : (it, io) ∈ news := by rw [hl]; exact List.mem_append_right _ (.head _)
  have hmn := N (it, io) hmem
  have hit := hi.at hmn.1
  have hm := ha.dictAt (N _ hp).1
  refine call_function_entry (by decide +kernel) (by decide +kernel) kdk_entry_next (kdk_args_next _) ?_
  unfold Builtin.«next»
  refine wpAny_bind (m := someArgs "next" 1 2 _) (wpAny_of_eq (a := [Value.ref it]) (by first | rfl | kernel_rfl!) ?_)
  dsimp only
  refine wpAny_bind (wpAny_specialOf (name := Str.ofString "__next__") hit.typeIs PySem.F.slot_dict_keyiterator_next.lookup ?_)
  refine wpAny_ite_split (fun hab => absurd hab (by decide)) (fun _ => ?_)
  refine wpAny_bind ?_
  obtain ⟨o', ho, hc, hd⟩ := id hit
  refine Classical.byContradiction fun hn9 => ?_
  obtain ⟨od, es, hod, hcd, hdd, hk, hpp, hn⟩ := id hm
  refine hn9 ?_; clear hn9
  refine wpAny_callSpecial?_slot (name := Str.ofString "__next__") hit.typeIs PySem.F.slot_dict_keyiterator_next
    (wpAny_call_entry PySem.F.slot_dict_keyiterator_next hit.typeIs PySem.F.entry_dict_keyiterator_next ?_ (PySem.F.args_dict_keyiterator_next_1 _))
  refine wpAny_bind (wpAny_pure ?_)
  refine wpAny_bind ?_
  refine wpAny_bind ?_
  first | refine wpAny_bind (wpAny_typeNameOfWhole_keyiter hit.typeIs (wpAny_pure ?_)) | refine wpAny_bind (wpAny_typeNameOf_keyiter hit.typeIs (wpAny_pure ?_))
  refine wpAny_bind (wpAny_fieldsOf ho hd ?_)
  refine wpAny_ite_split (fun hab => absurd hab Bool.false_ne_true) (fun _ => ?_)
  refine wpAny_bind (wpAny_pure ?_)
  refine wpAny_bind (wpAny_dictEntries hod hdd ?_)
  have hsz : es.size = kvs.length := by rw [← hpp.length]; simp
  rw [if_neg (by rw [hsz]; simp)]
  refine wpAny_bind (wpAny_pure ?_)
  refine wpAny_bind (wpAny_dictEpoch hod hdd ?_)
  rw [if_neg (by simp)]
  refine wpAny_pure ?_
  have hge : es.size ≤ i := by rw [hsz]; simpa using hx
  simp only [show ¬ ((i : Int) < 0) from by omega, if_false, Int.toNat_natCast, Array.getElem?_eq_none hge]
  refine wpAny_bind ?_
  first | refine wpAny_bind (wpAny_typeNameOfWhole_keyiter hit.typeIs (wpAny_pure ?_)) | refine wpAny_bind (wpAny_typeNameOf_keyiter hit.typeIs (wpAny_pure ?_))
  show wpAny _ _ (setField (.ref it) 0 .none >>= _) _ _ s
  refine wpAny_bind (wpAny_setField ho hd (by simp) ?_)
  have hs : Heap.SameBut it s.heap (s.heap.update it (Obj.mapFields (·.setIfInBounds 0 Value.none))) := Heap.SameBut.update ..
  have ho' := Heap.get?_update_self (Obj.mapFields (·.setIfInBounds 0 Value.none)) ho (Obj.isFreed_of_fields (Obj.data_mapFields hd _))
  have F₁ := F.change hs hmn.2.1 hmn.2.2
  have N₁ := (show News h₀ L s.heap (pre ++ (it, io) :: post) from hl ▸ N).setIn a b hs ho'
  rw [← hg] at N₁
  generalize s.heap.update it (Obj.mapFields (·.setIfInBounds 0 Value.none)) = h1 at F₁ N₁
  show wpAny _ _ (newExc (.type "StopIteration") [] >>= _) _ _ _
  refine wpAny_bind ?_
  simp only [newExc, newTuple]
  refine wpAny_bind (wpAny_newObj_type ?_ (by size_fits))
  refine wpAny_bind (m := firstArgMember _ _) (wpAny_of_eq (a := Value.none) (by first | rfl | (simp only [firstArgMember]; rfl)) ?_)
  refine wpAny_newObj_type ?_ (by size_fits)
  simp only [raiseNew]
  refine wpAny_bind (wpAny_handled ?_)
  rw [show A.in1.handled = none from hh]
  refine wpAny_bind (wpAny_pure (wpAny_throw ?_))
  exact h h1 _ _ _ F₁ N₁ ⟨fun b o hb => Heap.get?_push_of_some _ (Heap.get?_push_of_some _ hb), Heap.get?_none_of_le (by simp), _, .ref h1.objs.size, Heap.get?_push_size _ rfl, rfl, by first | rfl | simp⟩
end
section
variable {α : Type} {w : World} {rel : α → Value → Prop} {A : Around} {E : Value → Shared → Prop} {s : Shared} {h₀ : Heap} {L d it : Addr} {m : Str → Option Value} {news : Led} {u : Obj → Led} {o io : Obj} {ep : Nat} {kvs : List (Int × Value)}
theorem dr_next_end {Q : Value → Shared → Prop} (hh : A.handled = none) (F : Fr h₀ L s.heap m) (N : News h₀ L s.heap news) (U : UpdF it io news u) (hi : KdkIter io d 0 kvs.length ep) (ha : KdkAt (PySem.intKind PySem.Challenge.rw_ki0005_01.row.prog w) o kvs ep) (hp : (d, o) ∈ news)
    (hr : RelL rel kvs []) (h : ∀ h1 o' h' e, Fr h₀ L h1 m → News h₀ L h1 (u o') → Heap.NewExc h1 h' e "StopIteration" → E (.ref e) { s with heap := h' }) :
    wpAny (model PySem.Challenge.rw_ki0005_01.row.prog w) A (call (.builtin "next") [.ref it]) Q E s := by
  cases hr
  exact kdk_next_end hh F N U hi ha hp rfl h
end
theorem isExc_stop : isSubtype (.type "StopIteration") (.type "BaseException") = pure true := by rw [isSubtype_type]; kernel_rfl
theorem notTuple_stop : isSubtype (.type ((Manifest.find? "StopIteration").elim "type" fun x => x.metatype)) (.type "tuple") = pure false := by
  rw [show ((Manifest.find? "StopIteration").elim "type" fun x => x.metatype) = "type" from by kernel_rfl, isSubtype_type]; kernel_rfl
theorem boot_stop : bootBuiltins (Str.ofString "StopIteration") = some (.type "StopIteration") := by decide +kernel
theorem boot_key : bootBuiltins (Str.ofString "KeyError") = some (.type "KeyError") := by decide +kernel
-- Xf
open PySem.Calls PyProof.V PySem.Spec Builtin Builtin.ObjectAttr Builtin.Getset_descriptor
theorem ne_of_all {I : Addr} {nx : Led} (l : ∀ p ∈ nx, p.1 < I) : ∀ p ∈ nx, p.1 ≠ I := fun p hp => Nat.ne_of_lt (l p hp)
/-! C.__name__ of a class of the program -/
theorem dga_ref (d tp : Value) (C : Addr) : descrGetArgs ⟨[d, .ref C, tp], []⟩ = pure (d, some (.ref C), given tp) := by kernel_rfl
section
variable {prog : Program} {w : World} {A : Around} {E : Value → Shared → Prop} {s : Shared} {K : Frag} {R : Result → Shared → Prop} {C : Addr} {mc v : Value} {o : Obj} {h₀ : Heap} {L : Addr} {m : Str → Option Value}
theorem nm_get {tp : Value} (X : K.In s.heap) (ht : typeIn K (.ref C) = some mc) (hs : subIn K mc (.type "type") = some true) (ho : K.lookup C = some o) (hv : o.slots[2]? = some (some v)) (h : R (.ok (.ret v)) s) :
    codeAny (model prog w) A (.call (.builtin "getset_descriptor.__get__") ⟨[.builtin "type.__name__", .ref C, tp], []⟩) R s := by
  refine Classical.byContradiction fun hn9 => ?_
  obtain ⟨hh, g, dr, t, os⟩ := s
  refine hn9 ?_; clear hn9
  have hC : hh.get? C = some o := X _ _ ho
  have L0 : Looks (model prog w) hh (typeOf (.ref C)) mc := looks_typeIn X ht
  have L1 : Looks (model prog w) hh (isSubtype mc (.type "type")) true := looks_subIn X hs
  refine codeAny_call_builtin KF.slot_gs.plain KF.entry_gs (KF.slot_gs.check _ _ _ _ _ _ _ _ ktyn_type (KF.args_gs _ _ _) ?_)
  unfold Builtin.«getset_descriptor.__get__» descrGet
  rw [dga_ref]
  refine wpAny_bind (wpAny_pure ?_)
  unfold descrGetter descrCheckInstance descrNameAndClass isInstance
  simp only [ktyn_owner]
  repeat lk
  refine ⟨Code.quiet_builtin _ (by decide +kernel), codeAny_builtin ktyn_entry ?_⟩
  unfold Builtin.«type.__name__» keptObject slotAt
  dsimp only
  refine wpAny_bind (wpAny_bind (wpAny_loadPart (s := ⟨hh, g, dr, t, os⟩) hC ?_))
  rw [hv]
  refine wpAny_pure (wpAny_bind (wpAny_pure (wpAny_pure ?_)))
  exact h
theorem name_cls {expr : Bool} {Q : Value → Shared → Prop} (F : Fr h₀ L s.heap m) (X₀ : K.In h₀) (ht : typeIn K (.ref C) = some mc) (hr : readsIn K C mc = true) (hs : subIn K mc (.type "type") = some true) (ho : K.lookup C = some o) (hv : o.slots[2]? = some (some v)) (hh : handedIn v = true)
    (e : findCls K (.ref C) mc "__name__" = some (.get (.builtin "getset_descriptor.__get__") (.builtin "type.__name__") (.ref C) mc))
    (h : Q v { s with toks := s.toks + 1 }) : wpAny (model prog w) A (getAttr (.ref C) "__name__" expr) Q E s := by
  have X := X₀.keeps F.keep
  exact cls_bind X hr e (wpAny_call (nm_get (s := { s with toks := s.toks + 1 }) X ht hs ho hv (handed_on hh h)))
end
-- Sh
set_option genInjectivity false in
set_option genSizeOf false in
/-- a cache object: its addresses, its room; are values weighed, is there an order of its own -/
structure Sh where
  x : Addr
  dx : Addr
  d : Addr
  z : Addr
  o : Addr
  t1 : Tok
  t2 : Tok
  t3 : Tok
  t4 : Tok
  t5 : Tok
  t6 : Tok
  tm : Tok
  room : Int
  sized : Bool
  fifo : Bool
namespace Sh
noncomputable def C (S : Sh) : Addr := match S.fifo with | true => 882 | false => 830
noncomputable def pf (S : Sh) : Addr := match S.fifo with | true => 872 | false => 660
noncomputable def cf (S : Sh) : Addr := match S.fifo with | true => 879 | false => 801
noncomputable def df (S : Sh) : Addr := match S.fifo with | true => 865 | false => 742
noncomputable def sf (S : Sh) : Addr := match S.fifo with | true => 857 | false => 735
noncomputable def sz (S : Sh) : Int → Int := match S.sized with | true => szS | false => szU
noncomputable def sv (S : Sh) : Value := match S.sized with | true => .ref S.z | false => .none
noncomputable def es (S : Sh) (w : World) (u : Int) (tc : Tok) : List DictEntry := match S.sized, S.fifo with
  | true, true => [ent w "getsizeof" S.t1 (.ref 1053), ent w "_Cache__size" S.t2 (.ref S.z), ent w "_Cache__data" S.t3 (.ref S.d), ent w "_Cache__currsize" S.t4 (.int u tc), ent w "_Cache__maxsize" S.t5 (.int S.room S.tm), ent w "_FIFOCache__order" S.t6 (.ref S.o)]
  | true, false => [ent w "getsizeof" S.t1 (.ref 1053), ent w "_Cache__size" S.t2 (.ref S.z), ent w "_Cache__data" S.t3 (.ref S.d), ent w "_Cache__currsize" S.t4 (.int u tc), ent w "_Cache__maxsize" S.t5 (.int S.room S.tm)]
  | false, true => [ent w "_Cache__data" S.t3 (.ref S.d), ent w "_Cache__currsize" S.t4 (.int u tc), ent w "_Cache__maxsize" S.t5 (.int S.room S.tm), ent w "_FIFOCache__order" S.t6 (.ref S.o)]
  | false, false => [ent w "_Cache__data" S.t3 (.ref S.d), ent w "_Cache__currsize" S.t4 (.int u tc), ent w "_Cache__maxsize" S.t5 (.int S.room S.tm)]
noncomputable def n (S : Sh) : Nat := match S.sized, S.fifo with | true, true => 6 | true, false => 5 | false, true => 4 | false, false => 3
noncomputable def dic (S : Sh) (w : World) (u : Int) (tc : Tok) : Obj := dictOf (S.es w u tc) S.n
noncomputable def zp (S : Sh) (oz : Obj) : Led := match S.sized with | true => [(S.z, oz)] | false => []
noncomputable def op (S : Sh) (oq : Obj) : Led := match S.fifo with | true => [(S.o, oq)] | false => []
noncomputable def own (S : Sh) : List Addr := [S.x, S.dx, S.d] ++ (match S.sized with | true => [S.z] | false => []) ++ (match S.fifo with | true => [S.o] | false => [])
end Sh
noncomputable def Cls (C : Addr) : Prop := C = 830 ∨ C = 882
theorem Sh.cls (S : Sh) : Cls S.C := by unfold Sh.C; cases S.fifo; exact .inl rfl; exact .inr rfl
theorem Sh.es_eq (S : Sh) (w : World) (u : Int) (tc : Tok) : S.es w u tc = (match S.sized with | true => [ent w "getsizeof" S.t1 (.ref 1053), ent w "_Cache__size" S.t2 (.ref S.z)] | false => []) ++ [ent w "_Cache__data" S.t3 (.ref S.d), ent w "_Cache__currsize" S.t4 (.int u tc), ent w "_Cache__maxsize" S.t5 (.int S.room S.tm)] ++ (match S.fifo with | true => [ent w "_FIFOCache__order" S.t6 (.ref S.o)] | false => []) := by
  unfold Sh.es; cases S.sized <;> cases S.fifo <;> rfl
/-- the ledger bears the cache: c in the data, cz in the sizes, u in the count, q in the order -/
noncomputable def Lw (w : World) (S : Sh) (rest : Led) (c cz : List (Int × Int)) (u : Int) (q : List Int) (nx : Led) : Prop :=
  OwnOff rest S.own ∧ S.own.Nodup ∧ ∃ od oz oq tc, nx = (S.x, instObj S.C S.dx) :: (S.dx, S.dic w u tc) :: (S.d, od) :: (S.zp oz ++ (S.op oq ++ rest)) ∧
    DR w isI S.d od c ∧ (S.sized = true → DR w isI S.z oz cz) ∧ (S.fifo = true → DR w isU S.o oq (uOf q))
section
variable {w : World} {S : Sh} {rest nx : Led} {c cz : List (Int × Int)} {u : Int} {q : List Int}
theorem updF_at {d : Addr} {o : Obj} : ∀ {pre post : Led}, (∀ p ∈ pre, p.1 ≠ d) → (∀ p ∈ post, p.1 ≠ d) → UpdF d o (pre ++ (d, o) :: post) (fun o' => pre ++ (d, o') :: post)
  | [], _, _, h => .head h
  | p :: _, _, a, h => .tail (a p (.head _)) (updF_at (fun q hq => a q (.tail _ hq)) h)
theorem upd_at {d : Addr} {o o' : Obj} : ∀ {pre post : Led}, (∀ p ∈ pre, p.1 ≠ d) → (∀ p ∈ post, p.1 ≠ d) → Upd d o o' (pre ++ (d, o) :: post) (pre ++ (d, o') :: post)
  | [], _, _, h => .head h
  | p :: _, _, a, h => .tail (a p (.head _)) (upd_at (fun q hq => a q (.tail _ hq)) h)
theorem off_one {b : Addr} {adr : List Addr} (h : OwnOff rest adr) (hb : b ∈ adr) : ∀ p ∈ rest, p.1 ≠ b := fun p hp => h p hp b hb
theorem nd_of {S : Sh} (nd : S.own.Nodup) : S.x ≠ S.dx ∧ S.x ≠ S.d ∧ S.dx ≠ S.d ∧ (S.sized = true → S.z ≠ S.x ∧ S.z ≠ S.dx ∧ S.z ≠ S.d) ∧ (S.fifo = true → S.o ≠ S.x ∧ S.o ≠ S.dx ∧ S.o ≠ S.d) ∧ (S.sized = true → S.fifo = true → S.o ≠ S.z) := by
  unfold Sh.own at nd
  obtain ⟨n1, -, n3⟩ := List.nodup_append.mp nd
  obtain ⟨n4, -, n5⟩ := List.nodup_append.mp n1
  obtain ⟨m1, n6⟩ := List.nodup_cons.mp n4
  obtain ⟨m2, -⟩ := List.nodup_cons.mp n6
  refine ⟨fun e => m1 (by rw [e]; exact .head _), fun e => m1 (by rw [e]; exact .tail _ (.head _)), fun e => m2 (by rw [e]; exact .head _), fun h => ?_, fun h => ?_, fun h h' => ?_⟩
  · rw [h] at n5
    exact ⟨(n5 _ (.head _) _ (.head _)).symm, (n5 _ (.tail _ (.head _)) _ (.head _)).symm, (n5 _ (.tail _ (.tail _ (.head _))) _ (.head _)).symm⟩
  · rw [h] at n3
    exact ⟨(n3 _ (List.mem_append_left _ (.head _)) _ (.head _)).symm, (n3 _ (List.mem_append_left _ (.tail _ (.head _))) _ (.head _)).symm, (n3 _ (List.mem_append_left _ (.tail _ (.tail _ (.head _)))) _ (.head _)).symm⟩
  · rw [h, h'] at n3
    exact (n3 _ (List.mem_append_right _ (.head _)) _ (.head _)).symm
theorem tl_all {S : Sh} {P : Addr → Prop} (h1 : P S.dx) (h2 : P S.d) (h3 : S.sized = true → P S.z) (h4 : S.fifo = true → P S.o) : ∀ b ∈ [S.dx, S.d] ++ (match S.sized with | true => [S.z] | false => []) ++ (match S.fifo with | true => [S.o] | false => []), P b := by
  refine List.forall_mem_append.mpr ⟨List.forall_mem_append.mpr ⟨List.forall_mem_cons.mpr ⟨h1, List.forall_mem_cons.mpr ⟨h2, List.forall_mem_nil _⟩⟩, ?_⟩, ?_⟩
  · cases e : S.sized with
    | true => exact List.forall_mem_cons.mpr ⟨h3 e, List.forall_mem_nil _⟩
    | false => exact List.forall_mem_nil _
  · cases e : S.fifo with
    | true => exact List.forall_mem_cons.mpr ⟨h4 e, List.forall_mem_nil _⟩
    | false => exact List.forall_mem_nil _
theorem own_all {S : Sh} {P : Addr → Prop} (hx : P S.x) (h1 : P S.dx) (h2 : P S.d) (h3 : S.sized = true → P S.z) (h4 : S.fifo = true → P S.o) : ∀ b ∈ S.own, P b :=
  List.forall_mem_cons.mpr ⟨hx, tl_all h1 h2 h3 h4⟩
theorem zp_all {S : Sh} {oz : Obj} {P : Addr × Obj → Prop} (h : S.sized = true → P (S.z, oz)) : ∀ p ∈ S.zp oz, P p := by
  unfold Sh.zp
  cases e : S.sized with
  | true => exact List.forall_mem_cons.mpr ⟨h e, List.forall_mem_nil _⟩
  | false => exact List.forall_mem_nil _
theorem op_all {S : Sh} {oq : Obj} {P : Addr × Obj → Prop} (h : S.fifo = true → P (S.o, oq)) : ∀ p ∈ S.op oq, P p := by
  unfold Sh.op
  cases e : S.fifo with
  | true => exact List.forall_mem_cons.mpr ⟨h e, List.forall_mem_nil _⟩
  | false => exact List.forall_mem_nil _
theorem zp_ne {S : Sh} {oz : Obj} {b : Addr} (h1 : S.sized = true → S.z ≠ b) : ∀ p ∈ S.zp oz, p.1 ≠ b := zp_all h1
theorem op_ne {S : Sh} {oq : Obj} {rest : Led} {b : Addr} (h2 : S.fifo = true → S.o ≠ b) (h3 : ∀ p ∈ rest, p.1 ≠ b) : ∀ p ∈ S.op oq ++ rest, p.1 ≠ b := List.forall_mem_append.mpr ⟨op_all h2, h3⟩
theorem post_ne {S : Sh} {oz oq : Obj} {rest : Led} {b : Addr} (h1 : S.sized = true → S.z ≠ b) (h2 : S.fifo = true → S.o ≠ b) (h3 : ∀ p ∈ rest, p.1 ≠ b) : ∀ p ∈ S.zp oz ++ (S.op oq ++ rest), p.1 ≠ b :=
  List.forall_mem_append.mpr ⟨zp_ne h1, op_ne h2 h3⟩
theorem own_dx {S : Sh} : S.dx ∈ S.own := List.mem_append_left _ (List.mem_append_left _ (.tail _ (.head _)))
theorem own_d {S : Sh} : S.d ∈ S.own := List.mem_append_left _ (List.mem_append_left _ (.tail _ (.tail _ (.head _))))
theorem own_z {S : Sh} (h : S.sized = true) : S.z ∈ S.own := by unfold Sh.own; rw [h]; exact List.mem_append_left _ (List.mem_append_right _ (.head _))
theorem own_o {S : Sh} (h : S.fifo = true) : S.o ∈ S.own := by unfold Sh.own; rw [h]; exact List.mem_append_right _ (.head _)
theorem zp_eq {S : Sh} (h : S.sized = true) (oz : Obj) : S.zp oz = [(S.z, oz)] := by unfold Sh.zp; rw [h]
theorem op_eq {S : Sh} (h : S.fifo = true) (oq : Obj) : S.op oq = [(S.o, oq)] := by unfold Sh.op; rw [h]
theorem Lw.d (R : Lw w S rest c cz u q nx) : ∃ od U, (S.d, od) ∈ nx ∧ DR w isI S.d od c ∧ UpdF S.d od nx U ∧ ∀ od' c', DR w isI S.d od' c' → Lw w S rest c' cz u q (U od') := by
  refine Classical.byContradiction fun hn9 => ?_
  obtain ⟨off, nd, od, oz, oq, tc, rfl, hd, hz, hq⟩ := R
  refine hn9 ?_; clear hn9
  refine Classical.byContradiction fun hn9 => ?_
  obtain ⟨n1, n2, n3, n4, n5, n6⟩ := nd_of nd
  refine hn9 ?_; clear hn9
  exact ⟨od, _, .tail _ (.tail _ (.head _)), hd, updF_at (pre := [(S.x, instObj S.C S.dx), (S.dx, S.dic w u tc)]) (List.forall_mem_cons.mpr ⟨n2, List.forall_mem_cons.mpr ⟨n3, List.forall_mem_nil _⟩⟩) (post_ne (fun h => (n4 h).2.2) (fun h => (n5 h).2.2) (off_one off own_d)), fun od' c' hd' => ⟨off, nd, od', oz, oq, tc, rfl, hd', hz, hq⟩⟩
theorem Lw.z (hs : S.sized = true) (R : Lw w S rest c cz u q nx) : ∃ oz U, (S.z, oz) ∈ nx ∧ DR w isI S.z oz cz ∧ UpdF S.z oz nx U ∧ ∀ oz' cz', DR w isI S.z oz' cz' → Lw w S rest c cz' u q (U oz') := by
  refine Classical.byContradiction fun hn9 => ?_
  obtain ⟨off, nd, od, oz, oq, tc, rfl, hd, hz, hq⟩ := R
  refine hn9 ?_; clear hn9
  refine Classical.byContradiction fun hn9 => ?_
  obtain ⟨n1, n2, n3, n4, n5, n6⟩ := nd_of nd
  refine hn9 ?_; clear hn9
  obtain ⟨a1, a2, a3⟩ := n4 hs
  refine ⟨oz, fun o' => (S.x, instObj S.C S.dx) :: (S.dx, S.dic w u tc) :: (S.d, od) :: (S.z, o') :: (S.op oq ++ rest), .tail _ (.tail _ (.tail _ (List.mem_append_left _ (by rw [zp_eq hs]; exact .head _)))), hz hs, ?_, fun oz' c' hz' => ⟨off, nd, od, oz', oq, tc, (by rw [zp_eq hs]; rfl), hd, fun _ => hz', hq⟩⟩
  rw [zp_eq hs]
  exact updF_at (pre := [(S.x, instObj S.C S.dx), (S.dx, S.dic w u tc), (S.d, od)]) (List.forall_mem_cons.mpr ⟨a1.symm, List.forall_mem_cons.mpr ⟨a2.symm, List.forall_mem_cons.mpr ⟨a3.symm, List.forall_mem_nil _⟩⟩⟩) (op_ne (fun h => n6 hs h) (off_one off (own_z hs)))
theorem Lw.o (hs : S.fifo = true) (R : Lw w S rest c cz u q nx) : ∃ oq U, (S.o, oq) ∈ nx ∧ DR w isU S.o oq (uOf q) ∧ UpdF S.o oq nx U ∧ ∀ oq' q', DR w isU S.o oq' (uOf q') → Lw w S rest c cz u q' (U oq') := by
  refine Classical.byContradiction fun hn9 => ?_
  obtain ⟨off, nd, od, oz, oq, tc, rfl, hd, hz, hq⟩ := R
  refine hn9 ?_; clear hn9
  refine Classical.byContradiction fun hn9 => ?_
  obtain ⟨n1, n2, n3, n4, n5, n6⟩ := nd_of nd
  refine hn9 ?_; clear hn9
  obtain ⟨a1, a2, a3⟩ := n5 hs
  refine ⟨oq, fun o' => (S.x, instObj S.C S.dx) :: (S.dx, S.dic w u tc) :: (S.d, od) :: (S.zp oz ++ (S.o, o') :: rest), .tail _ (.tail _ (.tail _ (List.mem_append_right _ (List.mem_append_left _ (by rw [op_eq hs]; exact .head _))))), hq hs, ?_, fun oq' q' hq' => ⟨off, nd, od, oz, oq', tc, (by rw [op_eq hs]; rfl), hd, hz, fun _ => hq'⟩⟩
  rw [op_eq hs]
  exact updF_at (pre := (S.x, instObj S.C S.dx) :: (S.dx, S.dic w u tc) :: (S.d, od) :: S.zp oz) (List.forall_mem_cons.mpr ⟨a1.symm, List.forall_mem_cons.mpr ⟨a2.symm, List.forall_mem_cons.mpr ⟨a3.symm, zp_ne fun h => (n6 h hs).symm⟩⟩⟩) (off_one off (own_o hs))
theorem Lw.inst {h₀ h : Heap} {L : Addr} (R : Lw w S rest c cz u q nx) (N : News h₀ L h nx) : ∃ tc, InstAt h S.x (instObj S.C S.dx) S.C (some (dictOf (S.es w u tc) S.n)) := by
  refine Classical.byContradiction fun hn9 => ?_
  obtain ⟨off, nd, od, oz, oq, tc, rfl, hd, hz, hq⟩ := R
  refine hn9 ?_; clear hn9
  exact ⟨tc, InstAt.of_news N (.head _) (.tail _ (.head _))⟩
theorem Lw.cur (R : Lw w S rest c cz u q nx) (v : Int) (t : Tok) : ∃ tc nx', Upd S.dx (S.dic w u tc) (S.dic w v t) nx nx' ∧ Lw w S rest c cz v q nx' := by
  refine Classical.byContradiction fun hn9 => ?_
  obtain ⟨off, nd, od, oz, oq, tc, rfl, hd, hz, hq⟩ := R
  refine hn9 ?_; clear hn9
  refine Classical.byContradiction fun hn9 => ?_
  obtain ⟨n1, n2, n3, n4, n5, n6⟩ := nd_of nd
  refine hn9 ?_; clear hn9
  exact ⟨tc, (S.x, instObj S.C S.dx) :: (S.dx, S.dic w v t) :: (S.d, od) :: (S.zp oz ++ (S.op oq ++ rest)), upd_at (pre := [(S.x, instObj S.C S.dx)]) (List.forall_mem_cons.mpr ⟨n1, List.forall_mem_nil _⟩) (List.forall_mem_cons.mpr ⟨n3.symm, post_ne (fun h => (n4 h).2.1) (fun h => (n5 h).2.1) (off_one off own_dx)⟩), off, nd, od, oz, oq, t, rfl, hd, hz, hq⟩
theorem Lw.inn (R : Lw w S rest c cz u q nx) : ∀ p ∈ rest, p ∈ nx := by
  refine Classical.byContradiction fun hn9 => ?_
  obtain ⟨off, nd, od, oz, oq, tc, rfl, hd, hz, hq⟩ := R
  refine hn9 ?_; clear hn9
  exact fun p hp => .tail _ (.tail _ (.tail _ (List.mem_append_right _ (List.mem_append_right _ hp))))
/-- neither a dict nor an object of the program's classes -/
noncomputable def Lite (r : Led) : Prop := ∀ p ∈ r, ∃ T, p.2.cls = .type T ∧ T ≠ "dict"
theorem dr_cls {α : Type} {rel : α → Value → Prop} {d : Addr} {o : Obj} {c : List (Int × α)} (D : DR w rel d o c) : o.cls = .type "dict" := by
  refine Classical.byContradiction fun hn9 => ?_
  obtain ⟨_, _, kvs, ⟨es, ep, hx, _⟩, _⟩ := D
  refine hn9 ?_; clear hn9
  exact hx.1
end
theorem f_ga {w : World} {C : Addr} (h : Cls C) : findIn (Mine.K0 w.params) (.ref C) "__getattribute__" = some (some (.builtin "object.__getattribute__")) := by rcases h with rfl | rfl <;> k_is
theorem f_gk {w : World} {C : Addr} (h : Cls C) : findIn (Mine.K0 w.params) (.ref C) "__getattr__" = some none := by rcases h with rfl | rfl <;> k_is
theorem f_plain {w : World} {C : Addr} {nm : Str} (h : Cls C) : plainGet (Mine.K0 w.params) C nm = true := by unfold plainGet; rw [f_ga h, f_gk h]; rfl
theorem f_dict {w : World} {C : Addr} (h : Cls C) : hasDictIn (Mine.K0 w.params) C = true := by rcases h with rfl | rfl <;> k_is
theorem f_noseq {w : World} {C : Addr} (h : Cls C) : noSeq (Mine.K0 w.params) C = true := by rcases h with rfl | rfl <;> k_is
theorem n_at_data {w : World} {C : Addr} (h : Cls C) : findIn (Mine.K0 w.params) (.ref C) "_Cache__data" = some none := by rcases h with rfl | rfl <;> k_is
theorem n_at_max {w : World} {C : Addr} (h : Cls C) : findIn (Mine.K0 w.params) (.ref C) "_Cache__maxsize" = some none := by rcases h with rfl | rfl <;> k_is
theorem n_at_cur {w : World} {C : Addr} (h : Cls C) : findIn (Mine.K0 w.params) (.ref C) "_Cache__currsize" = some none := by rcases h with rfl | rfl <;> k_is
theorem n_at_ord {w : World} {C : Addr} (h : Cls C) : findIn (Mine.K0 w.params) (.ref C) "_FIFOCache__order" = some none := by rcases h with rfl | rfl <;> k_is
theorem n_at_size {w : World} {C : Addr} (h : Cls C) : findIn (Mine.K0 w.params) (.ref C) "_Cache__size" = some (some .none) := by rcases h with rfl | rfl <;> k_is
theorem g_none {w : World} : specialIn (Mine.K0 w.params) .none "__get__" = some none := by k_is
theorem y_none {w : World} : noGet (Mine.K0 w.params) (some .none) = true := by k_is
theorem n_at_mark {w : World} {C : Addr} (h : Cls C) : findIn (Mine.K0 w.params) (.ref C) "_Cache__marker" = some (some (.ref 706)) := by rcases h with rfl | rfl <;> k_is
theorem g_mark {w : World} : specialIn (Mine.K0 w.params) (.ref 706) "__get__" = some none := by k_is
theorem f_seta {w : World} {C : Addr} (h : Cls C) : findIn (Mine.K0 w.params) (.ref C) "__setattr__" = some (some (.builtin "object.__setattr__")) := by rcases h with rfl | rfl <;> k_is
theorem f_over {w : World} {C : Addr} (h : Cls C) : plainOver (Mine.K0 w.params) C = true := by rcases h with rfl | rfl <;> k_is
theorem f_take {w : World} {C : Addr} (h : Cls C) : takerIn (Mine.K0 w.params) C "_Cache__currsize" = some none := by rcases h with rfl | rfl <;> k_is
theorem n_m_miss {w : World} {C : Addr} (h : Cls C) : findIn (Mine.K0 w.params) (.ref C) "__missing__" = some (some (.ref 756)) := by rcases h with rfl | rfl <;> k_is
theorem i_m_miss {w : World} : isFn (Mine.K0 w.params) (.ref 756) = true := by k_is
theorem n_m_get {w : World} {C : Addr} (h : Cls C) : findIn (Mine.K0 w.params) (.ref C) "get" = some (some (.ref 778)) := by rcases h with rfl | rfl <;> k_is
theorem i_m_get {w : World} : isFn (Mine.K0 w.params) (.ref 778) = true := by k_is
theorem n_m_pop {w : World} {C : Addr} (h : Cls C) : findIn (Mine.K0 w.params) (.ref C) "pop" = some (some (.ref 786)) := by rcases h with rfl | rfl <;> k_is
theorem i_m_pop {w : World} : isFn (Mine.K0 w.params) (.ref 786) = true := by k_is
theorem n_m_def {w : World} {C : Addr} (h : Cls C) : findIn (Mine.K0 w.params) (.ref C) "setdefault" = some (some (.ref 794)) := by rcases h with rfl | rfl <;> k_is
theorem i_m_def {w : World} : isFn (Mine.K0 w.params) (.ref 794) = true := by k_is
theorem kp_pf {w : World} {S : Sh} : keepIn (Mine.K0 w.params) (.ref S.pf) = true := by unfold Sh.pf; cases S.fifo; exact (by k_is : keepIn (Mine.K0 w.params) (.ref 660) = true); exact (by k_is : keepIn (Mine.K0 w.params) (.ref 872) = true)
theorem kp_cf {w : World} {S : Sh} : keepIn (Mine.K0 w.params) (.ref S.cf) = true := by unfold Sh.cf; cases S.fifo; exact (by k_is : keepIn (Mine.K0 w.params) (.ref 801) = true); exact (by k_is : keepIn (Mine.K0 w.params) (.ref 879) = true)
theorem n_m_item {w : World} {S : Sh} : findIn (Mine.K0 w.params) (.ref S.C) "popitem" = some (some (.ref S.pf)) := by unfold Sh.C Sh.pf; cases S.fifo; exact (by k_is : findIn (Mine.K0 w.params) (.ref 830) "popitem" = some (some (.ref 660))); exact (by k_is : findIn (Mine.K0 w.params) (.ref 882) "popitem" = some (some (.ref 872)))
theorem i_m_item {w : World} {S : Sh} : isFn (Mine.K0 w.params) (.ref S.pf) = true := by unfold Sh.pf; cases S.fifo; exact (by k_is : isFn (Mine.K0 w.params) (.ref 660) = true); exact (by k_is : isFn (Mine.K0 w.params) (.ref 872) = true)
theorem n_m_clr {w : World} {S : Sh} : findIn (Mine.K0 w.params) (.ref S.C) "clear" = some (some (.ref S.cf)) := by unfold Sh.C Sh.cf; cases S.fifo; exact (by k_is : findIn (Mine.K0 w.params) (.ref 830) "clear" = some (some (.ref 801))); exact (by k_is : findIn (Mine.K0 w.params) (.ref 882) "clear" = some (some (.ref 879)))
theorem i_m_clr {w : World} {S : Sh} : isFn (Mine.K0 w.params) (.ref S.cf) = true := by unfold Sh.cf; cases S.fifo; exact (by k_is : isFn (Mine.K0 w.params) (.ref 801) = true); exact (by k_is : isFn (Mine.K0 w.params) (.ref 879) = true)
theorem n_op_del {w : World} {S : Sh} : findIn (Mine.K0 w.params) (.ref S.C) "__delitem__" = some (some (.ref S.df)) := by unfold Sh.C Sh.df; cases S.fifo; exact (by k_is : findIn (Mine.K0 w.params) (.ref 830) "__delitem__" = some (some (.ref 742))); exact (by k_is : findIn (Mine.K0 w.params) (.ref 882) "__delitem__" = some (some (.ref 865)))
theorem i_op_del {w : World} {S : Sh} : isFn (Mine.K0 w.params) (.ref S.df) = true := by unfold Sh.df; cases S.fifo; exact (by k_is : isFn (Mine.K0 w.params) (.ref 742) = true); exact (by k_is : isFn (Mine.K0 w.params) (.ref 865) = true)
theorem n_op_set {w : World} {S : Sh} : findIn (Mine.K0 w.params) (.ref S.C) "__setitem__" = some (some (.ref S.sf)) := by unfold Sh.C Sh.sf; cases S.fifo; exact (by k_is : findIn (Mine.K0 w.params) (.ref 830) "__setitem__" = some (some (.ref 735))); exact (by k_is : findIn (Mine.K0 w.params) (.ref 882) "__setitem__" = some (some (.ref 857)))
theorem i_op_set {w : World} {S : Sh} : isFn (Mine.K0 w.params) (.ref S.sf) = true := by unfold Sh.sf; cases S.fifo; exact (by k_is : isFn (Mine.K0 w.params) (.ref 735) = true); exact (by k_is : isFn (Mine.K0 w.params) (.ref 857) = true)
theorem n_m_sz {w : World} {C : Addr} (h : Cls C) : findIn (Mine.K0 w.params) (.ref C) "getsizeof" = some (some (.ref 826)) := by rcases h with rfl | rfl <;> k_is
theorem y_sz {w : World} : typeIn (Mine.K0 w.params) (.ref 826) = some (.type "staticmethod") := by k_is
theorem g_sz {w : World} : specialIn (Mine.K0 w.params) (.ref 826) "__get__" = some (some (.builtin "staticmethod.__get__")) := by k_is
theorem k_sz {w : World} : takesIn (Mine.K0 w.params) (.ref 826) = some false := by k_is
theorem n_op_in {w : World} {C : Addr} (h : Cls C) : findIn (Mine.K0 w.params) (.ref C) "__contains__" = some (some (.ref 749)) := by rcases h with rfl | rfl <;> k_is
theorem i_op_in {w : World} : isFn (Mine.K0 w.params) (.ref 749) = true := by k_is
theorem n_op_sub {w : World} {C : Addr} (h : Cls C) : findIn (Mine.K0 w.params) (.ref C) "__getitem__" = some (some (.ref 728)) := by rcases h with rfl | rfl <;> k_is
theorem i_op_sub {w : World} : isFn (Mine.K0 w.params) (.ref 728) = true := by k_is
theorem n_op_len {w : World} {C : Addr} (h : Cls C) : findIn (Mine.K0 w.params) (.ref C) "__len__" = some (some (.ref 770)) := by rcases h with rfl | rfl <;> k_is
theorem i_op_len {w : World} : isFn (Mine.K0 w.params) (.ref 770) = true := by k_is
theorem n_op_iter {w : World} {C : Addr} (h : Cls C) : findIn (Mine.K0 w.params) (.ref C) "__iter__" = some (some (.ref 763)) := by rcases h with rfl | rfl <;> k_is
theorem i_op_iter {w : World} : isFn (Mine.K0 w.params) (.ref 763) = true := by k_is
theorem fn_sub {w : World} : fnIn (Mine.K0 w.params) 728 = true := by k_is
theorem n_op_max {w : World} {C : Addr} (h : Cls C) : findIn (Mine.K0 w.params) (.ref C) "maxsize" = some (some (.ref 809)) := by rcases h with rfl | rfl <;> k_is
theorem g_op_max {w : World} : specialIn (Mine.K0 w.params) (.ref 809) "__get__" = some (some (.builtin "property.__get__")) := by k_is
theorem k_op_max {w : World} : takesIn (Mine.K0 w.params) (.ref 809) = some true := by k_is
theorem r_op_max {w : World} : ∃ l, recIn (Mine.K0 w.params) 809 "property" = some (.ref 808 :: l) := ⟨_, by k_is⟩
theorem n_op_cur {w : World} {C : Addr} (h : Cls C) : findIn (Mine.K0 w.params) (.ref C) "currsize" = some (some (.ref 817)) := by rcases h with rfl | rfl <;> k_is
theorem g_op_cur {w : World} : specialIn (Mine.K0 w.params) (.ref 817) "__get__" = some (some (.builtin "property.__get__")) := by k_is
theorem k_op_cur {w : World} : takesIn (Mine.K0 w.params) (.ref 817) = some true := by k_is
theorem r_op_cur {w : World} : ∃ l, recIn (Mine.K0 w.params) 817 "property" = some (.ref 816 :: l) := ⟨_, by k_is⟩
section
variable {w : World} {A : Around} {E : Value → Shared → Prop} {s : Shared} {h₀ : Heap} {L : Addr} {m : Str → Option Value} {S : Sh} {rest nx : Led} {c cz : List (Int × Int)} {u : Int} {q : List Int}
theorem at_data {Q : Value → Shared → Prop} {expr : Bool} (F : Fr h₀ L s.heap m) (X : (Mine.K0 w.params).In h₀) (R : Lw w S rest c cz u q nx) (N : News h₀ L s.heap nx) (h : Q (.ref S.d) { s with toks := s.toks + 1 }) : wpAny (model PySem.Challenge.rw_ki0005_01.row.prog w) A (getAttr (.ref S.x) (Str.ofString "_Cache__data") expr) Q E s := by
  obtain ⟨tc, I⟩ := R.inst N
  exact get_own F X I (f_plain S.cls) (f_dict S.cls) (n_at_data S.cls) rfl (by have hs9 := S.es_eq w u tc; rw [hs9]; cases S.sized <;> cases S.fifo <;> rfl) rfl h
theorem at_max {Q : Value → Shared → Prop} {expr : Bool} (F : Fr h₀ L s.heap m) (X : (Mine.K0 w.params).In h₀) (R : Lw w S rest c cz u q nx) (N : News h₀ L s.heap nx) (h : Q (.int S.room S.tm) { s with toks := s.toks + 1 }) : wpAny (model PySem.Challenge.rw_ki0005_01.row.prog w) A (getAttr (.ref S.x) (Str.ofString "_Cache__maxsize") expr) Q E s := by
  obtain ⟨tc, I⟩ := R.inst N
  exact get_own F X I (f_plain S.cls) (f_dict S.cls) (n_at_max S.cls) rfl (by have hs9 := S.es_eq w u tc; rw [hs9]; cases S.sized <;> cases S.fifo <;> rfl) rfl h
theorem at_cur {Q : Value → Shared → Prop} {expr : Bool} (F : Fr h₀ L s.heap m) (X : (Mine.K0 w.params).In h₀) (R : Lw w S rest c cz u q nx) (N : News h₀ L s.heap nx) (h : ∀ t, Q (.int u t) { s with toks := s.toks + 1 }) : wpAny (model PySem.Challenge.rw_ki0005_01.row.prog w) A (getAttr (.ref S.x) (Str.ofString "_Cache__currsize") expr) Q E s := by
  obtain ⟨tc, I⟩ := R.inst N
  exact get_own F X I (f_plain S.cls) (f_dict S.cls) (n_at_cur S.cls) rfl (by have hs9 := S.es_eq w u tc; rw [hs9]; cases S.sized <;> cases S.fifo <;> rfl) rfl (h tc)
theorem at_ord {Q : Value → Shared → Prop} {expr : Bool} (F : Fr h₀ L s.heap m) (X : (Mine.K0 w.params).In h₀) (R : Lw w S rest c cz u q nx) (N : News h₀ L s.heap nx) (hs : S.fifo = true) (h : Q (.ref S.o) { s with toks := s.toks + 1 }) : wpAny (model PySem.Challenge.rw_ki0005_01.row.prog w) A (getAttr (.ref S.x) (Str.ofString "_FIFOCache__order") expr) Q E s := by
  obtain ⟨tc, I⟩ := R.inst N
  exact get_own F X I (f_plain S.cls) (f_dict S.cls) (n_at_ord S.cls) rfl (by rw [S.es_eq w u tc, hs]; cases S.sized <;> rfl) rfl h
theorem at_size {Q : Value → Shared → Prop} {expr : Bool} (F : Fr h₀ L s.heap m) (X : (Mine.K0 w.params).In h₀) (R : Lw w S rest c cz u q nx) (N : News h₀ L s.heap nx) (h : Q S.sv { s with toks := s.toks + 1 }) : wpAny (model PySem.Challenge.rw_ki0005_01.row.prog w) A (getAttr (.ref S.x) (Str.ofString "_Cache__size") expr) Q E s := by
  obtain ⟨tc, I⟩ := R.inst N
  unfold Sh.sv at h
  cases hs : S.sized with
  | true => rw [hs] at h; exact get_own F X I (f_plain S.cls) (f_dict S.cls) (n_at_size S.cls) y_none (by rw [S.es_eq w u tc, hs]; cases S.fifo <;> rfl) rfl h
  | false => rw [hs] at h; exact get_cls F X I (f_plain S.cls) (f_dict S.cls) (n_at_size S.cls) g_none rfl (by decide +kernel) (by rw [S.es_eq w u tc, hs]; cases S.fifo <;> rfl) h
theorem at_mark {Q : Value → Shared → Prop} {expr : Bool} (F : Fr h₀ L s.heap m) (X : (Mine.K0 w.params).In h₀) (R : Lw w S rest c cz u q nx) (N : News h₀ L s.heap nx) (h : Q (.ref 706) { s with toks := s.toks + 1 }) : wpAny (model PySem.Challenge.rw_ki0005_01.row.prog w) A (getAttr (.ref S.x) (Str.ofString "_Cache__marker") expr) Q E s := by
  obtain ⟨tc, I⟩ := R.inst N
  exact get_cls F X I (f_plain S.cls) (f_dict S.cls) (n_at_mark S.cls) g_mark rfl (by decide +kernel) (by rw [S.es_eq w u tc]; cases S.sized <;> cases S.fifo <;> rfl) h
theorem at_put {Q : Unit → Shared → Prop} {v : Int} {t : Tok} (F : Fr h₀ L s.heap m) (X : (Mine.K0 w.params).In h₀) (R : Lw w S rest c cz u q nx) (N : News h₀ L s.heap nx) (h : ∀ h' nx', Lw w S rest c cz v q nx' → Fr h₀ L h' m → News h₀ L h' nx' → Q () { s with heap := h', toks := s.toks + 2 }) : wpAny (model PySem.Challenge.rw_ki0005_01.row.prog w) A (setAttr (.ref S.x) (Str.ofString "_Cache__currsize") (.int v t)) Q E s := by
  obtain ⟨tc, nx', U, R'⟩ := R.cur v t
  have I : InstAt s.heap S.x (instObj S.C S.dx) S.C (some (dictOf (S.es w u tc) S.n)) := by
    obtain ⟨tc2, I2⟩ := R.inst N
    refine Classical.byContradiction fun hn9 => ?_
    obtain ⟨pre, post, e1, _, _, _⟩ := U.split
    refine hn9 ?_; clear hn9
    exact ⟨I2.at_, I2.cls, I2.no, (N (S.dx, S.dic w u tc) (by rw [e1]; exact List.mem_append_right _ (.head _))).1⟩
  refine set_dict (es' := S.es w v t) (n' := S.n) F X N I rfl (f_seta S.cls) (f_over S.cls) (f_take S.cls) (f_dict S.cls) ?_ ?_ U ?_ fun h₁ F₁ N₁ => h h₁ nx' R' F₁ N₁
  · rw [S.es_eq w u tc]; cases S.sized <;> cases S.fifo <;> rfl
  · rw [S.es_eq w u tc, S.es_eq w v t]; unfold Sh.n; cases S.sized <;> cases S.fifo <;> rfl
  · rw [S.es_eq w v t]; cases S.sized <;> cases S.fifo <;> exact Nat.le_of_ble_eq_true rfl
theorem m_miss {Q : Value × List Value → Shared → Prop} {pl : Sem Bool} (F : Fr h₀ L s.heap m) (X : (Mine.K0 w.params).In h₀) (R : Lw w S rest c cz u q nx) (N : News h₀ L s.heap nx) (h : Q (.ref 756, [.ref S.x]) s) : wpAny (model PySem.Challenge.rw_ki0005_01.row.prog w) A (getMethod (.ref S.x) (Str.ofString "__missing__") pl) Q E s := by
  obtain ⟨tc, I⟩ := R.inst N
  exact method_inst F X I (f_plain S.cls) (n_m_miss S.cls) i_m_miss (by rw [S.es_eq w u tc]; cases S.sized <;> cases S.fifo <;> rfl) h
theorem m_get {Q : Value × List Value → Shared → Prop} {pl : Sem Bool} (F : Fr h₀ L s.heap m) (X : (Mine.K0 w.params).In h₀) (R : Lw w S rest c cz u q nx) (N : News h₀ L s.heap nx) (h : Q (.ref 778, [.ref S.x]) s) : wpAny (model PySem.Challenge.rw_ki0005_01.row.prog w) A (getMethod (.ref S.x) (Str.ofString "get") pl) Q E s := by
  obtain ⟨tc, I⟩ := R.inst N
  exact method_inst F X I (f_plain S.cls) (n_m_get S.cls) i_m_get (by rw [S.es_eq w u tc]; cases S.sized <;> cases S.fifo <;> rfl) h
theorem m_pop {Q : Value × List Value → Shared → Prop} {pl : Sem Bool} (F : Fr h₀ L s.heap m) (X : (Mine.K0 w.params).In h₀) (R : Lw w S rest c cz u q nx) (N : News h₀ L s.heap nx) (h : Q (.ref 786, [.ref S.x]) s) : wpAny (model PySem.Challenge.rw_ki0005_01.row.prog w) A (getMethod (.ref S.x) (Str.ofString "pop") pl) Q E s := by
  obtain ⟨tc, I⟩ := R.inst N
  exact method_inst F X I (f_plain S.cls) (n_m_pop S.cls) i_m_pop (by rw [S.es_eq w u tc]; cases S.sized <;> cases S.fifo <;> rfl) h
theorem m_def {Q : Value × List Value → Shared → Prop} {pl : Sem Bool} (F : Fr h₀ L s.heap m) (X : (Mine.K0 w.params).In h₀) (R : Lw w S rest c cz u q nx) (N : News h₀ L s.heap nx) (h : Q (.ref 794, [.ref S.x]) s) : wpAny (model PySem.Challenge.rw_ki0005_01.row.prog w) A (getMethod (.ref S.x) (Str.ofString "setdefault") pl) Q E s := by
  obtain ⟨tc, I⟩ := R.inst N
  exact method_inst F X I (f_plain S.cls) (n_m_def S.cls) i_m_def (by rw [S.es_eq w u tc]; cases S.sized <;> cases S.fifo <;> rfl) h
theorem m_item {Q : Value × List Value → Shared → Prop} {pl : Sem Bool} (F : Fr h₀ L s.heap m) (X : (Mine.K0 w.params).In h₀) (R : Lw w S rest c cz u q nx) (N : News h₀ L s.heap nx) (h : Q (.ref S.pf, [.ref S.x]) s) : wpAny (model PySem.Challenge.rw_ki0005_01.row.prog w) A (getMethod (.ref S.x) (Str.ofString "popitem") pl) Q E s := by
  obtain ⟨tc, I⟩ := R.inst N
  exact method_inst F X I (f_plain S.cls) n_m_item i_m_item (by rw [S.es_eq w u tc]; cases S.sized <;> cases S.fifo <;> rfl) h
theorem m_clr {Q : Value × List Value → Shared → Prop} {pl : Sem Bool} (F : Fr h₀ L s.heap m) (X : (Mine.K0 w.params).In h₀) (R : Lw w S rest c cz u q nx) (N : News h₀ L s.heap nx) (h : Q (.ref S.cf, [.ref S.x]) s) : wpAny (model PySem.Challenge.rw_ki0005_01.row.prog w) A (getMethod (.ref S.x) (Str.ofString "clear") pl) Q E s := by
  obtain ⟨tc, I⟩ := R.inst N
  exact method_inst F X I (f_plain S.cls) n_m_clr i_m_clr (by rw [S.es_eq w u tc]; cases S.sized <;> cases S.fifo <;> rfl) h
theorem m_sz {Q : Value × List Value → Shared → Prop} {pl : Sem Bool} (F : Fr h₀ L s.heap m) (X : (Mine.K0 w.params).In h₀) (R : Lw w S rest c cz u q nx) (N : News h₀ L s.heap nx) (hs : S.sized = true) (h : Q (.ref 1053, []) { s with toks := s.toks + 1 }) : wpAny (model PySem.Challenge.rw_ki0005_01.row.prog w) A (getMethod (.ref S.x) (Str.ofString "getsizeof") pl) Q E s := by
  obtain ⟨tc, I⟩ := R.inst N
  exact meth_ownSm F X I (f_plain S.cls) (f_dict S.cls) (n_m_sz S.cls) y_sz g_sz k_sz (by rw [S.es_eq w u tc, hs]; cases S.fifo <;> rfl) rfl h
theorem op_in {Q : Value → Shared → Prop} {i : Value} (F : Fr h₀ L s.heap m) (X : (Mine.K0 w.params).In h₀) (R : Lw w S rest c cz u q nx) (N : News h₀ L s.heap nx) (h : wpAny (model PySem.Challenge.rw_ki0005_01.row.prog w) A (call (.ref 749) [.ref S.x, i]) (fun r s' => wpAny (model PySem.Challenge.rw_ki0005_01.row.prog w) A (truthy r) (fun b => Q (.bool b)) E s') E s) : wpAny (model PySem.Challenge.rw_ki0005_01.row.prog w) A (compareOp .In i (.ref S.x)) Q E s := by
  obtain ⟨tc, I⟩ := R.inst N
  exact in_K F X I (n_op_in S.cls) i_op_in h
theorem op_sub {Q : Value → Shared → Prop} {i : Value} {vn sn : Str} {vp sp : Pos} (F : Fr h₀ L s.heap m) (X : (Mine.K0 w.params).In h₀) (R : Lw w S rest c cz u q nx) (N : News h₀ L s.heap nx) (h : wpAny (model PySem.Challenge.rw_ki0005_01.row.prog w) A.in1 (call (.ref 728) [.ref S.x, i]) Q E s) : wpAny (model PySem.Challenge.rw_ki0005_01.row.prog w) A (subscriptTail (.Name vn vp) (.Name sn sp) (.ref S.x) i) Q E s := by
  obtain ⟨tc, I⟩ := R.inst N
  exact sub_K F X I (n_op_sub S.cls) fn_sub i_op_sub h
theorem op_del {Q : Unit → Shared → Prop} {i : Value} (F : Fr h₀ L s.heap m) (X : (Mine.K0 w.params).In h₀) (R : Lw w S rest c cz u q nx) (N : News h₀ L s.heap nx) (h : wpAny (model PySem.Challenge.rw_ki0005_01.row.prog w) A (call (.ref S.df) [.ref S.x, i]) (fun _ s' => Q () s') E s) : wpAny (model PySem.Challenge.rw_ki0005_01.row.prog w) A (delItem (.ref S.x) i) Q E s := by
  obtain ⟨tc, I⟩ := R.inst N
  exact own_delItem F X I (f_noseq S.cls) n_op_del i_op_del h
theorem op_set {Q : Unit → Shared → Prop} {i v : Value} (F : Fr h₀ L s.heap m) (X : (Mine.K0 w.params).In h₀) (R : Lw w S rest c cz u q nx) (N : News h₀ L s.heap nx) (h : wpAny (model PySem.Challenge.rw_ki0005_01.row.prog w) A (call (.ref S.sf) [.ref S.x, i, v]) (fun _ s' => Q () s') E s) : wpAny (model PySem.Challenge.rw_ki0005_01.row.prog w) A (setItem (.ref S.x) i v) Q E s := by
  obtain ⟨tc, I⟩ := R.inst N
  exact ksp_setItem F X I (f_noseq S.cls) n_op_set i_op_set h
theorem op_len {Q : Value → Shared → Prop} (F : Fr h₀ L s.heap m) (X : (Mine.K0 w.params).In h₀) (R : Lw w S rest c cz u q nx) (N : News h₀ L s.heap nx) (h : wpAny (model PySem.Challenge.rw_ki0005_01.row.prog w) A.in1 (call (.ref 770) [.ref S.x]) (W.LenBack Q) E s) : wpAny (model PySem.Challenge.rw_ki0005_01.row.prog w) A (call (.builtin "len") [.ref S.x]) Q E s := by
  obtain ⟨tc, I⟩ := R.inst N
  exact PySem.W.len_K F X I (n_op_len S.cls) i_op_len h
theorem op_iter {Q : Value → Shared → Prop} (F : Fr h₀ L s.heap m) (X : (Mine.K0 w.params).In h₀) (R : Lw w S rest c cz u q nx) (N : News h₀ L s.heap nx) (h : wpAny (model PySem.Challenge.rw_ki0005_01.row.prog w) A (call (.ref 763) [.ref S.x]) (OwitIt (model PySem.Challenge.rw_ki0005_01.row.prog w) A Q E) E s) : wpAny (model PySem.Challenge.rw_ki0005_01.row.prog w) A (pyIter (.ref S.x)) Q E s := by
  obtain ⟨tc, I⟩ := R.inst N
  exact owit_iter F X I (n_op_iter S.cls) i_op_iter h
theorem op_iterc {Q : Value → Shared → Prop} (F : Fr h₀ L s.heap m) (X : (Mine.K0 w.params).In h₀) (R : Lw w S rest c cz u q nx) (N : News h₀ L s.heap nx) (h : wpAny (model PySem.Challenge.rw_ki0005_01.row.prog w) A.in1 (call (.ref 763) [.ref S.x]) (OwitIt (model PySem.Challenge.rw_ki0005_01.row.prog w) A.in1 Q E) E s) : wpAny (model PySem.Challenge.rw_ki0005_01.row.prog w) A (call (.builtin "iter") [.ref S.x]) Q E s := by
  obtain ⟨tc, I⟩ := R.inst N
  exact iter_own F X I (n_op_iter S.cls) i_op_iter h
theorem op_type {Q : Value → Shared → Prop} (F : Fr h₀ L s.heap m) (X : (Mine.K0 w.params).In h₀) (R : Lw w S rest c cz u q nx) (N : News h₀ L s.heap nx) (h : Q (.ref S.C) s) : wpAny (model PySem.Challenge.rw_ki0005_01.row.prog w) A (call (.type "type") [.ref S.x]) Q E s := by
  obtain ⟨tc, I⟩ := R.inst N
  exact kto_own I h
theorem op_max {Q : Value → Shared → Prop} {expr : Bool} (F : Fr h₀ L s.heap m) (X : (Mine.K0 w.params).In h₀) (R : Lw w S rest c cz u q nx) (N : News h₀ L s.heap nx) (h : codeAny (model PySem.Challenge.rw_ki0005_01.row.prog w) A.in1 (.call (.ref 808) ⟨[.ref S.x], []⟩) (fun r s' => match r with | .ok (.ret v) => wpAny (model PySem.Challenge.rw_ki0005_01.row.prog w) A (handedOut v) Q E s' | .ok _ => False | .error e => wpAny (model PySem.Challenge.rw_ki0005_01.row.prog w) A (noteIf true (.ref S.x) (.str (Str.ofString "maxsize") s.toks) e) (fun _ s'' => E e s'') E s') { s with toks := s.toks + 1 }) : wpAny (model PySem.Challenge.rw_ki0005_01.row.prog w) A (getAttr (.ref S.x) (Str.ofString "maxsize") expr) Q E s := by
  obtain ⟨tc, I⟩ := R.inst N
  obtain ⟨l, hl⟩ := @r_op_max w
  exact get_prop F X I (f_plain S.cls) (f_dict S.cls) (n_op_max S.cls) g_op_max k_op_max hl h
theorem op_cur {Q : Value → Shared → Prop} {expr : Bool} (F : Fr h₀ L s.heap m) (X : (Mine.K0 w.params).In h₀) (R : Lw w S rest c cz u q nx) (N : News h₀ L s.heap nx) (h : codeAny (model PySem.Challenge.rw_ki0005_01.row.prog w) A.in1 (.call (.ref 816) ⟨[.ref S.x], []⟩) (fun r s' => match r with | .ok (.ret v) => wpAny (model PySem.Challenge.rw_ki0005_01.row.prog w) A (handedOut v) Q E s' | .ok _ => False | .error e => wpAny (model PySem.Challenge.rw_ki0005_01.row.prog w) A (noteIf true (.ref S.x) (.str (Str.ofString "currsize") s.toks) e) (fun _ s'' => E e s'') E s') { s with toks := s.toks + 1 }) : wpAny (model PySem.Challenge.rw_ki0005_01.row.prog w) A (getAttr (.ref S.x) (Str.ofString "currsize") expr) Q E s := by
  obtain ⟨tc, I⟩ := R.inst N
  obtain ⟨l, hl⟩ := @r_op_cur w
  exact get_prop F X I (f_plain S.cls) (f_dict S.cls) (n_op_cur S.cls) g_op_cur k_op_cur hl h
end
-- Lo
section
variable {w : World} {A : Around} {E : Value → Shared → Prop} {s : Shared} {h₀ : Heap} {L : Addr} {m : Str → Option Value} {S : Sh} {rest nx : Led} {c cz : List (Int × Int)} {u : Int} {q : List Int}
theorem at_sizeT {Q : Value → Shared → Prop} {expr : Bool} (F : Fr h₀ L s.heap m) (_X : (Mine.K0 w.params).In h₀) (R : Lw w S rest c cz u q nx) (N : News h₀ L s.heap nx) (hs : S.sized = true) (h : Q (.ref S.z) { s with toks := s.toks + 1 }) : wpAny (model PySem.Challenge.rw_ki0005_01.row.prog w) A (getAttr (.ref S.x) (Str.ofString "_Cache__size") expr) Q E s := by
  exact at_size F _X R N (by unfold Sh.sv; rw [hs]; exact h)
theorem at_sizeF {Q : Value → Shared → Prop} {expr : Bool} (F : Fr h₀ L s.heap m) (_X : (Mine.K0 w.params).In h₀) (R : Lw w S rest c cz u q nx) (N : News h₀ L s.heap nx) (hs : S.sized = false) (h : Q .none { s with toks := s.toks + 1 }) : wpAny (model PySem.Challenge.rw_ki0005_01.row.prog w) A (getAttr (.ref S.x) (Str.ofString "_Cache__size") expr) Q E s := by
  exact at_size F _X R N (by unfold Sh.sv; rw [hs]; exact h)
theorem d_in {Q : Value → Shared → Prop} {k : Int} {tk : Tok} (F : Fr h₀ L s.heap m) (_X : (Mine.K0 w.params).In h₀) (R : Lw w S rest c cz u q nx) (N : News h₀ L s.heap nx) {b : Bool} (hb : aHas c k = b) (h : Q (.bool b) { s with toks := s.toks + 1 }) : wpAny (model PySem.Challenge.rw_ki0005_01.row.prog w) A (compareOp .In (.int k tk) (.ref S.d)) Q E s := by
  refine Classical.byContradiction fun hn9 => ?_
  obtain ⟨od, U, hm, D, hU, back⟩ := R.d
  refine hn9 ?_; clear hn9
  exact dr_in_b b N hm D hb h
theorem d_ni {Q : Value → Shared → Prop} {k : Int} {tk : Tok} (F : Fr h₀ L s.heap m) (_X : (Mine.K0 w.params).In h₀) (R : Lw w S rest c cz u q nx) (N : News h₀ L s.heap nx) {b : Bool} (hb : aHas c k = b) (h : Q (.bool (!b)) { s with toks := s.toks + 1 }) : wpAny (model PySem.Challenge.rw_ki0005_01.row.prog w) A (compareOp .NotIn (.int k tk) (.ref S.d)) Q E s := by
  refine Classical.byContradiction fun hn9 => ?_
  obtain ⟨od, U, hm, D, hU, back⟩ := R.d
  refine hn9 ?_; clear hn9
  exact dr_notin_b b N hm D hb h
theorem d_tail {Q : Value → Shared → Prop} {value slice : PySem.Expr} {key : Value} (F : Fr h₀ L s.heap m) (_X : (Mine.K0 w.params).In h₀) (R : Lw w S rest c cz u q nx) (N : News h₀ L s.heap nx) (h : wpAny (model PySem.Challenge.rw_ki0005_01.row.prog w) A (getItem (.ref S.d) key) Q E s) (hs9 : subscripted slice false (.ref S.d) key = operate [.ref S.d, key] (getItem (.ref S.d) key) := by with_unfolding_all rfl) : wpAny (model PySem.Challenge.rw_ki0005_01.row.prog w) A (subscriptTail value slice (.ref S.d) key) Q E s := by
  refine Classical.byContradiction fun hn9 => ?_
  obtain ⟨od, U, hm, D, hU, back⟩ := R.d
  refine hn9 ?_; clear hn9
  exact dr_tail N hm D h hs9
theorem d_get {Q : Value → Shared → Prop} {k : Int} {tk : Tok} {v : Int} (F : Fr h₀ L s.heap m) (_X : (Mine.K0 w.params).In h₀) (R : Lw w S rest c cz u q nx) (N : News h₀ L s.heap nx) (hl : aLook c k = some v) (h : ∀ t, Q (.int v t) { s with toks := s.toks + 1 }) : wpAny (model PySem.Challenge.rw_ki0005_01.row.prog w) A (getItem (.ref S.d) (.int k tk)) Q E s := by
  refine Classical.byContradiction fun hn9 => ?_
  obtain ⟨od, U, hm, D, hU, back⟩ := R.d
  refine hn9 ?_; clear hn9
  exact dr_getItem N hm D hl fun x hx => by obtain ⟨t, rfl⟩ := hx; exact h t
theorem d_getno {Q : Value → Shared → Prop} {k : Int} {tk : Tok} (F : Fr h₀ L s.heap m) (_X : (Mine.K0 w.params).In h₀) (R : Lw w S rest c cz u q nx) (N : News h₀ L s.heap nx) (hh : A.handled = none) (hl : aHas c k = false) (h : ∀ h' e, Heap.NewExc s.heap h' e "KeyError" → E (.ref e) { s with heap := h', toks := s.toks + 1 }) : wpAny (model PySem.Challenge.rw_ki0005_01.row.prog w) A (getItem (.ref S.d) (.int k tk)) Q E s := by
  refine Classical.byContradiction fun hn9 => ?_
  obtain ⟨od, U, hm, D, hU, back⟩ := R.d
  refine hn9 ?_; clear hn9
  exact dr_getItem_missing hh N hm D hl h
theorem d_set {Q : Unit → Shared → Prop} {k : Int} {tk : Tok} {v : Int} {tv : Tok} (F : Fr h₀ L s.heap m) (_X : (Mine.K0 w.params).In h₀) (R : Lw w S rest c cz u q nx) (N : News h₀ L s.heap nx) (hr : c.length < 100) (h : ∀ h' nx', Lw w S rest (aPut c k v) cz u q nx' → Fr h₀ L h' m → News h₀ L h' nx' → Q () { s with heap := h', toks := s.toks + 1 }) : wpAny (model PySem.Challenge.rw_ki0005_01.row.prog w) A (setItem (.ref S.d) (.int k tk) (.int v tv)) Q E s := by
  refine Classical.byContradiction fun hn9 => ?_
  obtain ⟨od, U, hm, D, hU, back⟩ := R.d
  refine hn9 ?_; clear hn9
  exact dr_set F N hU D ⟨_, rfl⟩ hr fun h' o' F' N' D' => h h' _ (back _ _ D') F' N'
theorem d_clr_m {Q : Value × List Value → Shared → Prop} {pl : Sem Bool} (F : Fr h₀ L s.heap m) (_X : (Mine.K0 w.params).In h₀) (R : Lw w S rest c cz u q nx) (N : News h₀ L s.heap nx) (h : Q (.builtin "dict.clear", [.ref S.d]) s) : wpAny (model PySem.Challenge.rw_ki0005_01.row.prog w) A (getMethod (.ref S.d) (Str.ofString "clear") pl) Q E s := by
  refine Classical.byContradiction fun hn9 => ?_
  obtain ⟨od, U, hm, D, hU, back⟩ := R.d
  refine hn9 ?_; clear hn9
  exact dr_clear_method N hm D h
theorem d_clr {Q : Value → Shared → Prop}  (F : Fr h₀ L s.heap m) (_X : (Mine.K0 w.params).In h₀) (R : Lw w S rest c cz u q nx) (N : News h₀ L s.heap nx) (h : ∀ h' nx', Lw w S rest [] cz u q nx' → Fr h₀ L h' m → News h₀ L h' nx' → Q .none { s with heap := h' }) : wpAny (model PySem.Challenge.rw_ki0005_01.row.prog w) A (call (.builtin "dict.clear") [.ref S.d]) Q E s := by
  refine Classical.byContradiction fun hn9 => ?_
  obtain ⟨od, U, hm, D, hU, back⟩ := R.d
  refine hn9 ?_; clear hn9
  exact dr_clear F N hU D fun h' o' F' N' D' => h h' _ (back _ _ D') F' N'
theorem z_tail {Q : Value → Shared → Prop} {value slice : PySem.Expr} {key : Value} (F : Fr h₀ L s.heap m) (_X : (Mine.K0 w.params).In h₀) (R : Lw w S rest c cz u q nx) (N : News h₀ L s.heap nx) (hs : S.sized = true) (h : wpAny (model PySem.Challenge.rw_ki0005_01.row.prog w) A (getItem (.ref S.z) key) Q E s) (hs9 : subscripted slice false (.ref S.z) key = operate [.ref S.z, key] (getItem (.ref S.z) key) := by with_unfolding_all rfl) : wpAny (model PySem.Challenge.rw_ki0005_01.row.prog w) A (subscriptTail value slice (.ref S.z) key) Q E s := by
  refine Classical.byContradiction fun hn9 => ?_
  obtain ⟨od, U, hm, D, hU, back⟩ := Lw.z hs R
  refine hn9 ?_; clear hn9
  exact dr_tail N hm D h hs9
theorem z_get {Q : Value → Shared → Prop} {k : Int} {tk : Tok} {v : Int} (F : Fr h₀ L s.heap m) (_X : (Mine.K0 w.params).In h₀) (R : Lw w S rest c cz u q nx) (N : News h₀ L s.heap nx) (hs : S.sized = true) (hl : aLook cz k = some v) (h : ∀ t, Q (.int v t) { s with toks := s.toks + 1 }) : wpAny (model PySem.Challenge.rw_ki0005_01.row.prog w) A (getItem (.ref S.z) (.int k tk)) Q E s := by
  refine Classical.byContradiction fun hn9 => ?_
  obtain ⟨od, U, hm, D, hU, back⟩ := Lw.z hs R
  refine hn9 ?_; clear hn9
  exact dr_getItem N hm D hl fun x hx => by obtain ⟨t, rfl⟩ := hx; exact h t
theorem z_set {Q : Unit → Shared → Prop} {k : Int} {tk : Tok} {v : Int} {tv : Tok} (F : Fr h₀ L s.heap m) (_X : (Mine.K0 w.params).In h₀) (R : Lw w S rest c cz u q nx) (N : News h₀ L s.heap nx) (hs : S.sized = true) (hr : cz.length < 100) (h : ∀ h' nx', Lw w S rest c (aPut cz k v) u q nx' → Fr h₀ L h' m → News h₀ L h' nx' → Q () { s with heap := h', toks := s.toks + 1 }) : wpAny (model PySem.Challenge.rw_ki0005_01.row.prog w) A (setItem (.ref S.z) (.int k tk) (.int v tv)) Q E s := by
  refine Classical.byContradiction fun hn9 => ?_
  obtain ⟨od, U, hm, D, hU, back⟩ := Lw.z hs R
  refine hn9 ?_; clear hn9
  exact dr_set F N hU D ⟨_, rfl⟩ hr fun h' o' F' N' D' => h h' _ (back _ _ D') F' N'
theorem z_clr_m {Q : Value × List Value → Shared → Prop} {pl : Sem Bool} (F : Fr h₀ L s.heap m) (_X : (Mine.K0 w.params).In h₀) (R : Lw w S rest c cz u q nx) (N : News h₀ L s.heap nx) (hs : S.sized = true) (h : Q (.builtin "dict.clear", [.ref S.z]) s) : wpAny (model PySem.Challenge.rw_ki0005_01.row.prog w) A (getMethod (.ref S.z) (Str.ofString "clear") pl) Q E s := by
  refine Classical.byContradiction fun hn9 => ?_
  obtain ⟨od, U, hm, D, hU, back⟩ := Lw.z hs R
  refine hn9 ?_; clear hn9
  exact dr_clear_method N hm D h
theorem z_clr {Q : Value → Shared → Prop}  (F : Fr h₀ L s.heap m) (_X : (Mine.K0 w.params).In h₀) (R : Lw w S rest c cz u q nx) (N : News h₀ L s.heap nx) (hs : S.sized = true) (h : ∀ h' nx', Lw w S rest c [] u q nx' → Fr h₀ L h' m → News h₀ L h' nx' → Q .none { s with heap := h' }) : wpAny (model PySem.Challenge.rw_ki0005_01.row.prog w) A (call (.builtin "dict.clear") [.ref S.z]) Q E s := by
  refine Classical.byContradiction fun hn9 => ?_
  obtain ⟨od, U, hm, D, hU, back⟩ := Lw.z hs R
  refine hn9 ?_; clear hn9
  exact dr_clear F N hU D fun h' o' F' N' D' => h h' _ (back _ _ D') F' N'
theorem d_del {Q : Unit → Shared → Prop} {k : Int} {tk : Tok} (F : Fr h₀ L s.heap m) (_X : (Mine.K0 w.params).In h₀) (R : Lw w S rest c cz u q nx) (N : News h₀ L s.heap nx) (hl : aHas c k = true) (h : ∀ h' nx', Lw w S rest (aDel c k) cz u q nx' → Fr h₀ L h' m → News h₀ L h' nx' → Q () { s with heap := h', toks := s.toks + 1 }) : wpAny (model PySem.Challenge.rw_ki0005_01.row.prog w) A (delItem (.ref S.d) (.int k tk)) Q E s := by
  refine Classical.byContradiction fun hn9 => ?_
  obtain ⟨od, U, hm, D, hU, back⟩ := R.d
  refine hn9 ?_; clear hn9
  exact dr_del F N hU D hl fun h' o' F' N' D' => h h' _ (back _ _ D') F' N'
theorem d_delno {Q : Unit → Shared → Prop} {k : Int} {tk : Tok} (F : Fr h₀ L s.heap m) (_X : (Mine.K0 w.params).In h₀) (R : Lw w S rest c cz u q nx) (N : News h₀ L s.heap nx) (hh : A.handled = none) (hl : aHas c k = false) (h : ∀ h' e, Heap.NewExc s.heap h' e "KeyError" → E (.ref e) { s with heap := h', toks := s.toks + 1 }) : wpAny (model PySem.Challenge.rw_ki0005_01.row.prog w) A (delItem (.ref S.d) (.int k tk)) Q E s := by
  refine Classical.byContradiction fun hn9 => ?_
  obtain ⟨od, U, hm, D, hU, back⟩ := R.d
  refine hn9 ?_; clear hn9
  exact dr_del_missing hh N hm D hl h
theorem d_len {Q : Value → Shared → Prop}  (F : Fr h₀ L s.heap m) (_X : (Mine.K0 w.params).In h₀) (R : Lw w S rest c cz u q nx) (N : News h₀ L s.heap nx) (h : Q (.int (c.length : Nat) (s.toks + 1)) { s with toks := s.toks + 1 + 1 }) : wpAny (model PySem.Challenge.rw_ki0005_01.row.prog w) A (call (.builtin "len") [.ref S.d]) Q E s := by
  refine Classical.byContradiction fun hn9 => ?_
  obtain ⟨od, U, hm, D, hU, back⟩ := R.d
  refine hn9 ?_; clear hn9
  exact dr_len N hm D h
theorem d_iter {Q : Value → Shared → Prop}  (F : Fr h₀ L s.heap m) (_X : (Mine.K0 w.params).In h₀) (R : Lw w S rest c cz u q nx) (N : News h₀ L s.heap nx) (h : ∀ h' I oI od kvs ep, Fr h₀ L h' m → News h₀ L h' ((I, oI) :: nx) → (∀ p ∈ nx, p.1 ≠ I) → RelL isI kvs c → KdkIter oI S.d 0 kvs.length ep → KdkAt (PySem.intKind PySem.Challenge.rw_ki0005_01.row.prog w) od kvs ep → (S.d, od) ∈ nx → Q (.ref I) { s with heap := h' }) : wpAny (model PySem.Challenge.rw_ki0005_01.row.prog w) A (call (.builtin "iter") [.ref S.d]) Q E s := by
  refine Classical.byContradiction fun hn9 => ?_
  obtain ⟨od, U, hm, D, hU, back⟩ := R.d
  refine hn9 ?_; clear hn9
  exact dr_iter F N hm D fun I h' oI kvs ep F' N' l hr hi ha => h h' I oI od kvs ep F' N' (ne_of_all l) hr hi ha hm
theorem z_pop_m {Q : Value × List Value → Shared → Prop} {pl : Sem Bool} (F : Fr h₀ L s.heap m) (_X : (Mine.K0 w.params).In h₀) (R : Lw w S rest c cz u q nx) (N : News h₀ L s.heap nx) (hs : S.sized = true) (h : Q (.builtin "dict.pop", [.ref S.z]) s) : wpAny (model PySem.Challenge.rw_ki0005_01.row.prog w) A (getMethod (.ref S.z) (Str.ofString "pop") pl) Q E s := by
  refine Classical.byContradiction fun hn9 => ?_
  obtain ⟨od, U, hm, D, hU, back⟩ := Lw.z hs R
  refine hn9 ?_; clear hn9
  exact dr_pop_method N hm D h
theorem z_pop {Q : Value → Shared → Prop} {k : Int} {tk : Tok} {v : Int} (F : Fr h₀ L s.heap m) (_X : (Mine.K0 w.params).In h₀) (R : Lw w S rest c cz u q nx) (N : News h₀ L s.heap nx) (hs : S.sized = true) (hl : aLook cz k = some v) (h : ∀ h' nx' t, Lw w S rest c (aDel cz k) u q nx' → Fr h₀ L h' m → News h₀ L h' nx' → Q (.int v t) { s with heap := h', toks := s.toks + 1 }) : wpAny (model PySem.Challenge.rw_ki0005_01.row.prog w) A (call (.builtin "dict.pop") [.ref S.z, .int k tk]) Q E s := by
  refine Classical.byContradiction fun hn9 => ?_
  obtain ⟨od, U, hm, D, hU, back⟩ := Lw.z hs R
  refine hn9 ?_; clear hn9
  exact dr_pop F N hU D hl fun h' o' x hx F' N' D' => by obtain ⟨t, rfl⟩ := hx; exact h h' _ t (back _ _ D') F' N'
theorem z_popno {Q : Value → Shared → Prop} {k : Int} {tk : Tok} (F : Fr h₀ L s.heap m) (_X : (Mine.K0 w.params).In h₀) (R : Lw w S rest c cz u q nx) (N : News h₀ L s.heap nx) (hs : S.sized = true) (hh : A.handled = none) (hl : aHas cz k = false) (h : ∀ h' e, Heap.NewExc s.heap h' e "KeyError" → E (.ref e) { s with heap := h', toks := s.toks + 1 }) : wpAny (model PySem.Challenge.rw_ki0005_01.row.prog w) A (call (.builtin "dict.pop") [.ref S.z, .int k tk]) Q E s := by
  refine Classical.byContradiction fun hn9 => ?_
  obtain ⟨od, U, hm, D, hU, back⟩ := Lw.z hs R
  refine hn9 ?_; clear hn9
  exact dr_pop_missing hh N hm D hl h
theorem o_in {Q : Value → Shared → Prop} {k : Int} {tk : Tok} (F : Fr h₀ L s.heap m) (_X : (Mine.K0 w.params).In h₀) (R : Lw w S rest c cz u q nx) (N : News h₀ L s.heap nx) (hs : S.fifo = true) {b : Bool} (hb : decide (k ∈ q) = b) (h : Q (.bool b) { s with toks := s.toks + 1 }) : wpAny (model PySem.Challenge.rw_ki0005_01.row.prog w) A (compareOp .In (.int k tk) (.ref S.o)) Q E s := by
  refine Classical.byContradiction fun hn9 => ?_
  obtain ⟨od, U, hm, D, hU, back⟩ := Lw.o hs R
  refine hn9 ?_; clear hn9
  exact dr_in_b b N hm D (by rw [uOf_has]; exact hb) h
theorem o_set {Q : Unit → Shared → Prop} {k : Int} {tk : Tok} {v : Value} (F : Fr h₀ L s.heap m) (_X : (Mine.K0 w.params).In h₀) (R : Lw w S rest c cz u q nx) (N : News h₀ L s.heap nx) (hs : S.fifo = true) (hr : q.length < 100) (hk : k ∉ q) (h : ∀ h' nx', Lw w S rest c cz u (q ++ [k]) nx' → Fr h₀ L h' m → News h₀ L h' nx' → Q () { s with heap := h', toks := s.toks + 1 }) : wpAny (model PySem.Challenge.rw_ki0005_01.row.prog w) A (setItem (.ref S.o) (.int k tk) v) Q E s := by
  refine Classical.byContradiction fun hn9 => ?_
  obtain ⟨od, U, hm, D, hU, back⟩ := Lw.o hs R
  refine hn9 ?_; clear hn9
  exact dr_set (v := ()) F N hU D trivial (by unfold uOf; rw [List.length_map]; exact hr) fun h' o' F' N' D' => h h' _ (back _ _ (by rw [← uOf_put_new hk]; exact D')) F' N'
theorem o_pop_m {Q : Value × List Value → Shared → Prop} {pl : Sem Bool} (F : Fr h₀ L s.heap m) (_X : (Mine.K0 w.params).In h₀) (R : Lw w S rest c cz u q nx) (N : News h₀ L s.heap nx) (hs : S.fifo = true) (h : Q (.builtin "dict.pop", [.ref S.o]) s) : wpAny (model PySem.Challenge.rw_ki0005_01.row.prog w) A (getMethod (.ref S.o) (Str.ofString "pop") pl) Q E s := by
  refine Classical.byContradiction fun hn9 => ?_
  obtain ⟨od, U, hm, D, hU, back⟩ := Lw.o hs R
  refine hn9 ?_; clear hn9
  exact dr_pop_method N hm D h
theorem o_pop {Q : Value → Shared → Prop} {k : Int} {tk : Tok} (F : Fr h₀ L s.heap m) (_X : (Mine.K0 w.params).In h₀) (R : Lw w S rest c cz u q nx) (N : News h₀ L s.heap nx) (hs : S.fifo = true) (hl : k ∈ q) (h : ∀ h' nx' v, Lw w S rest c cz u (qDel q k) nx' → Fr h₀ L h' m → News h₀ L h' nx' → Q v { s with heap := h', toks := s.toks + 1 }) : wpAny (model PySem.Challenge.rw_ki0005_01.row.prog w) A (call (.builtin "dict.pop") [.ref S.o, .int k tk]) Q E s := by
  refine Classical.byContradiction fun hn9 => ?_
  obtain ⟨od, U, hm, D, hU, back⟩ := Lw.o hs R
  refine hn9 ?_; clear hn9
  exact dr_pop (v := ()) F N hU D (by obtain ⟨_, h9⟩ := aLook_of_has (by rw [uOf_has]; exact decide_eq_true hl : aHas (uOf q) k = true); exact h9) fun h' o' x _ F' N' D' => h h' _ x (back _ _ (by rw [← uOf_del]; exact D')) F' N'
theorem o_del {Q : Unit → Shared → Prop} {k : Int} {tk : Tok} (F : Fr h₀ L s.heap m) (_X : (Mine.K0 w.params).In h₀) (R : Lw w S rest c cz u q nx) (N : News h₀ L s.heap nx) (hs : S.fifo = true) (hl : k ∈ q) (h : ∀ h' nx', Lw w S rest c cz u (qDel q k) nx' → Fr h₀ L h' m → News h₀ L h' nx' → Q () { s with heap := h', toks := s.toks + 1 }) : wpAny (model PySem.Challenge.rw_ki0005_01.row.prog w) A (delItem (.ref S.o) (.int k tk)) Q E s := by
  refine Classical.byContradiction fun hn9 => ?_
  obtain ⟨od, U, hm, D, hU, back⟩ := Lw.o hs R
  refine hn9 ?_; clear hn9
  exact dr_del F N hU D (by rw [uOf_has]; exact decide_eq_true hl) fun h' o' F' N' D' => h h' _ (back _ _ (by rw [← uOf_del]; exact D')) F' N'
theorem o_clr_m {Q : Value × List Value → Shared → Prop} {pl : Sem Bool} (F : Fr h₀ L s.heap m) (_X : (Mine.K0 w.params).In h₀) (R : Lw w S rest c cz u q nx) (N : News h₀ L s.heap nx) (hs : S.fifo = true) (h : Q (.builtin "dict.clear", [.ref S.o]) s) : wpAny (model PySem.Challenge.rw_ki0005_01.row.prog w) A (getMethod (.ref S.o) (Str.ofString "clear") pl) Q E s := by
  refine Classical.byContradiction fun hn9 => ?_
  obtain ⟨od, U, hm, D, hU, back⟩ := Lw.o hs R
  refine hn9 ?_; clear hn9
  exact dr_clear_method N hm D h
theorem o_clr {Q : Value → Shared → Prop}  (F : Fr h₀ L s.heap m) (_X : (Mine.K0 w.params).In h₀) (R : Lw w S rest c cz u q nx) (N : News h₀ L s.heap nx) (hs : S.fifo = true) (h : ∀ h' nx', Lw w S rest c cz u [] nx' → Fr h₀ L h' m → News h₀ L h' nx' → Q .none { s with heap := h' }) : wpAny (model PySem.Challenge.rw_ki0005_01.row.prog w) A (call (.builtin "dict.clear") [.ref S.o]) Q E s := by
  refine Classical.byContradiction fun hn9 => ?_
  obtain ⟨od, U, hm, D, hU, back⟩ := Lw.o hs R
  refine hn9 ?_; clear hn9
  exact dr_clear F N hU D fun h' o' F' N' D' => h h' _ (back _ [] D') F' N'
theorem o_iter {Q : Value → Shared → Prop}  (F : Fr h₀ L s.heap m) (_X : (Mine.K0 w.params).In h₀) (R : Lw w S rest c cz u q nx) (N : News h₀ L s.heap nx) (hs : S.fifo = true) (h : ∀ h' I oI od kvs ep, Fr h₀ L h' m → News h₀ L h' ((I, oI) :: nx) → (∀ p ∈ nx, p.1 ≠ I) → RelL isU kvs (uOf q) → KdkIter oI S.o 0 kvs.length ep → KdkAt (PySem.intKind PySem.Challenge.rw_ki0005_01.row.prog w) od kvs ep → (S.o, od) ∈ nx → Q (.ref I) { s with heap := h' }) : wpAny (model PySem.Challenge.rw_ki0005_01.row.prog w) A (call (.builtin "iter") [.ref S.o]) Q E s := by
  refine Classical.byContradiction fun hn9 => ?_
  obtain ⟨od, U, hm, D, hU, back⟩ := Lw.o hs R
  refine hn9 ?_; clear hn9
  exact dr_iter F N hm D fun I h' oI kvs ep F' N' l hr hi ha => h h' I oI od kvs ep F' N' (ne_of_all l) hr hi ha hm
end
section
variable {α : Type} {w : World} {rel : α → Value → Prop} {A : Around} {E : Value → Shared → Prop} {s : Shared} {h₀ : Heap} {L d it : Addr} {m : Str → Option Value} {nx : Led} {od io : Obj} {ep : Nat} {kvs : List (Int × Value)} {Q : Value → Shared → Prop}
theorem n_next {k : Int} {v : α} {c' : List (Int × α)} (F : Fr h₀ L s.heap m) (N : News h₀ L s.heap ((it, io) :: nx)) (off : ∀ p ∈ nx, p.1 ≠ it) (hi : KdkIter io d 0 kvs.length ep) (ha : KdkAt (PySem.intKind PySem.Challenge.rw_ki0005_01.row.prog w) od kvs ep) (hp : (d, od) ∈ nx)
    (hr : RelL rel kvs ((k, v) :: c')) (h : ∀ h' t, Fr h₀ L h' m → News h₀ L h' nx → Q (.int k t) { s with heap := h' }) :
    wpAny (model PySem.Challenge.rw_ki0005_01.row.prog w) A (call (.builtin "next") [.ref it]) Q E s :=
  dr_next F N (.head off) hi ha (.tail _ hp) hr fun h' o' t F' N' => h h' t F' fun p hp => N' p (.tail _ hp)
theorem n_end (F : Fr h₀ L s.heap m) (N : News h₀ L s.heap ((it, io) :: nx)) (off : ∀ p ∈ nx, p.1 ≠ it) (hi : KdkIter io d 0 kvs.length ep) (ha : KdkAt (PySem.intKind PySem.Challenge.rw_ki0005_01.row.prog w) od kvs ep) (hp : (d, od) ∈ nx) (hh : A.handled = none)
    (hr : RelL rel kvs []) (h : ∀ h1 h' e, Fr h₀ L h1 m → News h₀ L h1 nx → Heap.NewExc h1 h' e "StopIteration" → E (.ref e) { s with heap := h' }) :
    wpAny (model PySem.Challenge.rw_ki0005_01.row.prog w) A (call (.builtin "next") [.ref it]) Q E s :=
  dr_next_end hh F N (.head off) hi ha (.tail _ hp) hr fun h1 o' h' e F' N' x => h h1 h' e F' (fun p hp => N' p (.tail _ hp)) x
end
-- En
/-! a call of a def: its names told shortly, the count of tokens forgotten -/
section
variable {prog : Program} {w : World} {A₀ A : Around} {s : Shared} {base h₀ g₀ : Heap} {outer : List Env} {L a : Addr} {m : Str → Option Value} {cn : Str} {cs : Scope} {ccd : Value} {news : Led} {K : Frag} {p : Program} {loose : List Str} {mean : ExcName → Option Value} {mg mb : Str → Option Value}
  {R : Result → Shared → Prop} {name qual : Str} {params : Arguments} {body : List Stmt} {scope : Scope} {dV kV doc pm cdv ct oc : Value} {an od : Option Addr} {osl : Array (Option Value)} {f : Addr} {args : Args} {binds : List (Str × Value)} {env : Env}
theorem enD (bs : List (Str × Value)) (B : Below A₀ base outer h₀) (F : Fr h₀ L s.heap m) (X₀ : K.In h₀) (N : News h₀ L s.heap news) (T : Top p loose mean mg mb h₀) (hA : A.frames = some (env :: outer)) (hf : env.frame = some L) (hke : env.scope.kind = .function)
    (ho : K.lookup f = some ⟨oc, od, .func (fnOf name qual params body scope dV kV doc pm an cdv ct), osl⟩) (hcd : codeIn K cdv qual = true) (hroom : A.depth < recursionLimit)
    (hbind : BindsTo s (fnOf name qual params body scope dV kV doc pm an cdv ct) args binds) (hloc : ∀ y ∈ binds, scope.names.lookup y.1 = some .local) (hbs : binds.reverse = bs)
    (h : ∀ g L' h₁ tk, Fr h₀ L g m → Fr g L' h₁ (fun y => List.lookup y bs) → News g L' h₁ news → Below A base (env :: outer) g → K.In g → Top p loose mean mg mb g →
      wpAny (model prog w) (A.deeper (envOf qual scope L' f cdv)) (execs body (envOf qual scope L' f cdv))
        (fun fl s' => LeaveK h₀ L m g R (match fl with | .ret v => v | _ => .none) s')
        (fun e s' => wpAny (model prog w) (A.deeper (envOf qual scope L' f cdv)) (leaving (envOf qual scope L' f cdv) e) (fun _ s'' => R (.error e) s'') (fun e' s'' => R (.error e') s'') s')
        { s with heap := h₁, toks := tk })
    (hco : scope.isCoroutine = false) (hgen : scope.isGenerator = false) (hk : scope.kind = .function) (hcell : ∀ x ∈ scope.names, x.2 ≠ .cell) : codeAny (model prog w) A (.call (.ref f) args) R s := by
  subst hbs
  exact code_def B F X₀ N T hA hf hke ho hcd hroom hbind hloc (fun g L' h₁ FG F' N' B' X' T' => h g L' h₁ _ FG F' N' B' X' T') hco hgen hk hcell
theorem enDS (bs : List (Str × Value)) (B : Below A₀ base outer h₀) (F : Fr h₀ L s.heap m) (X₀ : K.In h₀) (N : News h₀ L s.heap news) (T : Top p loose mean mg mb h₀) (XB : K.In base) (TB : Top p loose mean mg mb base) (D : KtsDicts (outer.filterMap (·.frame)) h₀)
    (T0 : KtsTurn (outer.filterMap (·.frame)) g₀ h₀) (hA : A.frames = some (envOf cn cs L a ccd :: outer))
    (ho : K.lookup f = some ⟨oc, od, .func (fnOf name qual params body scope dV kV doc pm an cdv ct), osl⟩) (hcd : codeIn K cdv qual = true) (hroom : A.depth < recursionLimit)
    (hbind : BindsTo s (fnOf name qual params body scope dV kV doc pm an cdv ct) args binds) (hloc : ∀ y ∈ binds, scope.names.lookup y.1 = some .local) (hbs : binds.reverse = bs)
    (h : ∀ g L' h₁ tk, Fr h₀ L g m → Fr g L' h₁ (fun y => List.lookup y bs) → News g L' h₁ news → Below A base (envOf cn cs L a ccd :: outer) g → K.In g → Top p loose mean mg mb g → KtsDicts ((envOf cn cs L a ccd :: outer).filterMap (·.frame)) g →
      wpAny (model prog w) (A.deeper (envOf qual scope L' f cdv)) (execs body (envOf qual scope L' f cdv))
        (fun fl s' => LeaveS ((envOf cn cs L a ccd :: outer).filterMap (·.frame)) A₀ base outer K p loose mean mg mb g₀ h₀ L m g R (match fl with | .ret v => v | _ => .none) s')
        (fun e s' => wpAny (model prog w) (A.deeper (envOf qual scope L' f cdv)) (leaving (envOf qual scope L' f cdv) e) (fun _ s'' => R (.error e) s'') (fun e' s'' => R (.error e') s'') s')
        { s with heap := h₁, toks := tk })
    (hck : cs.kind = .function) (hco : scope.isCoroutine = false) (hgen : scope.isGenerator = false) (hk : scope.kind = .function) (hcell : ∀ x ∈ scope.names, x.2 ≠ .cell) : codeAny (model prog w) A (.call (.ref f) args) R s := by
  subst hbs
  exact code_defS B F X₀ N T XB TB D T0 hA ho hcd hroom hbind hloc (fun g L' h₁ FG F' N' B' X' T' D' => h g L' h₁ _ FG F' N' B' X' T' D') hck hco hgen hk hcell
theorem enDS0 (bs : List (Str × Value)) (B : Below A₀ base [] h₀) (F : Fr h₀ L s.heap m) (X₀ : K.In h₀) (N : News h₀ L s.heap news) (T : Top p loose mean mg mb h₀) (hA : A.frames = some [envOf cn cs L a ccd])
    (ho : K.lookup f = some ⟨oc, od, .func (fnOf name qual params body scope dV kV doc pm an cdv ct), osl⟩) (hcd : codeIn K cdv qual = true) (hroom : A.depth < recursionLimit)
    (hbind : BindsTo s (fnOf name qual params body scope dV kV doc pm an cdv ct) args binds) (hloc : ∀ y ∈ binds, scope.names.lookup y.1 = some .local) (hbs : binds.reverse = bs)
    (h : ∀ g L' h₁ tk, Fr h₀ L g m → Fr g L' h₁ (fun y => List.lookup y bs) → News g L' h₁ news → Below A base [envOf cn cs L a ccd] g → K.In g → Top p loose mean mg mb g → KtsDicts ([envOf cn cs L a ccd].filterMap (·.frame)) g →
      wpAny (model prog w) (A.deeper (envOf qual scope L' f cdv)) (execs body (envOf qual scope L' f cdv))
        (fun fl s' => LeaveS0 ([envOf cn cs L a ccd].filterMap (·.frame)) h₀ L m g R (match fl with | .ret v => v | _ => .none) s')
        (fun e s' => wpAny (model prog w) (A.deeper (envOf qual scope L' f cdv)) (leaving (envOf qual scope L' f cdv) e) (fun _ s'' => R (.error e) s'') (fun e' s'' => R (.error e') s'') s')
        { s with heap := h₁, toks := tk })
    (hck : cs.kind = .function) (hco : scope.isCoroutine = false) (hgen : scope.isGenerator = false) (hk : scope.kind = .function) (hcell : ∀ x ∈ scope.names, x.2 ≠ .cell) : codeAny (model prog w) A (.call (.ref f) args) R s := by
  subst hbs
  exact code_defS0 B F X₀ N T hA ho hcd hroom hbind hloc (fun g L' h₁ FG F' N' B' X' T' D' => h g L' h₁ _ FG F' N' B' X' T' D') hck hco hgen hk hcell
end
-- Li
/-! lines of the walk over the cache's own state -/
-- Ba
/-- the cache bears c, in the order q -/
noncomputable abbrev Cw (w : World) (S : Sh) (rest : Led) (c : List (Int × Int)) (q : List Int) (nx : Led) : Prop := Lw w S rest c (zOf S.sz c) (total S.sz c) q nx
theorem Lw.anyz {w : World} {S : Sh} {rest nx : Led} {c cz cz' : List (Int × Int)} {u : Int} {q : List Int} (hs : S.sized = false) (R : Lw w S rest c cz u q nx) : Lw w S rest c cz' u q nx := by
  refine Classical.byContradiction fun hn9 => ?_
  obtain ⟨off, nd, od, oz, oq, tc, rfl, hd, hz, hq⟩ := R
  refine hn9 ?_; clear hn9
  exact ⟨off, nd, od, oz, oq, tc, rfl, hd, (fun h => by rw [hs] at h; cases h), hq⟩
theorem Lw.anyq {w : World} {S : Sh} {rest nx : Led} {c cz : List (Int × Int)} {u : Int} {q q' : List Int} (hs : S.fifo = false) (R : Lw w S rest c cz u q nx) : Lw w S rest c cz u q' nx := by
  refine Classical.byContradiction fun hn9 => ?_
  obtain ⟨off, nd, od, oz, oq, tc, rfl, hd, hz, hq⟩ := R
  refine hn9 ?_; clear hn9
  exact ⟨off, nd, od, oz, oq, tc, rfl, hd, hz, (fun h => by rw [hs] at h; cases h)⟩
theorem Sh.szT {S : Sh} (hs : S.sized = true) : S.sz = szS := by unfold Sh.sz; rw [hs]
theorem Sh.szF {S : Sh} (hs : S.sized = false) : S.sz = szU := by unfold Sh.sz; rw [hs]
set_option maxHeartbeats 2000000 in
theorem bget_ok {w : World} {p : Program} {loose : List Str} {mean : ExcName → Option Value} {mg mb : Str → Option Value} {dp un : Nat} {gd : Option (List Code)} {cn : Str} {cs : Scope} {a : Addr} {ccd : Value} {outer : List Env} {A₀ : Around} {base h₀ : Heap} {L : Addr} {m : Str → Option Value} {s : Shared} {E : Value → Shared → Prop} {S : Sh} {rest nx : Led} {c : List (Int × Int)} {q : List Int} {Q : Value → Shared → Prop} {k v : Int} {tk : Tok}
  (B : Below A₀ base outer h₀) (F : Fr h₀ L s.heap m) (X : (Mine.K0 w.params).In h₀) (T : Top p loose mean mg mb h₀) (hk : cs.kind = .function) (R : Cw w S rest c q nx) (N : News h₀ L s.heap nx) (hl : aLook c k = some v) (hdp : dp + 8 < recursionLimit) (hun : un + 60 < cLine) (ret : ∀ h' tk' t, Fr h₀ L h' m → News h₀ L h' nx → Q (.int v t) { s with heap := h', toks := tk' }) :
  wpAny (model PySem.Challenge.rw_ki0005_01.row.prog w) (ktrTop dp un gd cn cs L a ccd [] outer) (call (.ref 728) [.ref S.x, .int k tk]) Q E s := by
  (refine wpAny_call ?_; (k_dflt (refine' enD ([(Str.ofString "key", .int k tk), (Str.ofString "self", .ref S.x)]) ?k1 ?k2 ?k3 ?k4 ?k5 ?kA ?kF ?kK ?k6 ?k7 ?k8 ?k9 ?kB ?kR ?_ ?c2 ?c3 ?c4 ?c5; (case kA => exact rfl); (case kF => exact rfl); (case kK => first | exact rfl | assumption); (case k1 => k_asm); (case k2 => k_asm); (case k3 => k_asm); (case k4 => k_asm); (case k5 => k_asm); (case k6 => k_is); (case k7 => k_is); (case k8 => first | ktr_room | (refine depth_mark ?_; ktr_room)); (case k9 => first | exact BindsTo.of_eq rfl | exact binds_K (by k_in) rfl (by k_is) rfl rfl rfl); (case c5 => decide); (case kB => exact locs rfl); (case kR => exact rfl); (case c2 => exact rfl); (case c3 => exact rfl); (case c4 => exact rfl); k_whole; intro g' L' h' tk' FG' F' N' B' X' T'; (try dsimp only); (try k_fold))))
  (repeat' ((fail_if_success (with_reducible show wpAny _ _ (exec (Stmt.While _ _ _ _) _) _ _ _)); first | (k_unfold; (try dsimp only)) | ((with_reducible show wpAny _ _ (getAttr _ _ _) _ _ _); k_invariant "lw" at_data) | ((with_reducible show wpAny _ _ (getItem _ _) _ _ _); k_invariant "lw" d_get) | ((with_reducible show wpAny _ _ (subscriptTail _ _ (Value.ref (Sh.d _)) _) _ _ _); refine d_tail (by k_asm) (by k_asm) (by k_asm) (by first | with_reducible assumption | walk_at "my news") ?_; k_whole) | walk1 | dsimp only | (leave1; try dsimp only)))
  exact ret _ _ _ (by assumption) (by assumption)
set_option maxHeartbeats 2000000 in
theorem bget_no {w : World} {p : Program} {loose : List Str} {mean : ExcName → Option Value} {mg mb : Str → Option Value} {dp un : Nat} {gd : Option (List Code)} {cn : Str} {cs : Scope} {a : Addr} {ccd : Value} {outer : List Env} {A₀ : Around} {base h₀ : Heap} {L : Addr} {m : Str → Option Value} {s : Shared} {E : Value → Shared → Prop} {S : Sh} {rest nx : Led} {c : List (Int × Int)} {q : List Int} {Q : Value → Shared → Prop} {k : Int} {tk : Tok}
  (XB : (Mine.K0 w.params).In base) (TB : Top p loose mean mg mb base) (D : KtsDicts (outer.filterMap (·.frame)) h₀) (B : Below A₀ base outer h₀) (F : Fr h₀ L s.heap m) (X : (Mine.K0 w.params).In h₀) (T : Top p loose mean mg mb h₀) (hk : cs.kind = .function) (R : Cw w S rest c q nx) (N : News h₀ L s.heap nx) (hl : aHas c k = false) (hdp : dp + 12 < recursionLimit) (hun : un + 90 < cLine) (exc : ∀ g' h' e tk', Fr h₀ L g' m → RaisedSN base g' (envOf cn cs L a ccd :: outer) e (.type "KeyError") nx h' → g'.UpToSlots h' → E (.ref e) { s with heap := h', toks := tk' }) :
  wpAny (model PySem.Challenge.rw_ki0005_01.row.prog w) (ktrTop dp un gd cn cs L a ccd [] outer) (call (.ref 728) [.ref S.x, .int k tk]) Q E s := by
  (refine wpAny_call ?_; (k_dflt (refine' enDS ([(Str.ofString "key", .int k tk), (Str.ofString "self", .ref S.x)]) ?k1 ?k2 ?k3 ?k4 ?k5 ?XB ?TB ?D ?T0 ?kA ?k6 ?k7 ?k8 ?k9 ?kB ?kR ?_ ?cK ?c2 ?c3 ?c4 ?c5; (case kA => exact rfl); (case k2 => k_asm); (case k1 => k_asm); (case XB => assumption); (case TB => assumption); (case D => assumption); (case T0 => first | assumption | exact KtsTurn.refl); (case k3 => k_asm); (case k4 => k_asm); (case k5 => k_asm); (case k6 => k_is); (case k7 => k_is); (case k8 => first | ktr_room | (refine depth_mark ?_; ktr_room)); (case k9 => first | exact BindsTo.of_eq rfl | exact binds_K (by k_in) rfl (by k_is) rfl rfl rfl); (case kB => exact locs rfl); (case kR => exact rfl); (case cK => first | exact rfl | assumption); (case c2 => exact rfl); (case c3 => exact rfl); (case c4 => exact rfl); (case c5 => decide); k_whole; intro g' L' h' tk' FG' F' N' B' X' T' D'; (try dsimp only); (try k_lift B'); (try k_fold))))
  (repeat' ((fail_if_success (with_reducible show wpAny _ _ (exec (Stmt.While _ _ _ _) _) _ _ _)); first | (k_unfold; (try dsimp only)) | ((with_reducible show wpAny _ _ (getAttr _ _ _) _ _ _); k_invariant "lw" at_data) | ((with_reducible show wpAny _ _ (getMethod _ _ _) _ _ _); k_invariant "lw" m_miss) | ((with_reducible show wpAny _ _ (getItem _ _) _ _ _); k_invariant "lw" d_getno) | ((with_reducible show wpAny _ _ (subscriptTail _ _ (Value.ref (Sh.d _)) _) _ _ _); refine d_tail (by k_asm) (by k_asm) (by k_asm) (by first | with_reducible assumption | walk_at "my news") ?_; k_whole) | ((with_reducible show wpAny _ _ (call (Value.type "KeyError") _) _ _ _); (with_reducible rename Bare _ => brX); refine call_exc_raise2 excClass_KeyError (by (show _ ≤ sizeLine; rw [sizeLine_eq]; simp)) ?_; intro h' e' x'; (try dsimp only)) | ((with_reducible show wpAny _ _ (leaving _ _) _ _ _); apply leave_newX; (case hx | F | K => assumption); (case N => k_asm); (try (case hk => rfl)); k_whole; intro h' S' U'; (try dsimp only at S' U' ⊢)) | ((with_reducible show wpAny _ _ (exec (Stmt.Raise (some _) none _) _) _ _ _); (with_reducible rename Bare _ => brX); refine Raise_chain rfl ?_) | ((with_reducible show ChainTo _ _ _ _); refine ChainTo.intro (by first | assumption | exact Heap.MadeExc.newExc (by assumption)) (News.get (by assumption) (by k_mem)) (by assumption) ?_; intro h' X') | ((with_reducible rename Heap.NewExc _ _ _ "KeyError" => neX); (refine caught_X (T' := "KeyError") neX (by assumption) (by assumption) (by assumption) (by assumption) (by assumption) (by assumption) (by first | assumption | exact KtsTurn.refl) (by k_is) boot_key (by decide) kr_isExc_KeyError kr_notTuple_KeyError (by kts_sub) ?_; k_whole); intro h' g' oe' T' F' N' b' K' X' P' D'; (try k_lift K'); (try k_sweep)) | walk1 | dsimp only | (leave1; try dsimp only)))
  refine' exc _ _ _ _ ?eF ?eS ?eU
  case eS => exact sn_sub (turn_back (by assumption) (by assumption)) (by walk_at "my sub")
  case eF => assumption
  case eU => exact (turn_slots (by assumption)).trans (by assumption)
set_option maxHeartbeats 2000000 in
theorem bhas {w : World} {p : Program} {loose : List Str} {mean : ExcName → Option Value} {mg mb : Str → Option Value} {dp un : Nat} {gd : Option (List Code)} {cn : Str} {cs : Scope} {a : Addr} {ccd : Value} {outer : List Env} {A₀ : Around} {base h₀ : Heap} {L : Addr} {m : Str → Option Value} {s : Shared} {E : Value → Shared → Prop} {S : Sh} {rest nx : Led} {c : List (Int × Int)} {q : List Int} {Q : Value → Shared → Prop} {k : Int} {tk : Tok} {b : Bool}
  (B : Below A₀ base outer h₀) (F : Fr h₀ L s.heap m) (X : (Mine.K0 w.params).In h₀) (T : Top p loose mean mg mb h₀) (hk : cs.kind = .function) (R : Cw w S rest c q nx) (N : News h₀ L s.heap nx) (hb : aHas c k = b) (hdp : dp + 8 < recursionLimit) (hun : un + 60 < cLine) (ret : ∀ h' tk', Fr h₀ L h' m → News h₀ L h' nx → Q (.bool b) { s with heap := h', toks := tk' }) :
  wpAny (model PySem.Challenge.rw_ki0005_01.row.prog w) (ktrTop dp un gd cn cs L a ccd [] outer) (call (.ref 749) [.ref S.x, .int k tk]) Q E s := by
  (refine wpAny_call ?_; (k_dflt (refine' enD ([(Str.ofString "key", .int k tk), (Str.ofString "self", .ref S.x)]) ?k1 ?k2 ?k3 ?k4 ?k5 ?kA ?kF ?kK ?k6 ?k7 ?k8 ?k9 ?kB ?kR ?_ ?c2 ?c3 ?c4 ?c5; (case kA => exact rfl); (case kF => exact rfl); (case kK => first | exact rfl | assumption); (case k1 => k_asm); (case k2 => k_asm); (case k3 => k_asm); (case k4 => k_asm); (case k5 => k_asm); (case k6 => k_is); (case k7 => k_is); (case k8 => first | ktr_room | (refine depth_mark ?_; ktr_room)); (case k9 => first | exact BindsTo.of_eq rfl | exact binds_K (by k_in) rfl (by k_is) rfl rfl rfl); (case c5 => decide); (case kB => exact locs rfl); (case kR => exact rfl); (case c2 => exact rfl); (case c3 => exact rfl); (case c4 => exact rfl); k_whole; intro g' L' h' tk' FG' F' N' B' X' T'; (try dsimp only); (try k_fold))))
  (repeat' ((fail_if_success (with_reducible show wpAny _ _ (exec (Stmt.While _ _ _ _) _) _ _ _)); first | (k_unfold; (try dsimp only)) | ((with_reducible show wpAny _ _ (getAttr _ _ _) _ _ _); k_invariant "lw" at_data) | ((with_reducible show wpAny _ _ (compareOp _ _ (Value.ref _)) _ _ _); (k_invariant "lw" d_in; (try dsimp only [Bool.not_true, Bool.not_false]))) | walk1 | dsimp only | (leave1; try dsimp only)))
  exact ret _ _ (by assumption) (by assumption)
set_option maxHeartbeats 2000000 in
theorem blen {w : World} {p : Program} {loose : List Str} {mean : ExcName → Option Value} {mg mb : Str → Option Value} {dp un : Nat} {gd : Option (List Code)} {cn : Str} {cs : Scope} {a : Addr} {ccd : Value} {outer : List Env} {A₀ : Around} {base h₀ : Heap} {L : Addr} {m : Str → Option Value} {s : Shared} {E : Value → Shared → Prop} {S : Sh} {rest nx : Led} {c : List (Int × Int)} {q : List Int} {Q : Value → Shared → Prop} 
  (B : Below A₀ base outer h₀) (F : Fr h₀ L s.heap m) (X : (Mine.K0 w.params).In h₀) (T : Top p loose mean mg mb h₀) (hk : cs.kind = .function) (R : Cw w S rest c q nx) (N : News h₀ L s.heap nx) (hc : c.length ≤ 5) (hdp : dp + 8 < recursionLimit) (hun : un + 60 < cLine) (ret : ∀ h' tk' t, Fr h₀ L h' m → News h₀ L h' nx → Q (.int (c.length : Nat) t) { s with heap := h', toks := tk' }) :
  wpAny (model PySem.Challenge.rw_ki0005_01.row.prog w) (ktrTop dp un gd cn cs L a ccd [] outer) (call (.ref 770) [.ref S.x]) Q E s := by
  (refine wpAny_call ?_; (k_dflt (refine' enD ([(Str.ofString "self", .ref S.x)]) ?k1 ?k2 ?k3 ?k4 ?k5 ?kA ?kF ?kK ?k6 ?k7 ?k8 ?k9 ?kB ?kR ?_ ?c2 ?c3 ?c4 ?c5; (case kA => exact rfl); (case kF => exact rfl); (case kK => first | exact rfl | assumption); (case k1 => k_asm); (case k2 => k_asm); (case k3 => k_asm); (case k4 => k_asm); (case k5 => k_asm); (case k6 => k_is); (case k7 => k_is); (case k8 => first | ktr_room | (refine depth_mark ?_; ktr_room)); (case k9 => first | exact BindsTo.of_eq rfl | exact binds_K (by k_in) rfl (by k_is) rfl rfl rfl); (case c5 => decide); (case kB => exact locs rfl); (case kR => exact rfl); (case c2 => exact rfl); (case c3 => exact rfl); (case c4 => exact rfl); k_whole; intro g' L' h' tk' FG' F' N' B' X' T'; (try dsimp only); (try k_fold))))
  (repeat' ((fail_if_success (with_reducible show wpAny _ _ (exec (Stmt.While _ _ _ _) _) _ _ _)); first | (k_unfold; (try dsimp only)) | ((with_reducible show wpAny _ _ (getAttr _ _ _) _ _ _); k_invariant "lw" at_data) | ((with_reducible show wpAny _ _ (call _ _) _ _ _); k_invariant "lw" d_len) | walk1 | dsimp only | (leave1; try dsimp only)))
  exact ret _ _ _ (by assumption) (by assumption)
set_option maxHeartbeats 2000000 in
theorem biter {w : World} {p : Program} {loose : List Str} {mean : ExcName → Option Value} {mg mb : Str → Option Value} {dp un : Nat} {gd : Option (List Code)} {cn : Str} {cs : Scope} {a : Addr} {ccd : Value} {outer : List Env} {A₀ : Around} {base h₀ : Heap} {L : Addr} {m : Str → Option Value} {s : Shared} {E : Value → Shared → Prop} {S : Sh} {rest nx : Led} {c : List (Int × Int)} {q : List Int} {Q : Value → Shared → Prop} 
  (B : Below A₀ base outer h₀) (F : Fr h₀ L s.heap m) (X : (Mine.K0 w.params).In h₀) (T : Top p loose mean mg mb h₀) (hk : cs.kind = .function) (R : Cw w S rest c q nx) (N : News h₀ L s.heap nx) (hdp : dp + 8 < recursionLimit) (hun : un + 60 < cLine) (ret : ∀ h' tk' I oI od kvs ep, Fr h₀ L h' m → News h₀ L h' ((I, oI) :: nx) → (∀ p ∈ nx, p.1 ≠ I) → RelL isI kvs c → KdkIter oI S.d 0 kvs.length ep → KdkAt (PySem.intKind PySem.Challenge.rw_ki0005_01.row.prog w) od kvs ep → (S.d, od) ∈ nx → Q (.ref I) { s with heap := h', toks := tk' }) :
  wpAny (model PySem.Challenge.rw_ki0005_01.row.prog w) (ktrTop dp un gd cn cs L a ccd [] outer) (call (.ref 763) [.ref S.x]) Q E s := by
  (refine wpAny_call ?_; (k_dflt (refine' enD ([(Str.ofString "self", .ref S.x)]) ?k1 ?k2 ?k3 ?k4 ?k5 ?kA ?kF ?kK ?k6 ?k7 ?k8 ?k9 ?kB ?kR ?_ ?c2 ?c3 ?c4 ?c5; (case kA => exact rfl); (case kF => exact rfl); (case kK => first | exact rfl | assumption); (case k1 => k_asm); (case k2 => k_asm); (case k3 => k_asm); (case k4 => k_asm); (case k5 => k_asm); (case k6 => k_is); (case k7 => k_is); (case k8 => first | ktr_room | (refine depth_mark ?_; ktr_room)); (case k9 => first | exact BindsTo.of_eq rfl | exact binds_K (by k_in) rfl (by k_is) rfl rfl rfl); (case c5 => decide); (case kB => exact locs rfl); (case kR => exact rfl); (case c2 => exact rfl); (case c3 => exact rfl); (case c4 => exact rfl); k_whole; intro g' L' h' tk' FG' F' N' B' X' T'; (try dsimp only); (try k_fold))))
  (repeat' ((fail_if_success (with_reducible show wpAny _ _ (exec (Stmt.While _ _ _ _) _) _ _ _)); first | (k_unfold; (try dsimp only)) | ((with_reducible show wpAny _ _ (getAttr _ _ _) _ _ _); k_invariant "lw" at_data) | ((with_reducible show wpAny _ _ (call _ _) _ _ _); k_invariant "lw" d_iter) | walk1 | dsimp only | (leave1; try dsimp only)))
  exact ret _ _ _ _ _ _ _ (by assumption) (by walk_at "my news") (by assumption) (by assumption) (by assumption) (by assumption) (by assumption)
set_option maxHeartbeats 2000000 in
theorem bmax {w : World} {p : Program} {loose : List Str} {mean : ExcName → Option Value} {mg mb : Str → Option Value} {dp un : Nat} {gd : Option (List Code)} {cn : Str} {cs : Scope} {a : Addr} {ccd : Value} {outer : List Env} {A₀ : Around} {base h₀ : Heap} {L : Addr} {m : Str → Option Value} {s : Shared} {E : Value → Shared → Prop} {S : Sh} {rest nx : Led} {c : List (Int × Int)} {q : List Int} {Q : Value → Shared → Prop} {expr : Bool}
  (B : Below A₀ base outer h₀) (F : Fr h₀ L s.heap m) (X : (Mine.K0 w.params).In h₀) (T : Top p loose mean mg mb h₀) (hk : cs.kind = .function) (R : Cw w S rest c q nx) (N : News h₀ L s.heap nx) (hdp : dp + 8 < recursionLimit) (hun : un + 60 < cLine) (ret : ∀ h' tk' t, Fr h₀ L h' m → News h₀ L h' nx → Q (.int S.room t) { s with heap := h', toks := tk' }) :
  wpAny (model PySem.Challenge.rw_ki0005_01.row.prog w) (ktrTop dp un gd cn cs L a ccd [] outer) (getAttr (.ref S.x) (Str.ofString "maxsize") expr) Q E s := by
  k_dflt (k_invariant "lw" op_max; k_whole)
  (k_dflt (refine' enD ([(Str.ofString "self", .ref S.x)]) ?k1 ?k2 ?k3 ?k4 ?k5 ?kA ?kF ?kK ?k6 ?k7 ?k8 ?k9 ?kB ?kR ?_ ?c2 ?c3 ?c4 ?c5; (case kA => exact rfl); (case kF => exact rfl); (case kK => first | exact rfl | assumption); (case k1 => k_asm); (case k2 => k_asm); (case k3 => k_asm); (case k4 => k_asm); (case k5 => k_asm); (case k6 => k_is); (case k7 => k_is); (case k8 => first | ktr_room | (refine depth_mark ?_; ktr_room)); (case k9 => first | exact BindsTo.of_eq rfl | exact binds_K (by k_in) rfl (by k_is) rfl rfl rfl); (case c5 => decide); (case kB => exact locs rfl); (case kR => exact rfl); (case c2 => exact rfl); (case c3 => exact rfl); (case c4 => exact rfl); k_whole; intro g' L' h' tk' FG' F' N' B' X' T'; (try dsimp only); (try k_fold)))
  (repeat' ((fail_if_success (with_reducible show wpAny _ _ (exec (Stmt.While _ _ _ _) _) _ _ _)); first | (k_unfold; (try dsimp only)) | ((with_reducible show wpAny _ _ (getAttr _ _ _) _ _ _); k_invariant "lw" at_max) | walk1 | (dsimp only; first | ((with_reducible show wpAny _ _ (getAttr _ _ _) _ _ _); k_invariant "lw" at_max) | walk1) | (leave1; try dsimp only)))
  exact ret _ _ _ (by assumption) (by assumption)
set_option maxHeartbeats 2000000 in
theorem bcur {w : World} {p : Program} {loose : List Str} {mean : ExcName → Option Value} {mg mb : Str → Option Value} {dp un : Nat} {gd : Option (List Code)} {cn : Str} {cs : Scope} {a : Addr} {ccd : Value} {outer : List Env} {A₀ : Around} {base h₀ : Heap} {L : Addr} {m : Str → Option Value} {s : Shared} {E : Value → Shared → Prop} {S : Sh} {rest nx : Led} {c : List (Int × Int)} {q : List Int} {Q : Value → Shared → Prop} {expr : Bool}
  (B : Below A₀ base outer h₀) (F : Fr h₀ L s.heap m) (X : (Mine.K0 w.params).In h₀) (T : Top p loose mean mg mb h₀) (hk : cs.kind = .function) (R : Cw w S rest c q nx) (N : News h₀ L s.heap nx) (hdp : dp + 8 < recursionLimit) (hun : un + 60 < cLine) (ret : ∀ h' tk' t, Fr h₀ L h' m → News h₀ L h' nx → Q (.int (total S.sz c) t) { s with heap := h', toks := tk' }) :
  wpAny (model PySem.Challenge.rw_ki0005_01.row.prog w) (ktrTop dp un gd cn cs L a ccd [] outer) (getAttr (.ref S.x) (Str.ofString "currsize") expr) Q E s := by
  k_dflt (k_invariant "lw" op_cur; k_whole)
  (k_dflt (refine' enD ([(Str.ofString "self", .ref S.x)]) ?k1 ?k2 ?k3 ?k4 ?k5 ?kA ?kF ?kK ?k6 ?k7 ?k8 ?k9 ?kB ?kR ?_ ?c2 ?c3 ?c4 ?c5; (case kA => exact rfl); (case kF => exact rfl); (case kK => first | exact rfl | assumption); (case k1 => k_asm); (case k2 => k_asm); (case k3 => k_asm); (case k4 => k_asm); (case k5 => k_asm); (case k6 => k_is); (case k7 => k_is); (case k8 => first | ktr_room | (refine depth_mark ?_; ktr_room)); (case k9 => first | exact BindsTo.of_eq rfl | exact binds_K (by k_in) rfl (by k_is) rfl rfl rfl); (case c5 => decide); (case kB => exact locs rfl); (case kR => exact rfl); (case c2 => exact rfl); (case c3 => exact rfl); (case c4 => exact rfl); k_whole; intro g' L' h' tk' FG' F' N' B' X' T'; (try dsimp only); (try k_fold)))
  (repeat' ((fail_if_success (with_reducible show wpAny _ _ (exec (Stmt.While _ _ _ _) _) _ _ _)); first | (k_unfold; (try dsimp only)) | ((with_reducible show wpAny _ _ (getAttr _ _ _) _ _ _); k_invariant "lw" at_cur) | walk1 | (dsimp only; first | ((with_reducible show wpAny _ _ (getAttr _ _ _) _ _ _); k_invariant "lw" at_cur) | walk1) | (leave1; try dsimp only)))
  exact ret _ _ _ (by assumption) (by assumption)
set_option maxHeartbeats 2000000 in
theorem bdel_ok {w : World} {p : Program} {loose : List Str} {mean : ExcName → Option Value} {mg mb : Str → Option Value} {dp un : Nat} {gd : Option (List Code)} {cn : Str} {cs : Scope} {a : Addr} {ccd : Value} {outer : List Env} {A₀ : Around} {base h₀ : Heap} {L : Addr} {m : Str → Option Value} {s : Shared} {E : Value → Shared → Prop} {S : Sh} {rest nx : Led} {c : List (Int × Int)} {q : List Int} {Q : Value → Shared → Prop} {k v : Int} {tk : Tok}
  (B : Below A₀ base outer h₀) (F : Fr h₀ L s.heap m) (X : (Mine.K0 w.params).In h₀) (T : Top p loose mean mg mb h₀) (hk : cs.kind = .function) (R : Cw w S rest c q nx) (N : News h₀ L s.heap nx) (hn : (c.map (·.1)).Nodup) (hl : aLook c k = some v) (hdp : dp + 8 < recursionLimit) (hun : un + 60 < cLine) (ret : ∀ h' tk' nx', Cw w S rest (aDel c k) q nx' → Fr h₀ L h' m → News h₀ L h' nx' → Q .none { s with heap := h', toks := tk' }) :
  wpAny (model PySem.Challenge.rw_ki0005_01.row.prog w) (ktrTop dp un gd cn cs L a ccd [] outer) (call (.ref 742) [.ref S.x, .int k tk]) Q E s := by
  have hkc := aHas_of_look hl
  have ht := total_del (sz := S.sz) hn hl
  cases hs : S.sized with
  | true =>
    have hz := zOf_look_some (sz := S.sz) hl
    (refine wpAny_call ?_; (k_dflt (refine' enD ([(Str.ofString "key", .int k tk), (Str.ofString "self", .ref S.x)]) ?k1 ?k2 ?k3 ?k4 ?k5 ?kA ?kF ?kK ?k6 ?k7 ?k8 ?k9 ?kB ?kR ?_ ?c2 ?c3 ?c4 ?c5; (case kA => exact rfl); (case kF => exact rfl); (case kK => first | exact rfl | assumption); (case k1 => k_asm); (case k2 => k_asm); (case k3 => k_asm); (case k4 => k_asm); (case k5 => k_asm); (case k6 => k_is); (case k7 => k_is); (case k8 => first | ktr_room | (refine depth_mark ?_; ktr_room)); (case k9 => first | exact BindsTo.of_eq rfl | exact binds_K (by k_in) rfl (by k_is) rfl rfl rfl); (case c5 => decide); (case kB => exact locs rfl); (case kR => exact rfl); (case c2 => exact rfl); (case c3 => exact rfl); (case c4 => exact rfl); k_whole; intro g' L' h' tk' FG' F' N' B' X' T'; (try dsimp only); (try k_fold))))
    (repeat' ((fail_if_success (with_reducible show wpAny _ _ (exec (Stmt.While _ _ _ _) _) _ _ _)); first | (k_unfold; (try dsimp only)) | ((with_reducible show wpAny _ _ (getAttr _ _ _) _ _ _); first | k_invariant "lw" at_data | k_invariant "lw" at_cur | k_invariant "lw" at_sizeT | k_invariant "lw" at_sizeF) | ((with_reducible show wpAny _ _ (setAttr _ _ _) _ _ _); k_invariant "lw" at_put) | ((with_reducible show wpAny _ _ (getMethod _ _ _) _ _ _); k_invariant "lw" z_pop_m) | ((with_reducible show wpAny _ _ (delItem _ _) _ _ _); k_invariant "lw" d_del) | ((with_reducible show wpAny _ _ (call _ _) _ _ _); k_invariant "lw" z_pop) | ((with_reducible show wpAny _ _ (inplaceOp _ _ _) _ _ _); (with_reducible refine PyProof.Rows.isub_int ?_)) | walk1 | dsimp only | (leave1; try dsimp only)))
    refine ret _ _ _ ?_ (by assumption) (by assumption)
    unfold Cw
    rw [ht, ← zOf_del]
    assumption
  | false =>
    have h1 : S.sz v = 1 := by rw [Sh.szF hs]; rfl
    rw [h1] at ht
    (refine wpAny_call ?_; (k_dflt (refine' enD ([(Str.ofString "key", .int k tk), (Str.ofString "self", .ref S.x)]) ?k1 ?k2 ?k3 ?k4 ?k5 ?kA ?kF ?kK ?k6 ?k7 ?k8 ?k9 ?kB ?kR ?_ ?c2 ?c3 ?c4 ?c5; (case kA => exact rfl); (case kF => exact rfl); (case kK => first | exact rfl | assumption); (case k1 => k_asm); (case k2 => k_asm); (case k3 => k_asm); (case k4 => k_asm); (case k5 => k_asm); (case k6 => k_is); (case k7 => k_is); (case k8 => first | ktr_room | (refine depth_mark ?_; ktr_room)); (case k9 => first | exact BindsTo.of_eq rfl | exact binds_K (by k_in) rfl (by k_is) rfl rfl rfl); (case c5 => decide); (case kB => exact locs rfl); (case kR => exact rfl); (case c2 => exact rfl); (case c3 => exact rfl); (case c4 => exact rfl); k_whole; intro g' L' h' tk' FG' F' N' B' X' T'; (try dsimp only); (try k_fold))))
    (repeat' ((fail_if_success (with_reducible show wpAny _ _ (exec (Stmt.While _ _ _ _) _) _ _ _)); first | (k_unfold; (try dsimp only)) | ((with_reducible show wpAny _ _ (getAttr _ _ _) _ _ _); first | k_invariant "lw" at_data | k_invariant "lw" at_cur | k_invariant "lw" at_sizeT | k_invariant "lw" at_sizeF) | ((with_reducible show wpAny _ _ (setAttr _ _ _) _ _ _); k_invariant "lw" at_put) | ((with_reducible show wpAny _ _ (getMethod _ _ _) _ _ _); k_invariant "lw" z_pop_m) | ((with_reducible show wpAny _ _ (delItem _ _) _ _ _); k_invariant "lw" d_del) | ((with_reducible show wpAny _ _ (call _ _) _ _ _); k_invariant "lw" z_pop) | ((with_reducible show wpAny _ _ (inplaceOp _ _ _) _ _ _); (with_reducible refine PyProof.Rows.isub_int ?_)) | walk1 | dsimp only | (leave1; try dsimp only)))
    refine ret _ _ _ ?_ (by assumption) (by assumption)
    unfold Cw
    rw [ht]
    exact Lw.anyz hs (by assumption)
set_option maxHeartbeats 2000000 in
theorem bdel_no {w : World} {p : Program} {loose : List Str} {mean : ExcName → Option Value} {mg mb : Str → Option Value} {dp un : Nat} {gd : Option (List Code)} {cn : Str} {cs : Scope} {a : Addr} {ccd : Value} {outer : List Env} {A₀ : Around} {base h₀ : Heap} {L : Addr} {m : Str → Option Value} {s : Shared} {E : Value → Shared → Prop} {S : Sh} {rest nx : Led} {c : List (Int × Int)} {q : List Int} {Q : Value → Shared → Prop} {k : Int} {tk : Tok}
  (XB : (Mine.K0 w.params).In base) (TB : Top p loose mean mg mb base) (D : KtsDicts (outer.filterMap (·.frame)) h₀) (B : Below A₀ base outer h₀) (F : Fr h₀ L s.heap m) (X : (Mine.K0 w.params).In h₀) (T : Top p loose mean mg mb h₀) (hk : cs.kind = .function) (R : Cw w S rest c q nx) (N : News h₀ L s.heap nx) (hl : aHas c k = false) (hdp : dp + 8 < recursionLimit) (hun : un + 60 < cLine) (exc : ∀ g' h' e tk', Fr h₀ L g' m → RaisedSN base g' (envOf cn cs L a ccd :: outer) e (.type "KeyError") nx h' → g'.UpToSlots h' → E (.ref e) { s with heap := h', toks := tk' }) :
  wpAny (model PySem.Challenge.rw_ki0005_01.row.prog w) (ktrTop dp un gd cn cs L a ccd [] outer) (call (.ref 742) [.ref S.x, .int k tk]) Q E s := by
  cases hs : S.sized with
  | true =>
    have hz : aHas (zOf S.sz c) k = false := by rw [zOf_has]; exact hl
    (refine wpAny_call ?_; (k_dflt (refine' enDS ([(Str.ofString "key", .int k tk), (Str.ofString "self", .ref S.x)]) ?k1 ?k2 ?k3 ?k4 ?k5 ?XB ?TB ?D ?T0 ?kA ?k6 ?k7 ?k8 ?k9 ?kB ?kR ?_ ?cK ?c2 ?c3 ?c4 ?c5; (case kA => exact rfl); (case k2 => k_asm); (case k1 => k_asm); (case XB => assumption); (case TB => assumption); (case D => assumption); (case T0 => first | assumption | exact KtsTurn.refl); (case k3 => k_asm); (case k4 => k_asm); (case k5 => k_asm); (case k6 => k_is); (case k7 => k_is); (case k8 => first | ktr_room | (refine depth_mark ?_; ktr_room)); (case k9 => first | exact BindsTo.of_eq rfl | exact binds_K (by k_in) rfl (by k_is) rfl rfl rfl); (case kB => exact locs rfl); (case kR => exact rfl); (case cK => first | exact rfl | assumption); (case c2 => exact rfl); (case c3 => exact rfl); (case c4 => exact rfl); (case c5 => decide); k_whole; intro g' L' h' tk' FG' F' N' B' X' T' D'; (try dsimp only); (try k_lift B'); (try k_fold))))
    (repeat' ((fail_if_success (with_reducible show wpAny _ _ (exec (Stmt.While _ _ _ _) _) _ _ _)); first | (k_unfold; (try dsimp only)) | ((with_reducible show wpAny _ _ (getAttr _ _ _) _ _ _); first | k_invariant "lw" at_data | k_invariant "lw" at_sizeT | k_invariant "lw" at_sizeF) | ((with_reducible show wpAny _ _ (getMethod _ _ _) _ _ _); k_invariant "lw" z_pop_m) | ((with_reducible show wpAny _ _ (delItem _ _) _ _ _); k_invariant "lw" d_delno) | ((with_reducible show wpAny _ _ (call _ _) _ _ _); k_invariant "lw" z_popno) | walk1 | dsimp only | (leave1; try dsimp only)))
    refine' exc _ _ _ _ ?eF ?eS ?eU; (case eF => assumption); (case eS => first | with_reducible assumption | exact toSN (by with_reducible assumption) | assumption | exact toSN (by assumption)); (case eU => assumption)
  | false =>
    (refine wpAny_call ?_; (k_dflt (refine' enDS ([(Str.ofString "key", .int k tk), (Str.ofString "self", .ref S.x)]) ?k1 ?k2 ?k3 ?k4 ?k5 ?XB ?TB ?D ?T0 ?kA ?k6 ?k7 ?k8 ?k9 ?kB ?kR ?_ ?cK ?c2 ?c3 ?c4 ?c5; (case kA => exact rfl); (case k2 => k_asm); (case k1 => k_asm); (case XB => assumption); (case TB => assumption); (case D => assumption); (case T0 => first | assumption | exact KtsTurn.refl); (case k3 => k_asm); (case k4 => k_asm); (case k5 => k_asm); (case k6 => k_is); (case k7 => k_is); (case k8 => first | ktr_room | (refine depth_mark ?_; ktr_room)); (case k9 => first | exact BindsTo.of_eq rfl | exact binds_K (by k_in) rfl (by k_is) rfl rfl rfl); (case kB => exact locs rfl); (case kR => exact rfl); (case cK => first | exact rfl | assumption); (case c2 => exact rfl); (case c3 => exact rfl); (case c4 => exact rfl); (case c5 => decide); k_whole; intro g' L' h' tk' FG' F' N' B' X' T' D'; (try dsimp only); (try k_lift B'); (try k_fold))))
    (repeat' ((fail_if_success (with_reducible show wpAny _ _ (exec (Stmt.While _ _ _ _) _) _ _ _)); first | (k_unfold; (try dsimp only)) | ((with_reducible show wpAny _ _ (getAttr _ _ _) _ _ _); first | k_invariant "lw" at_data | k_invariant "lw" at_sizeT | k_invariant "lw" at_sizeF) | ((with_reducible show wpAny _ _ (getMethod _ _ _) _ _ _); k_invariant "lw" z_pop_m) | ((with_reducible show wpAny _ _ (delItem _ _) _ _ _); k_invariant "lw" d_delno) | ((with_reducible show wpAny _ _ (call _ _) _ _ _); k_invariant "lw" z_popno) | walk1 | dsimp only | (leave1; try dsimp only)))
    refine' exc _ _ _ _ ?eF ?eS ?eU; (case eF => assumption); (case eS => first | with_reducible assumption | exact toSN (by with_reducible assumption) | assumption | exact toSN (by assumption)); (case eU => assumption)
set_option maxHeartbeats 2000000 in
theorem bclr {w : World} {p : Program} {loose : List Str} {mean : ExcName → Option Value} {mg mb : Str → Option Value} {dp un : Nat} {gd : Option (List Code)} {cn : Str} {cs : Scope} {a : Addr} {ccd : Value} {outer : List Env} {A₀ : Around} {base h₀ : Heap} {L : Addr} {m : Str → Option Value} {s : Shared} {E : Value → Shared → Prop} {S : Sh} {rest nx : Led} {c : List (Int × Int)} {q : List Int} {Q : Value → Shared → Prop} 
  (B : Below A₀ base outer h₀) (F : Fr h₀ L s.heap m) (X : (Mine.K0 w.params).In h₀) (T : Top p loose mean mg mb h₀) (hk : cs.kind = .function) (R : Cw w S rest c q nx) (N : News h₀ L s.heap nx) (hdp : dp + 8 < recursionLimit) (hun : un + 60 < cLine) (ret : ∀ h' tk' nx', Cw w S rest [] q nx' → Fr h₀ L h' m → News h₀ L h' nx' → Q .none { s with heap := h', toks := tk' }) :
  wpAny (model PySem.Challenge.rw_ki0005_01.row.prog w) (ktrTop dp un gd cn cs L a ccd [] outer) (call (.ref 801) [.ref S.x]) Q E s := by
  cases hs : S.sized with
  | true =>
    (refine wpAny_call ?_; (k_dflt (refine' enD ([(Str.ofString "self", .ref S.x)]) ?k1 ?k2 ?k3 ?k4 ?k5 ?kA ?kF ?kK ?k6 ?k7 ?k8 ?k9 ?kB ?kR ?_ ?c2 ?c3 ?c4 ?c5; (case kA => exact rfl); (case kF => exact rfl); (case kK => first | exact rfl | assumption); (case k1 => k_asm); (case k2 => k_asm); (case k3 => k_asm); (case k4 => k_asm); (case k5 => k_asm); (case k6 => k_is); (case k7 => k_is); (case k8 => first | ktr_room | (refine depth_mark ?_; ktr_room)); (case k9 => first | exact BindsTo.of_eq rfl | exact binds_K (by k_in) rfl (by k_is) rfl rfl rfl); (case c5 => decide); (case kB => exact locs rfl); (case kR => exact rfl); (case c2 => exact rfl); (case c3 => exact rfl); (case c4 => exact rfl); k_whole; intro g' L' h' tk' FG' F' N' B' X' T'; (try dsimp only); (try k_fold))))
    (repeat' ((fail_if_success (with_reducible show wpAny _ _ (exec (Stmt.While _ _ _ _) _) _ _ _)); first | (k_unfold; (try dsimp only)) | ((with_reducible show wpAny _ _ (getAttr _ _ _) _ _ _); first | k_invariant "lw" at_data | k_invariant "lw" at_sizeT | k_invariant "lw" at_sizeF) | ((with_reducible show wpAny _ _ (setAttr _ _ _) _ _ _); k_invariant "lw" at_put) | ((with_reducible show wpAny _ _ (getMethod _ _ _) _ _ _); first | k_invariant "lw" d_clr_m | k_invariant "lw" z_clr_m) | ((with_reducible show wpAny _ _ (call _ _) _ _ _); first | k_invariant "lw" d_clr | k_invariant "lw" z_clr) | walk1 | dsimp only | (leave1; try dsimp only)))
    exact ret _ _ _ (by assumption) (by assumption) (by assumption)
  | false =>
    (refine wpAny_call ?_; (k_dflt (refine' enD ([(Str.ofString "self", .ref S.x)]) ?k1 ?k2 ?k3 ?k4 ?k5 ?kA ?kF ?kK ?k6 ?k7 ?k8 ?k9 ?kB ?kR ?_ ?c2 ?c3 ?c4 ?c5; (case kA => exact rfl); (case kF => exact rfl); (case kK => first | exact rfl | assumption); (case k1 => k_asm); (case k2 => k_asm); (case k3 => k_asm); (case k4 => k_asm); (case k5 => k_asm); (case k6 => k_is); (case k7 => k_is); (case k8 => first | ktr_room | (refine depth_mark ?_; ktr_room)); (case k9 => first | exact BindsTo.of_eq rfl | exact binds_K (by k_in) rfl (by k_is) rfl rfl rfl); (case c5 => decide); (case kB => exact locs rfl); (case kR => exact rfl); (case c2 => exact rfl); (case c3 => exact rfl); (case c4 => exact rfl); k_whole; intro g' L' h' tk' FG' F' N' B' X' T'; (try dsimp only); (try k_fold))))
    (repeat' ((fail_if_success (with_reducible show wpAny _ _ (exec (Stmt.While _ _ _ _) _) _ _ _)); first | (k_unfold; (try dsimp only)) | ((with_reducible show wpAny _ _ (getAttr _ _ _) _ _ _); first | k_invariant "lw" at_data | k_invariant "lw" at_sizeT | k_invariant "lw" at_sizeF) | ((with_reducible show wpAny _ _ (setAttr _ _ _) _ _ _); k_invariant "lw" at_put) | ((with_reducible show wpAny _ _ (getMethod _ _ _) _ _ _); first | k_invariant "lw" d_clr_m | k_invariant "lw" z_clr_m) | ((with_reducible show wpAny _ _ (call _ _) _ _ _); first | k_invariant "lw" d_clr | k_invariant "lw" z_clr) | walk1 | dsimp only | (leave1; try dsimp only)))
    exact ret _ _ _ (Lw.anyz hs (by assumption)) (by assumption) (by assumption)
-- Bb
theorem plain_head {sz : Int → Int} {c : List (Int × Int)} {k v : Int} {q : List Int} (G : Core sz c (k :: q)) (e : k :: q = c.map (·.1)) (hl : aLook c k = some v) : ∃ c'', c = (k, v) :: c'' ∧ q = (aDel c k).map (·.1) := by
  cases c with
  | nil => cases e
  | cons p c'' =>
    obtain ⟨j, x⟩ := p
    rw [List.map_cons] at e
    obtain ⟨h1, h2⟩ := List.cons.inj e
    have h1' : k = j := h1
    subst h1'
    rw [aLook_cons, if_pos rfl] at hl
    cases hl
    refine ⟨c'', rfl, ?_⟩
    rw [keys_del, List.map_cons, ← h2]
    exact (qDel_head G.nq).symm
theorem Sh.dfT {S : Sh} (h : S.fifo = true) : S.df = 865 := by unfold Sh.df; rw [h]
theorem Sh.dfF {S : Sh} (h : S.fifo = false) : S.df = 742 := by unfold Sh.df; rw [h]
theorem Sh.pfT {S : Sh} (h : S.fifo = true) : S.pf = 872 := by unfold Sh.pf; rw [h]
theorem Sh.pfF {S : Sh} (h : S.fifo = false) : S.pf = 660 := by unfold Sh.pf; rw [h]
theorem Sh.cfT {S : Sh} (h : S.fifo = true) : S.cf = 879 := by unfold Sh.cf; rw [h]
theorem Sh.cfF {S : Sh} (h : S.fifo = false) : S.cf = 801 := by unfold Sh.cf; rw [h]
theorem Sh.sfT {S : Sh} (h : S.fifo = true) : S.sf = 857 := by unfold Sh.sf; rw [h]
theorem Sh.sfF {S : Sh} (h : S.fifo = false) : S.sf = 735 := by unfold Sh.sf; rw [h]
theorem Sh.CT {S : Sh} (h : S.fifo = true) : S.C = 882 := by unfold Sh.C; rw [h]
set_option maxHeartbeats 2000000 in
theorem citer {w : World} {p : Program} {loose : List Str} {mean : ExcName → Option Value} {mg mb : Str → Option Value} {dp un : Nat} {gd : Option (List Code)} {cn : Str} {cs : Scope} {a : Addr} {ccd : Value} {outer : List Env} {A₀ : Around} {base h₀ : Heap} {L : Addr} {m : Str → Option Value} {s : Shared} {E : Value → Shared → Prop} {S : Sh} {rest nx : Led} {c : List (Int × Int)} {q : List Int} {Q : Value → Shared → Prop} 
  (B : Below A₀ base outer h₀) (F : Fr h₀ L s.heap m) (X : (Mine.K0 w.params).In h₀) (T : Top p loose mean mg mb h₀) (hk : cs.kind = .function) (R : Cw w S rest c q nx) (N : News h₀ L s.heap nx) (hdp : dp + 8 < recursionLimit) (hun : un + 90 < cLine) (ret : ∀ h' tk' I oI od kvs ep, Fr h₀ L h' m → News h₀ L h' ((I, oI) :: nx) → (∀ p ∈ nx, p.1 ≠ I) → RelL isI kvs c → KdkIter oI S.d 0 kvs.length ep → KdkAt (PySem.intKind PySem.Challenge.rw_ki0005_01.row.prog w) od kvs ep → (S.d, od) ∈ nx → Q (.ref I) { s with heap := h', toks := tk' }) :
  wpAny (model PySem.Challenge.rw_ki0005_01.row.prog w) (ktrTop dp un gd cn cs L a ccd [] outer) (call (.builtin "iter") [.ref S.x]) Q E s := by
  refine op_iterc F X R N ?_
  refine biter B F X T hk R N hdp (by ktr_units) ?_
  intro h' tk' I oI od kvs ep F' N' of' hr' hi' ha' hm'
  exact owit_key N' (.head _) hi' (ret _ _ _ _ _ _ _ F' N' of' hr' hi' ha' hm')
set_option maxHeartbeats 2000000 in
theorem cpyit {w : World} {p : Program} {loose : List Str} {mean : ExcName → Option Value} {mg mb : Str → Option Value} {dp un : Nat} {gd : Option (List Code)} {cn : Str} {cs : Scope} {a : Addr} {ccd : Value} {outer : List Env} {A₀ : Around} {base h₀ : Heap} {L : Addr} {m : Str → Option Value} {s : Shared} {E : Value → Shared → Prop} {S : Sh} {rest nx : Led} {c : List (Int × Int)} {q : List Int} {Q : Value → Shared → Prop} 
  (B : Below A₀ base outer h₀) (F : Fr h₀ L s.heap m) (X : (Mine.K0 w.params).In h₀) (T : Top p loose mean mg mb h₀) (hk : cs.kind = .function) (R : Cw w S rest c q nx) (N : News h₀ L s.heap nx) (hdp : dp + 8 < recursionLimit) (hun : un + 90 < cLine) (ret : ∀ h' tk' I oI od kvs ep, Fr h₀ L h' m → News h₀ L h' ((I, oI) :: nx) → (∀ p ∈ nx, p.1 ≠ I) → RelL isI kvs c → KdkIter oI S.d 0 kvs.length ep → KdkAt (PySem.intKind PySem.Challenge.rw_ki0005_01.row.prog w) od kvs ep → (S.d, od) ∈ nx → Q (.ref I) { s with heap := h', toks := tk' }) :
  wpAny (model PySem.Challenge.rw_ki0005_01.row.prog w) (ktrTop dp un gd cn cs L a ccd [] outer) (pyIter (.ref S.x)) Q E s := by
  refine op_iter F X R N ?_
  refine biter B F X T hk R N hdp (by ktr_units) ?_
  intro h' tk' I oI od kvs ep F' N' of' hr' hi' ha' hm'
  exact owit_key N' (.head _) hi' (ret _ _ _ _ _ _ _ F' N' of' hr' hi' ha' hm')
set_option maxHeartbeats 2000000 in
theorem cdel_ok {w : World} {p : Program} {loose : List Str} {mean : ExcName → Option Value} {mg mb : Str → Option Value} {dp un : Nat} {gd : Option (List Code)} {cn : Str} {cs : Scope} {a : Addr} {ccd : Value} {outer : List Env} {A₀ : Around} {base h₀ : Heap} {L : Addr} {m : Str → Option Value} {s : Shared} {E : Value → Shared → Prop} {S : Sh} {rest nx : Led} {c : List (Int × Int)} {q : List Int} {Q : Value → Shared → Prop} {k v : Int} {tk : Tok}
  (B : Below A₀ base outer h₀) (F : Fr h₀ L s.heap m) (X : (Mine.K0 w.params).In h₀) (T : Top p loose mean mg mb h₀) (hk : cs.kind = .function) (R : Cw w S rest c q nx) (N : News h₀ L s.heap nx) (G : Core S.sz c q) (hl : aLook c k = some v) (hdp : dp + 16 < recursionLimit) (hun : un + 120 < cLine) (ret : ∀ h' tk' nx', Cw w S rest (aDel c k) (qDel q k) nx' → Fr h₀ L h' m → News h₀ L h' nx' → Q .none { s with heap := h', toks := tk' }) :
  wpAny (model PySem.Challenge.rw_ki0005_01.row.prog w) (ktrTop dp un gd cn cs L a ccd [] outer) (call (.ref S.df) [.ref S.x, .int k tk]) Q E s := by
  have hn := G.nk
  have hkq := (G.kq k).mp (aHas_of_look hl)
  cases hs : S.fifo with
  | false =>
    rw [Sh.dfF hs]
    exact bdel_ok B F X T hk R N hn hl (by ktr_room) (by ktr_room) fun h' tk' nx' R' F' N' => ret h' tk' nx' (Lw.anyq hs R') F' N'
  | true =>
    rw [Sh.dfT hs]
    (refine wpAny_call ?_; (k_dflt (refine' enD ([(Str.ofString "cache_delitem", .ref 742), (Str.ofString "key", .int k tk), (Str.ofString "self", .ref S.x)]) ?k1 ?k2 ?k3 ?k4 ?k5 ?kA ?kF ?kK ?k6 ?k7 ?k8 ?k9 ?kB ?kR ?_ ?c2 ?c3 ?c4 ?c5; (case kA => exact rfl); (case kF => exact rfl); (case kK => first | exact rfl | assumption); (case k1 => k_asm); (case k2 => k_asm); (case k3 => k_asm); (case k4 => k_asm); (case k5 => k_asm); (case k6 => k_is); (case k7 => k_is); (case k8 => first | ktr_room | (refine depth_mark ?_; ktr_room)); (case k9 => first | exact BindsTo.of_eq rfl | exact binds_K (by k_in) rfl (by k_is) rfl rfl rfl); (case c5 => decide); (case kB => exact locs rfl); (case kR => exact rfl); (case c2 => exact rfl); (case c3 => exact rfl); (case c4 => exact rfl); k_whole; intro g' L' h' tk' FG' F' N' B' X' T'; (try dsimp only); (try k_fold))))
    (repeat' ((fail_if_success (with_reducible show wpAny _ _ (exec (Stmt.While _ _ _ _) _) _ _ _)); first | (k_unfold; (try dsimp only)) | ((with_reducible show wpAny _ _ (call _ _) _ _ _); k_invariant "r" (742, bdel_ok)) | ((with_reducible show wpAny _ _ (getAttr _ _ _) _ _ _); k_invariant "lw" at_ord) | ((with_reducible show wpAny _ _ (delItem _ _) _ _ _); k_invariant "lw" o_del) | walk1 | dsimp only | (leave1; try dsimp only)))
    exact ret _ _ _ (by assumption) (by assumption) (by assumption)
set_option maxHeartbeats 2000000 in
theorem cdel_no {w : World} {p : Program} {loose : List Str} {mean : ExcName → Option Value} {mg mb : Str → Option Value} {dp un : Nat} {gd : Option (List Code)} {cn : Str} {cs : Scope} {a : Addr} {ccd : Value} {outer : List Env} {A₀ : Around} {base h₀ : Heap} {L : Addr} {m : Str → Option Value} {s : Shared} {E : Value → Shared → Prop} {S : Sh} {rest nx : Led} {c : List (Int × Int)} {q : List Int} {Q : Value → Shared → Prop} {k : Int} {tk : Tok}
  (XB : (Mine.K0 w.params).In base) (TB : Top p loose mean mg mb base) (D : KtsDicts (outer.filterMap (·.frame)) h₀) (B : Below A₀ base outer h₀) (F : Fr h₀ L s.heap m) (X : (Mine.K0 w.params).In h₀) (T : Top p loose mean mg mb h₀) (hk : cs.kind = .function) (R : Cw w S rest c q nx) (N : News h₀ L s.heap nx) (hl : aHas c k = false) (hdp : dp + 16 < recursionLimit) (hun : un + 120 < cLine) (exc : ∀ g' h' e tk', Fr h₀ L g' m → RaisedSN base g' (envOf cn cs L a ccd :: outer) e (.type "KeyError") nx h' → g'.UpToSlots h' → E (.ref e) { s with heap := h', toks := tk' }) :
  wpAny (model PySem.Challenge.rw_ki0005_01.row.prog w) (ktrTop dp un gd cn cs L a ccd [] outer) (call (.ref S.df) [.ref S.x, .int k tk]) Q E s := by
  cases hs : S.fifo with
  | false =>
    rw [Sh.dfF hs]
    exact bdel_no XB TB D B F X T hk R N hl (by ktr_room) (by ktr_room) exc
  | true =>
    rw [Sh.dfT hs]
    (refine wpAny_call ?_; (k_dflt (refine' enDS ([(Str.ofString "cache_delitem", .ref 742), (Str.ofString "key", .int k tk), (Str.ofString "self", .ref S.x)]) ?k1 ?k2 ?k3 ?k4 ?k5 ?XB ?TB ?D ?T0 ?kA ?k6 ?k7 ?k8 ?k9 ?kB ?kR ?_ ?cK ?c2 ?c3 ?c4 ?c5; (case kA => exact rfl); (case k2 => k_asm); (case k1 => k_asm); (case XB => assumption); (case TB => assumption); (case D => assumption); (case T0 => first | assumption | exact KtsTurn.refl); (case k3 => k_asm); (case k4 => k_asm); (case k5 => k_asm); (case k6 => k_is); (case k7 => k_is); (case k8 => first | ktr_room | (refine depth_mark ?_; ktr_room)); (case k9 => first | exact BindsTo.of_eq rfl | exact binds_K (by k_in) rfl (by k_is) rfl rfl rfl); (case kB => exact locs rfl); (case kR => exact rfl); (case cK => first | exact rfl | assumption); (case c2 => exact rfl); (case c3 => exact rfl); (case c4 => exact rfl); (case c5 => decide); k_whole; intro g' L' h' tk' FG' F' N' B' X' T' D'; (try dsimp only); (try k_lift B'); (try k_fold))))
    (repeat' ((fail_if_success (with_reducible show wpAny _ _ (exec (Stmt.While _ _ _ _) _) _ _ _)); first | (k_unfold; (try dsimp only)) | ((with_reducible show wpAny _ _ (call _ _) _ _ _); k_invariant "r" (742, bdel_no)) | walk1 | (dsimp only; first | ((with_reducible show wpAny _ _ (call _ _) _ _ _); k_invariant "r" (742, bdel_no)) | walk1) | (leave1; try dsimp only)))
    refine' exc _ _ _ _ ?eF ?eS ?eU; (case eF => assumption); (case eS => first | with_reducible assumption | exact toSN (by with_reducible assumption) | assumption | exact toSN (by assumption)); (case eU => assumption)
set_option maxHeartbeats 2000000 in
theorem cpop_ok {w : World} {p : Program} {loose : List Str} {mean : ExcName → Option Value} {mg mb : Str → Option Value} {dp un : Nat} {gd : Option (List Code)} {cn : Str} {cs : Scope} {a : Addr} {ccd : Value} {outer : List Env} {A₀ : Around} {base h₀ : Heap} {L : Addr} {m : Str → Option Value} {s : Shared} {E : Value → Shared → Prop} {S : Sh} {rest nx : Led} {c : List (Int × Int)} {q : List Int} {Q : Value → Shared → Prop} {k v : Int}
  (B : Below A₀ base outer h₀) (F : Fr h₀ L s.heap m) (X : (Mine.K0 w.params).In h₀) (T : Top p loose mean mg mb h₀) (hk : cs.kind = .function) (R : Cw w S rest c (k :: q) nx) (N : News h₀ L s.heap nx) (G : Core S.sz c (k :: q)) (hsm : S.fifo = false → k :: q = c.map (·.1)) (hl : aLook c k = some v) (hdp : dp + 30 < recursionLimit) (hun : un + 240 < cLine) (ret : ∀ h' tk' nx' r ta tb, Cw w S rest (aDel c k) q nx' → Fr h₀ L h' m → News h₀ L h' ((r, pairO k v ta tb) :: nx') → Q (.ref r) { s with heap := h', toks := tk' }) :
  wpAny (model PySem.Challenge.rw_ki0005_01.row.prog w) (ktrTop dp un gd cn cs L a ccd [] outer) (call (.ref S.pf) [.ref S.x]) Q E s := by
  have hqd : qDel (k :: q) k = q := qDel_head G.nq
  cases hs : S.fifo with
  | false =>
    rw [Sh.pfF hs]
    obtain ⟨c'', rfl, -⟩ := plain_head G (hsm hs) hl
    (refine wpAny_call ?_; (k_dflt (refine' enD ([(Str.ofString "self", .ref S.x)]) ?k1 ?k2 ?k3 ?k4 ?k5 ?kA ?kF ?kK ?k6 ?k7 ?k8 ?k9 ?kB ?kR ?_ ?c2 ?c3 ?c4 ?c5; (case kA => exact rfl); (case kF => exact rfl); (case kK => first | exact rfl | assumption); (case k1 => k_asm); (case k2 => k_asm); (case k3 => k_asm); (case k4 => k_asm); (case k5 => k_asm); (case k6 => k_is); (case k7 => k_is); (case k8 => first | ktr_room | (refine depth_mark ?_; ktr_room)); (case k9 => first | exact BindsTo.of_eq rfl | exact binds_K (by k_in) rfl (by k_is) rfl rfl rfl); (case c5 => decide); (case kB => exact locs rfl); (case kR => exact rfl); (case c2 => exact rfl); (case c3 => exact rfl); (case c4 => exact rfl); k_whole; intro g' L' h' tk' FG' F' N' B' X' T'; (try dsimp only); (try k_fold))))
    (repeat' ((fail_if_success (with_reducible show wpAny _ _ (exec (Stmt.While _ _ _ _) _) _ _ _)); first | (k_unfold; (try dsimp only)) | ((with_reducible show wpAny _ _ (call _ _) _ _ _); first | k_invariant "r" ((Sh.df _), cdel_ok) | k_invariant "r" (728, bget_ok) | k_invariant "lw" o_iter) | ((with_reducible show wpAny _ _ (getAttr _ _ _) _ _ _); k_invariant "lw" at_ord) | ((with_reducible show wpAny _ _ (delItem _ _) _ _ _); k_invariant "lw" op_del) | ((with_reducible show wpAny _ _ (subscriptTail _ _ _ _) _ _ _); k_invariant "lw" op_sub) | ((with_reducible show wpAny _ _ (call (Value.builtin "next") _) _ _ _); apply n_next; k_invariant "c" [F, N, off, hi, ha, hp, hr, z]) | ((with_reducible show wpAny _ _ (call (Value.builtin "iter") [Value.ref (Sh.x _)]) _ _ _); (apply citer; walk_at "my close")) | walk1 | dsimp only | (leave1; try dsimp only)))
    rw [hqd] at *
    exact ret _ _ _ _ _ _ (by assumption) (by assumption) (by walk_at "my news")
  | true =>
    rw [Sh.pfT hs]
    have hu : uOf (k :: q) = (k, ()) :: uOf q := rfl
    (refine wpAny_call ?_; (k_dflt (refine' enD ([(Str.ofString "self", .ref S.x)]) ?k1 ?k2 ?k3 ?k4 ?k5 ?kA ?kF ?kK ?k6 ?k7 ?k8 ?k9 ?kB ?kR ?_ ?c2 ?c3 ?c4 ?c5; (case kA => exact rfl); (case kF => exact rfl); (case kK => first | exact rfl | assumption); (case k1 => k_asm); (case k2 => k_asm); (case k3 => k_asm); (case k4 => k_asm); (case k5 => k_asm); (case k6 => k_is); (case k7 => k_is); (case k8 => first | ktr_room | (refine depth_mark ?_; ktr_room)); (case k9 => first | exact BindsTo.of_eq rfl | exact binds_K (by k_in) rfl (by k_is) rfl rfl rfl); (case c5 => decide); (case kB => exact locs rfl); (case kR => exact rfl); (case c2 => exact rfl); (case c3 => exact rfl); (case c4 => exact rfl); k_whole; intro g' L' h' tk' FG' F' N' B' X' T'; (try dsimp only); (try k_fold))))
    (repeat' ((fail_if_success (with_reducible show wpAny _ _ (exec (Stmt.While _ _ _ _) _) _ _ _)); first | (k_unfold; (try dsimp only)) | ((with_reducible show wpAny _ _ (call _ _) _ _ _); first | k_invariant "r" ((Sh.df _), cdel_ok) | k_invariant "r" (728, bget_ok) | k_invariant "lw" o_iter) | ((with_reducible show wpAny _ _ (getAttr _ _ _) _ _ _); k_invariant "lw" at_ord) | ((with_reducible show wpAny _ _ (delItem _ _) _ _ _); k_invariant "lw" op_del) | ((with_reducible show wpAny _ _ (subscriptTail _ _ _ _) _ _ _); k_invariant "lw" op_sub) | ((with_reducible show wpAny _ _ (call (Value.builtin "next") _) _ _ _); apply n_next; k_invariant "c" [F, N, off, hi, ha, hp, hr, z]) | ((with_reducible show wpAny _ _ (call (Value.builtin "iter") [Value.ref (Sh.x _)]) _ _ _); (apply citer; walk_at "my close")) | walk1 | dsimp only | (leave1; try dsimp only)))
    rw [hqd] at *
    exact ret _ _ _ _ _ _ (by assumption) (by assumption) (by walk_at "my news")
set_option maxHeartbeats 2000000 in
theorem cpop_no {w : World} {p : Program} {loose : List Str} {mean : ExcName → Option Value} {mg mb : Str → Option Value} {dp un : Nat} {gd : Option (List Code)} {cn : Str} {cs : Scope} {a : Addr} {ccd : Value} {outer : List Env} {A₀ : Around} {base h₀ : Heap} {L : Addr} {m : Str → Option Value} {s : Shared} {E : Value → Shared → Prop} {S : Sh} {rest nx : Led} {Q : Value → Shared → Prop} 
  (XB : (Mine.K0 w.params).In base) (TB : Top p loose mean mg mb base) (D : KtsDicts (outer.filterMap (·.frame)) h₀) (B : Below A₀ base outer h₀) (F : Fr h₀ L s.heap m) (X : (Mine.K0 w.params).In h₀) (T : Top p loose mean mg mb h₀) (hk : cs.kind = .function) (R : Cw w S rest [] [] nx) (N : News h₀ L s.heap nx) (hdp : dp + 30 < recursionLimit) (hun : un + 240 < cLine) (exc : ∀ g' h' e tk', Fr h₀ L g' m → RaisedSN base g' (envOf cn cs L a ccd :: outer) e (.type "KeyError") nx h' → g'.UpToSlots h' → E (.ref e) { s with heap := h', toks := tk' }) :
  wpAny (model PySem.Challenge.rw_ki0005_01.row.prog w) (ktrTop dp un gd cn cs L a ccd [] outer) (call (.ref S.pf) [.ref S.x]) Q E s := by
  cases hs : S.fifo with
  | false =>
    rw [Sh.pfF hs]
    (refine wpAny_call ?_; (k_dflt (refine' enDS ([(Str.ofString "self", .ref S.x)]) ?k1 ?k2 ?k3 ?k4 ?k5 ?XB ?TB ?D ?T0 ?kA ?k6 ?k7 ?k8 ?k9 ?kB ?kR ?_ ?cK ?c2 ?c3 ?c4 ?c5; (case kA => exact rfl); (case k2 => k_asm); (case k1 => k_asm); (case XB => assumption); (case TB => assumption); (case D => assumption); (case T0 => first | assumption | exact KtsTurn.refl); (case k3 => k_asm); (case k4 => k_asm); (case k5 => k_asm); (case k6 => k_is); (case k7 => k_is); (case k8 => first | ktr_room | (refine depth_mark ?_; ktr_room)); (case k9 => first | exact BindsTo.of_eq rfl | exact binds_K (by k_in) rfl (by k_is) rfl rfl rfl); (case kB => exact locs rfl); (case kR => exact rfl); (case cK => first | exact rfl | assumption); (case c2 => exact rfl); (case c3 => exact rfl); (case c4 => exact rfl); (case c5 => decide); k_whole; intro g' L' h' tk' FG' F' N' B' X' T' D'; (try dsimp only); (try k_lift B'); (try k_fold))))
    (repeat' ((fail_if_success (with_reducible show wpAny _ _ (exec (Stmt.While _ _ _ _) _) _ _ _)); first | (k_unfold; (try dsimp only)) | ((with_reducible show wpAny _ _ (getAttr _ _ _) _ _ _); k_invariant "lw" at_ord) | ((with_reducible show wpAny _ _ (call _ _) _ _ _); first | k_invariant "lw" o_iter | k_invariant "lw" op_type) | ((with_reducible show wpAny _ _ (call (Value.type "KeyError") _) _ _ _); (with_reducible rename Bare _ => brX); refine call_exc_raise2 excClass_KeyError (by (show _ ≤ sizeLine; rw [sizeLine_eq]; simp)) ?_; intro h' e' x'; (try dsimp only)) | ((with_reducible show wpAny _ _ (leaving _ _) _ _ _); apply leave_newX; (case hx | F | K => assumption); (case N => k_asm); (try (case hk => rfl)); k_whole; intro h' S' U'; (try dsimp only at S' U' ⊢)) | ((with_reducible rename Bare _ => brX); (with_reducible show wpAny _ _ (exec (Stmt.Raise (some (Expr.Name _ _)) (some _) _) _) _ _ _); (with_reducible rename Fr _ _ _ _ => kF); refine Raise_classFrom (by rfl) excClass_KeyError (by (rw [isSubtype_type]; kernel_rfl)) (by (refine name_B kF (by k_asm) (by k_asm) (by k_is) (by boot_by_name) (by decide) ?_; exact ⟨rfl, rfl⟩)) ?_; intro h' e' x') | ((with_reducible rename Bare _ => brX); (with_reducible show wpAny _ _ (exec (Stmt.Raise (some _) (some _) _) _) _ _ _); (fail_if_success (with_reducible show wpAny _ _ (exec (Stmt.Raise (some (Expr.Name _ _)) _ _) _) _ _ _)); refine Raise_from rfl ?_) | ((with_reducible show FromTo _ _ _ _); refine FromTo.intro (by first | assumption | exact Heap.MadeExc.newExc (by assumption)) (News.get (by assumption) (by k_mem)) (by assumption) ?_; intro h' X') | ((with_reducible show wpAny _ _ (getAttr (Value.ref _) (PySem.Str.ofString "__name__") _) _ _ _); (refine name_cls (by k_asm) (by k_asm) (by k_is) (by k_is) (by k_is) (by k_is) (by exact rfl) (by k_handed) (by k_is) ?_; k_whole)) | ((with_reducible show wpAny _ _ (call (Value.builtin "next") _) _ _ _); apply n_end; k_invariant "c" [F, N, off, hi, ha, hp, hh, hr, z]) | ((with_reducible show wpAny _ _ (call (Value.builtin "iter") [Value.ref (Sh.x _)]) _ _ _); (apply citer; walk_at "my close")) | ((with_reducible rename Heap.NewExc _ _ _ "StopIteration" => neX); (refine caught_X (T' := "StopIteration") neX (by assumption) (by assumption) (by assumption) (by assumption) (by assumption) (by assumption) (by first | assumption | exact KtsTurn.refl) (by k_is) boot_stop (by decide) isExc_stop notTuple_stop (by kts_sub) ?_; k_whole); intro h' g' oe' T' F' N' b' K' X' P' D'; (try k_lift K'); (try k_sweep)) | ((with_reducible rename Heap.NewExc _ _ _ "KeyError" => neX); (refine caught_X (T' := "KeyError") neX (by assumption) (by assumption) (by assumption) (by assumption) (by assumption) (by assumption) (by first | assumption | exact KtsTurn.refl) (by k_is) boot_key (by decide) kr_isExc_KeyError kr_notTuple_KeyError (by kts_sub) ?_; k_whole); intro h' g' oe' T' F' N' b' K' X' P' D'; (try k_lift K'); (try k_sweep)) | walk1 | dsimp only | (leave1; try dsimp only)))
    refine' exc _ _ _ _ ?eF ?eS ?eU
    case eS => exact sn_sub (turn_back (by assumption) (by assumption)) (by walk_at "my sub")
    case eF => assumption
    case eU => exact (turn_slots (by assumption)).trans (by assumption)
  | true =>
    rw [Sh.pfT hs]
    have hC := Sh.CT hs
    (refine wpAny_call ?_; (k_dflt (refine' enDS ([(Str.ofString "self", .ref S.x)]) ?k1 ?k2 ?k3 ?k4 ?k5 ?XB ?TB ?D ?T0 ?kA ?k6 ?k7 ?k8 ?k9 ?kB ?kR ?_ ?cK ?c2 ?c3 ?c4 ?c5; (case kA => exact rfl); (case k2 => k_asm); (case k1 => k_asm); (case XB => assumption); (case TB => assumption); (case D => assumption); (case T0 => first | assumption | exact KtsTurn.refl); (case k3 => k_asm); (case k4 => k_asm); (case k5 => k_asm); (case k6 => k_is); (case k7 => k_is); (case k8 => first | ktr_room | (refine depth_mark ?_; ktr_room)); (case k9 => first | exact BindsTo.of_eq rfl | exact binds_K (by k_in) rfl (by k_is) rfl rfl rfl); (case kB => exact locs rfl); (case kR => exact rfl); (case cK => first | exact rfl | assumption); (case c2 => exact rfl); (case c3 => exact rfl); (case c4 => exact rfl); (case c5 => decide); k_whole; intro g' L' h' tk' FG' F' N' B' X' T' D'; (try dsimp only); (try k_lift B'); (try k_fold))))
    (repeat' ((fail_if_success (with_reducible show wpAny _ _ (exec (Stmt.While _ _ _ _) _) _ _ _)); first | (k_unfold; (try dsimp only)) | ((with_reducible show wpAny _ _ (getAttr _ _ _) _ _ _); k_invariant "lw" at_ord) | ((with_reducible show wpAny _ _ (call _ _) _ _ _); first | k_invariant "lw" o_iter | k_invariant "lw" op_type) | ((with_reducible show wpAny _ _ (call (Value.type "KeyError") _) _ _ _); (with_reducible rename Bare _ => brX); refine call_exc_raise2 excClass_KeyError (by (show _ ≤ sizeLine; rw [sizeLine_eq]; simp)) ?_; intro h' e' x'; (try dsimp only)) | ((with_reducible show wpAny _ _ (leaving _ _) _ _ _); apply leave_newX; (case hx | F | K => assumption); (case N => k_asm); (try (case hk => rfl)); k_whole; intro h' S' U'; (try dsimp only at S' U' ⊢)) | ((with_reducible rename Bare _ => brX); (with_reducible show wpAny _ _ (exec (Stmt.Raise (some (Expr.Name _ _)) (some _) _) _) _ _ _); (with_reducible rename Fr _ _ _ _ => kF); refine Raise_classFrom (by rfl) excClass_KeyError (by (rw [isSubtype_type]; kernel_rfl)) (by (refine name_B kF (by k_asm) (by k_asm) (by k_is) (by boot_by_name) (by decide) ?_; exact ⟨rfl, rfl⟩)) ?_; intro h' e' x') | ((with_reducible rename Bare _ => brX); (with_reducible show wpAny _ _ (exec (Stmt.Raise (some _) (some _) _) _) _ _ _); (fail_if_success (with_reducible show wpAny _ _ (exec (Stmt.Raise (some (Expr.Name _ _)) _ _) _) _ _ _)); refine Raise_from rfl ?_) | ((with_reducible show FromTo _ _ _ _); refine FromTo.intro (by first | assumption | exact Heap.MadeExc.newExc (by assumption)) (News.get (by assumption) (by k_mem)) (by assumption) ?_; intro h' X') | ((with_reducible show wpAny _ _ (getAttr (Value.ref _) (PySem.Str.ofString "__name__") _) _ _ _); (refine name_cls (by k_asm) (by k_asm) (by k_is) (by k_is) (by k_is) (by k_is) (by exact rfl) (by k_handed) (by k_is) ?_; k_whole)) | ((with_reducible show wpAny _ _ (call (Value.builtin "next") _) _ _ _); apply n_end; k_invariant "c" [F, N, off, hi, ha, hp, hh, hr, z]) | ((with_reducible show wpAny _ _ (call (Value.builtin "iter") [Value.ref (Sh.x _)]) _ _ _); (apply citer; walk_at "my close")) | ((with_reducible rename Heap.NewExc _ _ _ "StopIteration" => neX); (refine caught_X (T' := "StopIteration") neX (by assumption) (by assumption) (by assumption) (by assumption) (by assumption) (by assumption) (by first | assumption | exact KtsTurn.refl) (by k_is) boot_stop (by decide) isExc_stop notTuple_stop (by kts_sub) ?_; k_whole); intro h' g' oe' T' F' N' b' K' X' P' D'; (try k_lift K'); (try k_sweep)) | ((with_reducible rename Heap.NewExc _ _ _ "KeyError" => neX); (refine caught_X (T' := "KeyError") neX (by assumption) (by assumption) (by assumption) (by assumption) (by assumption) (by assumption) (by first | assumption | exact KtsTurn.refl) (by k_is) boot_key (by decide) kr_isExc_KeyError kr_notTuple_KeyError (by kts_sub) ?_; k_whole); intro h' g' oe' T' F' N' b' K' X' P' D'; (try k_lift K'); (try k_sweep)) | walk1 | dsimp only | (leave1; try dsimp only)))
    rw [hC]
    (repeat' ((fail_if_success (with_reducible show wpAny _ _ (exec (Stmt.While _ _ _ _) _) _ _ _)); first | (k_unfold; (try dsimp only)) | ((with_reducible show wpAny _ _ (getAttr _ _ _) _ _ _); k_invariant "lw" at_ord) | ((with_reducible show wpAny _ _ (call _ _) _ _ _); first | k_invariant "lw" o_iter | k_invariant "lw" op_type) | ((with_reducible show wpAny _ _ (call (Value.type "KeyError") _) _ _ _); (with_reducible rename Bare _ => brX); refine call_exc_raise2 excClass_KeyError (by (show _ ≤ sizeLine; rw [sizeLine_eq]; simp)) ?_; intro h' e' x'; (try dsimp only)) | ((with_reducible show wpAny _ _ (leaving _ _) _ _ _); apply leave_newX; (case hx | F | K => assumption); (case N => k_asm); (try (case hk => rfl)); k_whole; intro h' S' U'; (try dsimp only at S' U' ⊢)) | ((with_reducible rename Bare _ => brX); (with_reducible show wpAny _ _ (exec (Stmt.Raise (some (Expr.Name _ _)) (some _) _) _) _ _ _); (with_reducible rename Fr _ _ _ _ => kF); refine Raise_classFrom (by rfl) excClass_KeyError (by (rw [isSubtype_type]; kernel_rfl)) (by (refine name_B kF (by k_asm) (by k_asm) (by k_is) (by boot_by_name) (by decide) ?_; exact ⟨rfl, rfl⟩)) ?_; intro h' e' x') | ((with_reducible rename Bare _ => brX); (with_reducible show wpAny _ _ (exec (Stmt.Raise (some _) (some _) _) _) _ _ _); (fail_if_success (with_reducible show wpAny _ _ (exec (Stmt.Raise (some (Expr.Name _ _)) _ _) _) _ _ _)); refine Raise_from rfl ?_) | ((with_reducible show FromTo _ _ _ _); refine FromTo.intro (by first | assumption | exact Heap.MadeExc.newExc (by assumption)) (News.get (by assumption) (by k_mem)) (by assumption) ?_; intro h' X') | ((with_reducible show wpAny _ _ (getAttr (Value.ref _) (PySem.Str.ofString "__name__") _) _ _ _); (refine name_cls (by k_asm) (by k_asm) (by k_is) (by k_is) (by k_is) (by k_is) (by exact rfl) (by k_handed) (by k_is) ?_; k_whole)) | ((with_reducible show wpAny _ _ (call (Value.builtin "next") _) _ _ _); apply n_end; k_invariant "c" [F, N, off, hi, ha, hp, hh, hr, z]) | ((with_reducible show wpAny _ _ (call (Value.builtin "iter") [Value.ref (Sh.x _)]) _ _ _); (apply citer; walk_at "my close")) | ((with_reducible rename Heap.NewExc _ _ _ "StopIteration" => neX); (refine caught_X (T' := "StopIteration") neX (by assumption) (by assumption) (by assumption) (by assumption) (by assumption) (by assumption) (by first | assumption | exact KtsTurn.refl) (by k_is) boot_stop (by decide) isExc_stop notTuple_stop (by kts_sub) ?_; k_whole); intro h' g' oe' T' F' N' b' K' X' P' D'; (try k_lift K'); (try k_sweep)) | ((with_reducible rename Heap.NewExc _ _ _ "KeyError" => neX); (refine caught_X (T' := "KeyError") neX (by assumption) (by assumption) (by assumption) (by assumption) (by assumption) (by assumption) (by first | assumption | exact KtsTurn.refl) (by k_is) boot_key (by decide) kr_isExc_KeyError kr_notTuple_KeyError (by kts_sub) ?_; k_whole); intro h' g' oe' T' F' N' b' K' X' P' D'; (try k_lift K'); (try k_sweep)) | walk1 | dsimp only | (leave1; try dsimp only)))
    refine' exc _ _ _ _ ?eF ?eS ?eU
    case eS => exact sn_sub (turn_back (by assumption) (by assumption)) (by walk_at "my sub")
    case eF => assumption
    case eU => exact (turn_slots (by assumption)).trans (by assumption)
-- Bs2
set_option maxHeartbeats 2000000 in
theorem csize {w : World} {p : Program} {loose : List Str} {mean : ExcName → Option Value} {mg mb : Str → Option Value} {dp un : Nat} {gd : Option (List Code)} {cn : Str} {cs : Scope} {a : Addr} {ccd : Value} {outer : List Env} {A₀ : Around} {base h₀ : Heap} {L : Addr} {m : Str → Option Value} {s : Shared} {E : Value → Shared → Prop} {S : Sh} {rest nx : Led} {c : List (Int × Int)} {q : List Int} {Q : Value → Shared → Prop} {v : Int} {tv : Tok}
  (B : Below A₀ base outer h₀) (F : Fr h₀ L s.heap m) (X : (Mine.K0 w.params).In h₀) (T : Top p loose mean mg mb h₀) (hk : cs.kind = .function) (R : Cw w S rest c q nx) (N : News h₀ L s.heap nx) (hs : S.sized = true) (hdp : dp + 8 < recursionLimit) (hun : un + 60 < cLine) (ret : ∀ h' tk' t, Fr h₀ L h' m → News h₀ L h' nx → Q (.int (S.sz v) t) { s with heap := h', toks := tk' }) :
  wpAny (model PySem.Challenge.rw_ki0005_01.row.prog w) (ktrTop dp un gd cn cs L a ccd [] outer) (call (.ref 1053) [.int v tv]) Q E s := by
  rw [Sh.szT hs] at ret
  (refine wpAny_call ?_; (k_dflt (refine' enD ([(Str.ofString "value", .int v tv)]) ?k1 ?k2 ?k3 ?k4 ?k5 ?kA ?kF ?kK ?k6 ?k7 ?k8 ?k9 ?kB ?kR ?_ ?c2 ?c3 ?c4 ?c5; (case kA => exact rfl); (case kF => exact rfl); (case kK => first | exact rfl | assumption); (case k1 => k_asm); (case k2 => k_asm); (case k3 => k_asm); (case k4 => k_asm); (case k5 => k_asm); (case k6 => k_is); (case k7 => k_is); (case k8 => first | ktr_room | (refine depth_mark ?_; ktr_room)); (case k9 => first | exact BindsTo.of_eq rfl | exact binds_K (by k_in) rfl (by k_is) rfl rfl rfl); (case c5 => decide); (case kB => exact locs rfl); (case kR => exact rfl); (case c2 => exact rfl); (case c3 => exact rfl); (case c4 => exact rfl); k_whole; intro g' L' h' tk' FG' F' N' B' X' T'; (try dsimp only); (try k_fold))))
  (repeat' ((fail_if_success (with_reducible show wpAny _ _ (exec (Stmt.While _ _ _ _) _) _ _ _)); first | (k_unfold; (try dsimp only)) | walk1 | (dsimp only; walk1) | (leave1; try dsimp only)))
  exact ret _ _ _ (by assumption) (by assumption)
theorem plain_pop {sz : Int → Int} {c : List (Int × Int)} {k v : Int} {q : List Int} (G : Core sz c (k :: q)) (e : k :: q = c.map (·.1)) (hl : aLook c k = some v) : q = (aDel c k).map (·.1) := by
  obtain ⟨_, _, h⟩ := plain_head G e hl
  exact h
set_option maxHeartbeats 2000000 in
theorem bsetU {w : World} {p : Program} {loose : List Str} {mean : ExcName → Option Value} {mg mb : Str → Option Value} {dp un : Nat} {gd : Option (List Code)} {cn : Str} {cs : Scope} {a : Addr} {ccd : Value} {outer : List Env} {A₀ : Around} {base h₀ : Heap} {L : Addr} {m : Str → Option Value} {s : Shared} {E : Value → Shared → Prop} {S : Sh} {rest nx : Led} {c : List (Int × Int)} {q : List Int} {Q : Value → Shared → Prop} {key val : Int} {tk tv : Tok}
  (B : Below A₀ base outer h₀) (F : Fr h₀ L s.heap m) (X : (Mine.K0 w.params).In h₀) (T : Top p loose mean mg mb h₀) (hk : cs.kind = .function) (R : Cw w S rest c q nx) (N : News h₀ L s.heap nx) (hs : S.sized = false) (G : Core S.sz c q) (hsm : S.fifo = false → q = c.map (·.1)) (hroom : total S.sz c ≤ S.room) (hf : Fits S.sz S.room val) (hdp : dp + 40 < recursionLimit) (hun : un + 300 < cLine) (ret : ∀ h' tk' nx', Cw w S rest (aPut (evict S.sz S.room (S.sz val) key c q).1 key val) (evict S.sz S.room (S.sz val) key c q).2 nx' → Fr h₀ L h' m → News h₀ L h' nx' → Q .none { s with heap := h', toks := tk' }) :
  wpAny (model PySem.Challenge.rw_ki0005_01.row.prog w) (ktrTop dp un gd cn cs L a ccd [] outer) (call (.ref 735) [.ref S.x, .int key tk, .int val tv]) Q E s := by
  have hlen := G.len
  have hlenz : (zOf S.sz c).length ≤ 5 := by rw [zOf_length]; exact hlen
  have h1 : ∀ v, S.sz v = 1 := fun v => by rw [Sh.szF hs]; rfl
  have hs1 : 1 ≤ S.room := by have := hf.1; rw [h1] at this; exact this
  cases hh : aHas c key with
  | true =>
    obtain ⟨v0, hl0⟩ := aLook_of_has hh
    have ht := total_del (sz := S.sz) G.nk hl0
    have e : evict S.sz S.room (S.sz val) key c q = (c, q) := evict_stop (by rw [ht, h1, h1]; omega)
    rw [e] at ret
    have e3 : total S.sz (aPut c key val) = total S.sz c := by rw [total_put G.nk, ht, h1, h1]; exact Int.sub_add_cancel _ _
    (refine wpAny_call ?_; (k_dflt (refine' enD ([(Str.ofString "value", .int val tv), (Str.ofString "key", .int key tk), (Str.ofString "self", .ref S.x)]) ?k1 ?k2 ?k3 ?k4 ?k5 ?kA ?kF ?kK ?k6 ?k7 ?k8 ?k9 ?kB ?kR ?_ ?c2 ?c3 ?c4 ?c5; (case kA => exact rfl); (case kF => exact rfl); (case kK => first | exact rfl | assumption); (case k1 => k_asm); (case k2 => k_asm); (case k3 => k_asm); (case k4 => k_asm); (case k5 => k_asm); (case k6 => k_is); (case k7 => k_is); (case k8 => first | ktr_room | (refine depth_mark ?_; ktr_room)); (case k9 => first | exact BindsTo.of_eq rfl | exact binds_K (by k_in) rfl (by k_is) rfl rfl rfl); (case c5 => decide); (case kB => exact locs rfl); (case kR => exact rfl); (case c2 => exact rfl); (case c3 => exact rfl); (case c4 => exact rfl); k_whole; intro g' L' h' tk' FG' F' N' B' X' T'; (try dsimp only); (try k_fold))))
    (repeat' ((fail_if_success (with_reducible show wpAny _ _ (exec (Stmt.While _ _ _ _) _) _ _ _)); first | (k_unfold; (try dsimp only)) | ((with_reducible show wpAny _ _ (call _ _) _ _ _); k_invariant "r" ((Sh.pf _), cpop_ok)) | ((with_reducible show wpAny _ _ (getMethod _ _ _) _ _ _); k_invariant "lw" m_item) | ((with_reducible show wpAny _ _ (getAttr _ _ _) _ _ _); first | k_invariant "lw" at_data | k_invariant "lw" at_max | k_invariant "lw" at_cur | k_invariant "lw" at_sizeF) | ((with_reducible show wpAny _ _ (setAttr _ _ _) _ _ _); k_invariant "lw" at_put) | ((with_reducible show wpAny _ _ (setItem _ _ _) _ _ _); k_invariant "lw" d_set) | ((with_reducible show wpAny _ _ (compareOp _ _ (Value.ref _)) _ _ _); (k_invariant "lw" d_in; (try dsimp only [Bool.not_true, Bool.not_false]))) | ((with_reducible show wpAny _ _ (callWith _ (Value.ref (Sh.pf _)) _ _ _) _ _ _); refine callWith_K0 (by k_in) kp_pf ?_; k_whole) | walk1 | dsimp only | (leave1; try dsimp only)))
    refine ret _ _ _ ?_ (by assumption) (by assumption)
    unfold Cw
    rw [e3]
    exact Lw.anyz hs (by assumption)
  | false =>
    (refine wpAny_call ?_; (k_dflt (refine' enD ([(Str.ofString "value", .int val tv), (Str.ofString "key", .int key tk), (Str.ofString "self", .ref S.x)]) ?k1 ?k2 ?k3 ?k4 ?k5 ?kA ?kF ?kK ?k6 ?k7 ?k8 ?k9 ?kB ?kR ?_ ?c2 ?c3 ?c4 ?c5; (case kA => exact rfl); (case kF => exact rfl); (case kK => first | exact rfl | assumption); (case k1 => k_asm); (case k2 => k_asm); (case k3 => k_asm); (case k4 => k_asm); (case k5 => k_asm); (case k6 => k_is); (case k7 => k_is); (case k8 => first | ktr_room | (refine depth_mark ?_; ktr_room)); (case k9 => first | exact BindsTo.of_eq rfl | exact binds_K (by k_in) rfl (by k_is) rfl rfl rfl); (case c5 => decide); (case kB => exact locs rfl); (case kR => exact rfl); (case c2 => exact rfl); (case c3 => exact rfl); (case c4 => exact rfl); k_whole; intro g' L' h' tk' FG' F' N' B' X' T'; (try dsimp only); (try k_fold))))
    (repeat' ((fail_if_success (with_reducible show wpAny _ _ (exec (Stmt.While _ _ _ _) _) _ _ _)); first | (k_unfold; (try dsimp only)) | ((with_reducible show wpAny _ _ (call _ _) _ _ _); k_invariant "r" ((Sh.pf _), cpop_ok)) | ((with_reducible show wpAny _ _ (getMethod _ _ _) _ _ _); k_invariant "lw" m_item) | ((with_reducible show wpAny _ _ (getAttr _ _ _) _ _ _); first | k_invariant "lw" at_data | k_invariant "lw" at_max | k_invariant "lw" at_cur | k_invariant "lw" at_sizeF) | ((with_reducible show wpAny _ _ (setAttr _ _ _) _ _ _); k_invariant "lw" at_put) | ((with_reducible show wpAny _ _ (setItem _ _ _) _ _ _); k_invariant "lw" d_set) | ((with_reducible show wpAny _ _ (compareOp _ _ (Value.ref _)) _ _ _); (k_invariant "lw" d_in; (try dsimp only [Bool.not_true, Bool.not_false]))) | ((with_reducible show wpAny _ _ (callWith _ (Value.ref (Sh.pf _)) _ _ _) _ _ _); refine callWith_K0 (by k_in) kp_pf ?_; k_whole) | walk1 | dsimp only | (leave1; try dsimp only)))
    refine' while_fix (fun (p : List (Int × Int) × List Int) nx => Cw w S rest p.1 p.2 nx ∧ Core S.sz p.1 p.2 ∧ (S.fifo = false → p.2 = p.1.map (·.1)) ∧ aHas p.1 key = false ∧ evict S.sz S.room (S.sz val) key p.1 p.2 = evict S.sz S.room (S.sz val) key c q) (fun p => p.2.length) (c, q) ?F ?N ?R ?_
    (case F => assumption)
    (case N => k_asm)
    (case R => exact ⟨by assumption, G, hsm, hh, rfl⟩)
    rintro ⟨c', q'⟩ nx₁ h tk₁ F₁ N₁ hb9
    refine Classical.byContradiction fun hn9 => ?_
    obtain ⟨R₁, G₁, hsm₁, hh₁, e₁⟩ := hb9
    refine hn9 ?_; clear hn9
    dsimp only at R₁ G₁ hsm₁ hh₁ e₁
    have hlen := G₁.len
    have hlenz : (zOf S.sz c').length ≤ 5 := by rw [zOf_length]; exact hlen
    have hd9 : aDel c' key = c' := aDel_none hh₁
    by_cases hgo : total S.sz (aDel c' key) + S.sz val > S.room
    · have hgo2 : S.room < total S.sz c' + 1 := by rw [hd9, h1] at hgo; exact hgo
      obtain ⟨k, q'', rfl⟩ := G₁.more hf.1 hgo
      obtain ⟨v, hl⟩ := G₁.head
      have hkd : (aDel c' k).length ≤ 5 := Nat.le_trans (List.length_filter_le _ _) hlen
      (repeat' ((fail_if_success (with_reducible show wpAny _ _ (exec (Stmt.While _ _ _ _) _) _ _ _)); first | (k_unfold; (try dsimp only)) | ((with_reducible show wpAny _ _ (call _ _) _ _ _); k_invariant "r" ((Sh.pf _), cpop_ok)) | ((with_reducible show wpAny _ _ (getMethod _ _ _) _ _ _); k_invariant "lw" m_item) | ((with_reducible show wpAny _ _ (getAttr _ _ _) _ _ _); first | k_invariant "lw" at_data | k_invariant "lw" at_max | k_invariant "lw" at_cur | k_invariant "lw" at_sizeF) | ((with_reducible show wpAny _ _ (setAttr _ _ _) _ _ _); k_invariant "lw" at_put) | ((with_reducible show wpAny _ _ (setItem _ _ _) _ _ _); k_invariant "lw" d_set) | ((with_reducible show wpAny _ _ (compareOp _ _ (Value.ref _)) _ _ _); (k_invariant "lw" d_in; (try dsimp only [Bool.not_true, Bool.not_false]))) | ((with_reducible show wpAny _ _ (callWith _ (Value.ref (Sh.pf _)) _ _ _) _ _ _); refine callWith_K0 (by k_in) kp_pf ?_; k_whole) | walk1 | dsimp only | (leave1; try dsimp only)))
      refine' FixEnd.intro (aDel c' k, q'') _ ?eF1 ?eN1 ?eR1 (Nat.lt_succ_self _)
      case eF1 => assumption
      case eR1 => exact ⟨by assumption, G₁.pop, fun h9 => plain_pop G₁ (hsm₁ h9) hl, by rw [aHas_del, hh₁, Bool.and_false], by rw [← e₁, evict_go hgo]⟩
      case eN1 => walk_at "my news"
    · have hgo2 : ¬ S.room < total S.sz c' + 1 := by rw [hd9, h1] at hgo; exact hgo
      (repeat' ((fail_if_success (with_reducible show wpAny _ _ (exec (Stmt.While _ _ _ _) _) _ _ _)); first | (k_unfold; (try dsimp only)) | ((with_reducible show wpAny _ _ (call _ _) _ _ _); k_invariant "r" ((Sh.pf _), cpop_ok)) | ((with_reducible show wpAny _ _ (getMethod _ _ _) _ _ _); k_invariant "lw" m_item) | ((with_reducible show wpAny _ _ (getAttr _ _ _) _ _ _); first | k_invariant "lw" at_data | k_invariant "lw" at_max | k_invariant "lw" at_cur | k_invariant "lw" at_sizeF) | ((with_reducible show wpAny _ _ (setAttr _ _ _) _ _ _); k_invariant "lw" at_put) | ((with_reducible show wpAny _ _ (setItem _ _ _) _ _ _); k_invariant "lw" d_set) | ((with_reducible show wpAny _ _ (compareOp _ _ (Value.ref _)) _ _ _); (k_invariant "lw" d_in; (try dsimp only [Bool.not_true, Bool.not_false]))) | ((with_reducible show wpAny _ _ (callWith _ (Value.ref (Sh.pf _)) _ _ _) _ _ _); refine callWith_K0 (by k_in) kp_pf ?_; k_whole) | walk1 | dsimp only | (leave1; try dsimp only)))
      have e2 : evict S.sz S.room (S.sz val) key c q = (c', q') := by rw [← e₁, evict_stop hgo]
      rw [e2] at ret
      have e3 : total S.sz (aPut c' key val) = total S.sz c' + 1 := by rw [total_put G₁.nk, hd9, h1]
      refine ret _ _ _ ?_ (by assumption) (by assumption)
      unfold Cw
      rw [e3]
      exact Lw.anyz hs (by assumption)
set_option maxHeartbeats 2000000 in
theorem bsetZ {w : World} {p : Program} {loose : List Str} {mean : ExcName → Option Value} {mg mb : Str → Option Value} {dp un : Nat} {gd : Option (List Code)} {cn : Str} {cs : Scope} {a : Addr} {ccd : Value} {outer : List Env} {A₀ : Around} {base h₀ : Heap} {L : Addr} {m : Str → Option Value} {s : Shared} {E : Value → Shared → Prop} {S : Sh} {rest nx : Led} {c : List (Int × Int)} {q : List Int} {Q : Value → Shared → Prop} {key val : Int} {tk tv : Tok}
  (B : Below A₀ base outer h₀) (F : Fr h₀ L s.heap m) (X : (Mine.K0 w.params).In h₀) (T : Top p loose mean mg mb h₀) (hk : cs.kind = .function) (R : Cw w S rest c q nx) (N : News h₀ L s.heap nx) (hs : S.sized = true) (G : Core S.sz c q) (hsm : S.fifo = false → q = c.map (·.1)) (hroom : total S.sz c ≤ S.room) (hf : Fits S.sz S.room val) (hdp : dp + 40 < recursionLimit) (hun : un + 300 < cLine) (ret : ∀ h' tk' nx', Cw w S rest (aPut (evict S.sz S.room (S.sz val) key c q).1 key val) (evict S.sz S.room (S.sz val) key c q).2 nx' → Fr h₀ L h' m → News h₀ L h' nx' → Q .none { s with heap := h', toks := tk' }) :
  wpAny (model PySem.Challenge.rw_ki0005_01.row.prog w) (ktrTop dp un gd cn cs L a ccd [] outer) (call (.ref 735) [.ref S.x, .int key tk, .int val tv]) Q E s := by
  have hlen := G.len
  have hlenz : (zOf S.sz c).length ≤ 5 := by rw [zOf_length]; exact hlen
  obtain ⟨hs1, hs2⟩ := id hf
  cases hlk : aLook c key with
  | none =>
    have hh : aHas c key = false := by rw [← aLook_has, hlk]; rfl
    (refine wpAny_call ?_; (k_dflt (refine' enD ([(Str.ofString "value", .int val tv), (Str.ofString "key", .int key tk), (Str.ofString "self", .ref S.x)]) ?k1 ?k2 ?k3 ?k4 ?k5 ?kA ?kF ?kK ?k6 ?k7 ?k8 ?k9 ?kB ?kR ?_ ?c2 ?c3 ?c4 ?c5; (case kA => exact rfl); (case kF => exact rfl); (case kK => first | exact rfl | assumption); (case k1 => k_asm); (case k2 => k_asm); (case k3 => k_asm); (case k4 => k_asm); (case k5 => k_asm); (case k6 => k_is); (case k7 => k_is); (case k8 => first | ktr_room | (refine depth_mark ?_; ktr_room)); (case k9 => first | exact BindsTo.of_eq rfl | exact binds_K (by k_in) rfl (by k_is) rfl rfl rfl); (case c5 => decide); (case kB => exact locs rfl); (case kR => exact rfl); (case c2 => exact rfl); (case c3 => exact rfl); (case c4 => exact rfl); k_whole; intro g' L' h' tk' FG' F' N' B' X' T'; (try dsimp only); (try k_fold))))
    (repeat' ((fail_if_success (with_reducible show wpAny _ _ (exec (Stmt.While _ _ _ _) _) _ _ _)); first | (k_unfold; (try dsimp only)) | ((with_reducible show wpAny _ _ (call _ _) _ _ _); first | k_invariant "r" (1053, csize) | k_invariant "r" ((Sh.pf _), cpop_ok)) | ((with_reducible show wpAny _ _ (getMethod _ _ _) _ _ _); first | k_invariant "lw" m_item | k_invariant "lw" m_sz) | ((with_reducible show wpAny _ _ (getAttr _ _ _) _ _ _); first | k_invariant "lw" at_data | k_invariant "lw" at_max | k_invariant "lw" at_cur | k_invariant "lw" at_sizeT) | ((with_reducible show wpAny _ _ (setAttr _ _ _) _ _ _); k_invariant "lw" at_put) | ((with_reducible show wpAny _ _ (getItem _ _) _ _ _); k_invariant "lw" z_get) | ((with_reducible show wpAny _ _ (setItem _ _ _) _ _ _); first | k_invariant "lw" d_set | k_invariant "lw" z_set) | ((with_reducible show wpAny _ _ (compareOp _ _ (Value.ref _)) _ _ _); (k_invariant "lw" d_ni; (try dsimp only [Bool.not_true, Bool.not_false]))) | ((with_reducible show wpAny _ _ (subscriptTail _ _ (Value.ref (Sh.z _)) _) _ _ _); refine z_tail (by k_asm) (by k_asm) (by k_asm) (by first | with_reducible assumption | walk_at "my news") (by k_asm) ?_; k_whole) | ((with_reducible show wpAny _ _ (callWith _ (Value.ref (Sh.pf _)) _ _ _) _ _ _); refine callWith_K0 (by k_in) kp_pf ?_; k_whole) | walk1 | dsimp only | (leave1; try dsimp only)))
    refine' while_fix (fun (p : List (Int × Int) × List Int) nx => Cw w S rest p.1 p.2 nx ∧ Core S.sz p.1 p.2 ∧ (S.fifo = false → p.2 = p.1.map (·.1)) ∧ aHas p.1 key = false ∧ evict S.sz S.room (S.sz val) key p.1 p.2 = evict S.sz S.room (S.sz val) key c q) (fun p => p.2.length) (c, q) ?F ?N ?R ?_
    (case F => assumption)
    (case N => k_asm)
    (case R => exact ⟨by assumption, G, hsm, hh, rfl⟩)
    rintro ⟨c', q'⟩ nx₁ h tk₁ F₁ N₁ hb9
    refine Classical.byContradiction fun hn9 => ?_
    obtain ⟨R₁, G₁, hsm₁, hh₁, e₁⟩ := hb9
    refine hn9 ?_; clear hn9
    dsimp only at R₁ G₁ hsm₁ hh₁ e₁
    have hlen := G₁.len
    have hlenz : (zOf S.sz c').length ≤ 5 := by rw [zOf_length]; exact hlen
    have hd9 : aDel c' key = c' := aDel_none hh₁
    by_cases hgo : total S.sz (aDel c' key) + S.sz val > S.room
    · have hgo2 : S.room < total S.sz c' + S.sz val := by rw [hd9] at hgo; exact hgo
      obtain ⟨k, q'', rfl⟩ := G₁.more hf.1 hgo
      obtain ⟨v, hl⟩ := G₁.head
      have hkd : (aDel c' k).length ≤ 5 := Nat.le_trans (List.length_filter_le _ _) hlen
      (repeat' ((fail_if_success (with_reducible show wpAny _ _ (exec (Stmt.While _ _ _ _) _) _ _ _)); first | (k_unfold; (try dsimp only)) | ((with_reducible show wpAny _ _ (call _ _) _ _ _); first | k_invariant "r" (1053, csize) | k_invariant "r" ((Sh.pf _), cpop_ok)) | ((with_reducible show wpAny _ _ (getMethod _ _ _) _ _ _); first | k_invariant "lw" m_item | k_invariant "lw" m_sz) | ((with_reducible show wpAny _ _ (getAttr _ _ _) _ _ _); first | k_invariant "lw" at_data | k_invariant "lw" at_max | k_invariant "lw" at_cur | k_invariant "lw" at_sizeT) | ((with_reducible show wpAny _ _ (setAttr _ _ _) _ _ _); k_invariant "lw" at_put) | ((with_reducible show wpAny _ _ (getItem _ _) _ _ _); k_invariant "lw" z_get) | ((with_reducible show wpAny _ _ (setItem _ _ _) _ _ _); first | k_invariant "lw" d_set | k_invariant "lw" z_set) | ((with_reducible show wpAny _ _ (compareOp _ _ (Value.ref _)) _ _ _); (k_invariant "lw" d_ni; (try dsimp only [Bool.not_true, Bool.not_false]))) | ((with_reducible show wpAny _ _ (subscriptTail _ _ (Value.ref (Sh.z _)) _) _ _ _); refine z_tail (by k_asm) (by k_asm) (by k_asm) (by first | with_reducible assumption | walk_at "my news") (by k_asm) ?_; k_whole) | ((with_reducible show wpAny _ _ (callWith _ (Value.ref (Sh.pf _)) _ _ _) _ _ _); refine callWith_K0 (by k_in) kp_pf ?_; k_whole) | walk1 | dsimp only | (leave1; try dsimp only)))
      refine' FixEnd.intro (aDel c' k, q'') _ ?eF2 ?eN2 ?eR2 (Nat.lt_succ_self _)
      case eF2 => assumption
      case eR2 => exact ⟨by assumption, G₁.pop, fun h9 => plain_pop G₁ (hsm₁ h9) hl, by rw [aHas_del, hh₁, Bool.and_false], by rw [← e₁, evict_go hgo]⟩
      case eN2 => walk_at "my news"
    · have hgo2 : ¬ S.room < total S.sz c' + S.sz val := by rw [hd9] at hgo; exact hgo
      (repeat' ((fail_if_success (with_reducible show wpAny _ _ (exec (Stmt.While _ _ _ _) _) _ _ _)); first | (k_unfold; (try dsimp only)) | ((with_reducible show wpAny _ _ (call _ _) _ _ _); first | k_invariant "r" (1053, csize) | k_invariant "r" ((Sh.pf _), cpop_ok)) | ((with_reducible show wpAny _ _ (getMethod _ _ _) _ _ _); first | k_invariant "lw" m_item | k_invariant "lw" m_sz) | ((with_reducible show wpAny _ _ (getAttr _ _ _) _ _ _); first | k_invariant "lw" at_data | k_invariant "lw" at_max | k_invariant "lw" at_cur | k_invariant "lw" at_sizeT) | ((with_reducible show wpAny _ _ (setAttr _ _ _) _ _ _); k_invariant "lw" at_put) | ((with_reducible show wpAny _ _ (getItem _ _) _ _ _); k_invariant "lw" z_get) | ((with_reducible show wpAny _ _ (setItem _ _ _) _ _ _); first | k_invariant "lw" d_set | k_invariant "lw" z_set) | ((with_reducible show wpAny _ _ (compareOp _ _ (Value.ref _)) _ _ _); (k_invariant "lw" d_ni; (try dsimp only [Bool.not_true, Bool.not_false]))) | ((with_reducible show wpAny _ _ (subscriptTail _ _ (Value.ref (Sh.z _)) _) _ _ _); refine z_tail (by k_asm) (by k_asm) (by k_asm) (by first | with_reducible assumption | walk_at "my news") (by k_asm) ?_; k_whole) | ((with_reducible show wpAny _ _ (callWith _ (Value.ref (Sh.pf _)) _ _ _) _ _ _); refine callWith_K0 (by k_in) kp_pf ?_; k_whole) | walk1 | dsimp only | (leave1; try dsimp only)))
      have e2 : evict S.sz S.room (S.sz val) key c q = (c', q') := by rw [← e₁, evict_stop hgo]
      rw [e2] at ret
      have e3 : total S.sz (aPut c' key val) = total S.sz c' + S.sz val := by rw [total_put G₁.nk, hd9]
      refine ret _ _ _ ?_ (by assumption) (by assumption)
      unfold Cw
      rw [e3, ← zOf_put]
      assumption
  | some v0 =>
    have hh : aHas c key = true := aHas_of_look hlk
    have hzk := zOf_look_some (sz := S.sz) hlk
    have ht0 := total_del (sz := S.sz) G.nk hlk
    (refine wpAny_call ?_; (k_dflt (refine' enD ([(Str.ofString "value", .int val tv), (Str.ofString "key", .int key tk), (Str.ofString "self", .ref S.x)]) ?k1 ?k2 ?k3 ?k4 ?k5 ?kA ?kF ?kK ?k6 ?k7 ?k8 ?k9 ?kB ?kR ?_ ?c2 ?c3 ?c4 ?c5; (case kA => exact rfl); (case kF => exact rfl); (case kK => first | exact rfl | assumption); (case k1 => k_asm); (case k2 => k_asm); (case k3 => k_asm); (case k4 => k_asm); (case k5 => k_asm); (case k6 => k_is); (case k7 => k_is); (case k8 => first | ktr_room | (refine depth_mark ?_; ktr_room)); (case k9 => first | exact BindsTo.of_eq rfl | exact binds_K (by k_in) rfl (by k_is) rfl rfl rfl); (case c5 => decide); (case kB => exact locs rfl); (case kR => exact rfl); (case c2 => exact rfl); (case c3 => exact rfl); (case c4 => exact rfl); k_whole; intro g' L' h' tk' FG' F' N' B' X' T'; (try dsimp only); (try k_fold))))
    (repeat' ((fail_if_success (with_reducible show wpAny _ _ (exec (Stmt.While _ _ _ _) _) _ _ _)); first | (k_unfold; (try dsimp only)) | ((with_reducible show wpAny _ _ (call _ _) _ _ _); first | k_invariant "r" (1053, csize) | k_invariant "r" ((Sh.pf _), cpop_ok)) | ((with_reducible show wpAny _ _ (getMethod _ _ _) _ _ _); first | k_invariant "lw" m_item | k_invariant "lw" m_sz) | ((with_reducible show wpAny _ _ (getAttr _ _ _) _ _ _); first | k_invariant "lw" at_data | k_invariant "lw" at_max | k_invariant "lw" at_cur | k_invariant "lw" at_sizeT) | ((with_reducible show wpAny _ _ (setAttr _ _ _) _ _ _); k_invariant "lw" at_put) | ((with_reducible show wpAny _ _ (getItem _ _) _ _ _); k_invariant "lw" z_get) | ((with_reducible show wpAny _ _ (setItem _ _ _) _ _ _); first | k_invariant "lw" d_set | k_invariant "lw" z_set) | ((with_reducible show wpAny _ _ (compareOp _ _ (Value.ref _)) _ _ _); (k_invariant "lw" d_ni; (try dsimp only [Bool.not_true, Bool.not_false]))) | ((with_reducible show wpAny _ _ (subscriptTail _ _ (Value.ref (Sh.z _)) _) _ _ _); refine z_tail (by k_asm) (by k_asm) (by k_asm) (by first | with_reducible assumption | walk_at "my news") (by k_asm) ?_; k_whole) | ((with_reducible show wpAny _ _ (callWith _ (Value.ref (Sh.pf _)) _ _ _) _ _ _); refine callWith_K0 (by k_in) kp_pf ?_; k_whole) | walk1 | dsimp only | (leave1; try dsimp only)))
    refine' while_one (Str.ofString "diffsize") (fun p => S.sz val - (total S.sz p.1 - total S.sz (aDel p.1 key))) (fun (p : List (Int × Int) × List Int) nx => Cw w S rest p.1 p.2 nx ∧ Core S.sz p.1 p.2 ∧ (S.fifo = false → p.2 = p.1.map (·.1)) ∧ (aLook p.1 key = some v0 ∨ aHas p.1 key = false) ∧ evict S.sz S.room (S.sz val) key p.1 p.2 = evict S.sz S.room (S.sz val) key c q) (fun p => p.2.length) (c, q) ?F ?N ?hy ?hi ?R ?_
    (case F => assumption)
    (case N => k_asm)
    (case hy => rfl)
    (case hi => (show S.sz val - S.sz v0 = S.sz val - (total S.sz c - total S.sz (aDel c key)); rw [ht0, Int.sub_sub_self]))
    (case R => exact ⟨by assumption, G, hsm, .inl hlk, rfl⟩)
    rintro ⟨c', q'⟩ nx₁ h tk₁ t₁ F₁ N₁ hb9
    refine Classical.byContradiction fun hn9 => ?_
    obtain ⟨R₁, G₁, hsm₁, hh₁, e₁⟩ := hb9
    refine hn9 ?_; clear hn9
    dsimp only at R₁ G₁ hsm₁ hh₁ e₁
    have hlen := G₁.len
    have hlenz : (zOf S.sz c').length ≤ 5 := by rw [zOf_length]; exact hlen
    dsimp only at F₁
    by_cases hgo : total S.sz (aDel c' key) + S.sz val > S.room
    · have hgo2 : S.room < total S.sz c' + (S.sz val - (total S.sz c' - total S.sz (aDel c' key))) := by rw [eqA]; exact hgo
      obtain ⟨k, q'', rfl⟩ := G₁.more hf.1 hgo
      obtain ⟨v, hl⟩ := G₁.head
      have hkd : (aDel c' k).length ≤ 5 := Nat.le_trans (List.length_filter_le _ _) hlen
      have hq2 : (aLook (aDel c' k) key = some v0 ∧ aLook c' key = some v0) ∨ aHas (aDel c' k) key = false := by
        by_cases hkk : k = key
        · exact .inr (by rw [hkk, aHas_del]; simp)
        · rcases hh₁ with hh₁ | hh₁
          · exact .inl ⟨(aLook_del_ne hkk).trans hh₁, hh₁⟩
          · exact .inr (by rw [aHas_del, hh₁, Bool.and_false])
      rcases hq2 with hx | hx
      · have hx2 : aHas (aDel c' k) key = true := aHas_of_look hx.1
        (repeat' ((fail_if_success (with_reducible show wpAny _ _ (exec (Stmt.While _ _ _ _) _) _ _ _)); first | (k_unfold; (try dsimp only)) | ((with_reducible show wpAny _ _ (call _ _) _ _ _); first | k_invariant "r" (1053, csize) | k_invariant "r" ((Sh.pf _), cpop_ok)) | ((with_reducible show wpAny _ _ (getMethod _ _ _) _ _ _); first | k_invariant "lw" m_item | k_invariant "lw" m_sz) | ((with_reducible show wpAny _ _ (getAttr _ _ _) _ _ _); first | k_invariant "lw" at_data | k_invariant "lw" at_max | k_invariant "lw" at_cur | k_invariant "lw" at_sizeT) | ((with_reducible show wpAny _ _ (setAttr _ _ _) _ _ _); k_invariant "lw" at_put) | ((with_reducible show wpAny _ _ (getItem _ _) _ _ _); k_invariant "lw" z_get) | ((with_reducible show wpAny _ _ (setItem _ _ _) _ _ _); first | k_invariant "lw" d_set | k_invariant "lw" z_set) | ((with_reducible show wpAny _ _ (compareOp _ _ (Value.ref _)) _ _ _); (k_invariant "lw" d_ni; (try dsimp only [Bool.not_true, Bool.not_false]))) | ((with_reducible show wpAny _ _ (subscriptTail _ _ (Value.ref (Sh.z _)) _) _ _ _); refine z_tail (by k_asm) (by k_asm) (by k_asm) (by first | with_reducible assumption | walk_at "my news") (by k_asm) ?_; k_whole) | ((with_reducible show wpAny _ _ (callWith _ (Value.ref (Sh.pf _)) _ _ _) _ _ _); refine callWith_K0 (by k_in) kp_pf ?_; k_whole) | walk1 | dsimp only | (leave1; try dsimp only)))
        refine' OneEnd.intro (aDel c' k, q'') _ ?eF4 ?eN4 ?eR4 (Nat.lt_succ_self _) ?ey4 ?_ ?_
        case eF4 => assumption
        case ey4 => exact rfl
        case eR4 => exact ⟨by assumption, G₁.pop, fun h9 => plain_pop G₁ (hsm₁ h9) hl, .inl hx.1, by rw [← e₁, evict_go hgo]⟩
        case eN4 => walk_at "my news"
        · (have hd1 := total_del (sz := S.sz) G₁.nk hx.2); (have hd2 := total_del (sz := S.sz) G₁.pop.nk hx.1); show S.sz val - (total S.sz c' - total S.sz (aDel c' key)) = S.sz val - (total S.sz (aDel c' k) - total S.sz (aDel (aDel c' k) key)); rw [hd1, hd2, Int.sub_sub_self, Int.sub_sub_self]
        · intro z9 hz9; simp only [if_neg hz9]
      · have hx2 : True := trivial
        (repeat' ((fail_if_success (with_reducible show wpAny _ _ (exec (Stmt.While _ _ _ _) _) _ _ _)); first | (k_unfold; (try dsimp only)) | ((with_reducible show wpAny _ _ (call _ _) _ _ _); first | k_invariant "r" (1053, csize) | k_invariant "r" ((Sh.pf _), cpop_ok)) | ((with_reducible show wpAny _ _ (getMethod _ _ _) _ _ _); first | k_invariant "lw" m_item | k_invariant "lw" m_sz) | ((with_reducible show wpAny _ _ (getAttr _ _ _) _ _ _); first | k_invariant "lw" at_data | k_invariant "lw" at_max | k_invariant "lw" at_cur | k_invariant "lw" at_sizeT) | ((with_reducible show wpAny _ _ (setAttr _ _ _) _ _ _); k_invariant "lw" at_put) | ((with_reducible show wpAny _ _ (getItem _ _) _ _ _); k_invariant "lw" z_get) | ((with_reducible show wpAny _ _ (setItem _ _ _) _ _ _); first | k_invariant "lw" d_set | k_invariant "lw" z_set) | ((with_reducible show wpAny _ _ (compareOp _ _ (Value.ref _)) _ _ _); (k_invariant "lw" d_ni; (try dsimp only [Bool.not_true, Bool.not_false]))) | ((with_reducible show wpAny _ _ (subscriptTail _ _ (Value.ref (Sh.z _)) _) _ _ _); refine z_tail (by k_asm) (by k_asm) (by k_asm) (by first | with_reducible assumption | walk_at "my news") (by k_asm) ?_; k_whole) | ((with_reducible show wpAny _ _ (callWith _ (Value.ref (Sh.pf _)) _ _ _) _ _ _); refine callWith_K0 (by k_in) kp_pf ?_; k_whole) | walk1 | dsimp only | (leave1; try dsimp only)))
        refine' OneEnd.intro (aDel c' k, q'') _ ?eF5 ?eN5 ?eR5 (Nat.lt_succ_self _) ?ey5 ?_ ?_
        case eF5 => assumption
        case ey5 => exact rfl
        case eR5 => exact ⟨by assumption, G₁.pop, fun h9 => plain_pop G₁ (hsm₁ h9) hl, .inr hx, by rw [← e₁, evict_go hgo]⟩
        case eN5 => walk_at "my news"
        · show S.sz val = S.sz val - (total S.sz (aDel c' k) - total S.sz (aDel (aDel c' k) key)); rw [aDel_none hx, Int.sub_self, Int.sub_zero]
        · intro z9 hz9; simp only [if_neg hz9]
    · have hgo2 : ¬ S.room < total S.sz c' + (S.sz val - (total S.sz c' - total S.sz (aDel c' key))) := by rw [eqA]; exact hgo
      (repeat' ((fail_if_success (with_reducible show wpAny _ _ (exec (Stmt.While _ _ _ _) _) _ _ _)); first | (k_unfold; (try dsimp only)) | ((with_reducible show wpAny _ _ (call _ _) _ _ _); first | k_invariant "r" (1053, csize) | k_invariant "r" ((Sh.pf _), cpop_ok)) | ((with_reducible show wpAny _ _ (getMethod _ _ _) _ _ _); first | k_invariant "lw" m_item | k_invariant "lw" m_sz) | ((with_reducible show wpAny _ _ (getAttr _ _ _) _ _ _); first | k_invariant "lw" at_data | k_invariant "lw" at_max | k_invariant "lw" at_cur | k_invariant "lw" at_sizeT) | ((with_reducible show wpAny _ _ (setAttr _ _ _) _ _ _); k_invariant "lw" at_put) | ((with_reducible show wpAny _ _ (getItem _ _) _ _ _); k_invariant "lw" z_get) | ((with_reducible show wpAny _ _ (setItem _ _ _) _ _ _); first | k_invariant "lw" d_set | k_invariant "lw" z_set) | ((with_reducible show wpAny _ _ (compareOp _ _ (Value.ref _)) _ _ _); (k_invariant "lw" d_ni; (try dsimp only [Bool.not_true, Bool.not_false]))) | ((with_reducible show wpAny _ _ (subscriptTail _ _ (Value.ref (Sh.z _)) _) _ _ _); refine z_tail (by k_asm) (by k_asm) (by k_asm) (by first | with_reducible assumption | walk_at "my news") (by k_asm) ?_; k_whole) | ((with_reducible show wpAny _ _ (callWith _ (Value.ref (Sh.pf _)) _ _ _) _ _ _); refine callWith_K0 (by k_in) kp_pf ?_; k_whole) | walk1 | dsimp only | (leave1; try dsimp only)))
      have e2 : evict S.sz S.room (S.sz val) key c q = (c', q') := by rw [← e₁, evict_stop hgo]
      rw [e2] at ret
      have e3 : total S.sz (aPut c' key val) = total S.sz c' + (S.sz val - (total S.sz c' - total S.sz (aDel c' key))) := by rw [total_put G₁.nk, eqA]
      refine ret _ _ _ ?_ (by assumption) (by assumption)
      unfold Cw
      rw [e3, ← zOf_put]
      assumption
set_option maxHeartbeats 2000000 in
theorem bset_no {w : World} {p : Program} {loose : List Str} {mean : ExcName → Option Value} {mg mb : Str → Option Value} {dp un : Nat} {gd : Option (List Code)} {cn : Str} {cs : Scope} {a : Addr} {ccd : Value} {outer : List Env} {A₀ : Around} {base h₀ : Heap} {L : Addr} {m : Str → Option Value} {s : Shared} {E : Value → Shared → Prop} {S : Sh} {rest nx : Led} {c : List (Int × Int)} {q : List Int} {Q : Value → Shared → Prop} {key val : Int} {tk tv : Tok}
  (XB : (Mine.K0 w.params).In base) (TB : Top p loose mean mg mb base) (D : KtsDicts (outer.filterMap (·.frame)) h₀) (B : Below A₀ base outer h₀) (F : Fr h₀ L s.heap m) (X : (Mine.K0 w.params).In h₀) (T : Top p loose mean mg mb h₀) (hk : cs.kind = .function) (R : Cw w S rest c q nx) (N : News h₀ L s.heap nx) (hr : 0 ≤ S.room) (hf : ¬ Fits S.sz S.room val) (hdp : dp + 16 < recursionLimit) (hun : un + 120 < cLine) (exc : ∀ g' h' e tk', Fr h₀ L g' m → RaisedSN base g' (envOf cn cs L a ccd :: outer) e (.type "ValueError") nx h' → g'.UpToSlots h' → E (.ref e) { s with heap := h', toks := tk' }) :
  wpAny (model PySem.Challenge.rw_ki0005_01.row.prog w) (ktrTop dp un gd cn cs L a ccd [] outer) (call (.ref 735) [.ref S.x, .int key tk, .int val tv]) Q E s := by
  have hf2 : S.room < S.sz val ∨ S.sz val < 0 := not_fits hf
  cases hs : S.sized with
  | false =>
    have h1 : S.sz val = 1 := by rw [Sh.szF hs]; rfl
    have hs1 : S.room < 1 := by omega
    (refine wpAny_call ?_; (k_dflt (refine' enDS ([(Str.ofString "value", .int val tv), (Str.ofString "key", .int key tk), (Str.ofString "self", .ref S.x)]) ?k1 ?k2 ?k3 ?k4 ?k5 ?XB ?TB ?D ?T0 ?kA ?k6 ?k7 ?k8 ?k9 ?kB ?kR ?_ ?cK ?c2 ?c3 ?c4 ?c5; (case kA => exact rfl); (case k2 => k_asm); (case k1 => k_asm); (case XB => assumption); (case TB => assumption); (case D => assumption); (case T0 => first | assumption | exact KtsTurn.refl); (case k3 => k_asm); (case k4 => k_asm); (case k5 => k_asm); (case k6 => k_is); (case k7 => k_is); (case k8 => first | ktr_room | (refine depth_mark ?_; ktr_room)); (case k9 => first | exact BindsTo.of_eq rfl | exact binds_K (by k_in) rfl (by k_is) rfl rfl rfl); (case kB => exact locs rfl); (case kR => exact rfl); (case cK => first | exact rfl | assumption); (case c2 => exact rfl); (case c3 => exact rfl); (case c4 => exact rfl); (case c5 => decide); k_whole; intro g' L' h' tk' FG' F' N' B' X' T' D'; (try dsimp only); (try k_lift B'); (try k_fold))))
    (repeat' ((fail_if_success (with_reducible show wpAny _ _ (exec (Stmt.While _ _ _ _) _) _ _ _)); first | (k_unfold; (try dsimp only)) | ((with_reducible show wpAny _ _ (call _ _) _ _ _); k_invariant "r" (1053, csize)) | ((with_reducible show wpAny _ _ (getAttr _ _ _) _ _ _); first | k_invariant "lw" at_data | k_invariant "lw" at_max | k_invariant "lw" at_sizeT | k_invariant "lw" at_sizeF) | ((with_reducible show wpAny _ _ (getMethod _ _ _) _ _ _); k_invariant "lw" m_sz) | walk1 | dsimp only | (leave1; try dsimp only)))
    all_goals (refine' exc _ _ _ _ ?eF ?eS ?eU; (case eF => assumption); (case eS => first | with_reducible assumption | exact toSN (by with_reducible assumption) | assumption | exact toSN (by assumption)); (case eU => assumption))
  | true =>
    (refine wpAny_call ?_; (k_dflt (refine' enDS ([(Str.ofString "value", .int val tv), (Str.ofString "key", .int key tk), (Str.ofString "self", .ref S.x)]) ?k1 ?k2 ?k3 ?k4 ?k5 ?XB ?TB ?D ?T0 ?kA ?k6 ?k7 ?k8 ?k9 ?kB ?kR ?_ ?cK ?c2 ?c3 ?c4 ?c5; (case kA => exact rfl); (case k2 => k_asm); (case k1 => k_asm); (case XB => assumption); (case TB => assumption); (case D => assumption); (case T0 => first | assumption | exact KtsTurn.refl); (case k3 => k_asm); (case k4 => k_asm); (case k5 => k_asm); (case k6 => k_is); (case k7 => k_is); (case k8 => first | ktr_room | (refine depth_mark ?_; ktr_room)); (case k9 => first | exact BindsTo.of_eq rfl | exact binds_K (by k_in) rfl (by k_is) rfl rfl rfl); (case kB => exact locs rfl); (case kR => exact rfl); (case cK => first | exact rfl | assumption); (case c2 => exact rfl); (case c3 => exact rfl); (case c4 => exact rfl); (case c5 => decide); k_whole; intro g' L' h' tk' FG' F' N' B' X' T' D'; (try dsimp only); (try k_lift B'); (try k_fold))))
    (repeat' ((fail_if_success (with_reducible show wpAny _ _ (exec (Stmt.While _ _ _ _) _) _ _ _)); first | (k_unfold; (try dsimp only)) | ((with_reducible show wpAny _ _ (call _ _) _ _ _); k_invariant "r" (1053, csize)) | ((with_reducible show wpAny _ _ (getAttr _ _ _) _ _ _); first | k_invariant "lw" at_data | k_invariant "lw" at_max | k_invariant "lw" at_sizeT | k_invariant "lw" at_sizeF) | ((with_reducible show wpAny _ _ (getMethod _ _ _) _ _ _); k_invariant "lw" m_sz) | walk1 | dsimp only | (leave1; try dsimp only)))
    all_goals (refine' exc _ _ _ _ ?eF ?eS ?eU; (case eF => assumption); (case eS => first | with_reducible assumption | exact toSN (by with_reducible assumption) | assumption | exact toSN (by assumption)); (case eU => assumption))
-- Fs
theorem putQ_true {c : List (Int × Int)} {q : List Int} {key : Int} : putQ true c q key = qDel q key ++ [key] := if_pos (.inl rfl)
set_option maxHeartbeats 2000000 in
theorem bset_ok {w : World} {p : Program} {loose : List Str} {mean : ExcName → Option Value} {mg mb : Str → Option Value} {dp un : Nat} {gd : Option (List Code)} {cn : Str} {cs : Scope} {a : Addr} {ccd : Value} {outer : List Env} {A₀ : Around} {base h₀ : Heap} {L : Addr} {m : Str → Option Value} {s : Shared} {E : Value → Shared → Prop} {S : Sh} {rest nx : Led} {c : List (Int × Int)} {q : List Int} {Q : Value → Shared → Prop} {key val : Int} {tk tv : Tok}
  (B : Below A₀ base outer h₀) (F : Fr h₀ L s.heap m) (X : (Mine.K0 w.params).In h₀) (T : Top p loose mean mg mb h₀) (hk : cs.kind = .function) (R : Cw w S rest c q nx) (N : News h₀ L s.heap nx) (G : Core S.sz c q) (hsm : S.fifo = false → q = c.map (·.1)) (hroom : total S.sz c ≤ S.room) (hf : Fits S.sz S.room val) (hdp : dp + 40 < recursionLimit) (hun : un + 300 < cLine) (ret : ∀ h' tk' nx', Cw w S rest (aPut (evict S.sz S.room (S.sz val) key c q).1 key val) (evict S.sz S.room (S.sz val) key c q).2 nx' → Fr h₀ L h' m → News h₀ L h' nx' → Q .none { s with heap := h', toks := tk' }) :
  wpAny (model PySem.Challenge.rw_ki0005_01.row.prog w) (ktrTop dp un gd cn cs L a ccd [] outer) (call (.ref 735) [.ref S.x, .int key tk, .int val tv]) Q E s := by
  cases hs : S.sized with
  | false => exact bsetU B F X T hk R N hs G hsm hroom hf hdp hun ret
  | true => exact bsetZ B F X T hk R N hs G hsm hroom hf hdp hun ret
set_option maxHeartbeats 2000000 in
theorem cset_ok {w : World} {p : Program} {loose : List Str} {mean : ExcName → Option Value} {mg mb : Str → Option Value} {dp un : Nat} {gd : Option (List Code)} {cn : Str} {cs : Scope} {a : Addr} {ccd : Value} {outer : List Env} {A₀ : Around} {base h₀ : Heap} {L : Addr} {m : Str → Option Value} {s : Shared} {E : Value → Shared → Prop} {S : Sh} {rest nx : Led} {c : List (Int × Int)} {q : List Int} {Q : Value → Shared → Prop} {key val : Int} {tk tv : Tok}
  (B : Below A₀ base outer h₀) (F : Fr h₀ L s.heap m) (X : (Mine.K0 w.params).In h₀) (T : Top p loose mean mg mb h₀) (hk : cs.kind = .function) (R : Cw w S rest c q nx) (N : News h₀ L s.heap nx) (G : Core S.sz c q) (hsm : S.fifo = false → q = c.map (·.1)) (hroom : total S.sz c ≤ S.room) (hf : Fits S.sz S.room val) (hdp : dp + 50 < recursionLimit) (hun : un + 360 < cLine) (ret : ∀ h' tk' nx', Cw w S rest (aPut (evict S.sz S.room (S.sz val) key c q).1 key val) (putQ S.fifo (evict S.sz S.room (S.sz val) key c q).1 (evict S.sz S.room (S.sz val) key c q).2 key) nx' → Fr h₀ L h' m → News h₀ L h' nx' → Q .none { s with heap := h', toks := tk' }) :
  wpAny (model PySem.Challenge.rw_ki0005_01.row.prog w) (ktrTop dp un gd cn cs L a ccd [] outer) (call (.ref S.sf) [.ref S.x, .int key tk, .int val tv]) Q E s := by
  cases hs : S.fifo with
  | false =>
    rw [Sh.sfF hs]
    exact bset_ok B F X T hk R N G hsm hroom hf (by ktr_room) (by ktr_room) fun h' tk' nx' R' F' N' => ret h' tk' nx' (Lw.anyq hs R') F' N'
  | true =>
    rw [Sh.sfT hs]
    rw [hs, putQ_true] at ret
    have G₂ := evict_core (room := S.room) (size := S.sz val) (key := key) G
    have hlq := G₂.lenq
    have hld : (qDel (evict S.sz S.room (S.sz val) key c q).2 key).length ≤ 5 := Nat.le_trans (List.length_filter_le _ _) hlq
    cases hb : decide (key ∈ (evict S.sz S.room (S.sz val) key c q).2) with
    | true =>
      have hkq := of_decide_eq_true hb
      have hnk : key ∉ qDel (evict S.sz S.room (S.sz val) key c q).2 key := fun h => (mem_qDel.mp h).2 rfl
      (refine wpAny_call ?_; (k_dflt (refine' enD ([(Str.ofString "cache_setitem", .ref 735), (Str.ofString "value", .int val tv), (Str.ofString "key", .int key tk), (Str.ofString "self", .ref S.x)]) ?k1 ?k2 ?k3 ?k4 ?k5 ?kA ?kF ?kK ?k6 ?k7 ?k8 ?k9 ?kB ?kR ?_ ?c2 ?c3 ?c4 ?c5; (case kA => exact rfl); (case kF => exact rfl); (case kK => first | exact rfl | assumption); (case k1 => k_asm); (case k2 => k_asm); (case k3 => k_asm); (case k4 => k_asm); (case k5 => k_asm); (case k6 => k_is); (case k7 => k_is); (case k8 => first | ktr_room | (refine depth_mark ?_; ktr_room)); (case k9 => first | exact BindsTo.of_eq rfl | exact binds_K (by k_in) rfl (by k_is) rfl rfl rfl); (case c5 => decide); (case kB => exact locs rfl); (case kR => exact rfl); (case c2 => exact rfl); (case c3 => exact rfl); (case c4 => exact rfl); k_whole; intro g' L' h' tk' FG' F' N' B' X' T'; (try dsimp only); (try k_fold))))
      (repeat' ((fail_if_success (with_reducible show wpAny _ _ (exec (Stmt.While _ _ _ _) _) _ _ _)); first | (k_unfold; (try dsimp only)) | ((with_reducible show wpAny _ _ (call _ _) _ _ _); first | k_invariant "r" (735, bset_ok) | k_invariant "lw" o_pop) | ((with_reducible show wpAny _ _ (getAttr _ _ _) _ _ _); k_invariant "lw" at_ord) | ((with_reducible show wpAny _ _ (getMethod _ _ _) _ _ _); k_invariant "lw" o_pop_m) | ((with_reducible show wpAny _ _ (setItem _ _ _) _ _ _); k_invariant "lw" o_set) | ((with_reducible show wpAny _ _ (compareOp _ _ (Value.ref _)) _ _ _); (k_invariant "lw" o_in; (try dsimp only [Bool.not_true, Bool.not_false]))) | walk1 | dsimp only | (leave1; try dsimp only)))
      exact ret _ _ _ (by assumption) (by assumption) (by assumption)
    | false =>
      have hkq := of_decide_eq_false hb
      rw [qDel_none hkq] at ret
      (refine wpAny_call ?_; (k_dflt (refine' enD ([(Str.ofString "cache_setitem", .ref 735), (Str.ofString "value", .int val tv), (Str.ofString "key", .int key tk), (Str.ofString "self", .ref S.x)]) ?k1 ?k2 ?k3 ?k4 ?k5 ?kA ?kF ?kK ?k6 ?k7 ?k8 ?k9 ?kB ?kR ?_ ?c2 ?c3 ?c4 ?c5; (case kA => exact rfl); (case kF => exact rfl); (case kK => first | exact rfl | assumption); (case k1 => k_asm); (case k2 => k_asm); (case k3 => k_asm); (case k4 => k_asm); (case k5 => k_asm); (case k6 => k_is); (case k7 => k_is); (case k8 => first | ktr_room | (refine depth_mark ?_; ktr_room)); (case k9 => first | exact BindsTo.of_eq rfl | exact binds_K (by k_in) rfl (by k_is) rfl rfl rfl); (case c5 => decide); (case kB => exact locs rfl); (case kR => exact rfl); (case c2 => exact rfl); (case c3 => exact rfl); (case c4 => exact rfl); k_whole; intro g' L' h' tk' FG' F' N' B' X' T'; (try dsimp only); (try k_fold))))
      (repeat' ((fail_if_success (with_reducible show wpAny _ _ (exec (Stmt.While _ _ _ _) _) _ _ _)); first | (k_unfold; (try dsimp only)) | ((with_reducible show wpAny _ _ (call _ _) _ _ _); first | k_invariant "r" (735, bset_ok) | k_invariant "lw" o_pop) | ((with_reducible show wpAny _ _ (getAttr _ _ _) _ _ _); k_invariant "lw" at_ord) | ((with_reducible show wpAny _ _ (getMethod _ _ _) _ _ _); k_invariant "lw" o_pop_m) | ((with_reducible show wpAny _ _ (setItem _ _ _) _ _ _); k_invariant "lw" o_set) | ((with_reducible show wpAny _ _ (compareOp _ _ (Value.ref _)) _ _ _); (k_invariant "lw" o_in; (try dsimp only [Bool.not_true, Bool.not_false]))) | walk1 | dsimp only | (leave1; try dsimp only)))
      exact ret _ _ _ (by assumption) (by assumption) (by assumption)
set_option maxHeartbeats 2000000 in
theorem cset_no {w : World} {p : Program} {loose : List Str} {mean : ExcName → Option Value} {mg mb : Str → Option Value} {dp un : Nat} {gd : Option (List Code)} {cn : Str} {cs : Scope} {a : Addr} {ccd : Value} {outer : List Env} {A₀ : Around} {base h₀ : Heap} {L : Addr} {m : Str → Option Value} {s : Shared} {E : Value → Shared → Prop} {S : Sh} {rest nx : Led} {c : List (Int × Int)} {q : List Int} {Q : Value → Shared → Prop} {key val : Int} {tk tv : Tok}
  (XB : (Mine.K0 w.params).In base) (TB : Top p loose mean mg mb base) (D : KtsDicts (outer.filterMap (·.frame)) h₀) (B : Below A₀ base outer h₀) (F : Fr h₀ L s.heap m) (X : (Mine.K0 w.params).In h₀) (T : Top p loose mean mg mb h₀) (hk : cs.kind = .function) (R : Cw w S rest c q nx) (N : News h₀ L s.heap nx) (hr : 0 ≤ S.room) (hf : ¬ Fits S.sz S.room val) (hdp : dp + 30 < recursionLimit) (hun : un + 240 < cLine) (exc : ∀ g' h' e tk', Fr h₀ L g' m → RaisedSN base g' (envOf cn cs L a ccd :: outer) e (.type "ValueError") nx h' → g'.UpToSlots h' → E (.ref e) { s with heap := h', toks := tk' }) :
  wpAny (model PySem.Challenge.rw_ki0005_01.row.prog w) (ktrTop dp un gd cn cs L a ccd [] outer) (call (.ref S.sf) [.ref S.x, .int key tk, .int val tv]) Q E s := by
  cases hs : S.fifo with
  | false =>
    rw [Sh.sfF hs]
    exact bset_no XB TB D B F X T hk R N hr hf (by ktr_room) (by ktr_room) exc
  | true =>
    rw [Sh.sfT hs]
    (refine wpAny_call ?_; (k_dflt (refine' enDS ([(Str.ofString "cache_setitem", .ref 735), (Str.ofString "value", .int val tv), (Str.ofString "key", .int key tk), (Str.ofString "self", .ref S.x)]) ?k1 ?k2 ?k3 ?k4 ?k5 ?XB ?TB ?D ?T0 ?kA ?k6 ?k7 ?k8 ?k9 ?kB ?kR ?_ ?cK ?c2 ?c3 ?c4 ?c5; (case kA => exact rfl); (case k2 => k_asm); (case k1 => k_asm); (case XB => assumption); (case TB => assumption); (case D => assumption); (case T0 => first | assumption | exact KtsTurn.refl); (case k3 => k_asm); (case k4 => k_asm); (case k5 => k_asm); (case k6 => k_is); (case k7 => k_is); (case k8 => first | ktr_room | (refine depth_mark ?_; ktr_room)); (case k9 => first | exact BindsTo.of_eq rfl | exact binds_K (by k_in) rfl (by k_is) rfl rfl rfl); (case kB => exact locs rfl); (case kR => exact rfl); (case cK => first | exact rfl | assumption); (case c2 => exact rfl); (case c3 => exact rfl); (case c4 => exact rfl); (case c5 => decide); k_whole; intro g' L' h' tk' FG' F' N' B' X' T' D'; (try dsimp only); (try k_lift B'); (try k_fold))))
    (repeat' ((fail_if_success (with_reducible show wpAny _ _ (exec (Stmt.While _ _ _ _) _) _ _ _)); first | (k_unfold; (try dsimp only)) | ((with_reducible show wpAny _ _ (call _ _) _ _ _); k_invariant "r" (735, bset_no)) | walk1 | (dsimp only; first | ((with_reducible show wpAny _ _ (call _ _) _ _ _); k_invariant "r" (735, bset_no)) | walk1) | (leave1; try dsimp only)))
    refine' exc _ _ _ _ ?eF ?eS ?eU; (case eF => assumption); (case eS => first | with_reducible assumption | exact toSN (by with_reducible assumption) | assumption | exact toSN (by assumption)); (case eU => assumption)
set_option maxHeartbeats 2000000 in
theorem cclr {w : World} {p : Program} {loose : List Str} {mean : ExcName → Option Value} {mg mb : Str → Option Value} {dp un : Nat} {gd : Option (List Code)} {cn : Str} {cs : Scope} {a : Addr} {ccd : Value} {outer : List Env} {A₀ : Around} {base h₀ : Heap} {L : Addr} {m : Str → Option Value} {s : Shared} {E : Value → Shared → Prop} {S : Sh} {rest nx : Led} {c : List (Int × Int)} {q : List Int} {Q : Value → Shared → Prop} 
  (B : Below A₀ base outer h₀) (F : Fr h₀ L s.heap m) (X : (Mine.K0 w.params).In h₀) (T : Top p loose mean mg mb h₀) (hk : cs.kind = .function) (R : Cw w S rest c q nx) (N : News h₀ L s.heap nx) (hdp : dp + 16 < recursionLimit) (hun : un + 120 < cLine) (ret : ∀ h' tk' nx', Cw w S rest [] [] nx' → Fr h₀ L h' m → News h₀ L h' nx' → Q .none { s with heap := h', toks := tk' }) :
  wpAny (model PySem.Challenge.rw_ki0005_01.row.prog w) (ktrTop dp un gd cn cs L a ccd [] outer) (call (.ref S.cf) [.ref S.x]) Q E s := by
  cases hs : S.fifo with
  | false =>
    rw [Sh.cfF hs]
    exact bclr B F X T hk R N (by ktr_room) (by ktr_room) fun h' tk' nx' R' F' N' => ret h' tk' nx' (Lw.anyq hs R') F' N'
  | true =>
    rw [Sh.cfT hs]
    (refine wpAny_call ?_; (k_dflt (refine' enD ([(Str.ofString "self", .ref S.x)]) ?k1 ?k2 ?k3 ?k4 ?k5 ?kA ?kF ?kK ?k6 ?k7 ?k8 ?k9 ?kB ?kR ?_ ?c2 ?c3 ?c4 ?c5; (case kA => exact rfl); (case kF => exact rfl); (case kK => first | exact rfl | assumption); (case k1 => k_asm); (case k2 => k_asm); (case k3 => k_asm); (case k4 => k_asm); (case k5 => k_asm); (case k6 => k_is); (case k7 => k_is); (case k8 => first | ktr_room | (refine depth_mark ?_; ktr_room)); (case k9 => first | exact BindsTo.of_eq rfl | exact binds_K (by k_in) rfl (by k_is) rfl rfl rfl); (case c5 => decide); (case kB => exact locs rfl); (case kR => exact rfl); (case c2 => exact rfl); (case c3 => exact rfl); (case c4 => exact rfl); k_whole; intro g' L' h' tk' FG' F' N' B' X' T'; (try dsimp only); (try k_fold))))
    (repeat' ((fail_if_success (with_reducible show wpAny _ _ (exec (Stmt.While _ _ _ _) _) _ _ _)); first | (k_unfold; (try dsimp only)) | ((with_reducible show wpAny _ _ (call _ _) _ _ _); first | k_invariant "r" (801, bclr) | k_invariant "lw" o_clr) | ((with_reducible show wpAny _ _ (getAttr _ _ _) _ _ _); k_invariant "lw" at_ord) | ((with_reducible show wpAny _ _ (getMethod _ _ _) _ _ _); k_invariant "lw" o_clr_m) | walk1 | dsimp only | (leave1; try dsimp only)))
    exact ret _ _ _ (by assumption) (by assumption) (by assumption)
set_option maxHeartbeats 2000000 in
theorem mget_ok {w : World} {p : Program} {loose : List Str} {mean : ExcName → Option Value} {mg mb : Str → Option Value} {dp un : Nat} {gd : Option (List Code)} {cn : Str} {cs : Scope} {a : Addr} {ccd : Value} {outer : List Env} {A₀ : Around} {base h₀ : Heap} {L : Addr} {m : Str → Option Value} {s : Shared} {E : Value → Shared → Prop} {S : Sh} {rest nx : Led} {c : List (Int × Int)} {q : List Int} {Q : Value → Shared → Prop} {key v dv : Int} {tk td : Tok}
  (B : Below A₀ base outer h₀) (F : Fr h₀ L s.heap m) (X : (Mine.K0 w.params).In h₀) (T : Top p loose mean mg mb h₀) (hk : cs.kind = .function) (R : Cw w S rest c q nx) (N : News h₀ L s.heap nx) (G : Core S.sz c q) (hl : aLook c key = some v) (hdp : dp + 60 < recursionLimit) (hun : un + 420 < cLine) (ret : ∀ h' tk' t, Fr h₀ L h' m → News h₀ L h' nx → Q (.int v t) { s with heap := h', toks := tk' }) :
  wpAny (model PySem.Challenge.rw_ki0005_01.row.prog w) (ktrTop dp un gd cn cs L a ccd [] outer) (call (.ref 778) [.ref S.x, .int key tk, .int dv td]) Q E s := by
  have hh := aHas_of_look hl
  (refine wpAny_call ?_; (k_dflt (refine' enD ([(Str.ofString "default", .int dv td), (Str.ofString "key", .int key tk), (Str.ofString "self", .ref S.x)]) ?k1 ?k2 ?k3 ?k4 ?k5 ?kA ?kF ?kK ?k6 ?k7 ?k8 ?k9 ?kB ?kR ?_ ?c2 ?c3 ?c4 ?c5; (case kA => exact rfl); (case kF => exact rfl); (case kK => first | exact rfl | assumption); (case k1 => k_asm); (case k2 => k_asm); (case k3 => k_asm); (case k4 => k_asm); (case k5 => k_asm); (case k6 => k_is); (case k7 => k_is); (case k8 => first | ktr_room | (refine depth_mark ?_; ktr_room)); (case k9 => first | exact BindsTo.of_eq rfl | exact binds_K (by k_in) rfl (by k_is) rfl rfl rfl); (case c5 => decide); (case kB => exact locs rfl); (case kR => exact rfl); (case c2 => exact rfl); (case c3 => exact rfl); (case c4 => exact rfl); k_whole; intro g' L' h' tk' FG' F' N' B' X' T'; (try dsimp only); (try k_fold))))
  (repeat' ((fail_if_success (with_reducible show wpAny _ _ (exec (Stmt.While _ _ _ _) _) _ _ _)); first | (k_unfold; (try dsimp only)) | ((with_reducible show wpAny _ _ (call _ _) _ _ _); first | k_invariant "r" (749, bhas) | k_invariant "r" (728, bget_ok)) | ((with_reducible show wpAny _ _ (subscriptTail _ _ _ _) _ _ _); k_invariant "lw" op_sub) | ((with_reducible show wpAny _ _ (compareOp _ _ (Value.ref _)) _ _ _); (k_invariant "lw" op_in; (try dsimp only [Bool.not_true, Bool.not_false]))) | walk1 | dsimp only | (leave1; try dsimp only)))
  exact ret _ _ _ (by assumption) (by assumption)
set_option maxHeartbeats 2000000 in
theorem mget_no {w : World} {p : Program} {loose : List Str} {mean : ExcName → Option Value} {mg mb : Str → Option Value} {dp un : Nat} {gd : Option (List Code)} {cn : Str} {cs : Scope} {a : Addr} {ccd : Value} {outer : List Env} {A₀ : Around} {base h₀ : Heap} {L : Addr} {m : Str → Option Value} {s : Shared} {E : Value → Shared → Prop} {S : Sh} {rest nx : Led} {c : List (Int × Int)} {q : List Int} {Q : Value → Shared → Prop} {key dv : Int} {tk td : Tok}
  (B : Below A₀ base outer h₀) (F : Fr h₀ L s.heap m) (X : (Mine.K0 w.params).In h₀) (T : Top p loose mean mg mb h₀) (hk : cs.kind = .function) (R : Cw w S rest c q nx) (N : News h₀ L s.heap nx) (hh : aHas c key = false) (hdp : dp + 60 < recursionLimit) (hun : un + 420 < cLine) (ret : ∀ h' tk', Fr h₀ L h' m → News h₀ L h' nx → Q (.int dv td) { s with heap := h', toks := tk' }) :
  wpAny (model PySem.Challenge.rw_ki0005_01.row.prog w) (ktrTop dp un gd cn cs L a ccd [] outer) (call (.ref 778) [.ref S.x, .int key tk, .int dv td]) Q E s := by
  (refine wpAny_call ?_; (k_dflt (refine' enD ([(Str.ofString "default", .int dv td), (Str.ofString "key", .int key tk), (Str.ofString "self", .ref S.x)]) ?k1 ?k2 ?k3 ?k4 ?k5 ?kA ?kF ?kK ?k6 ?k7 ?k8 ?k9 ?kB ?kR ?_ ?c2 ?c3 ?c4 ?c5; (case kA => exact rfl); (case kF => exact rfl); (case kK => first | exact rfl | assumption); (case k1 => k_asm); (case k2 => k_asm); (case k3 => k_asm); (case k4 => k_asm); (case k5 => k_asm); (case k6 => k_is); (case k7 => k_is); (case k8 => first | ktr_room | (refine depth_mark ?_; ktr_room)); (case k9 => first | exact BindsTo.of_eq rfl | exact binds_K (by k_in) rfl (by k_is) rfl rfl rfl); (case c5 => decide); (case kB => exact locs rfl); (case kR => exact rfl); (case c2 => exact rfl); (case c3 => exact rfl); (case c4 => exact rfl); k_whole; intro g' L' h' tk' FG' F' N' B' X' T'; (try dsimp only); (try k_fold))))
  (repeat' ((fail_if_success (with_reducible show wpAny _ _ (exec (Stmt.While _ _ _ _) _) _ _ _)); first | (k_unfold; (try dsimp only)) | ((with_reducible show wpAny _ _ (call _ _) _ _ _); k_invariant "r" (749, bhas)) | ((with_reducible show wpAny _ _ (compareOp _ _ (Value.ref _)) _ _ _); (k_invariant "lw" op_in; (try dsimp only [Bool.not_true, Bool.not_false]))) | walk1 | dsimp only | (leave1; try dsimp only)))
  exact ret _ _ (by assumption) (by assumption)
set_option maxHeartbeats 2000000 in
theorem mpop_ok {w : World} {p : Program} {loose : List Str} {mean : ExcName → Option Value} {mg mb : Str → Option Value} {dp un : Nat} {gd : Option (List Code)} {cn : Str} {cs : Scope} {a : Addr} {ccd : Value} {outer : List Env} {A₀ : Around} {base h₀ : Heap} {L : Addr} {m : Str → Option Value} {s : Shared} {E : Value → Shared → Prop} {S : Sh} {rest nx : Led} {c : List (Int × Int)} {q : List Int} {Q : Value → Shared → Prop} {key v dv : Int} {tk td : Tok}
  (B : Below A₀ base outer h₀) (F : Fr h₀ L s.heap m) (X : (Mine.K0 w.params).In h₀) (T : Top p loose mean mg mb h₀) (hk : cs.kind = .function) (R : Cw w S rest c q nx) (N : News h₀ L s.heap nx) (G : Core S.sz c q) (hl : aLook c key = some v) (hdp : dp + 60 < recursionLimit) (hun : un + 420 < cLine) (ret : ∀ h' tk' nx' t, Cw w S rest (aDel c key) (qDel q key) nx' → Fr h₀ L h' m → News h₀ L h' nx' → Q (.int v t) { s with heap := h', toks := tk' }) :
  wpAny (model PySem.Challenge.rw_ki0005_01.row.prog w) (ktrTop dp un gd cn cs L a ccd [] outer) (call (.ref 786) [.ref S.x, .int key tk, .int dv td]) Q E s := by
  have hh := aHas_of_look hl
  (refine wpAny_call ?_; (k_dflt (refine' enD ([(Str.ofString "default", .int dv td), (Str.ofString "key", .int key tk), (Str.ofString "self", .ref S.x)]) ?k1 ?k2 ?k3 ?k4 ?k5 ?kA ?kF ?kK ?k6 ?k7 ?k8 ?k9 ?kB ?kR ?_ ?c2 ?c3 ?c4 ?c5; (case kA => exact rfl); (case kF => exact rfl); (case kK => first | exact rfl | assumption); (case k1 => k_asm); (case k2 => k_asm); (case k3 => k_asm); (case k4 => k_asm); (case k5 => k_asm); (case k6 => k_is); (case k7 => k_is); (case k8 => first | ktr_room | (refine depth_mark ?_; ktr_room)); (case k9 => first | exact BindsTo.of_eq rfl | exact binds_K (by k_in) rfl (by k_is) rfl rfl rfl); (case c5 => decide); (case kB => exact locs rfl); (case kR => exact rfl); (case c2 => exact rfl); (case c3 => exact rfl); (case c4 => exact rfl); k_whole; intro g' L' h' tk' FG' F' N' B' X' T'; (try dsimp only); (try k_fold))))
  (repeat' ((fail_if_success (with_reducible show wpAny _ _ (exec (Stmt.While _ _ _ _) _) _ _ _)); first | (k_unfold; (try dsimp only)) | ((with_reducible show wpAny _ _ (call _ _) _ _ _); first | k_invariant "r" ((Sh.df _), cdel_ok) | k_invariant "r" (749, bhas) | k_invariant "r" (728, bget_ok)) | ((with_reducible show wpAny _ _ (delItem _ _) _ _ _); k_invariant "lw" op_del) | ((with_reducible show wpAny _ _ (subscriptTail _ _ _ _) _ _ _); k_invariant "lw" op_sub) | ((with_reducible show wpAny _ _ (compareOp _ _ (Value.ref _)) _ _ _); (k_invariant "lw" op_in; (try dsimp only [Bool.not_true, Bool.not_false]))) | walk1 | dsimp only | (leave1; try dsimp only)))
  exact ret _ _ _ _ (by assumption) (by assumption) (by assumption)
set_option maxHeartbeats 2000000 in
theorem mpop_no {w : World} {p : Program} {loose : List Str} {mean : ExcName → Option Value} {mg mb : Str → Option Value} {dp un : Nat} {gd : Option (List Code)} {cn : Str} {cs : Scope} {a : Addr} {ccd : Value} {outer : List Env} {A₀ : Around} {base h₀ : Heap} {L : Addr} {m : Str → Option Value} {s : Shared} {E : Value → Shared → Prop} {S : Sh} {rest nx : Led} {c : List (Int × Int)} {q : List Int} {Q : Value → Shared → Prop} {key dv : Int} {tk td : Tok}
  (B : Below A₀ base outer h₀) (F : Fr h₀ L s.heap m) (X : (Mine.K0 w.params).In h₀) (T : Top p loose mean mg mb h₀) (hk : cs.kind = .function) (R : Cw w S rest c q nx) (N : News h₀ L s.heap nx) (hh : aHas c key = false) (hdp : dp + 60 < recursionLimit) (hun : un + 420 < cLine) (ret : ∀ h' tk', Fr h₀ L h' m → News h₀ L h' nx → Q (.int dv td) { s with heap := h', toks := tk' }) :
  wpAny (model PySem.Challenge.rw_ki0005_01.row.prog w) (ktrTop dp un gd cn cs L a ccd [] outer) (call (.ref 786) [.ref S.x, .int key tk, .int dv td]) Q E s := by
  (refine wpAny_call ?_; (k_dflt (refine' enD ([(Str.ofString "default", .int dv td), (Str.ofString "key", .int key tk), (Str.ofString "self", .ref S.x)]) ?k1 ?k2 ?k3 ?k4 ?k5 ?kA ?kF ?kK ?k6 ?k7 ?k8 ?k9 ?kB ?kR ?_ ?c2 ?c3 ?c4 ?c5; (case kA => exact rfl); (case kF => exact rfl); (case kK => first | exact rfl | assumption); (case k1 => k_asm); (case k2 => k_asm); (case k3 => k_asm); (case k4 => k_asm); (case k5 => k_asm); (case k6 => k_is); (case k7 => k_is); (case k8 => first | ktr_room | (refine depth_mark ?_; ktr_room)); (case k9 => first | exact BindsTo.of_eq rfl | exact binds_K (by k_in) rfl (by k_is) rfl rfl rfl); (case c5 => decide); (case kB => exact locs rfl); (case kR => exact rfl); (case c2 => exact rfl); (case c3 => exact rfl); (case c4 => exact rfl); k_whole; intro g' L' h' tk' FG' F' N' B' X' T'; (try dsimp only); (try k_fold))))
  (repeat' ((fail_if_success (with_reducible show wpAny _ _ (exec (Stmt.While _ _ _ _) _) _ _ _)); first | (k_unfold; (try dsimp only)) | ((with_reducible show wpAny _ _ (call _ _) _ _ _); k_invariant "r" (749, bhas)) | ((with_reducible show wpAny _ _ (getAttr _ _ _) _ _ _); k_invariant "lw" at_mark) | ((with_reducible show wpAny _ _ (compareOp _ _ (Value.ref _)) _ _ _); (k_invariant "lw" op_in; (try dsimp only [Bool.not_true, Bool.not_false]))) | ((with_reducible show wpAny _ _ (compareOp CmpOp.Is (Value.int _ _) (Value.ref _)) _ _ _); refine wpAny_is_other (by rfl) (by intro x; cases x) ?_) | walk1 | dsimp only | (leave1; try dsimp only)))
  exact ret _ _ (by assumption) (by assumption)
set_option maxHeartbeats 2000000 in
theorem mpo1_ok {w : World} {p : Program} {loose : List Str} {mean : ExcName → Option Value} {mg mb : Str → Option Value} {dp un : Nat} {gd : Option (List Code)} {cn : Str} {cs : Scope} {a : Addr} {ccd : Value} {outer : List Env} {A₀ : Around} {base h₀ : Heap} {L : Addr} {m : Str → Option Value} {s : Shared} {E : Value → Shared → Prop} {S : Sh} {rest nx : Led} {c : List (Int × Int)} {q : List Int} {Q : Value → Shared → Prop} {key v : Int} {tk : Tok}
  (B : Below A₀ base outer h₀) (F : Fr h₀ L s.heap m) (X : (Mine.K0 w.params).In h₀) (T : Top p loose mean mg mb h₀) (hk : cs.kind = .function) (R : Cw w S rest c q nx) (N : News h₀ L s.heap nx) (G : Core S.sz c q) (hl : aLook c key = some v) (hdp : dp + 60 < recursionLimit) (hun : un + 420 < cLine) (ret : ∀ h' tk' nx' t, Cw w S rest (aDel c key) (qDel q key) nx' → Fr h₀ L h' m → News h₀ L h' nx' → Q (.int v t) { s with heap := h', toks := tk' }) :
  wpAny (model PySem.Challenge.rw_ki0005_01.row.prog w) (ktrTop dp un gd cn cs L a ccd [] outer) (call (.ref 786) [.ref S.x, .int key tk]) Q E s := by
  have hh := aHas_of_look hl
  (refine wpAny_call ?_; (k_dflt (refine' enD ([(Str.ofString "default", .ref 706), (Str.ofString "key", .int key tk), (Str.ofString "self", .ref S.x)]) ?k1 ?k2 ?k3 ?k4 ?k5 ?kA ?kF ?kK ?k6 ?k7 ?k8 ?k9 ?kB ?kR ?_ ?c2 ?c3 ?c4 ?c5; (case kA => exact rfl); (case kF => exact rfl); (case kK => first | exact rfl | assumption); (case k1 => k_asm); (case k2 => k_asm); (case k3 => k_asm); (case k4 => k_asm); (case k5 => k_asm); (case k6 => k_is); (case k7 => k_is); (case k8 => first | ktr_room | (refine depth_mark ?_; ktr_room)); (case k9 => first | exact BindsTo.of_eq rfl | exact binds_K (by k_in) rfl (by k_is) rfl rfl rfl); (case c5 => decide); (case kB => exact locs rfl); (case kR => exact rfl); (case c2 => exact rfl); (case c3 => exact rfl); (case c4 => exact rfl); k_whole; intro g' L' h' tk' FG' F' N' B' X' T'; (try dsimp only); (try k_fold))))
  (repeat' ((fail_if_success (with_reducible show wpAny _ _ (exec (Stmt.While _ _ _ _) _) _ _ _)); first | (k_unfold; (try dsimp only)) | ((with_reducible show wpAny _ _ (call _ _) _ _ _); first | k_invariant "r" ((Sh.df _), cdel_ok) | k_invariant "r" (749, bhas) | k_invariant "r" (728, bget_ok)) | ((with_reducible show wpAny _ _ (delItem _ _) _ _ _); k_invariant "lw" op_del) | ((with_reducible show wpAny _ _ (subscriptTail _ _ _ _) _ _ _); k_invariant "lw" op_sub) | ((with_reducible show wpAny _ _ (compareOp _ _ (Value.ref _)) _ _ _); (k_invariant "lw" op_in; (try dsimp only [Bool.not_true, Bool.not_false]))) | walk1 | dsimp only | (leave1; try dsimp only)))
  exact ret _ _ _ _ (by assumption) (by assumption) (by assumption)
set_option maxHeartbeats 2000000 in
theorem mpo1_no {w : World} {p : Program} {loose : List Str} {mean : ExcName → Option Value} {mg mb : Str → Option Value} {dp un : Nat} {gd : Option (List Code)} {cn : Str} {cs : Scope} {a : Addr} {ccd : Value} {outer : List Env} {A₀ : Around} {base h₀ : Heap} {L : Addr} {m : Str → Option Value} {s : Shared} {E : Value → Shared → Prop} {S : Sh} {rest nx : Led} {c : List (Int × Int)} {q : List Int} {Q : Value → Shared → Prop} {key : Int} {tk : Tok}
  (XB : (Mine.K0 w.params).In base) (TB : Top p loose mean mg mb base) (D : KtsDicts (outer.filterMap (·.frame)) h₀) (B : Below A₀ base outer h₀) (F : Fr h₀ L s.heap m) (X : (Mine.K0 w.params).In h₀) (T : Top p loose mean mg mb h₀) (hk : cs.kind = .function) (R : Cw w S rest c q nx) (N : News h₀ L s.heap nx) (hh : aHas c key = false) (hdp : dp + 60 < recursionLimit) (hun : un + 420 < cLine) (exc : ∀ g' h' e tk', Fr h₀ L g' m → RaisedSN base g' (envOf cn cs L a ccd :: outer) e (.type "KeyError") nx h' → g'.UpToSlots h' → E (.ref e) { s with heap := h', toks := tk' }) :
  wpAny (model PySem.Challenge.rw_ki0005_01.row.prog w) (ktrTop dp un gd cn cs L a ccd [] outer) (call (.ref 786) [.ref S.x, .int key tk]) Q E s := by
  (refine wpAny_call ?_; (k_dflt (refine' enDS ([(Str.ofString "default", .ref 706), (Str.ofString "key", .int key tk), (Str.ofString "self", .ref S.x)]) ?k1 ?k2 ?k3 ?k4 ?k5 ?XB ?TB ?D ?T0 ?kA ?k6 ?k7 ?k8 ?k9 ?kB ?kR ?_ ?cK ?c2 ?c3 ?c4 ?c5; (case kA => exact rfl); (case k2 => k_asm); (case k1 => k_asm); (case XB => assumption); (case TB => assumption); (case D => assumption); (case T0 => first | assumption | exact KtsTurn.refl); (case k3 => k_asm); (case k4 => k_asm); (case k5 => k_asm); (case k6 => k_is); (case k7 => k_is); (case k8 => first | ktr_room | (refine depth_mark ?_; ktr_room)); (case k9 => first | exact BindsTo.of_eq rfl | exact binds_K (by k_in) rfl (by k_is) rfl rfl rfl); (case kB => exact locs rfl); (case kR => exact rfl); (case cK => first | exact rfl | assumption); (case c2 => exact rfl); (case c3 => exact rfl); (case c4 => exact rfl); (case c5 => decide); k_whole; intro g' L' h' tk' FG' F' N' B' X' T' D'; (try dsimp only); (try k_lift B'); (try k_fold))))
  (repeat' ((fail_if_success (with_reducible show wpAny _ _ (exec (Stmt.While _ _ _ _) _) _ _ _)); first | (k_unfold; (try dsimp only)) | ((with_reducible show wpAny _ _ (call _ _) _ _ _); k_invariant "r" (749, bhas)) | ((with_reducible show wpAny _ _ (getAttr _ _ _) _ _ _); k_invariant "lw" at_mark) | ((with_reducible show wpAny _ _ (compareOp _ _ (Value.ref _)) _ _ _); (k_invariant "lw" op_in; (try dsimp only [Bool.not_true, Bool.not_false]))) | walk1 | dsimp only | (leave1; try dsimp only)))
  refine' exc _ _ _ _ ?eF ?eS ?eU; (case eF => assumption); (case eS => first | with_reducible assumption | exact toSN (by with_reducible assumption) | assumption | exact toSN (by assumption)); (case eU => assumption)
set_option maxHeartbeats 2000000 in
theorem mdef_ok {w : World} {p : Program} {loose : List Str} {mean : ExcName → Option Value} {mg mb : Str → Option Value} {dp un : Nat} {gd : Option (List Code)} {cn : Str} {cs : Scope} {a : Addr} {ccd : Value} {outer : List Env} {A₀ : Around} {base h₀ : Heap} {L : Addr} {m : Str → Option Value} {s : Shared} {E : Value → Shared → Prop} {S : Sh} {rest nx : Led} {c : List (Int × Int)} {q : List Int} {Q : Value → Shared → Prop} {key v dv : Int} {tk td : Tok}
  (B : Below A₀ base outer h₀) (F : Fr h₀ L s.heap m) (X : (Mine.K0 w.params).In h₀) (T : Top p loose mean mg mb h₀) (hk : cs.kind = .function) (R : Cw w S rest c q nx) (N : News h₀ L s.heap nx) (G : Core S.sz c q) (hl : aLook c key = some v) (hdp : dp + 60 < recursionLimit) (hun : un + 420 < cLine) (ret : ∀ h' tk' t, Fr h₀ L h' m → News h₀ L h' nx → Q (.int v t) { s with heap := h', toks := tk' }) :
  wpAny (model PySem.Challenge.rw_ki0005_01.row.prog w) (ktrTop dp un gd cn cs L a ccd [] outer) (call (.ref 794) [.ref S.x, .int key tk, .int dv td]) Q E s := by
  have hh := aHas_of_look hl
  (refine wpAny_call ?_; (k_dflt (refine' enD ([(Str.ofString "default", .int dv td), (Str.ofString "key", .int key tk), (Str.ofString "self", .ref S.x)]) ?k1 ?k2 ?k3 ?k4 ?k5 ?kA ?kF ?kK ?k6 ?k7 ?k8 ?k9 ?kB ?kR ?_ ?c2 ?c3 ?c4 ?c5; (case kA => exact rfl); (case kF => exact rfl); (case kK => first | exact rfl | assumption); (case k1 => k_asm); (case k2 => k_asm); (case k3 => k_asm); (case k4 => k_asm); (case k5 => k_asm); (case k6 => k_is); (case k7 => k_is); (case k8 => first | ktr_room | (refine depth_mark ?_; ktr_room)); (case k9 => first | exact BindsTo.of_eq rfl | exact binds_K (by k_in) rfl (by k_is) rfl rfl rfl); (case c5 => decide); (case kB => exact locs rfl); (case kR => exact rfl); (case c2 => exact rfl); (case c3 => exact rfl); (case c4 => exact rfl); k_whole; intro g' L' h' tk' FG' F' N' B' X' T'; (try dsimp only); (try k_fold))))
  (repeat' ((fail_if_success (with_reducible show wpAny _ _ (exec (Stmt.While _ _ _ _) _) _ _ _)); first | (k_unfold; (try dsimp only)) | ((with_reducible show wpAny _ _ (call _ _) _ _ _); first | k_invariant "r" (749, bhas) | k_invariant "r" (728, bget_ok)) | ((with_reducible show wpAny _ _ (subscriptTail _ _ _ _) _ _ _); k_invariant "lw" op_sub) | ((with_reducible show wpAny _ _ (compareOp _ _ (Value.ref _)) _ _ _); (k_invariant "lw" op_in; (try dsimp only [Bool.not_true, Bool.not_false]))) | walk1 | dsimp only | (leave1; try dsimp only)))
  exact ret _ _ _ (by assumption) (by assumption)
set_option maxHeartbeats 2000000 in
theorem mdef_set {w : World} {p : Program} {loose : List Str} {mean : ExcName → Option Value} {mg mb : Str → Option Value} {dp un : Nat} {gd : Option (List Code)} {cn : Str} {cs : Scope} {a : Addr} {ccd : Value} {outer : List Env} {A₀ : Around} {base h₀ : Heap} {L : Addr} {m : Str → Option Value} {s : Shared} {E : Value → Shared → Prop} {S : Sh} {rest nx : Led} {c : List (Int × Int)} {q : List Int} {Q : Value → Shared → Prop} {key val : Int} {tk tv : Tok}
  (B : Below A₀ base outer h₀) (F : Fr h₀ L s.heap m) (X : (Mine.K0 w.params).In h₀) (T : Top p loose mean mg mb h₀) (hk : cs.kind = .function) (R : Cw w S rest c q nx) (N : News h₀ L s.heap nx) (G : Core S.sz c q) (hsm : S.fifo = false → q = c.map (·.1)) (hroom : total S.sz c ≤ S.room) (hf : Fits S.sz S.room val) (hh : aHas c key = false) (hdp : dp + 60 < recursionLimit) (hun : un + 420 < cLine) (ret : ∀ h' tk' nx', Cw w S rest (aPut (evict S.sz S.room (S.sz val) key c q).1 key val) (putQ S.fifo (evict S.sz S.room (S.sz val) key c q).1 (evict S.sz S.room (S.sz val) key c q).2 key) nx' → Fr h₀ L h' m → News h₀ L h' nx' → Q (.int val tv) { s with heap := h', toks := tk' }) :
  wpAny (model PySem.Challenge.rw_ki0005_01.row.prog w) (ktrTop dp un gd cn cs L a ccd [] outer) (call (.ref 794) [.ref S.x, .int key tk, .int val tv]) Q E s := by
  (refine wpAny_call ?_; (k_dflt (refine' enD ([(Str.ofString "default", .int val tv), (Str.ofString "key", .int key tk), (Str.ofString "self", .ref S.x)]) ?k1 ?k2 ?k3 ?k4 ?k5 ?kA ?kF ?kK ?k6 ?k7 ?k8 ?k9 ?kB ?kR ?_ ?c2 ?c3 ?c4 ?c5; (case kA => exact rfl); (case kF => exact rfl); (case kK => first | exact rfl | assumption); (case k1 => k_asm); (case k2 => k_asm); (case k3 => k_asm); (case k4 => k_asm); (case k5 => k_asm); (case k6 => k_is); (case k7 => k_is); (case k8 => first | ktr_room | (refine depth_mark ?_; ktr_room)); (case k9 => first | exact BindsTo.of_eq rfl | exact binds_K (by k_in) rfl (by k_is) rfl rfl rfl); (case c5 => decide); (case kB => exact locs rfl); (case kR => exact rfl); (case c2 => exact rfl); (case c3 => exact rfl); (case c4 => exact rfl); k_whole; intro g' L' h' tk' FG' F' N' B' X' T'; (try dsimp only); (try k_fold))))
  (repeat' ((fail_if_success (with_reducible show wpAny _ _ (exec (Stmt.While _ _ _ _) _) _ _ _)); first | (k_unfold; (try dsimp only)) | ((with_reducible show wpAny _ _ (call _ _) _ _ _); first | k_invariant "r" ((Sh.sf _), cset_ok) | k_invariant "r" (749, bhas)) | ((with_reducible show wpAny _ _ (setItem _ _ _) _ _ _); k_invariant "lw" op_set) | ((with_reducible show wpAny _ _ (compareOp _ _ (Value.ref _)) _ _ _); (k_invariant "lw" op_in; (try dsimp only [Bool.not_true, Bool.not_false]))) | walk1 | dsimp only | (leave1; try dsimp only)))
  exact ret _ _ _ (by assumption) (by assumption) (by assumption)
set_option maxHeartbeats 2000000 in
theorem mdef_no {w : World} {p : Program} {loose : List Str} {mean : ExcName → Option Value} {mg mb : Str → Option Value} {dp un : Nat} {gd : Option (List Code)} {cn : Str} {cs : Scope} {a : Addr} {ccd : Value} {outer : List Env} {A₀ : Around} {base h₀ : Heap} {L : Addr} {m : Str → Option Value} {s : Shared} {E : Value → Shared → Prop} {S : Sh} {rest nx : Led} {c : List (Int × Int)} {q : List Int} {Q : Value → Shared → Prop} {key val : Int} {tk tv : Tok}
  (XB : (Mine.K0 w.params).In base) (TB : Top p loose mean mg mb base) (D : KtsDicts (outer.filterMap (·.frame)) h₀) (B : Below A₀ base outer h₀) (F : Fr h₀ L s.heap m) (X : (Mine.K0 w.params).In h₀) (T : Top p loose mean mg mb h₀) (hk : cs.kind = .function) (R : Cw w S rest c q nx) (N : News h₀ L s.heap nx) (hr : 0 ≤ S.room) (hf : ¬ Fits S.sz S.room val) (hh : aHas c key = false) (hdp : dp + 60 < recursionLimit) (hun : un + 420 < cLine) (exc : ∀ g' h' e tk', Fr h₀ L g' m → RaisedSN base g' (envOf cn cs L a ccd :: outer) e (.type "ValueError") nx h' → g'.UpToSlots h' → E (.ref e) { s with heap := h', toks := tk' }) :
  wpAny (model PySem.Challenge.rw_ki0005_01.row.prog w) (ktrTop dp un gd cn cs L a ccd [] outer) (call (.ref 794) [.ref S.x, .int key tk, .int val tv]) Q E s := by
  (refine wpAny_call ?_; (k_dflt (refine' enDS ([(Str.ofString "default", .int val tv), (Str.ofString "key", .int key tk), (Str.ofString "self", .ref S.x)]) ?k1 ?k2 ?k3 ?k4 ?k5 ?XB ?TB ?D ?T0 ?kA ?k6 ?k7 ?k8 ?k9 ?kB ?kR ?_ ?cK ?c2 ?c3 ?c4 ?c5; (case kA => exact rfl); (case k2 => k_asm); (case k1 => k_asm); (case XB => assumption); (case TB => assumption); (case D => assumption); (case T0 => first | assumption | exact KtsTurn.refl); (case k3 => k_asm); (case k4 => k_asm); (case k5 => k_asm); (case k6 => k_is); (case k7 => k_is); (case k8 => first | ktr_room | (refine depth_mark ?_; ktr_room)); (case k9 => first | exact BindsTo.of_eq rfl | exact binds_K (by k_in) rfl (by k_is) rfl rfl rfl); (case kB => exact locs rfl); (case kR => exact rfl); (case cK => first | exact rfl | assumption); (case c2 => exact rfl); (case c3 => exact rfl); (case c4 => exact rfl); (case c5 => decide); k_whole; intro g' L' h' tk' FG' F' N' B' X' T' D'; (try dsimp only); (try k_lift B'); (try k_fold))))
  (repeat' ((fail_if_success (with_reducible show wpAny _ _ (exec (Stmt.While _ _ _ _) _) _ _ _)); first | (k_unfold; (try dsimp only)) | ((with_reducible show wpAny _ _ (call _ _) _ _ _); first | k_invariant "r" ((Sh.sf _), cset_no) | k_invariant "r" (749, bhas)) | ((with_reducible show wpAny _ _ (setItem _ _ _) _ _ _); k_invariant "lw" op_set) | ((with_reducible show wpAny _ _ (compareOp _ _ (Value.ref _)) _ _ _); (k_invariant "lw" op_in; (try dsimp only [Bool.not_true, Bool.not_false]))) | walk1 | dsimp only | (leave1; try dsimp only)))
  refine' exc _ _ _ _ ?eF ?eS ?eU; (case eF => assumption); (case eS => first | with_reducible assumption | exact toSN (by with_reducible assumption) | assumption | exact toSN (by assumption)); (case eU => assumption)
-- Eq
/-! two answers that bear the same -/
inductive Ans : Dat → Prop
  | int (i : Int) : Ans (.int i)
  | bool (b : Bool) : Ans (.bool b)
  | str (x : Str) (h : PyData.strOk x = true) : Ans (.str x)
  | pair (i j : Int) : Ans (.tuple [.int i, .int j])
section
variable {h₀ h : Heap} {L : Addr} {news : List (Addr × Obj)}
theorem ans_reads (N : News h₀ L h news) {v : Value} {d : Dat} (D : DatIn news v d) (a : Ans d) : ∃ as, Reads h v (kqdP d) as := by
  cases a with
  | int i => obtain ⟨t, rfl⟩ := int_inv D; exact ⟨_, Reads.int _ _⟩
  | bool b => cases D; exact ⟨_, Reads.bool _⟩
  | str x hx => cases D; exact ⟨_, Reads.str _ _⟩
  | pair i j =>
    refine Classical.byContradiction fun hn9 => ?_
    obtain ⟨r, v1, v2, n, rfl, hm, h1, h2⟩ := two_inv D
    refine hn9 ?_; clear hn9
    obtain ⟨t1, rfl⟩ := int_inv h1
    obtain ⟨t2, rfl⟩ := int_inv h2
    rw [kqdP]
    refine ⟨_, reads_tuple_at (as := [] ++ ([] ++ [])) (N.get hm) rfl rfl ?_⟩
    simp only [kqdPs]
    exact ReadsAll.cons (Reads.int _ _) (ReadsAll.cons (Reads.int _ _) ReadsAll.nil)
theorem all_reads (N : News h₀ L h news) : ∀ {vs : List Value} {ds : List Dat}, DatAll news vs ds → (∀ d ∈ ds, Ans d) → ∃ as, ReadsAll h vs (kqdPs ds) as := by
  intro vs
  induction vs with
  | nil => intro ds D _; cases D; exact ⟨_, ReadsAll.nil⟩
  | cons v vs ih =>
    intro ds D k
    cases D with
    | cons hd r =>
      obtain ⟨as, q⟩ := ans_reads N hd (k _ (.head _))
      obtain ⟨bs, p⟩ := ih r fun d hm => k d (.tail _ hm)
      rw [kqdPs]
      exact ⟨_, ReadsAll.cons q p⟩
theorem ans_lay {d : Dat} (a : Ans d) : (kqdP d).canLay0 = true ∧ (kqdP d).depth ≤ 1 := by
  cases a with
  | int i => simp [kqdP, PyData.canLay0, PyData.depth]
  | bool b => simp [kqdP, PyData.canLay0, PyData.depth]
  | str x hx => simp [kqdP, PyData.canLay0, PyData.depth, hx]
  | pair i j => simp [kqdP, kqdPs, PyData.canLay0, PyData.canLayAll0, PyData.depth, PyData.depthAll]
theorem all_lay {ds : List Dat} (k : ∀ d ∈ ds, Ans d) : (PyData.list (kqdPs ds)).canLay0 = true ∧ (PyData.list (kqdPs ds)).depth ≤ 2 := by
  have e : PyData.canLayAll0 (kqdPs ds) = true ∧ PyData.depthAll (kqdPs ds) ≤ 1 := by
    induction ds with
    | nil => simp [kqdPs, PyData.canLayAll0, PyData.depthAll]
    | cons d ds ih =>
      have h1 := ans_lay (k d (.head _))
      have h2 := ih fun e he => k e (.tail _ he)
      simp only [kqdPs, PyData.canLayAll0, PyData.depthAll, h1.1, h2.1, Bool.and_self, true_and]
      have a1 := h1.2
      have a2 := h2.2
      omega
  have e2 := e.2
  simp only [PyData.canLay0, PyData.depth, e.1, true_and]
  omega
end
section
variable {prog : Program} {w : World} {A : Around} {E : Value → Shared → Prop} {s : Shared} {h₀ : Heap} {L a b : Addr} {news n₁ n₂ : List (Addr × Obj)} {xs ys : List Value} {ka kb : Nat} {ds : List Dat} {Q : Value → Shared → Prop}
theorem ne_same (N : News h₀ L s.heap news) (ma : (a, listOf xs.toArray ka) ∈ news) (Da : DatAll n₁ xs ds) (sa : ∀ p ∈ n₁, p ∈ news) (mb : (b, listOf ys.toArray kb) ∈ news) (Db : DatAll n₂ ys ds) (sb : ∀ p ∈ n₂, p ∈ news)
    (k : ∀ d ∈ ds, Ans d) (hu : A.units + 64 < cLine) (h : Q (.bool false) s) : wpAny (model prog w) A (compareOp .NotEq (.ref a) (.ref b)) Q E s := by
  obtain ⟨as, ra⟩ := all_reads N (Da.mono sa) k
  obtain ⟨bs, rb⟩ := all_reads N (Db.mono sb) k
  have l := all_lay k
  have sh : SeqAt.shaped (.list (kqdPs ds)) = true := by unfold SeqAt.shaped; rw [l.1, Bool.true_and]; exact decide_eq_true (Nat.le_trans l.2 (by decide))
  exact ne_dataH (reads_list_at (N.get ma) rfl rfl (by simpa using ra)) (reads_list_at (N.get mb) rfl rfl (by simpa using rb)) sh sh hu (by rw [SeqAt.eqv_refl _ l.1]; exact h)
theorem eq_same (N : News h₀ L s.heap news) (ma : (a, listOf xs.toArray ka) ∈ news) (Da : DatAll n₁ xs ds) (sa : ∀ p ∈ n₁, p ∈ news) (mb : (b, listOf ys.toArray kb) ∈ news) (Db : DatAll n₂ ys ds) (sb : ∀ p ∈ n₂, p ∈ news)
    (k : ∀ d ∈ ds, Ans d) (hu : A.units + 64 < cLine) (h : Q (.bool true) s) : wpAny (model prog w) A (compareOp .Eq (.ref a) (.ref b)) Q E s := by
  obtain ⟨as, ra⟩ := all_reads N (Da.mono sa) k
  obtain ⟨bs, rb⟩ := all_reads N (Db.mono sb) k
  have l := all_lay k
  have sh : SeqAt.shaped (.list (kqdPs ds)) = true := by unfold SeqAt.shaped; rw [l.1, Bool.true_and]; exact decide_eq_true (Nat.le_trans l.2 (by decide))
  exact eq_dataH (reads_list_at (N.get ma) rfl rfl (by simpa using ra)) (reads_list_at (N.get mb) rfl rfl (by simpa using rb)) sh sh hu (by rw [SeqAt.eqv_refl _ l.1]; exact h)
theorem ne_sameT {x y : Value} {d : Dat} (N : News h₀ L s.heap news) (Da : DatIn n₁ x d) (sa : ∀ p ∈ n₁, p ∈ news) (Db : DatIn n₂ y d) (sb : ∀ p ∈ n₂, p ∈ news)
    (k : Ans d) (hu : A.units + 64 < cLine) (h : Q (.bool false) s) : wpAny (model prog w) A (compareOp .NotEq x y) Q E s := by
  obtain ⟨as, ra⟩ := ans_reads N (Da.mono sa) k
  obtain ⟨bs, rb⟩ := ans_reads N (Db.mono sb) k
  have l := ans_lay k
  have sh : SeqAt.shaped (kqdP d) = true := by unfold SeqAt.shaped; rw [l.1, Bool.true_and]; exact decide_eq_true (Nat.le_trans l.2 (by decide))
  exact ne_dataH ra rb sh sh hu (by rw [SeqAt.eqv_refl _ l.1]; exact h)
end
-- Ic
open LCg
/-! a comprehension over a dict's keys, met by an iterator -/
noncomputable def DictSt (d : Addr) (od : Obj) (nx : List (Addr × Obj)) : Prop := (d, od) ∈ nx
section
variable {prog : Program} {w : World} {A : Around} {E : Value → Shared → Prop} {s : Shared} {h₀ : Heap} {L : Addr} {m : Str → Option Value} {env : Env} {K : Type} [DecidableEq K] {knd : KeyKind prog w K}
noncomputable def CompItK (knd : KeyKind prog w K) (A : Around) (h₀ : Heap) (L : Addr) (m : Str → Option Value) (env : Env) (elt : PySem.Expr) (x : Str) (scope : Scope) (cl : List (Str × Addr)) (Fin : Shared → List Value → List (Addr × Obj) → Prop) (it : Value) (s₂ : Shared) : Prop :=
  ∃ I oI d od kvs ep news, it = .ref I ∧ A.handled = none ∧ Fr h₀ L s₂.heap m ∧ News h₀ L s₂.heap ((I, oI) :: news) ∧ (∀ p ∈ news, p.1 ≠ I) ∧ KdkIter oI d 0 kvs.length ep ∧ KdkAt knd od kvs ep ∧ (d, od) ∈ news ∧ kvs.length ≤ sizeLine ∧
    CompRest prog w A h₀ L m env elt x scope cl s₂ (DictSt d od) (fun i v => ∃ k y, kvs[i]? = some (k, y) ∧ knd.is k v = true) (Fin s₂) kvs.length 0 [] news
theorem ListComp_K {elt iter : PySem.Expr} {x : Str} {px : Pos} {scope : Scope} {cl : List (Str × Addr)} {pos : Pos} {Q : Value → Shared → Prop} (F₀ : Fr h₀ L s.heap m)
    (hclos : closureFor scope env = pure cl) (hcell : ∀ y ∈ scope.names, y.2 ≠ .cell) (hkind : scope.kind = .function)
    (hnames : ∀ y ∈ scope.names, y.2 = .local → scope.names.lookup y.1 = some .local) (hx : scope.names.lookup x = some .local)
    (h : wpAny (model prog w) A (eval iter env) (fun xv s₁ => wpAny (model prog w) A (pyIter xv) (CompItK knd A h₀ L m env elt x scope cl (fun s₂ => FinE h₀ L m s₂ Q)) E s₁) E s)
    (hs : ∀ x, foldedSetIterable iter env x = pure x := by intro _; rfl) :
    wpAny (model prog w) A (eval (.ListComp elt [⟨.Name x px, iter, [], 0⟩] scope pos) env) Q E s := by
  rw [eval_ListComp]
  refine wpAny_comprehension_free (use := none) rfl hs hclos hkind hnames (wpAny_mono h (fun xv s₁ h₁ => ?_) fun _ _ e => e)
  refine wpAny_mono h₁ (fun it s₂ h₂ => ?_) fun _ _ e => e
  refine Classical.byContradiction fun hn9 => ?_
  obtain ⟨I, oI, d, od, kvs, ep, news, rfl, hh, F, N, off, hi, ha, hm, hsz, R⟩ := h₂
  refine hn9 ?_; clear hn9
  have hI := N (I, oI) (.head _)
  have N' : News h₀ L s₂.heap news := fun p hp => N p (.tail _ hp)
  have hd := N' _ hm
  refine block_U (Walks.dictKeys (knd := knd) hh I d (off _ hm) kvs ep) hsz (fun i h st => by obtain ⟨o, e, _⟩ := st.1; exact ⟨o, e⟩) ?_ hcell hkind hx ⟨hi.at hI.1, ha.dictAt hd.1⟩ (fun b hb => ?_) F N' (fun e => hI.2.1 e.symm) hI.2.2 off hm R ?_
  · intro i h h' o nw st e e' k Nw S
    refine ⟨st.1.at fun o' q => ?_, ha.dictAt (Nw _ S).1⟩
    rw [e] at q; cases q; exact e'
  · rcases List.mem_cons.mp hb with rfl | hb
    · exact Heap.lt_size hI.1
    · rw [List.mem_singleton.mp hb]; exact Heap.lt_size hd.1
  · intro D C h tk m' ys news' F' N' o1 hn hC₀ hD₀ hCL hDL hCD offC fin
    refine ⟨m', hn, fun h'' hs'' => fin D h'' tk (F'.change hs'' hCL hC₀) (fun p hp => ?_) o1⟩
    refine ⟨hs''.extBut _ _ ?_ (N' p hp).1, (N' p hp).2⟩
    rcases List.mem_cons.mp hp with rfl | hp
    · exact Ne.symm hCD
    · exact offC p hp
end
-- St
/-! a deed on a plain queue -/
noncomputable def refD : List Dat := [.str (Str.ofString "refused")]
noncomputable def missD : List Dat := [.str (Str.ofString "missing")]
noncomputable abbrev Stp := List Dat × List (Int × Int) × List Int
noncomputable def putS (sz : Int → Int) (room : Int) (ag : Bool) (c : List (Int × Int)) (q : List Int) (key value : Int) (ans : List Dat) : Stp :=
  if Fits sz room value then (ans, aPut (evict sz room (sz value) key c q).1 key value, putQ ag (evict sz room (sz value) key c q).1 (evict sz room (sz value) key c q).2 key) else (refD, c, q)
noncomputable def readS (c : List (Int × Int)) (q : List Int) (key : Int) (none_ : List Dat) : Stp := match aLook c key with | some v => ([.int v], c, q) | none => (none_, c, q)
noncomputable def takeS (c : List (Int × Int)) (q : List Int) (key : Int) (some_ : Int → List Dat) (none_ : List Dat) : Stp := match aLook c key with | some v => (some_ v, aDel c key, qDel q key) | none => (none_, c, q)
noncomputable def stepS (sz : Int → Int) (room : Int) (ag : Bool) (c : List (Int × Int)) (q : List Int) (deed key value : Int) : Stp :=
  if deed < 2 then putS sz room ag c q key value []
  else if deed = 2 then readS c q key missD
  else if deed = 3 then ([.bool (aHas c key)], c, q)
  else if deed = 4 then readS c q key [.int (-7)]
  else if deed = 5 then takeS c q key (fun v => [.int v]) [.int (-8)]
  else if deed = 6 then (match aLook c key with | some v => ([.int v], c, q) | none => putS sz room ag c q key value [.int value])
  else if deed = 7 then takeS c q key (fun _ => []) missD
  else if deed = 8 then (match q with | [] => (missD, c, []) | k :: q' => ([.tuple [.int k, .int ((aLook c k).getD 0)]], aDel c k, q'))
  else if value.fmod 4 = 0 then ([], [], [])
  else takeS c q key (fun v => [.int v]) missD
/-- what holds between the deeds -/
structure Inv (sz : Int → Int) (room : Int) (ag : Bool) (c : List (Int × Int)) (q : List Int) : Prop where
  core : Core sz c q
  fits : total sz c ≤ room
  same : ag = false → q = c.map (·.1)
section
variable {sz : Int → Int} {room : Int} {ag : Bool} {c : List (Int × Int)} {q : List Int} {key value : Int}
theorem Inv.room0 (I : Inv sz room ag c q) : 0 ≤ room := Int.le_trans (total_nonneg I.core.pos) I.fits
theorem Inv.del (I : Inv sz room ag c q) (k : Int) : Inv sz room ag (aDel c k) (qDel q k) := by
  refine ⟨I.core.del k, ?_, fun h => by rw [I.same h, keys_del]⟩
  cases h : aLook c k with
  | none =>
    rw [aDel_none (by rw [← aLook_has, h]; rfl)]; exact I.fits
  | some v =>
    rw [total_del I.core.nk h]
    have h1 := I.fits
    have h2 : 0 ≤ sz v := by
      have : ∃ p ∈ c, p.1 = k ∧ p.2 = v := by
        unfold aLook at h
        obtain ⟨p, hp, rfl⟩ := Option.map_eq_some_iff.mp h
        have h9 : decide (p.1 = k) = true := by simpa using List.find?_some hp
        exact ⟨p, List.mem_of_find?_eq_some hp, of_decide_eq_true h9, rfl⟩
      obtain ⟨p, hp, _, rfl⟩ := this
      exact I.core.pos p hp
    omega
theorem Inv.pop {k : Int} {q' : List Int} (I : Inv sz room ag c (k :: q')) : Inv sz room ag (aDel c k) q' := by
  have := I.del k
  rwa [qDel_head I.core.nq] at this
theorem Inv.put (I : Inv sz room ag c q) (hf : Fits sz room value) (hk : 0 ≤ key ∧ key < 5) :
    Inv sz room ag (aPut (evict sz room (sz value) key c q).1 key value) (putQ ag (evict sz room (sz value) key c q).1 (evict sz room (sz value) key c q).2 key) := by
  have G := evict_core (room := room) (size := sz value) (key := key) I.core
  refine ⟨G.put hf.2 hk, ?_, fun h => ?_⟩
  · rw [total_put G.nk]; exact evict_room hf.1 I.core
  · subst h
    have e := evict_keys (sz := sz) (room := room) (size := sz value) (key := key) I.core.nq (I.same rfl)
    have := putQ_keys (c := (evict sz room (sz value) key c q).1) (key := key) (v := value)
    rw [← e] at this
    exact this
theorem Inv.nil (hr : 0 ≤ room) : Inv sz room ag [] [] := ⟨⟨.nil, .nil, fun k => by simp [aHas], (fun _ h => nomatch h), (fun _ h => nomatch h)⟩, hr, fun _ => rfl⟩
theorem Inv.putS (I : Inv sz room ag c q) (hk : 0 ≤ key ∧ key < 5) {ans : List Dat} : Inv sz room ag (putS sz room ag c q key value ans).2.1 (putS sz room ag c q key value ans).2.2 := by
  unfold Mine.putS
  split
  · rename_i h; exact I.put h hk
  · exact I
theorem Inv.readS (I : Inv sz room ag c q) {n : List Dat} : Inv sz room ag (readS c q key n).2.1 (readS c q key n).2.2 := by
  unfold Mine.readS
  split <;> exact I
theorem Inv.takeS (I : Inv sz room ag c q) {n : List Dat} {f : Int → List Dat} : Inv sz room ag (takeS c q key f n).2.1 (takeS c q key f n).2.2 := by
  unfold Mine.takeS
  split
  · exact I.del key
  · exact I
theorem Inv.step {deed : Int} (I : Inv sz room ag c q) (hk : 0 ≤ key ∧ key < 5) : Inv sz room ag (stepS sz room ag c q deed key value).2.1 (stepS sz room ag c q deed key value).2.2 := by
  unfold stepS
  split
  · exact I.putS hk
  split
  · exact I.readS
  split
  · exact I
  split
  · exact I.readS
  split
  · exact I.takeS
  split
  · split
    · exact I
    · exact I.putS hk
  split
  · exact I.takeS
  split
  · split
    · exact I
    · exact I.pop
  split
  · exact Inv.nil I.room0
  · exact I.takeS
end
theorem stepS_ans {sz : Int → Int} {room : Int} {ag : Bool} {c : List (Int × Int)} {q : List Int} {deed key value : Int} : ∀ d ∈ (stepS sz room ag c q deed key value).1, Ans d := by
  have hr : ∀ d ∈ refD, Ans d := fun d hd => by rw [List.mem_singleton.mp hd]; exact .str _ (by decide +kernel)
  have hm : ∀ d ∈ missD, Ans d := fun d hd => by rw [List.mem_singleton.mp hd]; exact .str _ (by decide +kernel)
  have hi : ∀ n : Int, ∀ d ∈ [Dat.int n], Ans d := fun n d hd => by rw [List.mem_singleton.mp hd]; exact .int n
  have hn : ∀ d ∈ ([] : List Dat), Ans d := fun _ h => nomatch h
  have hp : ∀ (ans : List Dat), (∀ d ∈ ans, Ans d) → ∀ d ∈ (putS sz room ag c q key value ans).1, Ans d := by
    intro ans ha
    unfold putS
    split
    · exact ha
    · exact hr
  have hrd : ∀ (ans : List Dat), (∀ d ∈ ans, Ans d) → ∀ d ∈ (readS c q key ans).1, Ans d := by
    intro ans ha
    unfold readS
    split
    · exact hi _
    · exact ha
  have ht : ∀ (f : Int → List Dat) (ans : List Dat), (∀ v, ∀ d ∈ f v, Ans d) → (∀ d ∈ ans, Ans d) → ∀ d ∈ (takeS c q key f ans).1, Ans d := by
    intro f ans hf ha
    unfold takeS
    split
    · exact hf _
    · exact ha
  unfold stepS
  split
  · exact hp _ hn
  split
  · exact hrd _ hm
  split
  · intro d hd; rw [List.mem_singleton.mp hd]; exact .bool _
  split
  · exact hrd _ (hi _)
  split
  · exact ht _ _ hi (hi _)
  split
  · split
    · exact hi _
    · exact hp _ (hi _)
  split
  · exact ht _ _ (fun _ => hn) hm
  split
  · split
    · exact hm
    · intro d hd; rw [List.mem_singleton.mp hd]; exact .pair _ _
  split
  · exact hn
  · exact ht _ _ hi hm
-- De2
set_option maxHeartbeats 2000000 in
theorem deed_set {w : World} {p : Program} {loose : List Str} {mean : ExcName → Option Value} {mg mb : Str → Option Value} {dp un : Nat} {gd : Option (List Code)} {cn : Str} {cs : Scope} {a : Addr} {ccd : Value} {A₀ : Around} {base h₀ : Heap} {L : Addr} {m : Str → Option Value} {s : Shared} {E : Value → Shared → Prop} {S : Sh} {rest nx : Led} {c : List (Int × Int)} {q : List Int} {Q : Value → Shared → Prop} {key value : Int} {td tk tv : Tok}
  (XB : (Mine.K0 w.params).In base) (TB : Top p loose mean mg mb base) (B : Below A₀ base [] h₀) (F : Fr h₀ L s.heap m) (X : (Mine.K0 w.params).In h₀) (T : Top p loose mean mg mb h₀) (hk : cs.kind = .function) (R : Cw w S rest c q nx) (N : News h₀ L s.heap nx) (I : Inv S.sz S.room S.fifo c q) {deed : Int} (hd : deed < 2) (hf : Fits S.sz S.room value) (hdp : dp + 80 < recursionLimit) (hun : un + 600 < cLine) (ret : ∀ h' tk' r vs n dl nx', Cw w S rest (stepS S.sz S.room S.fifo c q deed key value).2.1 (stepS S.sz S.room S.fifo c q deed key value).2.2 nx' → Fr h₀ L h' m → News h₀ L h' ((r, listOf vs.toArray n) :: (dl ++ nx')) → DatAll dl vs (stepS S.sz S.room S.fifo c q deed key value).1 → Tups dl → Q (.ref r) { s with heap := h', toks := tk' }) :
  wpAny (model PySem.Challenge.rw_ki0005_01.row.prog w) (ktrTop dp un gd cn cs L a ccd [] []) (call (.ref 1082) [.ref S.x, .int deed td, .int key tk, .int value tv]) Q E s := by
  have G := I.core
  have hsm := I.same
  have hroom := I.fits
  have hr0 := I.room0
  have hh9 : True := trivial
  have hv9 : True := trivial
  have e9 : (stepS S.sz S.room S.fifo c q deed key value) = ([], aPut (evict S.sz S.room (S.sz value) key c q).1 key value, putQ S.fifo (evict S.sz S.room (S.sz value) key c q).1 (evict S.sz S.room (S.sz value) key c q).2 key) := by
    unfold stepS putS; rw [if_pos hd, if_pos hf]
  rw [e9] at ret
  (refine wpAny_call ?_; k_dflt (refine' enDS0 ([(Str.ofString "value", .int value tv), (Str.ofString "key", .int key tk), (Str.ofString "deed", .int deed td), (Str.ofString "cache", .ref S.x)]) ?k1 ?k2 ?k3 ?k4 ?k5 ?kA ?k6 ?k7 ?k8 ?k9 ?kB ?kR ?_ ?cK ?c2 ?c3 ?c4 ?c5; (case kA => exact rfl); (case k2 => k_asm); (case k1 => k_asm); (case k3 => k_asm); (case k4 => k_asm); (case k5 => k_asm); (case k6 => k_is); (case k7 => k_is); (case k8 => ktr_room); (case k9 => exact BindsTo.of_eq rfl); (case kB => exact locs rfl); (case kR => exact rfl); (case cK => first | exact rfl | assumption); (case c2 => exact rfl); (case c3 => exact rfl); (case c4 => exact rfl); (case c5 => decide); k_whole; intro g' L' h' tk' FG' F' N' B' X' T' D'; (try dsimp only); (try k_lift B'); (try k_fold)))
  (repeat' ((fail_if_success (with_reducible show wpAny _ _ (exec (Stmt.While _ _ _ _) _) _ _ _)); first | (k_unfold; (try dsimp only)) | ((with_reducible show wpAny _ _ (call _ _) _ _ _); k_invariant "r" ((Sh.sf _), cset_ok)) | ((with_reducible show wpAny _ _ (setItem _ _ _) _ _ _); k_invariant "lw" op_set) | walk1 | dsimp only | (leave1; try dsimp only)))
  exact ret _ _ _ _ _ [] _ (by assumption) (by assumption) (by walk_at "my news") .nil Tups.nil
set_option maxHeartbeats 2000000 in
theorem deed_setno {w : World} {p : Program} {loose : List Str} {mean : ExcName → Option Value} {mg mb : Str → Option Value} {dp un : Nat} {gd : Option (List Code)} {cn : Str} {cs : Scope} {a : Addr} {ccd : Value} {A₀ : Around} {base h₀ : Heap} {L : Addr} {m : Str → Option Value} {s : Shared} {E : Value → Shared → Prop} {S : Sh} {rest nx : Led} {c : List (Int × Int)} {q : List Int} {Q : Value → Shared → Prop} {key value : Int} {td tk tv : Tok}
  (XB : (Mine.K0 w.params).In base) (TB : Top p loose mean mg mb base) (B : Below A₀ base [] h₀) (F : Fr h₀ L s.heap m) (X : (Mine.K0 w.params).In h₀) (T : Top p loose mean mg mb h₀) (hk : cs.kind = .function) (R : Cw w S rest c q nx) (N : News h₀ L s.heap nx) (I : Inv S.sz S.room S.fifo c q) {deed : Int} (hd : deed < 2) (hf : ¬ Fits S.sz S.room value) (hdp : dp + 80 < recursionLimit) (hun : un + 600 < cLine) (ret : ∀ h' tk' r vs n dl nx', Cw w S rest (stepS S.sz S.room S.fifo c q deed key value).2.1 (stepS S.sz S.room S.fifo c q deed key value).2.2 nx' → Fr h₀ L h' m → News h₀ L h' ((r, listOf vs.toArray n) :: (dl ++ nx')) → DatAll dl vs (stepS S.sz S.room S.fifo c q deed key value).1 → Tups dl → Q (.ref r) { s with heap := h', toks := tk' }) :
  wpAny (model PySem.Challenge.rw_ki0005_01.row.prog w) (ktrTop dp un gd cn cs L a ccd [] []) (call (.ref 1082) [.ref S.x, .int deed td, .int key tk, .int value tv]) Q E s := by
  have G := I.core
  have hsm := I.same
  have hroom := I.fits
  have hr0 := I.room0
  have hh9 : True := trivial
  have hv9 : True := trivial
  have e9 : (stepS S.sz S.room S.fifo c q deed key value) = (refD, c, q) := by
    unfold stepS putS; rw [if_pos hd, if_neg hf]
  rw [e9] at ret
  (refine wpAny_call ?_; k_dflt (refine' enDS0 ([(Str.ofString "value", .int value tv), (Str.ofString "key", .int key tk), (Str.ofString "deed", .int deed td), (Str.ofString "cache", .ref S.x)]) ?k1 ?k2 ?k3 ?k4 ?k5 ?kA ?k6 ?k7 ?k8 ?k9 ?kB ?kR ?_ ?cK ?c2 ?c3 ?c4 ?c5; (case kA => exact rfl); (case k2 => k_asm); (case k1 => k_asm); (case k3 => k_asm); (case k4 => k_asm); (case k5 => k_asm); (case k6 => k_is); (case k7 => k_is); (case k8 => ktr_room); (case k9 => exact BindsTo.of_eq rfl); (case kB => exact locs rfl); (case kR => exact rfl); (case cK => first | exact rfl | assumption); (case c2 => exact rfl); (case c3 => exact rfl); (case c4 => exact rfl); (case c5 => decide); k_whole; intro g' L' h' tk' FG' F' N' B' X' T' D'; (try dsimp only); (try k_lift B'); (try k_fold)))
  (repeat' ((fail_if_success (with_reducible show wpAny _ _ (exec (Stmt.While _ _ _ _) _) _ _ _)); first | (k_unfold; (try dsimp only)) | ((with_reducible show wpAny _ _ (call _ _) _ _ _); k_invariant "r" ((Sh.sf _), cset_no)) | ((with_reducible show wpAny _ _ (setItem _ _ _) _ _ _); k_invariant "lw" op_set) | walk1 | dsimp only | (leave1; try dsimp only)))
  exact ret _ _ _ _ _ [] _ (by assumption) (by assumption) (by walk_at "my news") (.cons (.str _ _) .nil) Tups.nil
set_option maxHeartbeats 2000000 in
theorem deed2_ok {w : World} {p : Program} {loose : List Str} {mean : ExcName → Option Value} {mg mb : Str → Option Value} {dp un : Nat} {gd : Option (List Code)} {cn : Str} {cs : Scope} {a : Addr} {ccd : Value} {A₀ : Around} {base h₀ : Heap} {L : Addr} {m : Str → Option Value} {s : Shared} {E : Value → Shared → Prop} {S : Sh} {rest nx : Led} {c : List (Int × Int)} {q : List Int} {Q : Value → Shared → Prop} {key value : Int} {td tk tv : Tok}
  (XB : (Mine.K0 w.params).In base) (TB : Top p loose mean mg mb base) (B : Below A₀ base [] h₀) (F : Fr h₀ L s.heap m) (X : (Mine.K0 w.params).In h₀) (T : Top p loose mean mg mb h₀) (hk : cs.kind = .function) (R : Cw w S rest c q nx) (N : News h₀ L s.heap nx) (I : Inv S.sz S.room S.fifo c q) {v : Int} (h0 : True) (hl : aLook c key = some v) (hdp : dp + 80 < recursionLimit) (hun : un + 600 < cLine) (ret : ∀ h' tk' r vs n dl nx', Cw w S rest (stepS S.sz S.room S.fifo c q 2 key value).2.1 (stepS S.sz S.room S.fifo c q 2 key value).2.2 nx' → Fr h₀ L h' m → News h₀ L h' ((r, listOf vs.toArray n) :: (dl ++ nx')) → DatAll dl vs (stepS S.sz S.room S.fifo c q 2 key value).1 → Tups dl → Q (.ref r) { s with heap := h', toks := tk' }) :
  wpAny (model PySem.Challenge.rw_ki0005_01.row.prog w) (ktrTop dp un gd cn cs L a ccd [] []) (call (.ref 1082) [.ref S.x, .int 2 td, .int key tk, .int value tv]) Q E s := by
  have G := I.core
  have hsm := I.same
  have hroom := I.fits
  have hr0 := I.room0
  have hh : aHas c key = true := aHas_of_look hl
  have hv9 : True := trivial
  have e9 : (stepS S.sz S.room S.fifo c q 2 key value) = ([.int v], c, q) := by
    show readS c q key missD = _; unfold readS; rw [hl]
  rw [e9] at ret
  (refine wpAny_call ?_; k_dflt (refine' enDS0 ([(Str.ofString "value", .int value tv), (Str.ofString "key", .int key tk), (Str.ofString "deed", .int 2 td), (Str.ofString "cache", .ref S.x)]) ?k1 ?k2 ?k3 ?k4 ?k5 ?kA ?k6 ?k7 ?k8 ?k9 ?kB ?kR ?_ ?cK ?c2 ?c3 ?c4 ?c5; (case kA => exact rfl); (case k2 => k_asm); (case k1 => k_asm); (case k3 => k_asm); (case k4 => k_asm); (case k5 => k_asm); (case k6 => k_is); (case k7 => k_is); (case k8 => ktr_room); (case k9 => exact BindsTo.of_eq rfl); (case kB => exact locs rfl); (case kR => exact rfl); (case cK => first | exact rfl | assumption); (case c2 => exact rfl); (case c3 => exact rfl); (case c4 => exact rfl); (case c5 => decide); k_whole; intro g' L' h' tk' FG' F' N' B' X' T' D'; (try dsimp only); (try k_lift B'); (try k_fold)))
  (repeat' ((fail_if_success (with_reducible show wpAny _ _ (exec (Stmt.While _ _ _ _) _) _ _ _)); first | (k_unfold; (try dsimp only)) | ((with_reducible show wpAny _ _ (call _ _) _ _ _); k_invariant "r" (728, bget_ok)) | ((with_reducible show wpAny _ _ (subscriptTail _ _ _ _) _ _ _); k_invariant "lw" op_sub) | walk1 | dsimp only | (leave1; try dsimp only)))
  exact ret _ _ _ _ _ [] _ (by assumption) (by assumption) (by walk_at "my news") (.cons (.int _ _) .nil) Tups.nil
set_option maxHeartbeats 2000000 in
theorem deed2_no {w : World} {p : Program} {loose : List Str} {mean : ExcName → Option Value} {mg mb : Str → Option Value} {dp un : Nat} {gd : Option (List Code)} {cn : Str} {cs : Scope} {a : Addr} {ccd : Value} {A₀ : Around} {base h₀ : Heap} {L : Addr} {m : Str → Option Value} {s : Shared} {E : Value → Shared → Prop} {S : Sh} {rest nx : Led} {c : List (Int × Int)} {q : List Int} {Q : Value → Shared → Prop} {key value : Int} {td tk tv : Tok}
  (XB : (Mine.K0 w.params).In base) (TB : Top p loose mean mg mb base) (B : Below A₀ base [] h₀) (F : Fr h₀ L s.heap m) (X : (Mine.K0 w.params).In h₀) (T : Top p loose mean mg mb h₀) (hk : cs.kind = .function) (R : Cw w S rest c q nx) (N : News h₀ L s.heap nx) (I : Inv S.sz S.room S.fifo c q) (v : Int) (h0 : True) (hh : aHas c key = false) (hdp : dp + 80 < recursionLimit) (hun : un + 600 < cLine) (ret : ∀ h' tk' r vs n dl nx', Cw w S rest (stepS S.sz S.room S.fifo c q 2 key value).2.1 (stepS S.sz S.room S.fifo c q 2 key value).2.2 nx' → Fr h₀ L h' m → News h₀ L h' ((r, listOf vs.toArray n) :: (dl ++ nx')) → DatAll dl vs (stepS S.sz S.room S.fifo c q 2 key value).1 → Tups dl → Q (.ref r) { s with heap := h', toks := tk' }) :
  wpAny (model PySem.Challenge.rw_ki0005_01.row.prog w) (ktrTop dp un gd cn cs L a ccd [] []) (call (.ref 1082) [.ref S.x, .int 2 td, .int key tk, .int value tv]) Q E s := by
  have G := I.core
  have hsm := I.same
  have hroom := I.fits
  have hr0 := I.room0
  have hn : aLook c key = none := by cases h9 : aLook c key with | none => rfl | some v => rw [aHas_of_look h9] at hh; cases hh
  have hv9 : True := trivial
  have e9 : (stepS S.sz S.room S.fifo c q 2 key value) = (missD, c, q) := by
    show readS c q key missD = _; unfold readS; rw [hn]
  rw [e9] at ret
  (refine wpAny_call ?_; k_dflt (refine' enDS0 ([(Str.ofString "value", .int value tv), (Str.ofString "key", .int key tk), (Str.ofString "deed", .int 2 td), (Str.ofString "cache", .ref S.x)]) ?k1 ?k2 ?k3 ?k4 ?k5 ?kA ?k6 ?k7 ?k8 ?k9 ?kB ?kR ?_ ?cK ?c2 ?c3 ?c4 ?c5; (case kA => exact rfl); (case k2 => k_asm); (case k1 => k_asm); (case k3 => k_asm); (case k4 => k_asm); (case k5 => k_asm); (case k6 => k_is); (case k7 => k_is); (case k8 => ktr_room); (case k9 => exact BindsTo.of_eq rfl); (case kB => exact locs rfl); (case kR => exact rfl); (case cK => first | exact rfl | assumption); (case c2 => exact rfl); (case c3 => exact rfl); (case c4 => exact rfl); (case c5 => decide); k_whole; intro g' L' h' tk' FG' F' N' B' X' T' D'; (try dsimp only); (try k_lift B'); (try k_fold)))
  (repeat' ((fail_if_success (with_reducible show wpAny _ _ (exec (Stmt.While _ _ _ _) _) _ _ _)); first | (k_unfold; (try dsimp only)) | ((with_reducible show wpAny _ _ (call _ _) _ _ _); k_invariant "r" (728, bget_no)) | ((with_reducible show wpAny _ _ (subscriptTail _ _ _ _) _ _ _); k_invariant "lw" op_sub) | walk1 | dsimp only | (leave1; try dsimp only)))
  exact ret _ _ _ _ _ [] _ (by assumption) (by assumption) (by walk_at "my news") (.cons (.str _ _) .nil) Tups.nil
set_option maxHeartbeats 2000000 in
theorem deed3 {w : World} {p : Program} {loose : List Str} {mean : ExcName → Option Value} {mg mb : Str → Option Value} {dp un : Nat} {gd : Option (List Code)} {cn : Str} {cs : Scope} {a : Addr} {ccd : Value} {A₀ : Around} {base h₀ : Heap} {L : Addr} {m : Str → Option Value} {s : Shared} {E : Value → Shared → Prop} {S : Sh} {rest nx : Led} {c : List (Int × Int)} {q : List Int} {Q : Value → Shared → Prop} {key value : Int} {td tk tv : Tok}
  (XB : (Mine.K0 w.params).In base) (TB : Top p loose mean mg mb base) (B : Below A₀ base [] h₀) (F : Fr h₀ L s.heap m) (X : (Mine.K0 w.params).In h₀) (T : Top p loose mean mg mb h₀) (hk : cs.kind = .function) (R : Cw w S rest c q nx) (N : News h₀ L s.heap nx) (I : Inv S.sz S.room S.fifo c q) {b : Bool} (h0 : True) (hb : aHas c key = b) (hdp : dp + 80 < recursionLimit) (hun : un + 600 < cLine) (ret : ∀ h' tk' r vs n dl nx', Cw w S rest (stepS S.sz S.room S.fifo c q 3 key value).2.1 (stepS S.sz S.room S.fifo c q 3 key value).2.2 nx' → Fr h₀ L h' m → News h₀ L h' ((r, listOf vs.toArray n) :: (dl ++ nx')) → DatAll dl vs (stepS S.sz S.room S.fifo c q 3 key value).1 → Tups dl → Q (.ref r) { s with heap := h', toks := tk' }) :
  wpAny (model PySem.Challenge.rw_ki0005_01.row.prog w) (ktrTop dp un gd cn cs L a ccd [] []) (call (.ref 1082) [.ref S.x, .int 3 td, .int key tk, .int value tv]) Q E s := by
  have G := I.core
  have hsm := I.same
  have hroom := I.fits
  have hr0 := I.room0
  have hh9 : True := trivial
  have hv9 : True := trivial
  have e9 : (stepS S.sz S.room S.fifo c q 3 key value) = ([.bool b], c, q) := by
    show ([Dat.bool (aHas c key)], c, q) = _; rw [hb]
  rw [e9] at ret
  (refine wpAny_call ?_; k_dflt (refine' enDS0 ([(Str.ofString "value", .int value tv), (Str.ofString "key", .int key tk), (Str.ofString "deed", .int 3 td), (Str.ofString "cache", .ref S.x)]) ?k1 ?k2 ?k3 ?k4 ?k5 ?kA ?k6 ?k7 ?k8 ?k9 ?kB ?kR ?_ ?cK ?c2 ?c3 ?c4 ?c5; (case kA => exact rfl); (case k2 => k_asm); (case k1 => k_asm); (case k3 => k_asm); (case k4 => k_asm); (case k5 => k_asm); (case k6 => k_is); (case k7 => k_is); (case k8 => ktr_room); (case k9 => exact BindsTo.of_eq rfl); (case kB => exact locs rfl); (case kR => exact rfl); (case cK => first | exact rfl | assumption); (case c2 => exact rfl); (case c3 => exact rfl); (case c4 => exact rfl); (case c5 => decide); k_whole; intro g' L' h' tk' FG' F' N' B' X' T' D'; (try dsimp only); (try k_lift B'); (try k_fold)))
  (repeat' ((fail_if_success (with_reducible show wpAny _ _ (exec (Stmt.While _ _ _ _) _) _ _ _)); first | (k_unfold; (try dsimp only)) | ((with_reducible show wpAny _ _ (call _ _) _ _ _); k_invariant "r" (749, bhas)) | ((with_reducible show wpAny _ _ (compareOp _ _ (Value.ref _)) _ _ _); (k_invariant "lw" op_in; (try dsimp only [Bool.not_true, Bool.not_false]))) | walk1 | dsimp only | (leave1; try dsimp only)))
  exact ret _ _ _ _ _ [] _ (by assumption) (by assumption) (by walk_at "my news") (.cons (.bool _) .nil) Tups.nil
set_option maxHeartbeats 2000000 in
theorem deed4_ok {w : World} {p : Program} {loose : List Str} {mean : ExcName → Option Value} {mg mb : Str → Option Value} {dp un : Nat} {gd : Option (List Code)} {cn : Str} {cs : Scope} {a : Addr} {ccd : Value} {A₀ : Around} {base h₀ : Heap} {L : Addr} {m : Str → Option Value} {s : Shared} {E : Value → Shared → Prop} {S : Sh} {rest nx : Led} {c : List (Int × Int)} {q : List Int} {Q : Value → Shared → Prop} {key value : Int} {td tk tv : Tok}
  (XB : (Mine.K0 w.params).In base) (TB : Top p loose mean mg mb base) (B : Below A₀ base [] h₀) (F : Fr h₀ L s.heap m) (X : (Mine.K0 w.params).In h₀) (T : Top p loose mean mg mb h₀) (hk : cs.kind = .function) (R : Cw w S rest c q nx) (N : News h₀ L s.heap nx) (I : Inv S.sz S.room S.fifo c q) {v : Int} (h0 : True) (hl : aLook c key = some v) (hdp : dp + 80 < recursionLimit) (hun : un + 600 < cLine) (ret : ∀ h' tk' r vs n dl nx', Cw w S rest (stepS S.sz S.room S.fifo c q 4 key value).2.1 (stepS S.sz S.room S.fifo c q 4 key value).2.2 nx' → Fr h₀ L h' m → News h₀ L h' ((r, listOf vs.toArray n) :: (dl ++ nx')) → DatAll dl vs (stepS S.sz S.room S.fifo c q 4 key value).1 → Tups dl → Q (.ref r) { s with heap := h', toks := tk' }) :
  wpAny (model PySem.Challenge.rw_ki0005_01.row.prog w) (ktrTop dp un gd cn cs L a ccd [] []) (call (.ref 1082) [.ref S.x, .int 4 td, .int key tk, .int value tv]) Q E s := by
  have G := I.core
  have hsm := I.same
  have hroom := I.fits
  have hr0 := I.room0
  have hh : aHas c key = true := aHas_of_look hl
  have hv9 : True := trivial
  have e9 : (stepS S.sz S.room S.fifo c q 4 key value) = ([.int v], c, q) := by
    show readS c q key [.int (-7)] = _; unfold readS; rw [hl]
  rw [e9] at ret
  (refine wpAny_call ?_; k_dflt (refine' enDS0 ([(Str.ofString "value", .int value tv), (Str.ofString "key", .int key tk), (Str.ofString "deed", .int 4 td), (Str.ofString "cache", .ref S.x)]) ?k1 ?k2 ?k3 ?k4 ?k5 ?kA ?k6 ?k7 ?k8 ?k9 ?kB ?kR ?_ ?cK ?c2 ?c3 ?c4 ?c5; (case kA => exact rfl); (case k2 => k_asm); (case k1 => k_asm); (case k3 => k_asm); (case k4 => k_asm); (case k5 => k_asm); (case k6 => k_is); (case k7 => k_is); (case k8 => ktr_room); (case k9 => exact BindsTo.of_eq rfl); (case kB => exact locs rfl); (case kR => exact rfl); (case cK => first | exact rfl | assumption); (case c2 => exact rfl); (case c3 => exact rfl); (case c4 => exact rfl); (case c5 => decide); k_whole; intro g' L' h' tk' FG' F' N' B' X' T' D'; (try dsimp only); (try k_lift B'); (try k_fold)))
  (repeat' ((fail_if_success (with_reducible show wpAny _ _ (exec (Stmt.While _ _ _ _) _) _ _ _)); first | (k_unfold; (try dsimp only)) | ((with_reducible show wpAny _ _ (call _ _) _ _ _); k_invariant "r" (778, mget_ok)) | ((with_reducible show wpAny _ _ (getMethod _ _ _) _ _ _); k_invariant "lw" m_get) | walk1 | dsimp only | (leave1; try dsimp only)))
  exact ret _ _ _ _ _ [] _ (by assumption) (by assumption) (by walk_at "my news") (.cons (.int _ _) .nil) Tups.nil
set_option maxHeartbeats 2000000 in
theorem deed4_no {w : World} {p : Program} {loose : List Str} {mean : ExcName → Option Value} {mg mb : Str → Option Value} {dp un : Nat} {gd : Option (List Code)} {cn : Str} {cs : Scope} {a : Addr} {ccd : Value} {A₀ : Around} {base h₀ : Heap} {L : Addr} {m : Str → Option Value} {s : Shared} {E : Value → Shared → Prop} {S : Sh} {rest nx : Led} {c : List (Int × Int)} {q : List Int} {Q : Value → Shared → Prop} {key value : Int} {td tk tv : Tok}
  (XB : (Mine.K0 w.params).In base) (TB : Top p loose mean mg mb base) (B : Below A₀ base [] h₀) (F : Fr h₀ L s.heap m) (X : (Mine.K0 w.params).In h₀) (T : Top p loose mean mg mb h₀) (hk : cs.kind = .function) (R : Cw w S rest c q nx) (N : News h₀ L s.heap nx) (I : Inv S.sz S.room S.fifo c q) (v : Int) (h0 : True) (hh : aHas c key = false) (hdp : dp + 80 < recursionLimit) (hun : un + 600 < cLine) (ret : ∀ h' tk' r vs n dl nx', Cw w S rest (stepS S.sz S.room S.fifo c q 4 key value).2.1 (stepS S.sz S.room S.fifo c q 4 key value).2.2 nx' → Fr h₀ L h' m → News h₀ L h' ((r, listOf vs.toArray n) :: (dl ++ nx')) → DatAll dl vs (stepS S.sz S.room S.fifo c q 4 key value).1 → Tups dl → Q (.ref r) { s with heap := h', toks := tk' }) :
  wpAny (model PySem.Challenge.rw_ki0005_01.row.prog w) (ktrTop dp un gd cn cs L a ccd [] []) (call (.ref 1082) [.ref S.x, .int 4 td, .int key tk, .int value tv]) Q E s := by
  have G := I.core
  have hsm := I.same
  have hroom := I.fits
  have hr0 := I.room0
  have hn : aLook c key = none := by cases h9 : aLook c key with | none => rfl | some v => rw [aHas_of_look h9] at hh; cases hh
  have hv9 : True := trivial
  have e9 : (stepS S.sz S.room S.fifo c q 4 key value) = ([.int (-7)], c, q) := by
    show readS c q key [.int (-7)] = _; unfold readS; rw [hn]
  rw [e9] at ret
  (refine wpAny_call ?_; k_dflt (refine' enDS0 ([(Str.ofString "value", .int value tv), (Str.ofString "key", .int key tk), (Str.ofString "deed", .int 4 td), (Str.ofString "cache", .ref S.x)]) ?k1 ?k2 ?k3 ?k4 ?k5 ?kA ?k6 ?k7 ?k8 ?k9 ?kB ?kR ?_ ?cK ?c2 ?c3 ?c4 ?c5; (case kA => exact rfl); (case k2 => k_asm); (case k1 => k_asm); (case k3 => k_asm); (case k4 => k_asm); (case k5 => k_asm); (case k6 => k_is); (case k7 => k_is); (case k8 => ktr_room); (case k9 => exact BindsTo.of_eq rfl); (case kB => exact locs rfl); (case kR => exact rfl); (case cK => first | exact rfl | assumption); (case c2 => exact rfl); (case c3 => exact rfl); (case c4 => exact rfl); (case c5 => decide); k_whole; intro g' L' h' tk' FG' F' N' B' X' T' D'; (try dsimp only); (try k_lift B'); (try k_fold)))
  (repeat' ((fail_if_success (with_reducible show wpAny _ _ (exec (Stmt.While _ _ _ _) _) _ _ _)); first | (k_unfold; (try dsimp only)) | ((with_reducible show wpAny _ _ (call _ _) _ _ _); k_invariant "r" (778, mget_no)) | ((with_reducible show wpAny _ _ (getMethod _ _ _) _ _ _); k_invariant "lw" m_get) | walk1 | dsimp only | (leave1; try dsimp only)))
  exact ret _ _ _ _ _ [] _ (by assumption) (by assumption) (by walk_at "my news") (.cons (.int _ _) .nil) Tups.nil
set_option maxHeartbeats 2000000 in
theorem deed5_ok {w : World} {p : Program} {loose : List Str} {mean : ExcName → Option Value} {mg mb : Str → Option Value} {dp un : Nat} {gd : Option (List Code)} {cn : Str} {cs : Scope} {a : Addr} {ccd : Value} {A₀ : Around} {base h₀ : Heap} {L : Addr} {m : Str → Option Value} {s : Shared} {E : Value → Shared → Prop} {S : Sh} {rest nx : Led} {c : List (Int × Int)} {q : List Int} {Q : Value → Shared → Prop} {key value : Int} {td tk tv : Tok}
  (XB : (Mine.K0 w.params).In base) (TB : Top p loose mean mg mb base) (B : Below A₀ base [] h₀) (F : Fr h₀ L s.heap m) (X : (Mine.K0 w.params).In h₀) (T : Top p loose mean mg mb h₀) (hk : cs.kind = .function) (R : Cw w S rest c q nx) (N : News h₀ L s.heap nx) (I : Inv S.sz S.room S.fifo c q) {v : Int} (h0 : True) (hl : aLook c key = some v) (hdp : dp + 80 < recursionLimit) (hun : un + 600 < cLine) (ret : ∀ h' tk' r vs n dl nx', Cw w S rest (stepS S.sz S.room S.fifo c q 5 key value).2.1 (stepS S.sz S.room S.fifo c q 5 key value).2.2 nx' → Fr h₀ L h' m → News h₀ L h' ((r, listOf vs.toArray n) :: (dl ++ nx')) → DatAll dl vs (stepS S.sz S.room S.fifo c q 5 key value).1 → Tups dl → Q (.ref r) { s with heap := h', toks := tk' }) :
  wpAny (model PySem.Challenge.rw_ki0005_01.row.prog w) (ktrTop dp un gd cn cs L a ccd [] []) (call (.ref 1082) [.ref S.x, .int 5 td, .int key tk, .int value tv]) Q E s := by
  have G := I.core
  have hsm := I.same
  have hroom := I.fits
  have hr0 := I.room0
  have hh : aHas c key = true := aHas_of_look hl
  have hv9 : True := trivial
  have e9 : (stepS S.sz S.room S.fifo c q 5 key value) = ([.int v], aDel c key, qDel q key) := by
    show takeS c q key (fun v => [.int v]) [.int (-8)] = _; unfold takeS; rw [hl]
  rw [e9] at ret
  (refine wpAny_call ?_; k_dflt (refine' enDS0 ([(Str.ofString "value", .int value tv), (Str.ofString "key", .int key tk), (Str.ofString "deed", .int 5 td), (Str.ofString "cache", .ref S.x)]) ?k1 ?k2 ?k3 ?k4 ?k5 ?kA ?k6 ?k7 ?k8 ?k9 ?kB ?kR ?_ ?cK ?c2 ?c3 ?c4 ?c5; (case kA => exact rfl); (case k2 => k_asm); (case k1 => k_asm); (case k3 => k_asm); (case k4 => k_asm); (case k5 => k_asm); (case k6 => k_is); (case k7 => k_is); (case k8 => ktr_room); (case k9 => exact BindsTo.of_eq rfl); (case kB => exact locs rfl); (case kR => exact rfl); (case cK => first | exact rfl | assumption); (case c2 => exact rfl); (case c3 => exact rfl); (case c4 => exact rfl); (case c5 => decide); k_whole; intro g' L' h' tk' FG' F' N' B' X' T' D'; (try dsimp only); (try k_lift B'); (try k_fold)))
  (repeat' ((fail_if_success (with_reducible show wpAny _ _ (exec (Stmt.While _ _ _ _) _) _ _ _)); first | (k_unfold; (try dsimp only)) | ((with_reducible show wpAny _ _ (call _ _) _ _ _); k_invariant "r" (786, mpop_ok)) | ((with_reducible show wpAny _ _ (getMethod _ _ _) _ _ _); k_invariant "lw" m_pop) | walk1 | dsimp only | (leave1; try dsimp only)))
  exact ret _ _ _ _ _ [] _ (by assumption) (by assumption) (by walk_at "my news") (.cons (.int _ _) .nil) Tups.nil
set_option maxHeartbeats 2000000 in
theorem deed5_no {w : World} {p : Program} {loose : List Str} {mean : ExcName → Option Value} {mg mb : Str → Option Value} {dp un : Nat} {gd : Option (List Code)} {cn : Str} {cs : Scope} {a : Addr} {ccd : Value} {A₀ : Around} {base h₀ : Heap} {L : Addr} {m : Str → Option Value} {s : Shared} {E : Value → Shared → Prop} {S : Sh} {rest nx : Led} {c : List (Int × Int)} {q : List Int} {Q : Value → Shared → Prop} {key value : Int} {td tk tv : Tok}
  (XB : (Mine.K0 w.params).In base) (TB : Top p loose mean mg mb base) (B : Below A₀ base [] h₀) (F : Fr h₀ L s.heap m) (X : (Mine.K0 w.params).In h₀) (T : Top p loose mean mg mb h₀) (hk : cs.kind = .function) (R : Cw w S rest c q nx) (N : News h₀ L s.heap nx) (I : Inv S.sz S.room S.fifo c q) (v : Int) (h0 : True) (hh : aHas c key = false) (hdp : dp + 80 < recursionLimit) (hun : un + 600 < cLine) (ret : ∀ h' tk' r vs n dl nx', Cw w S rest (stepS S.sz S.room S.fifo c q 5 key value).2.1 (stepS S.sz S.room S.fifo c q 5 key value).2.2 nx' → Fr h₀ L h' m → News h₀ L h' ((r, listOf vs.toArray n) :: (dl ++ nx')) → DatAll dl vs (stepS S.sz S.room S.fifo c q 5 key value).1 → Tups dl → Q (.ref r) { s with heap := h', toks := tk' }) :
  wpAny (model PySem.Challenge.rw_ki0005_01.row.prog w) (ktrTop dp un gd cn cs L a ccd [] []) (call (.ref 1082) [.ref S.x, .int 5 td, .int key tk, .int value tv]) Q E s := by
  have G := I.core
  have hsm := I.same
  have hroom := I.fits
  have hr0 := I.room0
  have hn : aLook c key = none := by cases h9 : aLook c key with | none => rfl | some v => rw [aHas_of_look h9] at hh; cases hh
  have hv9 : True := trivial
  have e9 : (stepS S.sz S.room S.fifo c q 5 key value) = ([.int (-8)], c, q) := by
    show takeS c q key (fun v => [.int v]) [.int (-8)] = _; unfold takeS; rw [hn]
  rw [e9] at ret
  (refine wpAny_call ?_; k_dflt (refine' enDS0 ([(Str.ofString "value", .int value tv), (Str.ofString "key", .int key tk), (Str.ofString "deed", .int 5 td), (Str.ofString "cache", .ref S.x)]) ?k1 ?k2 ?k3 ?k4 ?k5 ?kA ?k6 ?k7 ?k8 ?k9 ?kB ?kR ?_ ?cK ?c2 ?c3 ?c4 ?c5; (case kA => exact rfl); (case k2 => k_asm); (case k1 => k_asm); (case k3 => k_asm); (case k4 => k_asm); (case k5 => k_asm); (case k6 => k_is); (case k7 => k_is); (case k8 => ktr_room); (case k9 => exact BindsTo.of_eq rfl); (case kB => exact locs rfl); (case kR => exact rfl); (case cK => first | exact rfl | assumption); (case c2 => exact rfl); (case c3 => exact rfl); (case c4 => exact rfl); (case c5 => decide); k_whole; intro g' L' h' tk' FG' F' N' B' X' T' D'; (try dsimp only); (try k_lift B'); (try k_fold)))
  (repeat' ((fail_if_success (with_reducible show wpAny _ _ (exec (Stmt.While _ _ _ _) _) _ _ _)); first | (k_unfold; (try dsimp only)) | ((with_reducible show wpAny _ _ (call _ _) _ _ _); k_invariant "r" (786, mpop_no)) | ((with_reducible show wpAny _ _ (getMethod _ _ _) _ _ _); k_invariant "lw" m_pop) | walk1 | dsimp only | (leave1; try dsimp only)))
  exact ret _ _ _ _ _ [] _ (by assumption) (by assumption) (by walk_at "my news") (.cons (.int _ _) .nil) Tups.nil
set_option maxHeartbeats 2000000 in
theorem deed6_ok {w : World} {p : Program} {loose : List Str} {mean : ExcName → Option Value} {mg mb : Str → Option Value} {dp un : Nat} {gd : Option (List Code)} {cn : Str} {cs : Scope} {a : Addr} {ccd : Value} {A₀ : Around} {base h₀ : Heap} {L : Addr} {m : Str → Option Value} {s : Shared} {E : Value → Shared → Prop} {S : Sh} {rest nx : Led} {c : List (Int × Int)} {q : List Int} {Q : Value → Shared → Prop} {key value : Int} {td tk tv : Tok}
  (XB : (Mine.K0 w.params).In base) (TB : Top p loose mean mg mb base) (B : Below A₀ base [] h₀) (F : Fr h₀ L s.heap m) (X : (Mine.K0 w.params).In h₀) (T : Top p loose mean mg mb h₀) (hk : cs.kind = .function) (R : Cw w S rest c q nx) (N : News h₀ L s.heap nx) (I : Inv S.sz S.room S.fifo c q) {v : Int} (h0 : True) (hl : aLook c key = some v) (hdp : dp + 80 < recursionLimit) (hun : un + 600 < cLine) (ret : ∀ h' tk' r vs n dl nx', Cw w S rest (stepS S.sz S.room S.fifo c q 6 key value).2.1 (stepS S.sz S.room S.fifo c q 6 key value).2.2 nx' → Fr h₀ L h' m → News h₀ L h' ((r, listOf vs.toArray n) :: (dl ++ nx')) → DatAll dl vs (stepS S.sz S.room S.fifo c q 6 key value).1 → Tups dl → Q (.ref r) { s with heap := h', toks := tk' }) :
  wpAny (model PySem.Challenge.rw_ki0005_01.row.prog w) (ktrTop dp un gd cn cs L a ccd [] []) (call (.ref 1082) [.ref S.x, .int 6 td, .int key tk, .int value tv]) Q E s := by
  have G := I.core
  have hsm := I.same
  have hroom := I.fits
  have hr0 := I.room0
  have hh : aHas c key = true := aHas_of_look hl
  have hv9 : True := trivial
  have e9 : (stepS S.sz S.room S.fifo c q 6 key value) = ([.int v], c, q) := by
    show (match aLook c key with | some v => (([Dat.int v], c, q) : Stp) | none => putS S.sz S.room S.fifo c q key value [.int value]) = _; rw [hl]
  rw [e9] at ret
  (refine wpAny_call ?_; k_dflt (refine' enDS0 ([(Str.ofString "value", .int value tv), (Str.ofString "key", .int key tk), (Str.ofString "deed", .int 6 td), (Str.ofString "cache", .ref S.x)]) ?k1 ?k2 ?k3 ?k4 ?k5 ?kA ?k6 ?k7 ?k8 ?k9 ?kB ?kR ?_ ?cK ?c2 ?c3 ?c4 ?c5; (case kA => exact rfl); (case k2 => k_asm); (case k1 => k_asm); (case k3 => k_asm); (case k4 => k_asm); (case k5 => k_asm); (case k6 => k_is); (case k7 => k_is); (case k8 => ktr_room); (case k9 => exact BindsTo.of_eq rfl); (case kB => exact locs rfl); (case kR => exact rfl); (case cK => first | exact rfl | assumption); (case c2 => exact rfl); (case c3 => exact rfl); (case c4 => exact rfl); (case c5 => decide); k_whole; intro g' L' h' tk' FG' F' N' B' X' T' D'; (try dsimp only); (try k_lift B'); (try k_fold)))
  (repeat' ((fail_if_success (with_reducible show wpAny _ _ (exec (Stmt.While _ _ _ _) _) _ _ _)); first | (k_unfold; (try dsimp only)) | ((with_reducible show wpAny _ _ (call _ _) _ _ _); k_invariant "r" (794, mdef_ok)) | ((with_reducible show wpAny _ _ (getMethod _ _ _) _ _ _); k_invariant "lw" m_def) | walk1 | dsimp only | (leave1; try dsimp only)))
  exact ret _ _ _ _ _ [] _ (by assumption) (by assumption) (by walk_at "my news") (.cons (.int _ _) .nil) Tups.nil
set_option maxHeartbeats 2000000 in
theorem deed6_set {w : World} {p : Program} {loose : List Str} {mean : ExcName → Option Value} {mg mb : Str → Option Value} {dp un : Nat} {gd : Option (List Code)} {cn : Str} {cs : Scope} {a : Addr} {ccd : Value} {A₀ : Around} {base h₀ : Heap} {L : Addr} {m : Str → Option Value} {s : Shared} {E : Value → Shared → Prop} {S : Sh} {rest nx : Led} {c : List (Int × Int)} {q : List Int} {Q : Value → Shared → Prop} {key value : Int} {td tk tv : Tok}
  (XB : (Mine.K0 w.params).In base) (TB : Top p loose mean mg mb base) (B : Below A₀ base [] h₀) (F : Fr h₀ L s.heap m) (X : (Mine.K0 w.params).In h₀) (T : Top p loose mean mg mb h₀) (hk : cs.kind = .function) (R : Cw w S rest c q nx) (N : News h₀ L s.heap nx) (I : Inv S.sz S.room S.fifo c q) (v : Int) (hh : aHas c key = false) (hf : Fits S.sz S.room value) (hdp : dp + 80 < recursionLimit) (hun : un + 600 < cLine) (ret : ∀ h' tk' r vs n dl nx', Cw w S rest (stepS S.sz S.room S.fifo c q 6 key value).2.1 (stepS S.sz S.room S.fifo c q 6 key value).2.2 nx' → Fr h₀ L h' m → News h₀ L h' ((r, listOf vs.toArray n) :: (dl ++ nx')) → DatAll dl vs (stepS S.sz S.room S.fifo c q 6 key value).1 → Tups dl → Q (.ref r) { s with heap := h', toks := tk' }) :
  wpAny (model PySem.Challenge.rw_ki0005_01.row.prog w) (ktrTop dp un gd cn cs L a ccd [] []) (call (.ref 1082) [.ref S.x, .int 6 td, .int key tk, .int value tv]) Q E s := by
  have G := I.core
  have hsm := I.same
  have hroom := I.fits
  have hr0 := I.room0
  have hn : aLook c key = none := by cases h9 : aLook c key with | none => rfl | some v => rw [aHas_of_look h9] at hh; cases hh
  have hv9 : True := trivial
  have e9 : (stepS S.sz S.room S.fifo c q 6 key value) = ([.int value], aPut (evict S.sz S.room (S.sz value) key c q).1 key value, putQ S.fifo (evict S.sz S.room (S.sz value) key c q).1 (evict S.sz S.room (S.sz value) key c q).2 key) := by
    show (match aLook c key with | some v => (([Dat.int v], c, q) : Stp) | none => putS S.sz S.room S.fifo c q key value [.int value]) = _; rw [hn]; unfold putS; rw [if_pos hf]
  rw [e9] at ret
  (refine wpAny_call ?_; k_dflt (refine' enDS0 ([(Str.ofString "value", .int value tv), (Str.ofString "key", .int key tk), (Str.ofString "deed", .int 6 td), (Str.ofString "cache", .ref S.x)]) ?k1 ?k2 ?k3 ?k4 ?k5 ?kA ?k6 ?k7 ?k8 ?k9 ?kB ?kR ?_ ?cK ?c2 ?c3 ?c4 ?c5; (case kA => exact rfl); (case k2 => k_asm); (case k1 => k_asm); (case k3 => k_asm); (case k4 => k_asm); (case k5 => k_asm); (case k6 => k_is); (case k7 => k_is); (case k8 => ktr_room); (case k9 => exact BindsTo.of_eq rfl); (case kB => exact locs rfl); (case kR => exact rfl); (case cK => first | exact rfl | assumption); (case c2 => exact rfl); (case c3 => exact rfl); (case c4 => exact rfl); (case c5 => decide); k_whole; intro g' L' h' tk' FG' F' N' B' X' T' D'; (try dsimp only); (try k_lift B'); (try k_fold)))
  (repeat' ((fail_if_success (with_reducible show wpAny _ _ (exec (Stmt.While _ _ _ _) _) _ _ _)); first | (k_unfold; (try dsimp only)) | ((with_reducible show wpAny _ _ (call _ _) _ _ _); k_invariant "r" (794, mdef_set)) | ((with_reducible show wpAny _ _ (getMethod _ _ _) _ _ _); k_invariant "lw" m_def) | walk1 | dsimp only | (leave1; try dsimp only)))
  exact ret _ _ _ _ _ [] _ (by assumption) (by assumption) (by walk_at "my news") (.cons (.int _ _) .nil) Tups.nil
set_option maxHeartbeats 2000000 in
theorem deed6_no {w : World} {p : Program} {loose : List Str} {mean : ExcName → Option Value} {mg mb : Str → Option Value} {dp un : Nat} {gd : Option (List Code)} {cn : Str} {cs : Scope} {a : Addr} {ccd : Value} {A₀ : Around} {base h₀ : Heap} {L : Addr} {m : Str → Option Value} {s : Shared} {E : Value → Shared → Prop} {S : Sh} {rest nx : Led} {c : List (Int × Int)} {q : List Int} {Q : Value → Shared → Prop} {key value : Int} {td tk tv : Tok}
  (XB : (Mine.K0 w.params).In base) (TB : Top p loose mean mg mb base) (B : Below A₀ base [] h₀) (F : Fr h₀ L s.heap m) (X : (Mine.K0 w.params).In h₀) (T : Top p loose mean mg mb h₀) (hk : cs.kind = .function) (R : Cw w S rest c q nx) (N : News h₀ L s.heap nx) (I : Inv S.sz S.room S.fifo c q) (v : Int) (hh : aHas c key = false) (hf : ¬ Fits S.sz S.room value) (hdp : dp + 80 < recursionLimit) (hun : un + 600 < cLine) (ret : ∀ h' tk' r vs n dl nx', Cw w S rest (stepS S.sz S.room S.fifo c q 6 key value).2.1 (stepS S.sz S.room S.fifo c q 6 key value).2.2 nx' → Fr h₀ L h' m → News h₀ L h' ((r, listOf vs.toArray n) :: (dl ++ nx')) → DatAll dl vs (stepS S.sz S.room S.fifo c q 6 key value).1 → Tups dl → Q (.ref r) { s with heap := h', toks := tk' }) :
  wpAny (model PySem.Challenge.rw_ki0005_01.row.prog w) (ktrTop dp un gd cn cs L a ccd [] []) (call (.ref 1082) [.ref S.x, .int 6 td, .int key tk, .int value tv]) Q E s := by
  have G := I.core
  have hsm := I.same
  have hroom := I.fits
  have hr0 := I.room0
  have hn : aLook c key = none := by cases h9 : aLook c key with | none => rfl | some v => rw [aHas_of_look h9] at hh; cases hh
  have hv9 : True := trivial
  have e9 : (stepS S.sz S.room S.fifo c q 6 key value) = (refD, c, q) := by
    show (match aLook c key with | some v => (([Dat.int v], c, q) : Stp) | none => putS S.sz S.room S.fifo c q key value [.int value]) = _; rw [hn]; unfold putS; rw [if_neg hf]
  rw [e9] at ret
  (refine wpAny_call ?_; k_dflt (refine' enDS0 ([(Str.ofString "value", .int value tv), (Str.ofString "key", .int key tk), (Str.ofString "deed", .int 6 td), (Str.ofString "cache", .ref S.x)]) ?k1 ?k2 ?k3 ?k4 ?k5 ?kA ?k6 ?k7 ?k8 ?k9 ?kB ?kR ?_ ?cK ?c2 ?c3 ?c4 ?c5; (case kA => exact rfl); (case k2 => k_asm); (case k1 => k_asm); (case k3 => k_asm); (case k4 => k_asm); (case k5 => k_asm); (case k6 => k_is); (case k7 => k_is); (case k8 => ktr_room); (case k9 => exact BindsTo.of_eq rfl); (case kB => exact locs rfl); (case kR => exact rfl); (case cK => first | exact rfl | assumption); (case c2 => exact rfl); (case c3 => exact rfl); (case c4 => exact rfl); (case c5 => decide); k_whole; intro g' L' h' tk' FG' F' N' B' X' T' D'; (try dsimp only); (try k_lift B'); (try k_fold)))
  (repeat' ((fail_if_success (with_reducible show wpAny _ _ (exec (Stmt.While _ _ _ _) _) _ _ _)); first | (k_unfold; (try dsimp only)) | ((with_reducible show wpAny _ _ (call _ _) _ _ _); k_invariant "r" (794, mdef_no)) | ((with_reducible show wpAny _ _ (getMethod _ _ _) _ _ _); k_invariant "lw" m_def) | walk1 | dsimp only | (leave1; try dsimp only)))
  exact ret _ _ _ _ _ [] _ (by assumption) (by assumption) (by walk_at "my news") (.cons (.str _ _) .nil) Tups.nil
set_option maxHeartbeats 2000000 in
theorem deed7_ok {w : World} {p : Program} {loose : List Str} {mean : ExcName → Option Value} {mg mb : Str → Option Value} {dp un : Nat} {gd : Option (List Code)} {cn : Str} {cs : Scope} {a : Addr} {ccd : Value} {A₀ : Around} {base h₀ : Heap} {L : Addr} {m : Str → Option Value} {s : Shared} {E : Value → Shared → Prop} {S : Sh} {rest nx : Led} {c : List (Int × Int)} {q : List Int} {Q : Value → Shared → Prop} {key value : Int} {td tk tv : Tok}
  (XB : (Mine.K0 w.params).In base) (TB : Top p loose mean mg mb base) (B : Below A₀ base [] h₀) (F : Fr h₀ L s.heap m) (X : (Mine.K0 w.params).In h₀) (T : Top p loose mean mg mb h₀) (hk : cs.kind = .function) (R : Cw w S rest c q nx) (N : News h₀ L s.heap nx) (I : Inv S.sz S.room S.fifo c q) {v : Int} (h0 : True) (hl : aLook c key = some v) (hdp : dp + 80 < recursionLimit) (hun : un + 600 < cLine) (ret : ∀ h' tk' r vs n dl nx', Cw w S rest (stepS S.sz S.room S.fifo c q 7 key value).2.1 (stepS S.sz S.room S.fifo c q 7 key value).2.2 nx' → Fr h₀ L h' m → News h₀ L h' ((r, listOf vs.toArray n) :: (dl ++ nx')) → DatAll dl vs (stepS S.sz S.room S.fifo c q 7 key value).1 → Tups dl → Q (.ref r) { s with heap := h', toks := tk' }) :
  wpAny (model PySem.Challenge.rw_ki0005_01.row.prog w) (ktrTop dp un gd cn cs L a ccd [] []) (call (.ref 1082) [.ref S.x, .int 7 td, .int key tk, .int value tv]) Q E s := by
  have G := I.core
  have hsm := I.same
  have hroom := I.fits
  have hr0 := I.room0
  have hh : aHas c key = true := aHas_of_look hl
  have hv9 : True := trivial
  have e9 : (stepS S.sz S.room S.fifo c q 7 key value) = ([], aDel c key, qDel q key) := by
    show takeS c q key (fun _ => []) missD = _; unfold takeS; rw [hl]
  rw [e9] at ret
  (refine wpAny_call ?_; k_dflt (refine' enDS0 ([(Str.ofString "value", .int value tv), (Str.ofString "key", .int key tk), (Str.ofString "deed", .int 7 td), (Str.ofString "cache", .ref S.x)]) ?k1 ?k2 ?k3 ?k4 ?k5 ?kA ?k6 ?k7 ?k8 ?k9 ?kB ?kR ?_ ?cK ?c2 ?c3 ?c4 ?c5; (case kA => exact rfl); (case k2 => k_asm); (case k1 => k_asm); (case k3 => k_asm); (case k4 => k_asm); (case k5 => k_asm); (case k6 => k_is); (case k7 => k_is); (case k8 => ktr_room); (case k9 => exact BindsTo.of_eq rfl); (case kB => exact locs rfl); (case kR => exact rfl); (case cK => first | exact rfl | assumption); (case c2 => exact rfl); (case c3 => exact rfl); (case c4 => exact rfl); (case c5 => decide); k_whole; intro g' L' h' tk' FG' F' N' B' X' T' D'; (try dsimp only); (try k_lift B'); (try k_fold)))
  (repeat' ((fail_if_success (with_reducible show wpAny _ _ (exec (Stmt.While _ _ _ _) _) _ _ _)); first | (k_unfold; (try dsimp only)) | ((with_reducible show wpAny _ _ (call _ _) _ _ _); k_invariant "r" ((Sh.df _), cdel_ok)) | ((with_reducible show wpAny _ _ (delItem _ _) _ _ _); k_invariant "lw" op_del) | walk1 | dsimp only | (leave1; try dsimp only)))
  exact ret _ _ _ _ _ [] _ (by assumption) (by assumption) (by walk_at "my news") .nil Tups.nil
set_option maxHeartbeats 2000000 in
theorem deed7_no {w : World} {p : Program} {loose : List Str} {mean : ExcName → Option Value} {mg mb : Str → Option Value} {dp un : Nat} {gd : Option (List Code)} {cn : Str} {cs : Scope} {a : Addr} {ccd : Value} {A₀ : Around} {base h₀ : Heap} {L : Addr} {m : Str → Option Value} {s : Shared} {E : Value → Shared → Prop} {S : Sh} {rest nx : Led} {c : List (Int × Int)} {q : List Int} {Q : Value → Shared → Prop} {key value : Int} {td tk tv : Tok}
  (XB : (Mine.K0 w.params).In base) (TB : Top p loose mean mg mb base) (B : Below A₀ base [] h₀) (F : Fr h₀ L s.heap m) (X : (Mine.K0 w.params).In h₀) (T : Top p loose mean mg mb h₀) (hk : cs.kind = .function) (R : Cw w S rest c q nx) (N : News h₀ L s.heap nx) (I : Inv S.sz S.room S.fifo c q) (v : Int) (h0 : True) (hh : aHas c key = false) (hdp : dp + 80 < recursionLimit) (hun : un + 600 < cLine) (ret : ∀ h' tk' r vs n dl nx', Cw w S rest (stepS S.sz S.room S.fifo c q 7 key value).2.1 (stepS S.sz S.room S.fifo c q 7 key value).2.2 nx' → Fr h₀ L h' m → News h₀ L h' ((r, listOf vs.toArray n) :: (dl ++ nx')) → DatAll dl vs (stepS S.sz S.room S.fifo c q 7 key value).1 → Tups dl → Q (.ref r) { s with heap := h', toks := tk' }) :
  wpAny (model PySem.Challenge.rw_ki0005_01.row.prog w) (ktrTop dp un gd cn cs L a ccd [] []) (call (.ref 1082) [.ref S.x, .int 7 td, .int key tk, .int value tv]) Q E s := by
  have G := I.core
  have hsm := I.same
  have hroom := I.fits
  have hr0 := I.room0
  have hn : aLook c key = none := by cases h9 : aLook c key with | none => rfl | some v => rw [aHas_of_look h9] at hh; cases hh
  have hv9 : True := trivial
  have e9 : (stepS S.sz S.room S.fifo c q 7 key value) = (missD, c, q) := by
    show takeS c q key (fun _ => []) missD = _; unfold takeS; rw [hn]
  rw [e9] at ret
  (refine wpAny_call ?_; k_dflt (refine' enDS0 ([(Str.ofString "value", .int value tv), (Str.ofString "key", .int key tk), (Str.ofString "deed", .int 7 td), (Str.ofString "cache", .ref S.x)]) ?k1 ?k2 ?k3 ?k4 ?k5 ?kA ?k6 ?k7 ?k8 ?k9 ?kB ?kR ?_ ?cK ?c2 ?c3 ?c4 ?c5; (case kA => exact rfl); (case k2 => k_asm); (case k1 => k_asm); (case k3 => k_asm); (case k4 => k_asm); (case k5 => k_asm); (case k6 => k_is); (case k7 => k_is); (case k8 => ktr_room); (case k9 => exact BindsTo.of_eq rfl); (case kB => exact locs rfl); (case kR => exact rfl); (case cK => first | exact rfl | assumption); (case c2 => exact rfl); (case c3 => exact rfl); (case c4 => exact rfl); (case c5 => decide); k_whole; intro g' L' h' tk' FG' F' N' B' X' T' D'; (try dsimp only); (try k_lift B'); (try k_fold)))
  (repeat' ((fail_if_success (with_reducible show wpAny _ _ (exec (Stmt.While _ _ _ _) _) _ _ _)); first | (k_unfold; (try dsimp only)) | ((with_reducible show wpAny _ _ (call _ _) _ _ _); k_invariant "r" ((Sh.df _), cdel_no)) | ((with_reducible show wpAny _ _ (delItem _ _) _ _ _); k_invariant "lw" op_del) | walk1 | dsimp only | (leave1; try dsimp only)))
  exact ret _ _ _ _ _ [] _ (by assumption) (by assumption) (by walk_at "my news") (.cons (.str _ _) .nil) Tups.nil
set_option maxHeartbeats 2000000 in
theorem deed8_ok {w : World} {p : Program} {loose : List Str} {mean : ExcName → Option Value} {mg mb : Str → Option Value} {dp un : Nat} {gd : Option (List Code)} {cn : Str} {cs : Scope} {a : Addr} {ccd : Value} {A₀ : Around} {base h₀ : Heap} {L : Addr} {m : Str → Option Value} {s : Shared} {E : Value → Shared → Prop} {S : Sh} {rest nx : Led} {c : List (Int × Int)} {q : List Int} {Q : Value → Shared → Prop} {key value : Int} {td tk tv : Tok}
  (XB : (Mine.K0 w.params).In base) (TB : Top p loose mean mg mb base) (B : Below A₀ base [] h₀) (F : Fr h₀ L s.heap m) (X : (Mine.K0 w.params).In h₀) (T : Top p loose mean mg mb h₀) (hk : cs.kind = .function) (R : Cw w S rest c q nx) (N : News h₀ L s.heap nx) (I : Inv S.sz S.room S.fifo c q) {k v : Int} {q' : List Int} (hq : q = k :: q') (hl : aLook c k = some v) (hdp : dp + 80 < recursionLimit) (hun : un + 600 < cLine) (ret : ∀ h' tk' r vs n dl nx', Cw w S rest (stepS S.sz S.room S.fifo c q 8 key value).2.1 (stepS S.sz S.room S.fifo c q 8 key value).2.2 nx' → Fr h₀ L h' m → News h₀ L h' ((r, listOf vs.toArray n) :: (dl ++ nx')) → DatAll dl vs (stepS S.sz S.room S.fifo c q 8 key value).1 → Tups dl → Q (.ref r) { s with heap := h', toks := tk' }) :
  wpAny (model PySem.Challenge.rw_ki0005_01.row.prog w) (ktrTop dp un gd cn cs L a ccd [] []) (call (.ref 1082) [.ref S.x, .int 8 td, .int key tk, .int value tv]) Q E s := by
  have G := I.core
  have hsm := I.same
  have hroom := I.fits
  have hr0 := I.room0
  subst hq
  have e9 : (stepS S.sz S.room S.fifo c (k :: q') 8 key value) = ([.tuple [.int k, .int v]], aDel c k, q') := by
    show ([Dat.tuple [.int k, .int ((aLook c k).getD 0)]], aDel c k, q') = _; rw [hl]; rfl
  rw [e9] at ret
  (refine wpAny_call ?_; k_dflt (refine' enDS0 ([(Str.ofString "value", .int value tv), (Str.ofString "key", .int key tk), (Str.ofString "deed", .int 8 td), (Str.ofString "cache", .ref S.x)]) ?k1 ?k2 ?k3 ?k4 ?k5 ?kA ?k6 ?k7 ?k8 ?k9 ?kB ?kR ?_ ?cK ?c2 ?c3 ?c4 ?c5; (case kA => exact rfl); (case k2 => k_asm); (case k1 => k_asm); (case k3 => k_asm); (case k4 => k_asm); (case k5 => k_asm); (case k6 => k_is); (case k7 => k_is); (case k8 => ktr_room); (case k9 => exact BindsTo.of_eq rfl); (case kB => exact locs rfl); (case kR => exact rfl); (case cK => first | exact rfl | assumption); (case c2 => exact rfl); (case c3 => exact rfl); (case c4 => exact rfl); (case c5 => decide); k_whole; intro g' L' h' tk' FG' F' N' B' X' T' D'; (try dsimp only); (try k_lift B'); (try k_fold)))
  (repeat' ((fail_if_success (with_reducible show wpAny _ _ (exec (Stmt.While _ _ _ _) _) _ _ _)); first | (k_unfold; (try dsimp only)) | ((with_reducible show wpAny _ _ (call _ _) _ _ _); k_invariant "r" ((Sh.pf _), cpop_ok)) | ((with_reducible show wpAny _ _ (getMethod _ _ _) _ _ _); k_invariant "lw" m_item) | ((with_reducible show wpAny _ _ (callWith _ (Value.ref (Sh.pf _)) _ _ _) _ _ _); refine callWith_K0 (by k_in) kp_pf ?_; k_whole) | walk1 | dsimp only | (leave1; try dsimp only)))
  exact ret _ _ _ _ _ [_] _ (by assumption) (by assumption) (by walk_at "my news") (.cons (.tuple (.head _) (.cons (.int _ _) (.cons (.int _ _) .nil))) .nil) (Tups.cons rfl Tups.nil)
set_option maxHeartbeats 2000000 in
theorem deed8_no {w : World} {p : Program} {loose : List Str} {mean : ExcName → Option Value} {mg mb : Str → Option Value} {dp un : Nat} {gd : Option (List Code)} {cn : Str} {cs : Scope} {a : Addr} {ccd : Value} {A₀ : Around} {base h₀ : Heap} {L : Addr} {m : Str → Option Value} {s : Shared} {E : Value → Shared → Prop} {S : Sh} {rest nx : Led} {c : List (Int × Int)} {q : List Int} {Q : Value → Shared → Prop} {key value : Int} {td tk tv : Tok}
  (XB : (Mine.K0 w.params).In base) (TB : Top p loose mean mg mb base) (B : Below A₀ base [] h₀) (F : Fr h₀ L s.heap m) (X : (Mine.K0 w.params).In h₀) (T : Top p loose mean mg mb h₀) (hk : cs.kind = .function) (R : Cw w S rest c q nx) (N : News h₀ L s.heap nx) (I : Inv S.sz S.room S.fifo c q) (v : Int) (h0 : True) (hq : q = []) (hdp : dp + 80 < recursionLimit) (hun : un + 600 < cLine) (ret : ∀ h' tk' r vs n dl nx', Cw w S rest (stepS S.sz S.room S.fifo c q 8 key value).2.1 (stepS S.sz S.room S.fifo c q 8 key value).2.2 nx' → Fr h₀ L h' m → News h₀ L h' ((r, listOf vs.toArray n) :: (dl ++ nx')) → DatAll dl vs (stepS S.sz S.room S.fifo c q 8 key value).1 → Tups dl → Q (.ref r) { s with heap := h', toks := tk' }) :
  wpAny (model PySem.Challenge.rw_ki0005_01.row.prog w) (ktrTop dp un gd cn cs L a ccd [] []) (call (.ref 1082) [.ref S.x, .int 8 td, .int key tk, .int value tv]) Q E s := by
  have G := I.core
  have hsm := I.same
  have hroom := I.fits
  have hr0 := I.room0
  have hh9 : True := trivial
  have hv9 : True := trivial
  subst hq
  have hc : c = [] := by
    cases c with
    | nil => rfl
    | cons p c => have := (G.kq p.1).mp (by rw [aHas_iff]; exact .head _); cases this
  subst hc
  have e9 : (stepS S.sz S.room S.fifo [] [] 8 key value) = (missD, [], []) := by
    rfl
  rw [e9] at ret
  (refine wpAny_call ?_; k_dflt (refine' enDS0 ([(Str.ofString "value", .int value tv), (Str.ofString "key", .int key tk), (Str.ofString "deed", .int 8 td), (Str.ofString "cache", .ref S.x)]) ?k1 ?k2 ?k3 ?k4 ?k5 ?kA ?k6 ?k7 ?k8 ?k9 ?kB ?kR ?_ ?cK ?c2 ?c3 ?c4 ?c5; (case kA => exact rfl); (case k2 => k_asm); (case k1 => k_asm); (case k3 => k_asm); (case k4 => k_asm); (case k5 => k_asm); (case k6 => k_is); (case k7 => k_is); (case k8 => ktr_room); (case k9 => exact BindsTo.of_eq rfl); (case kB => exact locs rfl); (case kR => exact rfl); (case cK => first | exact rfl | assumption); (case c2 => exact rfl); (case c3 => exact rfl); (case c4 => exact rfl); (case c5 => decide); k_whole; intro g' L' h' tk' FG' F' N' B' X' T' D'; (try dsimp only); (try k_lift B'); (try k_fold)))
  (repeat' ((fail_if_success (with_reducible show wpAny _ _ (exec (Stmt.While _ _ _ _) _) _ _ _)); first | (k_unfold; (try dsimp only)) | ((with_reducible show wpAny _ _ (call _ _) _ _ _); k_invariant "r" ((Sh.pf _), cpop_no)) | ((with_reducible show wpAny _ _ (getMethod _ _ _) _ _ _); k_invariant "lw" m_item) | ((with_reducible show wpAny _ _ (callWith _ (Value.ref (Sh.pf _)) _ _ _) _ _ _); refine callWith_K0 (by k_in) kp_pf ?_; k_whole) | walk1 | dsimp only | (leave1; try dsimp only)))
  exact ret _ _ _ _ _ [] _ (by assumption) (by assumption) (by walk_at "my news") (.cons (.str _ _) .nil) Tups.nil
set_option maxHeartbeats 2000000 in
theorem deed9_clr {w : World} {p : Program} {loose : List Str} {mean : ExcName → Option Value} {mg mb : Str → Option Value} {dp un : Nat} {gd : Option (List Code)} {cn : Str} {cs : Scope} {a : Addr} {ccd : Value} {A₀ : Around} {base h₀ : Heap} {L : Addr} {m : Str → Option Value} {s : Shared} {E : Value → Shared → Prop} {S : Sh} {rest nx : Led} {c : List (Int × Int)} {q : List Int} {Q : Value → Shared → Prop} {key value : Int} {td tk tv : Tok}
  (XB : (Mine.K0 w.params).In base) (TB : Top p loose mean mg mb base) (B : Below A₀ base [] h₀) (F : Fr h₀ L s.heap m) (X : (Mine.K0 w.params).In h₀) (T : Top p loose mean mg mb h₀) (hk : cs.kind = .function) (R : Cw w S rest c q nx) (N : News h₀ L s.heap nx) (I : Inv S.sz S.room S.fifo c q) (v : Int) (h0 : True) (hv : value.fmod 4 = 0) (hdp : dp + 80 < recursionLimit) (hun : un + 600 < cLine) (ret : ∀ h' tk' r vs n dl nx', Cw w S rest (stepS S.sz S.room S.fifo c q 9 key value).2.1 (stepS S.sz S.room S.fifo c q 9 key value).2.2 nx' → Fr h₀ L h' m → News h₀ L h' ((r, listOf vs.toArray n) :: (dl ++ nx')) → DatAll dl vs (stepS S.sz S.room S.fifo c q 9 key value).1 → Tups dl → Q (.ref r) { s with heap := h', toks := tk' }) :
  wpAny (model PySem.Challenge.rw_ki0005_01.row.prog w) (ktrTop dp un gd cn cs L a ccd [] []) (call (.ref 1082) [.ref S.x, .int 9 td, .int key tk, .int value tv]) Q E s := by
  have G := I.core
  have hsm := I.same
  have hroom := I.fits
  have hr0 := I.room0
  have hh9 : True := trivial
  have hv9 : (value.fmod 4 == 0) = true := beq_iff_eq.mpr hv
  have e9 : (stepS S.sz S.room S.fifo c q 9 key value) = ([], [], []) := by
    show (if value.fmod 4 = 0 then (([], [], []) : Stp) else _) = _; rw [if_pos hv]
  rw [e9] at ret
  (refine wpAny_call ?_; k_dflt (refine' enDS0 ([(Str.ofString "value", .int value tv), (Str.ofString "key", .int key tk), (Str.ofString "deed", .int 9 td), (Str.ofString "cache", .ref S.x)]) ?k1 ?k2 ?k3 ?k4 ?k5 ?kA ?k6 ?k7 ?k8 ?k9 ?kB ?kR ?_ ?cK ?c2 ?c3 ?c4 ?c5; (case kA => exact rfl); (case k2 => k_asm); (case k1 => k_asm); (case k3 => k_asm); (case k4 => k_asm); (case k5 => k_asm); (case k6 => k_is); (case k7 => k_is); (case k8 => ktr_room); (case k9 => exact BindsTo.of_eq rfl); (case kB => exact locs rfl); (case kR => exact rfl); (case cK => first | exact rfl | assumption); (case c2 => exact rfl); (case c3 => exact rfl); (case c4 => exact rfl); (case c5 => decide); k_whole; intro g' L' h' tk' FG' F' N' B' X' T' D'; (try dsimp only); (try k_lift B'); (try k_fold)))
  (repeat' ((fail_if_success (with_reducible show wpAny _ _ (exec (Stmt.While _ _ _ _) _) _ _ _)); first | (k_unfold; (try dsimp only)) | ((with_reducible show wpAny _ _ (call _ _) _ _ _); k_invariant "r" ((Sh.cf _), cclr)) | ((with_reducible show wpAny _ _ (getMethod _ _ _) _ _ _); k_invariant "lw" m_clr) | ((with_reducible show wpAny _ _ (callWith _ (Value.ref (Sh.cf _)) _ _ _) _ _ _); refine callWith_K0 (by k_in) kp_cf ?_; k_whole) | walk1 | dsimp only | (leave1; try dsimp only)))
  exact ret _ _ _ _ _ [] _ (by assumption) (by assumption) (by walk_at "my news") .nil Tups.nil
set_option maxHeartbeats 2000000 in
theorem deed9_ok {w : World} {p : Program} {loose : List Str} {mean : ExcName → Option Value} {mg mb : Str → Option Value} {dp un : Nat} {gd : Option (List Code)} {cn : Str} {cs : Scope} {a : Addr} {ccd : Value} {A₀ : Around} {base h₀ : Heap} {L : Addr} {m : Str → Option Value} {s : Shared} {E : Value → Shared → Prop} {S : Sh} {rest nx : Led} {c : List (Int × Int)} {q : List Int} {Q : Value → Shared → Prop} {key value : Int} {td tk tv : Tok}
  (XB : (Mine.K0 w.params).In base) (TB : Top p loose mean mg mb base) (B : Below A₀ base [] h₀) (F : Fr h₀ L s.heap m) (X : (Mine.K0 w.params).In h₀) (T : Top p loose mean mg mb h₀) (hk : cs.kind = .function) (R : Cw w S rest c q nx) (N : News h₀ L s.heap nx) (I : Inv S.sz S.room S.fifo c q) {v : Int} (hv : ¬ value.fmod 4 = 0) (hl : aLook c key = some v) (hdp : dp + 80 < recursionLimit) (hun : un + 600 < cLine) (ret : ∀ h' tk' r vs n dl nx', Cw w S rest (stepS S.sz S.room S.fifo c q 9 key value).2.1 (stepS S.sz S.room S.fifo c q 9 key value).2.2 nx' → Fr h₀ L h' m → News h₀ L h' ((r, listOf vs.toArray n) :: (dl ++ nx')) → DatAll dl vs (stepS S.sz S.room S.fifo c q 9 key value).1 → Tups dl → Q (.ref r) { s with heap := h', toks := tk' }) :
  wpAny (model PySem.Challenge.rw_ki0005_01.row.prog w) (ktrTop dp un gd cn cs L a ccd [] []) (call (.ref 1082) [.ref S.x, .int 9 td, .int key tk, .int value tv]) Q E s := by
  have G := I.core
  have hsm := I.same
  have hroom := I.fits
  have hr0 := I.room0
  have hh : aHas c key = true := aHas_of_look hl
  have hv9 : (value.fmod 4 == 0) = false := beq_eq_false_iff_ne.mpr hv
  have e9 : (stepS S.sz S.room S.fifo c q 9 key value) = ([.int v], aDel c key, qDel q key) := by
    show (if value.fmod 4 = 0 then (([], [], []) : Stp) else takeS c q key (fun v => [.int v]) missD) = _; rw [if_neg hv]; unfold takeS; rw [hl]
  rw [e9] at ret
  (refine wpAny_call ?_; k_dflt (refine' enDS0 ([(Str.ofString "value", .int value tv), (Str.ofString "key", .int key tk), (Str.ofString "deed", .int 9 td), (Str.ofString "cache", .ref S.x)]) ?k1 ?k2 ?k3 ?k4 ?k5 ?kA ?k6 ?k7 ?k8 ?k9 ?kB ?kR ?_ ?cK ?c2 ?c3 ?c4 ?c5; (case kA => exact rfl); (case k2 => k_asm); (case k1 => k_asm); (case k3 => k_asm); (case k4 => k_asm); (case k5 => k_asm); (case k6 => k_is); (case k7 => k_is); (case k8 => ktr_room); (case k9 => exact BindsTo.of_eq rfl); (case kB => exact locs rfl); (case kR => exact rfl); (case cK => first | exact rfl | assumption); (case c2 => exact rfl); (case c3 => exact rfl); (case c4 => exact rfl); (case c5 => decide); k_whole; intro g' L' h' tk' FG' F' N' B' X' T' D'; (try dsimp only); (try k_lift B'); (try k_fold)))
  (repeat' ((fail_if_success (with_reducible show wpAny _ _ (exec (Stmt.While _ _ _ _) _) _ _ _)); first | (k_unfold; (try dsimp only)) | ((with_reducible show wpAny _ _ (call _ _) _ _ _); k_invariant "r" (786, mpo1_ok)) | ((with_reducible show wpAny _ _ (getMethod _ _ _) _ _ _); k_invariant "lw" m_pop) | walk1 | dsimp only | (leave1; try dsimp only)))
  exact ret _ _ _ _ _ [] _ (by assumption) (by assumption) (by walk_at "my news") (.cons (.int _ _) .nil) Tups.nil
set_option maxHeartbeats 2000000 in
theorem deed9_no {w : World} {p : Program} {loose : List Str} {mean : ExcName → Option Value} {mg mb : Str → Option Value} {dp un : Nat} {gd : Option (List Code)} {cn : Str} {cs : Scope} {a : Addr} {ccd : Value} {A₀ : Around} {base h₀ : Heap} {L : Addr} {m : Str → Option Value} {s : Shared} {E : Value → Shared → Prop} {S : Sh} {rest nx : Led} {c : List (Int × Int)} {q : List Int} {Q : Value → Shared → Prop} {key value : Int} {td tk tv : Tok}
  (XB : (Mine.K0 w.params).In base) (TB : Top p loose mean mg mb base) (B : Below A₀ base [] h₀) (F : Fr h₀ L s.heap m) (X : (Mine.K0 w.params).In h₀) (T : Top p loose mean mg mb h₀) (hk : cs.kind = .function) (R : Cw w S rest c q nx) (N : News h₀ L s.heap nx) (I : Inv S.sz S.room S.fifo c q) (v : Int) (hv : ¬ value.fmod 4 = 0) (hh : aHas c key = false) (hdp : dp + 80 < recursionLimit) (hun : un + 600 < cLine) (ret : ∀ h' tk' r vs n dl nx', Cw w S rest (stepS S.sz S.room S.fifo c q 9 key value).2.1 (stepS S.sz S.room S.fifo c q 9 key value).2.2 nx' → Fr h₀ L h' m → News h₀ L h' ((r, listOf vs.toArray n) :: (dl ++ nx')) → DatAll dl vs (stepS S.sz S.room S.fifo c q 9 key value).1 → Tups dl → Q (.ref r) { s with heap := h', toks := tk' }) :
  wpAny (model PySem.Challenge.rw_ki0005_01.row.prog w) (ktrTop dp un gd cn cs L a ccd [] []) (call (.ref 1082) [.ref S.x, .int 9 td, .int key tk, .int value tv]) Q E s := by
  have G := I.core
  have hsm := I.same
  have hroom := I.fits
  have hr0 := I.room0
  have hn : aLook c key = none := by cases h9 : aLook c key with | none => rfl | some v => rw [aHas_of_look h9] at hh; cases hh
  have hv9 : (value.fmod 4 == 0) = false := beq_eq_false_iff_ne.mpr hv
  have e9 : (stepS S.sz S.room S.fifo c q 9 key value) = (missD, c, q) := by
    show (if value.fmod 4 = 0 then (([], [], []) : Stp) else takeS c q key (fun v => [.int v]) missD) = _; rw [if_neg hv]; unfold takeS; rw [hn]
  rw [e9] at ret
  (refine wpAny_call ?_; k_dflt (refine' enDS0 ([(Str.ofString "value", .int value tv), (Str.ofString "key", .int key tk), (Str.ofString "deed", .int 9 td), (Str.ofString "cache", .ref S.x)]) ?k1 ?k2 ?k3 ?k4 ?k5 ?kA ?k6 ?k7 ?k8 ?k9 ?kB ?kR ?_ ?cK ?c2 ?c3 ?c4 ?c5; (case kA => exact rfl); (case k2 => k_asm); (case k1 => k_asm); (case k3 => k_asm); (case k4 => k_asm); (case k5 => k_asm); (case k6 => k_is); (case k7 => k_is); (case k8 => ktr_room); (case k9 => exact BindsTo.of_eq rfl); (case kB => exact locs rfl); (case kR => exact rfl); (case cK => first | exact rfl | assumption); (case c2 => exact rfl); (case c3 => exact rfl); (case c4 => exact rfl); (case c5 => decide); k_whole; intro g' L' h' tk' FG' F' N' B' X' T' D'; (try dsimp only); (try k_lift B'); (try k_fold)))
  (repeat' ((fail_if_success (with_reducible show wpAny _ _ (exec (Stmt.While _ _ _ _) _) _ _ _)); first | (k_unfold; (try dsimp only)) | ((with_reducible show wpAny _ _ (call _ _) _ _ _); k_invariant "r" (786, mpo1_no)) | ((with_reducible show wpAny _ _ (getMethod _ _ _) _ _ _); k_invariant "lw" m_pop) | walk1 | dsimp only | (leave1; try dsimp only)))
  exact ret _ _ _ _ _ [] _ (by assumption) (by assumption) (by walk_at "my news") (.cons (.str _ _) .nil) Tups.nil
-- EnC
section
variable {prog : Program} {w : World} {A₀ A : Around} {s : Shared} {base h₀ : Heap} {outer : List Env} {L : Addr} {m : Str → Option Value} {news : Led} {K : Frag} {p : Program} {loose : List Str} {mean : ExcName → Option Value} {mg mb : Str → Option Value}
  {R : Result → Shared → Prop} {name qual : Str} {params : Arguments} {body : List Stmt} {scope : Scope} {dV kV doc pm cdv ct oc : Value} {an od : Option Addr} {osl : Array (Option Value)} {f : Addr} {args : Args} {binds : List (Str × Value)} {env : Env}
/-- a call of a def with cells -/
theorem enDC (mm mc : Str → Option Value) (B : Below A₀ base outer h₀) (F : Fr h₀ L s.heap m) (X₀ : K.In h₀) (N : News h₀ L s.heap news) (T : Top p loose mean mg mb h₀) (hA : A.frames = some (env :: outer)) (hf : env.frame = some L) (hke : env.scope.kind = .function)
    (ho : K.lookup f = some ⟨oc, od, .func (fnOf name qual params body scope dV kV doc pm an cdv ct), osl⟩) (hcd : codeIn K cdv qual = true) (hroom : A.depth < recursionLimit)
    (hbind : BindsTo s (fnOf name qual params body scope dV kV doc pm an cdv ct) args binds) (hkind : (binds.all fun y => scope.names.lookup y.1 == some .local || scope.names.lookup y.1 == some .cell) = true)
    (hnd : ((cellsFrom 0 scope.names []).map (·.1)).Nodup) (hmm : ∀ L', bindL (envOfC qual scope L' f cdv).kindOf binds (fun _ => none) = mm) (hmc : ∀ L', bindC (envOfC qual scope L' f cdv).kindOf binds (fun _ => none) = mc)
    (h : ∀ g L' h₁ tk cells, Fr h₀ L g m → Fr g L' h₁ mm → News g L' h₁ (cells ++ news) → CellsAre mc (cellsFrom (L' + 1) scope.names []) cells → Below A base (env :: outer) g → K.In g → Top p loose mean mg mb g → (∀ p ∈ news, p.1 < L') →
      wpAny (model prog w) (A.deeper (envOfC qual scope L' f cdv)) (execs body (envOfC qual scope L' f cdv))
        (fun fl s' => LeaveK h₀ L m g R (match fl with | .ret v => v | _ => .none) s')
        (fun e s' => wpAny (model prog w) (A.deeper (envOfC qual scope L' f cdv)) (leaving (envOfC qual scope L' f cdv) e) (fun _ s'' => R (.error e) s'') (fun e' s'' => R (.error e') s'') s')
        { s with heap := h₁, toks := tk })
    (hco : scope.isCoroutine = false) (hgen : scope.isGenerator = false) (hk : scope.kind = .function) : codeAny (model prog w) A (.call (.ref f) args) R s :=
  code_defC B F X₀ N T hA hf hke ho hcd hroom hbind hkind hnd (fun g L' h₁ tk cells FG F' N' Y B' X' T' l => h g L' h₁ tk cells FG (hmm L' ▸ F') N' (hmc L' ▸ Y) B' X' T' l) hco hgen hk
end
-- Cp
/-! comprehensions over a list of unknown length -/
open LCg LCt
section
variable {prog : Program} {w : World} {A : Around} {h₀ : Heap} {L : Addr} {m : Str → Option Value} {env : Env} {ct elt : PySem.Expr} {x : Str} {scope : Scope} {cl : List (Str × Addr)} {s : Shared} {S : Led → Prop} {P : Nat → Value → Prop} {Fin : List Value → Led → Prop} {n : Nat}
theorem compEnd_mono {s₁ : Shared} {I C D : Addr} {oI oC oD : Obj} {r r' : Value → Led → Prop} {y : Value} {s₂ : Shared} (h : CompEnd h₀ L m s₁ I oI C oC D oD S r y s₂) (k : ∀ nx, r y nx → r' y nx) : CompEnd h₀ L m s₁ I oI C oC D oD S r' y s₂ := by
  refine Classical.byContradiction fun hn9 => ?_
  obtain ⟨h', tk, nx, e, F, N, off, hS, hr⟩ := h
  refine hn9 ?_; clear hn9
  exact ⟨h', tk, nx, e, F, N, off, hS, k _ hr⟩
theorem comp_T_all (Inv : Nat → List Value → Led → Prop)
    (step : ∀ i v ys news I oI C oC D m₂ h tk (E' : Value → Shared → Prop), i < n → P i v → Inv i ys news → NsObj oC m₂ → m₂ x = some v → Fr h₀ L h m → News h₀ L h ((I, oI) :: (C, oC) :: (D, lst ys) :: news) → Off3 I C D news → ((@Ne Nat I C) ∧ (@Ne Nat I D) ∧ (@Ne Nat C D)) →
      wpAny (model prog w) A (isTrue ct (compEnvC scope cl C env) (eval ct (compEnvC scope cl C env))) (fun ok s' => if ok = true then
        wpAny (model prog w) A (eval elt (compEnvC scope cl C env)) (CompEnd h₀ L m { s with heap := h, toks := tk } I oI C oC D (lst ys) S (fun y news' => Inv (i + 1) (ys ++ [y]) news')) E' s'
        else CompEnd h₀ L m { s with heap := h, toks := tk } I oI C oC D (lst ys) S (fun _ news' => Inv (i + 1) ys news') Value.none s') E' { s with heap := h, toks := tk })
    (fin : ∀ ys news, Inv n ys news → Fin ys news) : ∀ k i ys news, i + k = n → Inv i ys news → CompRestT prog w A h₀ L m env ct elt x scope cl s S P Fin k i ys news := by
  intro k
  induction k with
  | zero => intro i ys news e hI; rw [Nat.add_zero] at e; subst e; exact fin _ _ hI
  | succ k ih =>
    intro i ys news e hI
    refine CompRestT.succ fun v I oI C oC D m₂ h tk E' hv hC hx F N off ne => ?_
    refine wpAny_mono (step i v ys news I oI C oC D m₂ h tk E' (ctA e) hv hI hC hx F N off ne) (fun ok s' p => ?_) fun _ _ z => z
    cases ok with
    | true =>
      simp only [if_true] at p ⊢
      exact wpAny_mono p (fun y s₂ q => compEnd_mono q fun nx hr => ih _ _ _ (ctB e) hr) fun _ _ z => z
    | false =>
      simp only [Bool.false_eq_true, if_false] at p ⊢
      exact compEnd_mono p fun nx hr => ih _ _ _ (ctB e) hr
theorem comp_T_same {news₀ : Led} (Inv : Nat → List Value → Prop)
    (step : ∀ i v ys I oI C oC D m₂ h tk (E' : Value → Shared → Prop), i < n → P i v → Inv i ys → NsObj oC m₂ → m₂ x = some v → Fr h₀ L h m → News h₀ L h ((I, oI) :: (C, oC) :: (D, lst ys) :: news₀) → Off3 I C D news₀ → ((@Ne Nat I C) ∧ (@Ne Nat I D) ∧ (@Ne Nat C D)) →
      wpAny (model prog w) A (isTrue ct (compEnvC scope cl C env) (eval ct (compEnvC scope cl C env))) (fun ok s' => if ok = true then
        wpAny (model prog w) A (eval elt (compEnvC scope cl C env)) (CompEnd h₀ L m { s with heap := h, toks := tk } I oI C oC D (lst ys) S (fun y news' => news' = news₀ ∧ Inv (i + 1) (ys ++ [y]))) E' s'
        else CompEnd h₀ L m { s with heap := h, toks := tk } I oI C oC D (lst ys) S (fun _ news' => news' = news₀ ∧ Inv (i + 1) ys) Value.none s') E' { s with heap := h, toks := tk })
    (fin : ∀ ys, Inv n ys → Fin ys news₀) (h0 : Inv 0 []) : CompRestT prog w A h₀ L m env ct elt x scope cl s S P Fin n 0 [] news₀ := by
  refine comp_T_all (fun i ys nx => nx = news₀ ∧ Inv i ys) ?_ (fun ys nx h => ?_) n 0 [] news₀ (Nat.zero_add n) ⟨rfl, h0⟩
  · rintro i v ys nx I oI C oC D m₂ h tk E' hi hv ⟨rfl, hI⟩ hC hx F N off ne
    exact step i v ys I oI C oC D m₂ h tk E' hi hv hI hC hx F N off ne
  · obtain ⟨rfl, h⟩ := h
    exact fin ys h
theorem comp_U_all (Inv : Nat → List Value → Led → Prop)
    (step : ∀ i v ys news I oI C oC D m₂ h tk (E' : Value → Shared → Prop), i < n → P i v → Inv i ys news → NsObj oC m₂ → m₂ x = some v → Fr h₀ L h m → News h₀ L h ((I, oI) :: (C, oC) :: (D, lst ys) :: news) → Off3 I C D news → ((@Ne Nat I C) ∧ (@Ne Nat I D) ∧ (@Ne Nat C D)) →
      wpAny (model prog w) A (eval elt (compEnvC scope cl C env)) (CompEnd h₀ L m { s with heap := h, toks := tk } I oI C oC D (lst ys) S (fun y news' => Inv (i + 1) (ys ++ [y]) news')) E' { s with heap := h, toks := tk })
    (fin : ∀ ys news, Inv n ys news → Fin ys news) : ∀ k i ys news, i + k = n → Inv i ys news → CompRest prog w A h₀ L m env elt x scope cl s S P Fin k i ys news := by
  intro k
  induction k with
  | zero => intro i ys news e hI; rw [Nat.add_zero] at e; subst e; exact fin _ _ hI
  | succ k ih =>
    intro i ys news e hI
    refine CompRest.succ fun v I oI C oC D m₂ h tk E' hv hC hx F N off ne => ?_
    exact wpAny_mono (step i v ys news I oI C oC D m₂ h tk E' (ctA e) hv hI hC hx F N off ne) (fun y s₂ q => compEnd_mono q fun nx hr => ih _ _ _ (ctB e) hr) fun _ _ z => z
end
section
variable {prog : Program} {w : World} {A : Around} {h₀ : Heap} {L : Addr} {m : Str → Option Value} {env : Env} {elt : PySem.Expr} {x : Str} {scope : Scope} {cl : List (Str × Addr)} {s : Shared} {S : Led → Prop} {P : Nat → Value → Prop} {Fin : List Value → Led → Prop} {n : Nat}
theorem comp_U_same {news₀ : Led} (Inv : Nat → List Value → Prop)
    (step : ∀ i v ys I oI C oC D m₂ h tk (E' : Value → Shared → Prop), i < n → P i v → Inv i ys → NsObj oC m₂ → m₂ x = some v → Fr h₀ L h m → News h₀ L h ((I, oI) :: (C, oC) :: (D, lst ys) :: news₀) → Off3 I C D news₀ → ((@Ne Nat I C) ∧ (@Ne Nat I D) ∧ (@Ne Nat C D)) →
      wpAny (model prog w) A (eval elt (compEnvC scope cl C env)) (CompEnd h₀ L m { s with heap := h, toks := tk } I oI C oC D (lst ys) S (fun y news' => news' = news₀ ∧ Inv (i + 1) (ys ++ [y]))) E' { s with heap := h, toks := tk })
    (fin : ∀ ys, Inv n ys → Fin ys news₀) (h0 : Inv 0 []) : CompRest prog w A h₀ L m env elt x scope cl s S P Fin n 0 [] news₀ := by
  refine comp_U_all (fun i ys nx => nx = news₀ ∧ Inv i ys) ?_ (fun ys nx h => ?_) n 0 [] news₀ (Nat.zero_add n) ⟨rfl, h0⟩
  · rintro i v ys nx I oI C oC D m₂ h tk E' hi hv ⟨rfl, hI⟩ hC hx F N off ne
    exact step i v ys I oI C oC D m₂ h tk E' hi hv hI hC hx F N off ne
  · obtain ⟨rfl, h⟩ := h
    exact fin ys h
end
section
variable {prog : Program} {w : World} {A : Around} {h₀ : Heap} {L : Addr} {m : Str → Option Value} {env : Env} {elt : PySem.Expr} {x : Str} {scope : Scope} {cl : List (Str × Addr)} {s : Shared} {S : Led → Prop} {P : Nat → Value → Prop} {Fin : List Value → Led → Prop} {n : Nat}
theorem comp_U_grow {news₀ : Led} (Inv : Nat → List Value → Led → Prop)
    (step : ∀ i v ys d I oI C oC D m₂ h tk (E' : Value → Shared → Prop), i < n → P i v → Inv i ys d → NsObj oC m₂ → m₂ x = some v → Fr h₀ L h m → News h₀ L h ((I, oI) :: (C, oC) :: (D, lst ys) :: (news₀ ++ d)) → Off3 I C D (news₀ ++ d) → ((@Ne Nat I C) ∧ (@Ne Nat I D) ∧ (@Ne Nat C D)) →
      wpAny (model prog w) A (eval elt (compEnvC scope cl C env)) (CompEnd h₀ L m { s with heap := h, toks := tk } I oI C oC D (lst ys) S (fun y news' => ∃ d', news' = news₀ ++ d' ∧ Inv (i + 1) (ys ++ [y]) d')) E' { s with heap := h, toks := tk })
    (fin : ∀ ys d, Inv n ys d → Fin ys (news₀ ++ d)) (h0 : Inv 0 [] []) : CompRest prog w A h₀ L m env elt x scope cl s S P Fin n 0 [] news₀ := by
  refine comp_U_all (fun i ys nx => ∃ d, nx = news₀ ++ d ∧ Inv i ys d) ?_ (fun ys nx h => ?_) n 0 [] news₀ (Nat.zero_add n) ⟨[], by rw [List.append_nil], h0⟩
  · rintro i v ys nx I oI C oC D m₂ h tk E' hi hv ⟨d, rfl, hI⟩ hC hx F N off ne
    exact step i v ys d I oI C oC D m₂ h tk E' hi hv hI hC hx F N off ne
  · obtain ⟨d, rfl, h⟩ := h
    exact fin ys d h
end
theorem ints_snoc {vs : List Value} {ns : List Int} {n : Int} {t : Tok} (h : IntsAre vs ns) : IntsAre (vs ++ [.int n t]) (ns ++ [n]) := by
  induction h with
  | nil => exact .cons _ _ .nil
  | cons k u _ ih => exact .cons k u ih
theorem map_next {α β : Type} {f : α → β} {c : List α} {i : Nat} {p : α} (h : c[i]? = some p) : (c.take (i + 1)).map f = (c.take i).map f ++ [f p] := by
  rw [List.take_add_one, h, List.map_append]; rfl
/-- a list of pairs, as data -/
noncomputable def pD (c : List (Int × Int)) : List Dat := c.map fun p => .tuple [.int p.1, .int p.2]
noncomputable def qD (q : List Int) : List Dat := q.map fun k => .int k
theorem pD_get {news : Led} {vs : List Value} {c : List (Int × Int)} (h : DatAll news vs (pD c)) {i : Nat} {v : Value} (hv : vs[i]? = some v) : ∃ k x r ta tb n, c[i]? = some (k, x) ∧ v = .ref r ∧ (r, pairO k x ta tb n) ∈ news := by
  have hl := h.length
  have hi : i < (pD c).length := by rw [← hl]; exact (List.getElem?_eq_some_iff.mp hv).1
  obtain ⟨v', hv', hd⟩ := h.get hi
  rw [hv] at hv'
  cases hv'
  have hi' : i < c.length := by unfold pD at hi; rwa [List.length_map] at hi
  have e : (pD c)[i] = .tuple [.int c[i].1, .int c[i].2] := by simp [pD]
  rw [e] at hd
  refine Classical.byContradiction fun hn9 => ?_
  obtain ⟨r, v1, v2, n, rfl, hm, h1, h2⟩ := two_inv hd
  refine hn9 ?_; clear hn9
  obtain ⟨t1, rfl⟩ := int_inv h1
  obtain ⟨t2, rfl⟩ := int_inv h2
  exact ⟨_, _, _, _, _, _, by rw [List.getElem?_eq_getElem hi'], rfl, hm⟩
theorem pD_one {news : Led} {k x : Int} {r : Addr} {ta tb : Tok} {n : Nat} (h : (r, pairO k x ta tb n) ∈ news) : DatAll news [.ref r] (pD [(k, x)]) := .cons (.tuple h (.cons (.int _ _) (.cons (.int _ _) .nil))) .nil
theorem pD_append {c d : List (Int × Int)} : pD (c ++ d) = pD c ++ pD d := by unfold pD; rw [List.map_append]
theorem aDel_append {c d : List (Int × Int)} {key : Int} : aDel (c ++ d) key = aDel c key ++ aDel d key := by unfold aDel; rw [List.filter_append]
theorem pD_snoc {news : Led} {ys : List Value} {c : List (Int × Int)} {i : Nat} {key k x : Int} {r : Addr} {ta tb : Tok} {n : Nat} (hI : DatAll news ys (pD (aDel (c.take i) key))) (hc : c[i]? = some (k, x)) (hr : (r, pairO k x ta tb n) ∈ news) (hk : ¬ k = key) :
    DatAll news (ys ++ [.ref r]) (pD (aDel (c.take (i + 1)) key)) := by
  rw [List.take_add_one, hc, aDel_append, show aDel (some (k, x)).toList key = [(k, x)] by rw [Option.toList, aDel_cons, if_neg hk]; rfl, pD_append]
  exact hI.append (pD_one hr)
theorem pD_skip {news : Led} {ys : List Value} {c : List (Int × Int)} {i : Nat} {key k x : Int} (hI : DatAll news ys (pD (aDel (c.take i) key))) (hc : c[i]? = some (k, x)) (hk : k = key) :
    DatAll news ys (pD (aDel (c.take (i + 1)) key)) := by
  rw [List.take_add_one, hc, aDel_append, show aDel (some (k, x)).toList key = [] by rw [Option.toList, aDel_cons, if_pos hk]; rfl, List.append_nil]
  exact hI
theorem aLook_at {c : List (Int × Int)} {i : Nat} {key k x : Int} (h : aHas (c.take i) key = false) (hc : c[i]? = some (k, x)) (hk : k = key) : aLook c key = some x := by
  induction c generalizing i with
  | nil => cases hc
  | cons p c ih =>
    obtain ⟨j, v⟩ := p
    rw [aLook_cons]
    cases i with
    | zero =>
      cases hc
      rw [if_pos hk]
    | succ i =>
      rw [List.take_succ_cons, aHas_cons, Bool.or_eq_false_iff] at h
      rw [if_neg (of_decide_eq_false h.1)]
      exact ih h.2 hc
theorem aHas_next {c : List (Int × Int)} {i : Nat} {key k x : Int} (h : aHas (c.take i) key = false) (hc : c[i]? = some (k, x)) (hk : ¬ k = key) : aHas (c.take (i + 1)) key = false := by
  rw [List.take_add_one, hc]
  unfold aHas at h ⊢
  rw [List.any_append, h]
  simp [hk]
theorem aLook_none_of {c : List (Int × Int)} {key : Int} (h : aHas c key = false) : aLook c key = none := by
  rw [← aLook_has] at h
  cases q : aLook c key with
  | none => rfl
  | some v => rw [q] at h; cases h
theorem pD_len {c : List (Int × Int)} : (pD c).length = c.length := by unfold pD; rw [List.length_map]
theorem pD_size {news : Led} {vs : List Value} {c : List (Int × Int)} (h : DatAll news vs (pD c)) (hc : c.length ≤ 5) : vs.toArray.size ≤ sizeLine := by
  rw [List.size_toArray, h.length, pD_len]; exact dr_size (le5 (by assumption) (by rfl))
theorem qD_size {news : Led} {vs : List Value} {q : List Int} (h : DatAll news vs (qD q)) (hq : q.length ≤ 5) : vs.toArray.size ≤ sizeLine := by
  rw [List.size_toArray, h.length]; unfold qD; rw [List.length_map]; exact dr_size (le5 (by assumption) (by rfl))
-- It
/-! for over a list of the ledger; the turns may change the ledger as they like -/
noncomputable def AnyEnd (h₀ : Heap) (L I : Addr) (oI : Obj) (J : (Str → Option Value) → Led → Prop) (s₁ s₂ : Shared) : Prop :=
  ∃ h' tk m' nx', s₂ = { s₁ with heap := h', toks := tk } ∧ Fr h₀ L h' m' ∧ News h₀ L h' ((I, oI) :: nx') ∧ (∀ p ∈ nx', p.1 ≠ I) ∧ J m' nx'
noncomputable def AnyPost (h₀ : Heap) (L I : Addr) (oI : Obj) (J : (Str → Option Value) → Led → Prop) (s₁ : Shared) (Q : Flow → Shared → Prop) (f : Flow) (s₂ : Shared) : Prop :=
  match f with
  | .ret v => Q (.ret v) s₂
  | .brk => Q .next s₂
  | .next => AnyEnd h₀ L I oI J s₁ s₂
  | .cont => AnyEnd h₀ L I oI J s₁ s₂
theorem AnyEnd.intro {h₀ : Heap} {L I : Addr} {oI : Obj} {J : (Str → Option Value) → Led → Prop} {s₁ : Shared} {h' : Heap} {tk : Nat} {m' : Str → Option Value} (nx' : Led) (F : Fr h₀ L h' m') (N : News h₀ L h' ((I, oI) :: nx')) (hc : ∀ p ∈ nx', p.1 ≠ I) (hJ : J m' nx') :
    AnyEnd h₀ L I oI J s₁ { s₁ with heap := h', toks := tk } := ⟨h', tk, m', nx', rfl, F, N, hc, hJ⟩
section
variable {prog : Program} {w : World} {A : Around} {E : Value → Shared → Prop} {s : Shared} {env : Env} {h₀ : Heap} {x : Str} {body : List Stmt} {Q : Flow → Shared → Prop}
theorem iter_any {l : Addr} {vs : List Value} {nn : Nat} {m₀ : Str → Option Value} {news : Led} (J : Nat → (Str → Option Value) → Led → Prop)
    (hh : A.handled = none) (hl : (l, listOf vs.toArray nn) ∈ news) (F : Fr h₀ env.locals s.heap m₀) (N : News h₀ env.locals s.heap news) (hj : J 0 m₀ news) (hJl : ∀ i m nx, J i m nx → (l, listOf vs.toArray nn) ∈ nx)
    (turn : ∀ i v m₁ nx h tk I oI, vs[i]? = some v → J i m₁ nx → oI.cls = .type "list_iterator" → (∀ p ∈ nx, p.1 ≠ I) → Fr h₀ env.locals h (fun y => if y = x then some v else m₁ y) → News h₀ env.locals h ((I, oI) :: nx) →
      wpAny (model prog w) A (execs body env) (AnyPost h₀ env.locals I oI (J (i + 1)) { s with heap := h, toks := tk } Q) E { s with heap := h, toks := tk })
    (done : ∀ m₁ nx h tk, J vs.length m₁ nx → Fr h₀ env.locals h m₁ → News h₀ env.locals h nx → Q .next { s with heap := h, toks := tk }) :
    wpAny (model prog w) A (pyIter (.ref l)) (fun it s₂ => LoopAtV prog w A h₀ env x body Q E it s₂) E s := by
  have hol : s.heap.get? l = some (listOf vs.toArray nn) := (N _ hl).1
  have hls : s.heap.IsList l vs.toArray := ⟨_, hol, rfl, nn, rfl⟩
  have hne : l ≠ s.heap.objs.size := Nat.ne_of_lt (Heap.lt_size hol)
  refine wpAny_pyIter_list hls ?_
  have W := Walks.list (prog := prog) (w := w) hh s.heap.objs.size l hne vs.toArray
  have hlen : vs.toArray.size = vs.length := by simp
  rw [hlen] at W
  refine ⟨_, _, _, vs.length, _, _, m₀, news, (fun i m nx => J i m nx), rfl, W, ?_, ?_, ?_, ⟨⟨_, Heap.get?_push_size _ rfl, rfl, rfl⟩, hls.at fun o e => Heap.get?_push_of_some _ e⟩, F.push _, (fun p hp => ⟨Heap.get?_push_of_some _ (N p hp).1, (N p hp).2⟩), hj, ?_, ?_⟩
  · intro hm
    rcases List.mem_cons.mp hm with e | hm
    · exact absurd F.ns.lt (e ▸ Nat.lt_irrefl _)
    · exact (N _ hl).2.1 ((List.mem_singleton.mp hm).symm)
  · intro b hb
    rw [List.mem_singleton.mp hb]
    exact next_is_new F
  · intro p hp hI
    exact absurd (Heap.lt_size (N p hp).1) ((List.mem_singleton.mp hI) ▸ Nat.lt_irrefl _)
  · rintro i v m₁ nx s₁ own ⟨hh', tk', rfl⟩ hin hP hJ hoff hown hget hfp hst F₁ N₁
    have hl₁ := hJl _ _ _ hJ
    refine Classical.byContradiction fun hn9 => ?_
    obtain ⟨⟨oI, hoI, hcI, _⟩, _⟩ := hst
    refine hn9 ?_; clear hn9
    have hIo : (s.heap.objs.size, oI) ∈ own := hfp _ (.head _) (next_is_new F) _ hoI
    have hlo : hh'.get? l = some (listOf vs.toArray nn) := (N₁ _ (List.mem_append.mpr (.inr hl₁))).1
    have N₂ : News h₀ env.locals hh' ((s.heap.objs.size, oI) :: nx) := fun p hp => by
      rcases List.mem_cons.mp hp with rfl | hp
      · exact N₁ _ (List.mem_append_left _ hIo)
      · exact N₁ _ (List.mem_append_right _ hp)
    refine wpAny_mono (turn i v m₁ nx hh' tk' _ oI (by simpa using hP) hJ hcI (fun p hp e => hoff p hp (List.mem_singleton.mpr e)) F₁ N₂) (fun f s₂ p => ?_) fun _ _ e => e
    have fin : AnyEnd h₀ env.locals s.heap.objs.size oI (J (i + 1)) { s with heap := hh', toks := tk' } s₂ → LoopStepU h₀ env.locals [s.heap.objs.size] own (fun m nx => J (i + 1) m nx) { s with heap := hh', toks := tk' } .next s₂ := by
      rintro hb9
      refine Classical.byContradiction fun hn9 => ?_
      obtain ⟨h', tk, m', nx', e, F', N', hc, hm⟩ := hb9
      refine hn9 ?_; clear hn9
      refine ⟨rfl, h', tk, m', nx', e, F', fun p hp => ?_, fun p hp hI => ?_, hm⟩
      · rcases List.mem_append.mp hp with h | h
        · have h2 : hh'.get? p.1 = some p.2 := hget p h
          rcases List.mem_cons.mp (hown p h) with h3 | h3
          · rw [h3, hoI] at h2
            have h4 : p = (s.heap.objs.size, oI) := Prod.ext h3 (Option.some.inj h2).symm
            rw [h4]; exact N' _ (.head _)
          · have h3 := List.mem_singleton.mp h3
            rw [h3, hlo] at h2
            have h4 : p = (l, listOf vs.toArray nn) := Prod.ext h3 (Option.some.inj h2).symm
            rw [h4]; exact N' _ (.tail _ (hJl _ _ _ hm))
        · exact N' p (.tail _ h)
      · exact hc p hp (List.mem_singleton.mp hI)
    cases f with
    | ret v => exact .ret p
    | brk => exact .brk p
    | next => exact .next (fin p)
    | cont => exact .cont (fin p)
  · rintro h' tk m' news' F' N' _ hJ
    exact done m' news' h' tk hJ F' N'
noncomputable def SearchPost (h₀ : Heap) (L I : Addr) (oI : Obj) (news : Led) (m : Str → Option Value) (K : Prop) (s₁ : Shared) (Q : Flow → Shared → Prop) (f : Flow) (s₂ : Shared) : Prop :=
  match f with
  | .ret v => Q (.ret v) s₂
  | .brk => Q .next s₂
  | .next => ∃ h' tk, s₂ = { s₁ with heap := h', toks := tk } ∧ Fr h₀ L h' m ∧ News h₀ L h' ((I, oI) :: news) ∧ K
  | .cont => ∃ h' tk, s₂ = { s₁ with heap := h', toks := tk } ∧ Fr h₀ L h' m ∧ News h₀ L h' ((I, oI) :: news) ∧ K
/-- a loop that stores nothing, and leaves early -/
theorem iter_search {l : Addr} {vs : List Value} {nn : Nat} {m₀ : Str → Option Value} {news : Led} (K : Nat → Prop)
    (hh : A.handled = none) (hl : (l, listOf vs.toArray nn) ∈ news) (F : Fr h₀ env.locals s.heap m₀) (N : News h₀ env.locals s.heap news) (h0 : K 0)
    (turn : ∀ i v h tk I oI, vs[i]? = some v → K i → Fr h₀ env.locals h (fun y => if y = x then some v else m₀ y) → News h₀ env.locals h ((I, oI) :: news) →
      wpAny (model prog w) A (execs body env) (SearchPost h₀ env.locals I oI news (fun y => if y = x then some v else m₀ y) (K (i + 1)) { s with heap := h, toks := tk } Q) E { s with heap := h, toks := tk })
    (done : ∀ (u : Option Value) h tk, K vs.length → Fr h₀ env.locals h (fun y => if y = x then u else m₀ y) → News h₀ env.locals h news → Q .next { s with heap := h, toks := tk }) :
    wpAny (model prog w) A (pyIter (.ref l)) (fun it s₂ => LoopAtV prog w A h₀ env x body Q E it s₂) E s := by
  have fold : ∀ {m₁ : Str → Option Value} {v : Option Value}, (∀ z, z ≠ x → m₁ z = m₀ z) → (fun y => if y = x then v else m₁ y) = fun y => if y = x then v else m₀ y := by
    intro m₁ v hm
    funext z
    by_cases hz : z = x
    · simp [hz]
    · simp only [if_neg hz]; exact hm z hz
  refine iter_any (fun i m nx => nx = news ∧ (∀ z, z ≠ x → m z = m₀ z) ∧ K i) hh hl F N ⟨rfl, fun _ _ => rfl, h0⟩ (fun i m nx h => h.1 ▸ hl) ?_ ?_
  · rintro i v m₁ nx h tk I oI hv ⟨rfl, hm, hK⟩ hcI hoff F₁ N₁
    rw [fold hm] at F₁
    refine wpAny_mono (turn i v h tk I oI hv hK F₁ N₁) (fun f s₂ p => ?_) fun _ _ e => e
    have fin : (∃ h' tk', s₂ = { ({ s with heap := h, toks := tk } : Shared) with heap := h', toks := tk' } ∧ Fr h₀ env.locals h' (fun y => if y = x then some v else m₀ y) ∧ News h₀ env.locals h' ((I, oI) :: nx) ∧ K (i + 1)) →
        AnyEnd h₀ env.locals I oI (fun m nx' => nx' = nx ∧ (∀ z, z ≠ x → m z = m₀ z) ∧ K (i + 1)) { s with heap := h, toks := tk } s₂ := by
      rintro hb9
      refine Classical.byContradiction fun hn9 => ?_
      obtain ⟨h', tk', e, F', N', hK'⟩ := hb9
      refine hn9 ?_; clear hn9
      exact ⟨h', tk', _, nx, e, F', N', hoff, rfl, fun z hz => if_neg hz, hK'⟩
    cases f with
    | ret v => exact p
    | brk => exact p
    | next => exact fin p
    | cont => exact fin p
  · rintro m₁ nx h tk ⟨rfl, hm, hK⟩ F₁ N₁
    refine done (m₁ x) h tk hK ?_ N₁
    have e : (fun y => if y = x then m₁ x else m₀ y) = m₁ := by
      funext z
      by_cases hz : z = x
      · simp [hz]
      · simp only [if_neg hz]; exact (hm z hz).symm
    rw [e]; exact F₁
end
theorem for_inv {prog : Program} {w : World} {A : Around} {s : Shared} {env : Env} {h₀ : Heap} {E : Value → Shared → Prop} {Q : Flow → Shared → Prop} {x : Str} {px pos : Pos} {iter : PySem.Expr} {body : List Stmt} {m : Str → Option Value} (_F : Fr h₀ env.locals s.heap m) (hx : env.kindOf x = some .local)
    (hp : (env.scope.kind == .class || (env.scope.kind == .module && env.locals != env.globals)) = false)
    (h : wpAny (model prog w) A (eval iter env) (fun xv s₁ => wpAny (model prog w) A (pyIter xv) (fun it s₂ => LoopAtV prog w A h₀ env x body Q E it s₂) E s₁) E s)
    (hs : ∀ x, foldedSetIterable iter env x = pure x := by intro _; rfl)
    (hE : PassesOwn (model prog w) A env E := by passes_own) :
    wpAny (model prog w) A (exec (.For (.Name x px) iter body [] pos) env) Q E s := For_invV h₀ hx hp h hs hE
/-- while that stores two names -/
noncomputable def TwoEnd {σ : Type} (h₀ : Heap) (L : Addr) (m : Str → Option Value) (y1 y2 : Str) (R : σ → Value → Value → Led → Prop) (μ : σ → Nat) (s : Shared) (c : σ) (s₃ : Shared) : Prop :=
  ∃ h' tk c' nx' m' v1 v2, s₃ = { s with heap := h', toks := tk } ∧ Fr h₀ L h' m' ∧ m' y1 = some v1 ∧ m' y2 = some v2 ∧ (∀ z, z ≠ y1 → z ≠ y2 → m' z = m z) ∧ News h₀ L h' nx' ∧ R c' v1 v2 nx' ∧ μ c' < μ c
noncomputable def TwoPost {σ : Type} (h₀ : Heap) (L : Addr) (m : Str → Option Value) (y1 y2 : Str) (R : σ → Value → Value → Led → Prop) (μ : σ → Nat) (s : Shared) (Q : Flow → Shared → Prop) (c : σ) (f : Flow) (s₃ : Shared) : Prop :=
  match f with
  | .next => TwoEnd h₀ L m y1 y2 R μ s c s₃
  | .cont => TwoEnd h₀ L m y1 y2 R μ s c s₃
  | .brk => Q .next s₃
  | .ret v => Q (.ret v) s₃
theorem TwoEnd.intro {σ : Type} {h₀ : Heap} {L : Addr} {m m' : Str → Option Value} {y1 y2 : Str} {R : σ → Value → Value → Led → Prop} {μ : σ → Nat} {s : Shared} {c : σ} {h' : Heap} {tk : Nat} {v1 v2 : Value} (c' : σ) (nx' : Led)
    (F : Fr h₀ L h' m') (h1 : m' y1 = some v1) (h2 : m' y2 = some v2) (hz : ∀ z, z ≠ y1 → z ≠ y2 → m' z = m z) (N : News h₀ L h' nx') (hR : R c' v1 v2 nx') (hm : μ c' < μ c) :
    TwoEnd h₀ L m y1 y2 R μ s c { s with heap := h', toks := tk } := ⟨h', tk, c', nx', m', v1, v2, rfl, F, h1, h2, hz, N, hR, hm⟩
theorem while_two {prog : Program} {w : World} {A : Around} {E : Value → Shared → Prop} {Q : Flow → Shared → Prop} {s : Shared} {env : Env} {h₀ : Heap} {L : Addr} {σ : Type} {test : PySem.Expr} {body : List Stmt} {pos : Pos} {m : Str → Option Value} {nx₀ : Led}
    (y1 y2 : Str) (R : σ → Value → Value → Led → Prop) (μ : σ → Nat) (c₀ : σ) {v1 v2 : Value}
    (F : Fr h₀ L s.heap m) (N : News h₀ L s.heap nx₀) (hy1 : m y1 = some v1) (hy2 : m y2 = some v2) (hR : R c₀ v1 v2 nx₀)
    (turn : ∀ c v1 v2 nx h tk, Fr h₀ L h (fun z => if z = y1 then some v1 else if z = y2 then some v2 else m z) → News h₀ L h nx → R c v1 v2 nx →
      wpAny (model prog w) A (isTrue test env (eval test env)) (fun b s₂ =>
        if b = true then wpAny (model prog w) A (execs body env) (TwoPost h₀ L m y1 y2 R μ s Q c) E s₂ else Q .next s₂) E { s with heap := h, toks := tk })
    (hE : PassesOwn (model prog w) A env E := by passes_own) :
    wpAny (model prog w) A (exec (.While test body [] pos) env) Q E s := by
  refine While_inv2 (fun n m₁ nx => ∃ c v1 v2, R c v1 v2 nx ∧ n = μ c ∧ m₁ y1 = some v1 ∧ m₁ y2 = some v2 ∧ ∀ z, z ≠ y1 → z ≠ y2 → m₁ z = m z) F N ⟨c₀, v1, v2, hR, rfl, hy1, hy2, fun _ _ _ => rfl⟩ ?_ hE
  rintro n m₁ nx h tk F₁ N₁ hb9
  refine Classical.byContradiction fun hn9 => ?_
  obtain ⟨c, v1, v2, hc, rfl, h1, h2, h3⟩ := hb9
  refine hn9 ?_; clear hn9
  have e : m₁ = fun z => if z = y1 then some v1 else if z = y2 then some v2 else m z := by
    funext z
    by_cases hz : z = y1
    · rw [if_pos hz, hz]; exact h1
    · rw [if_neg hz]
      by_cases hz2 : z = y2
      · rw [if_pos hz2, hz2]; exact h2
      · rw [if_neg hz2]; exact h3 z hz hz2
  rw [e] at F₁
  refine wpAny_mono (turn c v1 v2 nx h tk F₁ N₁ hc) (fun b s₂ p => ?_) fun _ _ x => x
  cases b with
  | false => simpa using p
  | true =>
    simp only [if_true] at p ⊢
    refine wpAny_mono p (fun f s₃ q => ?_) fun _ _ x => x
    cases f with
    | ret v => exact q
    | brk => exact q
    | next => refine Classical.byContradiction fun hn9 => ?_; obtain ⟨h', tk, c', nx', m', v1, v2, rfl, F', h1, h2, h3, N', hc', hm⟩ := q; exact hn9 ⟨h', tk, _, nx', μ c', rfl, F', N', hm, c', v1, v2, hc', rfl, h1, h2, h3⟩
    | cont => refine Classical.byContradiction fun hn9 => ?_; obtain ⟨h', tk, c', nx', m', v1, v2, rfl, F', h1, h2, h3, N', hc', hm⟩ := q; exact hn9 ⟨h', tk, _, nx', μ c', rfl, F', N', hm, c', v1, v2, hc', rfl, h1, h2, h3⟩
theorem pick_tail (v : Value) (vs : List Value) : kms_pick (v :: vs) (some 1) none = vs := by
  have e1 : kms_lo (some 1) (v :: vs).length = 1 := by
    have h := kms_bounds (some 1) none (v :: vs).length
    have h1 := congrArg (fun p => p.1) h
    simp only [sliceBounds, Option.getD_none, show (1 : Int) > 0 by decide, if_true] at h1
    rw [if_neg (by decide)] at h1
    simp only [List.length_cons] at h1 ⊢
    omega
  have e2 : kms_hi none (v :: vs).length = (v :: vs).length := by
    have h := kms_bounds (some 1) none (v :: vs).length
    have h1 := congrArg (fun p => p.2.1) h
    simp only [sliceBounds, Option.getD_none, show (1 : Int) > 0 by decide, if_true] at h1
    omega
  unfold kms_pick
  rw [e1, e2]
  simp
/-- l[1:] of a list that is not empty -/
theorem slice_tail {prog : Program} {w : World} {A : Around} {E : Value → Shared → Prop} {s : Shared} {h₀ : Heap} {L l : Addr} {m : Str → Option Value} {news : Led} {value slice : PySem.Expr} {v : Value} {vs : List Value} {n : Nat} {vl vu : Value} {Q : Value → Shared → Prop}
    (F : Fr h₀ L s.heap m) (N : News h₀ L s.heap news) (hm : (l, listOf (v :: vs).toArray n) ∈ news) (hz : (v :: vs).length ≤ 5) (pl : IsPart vl (some 1)) (pu : IsPart vu none)
    (h : ∀ D h', Fr h₀ L h' m → News h₀ L h' ((D, listOf vs.toArray 0) :: news) → Q (.ref D) { s with heap := h' })
    (hs : subscripted slice false (.ref l) (.ref s.heap.objs.size) = operate [.ref s.heap.objs.size, .ref l] (getItem (.ref l) (.ref s.heap.objs.size))) (ht : ∀ r, letTemporaryGo value (.ref l) r = pure ()) :
    wpAny (model prog w) A (subscriptTail value slice (.ref l) (.ref s.heap.objs.size)) Q E { s with heap := s.heap.push { cls := .type "slice", data := .fields #[vl, vu, .none] } } :=
  kms_slice_lit F N ⟨_, N.get hm, rfl, n, rfl⟩ pl pu (pick_tail v vs) (fun D h' F' N' _ => h D h' F' N') hs ht (by rw [List.size_toArray]; exact dr_size (le5 (by assumption) (by rfl)))
theorem cls_ne {h₀ h : Heap} {L I r : Addr} {oI o : Obj} {nx : Led} (N : News h₀ L h nx) (h1 : (I, oI) ∈ nx) (h2 : (r, o) ∈ nx) (hc : o.cls ≠ oI.cls) : r ≠ I := by
  rintro rfl
  have h3 := (N _ h1).1
  have h4 := (N _ h2).1
  exact hc (congrArg Obj.cls (Option.some.inj (h4.symm.trans h3)))
theorem list_add {prog : Program} {w : World} {A : Around} {E : Value → Shared → Prop} {s : Shared} {h₀ : Heap} {L a b : Addr} {m : Str → Option Value} {news : Led} {xs ys : List Value} {na nb : Nat} {Q : Value → Shared → Prop}
    (F : Fr h₀ L s.heap m) (N : News h₀ L s.heap news) (ma : (a, listOf xs.toArray na) ∈ news) (mb : (b, listOf ys.toArray nb) ∈ news) (hz : xs.length + ys.length ≤ 100)
    (h : ∀ D h', Fr h₀ L h' m → News h₀ L h' ((D, listOf (xs ++ ys).toArray 0) :: news) → Q (.ref D) { s with heap := h' }) :
    wpAny (model prog w) A (binaryOp .Add (.ref a) (.ref b)) Q E s :=
  kmk_add_lit F N ⟨_, N.get ma, rfl, na, rfl⟩ ⟨_, N.get mb, rfl, nb, rfl⟩ rfl (fun D h' F' N' _ => h D h' F' N') (dr_size hz)
/-- what _law_value gives -/
noncomputable def valD (c : List (Int × Int)) (key : Int) : List Dat := match aLook c key with | some v => [.int v] | none => []
theorem valD_ok {c : List (Int × Int)} {key : Int} : ∀ d ∈ valD c key, kqdOk 8 d = true := by
  intro d hd
  unfold valD at hd
  cases h : aLook c key with
  | none => rw [h] at hd; cases hd
  | some v => rw [h] at hd; rw [List.mem_singleton.mp hd]; rfl
theorem valD_nil {c : List (Int × Int)} {key : Int} : valD c key = [] ↔ aHas c key = false := by
  unfold valD
  rw [← aLook_has]
  cases h : aLook c key with
  | none => simp
  | some v => simp
section
variable {prog : Program} {w : World} {A : Around} {E : Value → Shared → Prop} {s : Shared} {h₀ : Heap} {L a b : Addr} {news : Led} {xs : List Value} {ka kb : Nat} {c : List (Int × Int)} {key : Int} {Q : Value → Shared → Prop}
theorem eq_nil_bool (inst : Decidable (valD c key = [])) : @decide _ inst = !aHas c key := by
  cases q : aHas c key with
  | false => exact @decide_eq_true _ inst (valD_nil.mpr q)
  | true => exact @decide_eq_false _ inst (fun h => by rw [valD_nil.mp h] at q; cases q)
theorem eq_empty (N : News h₀ L s.heap news) (ma : (a, listOf xs.toArray ka) ∈ news) (Da : DatAll [] xs (valD c key)) (mb : (b, listOf ([] : List Value).toArray kb) ∈ news) (hu : A.units + 64 < cLine) (h : Q (.bool (!aHas c key)) s) :
    wpAny (model prog w) A (compareOp .Eq (.ref a) (.ref b)) Q E s :=
  kqd_eq N ma rfl rfl Da (fun _ hp => nomatch hp) mb rfl rfl (.nil : DatAll [] [] []) (fun _ hp => nomatch hp) valD_ok (fun _ hp => nomatch hp) hu (by rw [eq_nil_bool]; exact h)
end
-- He
set_option maxHeartbeats 2000000 in
theorem h_size {w : World} {p : Program} {loose : List Str} {mean : ExcName → Option Value} {mg mb : Str → Option Value} {dp un : Nat} {gd : Option (List Code)} {cn : Str} {cs : Scope} {a : Addr} {ccd : Value} {cl : List (Str × Addr)} {outer : List Env} {A₀ : Around} {base h₀ : Heap} {L : Addr} {m : Str → Option Value} {s : Shared} {Q E : Value → Shared → Prop} {tl : Led} {v : Int} {tv : Tok}
  (B : Below A₀ base outer h₀) (F : Fr h₀ L s.heap m) (X : (Mine.K0 w.params).In h₀) (T : Top p loose mean mg mb h₀) (hk : cs.kind = .function) (N : News h₀ L s.heap tl) (hdp : dp + 8 < recursionLimit) (hun : un + 60 < cLine)
  (ret : ∀ h' tk' t, Fr h₀ L h' m → News h₀ L h' tl → Q (.int (szS v) t) { s with heap := h', toks := tk' }) :
  wpAny (model PySem.Challenge.rw_ki0005_01.row.prog w) (ktrTop dp un gd cn cs L a ccd cl outer) (call (.ref 1053) [.int v tv]) Q E s := by
  (refine wpAny_call ?_; k_dflt (refine' code_def ?k1 ?k2 ?k3 ?k4 ?k5 ?kA ?kF ?kK ?k6 ?k7 ?k8 ?k9 ?kB ?_ ?c2 ?c3 ?c4 ?c5; (case kA => exact rfl); (case kF => exact rfl); (case kK => assumption); (case k1 => k_asm); (case k2 => k_asm); (case k3 => k_asm); (case k4 => k_asm); (case k5 => k_asm); (case k6 => k_is); (case k7 => k_is); (case k8 => ktr_room); (case k9 => first | exact BindsTo.of_eq rfl | exact binds_K (by k_in) rfl (by k_is) rfl rfl rfl); (case c5 => decide); (case kB => exact locs rfl); (case c2 => exact rfl); (case c3 => exact rfl); (case c4 => exact rfl); k_whole; intro g' L' h' FG' F' N' B' X' T'; (try dsimp only); (try k_fold)))
  k_steps
  exact ret _ _ _ (by assumption) (by assumption)
set_option maxHeartbeats 2000000 in
theorem h_without {w : World} {p : Program} {loose : List Str} {mean : ExcName → Option Value} {mg mb : Str → Option Value} {dp un : Nat} {gd : Option (List Code)} {cn : Str} {cs : Scope} {a : Addr} {ccd : Value} {cl : List (Str × Addr)} {outer : List Env} {A₀ : Around} {base h₀ : Heap} {L : Addr} {m : Str → Option Value} {s : Shared} {Q E : Value → Shared → Prop}
  {b : Addr} {n : Nat} {vs : List Value} {dl tl : Led} {c : List (Int × Int)} {key : Int} {tk : Tok}
  (B : Below A₀ base outer h₀) (F : Fr h₀ L s.heap m) (X : (Mine.K0 w.params).In h₀) (T : Top p loose mean mg mb h₀) (hk : cs.kind = .function) (N : News h₀ L s.heap tl) (hs : ∀ p ∈ dl, p ∈ tl) (hm : (b, listOf vs.toArray n) ∈ tl) (hD : DatAll dl vs (pD c)) (hc : c.length ≤ 5) (hdp : dp + 8 < recursionLimit) (hun : un + 60 < cLine)
  (ret : ∀ h' tk' r vs' n', Fr h₀ L h' m → News h₀ L h' ((r, listOf vs'.toArray n') :: tl) → DatAll dl vs' (pD (aDel c key)) → Q (.ref r) { s with heap := h', toks := tk' }) :
  wpAny (model PySem.Challenge.rw_ki0005_01.row.prog w) (ktrTop dp un gd cn cs L a ccd cl outer) (call (.ref 1058) [.ref b, .int key tk]) Q E s := by
  replace N := kst_newsOf (l' := (b, listOf vs.toArray n) :: tl) N (List.forall_mem_cons.mpr ⟨hm, fun q hq => hq⟩)
  (refine wpAny_call ?_; k_dflt (refine' enDC (Prod.fst ((fun (y : Str) => (if y = Str.ofString "pairs" then some (.ref b) else none : Option Value)), (fun (y : Str) => (if y = Str.ofString "key" then some (.int key tk) else none : Option Value)))) (Prod.snd ((fun (y : Str) => (if y = Str.ofString "pairs" then some (.ref b) else none : Option Value)), (fun (y : Str) => (if y = Str.ofString "key" then some (.int key tk) else none : Option Value)))) ?k1 ?k2 ?k3 ?k4 ?k5 ?kA ?kF ?kK ?k6 ?k7 ?k8 ?k9 ?kB ?kD ?kM ?kN ?_ ?c2 ?c3 ?c4; (case kA => exact rfl); (case kF => exact rfl); (case kK => first | exact rfl | assumption); (case k1 => k_asm); (case k2 => k_asm); (case k3 => k_asm); (case k4 => k_asm); (case k5 => k_asm); (case k6 => k_is); (case k7 => k_is); (case k8 => ktr_room); (case k9 => first | exact BindsTo.of_eq rfl | exact binds_K (by k_in) rfl (by k_is) rfl rfl rfl); (case kB => exact rfl); (case kD => decide +kernel); (case kM => (intro L'; funext y; rfl)); (case kN => (intro L'; funext y; rfl)); (case c2 => exact rfl); (case c3 => exact rfl); (case c4 => exact rfl); k_whole; intro g' L' h' tk' cells' FG' F' N' Y' B' X' T' l1; (try k_lt l1); k_cells Y'; (try simp only [List.cons_append, List.nil_append] at N'); (try dsimp only); (try dsimp only at F'); (try k_fold)))
  (repeat' ((fail_if_success (with_reducible show LCt.CompRestT _ _ _ _ _ _ _ _ _ _ _ _ _ _ _ _ _ _ _ _)); (fail_if_success (with_reducible show LCg.CompEnd _ _ _ _ _ _ _ _ _ _ _ _ _ _)); (fail_if_success (with_reducible show LCg.CompRest _ _ _ _ _ _ _ _ _ _ _ _ _ _ _ _ _ _ _)); first | (k_unfold; (try dsimp only)) | walk1 | (dsimp only; walk1) | (leave1; try dsimp only)))
  refine comp_T_same (fun i ys => DatAll dl ys (pD (aDel (c.take i) key))) ?_ ?_ ?_
  · intro i v ys I oI C oC D m₂ h tk E' hi hv hI hC hx F₁ N₁ off ne
    refine Classical.byContradiction fun hn9 => ?_
    obtain ⟨k, x, r, ta, tb, n9, hci, rfl, hr⟩ := pD_get hD (show vs[i]? = some v by simpa using hv)
    refine hn9 ?_; clear hn9
    have hr2 := hs _ hr
    have N₂ := kst_newsOf (l' := (r, pairO k x ta tb n9) :: _) N₁ (List.forall_mem_cons.mpr ⟨by walk_at "my subm", fun q hq => hq⟩)
    clear N₁
    (repeat' ((fail_if_success (with_reducible show LCt.CompRestT _ _ _ _ _ _ _ _ _ _ _ _ _ _ _ _ _ _ _ _)); (fail_if_success (with_reducible show LCg.CompEnd _ _ _ _ _ _ _ _ _ _ _ _ _ _)); (fail_if_success (with_reducible show LCg.CompRest _ _ _ _ _ _ _ _ _ _ _ _ _ _ _ _ _ _ _)); first | (k_unfold; (try dsimp only)) | walk1 | (dsimp only; walk1) | (leave1; try dsimp only)))
    · exact LCg.CompEnd.intro (by assumption) (by assumption) _ (by walk_at "my sub") off (.inr ⟨_, by k_mem, rfl, _, rfl⟩) ⟨rfl, pD_snoc hI hci hr (by omega)⟩
    · exact LCg.CompEnd.intro (by assumption) (by assumption) _ (by walk_at "my sub") off (.inr ⟨_, by k_mem, rfl, _, rfl⟩) ⟨rfl, pD_skip hI hci (by omega)⟩
  · intro ys hI
    have hI2 : DatAll dl ys (pD (aDel c key)) := by
      rw [List.take_of_length_le (by rw [List.size_toArray, hD.length, pD_len]; exact Nat.le_refl _)] at hI; exact hI
    clear hI
    intro D h tk F₁ N₁ o1
    (repeat' ((fail_if_success (with_reducible show LCt.CompRestT _ _ _ _ _ _ _ _ _ _ _ _ _ _ _ _ _ _ _ _)); (fail_if_success (with_reducible show LCg.CompEnd _ _ _ _ _ _ _ _ _ _ _ _ _ _)); (fail_if_success (with_reducible show LCg.CompRest _ _ _ _ _ _ _ _ _ _ _ _ _ _ _ _ _ _ _)); first | (k_unfold; (try dsimp only)) | walk1 | (dsimp only; walk1) | (leave1; try dsimp only)))
    exact ret _ _ _ _ _ (by assumption) (by walk_at "my news") hI2
  · exact .nil
set_option maxHeartbeats 2000000 in
theorem h_value {w : World} {p : Program} {loose : List Str} {mean : ExcName → Option Value} {mg mb : Str → Option Value} {dp un : Nat} {gd : Option (List Code)} {cn : Str} {cs : Scope} {a : Addr} {ccd : Value} {cl : List (Str × Addr)} {outer : List Env} {A₀ : Around} {base h₀ : Heap} {L : Addr} {m : Str → Option Value} {s : Shared} {Q E : Value → Shared → Prop}
  {b : Addr} {n : Nat} {vs : List Value} {dl tl : Led} {c : List (Int × Int)} {key : Int} {tk : Tok}
  (B : Below A₀ base outer h₀) (F : Fr h₀ L s.heap m) (X : (Mine.K0 w.params).In h₀) (T : Top p loose mean mg mb h₀) (hk : cs.kind = .function) (N : News h₀ L s.heap tl) (hs : ∀ p ∈ dl, p ∈ tl) (hm : (b, listOf vs.toArray n) ∈ tl) (hD : DatAll dl vs (pD c)) (hc : c.length ≤ 5) (hdp : dp + 8 < recursionLimit) (hun : un + 60 < cLine)
  (ret : ∀ h' tk' r vs' n', Fr h₀ L h' m → News h₀ L h' ((r, listOf vs'.toArray n') :: tl) → DatAll [] vs' (valD c key) → Q (.ref r) { s with heap := h', toks := tk' }) :
  wpAny (model PySem.Challenge.rw_ki0005_01.row.prog w) (ktrTop dp un gd cn cs L a ccd cl outer) (call (.ref 1065) [.ref b, .int key tk]) Q E s := by
  replace N := kst_newsOf (l' := (b, listOf vs.toArray n) :: tl) N (List.forall_mem_cons.mpr ⟨hm, fun q hq => hq⟩)
  (refine wpAny_call ?_; k_dflt (refine' code_def ?k1 ?k2 ?k3 ?k4 ?k5 ?kA ?kF ?kK ?k6 ?k7 ?k8 ?k9 ?kB ?_ ?c2 ?c3 ?c4 ?c5; (case kA => exact rfl); (case kF => exact rfl); (case kK => assumption); (case k1 => k_asm); (case k2 => k_asm); (case k3 => k_asm); (case k4 => k_asm); (case k5 => k_asm); (case k6 => k_is); (case k7 => k_is); (case k8 => ktr_room); (case k9 => first | exact BindsTo.of_eq rfl | exact binds_K (by k_in) rfl (by k_is) rfl rfl rfl); (case c5 => decide); (case kB => exact locs rfl); (case c2 => exact rfl); (case c3 => exact rfl); (case c4 => exact rfl); k_whole; intro g' L' h' FG' F' N' B' X' T'; (try dsimp only); (try k_fold)))
  (repeat' ((fail_if_success (with_reducible show wpAny _ _ (exec (Stmt.For _ _ _ _ _) _) _ _ _)); first | (k_unfold; (try dsimp only)) | walk1 | (dsimp only; walk1) | (leave1; try dsimp only)))
  ((with_reducible rename Fr _ _ _ _ => kF); k_dflt (refine for_inv kF (by rfl) (by rfl) ?_))
  (repeat' ((fail_if_success (with_reducible show wpAny _ _ (pyIter _) _ _ _)); first | (k_unfold; (try dsimp only)) | walk1 | (dsimp only; walk1) | (leave1; try dsimp only)))
  refine iter_search (news := (b, listOf vs.toArray n) :: tl) (fun i => aHas (c.take i) key = false) rfl (by k_mem) (by assumption) (by assumption) rfl ?_ ?_
  · intro i v h tk I oI hv hK F₁ N₁
    refine Classical.byContradiction fun hn9 => ?_
    obtain ⟨k, x, r, ta, tb, n9, hci, rfl, hr⟩ := pD_get hD hv
    refine hn9 ?_; clear hn9
    have hr2 := hs _ hr
    have N₂ := kst_newsOf (l' := (r, pairO k x ta tb n9) :: _) N₁ (List.forall_mem_cons.mpr ⟨by walk_at "my subm", fun q hq => hq⟩)
    clear N₁
    (repeat' ((fail_if_success (with_reducible show SearchPost _ _ _ _ _ _ _ _ _ _ _)); first | (k_unfold; (try dsimp only)) | walk1 | (dsimp only; walk1) | (leave1; try dsimp only)))
    · dsimp only [SearchPost]
      have e := aLook_at hK hci (by omega)
      unfold valD at ret
      rw [e] at ret
      (repeat' (first | (k_unfold; (try dsimp only)) | walk1 | (dsimp only; walk1) | (leave1; try dsimp only)))
      exact ret _ _ _ _ _ (by assumption) (by walk_at "my news") (.cons (.int _ _) .nil)
    · exact ⟨_, _, rfl, by assumption, by walk_at "my news", aHas_next hK hci (by omega)⟩
  · intro u h tk hK F₁ N₁
    rw [List.take_of_length_le (by rw [hD.length, pD_len]; exact Nat.le_refl _)] at hK
    unfold valD at ret
    rw [aLook_none_of hK] at ret
    (repeat' (first | (k_unfold; (try dsimp only)) | walk1 | (dsimp only; walk1) | (leave1; try dsimp only)))
    exact ret _ _ _ _ _ (by assumption) (by walk_at "my news") .nil
set_option maxHeartbeats 2000000 in
theorem h_room_true {w : World} {p : Program} {loose : List Str} {mean : ExcName → Option Value} {mg mb : Str → Option Value} {dp un : Nat} {gd : Option (List Code)} {cn : Str} {cs : Scope} {a : Addr} {ccd : Value} {cl : List (Str × Addr)} {outer : List Env} {A₀ : Around} {base h₀ : Heap} {L : Addr} {m : Str → Option Value} {s : Shared} {Q E : Value → Shared → Prop}
  {b : Addr} {n : Nat} {vs : List Value} {dl tl : Led} {c : List (Int × Int)}
  (B : Below A₀ base outer h₀) (F : Fr h₀ L s.heap m) (X : (Mine.K0 w.params).In h₀) (T : Top p loose mean mg mb h₀) (hk : cs.kind = .function) (N : News h₀ L s.heap tl) (hs : ∀ p ∈ dl, p ∈ tl) (hm : (b, listOf vs.toArray n) ∈ tl) (hD : DatAll dl vs (pD c)) (hc : c.length ≤ 5) (hdp : dp + 16 < recursionLimit) (hun : un + 120 < cLine)
  (ret : ∀ h' tk' t, Fr h₀ L h' m → News h₀ L h' tl → Q (.int (total szS c) t) { s with heap := h', toks := tk' }) :
  wpAny (model PySem.Challenge.rw_ki0005_01.row.prog w) (ktrTop dp un gd cn cs L a ccd cl outer) (call (.ref 1070) [.ref b, .bool true]) Q E s := by
  replace N := kst_newsOf (l' := (b, listOf vs.toArray n) :: tl) N (List.forall_mem_cons.mpr ⟨hm, fun q hq => hq⟩)
  (refine wpAny_call ?_; k_dflt (refine' enDC (Prod.fst ((fun (y : Str) => (if y = Str.ofString "pairs" then some (.ref b) else none : Option Value)), (fun (y : Str) => (if y = Str.ofString "sized" then some (.bool true) else none : Option Value)))) (Prod.snd ((fun (y : Str) => (if y = Str.ofString "pairs" then some (.ref b) else none : Option Value)), (fun (y : Str) => (if y = Str.ofString "sized" then some (.bool true) else none : Option Value)))) ?k1 ?k2 ?k3 ?k4 ?k5 ?kA ?kF ?kK ?k6 ?k7 ?k8 ?k9 ?kB ?kD ?kM ?kN ?_ ?c2 ?c3 ?c4; (case kA => exact rfl); (case kF => exact rfl); (case kK => first | exact rfl | assumption); (case k1 => k_asm); (case k2 => k_asm); (case k3 => k_asm); (case k4 => k_asm); (case k5 => k_asm); (case k6 => k_is); (case k7 => k_is); (case k8 => ktr_room); (case k9 => first | exact BindsTo.of_eq rfl | exact binds_K (by k_in) rfl (by k_is) rfl rfl rfl); (case kB => exact rfl); (case kD => decide +kernel); (case kM => (intro L'; funext y; rfl)); (case kN => (intro L'; funext y; rfl)); (case c2 => exact rfl); (case c3 => exact rfl); (case c4 => exact rfl); k_whole; intro g' L' h' tk' cells' FG' F' N' Y' B' X' T' l1; (try k_lt l1); k_cells Y'; (try simp only [List.cons_append, List.nil_append] at N'); (try dsimp only); (try dsimp only at F'); (try k_fold)))
  (repeat' ((fail_if_success (with_reducible show LCt.CompRestT _ _ _ _ _ _ _ _ _ _ _ _ _ _ _ _ _ _ _ _)); (fail_if_success (with_reducible show LCg.CompRest _ _ _ _ _ _ _ _ _ _ _ _ _ _ _ _ _ _ _)); first | (k_unfold; (try dsimp only)) | ((with_reducible show wpAny _ _ (call _ _) _ _ _); k_invariant "r" (1053, h_size)) | walk1 | (dsimp only; first | ((with_reducible show wpAny _ _ (call _ _) _ _ _); k_invariant "r" (1053, h_size)) | walk1) | (leave1; try dsimp only)))
  refine comp_U_same (fun i ys => IntsAre ys ((c.take i).map fun p => szS p.2)) ?_ ?_ ?_
  · intro i v ys I oI C oC D m₂ h tk E' hi hv hI hC hx F₁ N₁ off ne
    refine Classical.byContradiction fun hn9 => ?_
    obtain ⟨k, x, r, ta, tb, n9, hci, rfl, hr⟩ := pD_get hD (show vs[i]? = some v by simpa using hv)
    refine hn9 ?_; clear hn9
    have hr2 := hs _ hr
    have N₂ := kst_newsOf (l' := (r, pairO k x ta tb n9) :: _) N₁ (List.forall_mem_cons.mpr ⟨by walk_at "my subm", fun q hq => hq⟩)
    clear N₁
    (repeat' ((fail_if_success (with_reducible show LCg.CompEnd _ _ _ _ _ _ _ _ _ _ _ _ _ _)); first | (k_unfold; (try dsimp only)) | ((with_reducible show wpAny _ _ (call _ _) _ _ _); k_invariant "r" (1053, h_size)) | walk1 | (dsimp only; first | ((with_reducible show wpAny _ _ (call _ _) _ _ _); k_invariant "r" (1053, h_size)) | walk1) | (leave1; try dsimp only)))
    exact LCg.CompEnd.intro (by assumption) (by assumption) _ (by walk_at "my sub") off (.inr ⟨_, by k_mem, rfl, _, rfl⟩) ⟨rfl, by rw [map_next hci]; exact ints_snoc hI⟩
  · intro ys hI
    rw [List.take_of_length_le (by rw [List.size_toArray, hD.length, pD_len]; exact Nat.le_refl _)] at hI
    intro D h tk F₁ N₁ o1
    (repeat' (first | (k_unfold; (try dsimp only)) | ((with_reducible show wpAny _ _ (call _ _) _ _ _); k_invariant "r" (1053, h_size)) | walk1 | (dsimp only; first | ((with_reducible show wpAny _ _ (call _ _) _ _ _); k_invariant "r" (1053, h_size)) | walk1) | (leave1; try dsimp only)))
    exact ret _ _ _ (by assumption) (by walk_at "my news")
  · exact .nil
set_option maxHeartbeats 2000000 in
theorem h_room_false {w : World} {p : Program} {loose : List Str} {mean : ExcName → Option Value} {mg mb : Str → Option Value} {dp un : Nat} {gd : Option (List Code)} {cn : Str} {cs : Scope} {a : Addr} {ccd : Value} {cl : List (Str × Addr)} {outer : List Env} {A₀ : Around} {base h₀ : Heap} {L : Addr} {m : Str → Option Value} {s : Shared} {Q E : Value → Shared → Prop}
  {b : Addr} {n : Nat} {vs : List Value} {dl tl : Led} {c : List (Int × Int)}
  (B : Below A₀ base outer h₀) (F : Fr h₀ L s.heap m) (X : (Mine.K0 w.params).In h₀) (T : Top p loose mean mg mb h₀) (hk : cs.kind = .function) (N : News h₀ L s.heap tl) (hs : ∀ p ∈ dl, p ∈ tl) (hm : (b, listOf vs.toArray n) ∈ tl) (hD : DatAll dl vs (pD c)) (hc : c.length ≤ 5) (hdp : dp + 16 < recursionLimit) (hun : un + 120 < cLine)
  (ret : ∀ h' tk' t, Fr h₀ L h' m → News h₀ L h' tl → Q (.int (total szU c) t) { s with heap := h', toks := tk' }) :
  wpAny (model PySem.Challenge.rw_ki0005_01.row.prog w) (ktrTop dp un gd cn cs L a ccd cl outer) (call (.ref 1070) [.ref b, .bool false]) Q E s := by
  replace N := kst_newsOf (l' := (b, listOf vs.toArray n) :: tl) N (List.forall_mem_cons.mpr ⟨hm, fun q hq => hq⟩)
  (refine wpAny_call ?_; k_dflt (refine' enDC (Prod.fst ((fun (y : Str) => (if y = Str.ofString "pairs" then some (.ref b) else none : Option Value)), (fun (y : Str) => (if y = Str.ofString "sized" then some (.bool false) else none : Option Value)))) (Prod.snd ((fun (y : Str) => (if y = Str.ofString "pairs" then some (.ref b) else none : Option Value)), (fun (y : Str) => (if y = Str.ofString "sized" then some (.bool false) else none : Option Value)))) ?k1 ?k2 ?k3 ?k4 ?k5 ?kA ?kF ?kK ?k6 ?k7 ?k8 ?k9 ?kB ?kD ?kM ?kN ?_ ?c2 ?c3 ?c4; (case kA => exact rfl); (case kF => exact rfl); (case kK => first | exact rfl | assumption); (case k1 => k_asm); (case k2 => k_asm); (case k3 => k_asm); (case k4 => k_asm); (case k5 => k_asm); (case k6 => k_is); (case k7 => k_is); (case k8 => ktr_room); (case k9 => first | exact BindsTo.of_eq rfl | exact binds_K (by k_in) rfl (by k_is) rfl rfl rfl); (case kB => exact rfl); (case kD => decide +kernel); (case kM => (intro L'; funext y; rfl)); (case kN => (intro L'; funext y; rfl)); (case c2 => exact rfl); (case c3 => exact rfl); (case c4 => exact rfl); k_whole; intro g' L' h' tk' cells' FG' F' N' Y' B' X' T' l1; (try k_lt l1); k_cells Y'; (try simp only [List.cons_append, List.nil_append] at N'); (try dsimp only); (try dsimp only at F'); (try k_fold)))
  (repeat' ((fail_if_success (with_reducible show LCt.CompRestT _ _ _ _ _ _ _ _ _ _ _ _ _ _ _ _ _ _ _ _)); (fail_if_success (with_reducible show LCg.CompRest _ _ _ _ _ _ _ _ _ _ _ _ _ _ _ _ _ _ _)); first | (k_unfold; (try dsimp only)) | walk1 | (dsimp only; walk1) | (leave1; try dsimp only)))
  refine comp_U_same (fun i ys => IntsAre ys ((c.take i).map fun p => szU p.2)) ?_ ?_ ?_
  · intro i v ys I oI C oC D m₂ h tk E' hi hv hI hC hx F₁ N₁ off ne
    refine Classical.byContradiction fun hn9 => ?_
    obtain ⟨k, x, r, ta, tb, n9, hci, rfl, hr⟩ := pD_get hD (show vs[i]? = some v by simpa using hv)
    refine hn9 ?_; clear hn9
    have hr2 := hs _ hr
    have N₂ := kst_newsOf (l' := (r, pairO k x ta tb n9) :: _) N₁ (List.forall_mem_cons.mpr ⟨by walk_at "my subm", fun q hq => hq⟩)
    clear N₁
    (repeat' ((fail_if_success (with_reducible show LCg.CompEnd _ _ _ _ _ _ _ _ _ _ _ _ _ _)); first | (k_unfold; (try dsimp only)) | walk1 | (dsimp only; walk1) | (leave1; try dsimp only)))
    exact LCg.CompEnd.intro (by assumption) (by assumption) _ (by walk_at "my sub") off (.inr ⟨_, by k_mem, rfl, _, rfl⟩) ⟨rfl, by rw [map_next hci]; exact ints_snoc hI⟩
  · intro ys hI
    rw [List.take_of_length_le (by rw [List.size_toArray, hD.length, pD_len]; exact Nat.le_refl _)] at hI
    intro D h tk F₁ N₁ o1
    (repeat' (first | (k_unfold; (try dsimp only)) | walk1 | (dsimp only; walk1) | (leave1; try dsimp only)))
    exact ret _ _ _ (by assumption) (by walk_at "my news")
  · exact .nil
theorem h_room {w : World} {p : Program} {loose : List Str} {mean : ExcName → Option Value} {mg mb : Str → Option Value} {dp un : Nat} {gd : Option (List Code)} {cn : Str} {cs : Scope} {a : Addr} {ccd : Value} {cl : List (Str × Addr)} {outer : List Env} {A₀ : Around} {base h₀ : Heap} {L : Addr} {m : Str → Option Value} {s : Shared} {Q E : Value → Shared → Prop}
  {b : Addr} {n : Nat} {vs : List Value} {dl tl : Led} {c : List (Int × Int)} {z : Bool}
  (B : Below A₀ base outer h₀) (F : Fr h₀ L s.heap m) (X : (Mine.K0 w.params).In h₀) (T : Top p loose mean mg mb h₀) (hk : cs.kind = .function) (N : News h₀ L s.heap tl) (hs : ∀ p ∈ dl, p ∈ tl) (hm : (b, listOf vs.toArray n) ∈ tl) (hD : DatAll dl vs (pD c)) (hc : c.length ≤ 5) (hdp : dp + 16 < recursionLimit) (hun : un + 120 < cLine)
  (ret : ∀ h' tk' t, Fr h₀ L h' m → News h₀ L h' tl → Q (.int (total (szB z) c) t) { s with heap := h', toks := tk' }) :
  wpAny (model PySem.Challenge.rw_ki0005_01.row.prog w) (ktrTop dp un gd cn cs L a ccd cl outer) (call (.ref 1070) [.ref b, .bool z]) Q E s := by
  cases z with
  | true => exact h_room_true B F X T hk N hs hm hD hc hdp hun ret
  | false => exact h_room_false B F X T hk N hs hm hD hc hdp hun ret
-- Hq2
theorem qD_cons {news : Led} {vq : List Value} {k : Int} {q : List Int} (h : DatAll news vq (qD (k :: q))) : ∃ t vq', vq = .int k t :: vq' ∧ DatAll news vq' (qD q) := by
  cases h with
  | cons h r => cases h; exact ⟨_, _, rfl, r⟩
/-- the two lists that a loop stores -/
noncomputable def PQR (bs dl : Led) (K : List (Int × Int) × List Int → Prop) (p : List (Int × Int) × List Int) (v1 v2 : Value) (nx : Led) : Prop :=
  ∃ bp bq vp vq np nq, v1 = .ref bp ∧ v2 = .ref bq ∧ nx = (bp, listOf vp.toArray np) :: (bq, listOf vq.toArray nq) :: bs ∧ DatAll dl vp (pD p.1) ∧ DatAll [] vq (qD p.2) ∧ K p
theorem while_pq {prog : Program} {w : World} {A : Around} {E : Value → Shared → Prop} {Q : Flow → Shared → Prop} {s : Shared} {env : Env} {h₀ : Heap} {L : Addr} {test : PySem.Expr} {body : List Stmt} {pos : Pos} {m : Str → Option Value} {bs dl : Led} {b bq : Addr} {vs vq : List Value} {n nq : Nat}
    (y1 y2 : Str) (K : List (Int × Int) × List Int → Prop) (c : List (Int × Int)) (q : List Int)
    (N : News h₀ L s.heap ((b, listOf vs.toArray n) :: (bq, listOf vq.toArray nq) :: bs)) (hD : DatAll dl vs (pD c)) (hDq : DatAll [] vq (qD q)) (hK : K (c, q)) (F : Fr h₀ L s.heap m) (hy1 : m y1 = some (.ref b)) (hy2 : m y2 = some (.ref bq))
    (turn : ∀ c q bp bq vp vq np nq h tk, Fr h₀ L h (fun z => if z = y1 then some (.ref bp) else if z = y2 then some (.ref bq) else m z) → News h₀ L h ((bp, listOf vp.toArray np) :: (bq, listOf vq.toArray nq) :: bs) → DatAll dl vp (pD c) → DatAll [] vq (qD q) → K (c, q) →
      wpAny (model prog w) A (isTrue test env (eval test env)) (fun b s₂ =>
        if b = true then wpAny (model prog w) A (execs body env) (TwoPost h₀ L m y1 y2 (PQR bs dl K) (fun p => p.2.length) s Q (c, q)) E s₂ else Q .next s₂) E { s with heap := h, toks := tk })
    (hE : PassesOwn (model prog w) A env E := by passes_own) :
    wpAny (model prog w) A (exec (.While test body [] pos) env) Q E s := by
  refine while_two y1 y2 (PQR bs dl K) (fun p => p.2.length) (c, q) F N hy1 hy2 ⟨_, _, _, _, _, _, rfl, rfl, rfl, hD, hDq, hK⟩ ?_ hE
  rintro ⟨c', q'⟩ v1 v2 nx h tk F₁ N₁ hb9
  refine Classical.byContradiction fun hn9 => ?_
  obtain ⟨bp, bq', vp, vq', np, nq', rfl, rfl, rfl, hD', hDq', hK'⟩ := hb9
  refine hn9 ?_; clear hn9
  exact turn c' q' bp bq' vp vq' np nq' h tk F₁ N₁ hD' hDq' hK'
noncomputable abbrev tup3 (a b c : Addr) (n : Nat) : Obj := { cls := .type "tuple", data := .seq [Value.ref a, Value.ref b, Value.ref c].toArray n }
theorem put_new {dl d : Led} {vp : List Value} {c : List (Int × Int)} {key value : Int} {r : Addr} {ta tb : Tok} {n : Nat} (h : DatAll dl vp (pD c)) (hb : aHas c key = false) (hr : (r, pairO key value ta tb n) ∈ d) : DatAll (dl ++ d) (vp ++ [.ref r]) (pD (aPut c key value)) := by
  unfold aPut
  rw [if_neg (by rw [hb]; decide), pD_append]
  exact (h.mono fun p hp => List.mem_append_left _ hp).append (pD_one (List.mem_append_right _ hr))
theorem qput_new {vq : List Value} {c : List (Int × Int)} {q : List Int} {key : Int} {t : Tok} {ag : Bool} {sz : Int → Int} (h : DatAll [] vq (qD q)) (hb : aHas c key = false) (G : Core sz c q) : DatAll [] (vq ++ [.int key t]) (qD (putQ ag c q key)) := by
  unfold putQ
  rw [if_pos (.inr hb), qDel_none (fun e => by rw [(G.kq key).mpr e] at hb; cases hb)]
  unfold qD
  rw [List.map_append]
  exact h.append (.cons (.int _ _) .nil)
noncomputable def SizeEnd (h₀ : Heap) (L : Addr) (m : Str → Option Value) (s : Shared) (news : Led) (v : Int) (f : Flow) (s' : Shared) : Prop :=
  f = .next ∧ ∃ h' tk' t, s' = { s with heap := h', toks := tk' } ∧ Fr h₀ L h' (fun y => if y = Str.ofString "size" then some (.int v t) else m y) ∧ News h₀ L h' news
section
variable {M : Model} {A : Around} {st : Stmt} {rest : List Stmt} {env : Env} {Q : Flow → Shared → Prop} {E : Value → Shared → Prop} {s : Shared} {h₀ : Heap} {L : Addr} {m m' : Str → Option Value} {news : Led} {v : Int}
theorem SizeEnd.intro {h' : Heap} {tk' : Nat} {t : Tok} (F : Fr h₀ L h' m') (e : m' = fun y => if y = Str.ofString "size" then some (.int v t) else m y) (N : News h₀ L h' news) : SizeEnd h₀ L m s news v .next { s with heap := h', toks := tk' } := ⟨rfl, h', tk', t, rfl, e ▸ F, N⟩
/-- the weight, told once for both ways -/
theorem cut_size (v : Int) (F : Fr h₀ L s.heap m) (N : News h₀ L s.heap news) (h1 : wpAny M A (exec st env) (SizeEnd h₀ L m s news v) E s)
    (h2 : ∀ h' tk' t, Fr h₀ L h' (fun y => if y = Str.ofString "size" then some (.int v t) else m y) → News h₀ L h' news → wpAny M A (execs rest env) Q E { s with heap := h', toks := tk' }) : wpAny M A (execs (st :: rest) env) Q E s :=
  wpAny_execs_cons (wpAny_mono h1 (fun f s' h => by obtain ⟨rfl, h', tk', t, rfl, F', N'⟩ := h; exact h2 h' tk' t F' N') fun _ _ z => z)
end
theorem qD_get {vq : List Value} {q : List Int} (h : DatAll [] vq (qD q)) {i : Nat} {v : Value} (hv : vq[i]? = some v) : ∃ k t, q[i]? = some k ∧ v = .int k t := by
  have hi : i < (qD q).length := by rw [← h.length]; exact (List.getElem?_eq_some_iff.mp hv).1
  obtain ⟨v', hv', hd⟩ := h.get hi
  rw [hv] at hv'
  cases hv'
  have hi' : i < q.length := by unfold qD at hi; rwa [List.length_map] at hi
  rw [show (qD q)[i] = .int q[i] by simp [qD]] at hd
  cases hd
  exact ⟨_, _, List.getElem?_eq_getElem hi', rfl⟩
theorem qDel_next {q : List Int} {i : Nat} {k key : Int} (hc : q[i]? = some k) : qDel (q.take (i + 1)) key = qDel (q.take i) key ++ (if k = key then [] else [k]) := by
  unfold qDel
  rw [List.take_add_one, hc, List.filter_append, Option.toList]
  by_cases h : k = key
  · simp [h]
  · simp [h]
theorem qD_keep {zs : List Value} {q : List Int} {i : Nat} {k key : Int} {t : Tok} (hI : DatAll [] zs (qD (qDel (q.take i) key))) (hc : q[i]? = some k) (hk : k ≠ key) : DatAll [] (zs ++ [.int k t]) (qD (qDel (q.take (i + 1)) key)) := by
  rw [qDel_next hc, if_neg hk]
  unfold qD at hI ⊢
  rw [List.map_append]
  exact hI.append (.cons (.int _ _) .nil)
theorem qD_drop {zs : List Value} {q : List Int} {i : Nat} {k key : Int} (hI : DatAll [] zs (qD (qDel (q.take i) key))) (hc : q[i]? = some k) (hk : k = key) : DatAll [] zs (qD (qDel (q.take (i + 1)) key)) := by
  rw [qDel_next hc, if_pos hk, List.append_nil]
  exact hI
theorem qD_last {zs : List Value} {q : List Int} {key : Int} {t : Tok} (hI : DatAll [] zs (qD q)) : DatAll [] (zs ++ [.int key t]) (qD (q ++ [key])) := by
  unfold qD at hI ⊢
  rw [List.map_append]
  exact hI.append (.cons (.int _ _) .nil)
theorem put_map {c : List (Int × Int)} {key value : Int} (h : aHas c key = true) : aPut c key value = c.map fun p => if p.1 = key then (p.1, value) else p := by unfold aPut; rw [if_pos h]
theorem compEnd_new {h₀ : Heap} {L I C D r : Addr} {m : Str → Option Value} {s₁ : Shared} {oI oC o : Obj} {ys : List Value} {S : Led → Prop} {rest : Value → Led → Prop} {h' : Heap} {tk : Nat} {all base d : Led}
    (F : Fr h₀ L h' m) (N : News h₀ L h' ((r, o) :: all)) (hs : ∀ p ∈ (I, oI) :: (C, oC) :: (D, LCg.lst ys) :: (base ++ d), p ∈ all) (off : LCg.Off3 I C D (base ++ d)) (hne : (@Ne Nat r I) ∧ (@Ne Nat r C) ∧ (@Ne Nat r D)) (hS : S (base ++ (d ++ [(r, o)]))) (hr : rest (.ref r) (base ++ (d ++ [(r, o)]))) :
    LCg.CompEnd h₀ L m s₁ I oI C oC D (LCg.lst ys) S rest (.ref r) { s₁ with heap := h', toks := tk } := by
  refine LCg.CompEnd.intro F N (base ++ (d ++ [(r, o)])) (fun p hp => ?_) (LCg.Off3.of fun p hp => ?_) hS hr
  · simp only [List.mem_cons, List.mem_append, List.not_mem_nil, or_false] at hp
    rcases hp with rfl | rfl | rfl | hp | hp | rfl
    · exact .tail _ (hs _ (.head _))
    · exact .tail _ (hs _ (.tail _ (.head _)))
    · exact .tail _ (hs _ (.tail _ (.tail _ (.head _))))
    · exact .tail _ (hs _ (.tail _ (.tail _ (.tail _ (List.mem_append_left _ hp)))))
    · exact .tail _ (hs _ (.tail _ (.tail _ (.tail _ (List.mem_append_right _ hp)))))
    · exact .head _
  · simp only [List.mem_append, List.mem_cons, List.not_mem_nil, or_false] at hp
    rcases hp with hp | hp | rfl
    · exact off.mem p (List.mem_append_left _ hp)
    · exact off.mem p (List.mem_append_right _ hp)
    · exact hne
theorem map_snoc {dl d : Led} {ys : List Value} {c : List (Int × Int)} {i : Nat} {key value k x : Int} {r : Addr} {ta tb : Tok} {n : Nat} (hI : DatAll (dl ++ d) ys (pD ((c.take i).map fun p => if p.1 = key then (p.1, value) else p))) (hc : c[i]? = some (k, x)) (hk : ¬ k = key) (hr : (r, pairO k x ta tb n) ∈ dl) :
    DatAll (dl ++ d) (ys ++ [.ref r]) (pD ((c.take (i + 1)).map fun p => if p.1 = key then (p.1, value) else p)) := by
  rw [map_next hc, pD_append, if_neg hk]
  exact hI.append (pD_one (List.mem_append_left _ hr))
theorem map_snoc_new {dl d : Led} {ys : List Value} {c : List (Int × Int)} {i : Nat} {key value k x : Int} {r : Addr} {ta tb : Tok} {n : Nat} (hI : DatAll (dl ++ d) ys (pD ((c.take i).map fun p => if p.1 = key then (p.1, value) else p))) (hc : c[i]? = some (k, x)) (hk : k = key) :
    DatAll (dl ++ (d ++ [(r, pairO key value ta tb n)])) (ys ++ [.ref r]) (pD ((c.take (i + 1)).map fun p => if p.1 = key then (p.1, value) else p)) := by
  rw [map_next hc, pD_append, if_pos hk, show (k, x).1 = key from hk]
  refine (hI.mono fun p hp => ?_).append (pD_one (List.mem_append_right _ (List.mem_append_right _ (.head _))))
  rcases List.mem_append.mp hp with h | h
  · exact List.mem_append_left _ h
  · exact List.mem_append_right _ (List.mem_append_left _ h)
set_option maxHeartbeats 4000000 in
theorem h_put {w : World} {p : Program} {loose : List Str} {mean : ExcName → Option Value} {mg mb : Str → Option Value} {dp un : Nat} {gd : Option (List Code)} {cn : Str} {cs : Scope} {a : Addr} {ccd : Value} {cl : List (Str × Addr)} {outer : List Env} {A₀ : Around} {base h₀ : Heap} {L : Addr} {m : Str → Option Value} {s : Shared} {Q E : Value → Shared → Prop}
  {b bq : Addr} {n nq : Nat} {vs vq : List Value} {dl tl : Led} {c : List (Int × Int)} {q : List Int} {room key value : Int} {tr tk tv : Tok} {ag z : Bool}
  (B : Below A₀ base outer h₀) (F : Fr h₀ L s.heap m) (X : (Mine.K0 w.params).In h₀) (T : Top p loose mean mg mb h₀) (hk : cs.kind = .function)
  (N : News h₀ L s.heap tl) (hs : ∀ p ∈ dl, p ∈ tl) (hm : (b, listOf vs.toArray n) ∈ tl) (hmq : (bq, listOf vq.toArray nq) ∈ tl) (hD : DatAll dl vs (pD c)) (hDq : DatAll [] vq (qD q)) (G : Core (szB z) c q) (hdp : dp + 30 < recursionLimit) (hun : un + 240 < cLine)
  (no : ¬ Fits (szB z) room value → ∀ h' tk' r ra t na n', Fr h₀ L h' m → News h₀ L h' ((r, tup3 ra b bq n') :: (ra, listOf [Value.str (Str.ofString "refused") t].toArray na) :: tl) → Q (.ref r) { s with heap := h', toks := tk' })
  (ok : Fits (szB z) room value → ∀ h' tk' r ra rp rq vp vq' na np nq' n' d, Fr h₀ L h' m → News h₀ L h' ((r, tup3 ra rp rq n') :: (ra, listOf ([] : List Value).toArray na) :: (rp, listOf vp.toArray np) :: (rq, listOf vq'.toArray nq') :: (tl ++ d)) → Tups d →
    DatAll (dl ++ d) vp (pD (aPut (evict (szB z) room ((szB z) value) key c q).1 key value)) → DatAll [] vq' (qD (putQ ag (evict (szB z) room ((szB z) value) key c q).1 (evict (szB z) room ((szB z) value) key c q).2 key)) → Q (.ref r) { s with heap := h', toks := tk' }) :
  wpAny (model PySem.Challenge.rw_ki0005_01.row.prog w) (ktrTop dp un gd cn cs L a ccd cl outer) (call (.ref 1075) [.ref b, .ref bq, .int room tr, .bool z, .bool ag, .int key tk, .int value tv]) Q E s := by
  have hlen := G.len
  have hlenq := G.lenq
  replace N := kst_newsOf (l' := (b, listOf vs.toArray n) :: (bq, listOf vq.toArray nq) :: tl) N (List.forall_mem_cons.mpr ⟨hm, List.forall_mem_cons.mpr ⟨hmq, fun q hq => hq⟩⟩)
  (refine wpAny_call ?_; k_dflt (refine' enDC (Prod.fst ((fun (y : Str) => (if y = Str.ofString "again" then some (.bool ag) else if y = Str.ofString "sized" then some (.bool z) else if y = Str.ofString "room" then some (.int room tr) else if y = Str.ofString "queue" then some (.ref bq) else if y = Str.ofString "pairs" then some (.ref b) else none : Option Value)), (fun (y : Str) => (if y = Str.ofString "value" then some (.int value tv) else if y = Str.ofString "key" then some (.int key tk) else none : Option Value)))) (Prod.snd ((fun (y : Str) => (if y = Str.ofString "again" then some (.bool ag) else if y = Str.ofString "sized" then some (.bool z) else if y = Str.ofString "room" then some (.int room tr) else if y = Str.ofString "queue" then some (.ref bq) else if y = Str.ofString "pairs" then some (.ref b) else none : Option Value)), (fun (y : Str) => (if y = Str.ofString "value" then some (.int value tv) else if y = Str.ofString "key" then some (.int key tk) else none : Option Value)))) ?k1 ?k2 ?k3 ?k4 ?k5 ?kA ?kF ?kK ?k6 ?k7 ?k8 ?k9 ?kB ?kD ?kM ?kN ?_ ?c2 ?c3 ?c4; (case kA => exact rfl); (case kF => exact rfl); (case kK => first | exact rfl | assumption); (case k1 => k_asm); (case k2 => k_asm); (case k3 => k_asm); (case k4 => k_asm); (case k5 => k_asm); (case k6 => k_is); (case k7 => k_is); (case k8 => ktr_room); (case k9 => first | exact BindsTo.of_eq rfl | exact binds_K (by k_in) rfl (by k_is) rfl rfl rfl); (case kB => exact rfl); (case kD => decide +kernel); (case kM => (intro L'; funext y; rfl)); (case kN => (intro L'; funext y; rfl)); (case c2 => exact rfl); (case c3 => exact rfl); (case c4 => exact rfl); k_whole; intro g' L' h' tk' cells' FG' F' N' Y' B' X' T' l1; (try k_lt l1); k_cells Y'; (try simp only [List.cons_append, List.nil_append] at N'); (try dsimp only); (try dsimp only at F'); (try k_fold)))
  refine cut_size ((szB z) value) (by assumption) (by assumption) ?_ ?_
  · cases z with
    | true =>
      (repeat' (first | (k_unfold; (try dsimp only)) | ((with_reducible show wpAny _ _ (call _ _) _ _ _); first | k_invariant "r" (1070, h_room) | k_invariant "r" (1065, h_value) | k_invariant "r" (1058, h_without) | k_invariant "r" (1053, h_size)) | ((with_reducible show wpAny _ _ (compareOp CmpOp.Eq (Value.ref _) (Value.ref _)) _ _ _); apply eq_empty; (case N => k_asm); (case Da => with_reducible assumption); (case ma | mb => k_mem); (case hu => ktr_room); k_whole) | ((with_reducible show wpAny _ _ (subscriptTail _ (Expr.Slice _ _ _ _) (Value.ref _) (Value.ref _)) _ _ _); refine slice_tail (by k_asm) (by k_asm) (by k_mem) (by assumption) (by kmk_part) (by kmk_part) ?_ (by with_unfolding_all rfl) (by kmk_pure); k_whole; intro D' h' F' N') | ((with_reducible show wpAny _ _ (binaryOp Operator.Add (Value.ref _) (Value.ref _)) _ _ _); refine list_add (by k_asm) (by k_asm) (by k_mem) (by k_mem) (by first | exact le51 (by assumption) | (simp only [List.length_cons, List.length_nil, List.length_append]; omega)) ?_; k_whole; intro D' h' F' N') | walk1 | dsimp only | (leave1; try dsimp only)))
      exact SizeEnd.intro (by assumption) rfl (by assumption)
    | false =>
      (repeat' (first | (k_unfold; (try dsimp only)) | ((with_reducible show wpAny _ _ (call _ _) _ _ _); first | k_invariant "r" (1070, h_room) | k_invariant "r" (1065, h_value) | k_invariant "r" (1058, h_without) | k_invariant "r" (1053, h_size)) | ((with_reducible show wpAny _ _ (compareOp CmpOp.Eq (Value.ref _) (Value.ref _)) _ _ _); apply eq_empty; (case N => k_asm); (case Da => with_reducible assumption); (case ma | mb => k_mem); (case hu => ktr_room); k_whole) | ((with_reducible show wpAny _ _ (subscriptTail _ (Expr.Slice _ _ _ _) (Value.ref _) (Value.ref _)) _ _ _); refine slice_tail (by k_asm) (by k_asm) (by k_mem) (by assumption) (by kmk_part) (by kmk_part) ?_ (by with_unfolding_all rfl) (by kmk_pure); k_whole; intro D' h' F' N') | ((with_reducible show wpAny _ _ (binaryOp Operator.Add (Value.ref _) (Value.ref _)) _ _ _); refine list_add (by k_asm) (by k_asm) (by k_mem) (by k_mem) (by first | exact le51 (by assumption) | (simp only [List.length_cons, List.length_nil, List.length_append]; omega)) ?_; k_whole; intro D' h' F' N') | walk1 | dsimp only | (leave1; try dsimp only)))
      exact SizeEnd.intro (by assumption) rfl (by assumption)
  intro h₂ tk₂ t₂ F₂ N₂
  by_cases h0 : Fits (szB z) room value
  · replace ok := ok h0
    obtain ⟨h0, h1⟩ := h0
    clear no
    (repeat' ((fail_if_success (with_reducible show wpAny _ _ (exec (Stmt.For _ _ _ _ _) _) _ _ _)); (fail_if_success (with_reducible show wpAny _ _ (exec (Stmt.While _ _ _ _) _) _ _ _)); (fail_if_success (with_reducible show wpAny _ _ (pyIter _) _ _ _)); (fail_if_success (with_reducible show SearchPost _ _ _ _ _ _ _ _ _ _ _)); (fail_if_success (with_reducible show AnyPost _ _ _ _ _ _ _ _ _)); (fail_if_success (with_reducible show LCt.CompRestT _ _ _ _ _ _ _ _ _ _ _ _ _ _ _ _ _ _ _ _)); (fail_if_success (with_reducible show LCg.CompEnd _ _ _ _ _ _ _ _ _ _ _ _ _ _)); (fail_if_success (with_reducible show LCg.CompRest _ _ _ _ _ _ _ _ _ _ _ _ _ _ _ _ _ _ _)); first | (k_unfold; (try dsimp only)) | ((with_reducible show wpAny _ _ (call _ _) _ _ _); first | k_invariant "r" (1070, h_room) | k_invariant "r" (1065, h_value) | k_invariant "r" (1058, h_without) | k_invariant "r" (1053, h_size)) | ((with_reducible show wpAny _ _ (compareOp CmpOp.Eq (Value.ref _) (Value.ref _)) _ _ _); apply eq_empty; (case N => k_asm); (case Da => with_reducible assumption); (case ma | mb => k_mem); (case hu => ktr_room); k_whole) | ((with_reducible show wpAny _ _ (subscriptTail _ (Expr.Slice _ _ _ _) (Value.ref _) (Value.ref _)) _ _ _); refine slice_tail (by k_asm) (by k_asm) (by k_mem) (by assumption) (by kmk_part) (by kmk_part) ?_ (by with_unfolding_all rfl) (by kmk_pure); k_whole; intro D' h' F' N') | ((with_reducible show wpAny _ _ (binaryOp Operator.Add (Value.ref _) (Value.ref _)) _ _ _); refine list_add (by k_asm) (by k_asm) (by k_mem) (by k_mem) (by first | exact le51 (by assumption) | (simp only [List.length_cons, List.length_nil, List.length_append]; omega)) ?_; k_whole; intro D' h' F' N') | walk1 | dsimp only | (leave1; try dsimp only)))
    (with_reducible rename News _ _ _ _ => hN9)
    have N2 := kst_newsOf (l' := (b, listOf vs.toArray n) :: (bq, listOf vq.toArray nq) :: _) hN9 (List.forall_mem_cons.mpr ⟨by k_mem, List.forall_mem_cons.mpr ⟨by k_mem, fun q hq => hq⟩⟩)
    refine' while_pq (Str.ofString "pairs") (Str.ofString "queue") (fun p => Core (szB z) p.1 p.2 ∧ evict (szB z) room ((szB z) value) key p.1 p.2 = evict (szB z) room ((szB z) value) key c q) c q N2 hD hDq ⟨G, rfl⟩ ?F ?h1 ?h2 ?_
    case F => assumption
    case h1 => rfl
    case h2 => rfl
    rintro c' q' bp bq' vp vq' np nq' h tk F₁ N₁ hD' hDq' ⟨G', e'⟩
    dsimp only at G' e'
    have hlen' := G'.len
    have hlenq' := G'.lenq
    have hld' : (aDel c' key).length ≤ 5 := Nat.le_trans (List.length_filter_le _ _) hlen'
    clear hN9 N2
    by_cases hgo : total (szB z) (aDel c' key) + (szB z) value > room
    · obtain ⟨k, q'', hq9⟩ := G'.more h0 hgo
      subst hq9
      obtain ⟨t9, vq'', rfl, hDq''⟩ := qD_cons hDq'
      have hz9 : (Value.int k t9 :: vq'').length ≤ 5 := by have := hDq'.length; unfold qD at this; rw [List.length_map] at this; rw [this]; exact hlenq'
      have hgo2 : room < total (szB z) (aDel c' key) + (szB z) value := hgo
      (repeat' (first | (k_unfold; (try dsimp only)) | ((with_reducible show wpAny _ _ (call _ _) _ _ _); first | k_invariant "r" (1070, h_room) | k_invariant "r" (1065, h_value) | k_invariant "r" (1058, h_without) | k_invariant "r" (1053, h_size)) | ((with_reducible show wpAny _ _ (compareOp CmpOp.Eq (Value.ref _) (Value.ref _)) _ _ _); apply eq_empty; (case N => k_asm); (case Da => with_reducible assumption); (case ma | mb => k_mem); (case hu => ktr_room); k_whole) | ((with_reducible show wpAny _ _ (subscriptTail _ (Expr.Slice _ _ _ _) (Value.ref _) (Value.ref _)) _ _ _); refine slice_tail (by k_asm) (by k_asm) (by k_mem) (by assumption) (by kmk_part) (by kmk_part) ?_ (by with_unfolding_all rfl) (by kmk_pure); k_whole; intro D' h' F' N') | ((with_reducible show wpAny _ _ (binaryOp Operator.Add (Value.ref _) (Value.ref _)) _ _ _); refine list_add (by k_asm) (by k_asm) (by k_mem) (by k_mem) (by first | exact le51 (by assumption) | (simp only [List.length_cons, List.length_nil, List.length_append]; omega)) ?_; k_whole; intro D' h' F' N') | walk1 | dsimp only | (leave1; try dsimp only)))
      exact TwoEnd.intro (aDel c' k, q'') _ (by assumption) rfl rfl (fun z h1 h2 => by simp only [if_neg h1, if_neg h2]) (by walk_at "my news") ⟨_, _, _, _, _, _, rfl, rfl, rfl, by assumption, hDq'', G'.pop, by rw [← e', evict_go hgo]⟩ (Nat.lt_succ_self _)
    · have hgo2 : ¬ room < total (szB z) (aDel c' key) + (szB z) value := hgo
      have hvp : vp.length ≤ 5 := by rw [hD'.length, pD_len]; exact hlen'
      have hvq : vq'.length ≤ 5 := by have := hDq'.length; unfold qD at this; rw [List.length_map] at this; rw [this]; exact hlenq'
      have e2 : evict (szB z) room ((szB z) value) key c q = (c', q') := by rw [← e', evict_stop hgo]
      rw [e2] at ok
      dsimp only at ok
      cases hb : aHas c' key with
      | false =>
        (repeat' (first | (k_unfold; (try dsimp only)) | ((with_reducible show wpAny _ _ (call _ _) _ _ _); first | k_invariant "r" (1070, h_room) | k_invariant "r" (1065, h_value) | k_invariant "r" (1058, h_without) | k_invariant "r" (1053, h_size)) | ((with_reducible show wpAny _ _ (compareOp CmpOp.Eq (Value.ref _) (Value.ref _)) _ _ _); apply eq_empty; (case N => k_asm); (case Da => with_reducible assumption); (case ma | mb => k_mem); (case hu => ktr_room); k_whole) | ((with_reducible show wpAny _ _ (subscriptTail _ (Expr.Slice _ _ _ _) (Value.ref _) (Value.ref _)) _ _ _); refine slice_tail (by k_asm) (by k_asm) (by k_mem) (by assumption) (by kmk_part) (by kmk_part) ?_ (by with_unfolding_all rfl) (by kmk_pure); k_whole; intro D' h' F' N') | ((with_reducible show wpAny _ _ (binaryOp Operator.Add (Value.ref _) (Value.ref _)) _ _ _); refine list_add (by k_asm) (by k_asm) (by k_mem) (by k_mem) (by first | exact le51 (by assumption) | (simp only [List.length_cons, List.length_nil, List.length_append]; omega)) ?_; k_whole; intro D' h' F' N') | walk1 | dsimp only | (leave1; try dsimp only)))
        exact ok _ _ _ _ _ _ _ _ _ _ _ _ [_] (by assumption) (by walk_at "my news") (Tups.cons rfl Tups.nil) (put_new hD' hb (.head _)) (qput_new hDq' hb G')
      | true =>
        (repeat' ((fail_if_success (with_reducible show LCt.CompRestT _ _ _ _ _ _ _ _ _ _ _ _ _ _ _ _ _ _ _ _)); (fail_if_success (with_reducible show LCg.CompRest _ _ _ _ _ _ _ _ _ _ _ _ _ _ _ _ _ _ _)); first | (k_unfold; (try dsimp only)) | ((with_reducible show wpAny _ _ (call _ _) _ _ _); first | k_invariant "r" (1070, h_room) | k_invariant "r" (1065, h_value) | k_invariant "r" (1058, h_without) | k_invariant "r" (1053, h_size)) | ((with_reducible show wpAny _ _ (compareOp CmpOp.Eq (Value.ref _) (Value.ref _)) _ _ _); apply eq_empty; (case N => k_asm); (case Da => with_reducible assumption); (case ma | mb => k_mem); (case hu => ktr_room); k_whole) | ((with_reducible show wpAny _ _ (subscriptTail _ (Expr.Slice _ _ _ _) (Value.ref _) (Value.ref _)) _ _ _); refine slice_tail (by k_asm) (by k_asm) (by k_mem) (by assumption) (by kmk_part) (by kmk_part) ?_ (by with_unfolding_all rfl) (by kmk_pure); k_whole; intro D' h' F' N') | ((with_reducible show wpAny _ _ (binaryOp Operator.Add (Value.ref _) (Value.ref _)) _ _ _); refine list_add (by k_asm) (by k_asm) (by k_mem) (by k_mem) (by first | exact le51 (by assumption) | (simp only [List.length_cons, List.length_nil, List.length_append]; omega)) ?_; k_whole; intro D' h' F' N') | walk1 | dsimp only | (leave1; try dsimp only)))
        refine comp_U_grow (fun i ys d => Tups d ∧ DatAll (dl ++ d) ys (pD ((c'.take i).map (fun p => if p.1 = key then (p.1, value) else p)))) ?_ ?_ ?_
        · rintro i v ys d I oI C oC D m₂ h tk E' hi hv ⟨hT, hI⟩ hC hx F₁ N₁ off ne
          refine Classical.byContradiction fun hn9 => ?_
          obtain ⟨k, x, r, ta, tb, n9, hci, rfl, hr⟩ := pD_get hD' (show vp[i]? = some v by simpa using hv)
          refine hn9 ?_; clear hn9
          have hr2 := hs _ hr
          have N₂ := kst_newsOf (l' := (r, pairO k x ta tb n9) :: _) N₁ (List.forall_mem_cons.mpr ⟨by simp only [List.cons_append, List.mem_cons, List.mem_append]; simp [hr2], fun q hq => hq⟩)
          clear N₁
          simp only [List.cons_append] at N₂
          by_cases hkk : k = key
          · have hk9 : (k == key) = true := beq_iff_eq.mpr hkk
            (repeat' ((fail_if_success (with_reducible show SearchPost _ _ _ _ _ _ _ _ _ _ _)); (fail_if_success (with_reducible show AnyPost _ _ _ _ _ _ _ _ _)); (fail_if_success (with_reducible show LCt.CompRestT _ _ _ _ _ _ _ _ _ _ _ _ _ _ _ _ _ _ _ _)); (fail_if_success (with_reducible show LCg.CompEnd _ _ _ _ _ _ _ _ _ _ _ _ _ _)); (fail_if_success (with_reducible show LCg.CompRest _ _ _ _ _ _ _ _ _ _ _ _ _ _ _ _ _ _ _)); first | (k_unfold; (try dsimp only)) | ((with_reducible show wpAny _ _ (call _ _) _ _ _); first | k_invariant "r" (1070, h_room) | k_invariant "r" (1065, h_value) | k_invariant "r" (1058, h_without) | k_invariant "r" (1053, h_size)) | ((with_reducible show wpAny _ _ (compareOp CmpOp.Eq (Value.ref _) (Value.ref _)) _ _ _); apply eq_empty; (case N => k_asm); (case Da => with_reducible assumption); (case ma | mb => k_mem); (case hu => ktr_room); k_whole) | ((with_reducible show wpAny _ _ (subscriptTail _ (Expr.Slice _ _ _ _) (Value.ref _) (Value.ref _)) _ _ _); refine slice_tail (by k_asm) (by k_asm) (by k_mem) (by assumption) (by kmk_part) (by kmk_part) ?_ (by with_unfolding_all rfl) (by kmk_pure); k_whole; intro D' h' F' N') | ((with_reducible show wpAny _ _ (binaryOp Operator.Add (Value.ref _) (Value.ref _)) _ _ _); refine list_add (by k_asm) (by k_asm) (by k_mem) (by k_mem) (by first | exact le51 (by assumption) | (simp only [List.length_cons, List.length_nil, List.length_append]; omega)) ?_; k_whole; intro D' h' F' N') | walk1 | dsimp only | (leave1; try dsimp only)))
            all_goals first
              | (exfalso; exact absurd hkk (by assumption))
              | exact compEnd_new (by assumption) (by assumption) (fun p hp => .tail _ hp) off ⟨by k_ne, by k_ne, by k_ne⟩ (.inr ⟨_, by k_mem, rfl, _, rfl⟩) ⟨d ++ [_], rfl, hT.append (Tups.cons rfl Tups.nil), map_snoc_new hI hci hkk⟩
          · have hk9 : (k == key) = false := beq_eq_false_iff_ne.mpr hkk
            (repeat' ((fail_if_success (with_reducible show SearchPost _ _ _ _ _ _ _ _ _ _ _)); (fail_if_success (with_reducible show AnyPost _ _ _ _ _ _ _ _ _)); (fail_if_success (with_reducible show LCt.CompRestT _ _ _ _ _ _ _ _ _ _ _ _ _ _ _ _ _ _ _ _)); (fail_if_success (with_reducible show LCg.CompEnd _ _ _ _ _ _ _ _ _ _ _ _ _ _)); (fail_if_success (with_reducible show LCg.CompRest _ _ _ _ _ _ _ _ _ _ _ _ _ _ _ _ _ _ _)); first | (k_unfold; (try dsimp only)) | ((with_reducible show wpAny _ _ (call _ _) _ _ _); first | k_invariant "r" (1070, h_room) | k_invariant "r" (1065, h_value) | k_invariant "r" (1058, h_without) | k_invariant "r" (1053, h_size)) | ((with_reducible show wpAny _ _ (compareOp CmpOp.Eq (Value.ref _) (Value.ref _)) _ _ _); apply eq_empty; (case N => k_asm); (case Da => with_reducible assumption); (case ma | mb => k_mem); (case hu => ktr_room); k_whole) | ((with_reducible show wpAny _ _ (subscriptTail _ (Expr.Slice _ _ _ _) (Value.ref _) (Value.ref _)) _ _ _); refine slice_tail (by k_asm) (by k_asm) (by k_mem) (by assumption) (by kmk_part) (by kmk_part) ?_ (by with_unfolding_all rfl) (by kmk_pure); k_whole; intro D' h' F' N') | ((with_reducible show wpAny _ _ (binaryOp Operator.Add (Value.ref _) (Value.ref _)) _ _ _); refine list_add (by k_asm) (by k_asm) (by k_mem) (by k_mem) (by first | exact le51 (by assumption) | (simp only [List.length_cons, List.length_nil, List.length_append]; omega)) ?_; k_whole; intro D' h' F' N') | walk1 | dsimp only | (leave1; try dsimp only)))
            all_goals first
              | (exfalso; exact hkk (by assumption))
              | exact LCg.CompEnd.intro (by assumption) (by assumption) _ (fun p hp => .tail _ hp) off (.inr ⟨_, by k_mem, rfl, _, rfl⟩) ⟨d, rfl, hT, map_snoc hI hci hkk hr⟩
        · rintro ys d ⟨hT, hI⟩
          rw [List.take_of_length_le (by rw [List.size_toArray, hD'.length, pD_len]; exact Nat.le_refl _), ← put_map hb] at hI
          intro D h tk F₁ N₁ o1
          have hys : ys.length ≤ 5 := by rw [hI.length, pD_len]; unfold aPut; rw [if_pos hb, List.length_map]; exact hlen'
          cases ag with
          | false =>
            rw [show putQ false c' q' key = q' from if_neg (by rw [hb]; decide)] at ok
            (repeat' (first | (k_unfold; (try dsimp only)) | ((with_reducible show wpAny _ _ (call _ _) _ _ _); first | k_invariant "r" (1070, h_room) | k_invariant "r" (1065, h_value) | k_invariant "r" (1058, h_without) | k_invariant "r" (1053, h_size)) | ((with_reducible show wpAny _ _ (compareOp CmpOp.Eq (Value.ref _) (Value.ref _)) _ _ _); apply eq_empty; (case N => k_asm); (case Da => with_reducible assumption); (case ma | mb => k_mem); (case hu => ktr_room); k_whole) | ((with_reducible show wpAny _ _ (subscriptTail _ (Expr.Slice _ _ _ _) (Value.ref _) (Value.ref _)) _ _ _); refine slice_tail (by k_asm) (by k_asm) (by k_mem) (by assumption) (by kmk_part) (by kmk_part) ?_ (by with_unfolding_all rfl) (by kmk_pure); k_whole; intro D' h' F' N') | ((with_reducible show wpAny _ _ (binaryOp Operator.Add (Value.ref _) (Value.ref _)) _ _ _); refine list_add (by k_asm) (by k_asm) (by k_mem) (by k_mem) (by first | exact le51 (by assumption) | (simp only [List.length_cons, List.length_nil, List.length_append]; omega)) ?_; k_whole; intro D' h' F' N') | walk1 | dsimp only | (leave1; try dsimp only)))
            exact ok _ _ _ _ _ _ _ _ _ _ _ _ d (by assumption) (by walk_at "my news") hT hI hDq'
          | true =>
            rw [show putQ true c' q' key = qDel q' key ++ [key] from if_pos (.inl rfl)] at ok
            (repeat' ((fail_if_success (with_reducible show LCt.CompRestT _ _ _ _ _ _ _ _ _ _ _ _ _ _ _ _ _ _ _ _)); (fail_if_success (with_reducible show LCg.CompRest _ _ _ _ _ _ _ _ _ _ _ _ _ _ _ _ _ _ _)); first | (k_unfold; (try dsimp only)) | ((with_reducible show wpAny _ _ (call _ _) _ _ _); first | k_invariant "r" (1070, h_room) | k_invariant "r" (1065, h_value) | k_invariant "r" (1058, h_without) | k_invariant "r" (1053, h_size)) | ((with_reducible show wpAny _ _ (compareOp CmpOp.Eq (Value.ref _) (Value.ref _)) _ _ _); apply eq_empty; (case N => k_asm); (case Da => with_reducible assumption); (case ma | mb => k_mem); (case hu => ktr_room); k_whole) | ((with_reducible show wpAny _ _ (subscriptTail _ (Expr.Slice _ _ _ _) (Value.ref _) (Value.ref _)) _ _ _); refine slice_tail (by k_asm) (by k_asm) (by k_mem) (by assumption) (by kmk_part) (by kmk_part) ?_ (by with_unfolding_all rfl) (by kmk_pure); k_whole; intro D' h' F' N') | ((with_reducible show wpAny _ _ (binaryOp Operator.Add (Value.ref _) (Value.ref _)) _ _ _); refine list_add (by k_asm) (by k_asm) (by k_mem) (by k_mem) (by first | exact le51 (by assumption) | (simp only [List.length_cons, List.length_nil, List.length_append]; omega)) ?_; k_whole; intro D' h' F' N') | walk1 | dsimp only | (leave1; try dsimp only)))
            refine comp_T_same (fun i zs => DatAll [] zs (qD (qDel (q'.take i) key))) ?_ ?_ .nil
            · intro i v zs I oI C oC D₂ m₂ h tk E' hi hv hI₂ hC hx F₁ N₁ off ne
              obtain ⟨k, t, hci, rfl⟩ := qD_get hDq' (show vq'[i]? = some v by simpa using hv)
              (repeat' ((fail_if_success (with_reducible show SearchPost _ _ _ _ _ _ _ _ _ _ _)); (fail_if_success (with_reducible show AnyPost _ _ _ _ _ _ _ _ _)); (fail_if_success (with_reducible show LCt.CompRestT _ _ _ _ _ _ _ _ _ _ _ _ _ _ _ _ _ _ _ _)); (fail_if_success (with_reducible show LCg.CompEnd _ _ _ _ _ _ _ _ _ _ _ _ _ _)); (fail_if_success (with_reducible show LCg.CompRest _ _ _ _ _ _ _ _ _ _ _ _ _ _ _ _ _ _ _)); first | (k_unfold; (try dsimp only)) | ((with_reducible show wpAny _ _ (call _ _) _ _ _); first | k_invariant "r" (1070, h_room) | k_invariant "r" (1065, h_value) | k_invariant "r" (1058, h_without) | k_invariant "r" (1053, h_size)) | ((with_reducible show wpAny _ _ (compareOp CmpOp.Eq (Value.ref _) (Value.ref _)) _ _ _); apply eq_empty; (case N => k_asm); (case Da => with_reducible assumption); (case ma | mb => k_mem); (case hu => ktr_room); k_whole) | ((with_reducible show wpAny _ _ (subscriptTail _ (Expr.Slice _ _ _ _) (Value.ref _) (Value.ref _)) _ _ _); refine slice_tail (by k_asm) (by k_asm) (by k_mem) (by assumption) (by kmk_part) (by kmk_part) ?_ (by with_unfolding_all rfl) (by kmk_pure); k_whole; intro D' h' F' N') | ((with_reducible show wpAny _ _ (binaryOp Operator.Add (Value.ref _) (Value.ref _)) _ _ _); refine list_add (by k_asm) (by k_asm) (by k_mem) (by k_mem) (by first | exact le51 (by assumption) | (simp only [List.length_cons, List.length_nil, List.length_append]; omega)) ?_; k_whole; intro D' h' F' N') | walk1 | dsimp only | (leave1; try dsimp only)))
              all_goals first
                | exact LCg.CompEnd.intro (by assumption) (by assumption) _ (fun p hp => hp) off (.inr ⟨_, by k_mem, rfl, _, rfl⟩) ⟨rfl, qD_keep hI₂ hci (by assumption)⟩
                | exact LCg.CompEnd.intro (by assumption) (by assumption) _ (fun p hp => hp) off (.inr ⟨_, by k_mem, rfl, _, rfl⟩) ⟨rfl, qD_drop hI₂ hci (by omega)⟩
            · intro zs hI₂
              rw [List.take_of_length_le (by rw [List.size_toArray, hDq'.length]; unfold qD; rw [List.length_map]; exact Nat.le_refl _)] at hI₂
              have hzs : zs.length ≤ 5 := by rw [hI₂.length]; unfold qD; rw [List.length_map]; exact Nat.le_trans (List.length_filter_le _ _) hlenq'
              intro D₂ h tk F₁ N₁ o1
              (repeat' (first | (k_unfold; (try dsimp only)) | ((with_reducible show wpAny _ _ (call _ _) _ _ _); first | k_invariant "r" (1070, h_room) | k_invariant "r" (1065, h_value) | k_invariant "r" (1058, h_without) | k_invariant "r" (1053, h_size)) | ((with_reducible show wpAny _ _ (compareOp CmpOp.Eq (Value.ref _) (Value.ref _)) _ _ _); apply eq_empty; (case N => k_asm); (case Da => with_reducible assumption); (case ma | mb => k_mem); (case hu => ktr_room); k_whole) | ((with_reducible show wpAny _ _ (subscriptTail _ (Expr.Slice _ _ _ _) (Value.ref _) (Value.ref _)) _ _ _); refine slice_tail (by k_asm) (by k_asm) (by k_mem) (by assumption) (by kmk_part) (by kmk_part) ?_ (by with_unfolding_all rfl) (by kmk_pure); k_whole; intro D' h' F' N') | ((with_reducible show wpAny _ _ (binaryOp Operator.Add (Value.ref _) (Value.ref _)) _ _ _); refine list_add (by k_asm) (by k_asm) (by k_mem) (by k_mem) (by first | exact le51 (by assumption) | (simp only [List.length_cons, List.length_nil, List.length_append]; omega)) ?_; k_whole; intro D' h' F' N') | walk1 | dsimp only | (leave1; try dsimp only)))
              exact ok _ _ _ _ _ _ _ _ _ _ _ _ d (by assumption) (by walk_at "my news") hT hI (qD_last hI₂)
        · exact ⟨Tups.nil, .nil⟩
  · replace no := no h0
    clear ok
    have h2 : room < (szB z) value ∨ (szB z) value < 0 := not_fits h0
    (repeat' ((fail_if_success (with_reducible show SearchPost _ _ _ _ _ _ _ _ _ _ _)); (fail_if_success (with_reducible show AnyPost _ _ _ _ _ _ _ _ _)); (fail_if_success (with_reducible show LCt.CompRestT _ _ _ _ _ _ _ _ _ _ _ _ _ _ _ _ _ _ _ _)); (fail_if_success (with_reducible show LCg.CompEnd _ _ _ _ _ _ _ _ _ _ _ _ _ _)); (fail_if_success (with_reducible show LCg.CompRest _ _ _ _ _ _ _ _ _ _ _ _ _ _ _ _ _ _ _)); first | (k_unfold; (try dsimp only)) | ((with_reducible show wpAny _ _ (call _ _) _ _ _); first | k_invariant "r" (1070, h_room) | k_invariant "r" (1065, h_value) | k_invariant "r" (1058, h_without) | k_invariant "r" (1053, h_size)) | ((with_reducible show wpAny _ _ (compareOp CmpOp.Eq (Value.ref _) (Value.ref _)) _ _ _); apply eq_empty; (case N => k_asm); (case Da => with_reducible assumption); (case ma | mb => k_mem); (case hu => ktr_room); k_whole) | ((with_reducible show wpAny _ _ (subscriptTail _ (Expr.Slice _ _ _ _) (Value.ref _) (Value.ref _)) _ _ _); refine slice_tail (by k_asm) (by k_asm) (by k_mem) (by assumption) (by kmk_part) (by kmk_part) ?_ (by with_unfolding_all rfl) (by kmk_pure); k_whole; intro D' h' F' N') | ((with_reducible show wpAny _ _ (binaryOp Operator.Add (Value.ref _) (Value.ref _)) _ _ _); refine list_add (by k_asm) (by k_asm) (by k_mem) (by k_mem) (by first | exact le51 (by assumption) | (simp only [List.length_cons, List.length_nil, List.length_append]; omega)) ?_; k_whole; intro D' h' F' N') | walk1 | dsimp only | (leave1; try dsimp only)))
    all_goals exact no _ _ _ _ _ _ _ (by assumption) (by walk_at "my news")
-- HuC
theorem h_value_ok {w : World} {p : Program} {loose : List Str} {mean : ExcName → Option Value} {mg mb : Str → Option Value} {dp un : Nat} {gd : Option (List Code)} {cn : Str} {cs : Scope} {a : Addr} {ccd : Value} {cl : List (Str × Addr)} {outer : List Env} {A₀ : Around} {base h₀ : Heap} {L : Addr} {m : Str → Option Value} {s : Shared} {Q E : Value → Shared → Prop} {b : Addr} {n : Nat} {vs : List Value} {dl tl : Led} {c : List (Int × Int)} {key : Int} {tk : Tok} {v : Int}
  (B : Below A₀ base outer h₀) (F : Fr h₀ L s.heap m) (X : (Mine.K0 w.params).In h₀) (T : Top p loose mean mg mb h₀) (hk : cs.kind = .function) (N : News h₀ L s.heap tl) (hs : ∀ p ∈ dl, p ∈ tl) (hm : (b, listOf vs.toArray n) ∈ tl) (hD : DatAll dl vs (pD c)) (hc : c.length ≤ 5) (hl : aLook c key = some v) (hdp : dp + 8 < recursionLimit) (hun : un + 60 < cLine)
  (ret : ∀ h' tk' r n' t, Fr h₀ L h' m → News h₀ L h' ((r, listOf [Value.int v t].toArray n') :: tl) → Q (.ref r) { s with heap := h', toks := tk' }) :
  wpAny (model PySem.Challenge.rw_ki0005_01.row.prog w) (ktrTop dp un gd cn cs L a ccd cl outer) (call (.ref 1065) [.ref b, .int key tk]) Q E s :=
  h_value B F X T hk N hs hm hD hc hdp hun fun h' tk' r vs' n' F' N' D' => by
    unfold valD at D'
    rw [hl] at D'
    cases D' with
    | cons h1 h2 => cases h2; cases h1; exact ret _ _ _ _ _ F' N'
theorem h_value_no {w : World} {p : Program} {loose : List Str} {mean : ExcName → Option Value} {mg mb : Str → Option Value} {dp un : Nat} {gd : Option (List Code)} {cn : Str} {cs : Scope} {a : Addr} {ccd : Value} {cl : List (Str × Addr)} {outer : List Env} {A₀ : Around} {base h₀ : Heap} {L : Addr} {m : Str → Option Value} {s : Shared} {Q E : Value → Shared → Prop} {b : Addr} {n : Nat} {vs : List Value} {dl tl : Led} {c : List (Int × Int)} {key : Int} {tk : Tok}
  (B : Below A₀ base outer h₀) (F : Fr h₀ L s.heap m) (X : (Mine.K0 w.params).In h₀) (T : Top p loose mean mg mb h₀) (hk : cs.kind = .function) (N : News h₀ L s.heap tl) (hs : ∀ p ∈ dl, p ∈ tl) (hm : (b, listOf vs.toArray n) ∈ tl) (hD : DatAll dl vs (pD c)) (hc : c.length ≤ 5) (hh : aHas c key = false) (hdp : dp + 8 < recursionLimit) (hun : un + 60 < cLine)
  (ret : ∀ h' tk' r n', Fr h₀ L h' m → News h₀ L h' ((r, listOf ([] : List Value).toArray n') :: tl) → Q (.ref r) { s with heap := h', toks := tk' }) :
  wpAny (model PySem.Challenge.rw_ki0005_01.row.prog w) (ktrTop dp un gd cn cs L a ccd cl outer) (call (.ref 1065) [.ref b, .int key tk]) Q E s :=
  h_value B F X T hk N hs hm hD hc hdp hun fun h' tk' r vs' n' F' N' D' => by
    rw [valD_nil.mpr hh] at D'
    cases D'
    exact ret _ _ _ _ F' N'
/-- a list of plain values -/
noncomputable def Plain (xs : List Value) : Prop := ∃ ds, DatAll [] xs ds ∧ ∀ d ∈ ds, kqdOk 8 d = true
theorem Plain.nil : Plain [] := ⟨[], .nil, List.forall_mem_nil _⟩
theorem Plain.int {i : Int} {t : Tok} : Plain [.int i t] := ⟨[.int i], .cons (.int _ _) .nil, by intro d h; cases h with | head => rfl | tail _ h => cases h⟩
theorem Plain.str {x : Str} {t : Tok} (h : PyData.strOk x = true) : Plain [.str x t] := ⟨[.str x], .cons (.str _ _) .nil, by intro d hd; cases hd with | head => (simp [kqdOk, h]) | tail _ h => cases h⟩
theorem Plain.queue {vq : List Value} {q : List Int} (h : DatAll [] vq (qD q)) : Plain vq := ⟨_, h, by intro d hd; obtain ⟨x, _, rfl⟩ := List.mem_map.mp hd; rfl⟩
theorem Plain.cons {vq : List Value} {q : List Int} {i : Int} {t : Tok} (h : DatAll [] vq (qD q)) : Plain (.int i t :: vq) := Plain.queue (q := i :: q) (.cons (.int _ _) h)
section
variable {prog : Program} {w : World} {A : Around} {E : Value → Shared → Prop} {s : Shared} {h₀ : Heap} {L a b : Addr} {news : List (Addr × Obj)} {xs : List Value} {ka kb : Nat} {Q : Value → Shared → Prop}
theorem isE_dec {xs : List Value} {ds : List Dat} {D : Decidable (ds = [])} (h : DatAll [] xs ds) : @decide (ds = []) D = xs.isEmpty := by cases h <;> simp
theorem eq_isE (N : News h₀ L s.heap news) (ma : (a, listOf xs.toArray ka) ∈ news) (P : Plain xs) (mb : (b, listOf ([] : List Value).toArray kb) ∈ news) (hu : A.units + 64 < cLine) (h : Q (.bool xs.isEmpty) s) :
    wpAny (model prog w) A (compareOp .Eq (.ref a) (.ref b)) Q E s := by
  obtain ⟨ds, Da, k⟩ := P
  exact kqd_eq (n₁ := []) (n₂ := []) N ma rfl rfl Da (List.forall_mem_nil _) mb rfl rfl .nil (List.forall_mem_nil _) k (List.forall_mem_nil _) hu (by rw [isE_dec Da]; exact h)
theorem ne_isE (N : News h₀ L s.heap news) (ma : (a, listOf xs.toArray ka) ∈ news) (P : Plain xs) (mb : (b, listOf ([] : List Value).toArray kb) ∈ news) (hu : A.units + 64 < cLine) (h : Q (.bool (!xs.isEmpty)) s) :
    wpAny (model prog w) A (compareOp .NotEq (.ref a) (.ref b)) Q E s := by
  obtain ⟨ds, Da, k⟩ := P
  exact kqd_ne (n₁ := []) (n₂ := []) N ma rfl rfl Da (List.forall_mem_nil _) mb rfl rfl .nil (List.forall_mem_nil _) k (List.forall_mem_nil _) hu (by rw [isE_dec Da]; exact h)
end
theorem iteT {P R : Prop} (h : P) : if true = true then P else R := by rw [if_pos rfl]; exact h
theorem h_put_no {w : World} {p : Program} {loose : List Str} {mean : ExcName → Option Value} {mg mb : Str → Option Value} {dp un : Nat} {gd : Option (List Code)} {cn : Str} {cs : Scope} {a : Addr} {ccd : Value} {cl : List (Str × Addr)} {outer : List Env} {A₀ : Around} {base h₀ : Heap} {L : Addr} {m : Str → Option Value} {s : Shared} {Q E : Value → Shared → Prop} {b bq : Addr} {n nq : Nat} {vs vq : List Value} {dl tl : Led} {c : List (Int × Int)} {q : List Int} {room key value : Int} {tr tk tv : Tok} {ag z : Bool}
  (B : Below A₀ base outer h₀) (F : Fr h₀ L s.heap m) (X : (Mine.K0 w.params).In h₀) (T : Top p loose mean mg mb h₀) (hk : cs.kind = .function) (N : News h₀ L s.heap tl) (hs : ∀ p ∈ dl, p ∈ tl) (hm : (b, listOf vs.toArray n) ∈ tl) (hmq : (bq, listOf vq.toArray nq) ∈ tl) (hD : DatAll dl vs (pD c)) (hDq : DatAll [] vq (qD q)) (G : Core (szB z) c q) (hf : ¬ Fits (szB z) room value) (hdp : dp + 30 < recursionLimit) (hun : un + 240 < cLine)
  (ret : ∀ h' tk' r ra t na n', Fr h₀ L h' m → News h₀ L h' ((r, tup3 ra b bq n') :: (ra, listOf [Value.str (Str.ofString "refused") t].toArray na) :: tl) → Q (.ref r) { s with heap := h', toks := tk' }) :
  wpAny (model PySem.Challenge.rw_ki0005_01.row.prog w) (ktrTop dp un gd cn cs L a ccd cl outer) (call (.ref 1075) [.ref b, .ref bq, .int room tr, .bool z, .bool ag, .int key tk, .int value tv]) Q E s := h_put B F X T hk N hs hm hmq hD hDq G hdp hun (fun _ => ret) fun h => absurd h hf
theorem h_put_ok {w : World} {p : Program} {loose : List Str} {mean : ExcName → Option Value} {mg mb : Str → Option Value} {dp un : Nat} {gd : Option (List Code)} {cn : Str} {cs : Scope} {a : Addr} {ccd : Value} {cl : List (Str × Addr)} {outer : List Env} {A₀ : Around} {base h₀ : Heap} {L : Addr} {m : Str → Option Value} {s : Shared} {Q E : Value → Shared → Prop} {b bq : Addr} {n nq : Nat} {vs vq : List Value} {dl tl : Led} {c : List (Int × Int)} {q : List Int} {room key value : Int} {tr tk tv : Tok} {ag z : Bool}
  (B : Below A₀ base outer h₀) (F : Fr h₀ L s.heap m) (X : (Mine.K0 w.params).In h₀) (T : Top p loose mean mg mb h₀) (hk : cs.kind = .function) (N : News h₀ L s.heap tl) (hs : ∀ p ∈ dl, p ∈ tl) (hm : (b, listOf vs.toArray n) ∈ tl) (hmq : (bq, listOf vq.toArray nq) ∈ tl) (hD : DatAll dl vs (pD c)) (hDq : DatAll [] vq (qD q)) (G : Core (szB z) c q) (hf : Fits (szB z) room value) (hdp : dp + 30 < recursionLimit) (hun : un + 240 < cLine)
  (ret : ∀ h' tk' r ra rp rq vp vq' na np nq' n' d, Fr h₀ L h' m → News h₀ L h' ((r, tup3 ra rp rq n') :: (ra, listOf ([] : List Value).toArray na) :: (rp, listOf vp.toArray np) :: (rq, listOf vq'.toArray nq') :: (tl ++ d)) → Tups d →
    DatAll (dl ++ d) vp (pD (aPut (evict (szB z) room ((szB z) value) key c q).1 key value)) → DatAll [] vq' (qD (putQ ag (evict (szB z) room ((szB z) value) key c q).1 (evict (szB z) room ((szB z) value) key c q).2 key)) → Q (.ref r) { s with heap := h', toks := tk' }) :
  wpAny (model PySem.Challenge.rw_ki0005_01.row.prog w) (ktrTop dp un gd cn cs L a ccd cl outer) (call (.ref 1075) [.ref b, .ref bq, .int room tr, .bool z, .bool ag, .int key tk, .int value tv]) Q E s := h_put B F X T hk N hs hm hmq hD hDq G hdp hun (fun h => absurd hf h) fun _ => ret
set_option maxHeartbeats 4000000 in
theorem due_set {w : World} {p : Program} {loose : List Str} {mean : ExcName → Option Value} {mg mb : Str → Option Value} {dp un : Nat} {gd : Option (List Code)} {cn : Str} {cs : Scope} {a : Addr} {ccd : Value} {cl : List (Str × Addr)} {outer : List Env} {A₀ : Around} {base h₀ : Heap} {L : Addr} {m : Str → Option Value} {s : Shared} {Q E : Value → Shared → Prop} {b bq : Addr} {n nq : Nat} {vs vq : List Value} {dl tl : Led} {c : List (Int × Int)} {q : List Int} {room key value : Int} {tr tk tv : Tok} {ag z : Bool} {td : Tok}
  (B : Below A₀ base outer h₀) (F : Fr h₀ L s.heap m) (X : (Mine.K0 w.params).In h₀) (T : Top p loose mean mg mb h₀) (hk : cs.kind = .function) (N : News h₀ L s.heap tl) (hs : ∀ p ∈ dl, p ∈ tl) (hm : (b, listOf vs.toArray n) ∈ tl) (hmq : (bq, listOf vq.toArray nq) ∈ tl) (hD : DatAll dl vs (pD c)) (hDq : DatAll [] vq (qD q)) (I : Inv (szB z) room ag c q) {deed : Int} (hd : deed < 2) (hf : Fits (szB z) room value) (hdp : dp + 60 < recursionLimit) (hun : un + 400 < cLine)
  (ret : ∀ h' tk' r ra rp rq va vp vq' na np nq' n' d, Fr h₀ L h' m → News h₀ L h' ((r, tup3 ra rp rq n') :: (ra, listOf va.toArray na) :: (rp, listOf vp.toArray np) :: (rq, listOf vq'.toArray nq') :: (tl ++ d)) → Tups d → DatAll (dl ++ d) va (stepS (szB z) room ag c q deed key value).1 → DatAll (dl ++ d) vp (pD (stepS (szB z) room ag c q deed key value).2.1) → DatAll [] vq' (qD (stepS (szB z) room ag c q deed key value).2.2) → Q (.ref r) { s with heap := h', toks := tk' }) :
  wpAny (model PySem.Challenge.rw_ki0005_01.row.prog w) (ktrTop dp un gd cn cs L a ccd cl outer) (call (.ref 1087) [.ref b, .ref bq, .int room tr, .bool z, .bool ag, .int deed td, .int key tk, .int value tv]) Q E s := by
  have G := I.core
  have hlen := G.len
  have hlenq := G.lenq
  have hD0 : ∀ d, DatAll (dl ++ d) vs (pD c) := fun d => hD.mono fun p hp => List.mem_append_left _ hp
  have hd6 : ¬ deed = 6 := by omega
  have hv9 : True := trivial
  have e9 : (stepS (szB z) room ag c q deed key value) = ([], aPut (evict (szB z) room ((szB z) value) key c q).1 key value, putQ ag (evict (szB z) room ((szB z) value) key c q).1 (evict (szB z) room ((szB z) value) key c q).2 key) := by
    unfold stepS putS; rw [if_pos hd, if_pos hf]
  rw [e9] at ret
  replace N := kst_newsOf (l' := (b, listOf vs.toArray n) :: (bq, listOf (vq).toArray nq) :: tl) N (List.forall_mem_cons.mpr ⟨hm, List.forall_mem_cons.mpr ⟨hmq, fun q hq => hq⟩⟩)
  (refine wpAny_call ?_; k_dflt (refine' enDC (Prod.fst ((fun (y : Str) => (if y = Str.ofString "value" then some (.int value tv) else if y = Str.ofString "deed" then some (.int deed td) else if y = Str.ofString "again" then some (.bool ag) else if y = Str.ofString "sized" then some (.bool z) else if y = Str.ofString "room" then some (.int room tr) else if y = Str.ofString "queue" then some (.ref bq) else if y = Str.ofString "pairs" then some (.ref b) else none : Option Value)), (fun (y : Str) => (if y = Str.ofString "key" then some (.int key tk) else none : Option Value)))) (Prod.snd ((fun (y : Str) => (if y = Str.ofString "value" then some (.int value tv) else if y = Str.ofString "deed" then some (.int deed td) else if y = Str.ofString "again" then some (.bool ag) else if y = Str.ofString "sized" then some (.bool z) else if y = Str.ofString "room" then some (.int room tr) else if y = Str.ofString "queue" then some (.ref bq) else if y = Str.ofString "pairs" then some (.ref b) else none : Option Value)), (fun (y : Str) => (if y = Str.ofString "key" then some (.int key tk) else none : Option Value)))) ?k1 ?k2 ?k3 ?k4 ?k5 ?kA ?kF ?kK ?k6 ?k7 ?k8 ?k9 ?kB ?kD ?kM ?kN ?_ ?c2 ?c3 ?c4; (case kA => exact rfl); (case kF => exact rfl); (case kK => first | exact rfl | assumption); (case k1 => k_asm); (case k2 => k_asm); (case k3 => k_asm); (case k4 => k_asm); (case k5 => k_asm); (case k6 => k_is); (case k7 => k_is); (case k8 => ktr_room); (case k9 => first | exact BindsTo.of_eq rfl | exact binds_K (by k_in) rfl (by k_is) rfl rfl rfl); (case kB => exact rfl); (case kD => decide +kernel); (case kM => (intro L'; funext y; rfl)); (case kN => (intro L'; funext y; rfl)); (case c2 => exact rfl); (case c3 => exact rfl); (case c4 => exact rfl); k_whole; intro g' L' h' tk' cells' FG' F' N' Y' B' X' T' l1; (try k_lt l1); k_cells Y'; (try simp only [List.cons_append, List.nil_append] at N'); (try dsimp only); (try dsimp only at F'); (try k_fold)))
  (repeat' ((fail_if_success (with_reducible show SearchPost _ _ _ _ _ _ _ _ _ _ _)); (fail_if_success (with_reducible show AnyPost _ _ _ _ _ _ _ _ _)); (fail_if_success (with_reducible show LCt.CompRestT _ _ _ _ _ _ _ _ _ _ _ _ _ _ _ _ _ _ _ _)); (fail_if_success (with_reducible show LCg.CompEnd _ _ _ _ _ _ _ _ _ _ _ _ _ _)); (fail_if_success (with_reducible show LCg.CompRest _ _ _ _ _ _ _ _ _ _ _ _ _ _ _ _ _ _ _)); first | (k_unfold; (try dsimp only)) | ((with_reducible show wpAny _ _ (call _ _) _ _ _); first | (k_invariant "r" (1075, h_put_ok); (with_reducible rename News _ _ _ _ => N'); (try simp only [List.cons_append] at N')) | k_invariant "r" (1065, h_value)) | (with_reducible refine iteT ?_) | ((with_reducible show wpAny _ _ (compareOp _ _ (Value.ref _)) _ _ _); ((with_reducible apply eq_isE); (case N => k_asm); (case ma | mb => k_mem); (case P => first | exact Plain.nil | exact Plain.int | exact Plain.str (by kernel_rfl) | exact Plain.queue (by assumption) | exact Plain.cons (by assumption)); (case hu => ktr_room); k_whole; (try simp only [List.isEmpty_cons, List.isEmpty_nil, Bool.not_true, Bool.not_false]))) | walk1 | dsimp only | (leave1; try dsimp only)))
  all_goals first
    | (exfalso; exact hd6 (by assumption))
    | (exfalso; omega)
    | (
      (with_reducible rename Tups _ => hT9)
      exact ret _ _ _ _ _ _ _ _ _ _ _ _ _ _ (by assumption) (by walk_at "my news") hT9 .nil (by assumption) (by assumption))
set_option maxHeartbeats 4000000 in
theorem due_setno {w : World} {p : Program} {loose : List Str} {mean : ExcName → Option Value} {mg mb : Str → Option Value} {dp un : Nat} {gd : Option (List Code)} {cn : Str} {cs : Scope} {a : Addr} {ccd : Value} {cl : List (Str × Addr)} {outer : List Env} {A₀ : Around} {base h₀ : Heap} {L : Addr} {m : Str → Option Value} {s : Shared} {Q E : Value → Shared → Prop} {b bq : Addr} {n nq : Nat} {vs vq : List Value} {dl tl : Led} {c : List (Int × Int)} {q : List Int} {room key value : Int} {tr tk tv : Tok} {ag z : Bool} {td : Tok}
  (B : Below A₀ base outer h₀) (F : Fr h₀ L s.heap m) (X : (Mine.K0 w.params).In h₀) (T : Top p loose mean mg mb h₀) (hk : cs.kind = .function) (N : News h₀ L s.heap tl) (hs : ∀ p ∈ dl, p ∈ tl) (hm : (b, listOf vs.toArray n) ∈ tl) (hmq : (bq, listOf vq.toArray nq) ∈ tl) (hD : DatAll dl vs (pD c)) (hDq : DatAll [] vq (qD q)) (I : Inv (szB z) room ag c q) {deed : Int} (hd : deed < 2) (hf : ¬ Fits (szB z) room value) (hdp : dp + 60 < recursionLimit) (hun : un + 400 < cLine)
  (ret : ∀ h' tk' r ra rp rq va vp vq' na np nq' n' d, Fr h₀ L h' m → News h₀ L h' ((r, tup3 ra rp rq n') :: (ra, listOf va.toArray na) :: (rp, listOf vp.toArray np) :: (rq, listOf vq'.toArray nq') :: (tl ++ d)) → Tups d → DatAll (dl ++ d) va (stepS (szB z) room ag c q deed key value).1 → DatAll (dl ++ d) vp (pD (stepS (szB z) room ag c q deed key value).2.1) → DatAll [] vq' (qD (stepS (szB z) room ag c q deed key value).2.2) → Q (.ref r) { s with heap := h', toks := tk' }) :
  wpAny (model PySem.Challenge.rw_ki0005_01.row.prog w) (ktrTop dp un gd cn cs L a ccd cl outer) (call (.ref 1087) [.ref b, .ref bq, .int room tr, .bool z, .bool ag, .int deed td, .int key tk, .int value tv]) Q E s := by
  have G := I.core
  have hlen := G.len
  have hlenq := G.lenq
  have hD0 : ∀ d, DatAll (dl ++ d) vs (pD c) := fun d => hD.mono fun p hp => List.mem_append_left _ hp
  have hd6 : ¬ deed = 6 := by omega
  have hv9 : True := trivial
  have e9 : (stepS (szB z) room ag c q deed key value) = (refD, c, q) := by
    unfold stepS putS; rw [if_pos hd, if_neg hf]
  rw [e9] at ret
  replace N := kst_newsOf (l' := (b, listOf vs.toArray n) :: (bq, listOf (vq).toArray nq) :: tl) N (List.forall_mem_cons.mpr ⟨hm, List.forall_mem_cons.mpr ⟨hmq, fun q hq => hq⟩⟩)
  (refine wpAny_call ?_; k_dflt (refine' enDC (Prod.fst ((fun (y : Str) => (if y = Str.ofString "value" then some (.int value tv) else if y = Str.ofString "deed" then some (.int deed td) else if y = Str.ofString "again" then some (.bool ag) else if y = Str.ofString "sized" then some (.bool z) else if y = Str.ofString "room" then some (.int room tr) else if y = Str.ofString "queue" then some (.ref bq) else if y = Str.ofString "pairs" then some (.ref b) else none : Option Value)), (fun (y : Str) => (if y = Str.ofString "key" then some (.int key tk) else none : Option Value)))) (Prod.snd ((fun (y : Str) => (if y = Str.ofString "value" then some (.int value tv) else if y = Str.ofString "deed" then some (.int deed td) else if y = Str.ofString "again" then some (.bool ag) else if y = Str.ofString "sized" then some (.bool z) else if y = Str.ofString "room" then some (.int room tr) else if y = Str.ofString "queue" then some (.ref bq) else if y = Str.ofString "pairs" then some (.ref b) else none : Option Value)), (fun (y : Str) => (if y = Str.ofString "key" then some (.int key tk) else none : Option Value)))) ?k1 ?k2 ?k3 ?k4 ?k5 ?kA ?kF ?kK ?k6 ?k7 ?k8 ?k9 ?kB ?kD ?kM ?kN ?_ ?c2 ?c3 ?c4; (case kA => exact rfl); (case kF => exact rfl); (case kK => first | exact rfl | assumption); (case k1 => k_asm); (case k2 => k_asm); (case k3 => k_asm); (case k4 => k_asm); (case k5 => k_asm); (case k6 => k_is); (case k7 => k_is); (case k8 => ktr_room); (case k9 => first | exact BindsTo.of_eq rfl | exact binds_K (by k_in) rfl (by k_is) rfl rfl rfl); (case kB => exact rfl); (case kD => decide +kernel); (case kM => (intro L'; funext y; rfl)); (case kN => (intro L'; funext y; rfl)); (case c2 => exact rfl); (case c3 => exact rfl); (case c4 => exact rfl); k_whole; intro g' L' h' tk' cells' FG' F' N' Y' B' X' T' l1; (try k_lt l1); k_cells Y'; (try simp only [List.cons_append, List.nil_append] at N'); (try dsimp only); (try dsimp only at F'); (try k_fold)))
  (repeat' (first | (k_unfold; (try dsimp only)) | ((with_reducible show wpAny _ _ (call _ _) _ _ _); first | k_invariant "r" (1075, h_put_no) | k_invariant "r" (1065, h_value)) | (with_reducible refine iteT ?_) | ((with_reducible show wpAny _ _ (compareOp _ _ (Value.ref _)) _ _ _); ((with_reducible apply eq_isE); (case N => k_asm); (case ma | mb => k_mem); (case P => first | exact Plain.nil | exact Plain.int | exact Plain.str (by kernel_rfl) | exact Plain.queue (by assumption) | exact Plain.cons (by assumption)); (case hu => ktr_room); k_whole; (try simp only [List.isEmpty_cons, List.isEmpty_nil, Bool.not_true, Bool.not_false]))) | walk1 | dsimp only | (leave1; try dsimp only)))
  exact ret _ _ _ _ _ _ _ _ _ _ _ _ _ [] (by assumption) (by walk_at "my news") Tups.nil (.cons (.str _ _) .nil) (hD0 _) hDq
set_option maxHeartbeats 4000000 in
theorem due2_ok {w : World} {p : Program} {loose : List Str} {mean : ExcName → Option Value} {mg mb : Str → Option Value} {dp un : Nat} {gd : Option (List Code)} {cn : Str} {cs : Scope} {a : Addr} {ccd : Value} {cl : List (Str × Addr)} {outer : List Env} {A₀ : Around} {base h₀ : Heap} {L : Addr} {m : Str → Option Value} {s : Shared} {Q E : Value → Shared → Prop} {b bq : Addr} {n nq : Nat} {vs vq : List Value} {dl tl : Led} {c : List (Int × Int)} {q : List Int} {room key value : Int} {tr tk tv : Tok} {ag z : Bool} {td : Tok}
  (B : Below A₀ base outer h₀) (F : Fr h₀ L s.heap m) (X : (Mine.K0 w.params).In h₀) (T : Top p loose mean mg mb h₀) (hk : cs.kind = .function) (N : News h₀ L s.heap tl) (hs : ∀ p ∈ dl, p ∈ tl) (hm : (b, listOf vs.toArray n) ∈ tl) (hmq : (bq, listOf vq.toArray nq) ∈ tl) (hD : DatAll dl vs (pD c)) (hDq : DatAll [] vq (qD q)) (I : Inv (szB z) room ag c q) {v : Int} (h0 : True) (hl : aLook c key = some v) (hdp : dp + 60 < recursionLimit) (hun : un + 400 < cLine)
  (ret : ∀ h' tk' r ra rp rq va vp vq' na np nq' n' d, Fr h₀ L h' m → News h₀ L h' ((r, tup3 ra rp rq n') :: (ra, listOf va.toArray na) :: (rp, listOf vp.toArray np) :: (rq, listOf vq'.toArray nq') :: (tl ++ d)) → Tups d → DatAll (dl ++ d) va (stepS (szB z) room ag c q 2 key value).1 → DatAll (dl ++ d) vp (pD (stepS (szB z) room ag c q 2 key value).2.1) → DatAll [] vq' (qD (stepS (szB z) room ag c q 2 key value).2.2) → Q (.ref r) { s with heap := h', toks := tk' }) :
  wpAny (model PySem.Challenge.rw_ki0005_01.row.prog w) (ktrTop dp un gd cn cs L a ccd cl outer) (call (.ref 1087) [.ref b, .ref bq, .int room tr, .bool z, .bool ag, .int 2 td, .int key tk, .int value tv]) Q E s := by
  have G := I.core
  have hlen := G.len
  have hlenq := G.lenq
  have hD0 : ∀ d, DatAll (dl ++ d) vs (pD c) := fun d => hD.mono fun p hp => List.mem_append_left _ hp
  have hh : aHas c key = true := aHas_of_look hl
  have hv9 : True := trivial
  have e9 : (stepS (szB z) room ag c q 2 key value) = ([.int v], c, q) := by
    show readS c q key missD = _; unfold readS; rw [hl]
  rw [e9] at ret
  replace N := kst_newsOf (l' := (b, listOf vs.toArray n) :: (bq, listOf (vq).toArray nq) :: tl) N (List.forall_mem_cons.mpr ⟨hm, List.forall_mem_cons.mpr ⟨hmq, fun q hq => hq⟩⟩)
  (refine wpAny_call ?_; k_dflt (refine' enDC (Prod.fst ((fun (y : Str) => (if y = Str.ofString "value" then some (.int value tv) else if y = Str.ofString "deed" then some (.int 2 td) else if y = Str.ofString "again" then some (.bool ag) else if y = Str.ofString "sized" then some (.bool z) else if y = Str.ofString "room" then some (.int room tr) else if y = Str.ofString "queue" then some (.ref bq) else if y = Str.ofString "pairs" then some (.ref b) else none : Option Value)), (fun (y : Str) => (if y = Str.ofString "key" then some (.int key tk) else none : Option Value)))) (Prod.snd ((fun (y : Str) => (if y = Str.ofString "value" then some (.int value tv) else if y = Str.ofString "deed" then some (.int 2 td) else if y = Str.ofString "again" then some (.bool ag) else if y = Str.ofString "sized" then some (.bool z) else if y = Str.ofString "room" then some (.int room tr) else if y = Str.ofString "queue" then some (.ref bq) else if y = Str.ofString "pairs" then some (.ref b) else none : Option Value)), (fun (y : Str) => (if y = Str.ofString "key" then some (.int key tk) else none : Option Value)))) ?k1 ?k2 ?k3 ?k4 ?k5 ?kA ?kF ?kK ?k6 ?k7 ?k8 ?k9 ?kB ?kD ?kM ?kN ?_ ?c2 ?c3 ?c4; (case kA => exact rfl); (case kF => exact rfl); (case kK => first | exact rfl | assumption); (case k1 => k_asm); (case k2 => k_asm); (case k3 => k_asm); (case k4 => k_asm); (case k5 => k_asm); (case k6 => k_is); (case k7 => k_is); (case k8 => ktr_room); (case k9 => first | exact BindsTo.of_eq rfl | exact binds_K (by k_in) rfl (by k_is) rfl rfl rfl); (case kB => exact rfl); (case kD => decide +kernel); (case kM => (intro L'; funext y; rfl)); (case kN => (intro L'; funext y; rfl)); (case c2 => exact rfl); (case c3 => exact rfl); (case c4 => exact rfl); k_whole; intro g' L' h' tk' cells' FG' F' N' Y' B' X' T' l1; (try k_lt l1); k_cells Y'; (try simp only [List.cons_append, List.nil_append] at N'); (try dsimp only); (try dsimp only at F'); (try k_fold)))
  (repeat' (first | (k_unfold; (try dsimp only)) | ((with_reducible show wpAny _ _ (call _ _) _ _ _); k_invariant "r" (1065, h_value_ok)) | ((with_reducible show wpAny _ _ (compareOp _ _ (Value.ref _)) _ _ _); ((with_reducible apply eq_isE); (case N => k_asm); (case ma | mb => k_mem); (case P => first | exact Plain.nil | exact Plain.int | exact Plain.str (by kernel_rfl) | exact Plain.queue (by assumption) | exact Plain.cons (by assumption)); (case hu => ktr_room); k_whole; (try simp only [List.isEmpty_cons, List.isEmpty_nil, Bool.not_true, Bool.not_false]))) | walk1 | dsimp only | (leave1; try dsimp only)))
  exact ret _ _ _ _ _ _ _ _ _ _ _ _ _ [] (by assumption) (by walk_at "my news") Tups.nil (.cons (.int _ _) .nil) (hD0 _) hDq
set_option maxHeartbeats 4000000 in
theorem due2_no {w : World} {p : Program} {loose : List Str} {mean : ExcName → Option Value} {mg mb : Str → Option Value} {dp un : Nat} {gd : Option (List Code)} {cn : Str} {cs : Scope} {a : Addr} {ccd : Value} {cl : List (Str × Addr)} {outer : List Env} {A₀ : Around} {base h₀ : Heap} {L : Addr} {m : Str → Option Value} {s : Shared} {Q E : Value → Shared → Prop} {b bq : Addr} {n nq : Nat} {vs vq : List Value} {dl tl : Led} {c : List (Int × Int)} {q : List Int} {room key value : Int} {tr tk tv : Tok} {ag z : Bool} {td : Tok}
  (B : Below A₀ base outer h₀) (F : Fr h₀ L s.heap m) (X : (Mine.K0 w.params).In h₀) (T : Top p loose mean mg mb h₀) (hk : cs.kind = .function) (N : News h₀ L s.heap tl) (hs : ∀ p ∈ dl, p ∈ tl) (hm : (b, listOf vs.toArray n) ∈ tl) (hmq : (bq, listOf vq.toArray nq) ∈ tl) (hD : DatAll dl vs (pD c)) (hDq : DatAll [] vq (qD q)) (I : Inv (szB z) room ag c q) (v : Int) (h0 : True) (hh : aHas c key = false) (hdp : dp + 60 < recursionLimit) (hun : un + 400 < cLine)
  (ret : ∀ h' tk' r ra rp rq va vp vq' na np nq' n' d, Fr h₀ L h' m → News h₀ L h' ((r, tup3 ra rp rq n') :: (ra, listOf va.toArray na) :: (rp, listOf vp.toArray np) :: (rq, listOf vq'.toArray nq') :: (tl ++ d)) → Tups d → DatAll (dl ++ d) va (stepS (szB z) room ag c q 2 key value).1 → DatAll (dl ++ d) vp (pD (stepS (szB z) room ag c q 2 key value).2.1) → DatAll [] vq' (qD (stepS (szB z) room ag c q 2 key value).2.2) → Q (.ref r) { s with heap := h', toks := tk' }) :
  wpAny (model PySem.Challenge.rw_ki0005_01.row.prog w) (ktrTop dp un gd cn cs L a ccd cl outer) (call (.ref 1087) [.ref b, .ref bq, .int room tr, .bool z, .bool ag, .int 2 td, .int key tk, .int value tv]) Q E s := by
  have G := I.core
  have hlen := G.len
  have hlenq := G.lenq
  have hD0 : ∀ d, DatAll (dl ++ d) vs (pD c) := fun d => hD.mono fun p hp => List.mem_append_left _ hp
  have hn : aLook c key = none := by cases h9 : aLook c key with | none => rfl | some v => rw [aHas_of_look h9] at hh; cases hh
  have hv9 : True := trivial
  have e9 : (stepS (szB z) room ag c q 2 key value) = (missD, c, q) := by
    show readS c q key missD = _; unfold readS; rw [hn]
  rw [e9] at ret
  replace N := kst_newsOf (l' := (b, listOf vs.toArray n) :: (bq, listOf (vq).toArray nq) :: tl) N (List.forall_mem_cons.mpr ⟨hm, List.forall_mem_cons.mpr ⟨hmq, fun q hq => hq⟩⟩)
  (refine wpAny_call ?_; k_dflt (refine' enDC (Prod.fst ((fun (y : Str) => (if y = Str.ofString "value" then some (.int value tv) else if y = Str.ofString "deed" then some (.int 2 td) else if y = Str.ofString "again" then some (.bool ag) else if y = Str.ofString "sized" then some (.bool z) else if y = Str.ofString "room" then some (.int room tr) else if y = Str.ofString "queue" then some (.ref bq) else if y = Str.ofString "pairs" then some (.ref b) else none : Option Value)), (fun (y : Str) => (if y = Str.ofString "key" then some (.int key tk) else none : Option Value)))) (Prod.snd ((fun (y : Str) => (if y = Str.ofString "value" then some (.int value tv) else if y = Str.ofString "deed" then some (.int 2 td) else if y = Str.ofString "again" then some (.bool ag) else if y = Str.ofString "sized" then some (.bool z) else if y = Str.ofString "room" then some (.int room tr) else if y = Str.ofString "queue" then some (.ref bq) else if y = Str.ofString "pairs" then some (.ref b) else none : Option Value)), (fun (y : Str) => (if y = Str.ofString "key" then some (.int key tk) else none : Option Value)))) ?k1 ?k2 ?k3 ?k4 ?k5 ?kA ?kF ?kK ?k6 ?k7 ?k8 ?k9 ?kB ?kD ?kM ?kN ?_ ?c2 ?c3 ?c4; (case kA => exact rfl); (case kF => exact rfl); (case kK => first | exact rfl | assumption); (case k1 => k_asm); (case k2 => k_asm); (case k3 => k_asm); (case k4 => k_asm); (case k5 => k_asm); (case k6 => k_is); (case k7 => k_is); (case k8 => ktr_room); (case k9 => first | exact BindsTo.of_eq rfl | exact binds_K (by k_in) rfl (by k_is) rfl rfl rfl); (case kB => exact rfl); (case kD => decide +kernel); (case kM => (intro L'; funext y; rfl)); (case kN => (intro L'; funext y; rfl)); (case c2 => exact rfl); (case c3 => exact rfl); (case c4 => exact rfl); k_whole; intro g' L' h' tk' cells' FG' F' N' Y' B' X' T' l1; (try k_lt l1); k_cells Y'; (try simp only [List.cons_append, List.nil_append] at N'); (try dsimp only); (try dsimp only at F'); (try k_fold)))
  (repeat' (first | (k_unfold; (try dsimp only)) | ((with_reducible show wpAny _ _ (call _ _) _ _ _); k_invariant "r" (1065, h_value_no)) | (with_reducible refine iteT ?_) | ((with_reducible show wpAny _ _ (compareOp _ _ (Value.ref _)) _ _ _); ((with_reducible apply eq_isE); (case N => k_asm); (case ma | mb => k_mem); (case P => first | exact Plain.nil | exact Plain.int | exact Plain.str (by kernel_rfl) | exact Plain.queue (by assumption) | exact Plain.cons (by assumption)); (case hu => ktr_room); k_whole; (try simp only [List.isEmpty_cons, List.isEmpty_nil, Bool.not_true, Bool.not_false]))) | walk1 | dsimp only | (leave1; try dsimp only)))
  exact ret _ _ _ _ _ _ _ _ _ _ _ _ _ [] (by assumption) (by walk_at "my news") Tups.nil (.cons (.str _ _) .nil) (hD0 _) hDq
set_option maxHeartbeats 4000000 in
theorem due3_ok {w : World} {p : Program} {loose : List Str} {mean : ExcName → Option Value} {mg mb : Str → Option Value} {dp un : Nat} {gd : Option (List Code)} {cn : Str} {cs : Scope} {a : Addr} {ccd : Value} {cl : List (Str × Addr)} {outer : List Env} {A₀ : Around} {base h₀ : Heap} {L : Addr} {m : Str → Option Value} {s : Shared} {Q E : Value → Shared → Prop} {b bq : Addr} {n nq : Nat} {vs vq : List Value} {dl tl : Led} {c : List (Int × Int)} {q : List Int} {room key value : Int} {tr tk tv : Tok} {ag z : Bool} {td : Tok}
  (B : Below A₀ base outer h₀) (F : Fr h₀ L s.heap m) (X : (Mine.K0 w.params).In h₀) (T : Top p loose mean mg mb h₀) (hk : cs.kind = .function) (N : News h₀ L s.heap tl) (hs : ∀ p ∈ dl, p ∈ tl) (hm : (b, listOf vs.toArray n) ∈ tl) (hmq : (bq, listOf vq.toArray nq) ∈ tl) (hD : DatAll dl vs (pD c)) (hDq : DatAll [] vq (qD q)) (I : Inv (szB z) room ag c q) {v : Int} (h0 : True) (hl : aLook c key = some v) (hdp : dp + 60 < recursionLimit) (hun : un + 400 < cLine)
  (ret : ∀ h' tk' r ra rp rq va vp vq' na np nq' n' d, Fr h₀ L h' m → News h₀ L h' ((r, tup3 ra rp rq n') :: (ra, listOf va.toArray na) :: (rp, listOf vp.toArray np) :: (rq, listOf vq'.toArray nq') :: (tl ++ d)) → Tups d → DatAll (dl ++ d) va (stepS (szB z) room ag c q 3 key value).1 → DatAll (dl ++ d) vp (pD (stepS (szB z) room ag c q 3 key value).2.1) → DatAll [] vq' (qD (stepS (szB z) room ag c q 3 key value).2.2) → Q (.ref r) { s with heap := h', toks := tk' }) :
  wpAny (model PySem.Challenge.rw_ki0005_01.row.prog w) (ktrTop dp un gd cn cs L a ccd cl outer) (call (.ref 1087) [.ref b, .ref bq, .int room tr, .bool z, .bool ag, .int 3 td, .int key tk, .int value tv]) Q E s := by
  have G := I.core
  have hlen := G.len
  have hlenq := G.lenq
  have hD0 : ∀ d, DatAll (dl ++ d) vs (pD c) := fun d => hD.mono fun p hp => List.mem_append_left _ hp
  have hh : aHas c key = true := aHas_of_look hl
  have hv9 : True := trivial
  have e9 : (stepS (szB z) room ag c q 3 key value) = ([.bool true], c, q) := by
    show (([.bool (aHas c key)], c, q) : Stp) = _; rw [hh]
  rw [e9] at ret
  replace N := kst_newsOf (l' := (b, listOf vs.toArray n) :: (bq, listOf (vq).toArray nq) :: tl) N (List.forall_mem_cons.mpr ⟨hm, List.forall_mem_cons.mpr ⟨hmq, fun q hq => hq⟩⟩)
  (refine wpAny_call ?_; k_dflt (refine' enDC (Prod.fst ((fun (y : Str) => (if y = Str.ofString "value" then some (.int value tv) else if y = Str.ofString "deed" then some (.int 3 td) else if y = Str.ofString "again" then some (.bool ag) else if y = Str.ofString "sized" then some (.bool z) else if y = Str.ofString "room" then some (.int room tr) else if y = Str.ofString "queue" then some (.ref bq) else if y = Str.ofString "pairs" then some (.ref b) else none : Option Value)), (fun (y : Str) => (if y = Str.ofString "key" then some (.int key tk) else none : Option Value)))) (Prod.snd ((fun (y : Str) => (if y = Str.ofString "value" then some (.int value tv) else if y = Str.ofString "deed" then some (.int 3 td) else if y = Str.ofString "again" then some (.bool ag) else if y = Str.ofString "sized" then some (.bool z) else if y = Str.ofString "room" then some (.int room tr) else if y = Str.ofString "queue" then some (.ref bq) else if y = Str.ofString "pairs" then some (.ref b) else none : Option Value)), (fun (y : Str) => (if y = Str.ofString "key" then some (.int key tk) else none : Option Value)))) ?k1 ?k2 ?k3 ?k4 ?k5 ?kA ?kF ?kK ?k6 ?k7 ?k8 ?k9 ?kB ?kD ?kM ?kN ?_ ?c2 ?c3 ?c4; (case kA => exact rfl); (case kF => exact rfl); (case kK => first | exact rfl | assumption); (case k1 => k_asm); (case k2 => k_asm); (case k3 => k_asm); (case k4 => k_asm); (case k5 => k_asm); (case k6 => k_is); (case k7 => k_is); (case k8 => ktr_room); (case k9 => first | exact BindsTo.of_eq rfl | exact binds_K (by k_in) rfl (by k_is) rfl rfl rfl); (case kB => exact rfl); (case kD => decide +kernel); (case kM => (intro L'; funext y; rfl)); (case kN => (intro L'; funext y; rfl)); (case c2 => exact rfl); (case c3 => exact rfl); (case c4 => exact rfl); k_whole; intro g' L' h' tk' cells' FG' F' N' Y' B' X' T' l1; (try k_lt l1); k_cells Y'; (try simp only [List.cons_append, List.nil_append] at N'); (try dsimp only); (try dsimp only at F'); (try k_fold)))
  (repeat' (first | (k_unfold; (try dsimp only)) | ((with_reducible show wpAny _ _ (call _ _) _ _ _); k_invariant "r" (1065, h_value_ok)) | ((with_reducible show wpAny _ _ (compareOp _ _ (Value.ref _)) _ _ _); ((with_reducible apply ne_isE); (case N => k_asm); (case ma | mb => k_mem); (case P => first | exact Plain.nil | exact Plain.int | exact Plain.str (by kernel_rfl) | exact Plain.queue (by assumption) | exact Plain.cons (by assumption)); (case hu => ktr_room); k_whole; (try simp only [List.isEmpty_cons, List.isEmpty_nil, Bool.not_true, Bool.not_false]))) | walk1 | dsimp only | (leave1; try dsimp only)))
  exact ret _ _ _ _ _ _ _ _ _ _ _ _ _ [] (by assumption) (by walk_at "my news") Tups.nil (.cons (.bool _) .nil) (hD0 _) hDq
set_option maxHeartbeats 4000000 in
theorem due3_no {w : World} {p : Program} {loose : List Str} {mean : ExcName → Option Value} {mg mb : Str → Option Value} {dp un : Nat} {gd : Option (List Code)} {cn : Str} {cs : Scope} {a : Addr} {ccd : Value} {cl : List (Str × Addr)} {outer : List Env} {A₀ : Around} {base h₀ : Heap} {L : Addr} {m : Str → Option Value} {s : Shared} {Q E : Value → Shared → Prop} {b bq : Addr} {n nq : Nat} {vs vq : List Value} {dl tl : Led} {c : List (Int × Int)} {q : List Int} {room key value : Int} {tr tk tv : Tok} {ag z : Bool} {td : Tok}
  (B : Below A₀ base outer h₀) (F : Fr h₀ L s.heap m) (X : (Mine.K0 w.params).In h₀) (T : Top p loose mean mg mb h₀) (hk : cs.kind = .function) (N : News h₀ L s.heap tl) (hs : ∀ p ∈ dl, p ∈ tl) (hm : (b, listOf vs.toArray n) ∈ tl) (hmq : (bq, listOf vq.toArray nq) ∈ tl) (hD : DatAll dl vs (pD c)) (hDq : DatAll [] vq (qD q)) (I : Inv (szB z) room ag c q) (v : Int) (h0 : True) (hh : aHas c key = false) (hdp : dp + 60 < recursionLimit) (hun : un + 400 < cLine)
  (ret : ∀ h' tk' r ra rp rq va vp vq' na np nq' n' d, Fr h₀ L h' m → News h₀ L h' ((r, tup3 ra rp rq n') :: (ra, listOf va.toArray na) :: (rp, listOf vp.toArray np) :: (rq, listOf vq'.toArray nq') :: (tl ++ d)) → Tups d → DatAll (dl ++ d) va (stepS (szB z) room ag c q 3 key value).1 → DatAll (dl ++ d) vp (pD (stepS (szB z) room ag c q 3 key value).2.1) → DatAll [] vq' (qD (stepS (szB z) room ag c q 3 key value).2.2) → Q (.ref r) { s with heap := h', toks := tk' }) :
  wpAny (model PySem.Challenge.rw_ki0005_01.row.prog w) (ktrTop dp un gd cn cs L a ccd cl outer) (call (.ref 1087) [.ref b, .ref bq, .int room tr, .bool z, .bool ag, .int 3 td, .int key tk, .int value tv]) Q E s := by
  have G := I.core
  have hlen := G.len
  have hlenq := G.lenq
  have hD0 : ∀ d, DatAll (dl ++ d) vs (pD c) := fun d => hD.mono fun p hp => List.mem_append_left _ hp
  have hh9 : True := trivial
  have hv9 : True := trivial
  have e9 : (stepS (szB z) room ag c q 3 key value) = ([.bool false], c, q) := by
    show (([.bool (aHas c key)], c, q) : Stp) = _; rw [hh]
  rw [e9] at ret
  replace N := kst_newsOf (l' := (b, listOf vs.toArray n) :: (bq, listOf (vq).toArray nq) :: tl) N (List.forall_mem_cons.mpr ⟨hm, List.forall_mem_cons.mpr ⟨hmq, fun q hq => hq⟩⟩)
  (refine wpAny_call ?_; k_dflt (refine' enDC (Prod.fst ((fun (y : Str) => (if y = Str.ofString "value" then some (.int value tv) else if y = Str.ofString "deed" then some (.int 3 td) else if y = Str.ofString "again" then some (.bool ag) else if y = Str.ofString "sized" then some (.bool z) else if y = Str.ofString "room" then some (.int room tr) else if y = Str.ofString "queue" then some (.ref bq) else if y = Str.ofString "pairs" then some (.ref b) else none : Option Value)), (fun (y : Str) => (if y = Str.ofString "key" then some (.int key tk) else none : Option Value)))) (Prod.snd ((fun (y : Str) => (if y = Str.ofString "value" then some (.int value tv) else if y = Str.ofString "deed" then some (.int 3 td) else if y = Str.ofString "again" then some (.bool ag) else if y = Str.ofString "sized" then some (.bool z) else if y = Str.ofString "room" then some (.int room tr) else if y = Str.ofString "queue" then some (.ref bq) else if y = Str.ofString "pairs" then some (.ref b) else none : Option Value)), (fun (y : Str) => (if y = Str.ofString "key" then some (.int key tk) else none : Option Value)))) ?k1 ?k2 ?k3 ?k4 ?k5 ?kA ?kF ?kK ?k6 ?k7 ?k8 ?k9 ?kB ?kD ?kM ?kN ?_ ?c2 ?c3 ?c4; (case kA => exact rfl); (case kF => exact rfl); (case kK => first | exact rfl | assumption); (case k1 => k_asm); (case k2 => k_asm); (case k3 => k_asm); (case k4 => k_asm); (case k5 => k_asm); (case k6 => k_is); (case k7 => k_is); (case k8 => ktr_room); (case k9 => first | exact BindsTo.of_eq rfl | exact binds_K (by k_in) rfl (by k_is) rfl rfl rfl); (case kB => exact rfl); (case kD => decide +kernel); (case kM => (intro L'; funext y; rfl)); (case kN => (intro L'; funext y; rfl)); (case c2 => exact rfl); (case c3 => exact rfl); (case c4 => exact rfl); k_whole; intro g' L' h' tk' cells' FG' F' N' Y' B' X' T' l1; (try k_lt l1); k_cells Y'; (try simp only [List.cons_append, List.nil_append] at N'); (try dsimp only); (try dsimp only at F'); (try k_fold)))
  (repeat' (first | (k_unfold; (try dsimp only)) | ((with_reducible show wpAny _ _ (call _ _) _ _ _); k_invariant "r" (1065, h_value_no)) | ((with_reducible show wpAny _ _ (compareOp _ _ (Value.ref _)) _ _ _); ((with_reducible apply ne_isE); (case N => k_asm); (case ma | mb => k_mem); (case P => first | exact Plain.nil | exact Plain.int | exact Plain.str (by kernel_rfl) | exact Plain.queue (by assumption) | exact Plain.cons (by assumption)); (case hu => ktr_room); k_whole; (try simp only [List.isEmpty_cons, List.isEmpty_nil, Bool.not_true, Bool.not_false]))) | walk1 | dsimp only | (leave1; try dsimp only)))
  exact ret _ _ _ _ _ _ _ _ _ _ _ _ _ [] (by assumption) (by walk_at "my news") Tups.nil (.cons (.bool _) .nil) (hD0 _) hDq
set_option maxHeartbeats 4000000 in
theorem due4_ok {w : World} {p : Program} {loose : List Str} {mean : ExcName → Option Value} {mg mb : Str → Option Value} {dp un : Nat} {gd : Option (List Code)} {cn : Str} {cs : Scope} {a : Addr} {ccd : Value} {cl : List (Str × Addr)} {outer : List Env} {A₀ : Around} {base h₀ : Heap} {L : Addr} {m : Str → Option Value} {s : Shared} {Q E : Value → Shared → Prop} {b bq : Addr} {n nq : Nat} {vs vq : List Value} {dl tl : Led} {c : List (Int × Int)} {q : List Int} {room key value : Int} {tr tk tv : Tok} {ag z : Bool} {td : Tok}
  (B : Below A₀ base outer h₀) (F : Fr h₀ L s.heap m) (X : (Mine.K0 w.params).In h₀) (T : Top p loose mean mg mb h₀) (hk : cs.kind = .function) (N : News h₀ L s.heap tl) (hs : ∀ p ∈ dl, p ∈ tl) (hm : (b, listOf vs.toArray n) ∈ tl) (hmq : (bq, listOf vq.toArray nq) ∈ tl) (hD : DatAll dl vs (pD c)) (hDq : DatAll [] vq (qD q)) (I : Inv (szB z) room ag c q) {v : Int} (h0 : True) (hl : aLook c key = some v) (hdp : dp + 60 < recursionLimit) (hun : un + 400 < cLine)
  (ret : ∀ h' tk' r ra rp rq va vp vq' na np nq' n' d, Fr h₀ L h' m → News h₀ L h' ((r, tup3 ra rp rq n') :: (ra, listOf va.toArray na) :: (rp, listOf vp.toArray np) :: (rq, listOf vq'.toArray nq') :: (tl ++ d)) → Tups d → DatAll (dl ++ d) va (stepS (szB z) room ag c q 4 key value).1 → DatAll (dl ++ d) vp (pD (stepS (szB z) room ag c q 4 key value).2.1) → DatAll [] vq' (qD (stepS (szB z) room ag c q 4 key value).2.2) → Q (.ref r) { s with heap := h', toks := tk' }) :
  wpAny (model PySem.Challenge.rw_ki0005_01.row.prog w) (ktrTop dp un gd cn cs L a ccd cl outer) (call (.ref 1087) [.ref b, .ref bq, .int room tr, .bool z, .bool ag, .int 4 td, .int key tk, .int value tv]) Q E s := by
  have G := I.core
  have hlen := G.len
  have hlenq := G.lenq
  have hD0 : ∀ d, DatAll (dl ++ d) vs (pD c) := fun d => hD.mono fun p hp => List.mem_append_left _ hp
  have hh : aHas c key = true := aHas_of_look hl
  have hv9 : True := trivial
  have e9 : (stepS (szB z) room ag c q 4 key value) = ([.int v], c, q) := by
    show readS c q key [.int (-7)] = _; unfold readS; rw [hl]
  rw [e9] at ret
  replace N := kst_newsOf (l' := (b, listOf vs.toArray n) :: (bq, listOf (vq).toArray nq) :: tl) N (List.forall_mem_cons.mpr ⟨hm, List.forall_mem_cons.mpr ⟨hmq, fun q hq => hq⟩⟩)
  (refine wpAny_call ?_; k_dflt (refine' enDC (Prod.fst ((fun (y : Str) => (if y = Str.ofString "value" then some (.int value tv) else if y = Str.ofString "deed" then some (.int 4 td) else if y = Str.ofString "again" then some (.bool ag) else if y = Str.ofString "sized" then some (.bool z) else if y = Str.ofString "room" then some (.int room tr) else if y = Str.ofString "queue" then some (.ref bq) else if y = Str.ofString "pairs" then some (.ref b) else none : Option Value)), (fun (y : Str) => (if y = Str.ofString "key" then some (.int key tk) else none : Option Value)))) (Prod.snd ((fun (y : Str) => (if y = Str.ofString "value" then some (.int value tv) else if y = Str.ofString "deed" then some (.int 4 td) else if y = Str.ofString "again" then some (.bool ag) else if y = Str.ofString "sized" then some (.bool z) else if y = Str.ofString "room" then some (.int room tr) else if y = Str.ofString "queue" then some (.ref bq) else if y = Str.ofString "pairs" then some (.ref b) else none : Option Value)), (fun (y : Str) => (if y = Str.ofString "key" then some (.int key tk) else none : Option Value)))) ?k1 ?k2 ?k3 ?k4 ?k5 ?kA ?kF ?kK ?k6 ?k7 ?k8 ?k9 ?kB ?kD ?kM ?kN ?_ ?c2 ?c3 ?c4; (case kA => exact rfl); (case kF => exact rfl); (case kK => first | exact rfl | assumption); (case k1 => k_asm); (case k2 => k_asm); (case k3 => k_asm); (case k4 => k_asm); (case k5 => k_asm); (case k6 => k_is); (case k7 => k_is); (case k8 => ktr_room); (case k9 => first | exact BindsTo.of_eq rfl | exact binds_K (by k_in) rfl (by k_is) rfl rfl rfl); (case kB => exact rfl); (case kD => decide +kernel); (case kM => (intro L'; funext y; rfl)); (case kN => (intro L'; funext y; rfl)); (case c2 => exact rfl); (case c3 => exact rfl); (case c4 => exact rfl); k_whole; intro g' L' h' tk' cells' FG' F' N' Y' B' X' T' l1; (try k_lt l1); k_cells Y'; (try simp only [List.cons_append, List.nil_append] at N'); (try dsimp only); (try dsimp only at F'); (try k_fold)))
  (repeat' (first | (k_unfold; (try dsimp only)) | ((with_reducible show wpAny _ _ (call _ _) _ _ _); k_invariant "r" (1065, h_value_ok)) | ((with_reducible show wpAny _ _ (compareOp _ _ (Value.ref _)) _ _ _); ((with_reducible apply eq_isE); (case N => k_asm); (case ma | mb => k_mem); (case P => first | exact Plain.nil | exact Plain.int | exact Plain.str (by kernel_rfl) | exact Plain.queue (by assumption) | exact Plain.cons (by assumption)); (case hu => ktr_room); k_whole; (try simp only [List.isEmpty_cons, List.isEmpty_nil, Bool.not_true, Bool.not_false]))) | walk1 | dsimp only | (leave1; try dsimp only)))
  exact ret _ _ _ _ _ _ _ _ _ _ _ _ _ [] (by assumption) (by walk_at "my news") Tups.nil (.cons (.int _ _) .nil) (hD0 _) hDq
set_option maxHeartbeats 4000000 in
theorem due4_no {w : World} {p : Program} {loose : List Str} {mean : ExcName → Option Value} {mg mb : Str → Option Value} {dp un : Nat} {gd : Option (List Code)} {cn : Str} {cs : Scope} {a : Addr} {ccd : Value} {cl : List (Str × Addr)} {outer : List Env} {A₀ : Around} {base h₀ : Heap} {L : Addr} {m : Str → Option Value} {s : Shared} {Q E : Value → Shared → Prop} {b bq : Addr} {n nq : Nat} {vs vq : List Value} {dl tl : Led} {c : List (Int × Int)} {q : List Int} {room key value : Int} {tr tk tv : Tok} {ag z : Bool} {td : Tok}
  (B : Below A₀ base outer h₀) (F : Fr h₀ L s.heap m) (X : (Mine.K0 w.params).In h₀) (T : Top p loose mean mg mb h₀) (hk : cs.kind = .function) (N : News h₀ L s.heap tl) (hs : ∀ p ∈ dl, p ∈ tl) (hm : (b, listOf vs.toArray n) ∈ tl) (hmq : (bq, listOf vq.toArray nq) ∈ tl) (hD : DatAll dl vs (pD c)) (hDq : DatAll [] vq (qD q)) (I : Inv (szB z) room ag c q) (v : Int) (h0 : True) (hh : aHas c key = false) (hdp : dp + 60 < recursionLimit) (hun : un + 400 < cLine)
  (ret : ∀ h' tk' r ra rp rq va vp vq' na np nq' n' d, Fr h₀ L h' m → News h₀ L h' ((r, tup3 ra rp rq n') :: (ra, listOf va.toArray na) :: (rp, listOf vp.toArray np) :: (rq, listOf vq'.toArray nq') :: (tl ++ d)) → Tups d → DatAll (dl ++ d) va (stepS (szB z) room ag c q 4 key value).1 → DatAll (dl ++ d) vp (pD (stepS (szB z) room ag c q 4 key value).2.1) → DatAll [] vq' (qD (stepS (szB z) room ag c q 4 key value).2.2) → Q (.ref r) { s with heap := h', toks := tk' }) :
  wpAny (model PySem.Challenge.rw_ki0005_01.row.prog w) (ktrTop dp un gd cn cs L a ccd cl outer) (call (.ref 1087) [.ref b, .ref bq, .int room tr, .bool z, .bool ag, .int 4 td, .int key tk, .int value tv]) Q E s := by
  have G := I.core
  have hlen := G.len
  have hlenq := G.lenq
  have hD0 : ∀ d, DatAll (dl ++ d) vs (pD c) := fun d => hD.mono fun p hp => List.mem_append_left _ hp
  have hn : aLook c key = none := by cases h9 : aLook c key with | none => rfl | some v => rw [aHas_of_look h9] at hh; cases hh
  have hv9 : True := trivial
  have e9 : (stepS (szB z) room ag c q 4 key value) = ([.int (-7)], c, q) := by
    show readS c q key [.int (-7)] = _; unfold readS; rw [hn]
  rw [e9] at ret
  replace N := kst_newsOf (l' := (b, listOf vs.toArray n) :: (bq, listOf (vq).toArray nq) :: tl) N (List.forall_mem_cons.mpr ⟨hm, List.forall_mem_cons.mpr ⟨hmq, fun q hq => hq⟩⟩)
  (refine wpAny_call ?_; k_dflt (refine' enDC (Prod.fst ((fun (y : Str) => (if y = Str.ofString "value" then some (.int value tv) else if y = Str.ofString "deed" then some (.int 4 td) else if y = Str.ofString "again" then some (.bool ag) else if y = Str.ofString "sized" then some (.bool z) else if y = Str.ofString "room" then some (.int room tr) else if y = Str.ofString "queue" then some (.ref bq) else if y = Str.ofString "pairs" then some (.ref b) else none : Option Value)), (fun (y : Str) => (if y = Str.ofString "key" then some (.int key tk) else none : Option Value)))) (Prod.snd ((fun (y : Str) => (if y = Str.ofString "value" then some (.int value tv) else if y = Str.ofString "deed" then some (.int 4 td) else if y = Str.ofString "again" then some (.bool ag) else if y = Str.ofString "sized" then some (.bool z) else if y = Str.ofString "room" then some (.int room tr) else if y = Str.ofString "queue" then some (.ref bq) else if y = Str.ofString "pairs" then some (.ref b) else none : Option Value)), (fun (y : Str) => (if y = Str.ofString "key" then some (.int key tk) else none : Option Value)))) ?k1 ?k2 ?k3 ?k4 ?k5 ?kA ?kF ?kK ?k6 ?k7 ?k8 ?k9 ?kB ?kD ?kM ?kN ?_ ?c2 ?c3 ?c4; (case kA => exact rfl); (case kF => exact rfl); (case kK => first | exact rfl | assumption); (case k1 => k_asm); (case k2 => k_asm); (case k3 => k_asm); (case k4 => k_asm); (case k5 => k_asm); (case k6 => k_is); (case k7 => k_is); (case k8 => ktr_room); (case k9 => first | exact BindsTo.of_eq rfl | exact binds_K (by k_in) rfl (by k_is) rfl rfl rfl); (case kB => exact rfl); (case kD => decide +kernel); (case kM => (intro L'; funext y; rfl)); (case kN => (intro L'; funext y; rfl)); (case c2 => exact rfl); (case c3 => exact rfl); (case c4 => exact rfl); k_whole; intro g' L' h' tk' cells' FG' F' N' Y' B' X' T' l1; (try k_lt l1); k_cells Y'; (try simp only [List.cons_append, List.nil_append] at N'); (try dsimp only); (try dsimp only at F'); (try k_fold)))
  (repeat' (first | (k_unfold; (try dsimp only)) | ((with_reducible show wpAny _ _ (call _ _) _ _ _); k_invariant "r" (1065, h_value_no)) | (with_reducible refine iteT ?_) | ((with_reducible show wpAny _ _ (compareOp _ _ (Value.ref _)) _ _ _); ((with_reducible apply eq_isE); (case N => k_asm); (case ma | mb => k_mem); (case P => first | exact Plain.nil | exact Plain.int | exact Plain.str (by kernel_rfl) | exact Plain.queue (by assumption) | exact Plain.cons (by assumption)); (case hu => ktr_room); k_whole; (try simp only [List.isEmpty_cons, List.isEmpty_nil, Bool.not_true, Bool.not_false]))) | walk1 | dsimp only | (leave1; try dsimp only)))
  exact ret _ _ _ _ _ _ _ _ _ _ _ _ _ [] (by assumption) (by walk_at "my news") Tups.nil (.cons (.int _ _) .nil) (hD0 _) hDq
set_option maxHeartbeats 4000000 in
theorem due5_ok {w : World} {p : Program} {loose : List Str} {mean : ExcName → Option Value} {mg mb : Str → Option Value} {dp un : Nat} {gd : Option (List Code)} {cn : Str} {cs : Scope} {a : Addr} {ccd : Value} {cl : List (Str × Addr)} {outer : List Env} {A₀ : Around} {base h₀ : Heap} {L : Addr} {m : Str → Option Value} {s : Shared} {Q E : Value → Shared → Prop} {b bq : Addr} {n nq : Nat} {vs vq : List Value} {dl tl : Led} {c : List (Int × Int)} {q : List Int} {room key value : Int} {tr tk tv : Tok} {ag z : Bool} {td : Tok}
  (B : Below A₀ base outer h₀) (F : Fr h₀ L s.heap m) (X : (Mine.K0 w.params).In h₀) (T : Top p loose mean mg mb h₀) (hk : cs.kind = .function) (N : News h₀ L s.heap tl) (hs : ∀ p ∈ dl, p ∈ tl) (hm : (b, listOf vs.toArray n) ∈ tl) (hmq : (bq, listOf vq.toArray nq) ∈ tl) (hD : DatAll dl vs (pD c)) (hDq : DatAll [] vq (qD q)) (I : Inv (szB z) room ag c q) {v : Int} (h0 : True) (hl : aLook c key = some v) (hdp : dp + 60 < recursionLimit) (hun : un + 400 < cLine)
  (ret : ∀ h' tk' r ra rp rq va vp vq' na np nq' n' d, Fr h₀ L h' m → News h₀ L h' ((r, tup3 ra rp rq n') :: (ra, listOf va.toArray na) :: (rp, listOf vp.toArray np) :: (rq, listOf vq'.toArray nq') :: (tl ++ d)) → Tups d → DatAll (dl ++ d) va (stepS (szB z) room ag c q 5 key value).1 → DatAll (dl ++ d) vp (pD (stepS (szB z) room ag c q 5 key value).2.1) → DatAll [] vq' (qD (stepS (szB z) room ag c q 5 key value).2.2) → Q (.ref r) { s with heap := h', toks := tk' }) :
  wpAny (model PySem.Challenge.rw_ki0005_01.row.prog w) (ktrTop dp un gd cn cs L a ccd cl outer) (call (.ref 1087) [.ref b, .ref bq, .int room tr, .bool z, .bool ag, .int 5 td, .int key tk, .int value tv]) Q E s := by
  have G := I.core
  have hlen := G.len
  have hlenq := G.lenq
  have hD0 : ∀ d, DatAll (dl ++ d) vs (pD c) := fun d => hD.mono fun p hp => List.mem_append_left _ hp
  have hh : aHas c key = true := aHas_of_look hl
  have hv9 : True := trivial
  have e9 : (stepS (szB z) room ag c q 5 key value) = ([.int v], aDel c key, qDel q key) := by
    show takeS c q key (fun v => [.int v]) [.int (-8)] = _; unfold takeS; rw [hl]
  rw [e9] at ret
  replace N := kst_newsOf (l' := (b, listOf vs.toArray n) :: (bq, listOf (vq).toArray nq) :: tl) N (List.forall_mem_cons.mpr ⟨hm, List.forall_mem_cons.mpr ⟨hmq, fun q hq => hq⟩⟩)
  (refine wpAny_call ?_; k_dflt (refine' enDC (Prod.fst ((fun (y : Str) => (if y = Str.ofString "value" then some (.int value tv) else if y = Str.ofString "deed" then some (.int 5 td) else if y = Str.ofString "again" then some (.bool ag) else if y = Str.ofString "sized" then some (.bool z) else if y = Str.ofString "room" then some (.int room tr) else if y = Str.ofString "queue" then some (.ref bq) else if y = Str.ofString "pairs" then some (.ref b) else none : Option Value)), (fun (y : Str) => (if y = Str.ofString "key" then some (.int key tk) else none : Option Value)))) (Prod.snd ((fun (y : Str) => (if y = Str.ofString "value" then some (.int value tv) else if y = Str.ofString "deed" then some (.int 5 td) else if y = Str.ofString "again" then some (.bool ag) else if y = Str.ofString "sized" then some (.bool z) else if y = Str.ofString "room" then some (.int room tr) else if y = Str.ofString "queue" then some (.ref bq) else if y = Str.ofString "pairs" then some (.ref b) else none : Option Value)), (fun (y : Str) => (if y = Str.ofString "key" then some (.int key tk) else none : Option Value)))) ?k1 ?k2 ?k3 ?k4 ?k5 ?kA ?kF ?kK ?k6 ?k7 ?k8 ?k9 ?kB ?kD ?kM ?kN ?_ ?c2 ?c3 ?c4; (case kA => exact rfl); (case kF => exact rfl); (case kK => first | exact rfl | assumption); (case k1 => k_asm); (case k2 => k_asm); (case k3 => k_asm); (case k4 => k_asm); (case k5 => k_asm); (case k6 => k_is); (case k7 => k_is); (case k8 => ktr_room); (case k9 => first | exact BindsTo.of_eq rfl | exact binds_K (by k_in) rfl (by k_is) rfl rfl rfl); (case kB => exact rfl); (case kD => decide +kernel); (case kM => (intro L'; funext y; rfl)); (case kN => (intro L'; funext y; rfl)); (case c2 => exact rfl); (case c3 => exact rfl); (case c4 => exact rfl); k_whole; intro g' L' h' tk' cells' FG' F' N' Y' B' X' T' l1; (try k_lt l1); k_cells Y'; (try simp only [List.cons_append, List.nil_append] at N'); (try dsimp only); (try dsimp only at F'); (try k_fold)))
  (repeat' ((fail_if_success (with_reducible show LCt.CompRestT _ _ _ _ _ _ _ _ _ _ _ _ _ _ _ _ _ _ _ _)); (fail_if_success (with_reducible show LCg.CompRest _ _ _ _ _ _ _ _ _ _ _ _ _ _ _ _ _ _ _)); first | (k_unfold; (try dsimp only)) | ((with_reducible show wpAny _ _ (call _ _) _ _ _); first | k_invariant "r" (1065, h_value_ok) | k_invariant "r" (1058, h_without)) | ((with_reducible show wpAny _ _ (compareOp _ _ (Value.ref _)) _ _ _); ((with_reducible apply eq_isE); (case N => k_asm); (case ma | mb => k_mem); (case P => first | exact Plain.nil | exact Plain.int | exact Plain.str (by kernel_rfl) | exact Plain.queue (by assumption) | exact Plain.cons (by assumption)); (case hu => ktr_room); k_whole; (try simp only [List.isEmpty_cons, List.isEmpty_nil, Bool.not_true, Bool.not_false]))) | walk1 | dsimp only | (leave1; try dsimp only)))
  refine comp_T_same (fun i zs => DatAll [] zs (qD (qDel (q.take i) key))) ?_ ?_ .nil
  · intro i v zs I oI C oC D₂ m₂ h tk E' hi hv hI₂ hC hx F₁ N₁ off ne
    obtain ⟨k, t, hci, rfl⟩ := qD_get hDq (show vq[i]? = some v by simpa using hv)
    (repeat' ((fail_if_success (with_reducible show SearchPost _ _ _ _ _ _ _ _ _ _ _)); (fail_if_success (with_reducible show AnyPost _ _ _ _ _ _ _ _ _)); (fail_if_success (with_reducible show LCt.CompRestT _ _ _ _ _ _ _ _ _ _ _ _ _ _ _ _ _ _ _ _)); (fail_if_success (with_reducible show LCg.CompEnd _ _ _ _ _ _ _ _ _ _ _ _ _ _)); (fail_if_success (with_reducible show LCg.CompRest _ _ _ _ _ _ _ _ _ _ _ _ _ _ _ _ _ _ _)); first | (k_unfold; (try dsimp only)) | ((with_reducible show wpAny _ _ (call _ _) _ _ _); first | k_invariant "r" (1065, h_value_ok) | k_invariant "r" (1058, h_without)) | ((with_reducible show wpAny _ _ (compareOp _ _ (Value.ref _)) _ _ _); ((with_reducible apply eq_isE); (case N => k_asm); (case ma | mb => k_mem); (case P => first | exact Plain.nil | exact Plain.int | exact Plain.str (by kernel_rfl) | exact Plain.queue (by assumption) | exact Plain.cons (by assumption)); (case hu => ktr_room); k_whole; (try simp only [List.isEmpty_cons, List.isEmpty_nil, Bool.not_true, Bool.not_false]))) | walk1 | dsimp only | (leave1; try dsimp only)))
    all_goals first
      | exact LCg.CompEnd.intro (by assumption) (by assumption) _ (fun p hp => hp) off (.inr ⟨_, by k_mem, rfl, _, rfl⟩) ⟨rfl, qD_keep hI₂ hci (by assumption)⟩
      | exact LCg.CompEnd.intro (by assumption) (by assumption) _ (fun p hp => hp) off (.inr ⟨_, by k_mem, rfl, _, rfl⟩) ⟨rfl, qD_drop hI₂ hci (by omega)⟩
  · intro zs hI₂
    rw [List.take_of_length_le (by rw [List.size_toArray, hDq.length]; unfold qD; rw [List.length_map]; exact Nat.le_refl _)] at hI₂
    intro D₂ h tk F₁ N₁ o1
    (with_reducible rename DatAll dl _ (pD (aDel c key)) => hP9)
    (repeat' (first | (k_unfold; (try dsimp only)) | ((with_reducible show wpAny _ _ (call _ _) _ _ _); first | k_invariant "r" (1065, h_value_ok) | k_invariant "r" (1058, h_without)) | ((with_reducible show wpAny _ _ (compareOp _ _ (Value.ref _)) _ _ _); ((with_reducible apply eq_isE); (case N => k_asm); (case ma | mb => k_mem); (case P => first | exact Plain.nil | exact Plain.int | exact Plain.str (by kernel_rfl) | exact Plain.queue (by assumption) | exact Plain.cons (by assumption)); (case hu => ktr_room); k_whole; (try simp only [List.isEmpty_cons, List.isEmpty_nil, Bool.not_true, Bool.not_false]))) | walk1 | dsimp only | (leave1; try dsimp only)))
    exact ret _ _ _ _ _ _ _ _ _ _ _ _ _ [] (by assumption) (by walk_at "my news") Tups.nil (.cons (.int _ _) .nil) (hP9.mono fun p hp => List.mem_append_left _ hp) hI₂
set_option maxHeartbeats 4000000 in
theorem due5_no {w : World} {p : Program} {loose : List Str} {mean : ExcName → Option Value} {mg mb : Str → Option Value} {dp un : Nat} {gd : Option (List Code)} {cn : Str} {cs : Scope} {a : Addr} {ccd : Value} {cl : List (Str × Addr)} {outer : List Env} {A₀ : Around} {base h₀ : Heap} {L : Addr} {m : Str → Option Value} {s : Shared} {Q E : Value → Shared → Prop} {b bq : Addr} {n nq : Nat} {vs vq : List Value} {dl tl : Led} {c : List (Int × Int)} {q : List Int} {room key value : Int} {tr tk tv : Tok} {ag z : Bool} {td : Tok}
  (B : Below A₀ base outer h₀) (F : Fr h₀ L s.heap m) (X : (Mine.K0 w.params).In h₀) (T : Top p loose mean mg mb h₀) (hk : cs.kind = .function) (N : News h₀ L s.heap tl) (hs : ∀ p ∈ dl, p ∈ tl) (hm : (b, listOf vs.toArray n) ∈ tl) (hmq : (bq, listOf vq.toArray nq) ∈ tl) (hD : DatAll dl vs (pD c)) (hDq : DatAll [] vq (qD q)) (I : Inv (szB z) room ag c q) (v : Int) (h0 : True) (hh : aHas c key = false) (hdp : dp + 60 < recursionLimit) (hun : un + 400 < cLine)
  (ret : ∀ h' tk' r ra rp rq va vp vq' na np nq' n' d, Fr h₀ L h' m → News h₀ L h' ((r, tup3 ra rp rq n') :: (ra, listOf va.toArray na) :: (rp, listOf vp.toArray np) :: (rq, listOf vq'.toArray nq') :: (tl ++ d)) → Tups d → DatAll (dl ++ d) va (stepS (szB z) room ag c q 5 key value).1 → DatAll (dl ++ d) vp (pD (stepS (szB z) room ag c q 5 key value).2.1) → DatAll [] vq' (qD (stepS (szB z) room ag c q 5 key value).2.2) → Q (.ref r) { s with heap := h', toks := tk' }) :
  wpAny (model PySem.Challenge.rw_ki0005_01.row.prog w) (ktrTop dp un gd cn cs L a ccd cl outer) (call (.ref 1087) [.ref b, .ref bq, .int room tr, .bool z, .bool ag, .int 5 td, .int key tk, .int value tv]) Q E s := by
  have G := I.core
  have hlen := G.len
  have hlenq := G.lenq
  have hD0 : ∀ d, DatAll (dl ++ d) vs (pD c) := fun d => hD.mono fun p hp => List.mem_append_left _ hp
  have hn : aLook c key = none := by cases h9 : aLook c key with | none => rfl | some v => rw [aHas_of_look h9] at hh; cases hh
  have hv9 : True := trivial
  have e9 : (stepS (szB z) room ag c q 5 key value) = ([.int (-8)], c, q) := by
    show takeS c q key (fun v => [.int v]) [.int (-8)] = _; unfold takeS; rw [hn]
  rw [e9] at ret
  replace N := kst_newsOf (l' := (b, listOf vs.toArray n) :: (bq, listOf (vq).toArray nq) :: tl) N (List.forall_mem_cons.mpr ⟨hm, List.forall_mem_cons.mpr ⟨hmq, fun q hq => hq⟩⟩)
  (refine wpAny_call ?_; k_dflt (refine' enDC (Prod.fst ((fun (y : Str) => (if y = Str.ofString "value" then some (.int value tv) else if y = Str.ofString "deed" then some (.int 5 td) else if y = Str.ofString "again" then some (.bool ag) else if y = Str.ofString "sized" then some (.bool z) else if y = Str.ofString "room" then some (.int room tr) else if y = Str.ofString "queue" then some (.ref bq) else if y = Str.ofString "pairs" then some (.ref b) else none : Option Value)), (fun (y : Str) => (if y = Str.ofString "key" then some (.int key tk) else none : Option Value)))) (Prod.snd ((fun (y : Str) => (if y = Str.ofString "value" then some (.int value tv) else if y = Str.ofString "deed" then some (.int 5 td) else if y = Str.ofString "again" then some (.bool ag) else if y = Str.ofString "sized" then some (.bool z) else if y = Str.ofString "room" then some (.int room tr) else if y = Str.ofString "queue" then some (.ref bq) else if y = Str.ofString "pairs" then some (.ref b) else none : Option Value)), (fun (y : Str) => (if y = Str.ofString "key" then some (.int key tk) else none : Option Value)))) ?k1 ?k2 ?k3 ?k4 ?k5 ?kA ?kF ?kK ?k6 ?k7 ?k8 ?k9 ?kB ?kD ?kM ?kN ?_ ?c2 ?c3 ?c4; (case kA => exact rfl); (case kF => exact rfl); (case kK => first | exact rfl | assumption); (case k1 => k_asm); (case k2 => k_asm); (case k3 => k_asm); (case k4 => k_asm); (case k5 => k_asm); (case k6 => k_is); (case k7 => k_is); (case k8 => ktr_room); (case k9 => first | exact BindsTo.of_eq rfl | exact binds_K (by k_in) rfl (by k_is) rfl rfl rfl); (case kB => exact rfl); (case kD => decide +kernel); (case kM => (intro L'; funext y; rfl)); (case kN => (intro L'; funext y; rfl)); (case c2 => exact rfl); (case c3 => exact rfl); (case c4 => exact rfl); k_whole; intro g' L' h' tk' cells' FG' F' N' Y' B' X' T' l1; (try k_lt l1); k_cells Y'; (try simp only [List.cons_append, List.nil_append] at N'); (try dsimp only); (try dsimp only at F'); (try k_fold)))
  (repeat' (first | (k_unfold; (try dsimp only)) | ((with_reducible show wpAny _ _ (call _ _) _ _ _); k_invariant "r" (1065, h_value_no)) | (with_reducible refine iteT ?_) | ((with_reducible show wpAny _ _ (compareOp _ _ (Value.ref _)) _ _ _); ((with_reducible apply eq_isE); (case N => k_asm); (case ma | mb => k_mem); (case P => first | exact Plain.nil | exact Plain.int | exact Plain.str (by kernel_rfl) | exact Plain.queue (by assumption) | exact Plain.cons (by assumption)); (case hu => ktr_room); k_whole; (try simp only [List.isEmpty_cons, List.isEmpty_nil, Bool.not_true, Bool.not_false]))) | walk1 | dsimp only | (leave1; try dsimp only)))
  exact ret _ _ _ _ _ _ _ _ _ _ _ _ _ [] (by assumption) (by walk_at "my news") Tups.nil (.cons (.int _ _) .nil) (hD0 _) hDq
set_option maxHeartbeats 4000000 in
theorem due6_ok {w : World} {p : Program} {loose : List Str} {mean : ExcName → Option Value} {mg mb : Str → Option Value} {dp un : Nat} {gd : Option (List Code)} {cn : Str} {cs : Scope} {a : Addr} {ccd : Value} {cl : List (Str × Addr)} {outer : List Env} {A₀ : Around} {base h₀ : Heap} {L : Addr} {m : Str → Option Value} {s : Shared} {Q E : Value → Shared → Prop} {b bq : Addr} {n nq : Nat} {vs vq : List Value} {dl tl : Led} {c : List (Int × Int)} {q : List Int} {room key value : Int} {tr tk tv : Tok} {ag z : Bool} {td : Tok}
  (B : Below A₀ base outer h₀) (F : Fr h₀ L s.heap m) (X : (Mine.K0 w.params).In h₀) (T : Top p loose mean mg mb h₀) (hk : cs.kind = .function) (N : News h₀ L s.heap tl) (hs : ∀ p ∈ dl, p ∈ tl) (hm : (b, listOf vs.toArray n) ∈ tl) (hmq : (bq, listOf vq.toArray nq) ∈ tl) (hD : DatAll dl vs (pD c)) (hDq : DatAll [] vq (qD q)) (I : Inv (szB z) room ag c q) {v : Int} (h0 : True) (hl : aLook c key = some v) (hdp : dp + 60 < recursionLimit) (hun : un + 400 < cLine)
  (ret : ∀ h' tk' r ra rp rq va vp vq' na np nq' n' d, Fr h₀ L h' m → News h₀ L h' ((r, tup3 ra rp rq n') :: (ra, listOf va.toArray na) :: (rp, listOf vp.toArray np) :: (rq, listOf vq'.toArray nq') :: (tl ++ d)) → Tups d → DatAll (dl ++ d) va (stepS (szB z) room ag c q 6 key value).1 → DatAll (dl ++ d) vp (pD (stepS (szB z) room ag c q 6 key value).2.1) → DatAll [] vq' (qD (stepS (szB z) room ag c q 6 key value).2.2) → Q (.ref r) { s with heap := h', toks := tk' }) :
  wpAny (model PySem.Challenge.rw_ki0005_01.row.prog w) (ktrTop dp un gd cn cs L a ccd cl outer) (call (.ref 1087) [.ref b, .ref bq, .int room tr, .bool z, .bool ag, .int 6 td, .int key tk, .int value tv]) Q E s := by
  have G := I.core
  have hlen := G.len
  have hlenq := G.lenq
  have hD0 : ∀ d, DatAll (dl ++ d) vs (pD c) := fun d => hD.mono fun p hp => List.mem_append_left _ hp
  have hh : aHas c key = true := aHas_of_look hl
  have hv9 : True := trivial
  have e9 : (stepS (szB z) room ag c q 6 key value) = ([.int v], c, q) := by
    show (match aLook c key with | some v => (([.int v], c, q) : Stp) | none => putS (szB z) room ag c q key value [.int value]) = _; rw [hl]
  rw [e9] at ret
  replace N := kst_newsOf (l' := (b, listOf vs.toArray n) :: (bq, listOf (vq).toArray nq) :: tl) N (List.forall_mem_cons.mpr ⟨hm, List.forall_mem_cons.mpr ⟨hmq, fun q hq => hq⟩⟩)
  (refine wpAny_call ?_; k_dflt (refine' enDC (Prod.fst ((fun (y : Str) => (if y = Str.ofString "value" then some (.int value tv) else if y = Str.ofString "deed" then some (.int 6 td) else if y = Str.ofString "again" then some (.bool ag) else if y = Str.ofString "sized" then some (.bool z) else if y = Str.ofString "room" then some (.int room tr) else if y = Str.ofString "queue" then some (.ref bq) else if y = Str.ofString "pairs" then some (.ref b) else none : Option Value)), (fun (y : Str) => (if y = Str.ofString "key" then some (.int key tk) else none : Option Value)))) (Prod.snd ((fun (y : Str) => (if y = Str.ofString "value" then some (.int value tv) else if y = Str.ofString "deed" then some (.int 6 td) else if y = Str.ofString "again" then some (.bool ag) else if y = Str.ofString "sized" then some (.bool z) else if y = Str.ofString "room" then some (.int room tr) else if y = Str.ofString "queue" then some (.ref bq) else if y = Str.ofString "pairs" then some (.ref b) else none : Option Value)), (fun (y : Str) => (if y = Str.ofString "key" then some (.int key tk) else none : Option Value)))) ?k1 ?k2 ?k3 ?k4 ?k5 ?kA ?kF ?kK ?k6 ?k7 ?k8 ?k9 ?kB ?kD ?kM ?kN ?_ ?c2 ?c3 ?c4; (case kA => exact rfl); (case kF => exact rfl); (case kK => first | exact rfl | assumption); (case k1 => k_asm); (case k2 => k_asm); (case k3 => k_asm); (case k4 => k_asm); (case k5 => k_asm); (case k6 => k_is); (case k7 => k_is); (case k8 => ktr_room); (case k9 => first | exact BindsTo.of_eq rfl | exact binds_K (by k_in) rfl (by k_is) rfl rfl rfl); (case kB => exact rfl); (case kD => decide +kernel); (case kM => (intro L'; funext y; rfl)); (case kN => (intro L'; funext y; rfl)); (case c2 => exact rfl); (case c3 => exact rfl); (case c4 => exact rfl); k_whole; intro g' L' h' tk' cells' FG' F' N' Y' B' X' T' l1; (try k_lt l1); k_cells Y'; (try simp only [List.cons_append, List.nil_append] at N'); (try dsimp only); (try dsimp only at F'); (try k_fold)))
  (repeat' (first | (k_unfold; (try dsimp only)) | ((with_reducible show wpAny _ _ (call _ _) _ _ _); k_invariant "r" (1065, h_value_ok)) | ((with_reducible show wpAny _ _ (compareOp _ _ (Value.ref _)) _ _ _); ((with_reducible apply eq_isE); (case N => k_asm); (case ma | mb => k_mem); (case P => first | exact Plain.nil | exact Plain.int | exact Plain.str (by kernel_rfl) | exact Plain.queue (by assumption) | exact Plain.cons (by assumption)); (case hu => ktr_room); k_whole; (try simp only [List.isEmpty_cons, List.isEmpty_nil, Bool.not_true, Bool.not_false]))) | walk1 | dsimp only | (leave1; try dsimp only)))
  exact ret _ _ _ _ _ _ _ _ _ _ _ _ _ [] (by assumption) (by walk_at "my news") Tups.nil (.cons (.int _ _) .nil) (hD0 _) hDq
set_option maxHeartbeats 4000000 in
theorem due6_set {w : World} {p : Program} {loose : List Str} {mean : ExcName → Option Value} {mg mb : Str → Option Value} {dp un : Nat} {gd : Option (List Code)} {cn : Str} {cs : Scope} {a : Addr} {ccd : Value} {cl : List (Str × Addr)} {outer : List Env} {A₀ : Around} {base h₀ : Heap} {L : Addr} {m : Str → Option Value} {s : Shared} {Q E : Value → Shared → Prop} {b bq : Addr} {n nq : Nat} {vs vq : List Value} {dl tl : Led} {c : List (Int × Int)} {q : List Int} {room key value : Int} {tr tk tv : Tok} {ag z : Bool} {td : Tok}
  (B : Below A₀ base outer h₀) (F : Fr h₀ L s.heap m) (X : (Mine.K0 w.params).In h₀) (T : Top p loose mean mg mb h₀) (hk : cs.kind = .function) (N : News h₀ L s.heap tl) (hs : ∀ p ∈ dl, p ∈ tl) (hm : (b, listOf vs.toArray n) ∈ tl) (hmq : (bq, listOf vq.toArray nq) ∈ tl) (hD : DatAll dl vs (pD c)) (hDq : DatAll [] vq (qD q)) (I : Inv (szB z) room ag c q) (v : Int) (hh : aHas c key = false) (hf : Fits (szB z) room value) (hdp : dp + 60 < recursionLimit) (hun : un + 400 < cLine)
  (ret : ∀ h' tk' r ra rp rq va vp vq' na np nq' n' d, Fr h₀ L h' m → News h₀ L h' ((r, tup3 ra rp rq n') :: (ra, listOf va.toArray na) :: (rp, listOf vp.toArray np) :: (rq, listOf vq'.toArray nq') :: (tl ++ d)) → Tups d → DatAll (dl ++ d) va (stepS (szB z) room ag c q 6 key value).1 → DatAll (dl ++ d) vp (pD (stepS (szB z) room ag c q 6 key value).2.1) → DatAll [] vq' (qD (stepS (szB z) room ag c q 6 key value).2.2) → Q (.ref r) { s with heap := h', toks := tk' }) :
  wpAny (model PySem.Challenge.rw_ki0005_01.row.prog w) (ktrTop dp un gd cn cs L a ccd cl outer) (call (.ref 1087) [.ref b, .ref bq, .int room tr, .bool z, .bool ag, .int 6 td, .int key tk, .int value tv]) Q E s := by
  have G := I.core
  have hlen := G.len
  have hlenq := G.lenq
  have hD0 : ∀ d, DatAll (dl ++ d) vs (pD c) := fun d => hD.mono fun p hp => List.mem_append_left _ hp
  have hn : aLook c key = none := by cases h9 : aLook c key with | none => rfl | some v => rw [aHas_of_look h9] at hh; cases hh
  have hv9 : True := trivial
  have e9 : (stepS (szB z) room ag c q 6 key value) = ([.int value], aPut (evict (szB z) room ((szB z) value) key c q).1 key value, putQ ag (evict (szB z) room ((szB z) value) key c q).1 (evict (szB z) room ((szB z) value) key c q).2 key) := by
    show (match aLook c key with | some v => (([.int v], c, q) : Stp) | none => putS (szB z) room ag c q key value [.int value]) = _; rw [hn]; unfold putS; rw [if_pos hf]
  rw [e9] at ret
  replace N := kst_newsOf (l' := (b, listOf vs.toArray n) :: (bq, listOf (vq).toArray nq) :: tl) N (List.forall_mem_cons.mpr ⟨hm, List.forall_mem_cons.mpr ⟨hmq, fun q hq => hq⟩⟩)
  (refine wpAny_call ?_; k_dflt (refine' enDC (Prod.fst ((fun (y : Str) => (if y = Str.ofString "value" then some (.int value tv) else if y = Str.ofString "deed" then some (.int 6 td) else if y = Str.ofString "again" then some (.bool ag) else if y = Str.ofString "sized" then some (.bool z) else if y = Str.ofString "room" then some (.int room tr) else if y = Str.ofString "queue" then some (.ref bq) else if y = Str.ofString "pairs" then some (.ref b) else none : Option Value)), (fun (y : Str) => (if y = Str.ofString "key" then some (.int key tk) else none : Option Value)))) (Prod.snd ((fun (y : Str) => (if y = Str.ofString "value" then some (.int value tv) else if y = Str.ofString "deed" then some (.int 6 td) else if y = Str.ofString "again" then some (.bool ag) else if y = Str.ofString "sized" then some (.bool z) else if y = Str.ofString "room" then some (.int room tr) else if y = Str.ofString "queue" then some (.ref bq) else if y = Str.ofString "pairs" then some (.ref b) else none : Option Value)), (fun (y : Str) => (if y = Str.ofString "key" then some (.int key tk) else none : Option Value)))) ?k1 ?k2 ?k3 ?k4 ?k5 ?kA ?kF ?kK ?k6 ?k7 ?k8 ?k9 ?kB ?kD ?kM ?kN ?_ ?c2 ?c3 ?c4; (case kA => exact rfl); (case kF => exact rfl); (case kK => first | exact rfl | assumption); (case k1 => k_asm); (case k2 => k_asm); (case k3 => k_asm); (case k4 => k_asm); (case k5 => k_asm); (case k6 => k_is); (case k7 => k_is); (case k8 => ktr_room); (case k9 => first | exact BindsTo.of_eq rfl | exact binds_K (by k_in) rfl (by k_is) rfl rfl rfl); (case kB => exact rfl); (case kD => decide +kernel); (case kM => (intro L'; funext y; rfl)); (case kN => (intro L'; funext y; rfl)); (case c2 => exact rfl); (case c3 => exact rfl); (case c4 => exact rfl); k_whole; intro g' L' h' tk' cells' FG' F' N' Y' B' X' T' l1; (try k_lt l1); k_cells Y'; (try simp only [List.cons_append, List.nil_append] at N'); (try dsimp only); (try dsimp only at F'); (try k_fold)))
  (repeat' ((fail_if_success (with_reducible show wpAny _ _ (exec (Stmt.For _ _ _ _ _) _) _ _ _)); (fail_if_success (with_reducible show wpAny _ _ (exec (Stmt.While _ _ _ _) _) _ _ _)); (fail_if_success (with_reducible show wpAny _ _ (pyIter _) _ _ _)); (fail_if_success (with_reducible show SearchPost _ _ _ _ _ _ _ _ _ _ _)); (fail_if_success (with_reducible show AnyPost _ _ _ _ _ _ _ _ _)); (fail_if_success (with_reducible show LCt.CompRestT _ _ _ _ _ _ _ _ _ _ _ _ _ _ _ _ _ _ _ _)); (fail_if_success (with_reducible show LCg.CompEnd _ _ _ _ _ _ _ _ _ _ _ _ _ _)); (fail_if_success (with_reducible show LCg.CompRest _ _ _ _ _ _ _ _ _ _ _ _ _ _ _ _ _ _ _)); first | (k_unfold; (try dsimp only)) | ((with_reducible show wpAny _ _ (call _ _) _ _ _); first | (k_invariant "r" (1075, h_put_ok); (with_reducible rename News _ _ _ _ => N'); (try simp only [List.cons_append] at N')) | k_invariant "r" (1065, h_value_no)) | (with_reducible refine iteT ?_) | ((with_reducible show wpAny _ _ (compareOp _ _ (Value.ref _)) _ _ _); ((with_reducible apply eq_isE); (case N => k_asm); (case ma | mb => k_mem); (case P => first | exact Plain.nil | exact Plain.int | exact Plain.str (by kernel_rfl) | exact Plain.queue (by assumption) | exact Plain.cons (by assumption)); (case hu => ktr_room); k_whole; (try simp only [List.isEmpty_cons, List.isEmpty_nil, Bool.not_true, Bool.not_false]))) | walk1 | dsimp only | (leave1; try dsimp only)))
  (with_reducible rename Tups _ => hT9)
  exact ret _ _ _ _ _ _ _ _ _ _ _ _ _ _ (by assumption) (by walk_at "my news") hT9 (.cons (.int _ _) .nil) (by assumption) (by assumption)
set_option maxHeartbeats 4000000 in
theorem due6_no {w : World} {p : Program} {loose : List Str} {mean : ExcName → Option Value} {mg mb : Str → Option Value} {dp un : Nat} {gd : Option (List Code)} {cn : Str} {cs : Scope} {a : Addr} {ccd : Value} {cl : List (Str × Addr)} {outer : List Env} {A₀ : Around} {base h₀ : Heap} {L : Addr} {m : Str → Option Value} {s : Shared} {Q E : Value → Shared → Prop} {b bq : Addr} {n nq : Nat} {vs vq : List Value} {dl tl : Led} {c : List (Int × Int)} {q : List Int} {room key value : Int} {tr tk tv : Tok} {ag z : Bool} {td : Tok}
  (B : Below A₀ base outer h₀) (F : Fr h₀ L s.heap m) (X : (Mine.K0 w.params).In h₀) (T : Top p loose mean mg mb h₀) (hk : cs.kind = .function) (N : News h₀ L s.heap tl) (hs : ∀ p ∈ dl, p ∈ tl) (hm : (b, listOf vs.toArray n) ∈ tl) (hmq : (bq, listOf vq.toArray nq) ∈ tl) (hD : DatAll dl vs (pD c)) (hDq : DatAll [] vq (qD q)) (I : Inv (szB z) room ag c q) (v : Int) (hh : aHas c key = false) (hf : ¬ Fits (szB z) room value) (hdp : dp + 60 < recursionLimit) (hun : un + 400 < cLine)
  (ret : ∀ h' tk' r ra rp rq va vp vq' na np nq' n' d, Fr h₀ L h' m → News h₀ L h' ((r, tup3 ra rp rq n') :: (ra, listOf va.toArray na) :: (rp, listOf vp.toArray np) :: (rq, listOf vq'.toArray nq') :: (tl ++ d)) → Tups d → DatAll (dl ++ d) va (stepS (szB z) room ag c q 6 key value).1 → DatAll (dl ++ d) vp (pD (stepS (szB z) room ag c q 6 key value).2.1) → DatAll [] vq' (qD (stepS (szB z) room ag c q 6 key value).2.2) → Q (.ref r) { s with heap := h', toks := tk' }) :
  wpAny (model PySem.Challenge.rw_ki0005_01.row.prog w) (ktrTop dp un gd cn cs L a ccd cl outer) (call (.ref 1087) [.ref b, .ref bq, .int room tr, .bool z, .bool ag, .int 6 td, .int key tk, .int value tv]) Q E s := by
  have G := I.core
  have hlen := G.len
  have hlenq := G.lenq
  have hD0 : ∀ d, DatAll (dl ++ d) vs (pD c) := fun d => hD.mono fun p hp => List.mem_append_left _ hp
  have hn : aLook c key = none := by cases h9 : aLook c key with | none => rfl | some v => rw [aHas_of_look h9] at hh; cases hh
  have hv9 : True := trivial
  have e9 : (stepS (szB z) room ag c q 6 key value) = (refD, c, q) := by
    show (match aLook c key with | some v => (([.int v], c, q) : Stp) | none => putS (szB z) room ag c q key value [.int value]) = _; rw [hn]; unfold putS; rw [if_neg hf]
  rw [e9] at ret
  replace N := kst_newsOf (l' := (b, listOf vs.toArray n) :: (bq, listOf (vq).toArray nq) :: tl) N (List.forall_mem_cons.mpr ⟨hm, List.forall_mem_cons.mpr ⟨hmq, fun q hq => hq⟩⟩)
  (refine wpAny_call ?_; k_dflt (refine' enDC (Prod.fst ((fun (y : Str) => (if y = Str.ofString "value" then some (.int value tv) else if y = Str.ofString "deed" then some (.int 6 td) else if y = Str.ofString "again" then some (.bool ag) else if y = Str.ofString "sized" then some (.bool z) else if y = Str.ofString "room" then some (.int room tr) else if y = Str.ofString "queue" then some (.ref bq) else if y = Str.ofString "pairs" then some (.ref b) else none : Option Value)), (fun (y : Str) => (if y = Str.ofString "key" then some (.int key tk) else none : Option Value)))) (Prod.snd ((fun (y : Str) => (if y = Str.ofString "value" then some (.int value tv) else if y = Str.ofString "deed" then some (.int 6 td) else if y = Str.ofString "again" then some (.bool ag) else if y = Str.ofString "sized" then some (.bool z) else if y = Str.ofString "room" then some (.int room tr) else if y = Str.ofString "queue" then some (.ref bq) else if y = Str.ofString "pairs" then some (.ref b) else none : Option Value)), (fun (y : Str) => (if y = Str.ofString "key" then some (.int key tk) else none : Option Value)))) ?k1 ?k2 ?k3 ?k4 ?k5 ?kA ?kF ?kK ?k6 ?k7 ?k8 ?k9 ?kB ?kD ?kM ?kN ?_ ?c2 ?c3 ?c4; (case kA => exact rfl); (case kF => exact rfl); (case kK => first | exact rfl | assumption); (case k1 => k_asm); (case k2 => k_asm); (case k3 => k_asm); (case k4 => k_asm); (case k5 => k_asm); (case k6 => k_is); (case k7 => k_is); (case k8 => ktr_room); (case k9 => first | exact BindsTo.of_eq rfl | exact binds_K (by k_in) rfl (by k_is) rfl rfl rfl); (case kB => exact rfl); (case kD => decide +kernel); (case kM => (intro L'; funext y; rfl)); (case kN => (intro L'; funext y; rfl)); (case c2 => exact rfl); (case c3 => exact rfl); (case c4 => exact rfl); k_whole; intro g' L' h' tk' cells' FG' F' N' Y' B' X' T' l1; (try k_lt l1); k_cells Y'; (try simp only [List.cons_append, List.nil_append] at N'); (try dsimp only); (try dsimp only at F'); (try k_fold)))
  (repeat' (first | (k_unfold; (try dsimp only)) | ((with_reducible show wpAny _ _ (call _ _) _ _ _); first | k_invariant "r" (1075, h_put_no) | k_invariant "r" (1065, h_value_no)) | (with_reducible refine iteT ?_) | ((with_reducible show wpAny _ _ (compareOp _ _ (Value.ref _)) _ _ _); ((with_reducible apply eq_isE); (case N => k_asm); (case ma | mb => k_mem); (case P => first | exact Plain.nil | exact Plain.int | exact Plain.str (by kernel_rfl) | exact Plain.queue (by assumption) | exact Plain.cons (by assumption)); (case hu => ktr_room); k_whole; (try simp only [List.isEmpty_cons, List.isEmpty_nil, Bool.not_true, Bool.not_false]))) | walk1 | dsimp only | (leave1; try dsimp only)))
  exact ret _ _ _ _ _ _ _ _ _ _ _ _ _ [] (by assumption) (by walk_at "my news") Tups.nil (.cons (.str _ _) .nil) (hD0 _) hDq
set_option maxHeartbeats 4000000 in
theorem due7_ok {w : World} {p : Program} {loose : List Str} {mean : ExcName → Option Value} {mg mb : Str → Option Value} {dp un : Nat} {gd : Option (List Code)} {cn : Str} {cs : Scope} {a : Addr} {ccd : Value} {cl : List (Str × Addr)} {outer : List Env} {A₀ : Around} {base h₀ : Heap} {L : Addr} {m : Str → Option Value} {s : Shared} {Q E : Value → Shared → Prop} {b bq : Addr} {n nq : Nat} {vs vq : List Value} {dl tl : Led} {c : List (Int × Int)} {q : List Int} {room key value : Int} {tr tk tv : Tok} {ag z : Bool} {td : Tok}
  (B : Below A₀ base outer h₀) (F : Fr h₀ L s.heap m) (X : (Mine.K0 w.params).In h₀) (T : Top p loose mean mg mb h₀) (hk : cs.kind = .function) (N : News h₀ L s.heap tl) (hs : ∀ p ∈ dl, p ∈ tl) (hm : (b, listOf vs.toArray n) ∈ tl) (hmq : (bq, listOf vq.toArray nq) ∈ tl) (hD : DatAll dl vs (pD c)) (hDq : DatAll [] vq (qD q)) (I : Inv (szB z) room ag c q) {v : Int} (h0 : True) (hl : aLook c key = some v) (hdp : dp + 60 < recursionLimit) (hun : un + 400 < cLine)
  (ret : ∀ h' tk' r ra rp rq va vp vq' na np nq' n' d, Fr h₀ L h' m → News h₀ L h' ((r, tup3 ra rp rq n') :: (ra, listOf va.toArray na) :: (rp, listOf vp.toArray np) :: (rq, listOf vq'.toArray nq') :: (tl ++ d)) → Tups d → DatAll (dl ++ d) va (stepS (szB z) room ag c q 7 key value).1 → DatAll (dl ++ d) vp (pD (stepS (szB z) room ag c q 7 key value).2.1) → DatAll [] vq' (qD (stepS (szB z) room ag c q 7 key value).2.2) → Q (.ref r) { s with heap := h', toks := tk' }) :
  wpAny (model PySem.Challenge.rw_ki0005_01.row.prog w) (ktrTop dp un gd cn cs L a ccd cl outer) (call (.ref 1087) [.ref b, .ref bq, .int room tr, .bool z, .bool ag, .int 7 td, .int key tk, .int value tv]) Q E s := by
  have G := I.core
  have hlen := G.len
  have hlenq := G.lenq
  have hD0 : ∀ d, DatAll (dl ++ d) vs (pD c) := fun d => hD.mono fun p hp => List.mem_append_left _ hp
  have hh : aHas c key = true := aHas_of_look hl
  have hv9 : True := trivial
  have e9 : (stepS (szB z) room ag c q 7 key value) = ([], aDel c key, qDel q key) := by
    show takeS c q key (fun _ => []) missD = _; unfold takeS; rw [hl]
  rw [e9] at ret
  replace N := kst_newsOf (l' := (b, listOf vs.toArray n) :: (bq, listOf (vq).toArray nq) :: tl) N (List.forall_mem_cons.mpr ⟨hm, List.forall_mem_cons.mpr ⟨hmq, fun q hq => hq⟩⟩)
  (refine wpAny_call ?_; k_dflt (refine' enDC (Prod.fst ((fun (y : Str) => (if y = Str.ofString "value" then some (.int value tv) else if y = Str.ofString "deed" then some (.int 7 td) else if y = Str.ofString "again" then some (.bool ag) else if y = Str.ofString "sized" then some (.bool z) else if y = Str.ofString "room" then some (.int room tr) else if y = Str.ofString "queue" then some (.ref bq) else if y = Str.ofString "pairs" then some (.ref b) else none : Option Value)), (fun (y : Str) => (if y = Str.ofString "key" then some (.int key tk) else none : Option Value)))) (Prod.snd ((fun (y : Str) => (if y = Str.ofString "value" then some (.int value tv) else if y = Str.ofString "deed" then some (.int 7 td) else if y = Str.ofString "again" then some (.bool ag) else if y = Str.ofString "sized" then some (.bool z) else if y = Str.ofString "room" then some (.int room tr) else if y = Str.ofString "queue" then some (.ref bq) else if y = Str.ofString "pairs" then some (.ref b) else none : Option Value)), (fun (y : Str) => (if y = Str.ofString "key" then some (.int key tk) else none : Option Value)))) ?k1 ?k2 ?k3 ?k4 ?k5 ?kA ?kF ?kK ?k6 ?k7 ?k8 ?k9 ?kB ?kD ?kM ?kN ?_ ?c2 ?c3 ?c4; (case kA => exact rfl); (case kF => exact rfl); (case kK => first | exact rfl | assumption); (case k1 => k_asm); (case k2 => k_asm); (case k3 => k_asm); (case k4 => k_asm); (case k5 => k_asm); (case k6 => k_is); (case k7 => k_is); (case k8 => ktr_room); (case k9 => first | exact BindsTo.of_eq rfl | exact binds_K (by k_in) rfl (by k_is) rfl rfl rfl); (case kB => exact rfl); (case kD => decide +kernel); (case kM => (intro L'; funext y; rfl)); (case kN => (intro L'; funext y; rfl)); (case c2 => exact rfl); (case c3 => exact rfl); (case c4 => exact rfl); k_whole; intro g' L' h' tk' cells' FG' F' N' Y' B' X' T' l1; (try k_lt l1); k_cells Y'; (try simp only [List.cons_append, List.nil_append] at N'); (try dsimp only); (try dsimp only at F'); (try k_fold)))
  (repeat' ((fail_if_success (with_reducible show LCt.CompRestT _ _ _ _ _ _ _ _ _ _ _ _ _ _ _ _ _ _ _ _)); (fail_if_success (with_reducible show LCg.CompRest _ _ _ _ _ _ _ _ _ _ _ _ _ _ _ _ _ _ _)); first | (k_unfold; (try dsimp only)) | ((with_reducible show wpAny _ _ (call _ _) _ _ _); first | k_invariant "r" (1065, h_value_ok) | k_invariant "r" (1058, h_without)) | ((with_reducible show wpAny _ _ (compareOp _ _ (Value.ref _)) _ _ _); ((with_reducible apply eq_isE); (case N => k_asm); (case ma | mb => k_mem); (case P => first | exact Plain.nil | exact Plain.int | exact Plain.str (by kernel_rfl) | exact Plain.queue (by assumption) | exact Plain.cons (by assumption)); (case hu => ktr_room); k_whole; (try simp only [List.isEmpty_cons, List.isEmpty_nil, Bool.not_true, Bool.not_false]))) | walk1 | dsimp only | (leave1; try dsimp only)))
  refine comp_T_same (fun i zs => DatAll [] zs (qD (qDel (q.take i) key))) ?_ ?_ .nil
  · intro i v zs I oI C oC D₂ m₂ h tk E' hi hv hI₂ hC hx F₁ N₁ off ne
    obtain ⟨k, t, hci, rfl⟩ := qD_get hDq (show vq[i]? = some v by simpa using hv)
    (repeat' ((fail_if_success (with_reducible show SearchPost _ _ _ _ _ _ _ _ _ _ _)); (fail_if_success (with_reducible show AnyPost _ _ _ _ _ _ _ _ _)); (fail_if_success (with_reducible show LCt.CompRestT _ _ _ _ _ _ _ _ _ _ _ _ _ _ _ _ _ _ _ _)); (fail_if_success (with_reducible show LCg.CompEnd _ _ _ _ _ _ _ _ _ _ _ _ _ _)); (fail_if_success (with_reducible show LCg.CompRest _ _ _ _ _ _ _ _ _ _ _ _ _ _ _ _ _ _ _)); first | (k_unfold; (try dsimp only)) | ((with_reducible show wpAny _ _ (call _ _) _ _ _); first | k_invariant "r" (1065, h_value_ok) | k_invariant "r" (1058, h_without)) | ((with_reducible show wpAny _ _ (compareOp _ _ (Value.ref _)) _ _ _); ((with_reducible apply eq_isE); (case N => k_asm); (case ma | mb => k_mem); (case P => first | exact Plain.nil | exact Plain.int | exact Plain.str (by kernel_rfl) | exact Plain.queue (by assumption) | exact Plain.cons (by assumption)); (case hu => ktr_room); k_whole; (try simp only [List.isEmpty_cons, List.isEmpty_nil, Bool.not_true, Bool.not_false]))) | walk1 | dsimp only | (leave1; try dsimp only)))
    all_goals first
      | exact LCg.CompEnd.intro (by assumption) (by assumption) _ (fun p hp => hp) off (.inr ⟨_, by k_mem, rfl, _, rfl⟩) ⟨rfl, qD_keep hI₂ hci (by assumption)⟩
      | exact LCg.CompEnd.intro (by assumption) (by assumption) _ (fun p hp => hp) off (.inr ⟨_, by k_mem, rfl, _, rfl⟩) ⟨rfl, qD_drop hI₂ hci (by omega)⟩
  · intro zs hI₂
    rw [List.take_of_length_le (by rw [List.size_toArray, hDq.length]; unfold qD; rw [List.length_map]; exact Nat.le_refl _)] at hI₂
    intro D₂ h tk F₁ N₁ o1
    (with_reducible rename DatAll dl _ (pD (aDel c key)) => hP9)
    (repeat' (first | (k_unfold; (try dsimp only)) | ((with_reducible show wpAny _ _ (call _ _) _ _ _); first | k_invariant "r" (1065, h_value_ok) | k_invariant "r" (1058, h_without)) | ((with_reducible show wpAny _ _ (compareOp _ _ (Value.ref _)) _ _ _); ((with_reducible apply eq_isE); (case N => k_asm); (case ma | mb => k_mem); (case P => first | exact Plain.nil | exact Plain.int | exact Plain.str (by kernel_rfl) | exact Plain.queue (by assumption) | exact Plain.cons (by assumption)); (case hu => ktr_room); k_whole; (try simp only [List.isEmpty_cons, List.isEmpty_nil, Bool.not_true, Bool.not_false]))) | walk1 | dsimp only | (leave1; try dsimp only)))
    exact ret _ _ _ _ _ _ _ _ _ _ _ _ _ [] (by assumption) (by walk_at "my news") Tups.nil .nil (hP9.mono fun p hp => List.mem_append_left _ hp) hI₂
set_option maxHeartbeats 4000000 in
theorem due7_no {w : World} {p : Program} {loose : List Str} {mean : ExcName → Option Value} {mg mb : Str → Option Value} {dp un : Nat} {gd : Option (List Code)} {cn : Str} {cs : Scope} {a : Addr} {ccd : Value} {cl : List (Str × Addr)} {outer : List Env} {A₀ : Around} {base h₀ : Heap} {L : Addr} {m : Str → Option Value} {s : Shared} {Q E : Value → Shared → Prop} {b bq : Addr} {n nq : Nat} {vs vq : List Value} {dl tl : Led} {c : List (Int × Int)} {q : List Int} {room key value : Int} {tr tk tv : Tok} {ag z : Bool} {td : Tok}
  (B : Below A₀ base outer h₀) (F : Fr h₀ L s.heap m) (X : (Mine.K0 w.params).In h₀) (T : Top p loose mean mg mb h₀) (hk : cs.kind = .function) (N : News h₀ L s.heap tl) (hs : ∀ p ∈ dl, p ∈ tl) (hm : (b, listOf vs.toArray n) ∈ tl) (hmq : (bq, listOf vq.toArray nq) ∈ tl) (hD : DatAll dl vs (pD c)) (hDq : DatAll [] vq (qD q)) (I : Inv (szB z) room ag c q) (v : Int) (h0 : True) (hh : aHas c key = false) (hdp : dp + 60 < recursionLimit) (hun : un + 400 < cLine)
  (ret : ∀ h' tk' r ra rp rq va vp vq' na np nq' n' d, Fr h₀ L h' m → News h₀ L h' ((r, tup3 ra rp rq n') :: (ra, listOf va.toArray na) :: (rp, listOf vp.toArray np) :: (rq, listOf vq'.toArray nq') :: (tl ++ d)) → Tups d → DatAll (dl ++ d) va (stepS (szB z) room ag c q 7 key value).1 → DatAll (dl ++ d) vp (pD (stepS (szB z) room ag c q 7 key value).2.1) → DatAll [] vq' (qD (stepS (szB z) room ag c q 7 key value).2.2) → Q (.ref r) { s with heap := h', toks := tk' }) :
  wpAny (model PySem.Challenge.rw_ki0005_01.row.prog w) (ktrTop dp un gd cn cs L a ccd cl outer) (call (.ref 1087) [.ref b, .ref bq, .int room tr, .bool z, .bool ag, .int 7 td, .int key tk, .int value tv]) Q E s := by
  have G := I.core
  have hlen := G.len
  have hlenq := G.lenq
  have hD0 : ∀ d, DatAll (dl ++ d) vs (pD c) := fun d => hD.mono fun p hp => List.mem_append_left _ hp
  have hn : aLook c key = none := by cases h9 : aLook c key with | none => rfl | some v => rw [aHas_of_look h9] at hh; cases hh
  have hv9 : True := trivial
  have e9 : (stepS (szB z) room ag c q 7 key value) = (missD, c, q) := by
    show takeS c q key (fun _ => []) missD = _; unfold takeS; rw [hn]
  rw [e9] at ret
  replace N := kst_newsOf (l' := (b, listOf vs.toArray n) :: (bq, listOf (vq).toArray nq) :: tl) N (List.forall_mem_cons.mpr ⟨hm, List.forall_mem_cons.mpr ⟨hmq, fun q hq => hq⟩⟩)
  (refine wpAny_call ?_; k_dflt (refine' enDC (Prod.fst ((fun (y : Str) => (if y = Str.ofString "value" then some (.int value tv) else if y = Str.ofString "deed" then some (.int 7 td) else if y = Str.ofString "again" then some (.bool ag) else if y = Str.ofString "sized" then some (.bool z) else if y = Str.ofString "room" then some (.int room tr) else if y = Str.ofString "queue" then some (.ref bq) else if y = Str.ofString "pairs" then some (.ref b) else none : Option Value)), (fun (y : Str) => (if y = Str.ofString "key" then some (.int key tk) else none : Option Value)))) (Prod.snd ((fun (y : Str) => (if y = Str.ofString "value" then some (.int value tv) else if y = Str.ofString "deed" then some (.int 7 td) else if y = Str.ofString "again" then some (.bool ag) else if y = Str.ofString "sized" then some (.bool z) else if y = Str.ofString "room" then some (.int room tr) else if y = Str.ofString "queue" then some (.ref bq) else if y = Str.ofString "pairs" then some (.ref b) else none : Option Value)), (fun (y : Str) => (if y = Str.ofString "key" then some (.int key tk) else none : Option Value)))) ?k1 ?k2 ?k3 ?k4 ?k5 ?kA ?kF ?kK ?k6 ?k7 ?k8 ?k9 ?kB ?kD ?kM ?kN ?_ ?c2 ?c3 ?c4; (case kA => exact rfl); (case kF => exact rfl); (case kK => first | exact rfl | assumption); (case k1 => k_asm); (case k2 => k_asm); (case k3 => k_asm); (case k4 => k_asm); (case k5 => k_asm); (case k6 => k_is); (case k7 => k_is); (case k8 => ktr_room); (case k9 => first | exact BindsTo.of_eq rfl | exact binds_K (by k_in) rfl (by k_is) rfl rfl rfl); (case kB => exact rfl); (case kD => decide +kernel); (case kM => (intro L'; funext y; rfl)); (case kN => (intro L'; funext y; rfl)); (case c2 => exact rfl); (case c3 => exact rfl); (case c4 => exact rfl); k_whole; intro g' L' h' tk' cells' FG' F' N' Y' B' X' T' l1; (try k_lt l1); k_cells Y'; (try simp only [List.cons_append, List.nil_append] at N'); (try dsimp only); (try dsimp only at F'); (try k_fold)))
  (repeat' (first | (k_unfold; (try dsimp only)) | ((with_reducible show wpAny _ _ (call _ _) _ _ _); k_invariant "r" (1065, h_value_no)) | (with_reducible refine iteT ?_) | ((with_reducible show wpAny _ _ (compareOp _ _ (Value.ref _)) _ _ _); ((with_reducible apply eq_isE); (case N => k_asm); (case ma | mb => k_mem); (case P => first | exact Plain.nil | exact Plain.int | exact Plain.str (by kernel_rfl) | exact Plain.queue (by assumption) | exact Plain.cons (by assumption)); (case hu => ktr_room); k_whole; (try simp only [List.isEmpty_cons, List.isEmpty_nil, Bool.not_true, Bool.not_false]))) | walk1 | dsimp only | (leave1; try dsimp only)))
  exact ret _ _ _ _ _ _ _ _ _ _ _ _ _ [] (by assumption) (by walk_at "my news") Tups.nil (.cons (.str _ _) .nil) (hD0 _) hDq
set_option maxHeartbeats 4000000 in
theorem due8_no {w : World} {p : Program} {loose : List Str} {mean : ExcName → Option Value} {mg mb : Str → Option Value} {dp un : Nat} {gd : Option (List Code)} {cn : Str} {cs : Scope} {a : Addr} {ccd : Value} {cl : List (Str × Addr)} {outer : List Env} {A₀ : Around} {base h₀ : Heap} {L : Addr} {m : Str → Option Value} {s : Shared} {Q E : Value → Shared → Prop} {b bq : Addr} {n nq : Nat} {vs vq : List Value} {dl tl : Led} {c : List (Int × Int)} {q : List Int} {room key value : Int} {tr tk tv : Tok} {ag z : Bool} {td : Tok}
  (B : Below A₀ base outer h₀) (F : Fr h₀ L s.heap m) (X : (Mine.K0 w.params).In h₀) (T : Top p loose mean mg mb h₀) (hk : cs.kind = .function) (N : News h₀ L s.heap tl) (hs : ∀ p ∈ dl, p ∈ tl) (hm : (b, listOf vs.toArray n) ∈ tl) (hmq : (bq, listOf vq.toArray nq) ∈ tl) (hD : DatAll dl vs (pD c)) (hDq : DatAll [] vq (qD q)) (I : Inv (szB z) room ag c q) (v : Int) (h0 : True) (hq : q = []) (hdp : dp + 60 < recursionLimit) (hun : un + 400 < cLine)
  (ret : ∀ h' tk' r ra rp rq va vp vq' na np nq' n' d, Fr h₀ L h' m → News h₀ L h' ((r, tup3 ra rp rq n') :: (ra, listOf va.toArray na) :: (rp, listOf vp.toArray np) :: (rq, listOf vq'.toArray nq') :: (tl ++ d)) → Tups d → DatAll (dl ++ d) va (stepS (szB z) room ag c q 8 key value).1 → DatAll (dl ++ d) vp (pD (stepS (szB z) room ag c q 8 key value).2.1) → DatAll [] vq' (qD (stepS (szB z) room ag c q 8 key value).2.2) → Q (.ref r) { s with heap := h', toks := tk' }) :
  wpAny (model PySem.Challenge.rw_ki0005_01.row.prog w) (ktrTop dp un gd cn cs L a ccd cl outer) (call (.ref 1087) [.ref b, .ref bq, .int room tr, .bool z, .bool ag, .int 8 td, .int key tk, .int value tv]) Q E s := by
  have G := I.core
  have hlen := G.len
  have hlenq := G.lenq
  have hD0 : ∀ d, DatAll (dl ++ d) vs (pD c) := fun d => hD.mono fun p hp => List.mem_append_left _ hp
  have hh9 : True := trivial
  have hv9 : True := trivial
  have e9 : (stepS (szB z) room ag c q 8 key value) = (missD, c, []) := by
    show (match q with | [] => ((missD, c, []) : Stp) | k :: q' => ([.tuple [.int k, .int ((aLook c k).getD 0)]], aDel c k, q')) = _; rw [hq]
  rw [e9] at ret
  subst hq
  have hvn : vq = [] := by cases hDq; rfl
  subst hvn
  replace N := kst_newsOf (l' := (b, listOf vs.toArray n) :: (bq, listOf ([] : List Value).toArray nq) :: tl) N (List.forall_mem_cons.mpr ⟨hm, List.forall_mem_cons.mpr ⟨hmq, fun q hq => hq⟩⟩)
  (refine wpAny_call ?_; k_dflt (refine' enDC (Prod.fst ((fun (y : Str) => (if y = Str.ofString "value" then some (.int value tv) else if y = Str.ofString "deed" then some (.int 8 td) else if y = Str.ofString "again" then some (.bool ag) else if y = Str.ofString "sized" then some (.bool z) else if y = Str.ofString "room" then some (.int room tr) else if y = Str.ofString "queue" then some (.ref bq) else if y = Str.ofString "pairs" then some (.ref b) else none : Option Value)), (fun (y : Str) => (if y = Str.ofString "key" then some (.int key tk) else none : Option Value)))) (Prod.snd ((fun (y : Str) => (if y = Str.ofString "value" then some (.int value tv) else if y = Str.ofString "deed" then some (.int 8 td) else if y = Str.ofString "again" then some (.bool ag) else if y = Str.ofString "sized" then some (.bool z) else if y = Str.ofString "room" then some (.int room tr) else if y = Str.ofString "queue" then some (.ref bq) else if y = Str.ofString "pairs" then some (.ref b) else none : Option Value)), (fun (y : Str) => (if y = Str.ofString "key" then some (.int key tk) else none : Option Value)))) ?k1 ?k2 ?k3 ?k4 ?k5 ?kA ?kF ?kK ?k6 ?k7 ?k8 ?k9 ?kB ?kD ?kM ?kN ?_ ?c2 ?c3 ?c4; (case kA => exact rfl); (case kF => exact rfl); (case kK => first | exact rfl | assumption); (case k1 => k_asm); (case k2 => k_asm); (case k3 => k_asm); (case k4 => k_asm); (case k5 => k_asm); (case k6 => k_is); (case k7 => k_is); (case k8 => ktr_room); (case k9 => first | exact BindsTo.of_eq rfl | exact binds_K (by k_in) rfl (by k_is) rfl rfl rfl); (case kB => exact rfl); (case kD => decide +kernel); (case kM => (intro L'; funext y; rfl)); (case kN => (intro L'; funext y; rfl)); (case c2 => exact rfl); (case c3 => exact rfl); (case c4 => exact rfl); k_whole; intro g' L' h' tk' cells' FG' F' N' Y' B' X' T' l1; (try k_lt l1); k_cells Y'; (try simp only [List.cons_append, List.nil_append] at N'); (try dsimp only); (try dsimp only at F'); (try k_fold)))
  (repeat' (first | (k_unfold; (try dsimp only)) | ((with_reducible show wpAny _ _ (call _ _) _ _ _); k_invariant "r" (1065, h_value)) | (with_reducible refine iteT ?_) | ((with_reducible show wpAny _ _ (compareOp _ _ (Value.ref _)) _ _ _); ((with_reducible apply eq_isE); (case N => k_asm); (case ma | mb => k_mem); (case P => first | exact Plain.nil | exact Plain.int | exact Plain.str (by kernel_rfl) | exact Plain.queue (by assumption) | exact Plain.cons (by assumption)); (case hu => ktr_room); k_whole; (try simp only [List.isEmpty_cons, List.isEmpty_nil, Bool.not_true, Bool.not_false]))) | walk1 | dsimp only | (leave1; try dsimp only)))
  exact ret _ _ _ _ _ _ _ _ _ _ _ _ _ [] (by assumption) (by walk_at "my news") Tups.nil (.cons (.str _ _) .nil) (hD0 _) .nil
set_option maxHeartbeats 4000000 in
theorem due8_ok {w : World} {p : Program} {loose : List Str} {mean : ExcName → Option Value} {mg mb : Str → Option Value} {dp un : Nat} {gd : Option (List Code)} {cn : Str} {cs : Scope} {a : Addr} {ccd : Value} {cl : List (Str × Addr)} {outer : List Env} {A₀ : Around} {base h₀ : Heap} {L : Addr} {m : Str → Option Value} {s : Shared} {Q E : Value → Shared → Prop} {b bq : Addr} {n nq : Nat} {vs vq : List Value} {dl tl : Led} {c : List (Int × Int)} {q : List Int} {room key value : Int} {tr tk tv : Tok} {ag z : Bool} {td : Tok}
  (B : Below A₀ base outer h₀) (F : Fr h₀ L s.heap m) (X : (Mine.K0 w.params).In h₀) (T : Top p loose mean mg mb h₀) (hk : cs.kind = .function) (N : News h₀ L s.heap tl) (hs : ∀ p ∈ dl, p ∈ tl) (hm : (b, listOf vs.toArray n) ∈ tl) (hmq : (bq, listOf vq.toArray nq) ∈ tl) (hD : DatAll dl vs (pD c)) (hDq : DatAll [] vq (qD q)) (I : Inv (szB z) room ag c q) {k : Int} {q' : List Int} (hq : q = k :: q') (hdp : dp + 60 < recursionLimit) (hun : un + 400 < cLine)
  (ret : ∀ h' tk' r ra rp rq va vp vq' na np nq' n' d, Fr h₀ L h' m → News h₀ L h' ((r, tup3 ra rp rq n') :: (ra, listOf va.toArray na) :: (rp, listOf vp.toArray np) :: (rq, listOf vq'.toArray nq') :: (tl ++ d)) → Tups d → DatAll (dl ++ d) va (stepS (szB z) room ag c q 8 key value).1 → DatAll (dl ++ d) vp (pD (stepS (szB z) room ag c q 8 key value).2.1) → DatAll [] vq' (qD (stepS (szB z) room ag c q 8 key value).2.2) → Q (.ref r) { s with heap := h', toks := tk' }) :
  wpAny (model PySem.Challenge.rw_ki0005_01.row.prog w) (ktrTop dp un gd cn cs L a ccd cl outer) (call (.ref 1087) [.ref b, .ref bq, .int room tr, .bool z, .bool ag, .int 8 td, .int key tk, .int value tv]) Q E s := by
  have G := I.core
  have hlen := G.len
  have hlenq := G.lenq
  have hD0 : ∀ d, DatAll (dl ++ d) vs (pD c) := fun d => hD.mono fun p hp => List.mem_append_left _ hp
  obtain ⟨v, hl8⟩ := aLook_of_has ((G.kq k).mpr (by rw [hq]; exact .head _))
  have e9 : (stepS (szB z) room ag c q 8 key value) = ([.tuple [.int k, .int v]], aDel c k, q') := by
    show (match q with | [] => ((missD, c, []) : Stp) | k :: q' => ([.tuple [.int k, .int ((aLook c k).getD 0)]], aDel c k, q')) = _; rw [hq]; simp only [hl8, Option.getD_some]
  rw [e9] at ret
  subst hq
  obtain ⟨t9, vq', rfl, hDq8⟩ := qD_cons hDq
  have hz9 : (Value.int k t9 :: vq').length ≤ 5 := by have := hDq.length; unfold qD at this; rw [List.length_map] at this; rw [this]; exact hlenq
  replace N := kst_newsOf (l' := (b, listOf vs.toArray n) :: (bq, listOf (.int k t9 :: vq').toArray nq) :: tl) N (List.forall_mem_cons.mpr ⟨hm, List.forall_mem_cons.mpr ⟨hmq, fun q hq => hq⟩⟩)
  (refine wpAny_call ?_; k_dflt (refine' enDC (Prod.fst ((fun (y : Str) => (if y = Str.ofString "value" then some (.int value tv) else if y = Str.ofString "deed" then some (.int 8 td) else if y = Str.ofString "again" then some (.bool ag) else if y = Str.ofString "sized" then some (.bool z) else if y = Str.ofString "room" then some (.int room tr) else if y = Str.ofString "queue" then some (.ref bq) else if y = Str.ofString "pairs" then some (.ref b) else none : Option Value)), (fun (y : Str) => (if y = Str.ofString "key" then some (.int key tk) else none : Option Value)))) (Prod.snd ((fun (y : Str) => (if y = Str.ofString "value" then some (.int value tv) else if y = Str.ofString "deed" then some (.int 8 td) else if y = Str.ofString "again" then some (.bool ag) else if y = Str.ofString "sized" then some (.bool z) else if y = Str.ofString "room" then some (.int room tr) else if y = Str.ofString "queue" then some (.ref bq) else if y = Str.ofString "pairs" then some (.ref b) else none : Option Value)), (fun (y : Str) => (if y = Str.ofString "key" then some (.int key tk) else none : Option Value)))) ?k1 ?k2 ?k3 ?k4 ?k5 ?kA ?kF ?kK ?k6 ?k7 ?k8 ?k9 ?kB ?kD ?kM ?kN ?_ ?c2 ?c3 ?c4; (case kA => exact rfl); (case kF => exact rfl); (case kK => first | exact rfl | assumption); (case k1 => k_asm); (case k2 => k_asm); (case k3 => k_asm); (case k4 => k_asm); (case k5 => k_asm); (case k6 => k_is); (case k7 => k_is); (case k8 => ktr_room); (case k9 => first | exact BindsTo.of_eq rfl | exact binds_K (by k_in) rfl (by k_is) rfl rfl rfl); (case kB => exact rfl); (case kD => decide +kernel); (case kM => (intro L'; funext y; rfl)); (case kN => (intro L'; funext y; rfl)); (case c2 => exact rfl); (case c3 => exact rfl); (case c4 => exact rfl); k_whole; intro g' L' h' tk' cells' FG' F' N' Y' B' X' T' l1; (try k_lt l1); k_cells Y'; (try simp only [List.cons_append, List.nil_append] at N'); (try dsimp only); (try dsimp only at F'); (try k_fold)))
  (repeat' ((fail_if_success (with_reducible show wpAny _ _ (exec (Stmt.For _ _ _ _ _) _) _ _ _)); (fail_if_success (with_reducible show wpAny _ _ (exec (Stmt.While _ _ _ _) _) _ _ _)); (fail_if_success (with_reducible show wpAny _ _ (pyIter _) _ _ _)); (fail_if_success (with_reducible show SearchPost _ _ _ _ _ _ _ _ _ _ _)); (fail_if_success (with_reducible show AnyPost _ _ _ _ _ _ _ _ _)); (fail_if_success (with_reducible show LCt.CompRestT _ _ _ _ _ _ _ _ _ _ _ _ _ _ _ _ _ _ _ _)); (fail_if_success (with_reducible show LCg.CompEnd _ _ _ _ _ _ _ _ _ _ _ _ _ _)); (fail_if_success (with_reducible show LCg.CompRest _ _ _ _ _ _ _ _ _ _ _ _ _ _ _ _ _ _ _)); first | (k_unfold; (try dsimp only)) | ((with_reducible show wpAny _ _ (call _ _) _ _ _); first | k_invariant "r" (1065, h_value_ok) | k_invariant "r" (1065, h_value) | k_invariant "r" (1058, h_without)) | ((with_reducible show wpAny _ _ (compareOp _ _ (Value.ref _)) _ _ _); ((with_reducible apply eq_isE); (case N => k_asm); (case ma | mb => k_mem); (case P => first | exact Plain.nil | exact Plain.int | exact Plain.str (by kernel_rfl) | exact Plain.queue (by assumption) | exact Plain.cons (by assumption)); (case hu => ktr_room); k_whole; (try simp only [List.isEmpty_cons, List.isEmpty_nil, Bool.not_true, Bool.not_false]))) | ((with_reducible show wpAny _ _ (subscriptTail _ (Expr.Slice _ _ _ _) (Value.ref _) (Value.ref _)) _ _ _); refine slice_tail (by k_asm) (by k_asm) (by k_mem) (by assumption) (by kmk_part) (by kmk_part) ?_ (by with_unfolding_all rfl) (by kmk_pure); k_whole; intro D' h' F' N') | walk1 | dsimp only | (leave1; try dsimp only)))
  (with_reducible rename DatAll dl _ (pD (aDel c k)) => hP9)
  exact ret _ _ _ _ _ _ _ _ _ _ _ _ _ [_] (by assumption) (by walk_at "my news") (Tups.cons rfl Tups.nil) (.cons (.tuple (List.mem_append_right _ (.head _)) (.cons (.int _ _) (.cons (.int _ _) .nil))) .nil) (hP9.mono fun p hp => List.mem_append_left _ hp) hDq8
set_option maxHeartbeats 4000000 in
theorem due9_clr {w : World} {p : Program} {loose : List Str} {mean : ExcName → Option Value} {mg mb : Str → Option Value} {dp un : Nat} {gd : Option (List Code)} {cn : Str} {cs : Scope} {a : Addr} {ccd : Value} {cl : List (Str × Addr)} {outer : List Env} {A₀ : Around} {base h₀ : Heap} {L : Addr} {m : Str → Option Value} {s : Shared} {Q E : Value → Shared → Prop} {b bq : Addr} {n nq : Nat} {vs vq : List Value} {dl tl : Led} {c : List (Int × Int)} {q : List Int} {room key value : Int} {tr tk tv : Tok} {ag z : Bool} {td : Tok}
  (B : Below A₀ base outer h₀) (F : Fr h₀ L s.heap m) (X : (Mine.K0 w.params).In h₀) (T : Top p loose mean mg mb h₀) (hk : cs.kind = .function) (N : News h₀ L s.heap tl) (hs : ∀ p ∈ dl, p ∈ tl) (hm : (b, listOf vs.toArray n) ∈ tl) (hmq : (bq, listOf vq.toArray nq) ∈ tl) (hD : DatAll dl vs (pD c)) (hDq : DatAll [] vq (qD q)) (I : Inv (szB z) room ag c q) (v : Int) (h0 : True) (hv : value.fmod 4 = 0) (hdp : dp + 60 < recursionLimit) (hun : un + 400 < cLine)
  (ret : ∀ h' tk' r ra rp rq va vp vq' na np nq' n' d, Fr h₀ L h' m → News h₀ L h' ((r, tup3 ra rp rq n') :: (ra, listOf va.toArray na) :: (rp, listOf vp.toArray np) :: (rq, listOf vq'.toArray nq') :: (tl ++ d)) → Tups d → DatAll (dl ++ d) va (stepS (szB z) room ag c q 9 key value).1 → DatAll (dl ++ d) vp (pD (stepS (szB z) room ag c q 9 key value).2.1) → DatAll [] vq' (qD (stepS (szB z) room ag c q 9 key value).2.2) → Q (.ref r) { s with heap := h', toks := tk' }) :
  wpAny (model PySem.Challenge.rw_ki0005_01.row.prog w) (ktrTop dp un gd cn cs L a ccd cl outer) (call (.ref 1087) [.ref b, .ref bq, .int room tr, .bool z, .bool ag, .int 9 td, .int key tk, .int value tv]) Q E s := by
  have G := I.core
  have hlen := G.len
  have hlenq := G.lenq
  have hD0 : ∀ d, DatAll (dl ++ d) vs (pD c) := fun d => hD.mono fun p hp => List.mem_append_left _ hp
  have hh9 : True := trivial
  have hv9 : (value.fmod 4 == 0) = true := beq_iff_eq.mpr hv
  have e9 : (stepS (szB z) room ag c q 9 key value) = ([], [], []) := by
    show (if value.fmod 4 = 0 then (([], [], []) : Stp) else _) = _; rw [if_pos hv]
  rw [e9] at ret
  replace N := kst_newsOf (l' := (b, listOf vs.toArray n) :: (bq, listOf (vq).toArray nq) :: tl) N (List.forall_mem_cons.mpr ⟨hm, List.forall_mem_cons.mpr ⟨hmq, fun q hq => hq⟩⟩)
  (refine wpAny_call ?_; k_dflt (refine' enDC (Prod.fst ((fun (y : Str) => (if y = Str.ofString "value" then some (.int value tv) else if y = Str.ofString "deed" then some (.int 9 td) else if y = Str.ofString "again" then some (.bool ag) else if y = Str.ofString "sized" then some (.bool z) else if y = Str.ofString "room" then some (.int room tr) else if y = Str.ofString "queue" then some (.ref bq) else if y = Str.ofString "pairs" then some (.ref b) else none : Option Value)), (fun (y : Str) => (if y = Str.ofString "key" then some (.int key tk) else none : Option Value)))) (Prod.snd ((fun (y : Str) => (if y = Str.ofString "value" then some (.int value tv) else if y = Str.ofString "deed" then some (.int 9 td) else if y = Str.ofString "again" then some (.bool ag) else if y = Str.ofString "sized" then some (.bool z) else if y = Str.ofString "room" then some (.int room tr) else if y = Str.ofString "queue" then some (.ref bq) else if y = Str.ofString "pairs" then some (.ref b) else none : Option Value)), (fun (y : Str) => (if y = Str.ofString "key" then some (.int key tk) else none : Option Value)))) ?k1 ?k2 ?k3 ?k4 ?k5 ?kA ?kF ?kK ?k6 ?k7 ?k8 ?k9 ?kB ?kD ?kM ?kN ?_ ?c2 ?c3 ?c4; (case kA => exact rfl); (case kF => exact rfl); (case kK => first | exact rfl | assumption); (case k1 => k_asm); (case k2 => k_asm); (case k3 => k_asm); (case k4 => k_asm); (case k5 => k_asm); (case k6 => k_is); (case k7 => k_is); (case k8 => ktr_room); (case k9 => first | exact BindsTo.of_eq rfl | exact binds_K (by k_in) rfl (by k_is) rfl rfl rfl); (case kB => exact rfl); (case kD => decide +kernel); (case kM => (intro L'; funext y; rfl)); (case kN => (intro L'; funext y; rfl)); (case c2 => exact rfl); (case c3 => exact rfl); (case c4 => exact rfl); k_whole; intro g' L' h' tk' cells' FG' F' N' Y' B' X' T' l1; (try k_lt l1); k_cells Y'; (try simp only [List.cons_append, List.nil_append] at N'); (try dsimp only); (try dsimp only at F'); (try k_fold)))
  (repeat' (first | (k_unfold; (try dsimp only)) | ((with_reducible show wpAny _ _ (call _ _) _ _ _); k_invariant "r" (1065, h_value)) | (with_reducible refine iteT ?_) | walk1 | (dsimp only; first | ((with_reducible show wpAny _ _ (call _ _) _ _ _); k_invariant "r" (1065, h_value)) | (with_reducible refine iteT ?_) | walk1) | (leave1; try dsimp only)))
  exact ret _ _ _ _ _ _ _ _ _ _ _ _ _ [] (by assumption) (by walk_at "my news") Tups.nil .nil .nil .nil
set_option maxHeartbeats 4000000 in
theorem due9_ok {w : World} {p : Program} {loose : List Str} {mean : ExcName → Option Value} {mg mb : Str → Option Value} {dp un : Nat} {gd : Option (List Code)} {cn : Str} {cs : Scope} {a : Addr} {ccd : Value} {cl : List (Str × Addr)} {outer : List Env} {A₀ : Around} {base h₀ : Heap} {L : Addr} {m : Str → Option Value} {s : Shared} {Q E : Value → Shared → Prop} {b bq : Addr} {n nq : Nat} {vs vq : List Value} {dl tl : Led} {c : List (Int × Int)} {q : List Int} {room key value : Int} {tr tk tv : Tok} {ag z : Bool} {td : Tok}
  (B : Below A₀ base outer h₀) (F : Fr h₀ L s.heap m) (X : (Mine.K0 w.params).In h₀) (T : Top p loose mean mg mb h₀) (hk : cs.kind = .function) (N : News h₀ L s.heap tl) (hs : ∀ p ∈ dl, p ∈ tl) (hm : (b, listOf vs.toArray n) ∈ tl) (hmq : (bq, listOf vq.toArray nq) ∈ tl) (hD : DatAll dl vs (pD c)) (hDq : DatAll [] vq (qD q)) (I : Inv (szB z) room ag c q) {v : Int} (hv : ¬ value.fmod 4 = 0) (hl : aLook c key = some v) (hdp : dp + 60 < recursionLimit) (hun : un + 400 < cLine)
  (ret : ∀ h' tk' r ra rp rq va vp vq' na np nq' n' d, Fr h₀ L h' m → News h₀ L h' ((r, tup3 ra rp rq n') :: (ra, listOf va.toArray na) :: (rp, listOf vp.toArray np) :: (rq, listOf vq'.toArray nq') :: (tl ++ d)) → Tups d → DatAll (dl ++ d) va (stepS (szB z) room ag c q 9 key value).1 → DatAll (dl ++ d) vp (pD (stepS (szB z) room ag c q 9 key value).2.1) → DatAll [] vq' (qD (stepS (szB z) room ag c q 9 key value).2.2) → Q (.ref r) { s with heap := h', toks := tk' }) :
  wpAny (model PySem.Challenge.rw_ki0005_01.row.prog w) (ktrTop dp un gd cn cs L a ccd cl outer) (call (.ref 1087) [.ref b, .ref bq, .int room tr, .bool z, .bool ag, .int 9 td, .int key tk, .int value tv]) Q E s := by
  have G := I.core
  have hlen := G.len
  have hlenq := G.lenq
  have hD0 : ∀ d, DatAll (dl ++ d) vs (pD c) := fun d => hD.mono fun p hp => List.mem_append_left _ hp
  have hh : aHas c key = true := aHas_of_look hl
  have hv9 : (value.fmod 4 == 0) = false := beq_eq_false_iff_ne.mpr hv
  have e9 : (stepS (szB z) room ag c q 9 key value) = ([.int v], aDel c key, qDel q key) := by
    show (if value.fmod 4 = 0 then (([], [], []) : Stp) else takeS c q key (fun v => [.int v]) missD) = _; rw [if_neg hv]; unfold takeS; rw [hl]
  rw [e9] at ret
  replace N := kst_newsOf (l' := (b, listOf vs.toArray n) :: (bq, listOf (vq).toArray nq) :: tl) N (List.forall_mem_cons.mpr ⟨hm, List.forall_mem_cons.mpr ⟨hmq, fun q hq => hq⟩⟩)
  (refine wpAny_call ?_; k_dflt (refine' enDC (Prod.fst ((fun (y : Str) => (if y = Str.ofString "value" then some (.int value tv) else if y = Str.ofString "deed" then some (.int 9 td) else if y = Str.ofString "again" then some (.bool ag) else if y = Str.ofString "sized" then some (.bool z) else if y = Str.ofString "room" then some (.int room tr) else if y = Str.ofString "queue" then some (.ref bq) else if y = Str.ofString "pairs" then some (.ref b) else none : Option Value)), (fun (y : Str) => (if y = Str.ofString "key" then some (.int key tk) else none : Option Value)))) (Prod.snd ((fun (y : Str) => (if y = Str.ofString "value" then some (.int value tv) else if y = Str.ofString "deed" then some (.int 9 td) else if y = Str.ofString "again" then some (.bool ag) else if y = Str.ofString "sized" then some (.bool z) else if y = Str.ofString "room" then some (.int room tr) else if y = Str.ofString "queue" then some (.ref bq) else if y = Str.ofString "pairs" then some (.ref b) else none : Option Value)), (fun (y : Str) => (if y = Str.ofString "key" then some (.int key tk) else none : Option Value)))) ?k1 ?k2 ?k3 ?k4 ?k5 ?kA ?kF ?kK ?k6 ?k7 ?k8 ?k9 ?kB ?kD ?kM ?kN ?_ ?c2 ?c3 ?c4; (case kA => exact rfl); (case kF => exact rfl); (case kK => first | exact rfl | assumption); (case k1 => k_asm); (case k2 => k_asm); (case k3 => k_asm); (case k4 => k_asm); (case k5 => k_asm); (case k6 => k_is); (case k7 => k_is); (case k8 => ktr_room); (case k9 => first | exact BindsTo.of_eq rfl | exact binds_K (by k_in) rfl (by k_is) rfl rfl rfl); (case kB => exact rfl); (case kD => decide +kernel); (case kM => (intro L'; funext y; rfl)); (case kN => (intro L'; funext y; rfl)); (case c2 => exact rfl); (case c3 => exact rfl); (case c4 => exact rfl); k_whole; intro g' L' h' tk' cells' FG' F' N' Y' B' X' T' l1; (try k_lt l1); k_cells Y'; (try simp only [List.cons_append, List.nil_append] at N'); (try dsimp only); (try dsimp only at F'); (try k_fold)))
  (repeat' ((fail_if_success (with_reducible show LCt.CompRestT _ _ _ _ _ _ _ _ _ _ _ _ _ _ _ _ _ _ _ _)); (fail_if_success (with_reducible show LCg.CompRest _ _ _ _ _ _ _ _ _ _ _ _ _ _ _ _ _ _ _)); first | (k_unfold; (try dsimp only)) | ((with_reducible show wpAny _ _ (call _ _) _ _ _); first | k_invariant "r" (1065, h_value_ok) | k_invariant "r" (1058, h_without)) | ((with_reducible show wpAny _ _ (compareOp _ _ (Value.ref _)) _ _ _); ((with_reducible apply eq_isE); (case N => k_asm); (case ma | mb => k_mem); (case P => first | exact Plain.nil | exact Plain.int | exact Plain.str (by kernel_rfl) | exact Plain.queue (by assumption) | exact Plain.cons (by assumption)); (case hu => ktr_room); k_whole; (try simp only [List.isEmpty_cons, List.isEmpty_nil, Bool.not_true, Bool.not_false]))) | walk1 | dsimp only | (leave1; try dsimp only)))
  refine comp_T_same (fun i zs => DatAll [] zs (qD (qDel (q.take i) key))) ?_ ?_ .nil
  · intro i v zs I oI C oC D₂ m₂ h tk E' hi hv hI₂ hC hx F₁ N₁ off ne
    obtain ⟨k, t, hci, rfl⟩ := qD_get hDq (show vq[i]? = some v by simpa using hv)
    (repeat' ((fail_if_success (with_reducible show SearchPost _ _ _ _ _ _ _ _ _ _ _)); (fail_if_success (with_reducible show AnyPost _ _ _ _ _ _ _ _ _)); (fail_if_success (with_reducible show LCt.CompRestT _ _ _ _ _ _ _ _ _ _ _ _ _ _ _ _ _ _ _ _)); (fail_if_success (with_reducible show LCg.CompEnd _ _ _ _ _ _ _ _ _ _ _ _ _ _)); (fail_if_success (with_reducible show LCg.CompRest _ _ _ _ _ _ _ _ _ _ _ _ _ _ _ _ _ _ _)); first | (k_unfold; (try dsimp only)) | ((with_reducible show wpAny _ _ (call _ _) _ _ _); first | k_invariant "r" (1065, h_value_ok) | k_invariant "r" (1058, h_without)) | ((with_reducible show wpAny _ _ (compareOp _ _ (Value.ref _)) _ _ _); ((with_reducible apply eq_isE); (case N => k_asm); (case ma | mb => k_mem); (case P => first | exact Plain.nil | exact Plain.int | exact Plain.str (by kernel_rfl) | exact Plain.queue (by assumption) | exact Plain.cons (by assumption)); (case hu => ktr_room); k_whole; (try simp only [List.isEmpty_cons, List.isEmpty_nil, Bool.not_true, Bool.not_false]))) | walk1 | dsimp only | (leave1; try dsimp only)))
    all_goals first
      | exact LCg.CompEnd.intro (by assumption) (by assumption) _ (fun p hp => hp) off (.inr ⟨_, by k_mem, rfl, _, rfl⟩) ⟨rfl, qD_keep hI₂ hci (by assumption)⟩
      | exact LCg.CompEnd.intro (by assumption) (by assumption) _ (fun p hp => hp) off (.inr ⟨_, by k_mem, rfl, _, rfl⟩) ⟨rfl, qD_drop hI₂ hci (by omega)⟩
  · intro zs hI₂
    rw [List.take_of_length_le (by rw [List.size_toArray, hDq.length]; unfold qD; rw [List.length_map]; exact Nat.le_refl _)] at hI₂
    intro D₂ h tk F₁ N₁ o1
    (with_reducible rename DatAll dl _ (pD (aDel c key)) => hP9)
    (repeat' (first | (k_unfold; (try dsimp only)) | ((with_reducible show wpAny _ _ (call _ _) _ _ _); first | k_invariant "r" (1065, h_value_ok) | k_invariant "r" (1058, h_without)) | ((with_reducible show wpAny _ _ (compareOp _ _ (Value.ref _)) _ _ _); ((with_reducible apply eq_isE); (case N => k_asm); (case ma | mb => k_mem); (case P => first | exact Plain.nil | exact Plain.int | exact Plain.str (by kernel_rfl) | exact Plain.queue (by assumption) | exact Plain.cons (by assumption)); (case hu => ktr_room); k_whole; (try simp only [List.isEmpty_cons, List.isEmpty_nil, Bool.not_true, Bool.not_false]))) | walk1 | dsimp only | (leave1; try dsimp only)))
    exact ret _ _ _ _ _ _ _ _ _ _ _ _ _ [] (by assumption) (by walk_at "my news") Tups.nil (.cons (.int _ _) .nil) (hP9.mono fun p hp => List.mem_append_left _ hp) hI₂
set_option maxHeartbeats 4000000 in
theorem due9_no {w : World} {p : Program} {loose : List Str} {mean : ExcName → Option Value} {mg mb : Str → Option Value} {dp un : Nat} {gd : Option (List Code)} {cn : Str} {cs : Scope} {a : Addr} {ccd : Value} {cl : List (Str × Addr)} {outer : List Env} {A₀ : Around} {base h₀ : Heap} {L : Addr} {m : Str → Option Value} {s : Shared} {Q E : Value → Shared → Prop} {b bq : Addr} {n nq : Nat} {vs vq : List Value} {dl tl : Led} {c : List (Int × Int)} {q : List Int} {room key value : Int} {tr tk tv : Tok} {ag z : Bool} {td : Tok}
  (B : Below A₀ base outer h₀) (F : Fr h₀ L s.heap m) (X : (Mine.K0 w.params).In h₀) (T : Top p loose mean mg mb h₀) (hk : cs.kind = .function) (N : News h₀ L s.heap tl) (hs : ∀ p ∈ dl, p ∈ tl) (hm : (b, listOf vs.toArray n) ∈ tl) (hmq : (bq, listOf vq.toArray nq) ∈ tl) (hD : DatAll dl vs (pD c)) (hDq : DatAll [] vq (qD q)) (I : Inv (szB z) room ag c q) (v : Int) (hv : ¬ value.fmod 4 = 0) (hh : aHas c key = false) (hdp : dp + 60 < recursionLimit) (hun : un + 400 < cLine)
  (ret : ∀ h' tk' r ra rp rq va vp vq' na np nq' n' d, Fr h₀ L h' m → News h₀ L h' ((r, tup3 ra rp rq n') :: (ra, listOf va.toArray na) :: (rp, listOf vp.toArray np) :: (rq, listOf vq'.toArray nq') :: (tl ++ d)) → Tups d → DatAll (dl ++ d) va (stepS (szB z) room ag c q 9 key value).1 → DatAll (dl ++ d) vp (pD (stepS (szB z) room ag c q 9 key value).2.1) → DatAll [] vq' (qD (stepS (szB z) room ag c q 9 key value).2.2) → Q (.ref r) { s with heap := h', toks := tk' }) :
  wpAny (model PySem.Challenge.rw_ki0005_01.row.prog w) (ktrTop dp un gd cn cs L a ccd cl outer) (call (.ref 1087) [.ref b, .ref bq, .int room tr, .bool z, .bool ag, .int 9 td, .int key tk, .int value tv]) Q E s := by
  have G := I.core
  have hlen := G.len
  have hlenq := G.lenq
  have hD0 : ∀ d, DatAll (dl ++ d) vs (pD c) := fun d => hD.mono fun p hp => List.mem_append_left _ hp
  have hn : aLook c key = none := by cases h9 : aLook c key with | none => rfl | some v => rw [aHas_of_look h9] at hh; cases hh
  have hv9 : (value.fmod 4 == 0) = false := beq_eq_false_iff_ne.mpr hv
  have e9 : (stepS (szB z) room ag c q 9 key value) = (missD, c, q) := by
    show (if value.fmod 4 = 0 then (([], [], []) : Stp) else takeS c q key (fun v => [.int v]) missD) = _; rw [if_neg hv]; unfold takeS; rw [hn]
  rw [e9] at ret
  replace N := kst_newsOf (l' := (b, listOf vs.toArray n) :: (bq, listOf (vq).toArray nq) :: tl) N (List.forall_mem_cons.mpr ⟨hm, List.forall_mem_cons.mpr ⟨hmq, fun q hq => hq⟩⟩)
  (refine wpAny_call ?_; k_dflt (refine' enDC (Prod.fst ((fun (y : Str) => (if y = Str.ofString "value" then some (.int value tv) else if y = Str.ofString "deed" then some (.int 9 td) else if y = Str.ofString "again" then some (.bool ag) else if y = Str.ofString "sized" then some (.bool z) else if y = Str.ofString "room" then some (.int room tr) else if y = Str.ofString "queue" then some (.ref bq) else if y = Str.ofString "pairs" then some (.ref b) else none : Option Value)), (fun (y : Str) => (if y = Str.ofString "key" then some (.int key tk) else none : Option Value)))) (Prod.snd ((fun (y : Str) => (if y = Str.ofString "value" then some (.int value tv) else if y = Str.ofString "deed" then some (.int 9 td) else if y = Str.ofString "again" then some (.bool ag) else if y = Str.ofString "sized" then some (.bool z) else if y = Str.ofString "room" then some (.int room tr) else if y = Str.ofString "queue" then some (.ref bq) else if y = Str.ofString "pairs" then some (.ref b) else none : Option Value)), (fun (y : Str) => (if y = Str.ofString "key" then some (.int key tk) else none : Option Value)))) ?k1 ?k2 ?k3 ?k4 ?k5 ?kA ?kF ?kK ?k6 ?k7 ?k8 ?k9 ?kB ?kD ?kM ?kN ?_ ?c2 ?c3 ?c4; (case kA => exact rfl); (case kF => exact rfl); (case kK => first | exact rfl | assumption); (case k1 => k_asm); (case k2 => k_asm); (case k3 => k_asm); (case k4 => k_asm); (case k5 => k_asm); (case k6 => k_is); (case k7 => k_is); (case k8 => ktr_room); (case k9 => first | exact BindsTo.of_eq rfl | exact binds_K (by k_in) rfl (by k_is) rfl rfl rfl); (case kB => exact rfl); (case kD => decide +kernel); (case kM => (intro L'; funext y; rfl)); (case kN => (intro L'; funext y; rfl)); (case c2 => exact rfl); (case c3 => exact rfl); (case c4 => exact rfl); k_whole; intro g' L' h' tk' cells' FG' F' N' Y' B' X' T' l1; (try k_lt l1); k_cells Y'; (try simp only [List.cons_append, List.nil_append] at N'); (try dsimp only); (try dsimp only at F'); (try k_fold)))
  (repeat' (first | (k_unfold; (try dsimp only)) | ((with_reducible show wpAny _ _ (call _ _) _ _ _); k_invariant "r" (1065, h_value_no)) | (with_reducible refine iteT ?_) | ((with_reducible show wpAny _ _ (compareOp _ _ (Value.ref _)) _ _ _); ((with_reducible apply eq_isE); (case N => k_asm); (case ma | mb => k_mem); (case P => first | exact Plain.nil | exact Plain.int | exact Plain.str (by kernel_rfl) | exact Plain.queue (by assumption) | exact Plain.cons (by assumption)); (case hu => ktr_room); k_whole; (try simp only [List.isEmpty_cons, List.isEmpty_nil, Bool.not_true, Bool.not_false]))) | walk1 | dsimp only | (leave1; try dsimp only)))
  exact ret _ _ _ _ _ _ _ _ _ _ _ _ _ [] (by assumption) (by walk_at "my news") Tups.nil (.cons (.str _ _) .nil) (hD0 _) hDq
-- Hj
theorem look_cases (c : List (Int × Int)) (k : Int) : (∃ v, aLook c k = some v) ∨ aHas c k = false := by
  cases h : aHas c k with
  | true => exact .inl (aLook_of_has h)
  | false => exact .inr rfl
theorem h_due {w : World} {p : Program} {loose : List Str} {mean : ExcName → Option Value} {mg mb : Str → Option Value} {dp un : Nat} {gd : Option (List Code)} {cn : Str} {cs : Scope} {a : Addr} {ccd : Value} {cl : List (Str × Addr)} {outer : List Env} {A₀ : Around} {base h₀ : Heap} {L : Addr} {m : Str → Option Value} {s : Shared} {Q E : Value → Shared → Prop} {b bq : Addr} {n nq : Nat} {vs vq : List Value} {dl tl : Led} {c : List (Int × Int)} {q : List Int} {room key value : Int} {tr tk tv : Tok} {ag z : Bool} {deed : Int} {td : Tok}
  (B : Below A₀ base outer h₀) (F : Fr h₀ L s.heap m) (X : (Mine.K0 w.params).In h₀) (T : Top p loose mean mg mb h₀) (hk : cs.kind = .function) (N : News h₀ L s.heap tl) (hs : ∀ p ∈ dl, p ∈ tl) (hm : (b, listOf vs.toArray n) ∈ tl) (hmq : (bq, listOf vq.toArray nq) ∈ tl) (hD : DatAll dl vs (pD c)) (hDq : DatAll [] vq (qD q)) (I : Inv (szB z) room ag c q) (hd : 0 ≤ deed ∧ deed < 10) (hdp : dp + 60 < recursionLimit) (hun : un + 400 < cLine)
  (ret : ∀ h' tk' r ra rp rq va vp vq' na np nq' n' d, Fr h₀ L h' m → News h₀ L h' ((r, tup3 ra rp rq n') :: (ra, listOf va.toArray na) :: (rp, listOf vp.toArray np) :: (rq, listOf vq'.toArray nq') :: (tl ++ d)) → Tups d → DatAll (dl ++ d) va (stepS (szB z) room ag c q deed key value).1 → DatAll (dl ++ d) vp (pD (stepS (szB z) room ag c q deed key value).2.1) → DatAll [] vq' (qD (stepS (szB z) room ag c q deed key value).2.2) → Q (.ref r) { s with heap := h', toks := tk' }) :
  wpAny (model PySem.Challenge.rw_ki0005_01.row.prog w) (ktrTop dp un gd cn cs L a ccd cl outer) (call (.ref 1087) [.ref b, .ref bq, .int room tr, .bool z, .bool ag, .int deed td, .int key tk, .int value tv]) Q E s := by
  by_cases h2 : deed < 2
  · by_cases hf : Fits (szB z) room value
    · exact due_set B F X T hk N hs hm hmq hD hDq I h2 hf hdp hun ret
    · exact due_setno B F X T hk N hs hm hmq hD hDq I h2 hf hdp hun ret
  have h3 : deed = 2 ∨ deed = 3 ∨ deed = 4 ∨ deed = 5 ∨ deed = 6 ∨ deed = 7 ∨ deed = 8 ∨ deed = 9 := ten (by assumption) (by assumption)
  rcases h3 with rfl | rfl | rfl | rfl | rfl | rfl | rfl | rfl
  · rcases look_cases c key with ⟨v, hl⟩ | hh
    · exact due2_ok B F X T hk N hs hm hmq hD hDq I trivial hl hdp hun ret
    · exact due2_no B F X T hk N hs hm hmq hD hDq I 0 trivial hh hdp hun ret
  · rcases look_cases c key with ⟨v, hl⟩ | hh
    · exact due3_ok B F X T hk N hs hm hmq hD hDq I trivial hl hdp hun ret
    · exact due3_no B F X T hk N hs hm hmq hD hDq I 0 trivial hh hdp hun ret
  · rcases look_cases c key with ⟨v, hl⟩ | hh
    · exact due4_ok B F X T hk N hs hm hmq hD hDq I trivial hl hdp hun ret
    · exact due4_no B F X T hk N hs hm hmq hD hDq I 0 trivial hh hdp hun ret
  · rcases look_cases c key with ⟨v, hl⟩ | hh
    · exact due5_ok B F X T hk N hs hm hmq hD hDq I trivial hl hdp hun ret
    · exact due5_no B F X T hk N hs hm hmq hD hDq I 0 trivial hh hdp hun ret
  · rcases look_cases c key with ⟨v, hl⟩ | hh
    · exact due6_ok B F X T hk N hs hm hmq hD hDq I trivial hl hdp hun ret
    · by_cases hf : Fits (szB z) room value
      · exact due6_set B F X T hk N hs hm hmq hD hDq I 0 hh hf hdp hun ret
      · exact due6_no B F X T hk N hs hm hmq hD hDq I 0 hh hf hdp hun ret
  · rcases look_cases c key with ⟨v, hl⟩ | hh
    · exact due7_ok B F X T hk N hs hm hmq hD hDq I trivial hl hdp hun ret
    · exact due7_no B F X T hk N hs hm hmq hD hDq I 0 trivial hh hdp hun ret
  · cases q with
    | nil => exact due8_no B F X T hk N hs hm hmq hD hDq I 0 trivial rfl hdp hun ret
    | cons k q' =>
      exact due8_ok B F X T hk N hs hm hmq hD hDq I rfl hdp hun ret
  · by_cases hv : value.fmod 4 = 0
    · exact due9_clr B F X T hk N hs hm hmq hD hDq I 0 trivial hv hdp hun ret
    · rcases look_cases c key with ⟨v, hl⟩ | hh
      · exact due9_ok B F X T hk N hs hm hmq hD hDq I hv hl hdp hun ret
      · exact due9_no B F X T hk N hs hm hmq hD hDq I 0 hv hh hdp hun ret
theorem h_deed {w : World} {p : Program} {loose : List Str} {mean : ExcName → Option Value} {mg mb : Str → Option Value} {dp un : Nat} {gd : Option (List Code)} {cn : Str} {cs : Scope} {a : Addr} {ccd : Value} {A₀ : Around} {base h₀ : Heap} {L : Addr} {m : Str → Option Value} {s : Shared} {E : Value → Shared → Prop} {S : Sh} {rest nx : Led} {c : List (Int × Int)} {q : List Int} {Q : Value → Shared → Prop} {key value : Int} {td tk tv : Tok}
  (XB : (Mine.K0 w.params).In base) (TB : Top p loose mean mg mb base) (B : Below A₀ base [] h₀) (F : Fr h₀ L s.heap m) (X : (Mine.K0 w.params).In h₀) (T : Top p loose mean mg mb h₀) (hk : cs.kind = .function) (R : Cw w S rest c q nx) (N : News h₀ L s.heap nx) (I : Inv S.sz S.room S.fifo c q) {deed : Int} (hd : 0 ≤ deed ∧ deed < 10) (hdp : dp + 80 < recursionLimit) (hun : un + 600 < cLine) (ret : ∀ h' tk' r vs n dl nx', Cw w S rest (stepS S.sz S.room S.fifo c q deed key value).2.1 (stepS S.sz S.room S.fifo c q deed key value).2.2 nx' → Fr h₀ L h' m → News h₀ L h' ((r, listOf vs.toArray n) :: (dl ++ nx')) → DatAll dl vs (stepS S.sz S.room S.fifo c q deed key value).1 → Tups dl → Q (.ref r) { s with heap := h', toks := tk' }) :
  wpAny (model PySem.Challenge.rw_ki0005_01.row.prog w) (ktrTop dp un gd cn cs L a ccd [] []) (call (.ref 1082) [.ref S.x, .int deed td, .int key tk, .int value tv]) Q E s := by
  by_cases h2 : deed < 2
  · by_cases hf : Fits S.sz S.room value
    · exact deed_set XB TB B F X T hk R N I h2 hf hdp hun ret
    · exact deed_setno XB TB B F X T hk R N I h2 hf hdp hun ret
  have h3 : deed = 2 ∨ deed = 3 ∨ deed = 4 ∨ deed = 5 ∨ deed = 6 ∨ deed = 7 ∨ deed = 8 ∨ deed = 9 := ten (by assumption) (by assumption)
  rcases h3 with rfl | rfl | rfl | rfl | rfl | rfl | rfl | rfl
  · rcases look_cases c key with ⟨v, hl⟩ | hh
    · exact deed2_ok XB TB B F X T hk R N I trivial hl hdp hun ret
    · exact deed2_no XB TB B F X T hk R N I 0 trivial hh hdp hun ret
  · exact deed3 XB TB B F X T hk R N I trivial rfl hdp hun ret
  · rcases look_cases c key with ⟨v, hl⟩ | hh
    · exact deed4_ok XB TB B F X T hk R N I trivial hl hdp hun ret
    · exact deed4_no XB TB B F X T hk R N I 0 trivial hh hdp hun ret
  · rcases look_cases c key with ⟨v, hl⟩ | hh
    · exact deed5_ok XB TB B F X T hk R N I trivial hl hdp hun ret
    · exact deed5_no XB TB B F X T hk R N I 0 trivial hh hdp hun ret
  · rcases look_cases c key with ⟨v, hl⟩ | hh
    · exact deed6_ok XB TB B F X T hk R N I trivial hl hdp hun ret
    · by_cases hf : Fits S.sz S.room value
      · exact deed6_set XB TB B F X T hk R N I 0 hh hf hdp hun ret
      · exact deed6_no XB TB B F X T hk R N I 0 hh hf hdp hun ret
  · rcases look_cases c key with ⟨v, hl⟩ | hh
    · exact deed7_ok XB TB B F X T hk R N I trivial hl hdp hun ret
    · exact deed7_no XB TB B F X T hk R N I 0 trivial hh hdp hun ret
  · cases q with
    | nil => exact deed8_no XB TB B F X T hk R N I 0 trivial rfl hdp hun ret
    | cons k q' =>
      obtain ⟨v, hl8⟩ := aLook_of_has ((I.core.kq k).mpr (.head _))
      exact deed8_ok XB TB B F X T hk R N I rfl hl8 hdp hun ret
  · by_cases hv : value.fmod 4 = 0
    · exact deed9_clr XB TB B F X T hk R N I 0 trivial hv hdp hun ret
    · rcases look_cases c key with ⟨v, hl⟩ | hh
      · exact deed9_ok XB TB B F X T hk R N I hv hl hdp hun ret
      · exact deed9_no XB TB B F X T hk R N I 0 hv hh hdp hun ret
-- La
/-! the law's own frame -/
theorem cut {M : Model} {A : Around} {α : Type} {c : Sem α} {R Q : α → Shared → Prop} {E : Value → Shared → Prop} {s : Shared} (h₁ : wpAny M A c R E s) (h₂ : ∀ f s', R f s' → Q f s') : wpAny M A c Q E s :=
  wpAny_mono h₁ h₂ fun _ _ e => e
section
variable {w : World} {S : Sh} {rest nx news : Led} {h₀ h : Heap} {L : Addr}
theorem two_ne (N : News h₀ L h news) {a b : Addr} {oa ob : Obj} (ha : (a, oa) ∈ news) (hb : (b, ob) ∈ news) (hc : oa.cls ≠ ob.cls) : a ≠ b := by
  rintro rfl
  have := Option.some.inj ((N _ ha).1.symm.trans (N _ hb).1)
  exact hc (by rw [show oa = ob from this])
/-- neither a dict nor an object of the program's classes -/
noncomputable def Lite2 (r : Led) : Prop := ∀ p ∈ r, p.2.cls ≠ .type "dict" ∧ ∀ C, p.2.cls ≠ .ref C
theorem Cw.intro {od oz oq : Obj} {tc : Tok} (N : News h₀ L h news) (hx : (S.x, instObj S.C S.dx) ∈ news) (hdx : (S.dx, S.dic w 0 tc) ∈ news) (hd : (S.d, od) ∈ news) (Dd : DR w isI S.d od []) (hz : S.sized = true → (S.z, oz) ∈ news ∧ DR w isI S.z oz []) (hq : S.fifo = true → (S.o, oq) ∈ news ∧ DR w isU S.o oq [])
    (nd : ([S.dx, S.d] ++ (match S.sized with | true => [S.z] | false => []) ++ (match S.fifo with | true => [S.o] | false => [])).Nodup) (hr : ∀ p ∈ rest, p ∈ news) (hl : Lite2 rest) : ∃ nx, Cw w S rest [] [] nx ∧ News h₀ L h nx := by
  have hne : ∀ {b : Addr} {o : Obj}, (b, o) ∈ news → (o.cls = .type "dict" ∨ ∃ C, o.cls = .ref C) → ∀ p ∈ rest, p.1 ≠ b := by
    intro b o hb hc p hp
    obtain ⟨h1, h2⟩ := hl p hp
    refine two_ne N (oa := p.2) (hr p hp) hb ?_
    rcases hc with hc | ⟨C, hc⟩ <;> rw [hc]
    · exact h1
    · exact h2 C
  have hxd : ∀ {b : Addr} {o : Obj}, (b, o) ∈ news → o.cls = .type "dict" → S.x ≠ b := fun hb hc => two_ne N hx hb (by rw [hc]; intro e; cases e)
  refine ⟨(S.x, instObj S.C S.dx) :: (S.dx, S.dic w 0 tc) :: (S.d, od) :: (S.zp oz ++ (S.op oq ++ rest)), ⟨?_, ?_, od, oz, oq, tc, rfl, Dd, fun e => (hz e).2, fun e => (hq e).2⟩, ?_⟩
  · have h1 := hne hx (.inr ⟨_, rfl⟩)
    have h2 := hne hdx (.inl rfl)
    have h3 := hne hd (.inl (dr_cls Dd))
    have h4 : S.sized = true → ∀ p ∈ rest, p.1 ≠ S.z := fun e => hne (hz e).1 (.inl (dr_cls (hz e).2))
    have h5 : S.fifo = true → ∀ p ∈ rest, p.1 ≠ S.o := fun e => hne (hq e).1 (.inl (dr_cls (hq e).2))
    exact fun p hp => own_all (h1 p hp) (h2 p hp) (h3 p hp) (fun e => h4 e p hp) (fun e => h5 e p hp)
  · exact List.nodup_cons.mpr ⟨fun hm => tl_all (P := fun b => S.x ≠ b) (hxd hdx rfl) (hxd hd (dr_cls Dd)) (fun e => hxd (hz e).1 (dr_cls (hz e).2)) (fun e => hxd (hq e).1 (dr_cls (hq e).2)) _ hm rfl, nd⟩
  · exact List.forall_mem_cons.mpr ⟨N _ hx, List.forall_mem_cons.mpr ⟨N _ hdx, List.forall_mem_cons.mpr ⟨N _ hd, List.forall_mem_append.mpr ⟨zp_all fun e => N _ (hz e).1, List.forall_mem_append.mpr ⟨op_all fun e => N _ (hq e).1, fun p hp => N _ (hr p hp)⟩⟩⟩⟩⟩
/-- the cache is made, nothing else is changed -/
noncomputable def Made (w : World) (h₀ : Heap) (L : Addr) (m : Str → Option Value) (rest : Led) (room : Int) (z ag : Bool) (s : Shared) (f : Flow) (s' : Shared) : Prop :=
  f = .next ∧ ∃ S nx h' tk', s' = { s with heap := h', toks := tk' } ∧ S.room = room ∧ S.sized = z ∧ S.fifo = ag ∧ Cw w S rest [] [] nx ∧ Fr h₀ L h' (fun y => if y = Str.ofString "cache" then some (.ref S.x) else m y) ∧ News h₀ L h' nx
theorem Made.intro {m m' : Str → Option Value} {room : Int} {z ag : Bool} {s : Shared} {h' : Heap} {tk' : Nat} {od oz oq : Obj} {tc : Tok} (S : Sh) (hroom : S.room = room) (hz0 : S.sized = z) (hq0 : S.fifo = ag) (F : Fr h₀ L h' m') (em : m' = fun y => if y = Str.ofString "cache" then some (.ref S.x) else m y) (N : News h₀ L h' news)
    (hx : (S.x, instObj S.C S.dx) ∈ news) (hdx : (S.dx, S.dic w 0 tc) ∈ news) (hd : (S.d, od) ∈ news) (Dd : DR w isI S.d od []) (hz : S.sized = true → (S.z, oz) ∈ news ∧ DR w isI S.z oz []) (hq : S.fifo = true → (S.o, oq) ∈ news ∧ DR w isU S.o oq [])
    (nd : ([S.dx, S.d] ++ (match S.sized with | true => [S.z] | false => []) ++ (match S.fifo with | true => [S.o] | false => [])).Nodup) (hr : ∀ p ∈ rest, p ∈ news) (hl : Lite2 rest) : Made w h₀ L m rest room z ag s .next { s with heap := h', toks := tk' } := by
  obtain ⟨nx, R, N'⟩ := Cw.intro N hx hdx hd Dd hz hq nd hr hl
  subst em
  exact ⟨rfl, S, nx, h', tk', rfl, hroom, hz0, hq0, R, F, N'⟩
end
/-- the law's names between the turns -/
structure LawM (m : Str → Option Value) (S : Sh) (D b bq : Addr) (t : Tok) : Prop where
  num : m (Str.ofString "numbers") = some (.ref D)
  room : m (Str.ofString "room") = some (.int S.room t)
  sized : m (Str.ofString "sized") = some (.bool S.sized)
  again : m (Str.ofString "again") = some (.bool S.fifo)
  cache : m (Str.ofString "cache") = some (.ref S.x)
  pairs : m (Str.ofString "pairs") = some (.ref b)
  queue : m (Str.ofString "queue") = some (.ref bq)
theorem LawM.eq {m : Str → Option Value} {S : Sh} {D b bq : Addr} {t : Tok} (M : LawM m S D b bq t) :
    m = fun y => if y = Str.ofString "queue" then some (.ref bq) else if y = Str.ofString "pairs" then some (.ref b) else if y = Str.ofString "cache" then some (.ref S.x) else if y = Str.ofString "again" then some (.bool S.fifo) else if y = Str.ofString "sized" then some (.bool S.sized) else if y = Str.ofString "room" then some (.int S.room t) else if y = Str.ofString "numbers" then some (.ref D) else m y := by
  funext y
  split
  · rename_i e; rw [e]; exact M.queue
  split
  · rename_i e; rw [e]; exact M.pairs
  split
  · rename_i e; rw [e]; exact M.cache
  split
  · rename_i e; rw [e]; exact M.again
  split
  · rename_i e; rw [e]; exact M.sized
  split
  · rename_i e; rw [e]; exact M.room
  split
  · rename_i e; rw [e]; exact M.num
  rfl
/-- what lies in the ledger between the turns, the cache apart -/
noncomputable def LawR (D l b bq : Addr) (nD nl n nq : Nat) (wsD wsl vs vq : List Value) (dl : Led) : Led :=
  (D, listOf wsD.toArray nD) :: (l, listOf wsl.toArray nl) :: (1089, tabObj #[]) :: (b, listOf vs.toArray n) :: (bq, listOf vq.toArray nq) :: dl
/-- what holds between the turns -/
noncomputable def LawJ (w : World) (S : Sh) (D l : Addr) (nD nl : Nat) (wsD wsl : List Value) (m : Str → Option Value) (nx : Led) : Prop :=
  ∃ b bq n nq vs vq dl c q t, LawM m S D b bq t ∧ Cw w S (LawR D l b bq nD nl n nq wsD wsl vs vq dl) c q nx ∧ Tups dl ∧ DatAll dl vs (pD c) ∧ DatAll [] vq (qD q) ∧ Inv S.sz S.room S.fifo c q
theorem Lite2.cons {p : Addr × Obj} {r : Led} (h : p.2.cls ≠ .type "dict" ∧ ∀ C, p.2.cls ≠ .ref C) (k : Lite2 r) : Lite2 (p :: r) := List.forall_mem_cons.mpr ⟨h, k⟩
theorem Lite2.nil : Lite2 [] := fun _ h => nomatch h
theorem Lite2.type {p : Addr × Obj} {r : Led} {T : String} (h : p.2.cls = .type T) (hT : T ≠ "dict") (k : Lite2 r) : Lite2 (p :: r) := .cons ⟨by rw [h]; intro e; injection e with e; exact hT e, fun C => by rw [h]; intro e; cases e⟩ k
theorem Lite2.tab {a : Addr} {ps : Array Value} {r : Led} (k : Lite2 r) : Lite2 ((a, tabObj ps) :: r) := .cons ⟨nofun, nofun⟩ k
theorem Lite2.tups {d : Led} (h : Tups d) : Lite2 d := fun p hp => ⟨by rw [h p hp]; decide, fun C => by rw [h p hp]; nofun⟩
noncomputable def mk3 (ag z : Bool) (room : Int) (t : Tok) (mo : Str → Option Value) : Str → Option Value := fun y => if y = Str.ofString "again" then some (.bool ag) else if y = Str.ofString "sized" then some (.bool z) else if y = Str.ofString "room" then some (.int room t) else mo y
theorem mk3_eq {m : Str → Option Value} {room : Int} {t : Tok} {z ag : Bool} (hroom : m (Str.ofString "room") = some (.int room t)) (hz : m (Str.ofString "sized") = some (.bool z)) (hag : m (Str.ofString "again") = some (.bool ag)) : m = mk3 ag z room t m := by
  funext y
  unfold mk3
  split
  · rename_i e; rw [e]; exact hag
  split
  · rename_i e; rw [e]; exact hz
  split
  · rename_i e; rw [e]; exact hroom
  rfl
theorem law_make {prog : Program} {w : World} {A : Around} {E : Value → Shared → Prop} {s : Shared} {c : Sem Flow} {h₀ : Heap} {L D : Addr} {m : Str → Option Value} {news : Led} {room : Int} {t : Tok} {z ag : Bool} {ws : List Value} {nn : Nat} {Q : Flow → Shared → Prop} (F : Fr h₀ L s.heap m) (N : News h₀ L s.heap news)
    (hroom : m (Str.ofString "room") = some (.int room t)) (hz : m (Str.ofString "sized") = some (.bool z)) (hag : m (Str.ofString "again") = some (.bool ag)) (hnum : m (Str.ofString "numbers") = some (.ref D)) (hD : (D, listOf ws.toArray nn) ∈ news) (ht : (1089, tabObj #[]) ∈ news)
    (hr0 : 0 ≤ room) (h₁ : ∀ mo h tk (ws : List Value) t (room : Int) z ag D nn, 0 ≤ room → Lite2 [(D, listOf ws.toArray nn), (1089, tabObj #[])] → Fr h₀ L h (mk3 ag z room t mo) → News h₀ L h [(D, listOf ws.toArray nn), (1089, tabObj #[])] → wpAny (model prog w) A c (Made w h₀ L (mk3 ag z room t mo) [(D, listOf ws.toArray nn), (1089, tabObj #[])] room z ag { s with heap := h, toks := tk }) E { s with heap := h, toks := tk })
    (h₂ : ∀ S nx h' tk' mo t, 0 ≤ S.room → Cw w S [(D, listOf ws.toArray nn), (1089, tabObj #[])] [] [] nx → Fr h₀ L h' (fun y => if y = Str.ofString "cache" then some (.ref S.x) else if y = Str.ofString "numbers" then some (.ref D) else mk3 S.fifo S.sized S.room t mo y) → News h₀ L h' nx → Q .next { s with heap := h', toks := tk' }) :
    wpAny (model prog w) A c Q E s := by
  have e := mk3_eq hroom hz hag
  rw [e] at F
  refine cut (h₁ m s.heap s.toks ws t room z ag D nn hr0 (.type rfl (by decide) (.tab .nil)) F (fun p hp => ?_)) ?_
  · rcases List.mem_cons.mp hp with rfl | hp
    · exact N _ hD
    rw [List.mem_singleton.mp hp]; exact N _ ht
  · rintro f s' hb9
    refine Classical.byContradiction fun hn9 => ?_
    obtain ⟨rfl, S, nx, h', tk', rfl, e1, e2, e3, R, F', N'⟩ := hb9
    refine hn9 ?_; clear hn9
    subst e1 e2 e3
    refine h₂ S nx h' tk' m t hr0 R ?_ N'
    have e9 : (fun y => if y = Str.ofString "cache" then some (Value.ref S.x) else mk3 S.fifo S.sized S.room t m y) = (fun y => if y = Str.ofString "cache" then some (.ref S.x) else if y = Str.ofString "numbers" then some (.ref D) else mk3 S.fifo S.sized S.room t m y) := by
      funext y
      split
      · rfl
      split
      · rename_i h; rw [h, ← e]; exact hnum
      · rfl
    rw [← e9]; exact F'
theorem lite_LawR {D l b bq : Addr} {nD nl n nq : Nat} {wsD wsl vs vq : List Value} {dl : Led} (h : Tups dl) : Lite2 (LawR D l b bq nD nl n nq wsD wsl vs vq dl) :=
  .type rfl (by decide) (.type rfl (by decide) (.tab (.type rfl (by decide) (.type rfl (by decide) (.tups h)))))
theorem Lw.move2 {w : World} {S : Sh} {rest nx rest' : Led} {c cz : List (Int × Int)} {u : Int} {q : List Int} {h₀ h : Heap} {L : Addr} (R : Lw w S rest c cz u q nx) (N : News h₀ L h nx) (N' : News h₀ L h rest') (hl : Lite2 rest') : ∃ nx', Lw w S rest' c cz u q nx' ∧ News h₀ L h nx' := by
  refine Classical.byContradiction fun hn9 => ?_
  obtain ⟨off, nd, od, oz, oq, tc, rfl, hd, hz, hq⟩ := R
  refine hn9 ?_; clear hn9
  have hne : ∀ {b : Addr} {o : Obj}, h.get? b = some o → (o.cls = .type "dict" ∨ ∃ C, o.cls = .ref C) → ∀ p ∈ rest', p.1 ≠ b := by
    rintro b o h2 hc p hp rfl
    obtain ⟨g1, g2⟩ := hl p hp
    have h3 := Option.some.inj ((N' p hp).1.symm.trans h2)
    rw [h3] at g1 g2
    rcases hc with hc | ⟨C, hc⟩
    · exact g1 hc
    · exact g2 C hc
  refine ⟨(S.x, instObj S.C S.dx) :: (S.dx, S.dic w u tc) :: (S.d, od) :: (S.zp oz ++ (S.op oq ++ rest')), ⟨?_, nd, od, oz, oq, tc, rfl, hd, hz, hq⟩, ?_⟩
  · have h1 := hne (N _ (.head _)).1 (.inr ⟨_, rfl⟩)
    have h2 := hne (N _ (.tail _ (.head _))).1 (.inl rfl)
    have h3 := hne (N _ (.tail _ (.tail _ (.head _)))).1 (.inl (dr_cls hd))
    have h4 : S.sized = true → ∀ p ∈ rest', p.1 ≠ S.z := fun e => hne (N (S.z, oz) (.tail _ (.tail _ (.tail _ (List.mem_append_left _ (by unfold Sh.zp; rw [e]; exact .head _)))))).1 (.inl (dr_cls (hz e)))
    have h5 : S.fifo = true → ∀ p ∈ rest', p.1 ≠ S.o := fun e => hne (N (S.o, oq) (.tail _ (.tail _ (.tail _ (List.mem_append_right _ (List.mem_append_left _ (by unfold Sh.op; rw [e]; exact .head _))))))).1 (.inl (dr_cls (hq e)))
    exact fun p hp => own_all (h1 p hp) (h2 p hp) (h3 p hp) (fun e => h4 e p hp) (fun e => h5 e p hp)
  · exact List.forall_mem_cons.mpr ⟨N _ (.head _), List.forall_mem_cons.mpr ⟨N _ (.tail _ (.head _)), List.forall_mem_cons.mpr ⟨N _ (.tail _ (.tail _ (.head _))), List.forall_mem_append.mpr ⟨fun p hp => N _ (.tail _ (.tail _ (.tail _ (List.mem_append_left _ hp)))), List.forall_mem_append.mpr ⟨fun p hp => N _ (.tail _ (.tail _ (.tail _ (List.mem_append_right _ (List.mem_append_left _ hp))))), N'⟩⟩⟩⟩⟩
theorem Lw.offI {w : World} {S : Sh} {rest nx : Led} {c cz : List (Int × Int)} {u : Int} {q : List Int} (R : Lw w S rest c cz u q nx) (h : ∀ p ∈ rest, p.2.cls ≠ .type "list_iterator") : ∀ p ∈ nx, p.2.cls ≠ .type "list_iterator" := by
  refine Classical.byContradiction fun hn9 => ?_
  obtain ⟨off, nd, od, oz, oq, tc, rfl, hd, hz, hq⟩ := R
  refine hn9 ?_; clear hn9
  intro p hp
  rcases List.mem_cons.mp hp with rfl | hp
  · nofun
  rcases List.mem_cons.mp hp with rfl | hp
  · show Value.type "dict" ≠ _; decide
  rcases List.mem_cons.mp hp with rfl | hp
  · rw [dr_cls hd]; decide
  rcases List.mem_append.mp hp with hp | hp
  · unfold Sh.zp at hp
    cases e : S.sized with
    | true => rw [e] at hp; rw [List.mem_singleton.mp hp, dr_cls (hz e)]; decide
    | false => rw [e] at hp; cases hp
  rcases List.mem_append.mp hp with hp | hp
  · unfold Sh.op at hp
    cases e : S.fifo with
    | true => rw [e] at hp; rw [List.mem_singleton.mp hp, dr_cls (hq e)]; decide
    | false => rw [e] at hp; cases hp
  · exact h p hp
theorem offI_LawR {D l b bq : Addr} {nD nl n nq : Nat} {wsD wsl vs vq : List Value} {dl : Led} (h : Tups dl) : ∀ p ∈ LawR D l b bq nD nl n nq wsD wsl vs vq dl, p.2.cls ≠ .type "list_iterator" := by
  have hl : (Value.type "list") ≠ .type "list_iterator" := by decide
  exact List.forall_mem_cons.mpr ⟨hl, List.forall_mem_cons.mpr ⟨hl, List.forall_mem_cons.mpr ⟨nofun, List.forall_mem_cons.mpr ⟨hl, List.forall_mem_cons.mpr ⟨hl, fun p hp => by rw [h p hp]; decide⟩⟩⟩⟩⟩
theorem news_sub {h₀ h : Heap} {L : Addr} {news n' : Led} (N : News h₀ L h news) (k : ∀ p ∈ n', p ∈ news) : News h₀ L h n' := fun p hp => N p (k p hp)
/-- a turn's end -/
theorem turn_end {w : World} {S : Sh} {rest nx news dl : Led} {c : List (Int × Int)} {q : List Int} {h₀ h' : Heap} {L I D l b bq : Addr} {oI : Obj} {nD nl n nq : Nat} {wsD wsl vs vq : List Value} {m' : Str → Option Value} {t : Tok} {tk : Nat} {s₁ : Shared} {Q : Flow → Shared → Prop}
    (F : Fr h₀ L h' m') (N : News h₀ L h' news) (R : Cw w S rest c q nx) (hnx : ∀ p ∈ nx, p ∈ news) (hI : (I, oI) ∈ news) (cI : oI.cls = .type "list_iterator") (hR : ∀ p ∈ LawR D l b bq nD nl n nq wsD wsl vs vq dl, p ∈ news) (M : LawM m' S D b bq t) (T : Tups dl) (hD : DatAll dl vs (pD c)) (hDq : DatAll [] vq (qD q)) (V : Inv S.sz S.room S.fifo c q) :
    AnyPost h₀ L I oI (LawJ w S D l nD nl wsD wsl) s₁ Q .next { s₁ with heap := h', toks := tk } := by
  obtain ⟨nx', R', N'⟩ := Lw.move2 R (news_sub N hnx) (news_sub N hR) (lite_LawR T)
  have N2 : News h₀ L h' ((I, oI) :: nx') := fun p hp => by
    rcases List.mem_cons.mp hp with rfl | hp
    · exact N _ hI
    · exact N' p hp
  refine AnyEnd.intro nx' F N2 (fun p hp => ?_) ⟨b, bq, n, nq, vs, vq, dl, c, q, t, M, R', T, hD, hDq, V⟩
  refine two_ne (oa := p.2) N2 (.tail _ hp) (.head _) ?_
  rw [cI]; exact R'.offI (offI_LawR T) p hp
noncomputable def lawF (S : Sh) (D b bq : Addr) (t : Tok) (mo : Str → Option Value) : Str → Option Value := fun y => if y = Str.ofString "queue" then some (.ref bq) else if y = Str.ofString "pairs" then some (.ref b) else if y = Str.ofString "cache" then some (.ref S.x) else if y = Str.ofString "again" then some (.bool S.fifo) else if y = Str.ofString "sized" then some (.bool S.sized) else if y = Str.ofString "room" then some (.int S.room t) else if y = Str.ofString "numbers" then some (.ref D) else mo y
theorem law_loop {prog : Program} {w : World} {A : Around} {E : Value → Shared → Prop} {s : Shared} {env : Env} {h₀ : Heap} {body : List Stmt} {Q : Flow → Shared → Prop} {S : Sh} {rest nx news : Led} {D l b bq : Addr} {nD nl n nq : Nat} {wsD wsl : List Value} {ns : List Int} {m : Str → Option Value} {t : Tok}
    (hh : A.handled = none) (F : Fr h₀ env.locals s.heap m) (N : News h₀ env.locals s.heap news) (hr : 0 ≤ S.room) (R : Cw w S rest [] [] nx) (hI : IntsAre wsl ns) (M : LawM m S D b bq t) (hnx : ∀ p ∈ nx, p ∈ news) (hR : ∀ p ∈ LawR D l b bq nD nl n nq wsD wsl [] [] [], p ∈ news)
    (turn : ∀ D l nD nl wsD wsl k tk b bq n nq vs vq dl c q t mo nx h tks I oI, Cw w S (LawR D l b bq nD nl n nq wsD wsl vs vq dl) c q nx → Tups dl → DatAll dl vs (pD c) → DatAll [] vq (qD q) → Inv S.sz S.room S.fifo c q → oI.cls = .type "list_iterator" →
      Fr h₀ env.locals h (fun y => if y = Str.ofString "n" then some (.int k tk) else lawF S D b bq t mo y) → News h₀ env.locals h ((D, listOf (wsD : List Value).toArray nD) :: (l, listOf (wsl : List Value).toArray nl) :: (1089, tabObj #[]) :: (b, listOf vs.toArray n) :: (bq, listOf vq.toArray nq) :: (I, oI) :: (dl ++ nx)) →
      wpAny (model prog w) A (execs body env) (AnyPost h₀ env.locals I oI (LawJ w S D l nD nl wsD wsl) { s with heap := h, toks := tks } Q) E { s with heap := h, toks := tks })
    (done : ∀ D l nD nl wsD wsl b bq n nq vs vq dl c q t mo nx h tks, Cw w S (LawR D l b bq nD nl n nq wsD wsl vs vq dl) c q nx → Tups dl → DatAll dl vs (pD c) → DatAll [] vq (qD q) → Inv S.sz S.room S.fifo c q →
      Fr h₀ env.locals h (lawF S D b bq t mo) → News h₀ env.locals h ((D, listOf (wsD : List Value).toArray nD) :: (l, listOf (wsl : List Value).toArray nl) :: (1089, tabObj #[]) :: (b, listOf vs.toArray n) :: (bq, listOf vq.toArray nq) :: (dl ++ nx)) → Q .next { s with heap := h, toks := tks }) :
    wpAny (model prog w) A (pyIter (.ref l)) (fun it s₂ => LoopAtV prog w A h₀ env (Str.ofString "n") body Q E it s₂) E s := by
  obtain ⟨nx', R', N'⟩ := Lw.move2 R (news_sub N hnx) (news_sub N hR) (lite_LawR Tups.nil)
  refine iter_any (fun _ => LawJ w S D l nD nl wsD wsl) hh (R'.inn _ (.tail _ (.head _))) F N' ⟨b, bq, n, nq, [], [], [], [], [], t, M, R', Tups.nil, .nil, .nil, Inv.nil hr⟩ ?_ ?_ ?_
  · rintro i m nx hb9
    refine Classical.byContradiction fun hn9 => ?_
    obtain ⟨b, bq, n, nq, vs, vq, dl, c, q, t, M, R, T, hD, hDq, V⟩ := hb9
    refine hn9 ?_; clear hn9
    exact R.inn _ (.tail _ (.head _))
  · rintro i v m₁ nx h tk I oI hv hb9 cI hoff F₁ N₁
    refine Classical.byContradiction fun hn9 => ?_
    obtain ⟨b, bq, n, nq, vs, vq, dl, c, q, t, M, R, T, hD, hDq, V⟩ := hb9
    refine hn9 ?_; clear hn9
    obtain ⟨k, tkk, rfl, hk⟩ := IntsAre.at hI i v (by simpa using hv)
    rw [M.eq] at F₁
    refine turn D l nD nl wsD wsl k tkk b bq n nq vs vq dl c q t m₁ nx h tk I oI R T hD hDq V cI F₁ ?_
    have hin := R.inn
    intro p hp
    rcases List.mem_cons.mp hp with rfl | hp
    · exact N₁ _ (.tail _ (hin _ (.head _)))
    rcases List.mem_cons.mp hp with rfl | hp
    · exact N₁ _ (.tail _ (hin _ (.tail _ (.head _))))
    rcases List.mem_cons.mp hp with rfl | hp
    · exact N₁ _ (.tail _ (hin _ (.tail _ (.tail _ (.head _)))))
    rcases List.mem_cons.mp hp with rfl | hp
    · exact N₁ _ (.tail _ (hin _ (.tail _ (.tail _ (.tail _ (.head _))))))
    rcases List.mem_cons.mp hp with rfl | hp
    · exact N₁ _ (.tail _ (hin _ (.tail _ (.tail _ (.tail _ (.tail _ (.head _)))))))
    rcases List.mem_cons.mp hp with rfl | hp
    · exact N₁ _ (.head _)
    rcases List.mem_append.mp hp with hp | hp
    · exact N₁ _ (.tail _ (hin _ (.tail _ (.tail _ (.tail _ (.tail _ (.tail _ hp)))))))
    · exact N₁ _ (.tail _ hp)
  · rintro m₁ nx h tk hb9 F₁ N₁
    refine Classical.byContradiction fun hn9 => ?_
    obtain ⟨b, bq, n, nq, vs, vq, dl, c, q, t, M, R, T, hD, hDq, V⟩ := hb9
    refine hn9 ?_; clear hn9
    rw [M.eq] at F₁
    refine done D l nD nl wsD wsl b bq n nq vs vq dl c q t m₁ nx h tk R T hD hDq V F₁ ?_
    have hin := R.inn
    intro p hp
    rcases List.mem_cons.mp hp with rfl | hp
    · exact N₁ _ (hin _ (.head _))
    rcases List.mem_cons.mp hp with rfl | hp
    · exact N₁ _ (hin _ (.tail _ (.head _)))
    rcases List.mem_cons.mp hp with rfl | hp
    · exact N₁ _ (hin _ (.tail _ (.tail _ (.head _))))
    rcases List.mem_cons.mp hp with rfl | hp
    · exact N₁ _ (hin _ (.tail _ (.tail _ (.tail _ (.head _)))))
    rcases List.mem_cons.mp hp with rfl | hp
    · exact N₁ _ (hin _ (.tail _ (.tail _ (.tail _ (.tail _ (.head _))))))
    rcases List.mem_append.mp hp with hp | hp
    · exact N₁ _ (hin _ (.tail _ (.tail _ (.tail _ (.tail _ (.tail _ hp))))))
    · exact N₁ _ hp
theorem law_deed {w : World} {p : Program} {loose : List Str} {mean : ExcName → Option Value} {mg mb : Str → Option Value} {dp un : Nat} {gd : Option (List Code)} {cn : Str} {cs : Scope} {a : Addr} {ccd : Value} {A₀ : Around} {base h₀ : Heap} {L : Addr} {m : Str → Option Value} {s : Shared} {E : Value → Shared → Prop} {S : Sh} {rest nx news : Led} {c : List (Int × Int)} {q : List Int} {Q : Value → Shared → Prop} {key value : Int} {td tk tv : Tok} {deed : Int} (keep : Led)
  (XB : (Mine.K0 w.params).In base) (TB : Top p loose mean mg mb base) (B : Below A₀ base [] h₀) (F : Fr h₀ L s.heap m) (X : (Mine.K0 w.params).In h₀) (T : Top p loose mean mg mb h₀) (hk : cs.kind = .function) (R : Cw w S rest c q nx) (N : News h₀ L s.heap news) (hnx : ∀ p ∈ nx, p ∈ news) (hkp : ∀ p ∈ keep, p ∈ news) (lite : Lite2 keep) (I : Inv S.sz S.room S.fifo c q) (hd : 0 ≤ deed ∧ deed < 10) (hdp : dp + 80 < recursionLimit) (hun : un + 600 < cLine)
  (ret : ∀ h' tk' r vs n dl nx', Cw w S keep (stepS S.sz S.room S.fifo c q deed key value).2.1 (stepS S.sz S.room S.fifo c q deed key value).2.2 nx' → Fr h₀ L h' m → News h₀ L h' ((r, listOf vs.toArray n) :: (keep ++ (dl ++ nx'))) → DatAll dl vs (stepS S.sz S.room S.fifo c q deed key value).1 → Tups dl → Q (.ref r) { s with heap := h', toks := tk' }) :
  wpAny (model PySem.Challenge.rw_ki0005_01.row.prog w) (ktrTop dp un gd cn cs L a ccd [] []) (call (.ref 1082) [.ref S.x, .int deed td, .int key tk, .int value tv]) Q E s := by
  obtain ⟨nx2, R2, N2⟩ := Lw.move2 R (news_sub N hnx) (news_sub N hkp) lite
  refine h_deed XB TB B F X T hk R2 N2 I hd hdp hun fun h' tk' r vs n dl nx' R' F' N' hD hT => ret h' tk' r vs n dl nx' R' F' (news_sub N' fun p hp => ?_) hD hT
  rcases List.mem_cons.mp hp with rfl | hp
  · exact .head _
  rcases List.mem_append.mp hp with hp | hp
  · exact .tail _ (List.mem_append_right _ (R'.inn _ hp))
  · exact .tail _ hp
theorem Sh.szB (S : Sh) : Mine.szB S.sized = S.sz := by unfold Mine.szB Sh.sz; cases S.sized <;> rfl
theorem keys_it {w : World} {p : Program} {loose : List Str} {mean : ExcName → Option Value} {mg mb : Str → Option Value} {dp un : Nat} {gd : Option (List Code)} {cn : Str} {cs : Scope} {a : Addr} {ccd : Value} {outer : List Env} {A₀ : Around} {base h₀ : Heap} {L : Addr} {m : Str → Option Value} {s : Shared} {E : Value → Shared → Prop} {S : Sh} {rest nx news : Led} {c : List (Int × Int)} {q : List Int} {env : Env} {elt : PySem.Expr} {x : Str} {scope : Scope} {cl : List (Str × Addr)} {Fin : Shared → List Value → Led → Prop}
  (B : Below A₀ base outer h₀) (F : Fr h₀ L s.heap m) (X : (Mine.K0 w.params).In h₀) (T : Top p loose mean mg mb h₀) (hk : cs.kind = .function) (R : Cw w S rest c q nx) (N : News h₀ L s.heap news) (hnx : ∀ p ∈ nx, p ∈ news) (hdp : dp + 8 < recursionLimit) (hun : un + 90 < cLine) (hc : c.length ≤ 5)
  (turn : ∀ k t ys I oI C oC D m₂ h tk (s₂ : Shared) i (St : Led → Prop) (E' : Value → Shared → Prop), St nx → IntsAre ys ((c.take i).map (·.1)) → LCg.NsObj oC m₂ → m₂ x = some (.int k t) → Fr h₀ L h m → News h₀ L h ((I, oI) :: (C, oC) :: (D, LCg.lst ys) :: nx) → LCg.Off3 I C D nx → ((@Ne Nat I C) ∧ (@Ne Nat I D) ∧ (@Ne Nat C D)) → IntsAre (ys ++ [.int k t]) ((c.take (i + 1)).map (·.1)) →
    wpAny (model PySem.Challenge.rw_ki0005_01.row.prog w) (ktrTop dp un gd cn cs L a ccd [] outer) (eval elt (compEnvC scope cl C env)) (LCg.CompEnd h₀ L m { s₂ with heap := h, toks := tk } I oI C oC D (LCg.lst ys) St (fun y news' => news' = nx ∧ IntsAre (ys ++ [y]) ((c.take (i + 1)).map (·.1)))) E' { s₂ with heap := h, toks := tk })
  (fin : ∀ h' tk' ys, IntsAre ys (c.map (·.1)) → Fin { s with heap := h', toks := tk' } ys nx) :
  wpAny (model PySem.Challenge.rw_ki0005_01.row.prog w) (ktrTop dp un gd cn cs L a ccd [] outer) (pyIter (.ref S.x)) (CompItK (PySem.intKind PySem.Challenge.rw_ki0005_01.row.prog w) (ktrTop dp un gd cn cs L a ccd [] outer) h₀ L m env elt x scope cl Fin) E s := by
  refine cpyit B F X T hk R (news_sub N hnx) hdp hun fun h' tk' I oI od kvs ep F' N' off hr hi ha hm => ?_
  refine ⟨I, oI, S.d, od, kvs, ep, nx, rfl, rfl, F', N', off, hi, ha, hm, by rw [hr.length]; exact dr_size (le5 (by assumption) (by rfl)), ?_⟩
  have hkeys := hr.keys
  refine comp_U_same (fun i ys => IntsAre ys ((c.take i).map (·.1))) ?_ ?_ .nil
  · rintro i v ys I oI C oC D m₂ h tk E' hi' ⟨k, y, hik, hv⟩ hI hC hx F₁ N₁ off ne
    obtain ⟨t, rfl⟩ := Value.isInt_shape hv
    have hci : (c.map (·.1))[i]? = some k := by rw [← hkeys, List.getElem?_map, hik]; rfl
    have hn : (c.take (i + 1)).map (·.1) = (c.take i).map (·.1) ++ [k] := by
      rw [List.getElem?_map] at hci
      obtain ⟨p, hp, rfl⟩ := Option.map_eq_some_iff.mp hci
      exact map_next hp
    exact turn k t ys I oI C oC D m₂ h tk _ i (DictSt S.d od) E' hm hI hC hx F₁ N₁ off ne (by rw [hn]; exact ints_snoc hI)
  · intro ys hI
    rw [List.take_of_length_le (by rw [hr.length]; exact Nat.le_refl _)] at hI
    exact fin h' tk' ys hI
theorem ints_dat {vs : List Value} {ns : List Int} (h : IntsAre vs ns) : DatAll [] vs (qD ns) := by
  induction h with
  | nil => exact .nil
  | cons k t _ ih => exact .cons (.int _ _) ih
theorem qD_ans {ns : List Int} : ∀ d ∈ qD ns, Ans d := fun d hd => by obtain ⟨x, _, rfl⟩ := List.mem_map.mp hd; exact .int x
theorem len_back {c : List (Int × Int)} (h : c.length ≤ 5) : (0 : Int) ≤ (c.length : Int) ∧ (c.length : Int) < 2 ^ 63 := ⟨Int.natCast_nonneg _, by have : (c.length : Int) ≤ 5 := Int.ofNat_le.mpr h; exact Int.lt_of_le_of_lt this (by decide)⟩
section
variable {prog : Program} {w : World} {A : Around} {E : Value → Shared → Prop} {s : Shared} {Q : Value → Shared → Prop} {a b : Int} {t u : Tok}
theorem ne_is (e : a = b) (h : Q (.bool false) s) : wpAny (model prog w) A (compareOp .NotEq (.int a t) (.int b u)) Q E s := ne_int (by rw [e, bne_self_eq_false]; exact h)
theorem eq_is (e : a = b) (h : Q (.bool true) s) : wpAny (model prog w) A (compareOp .Eq (.int a t) (.int b u)) Q E s := eq_int (by rw [e, beq_self_eq_true]; exact h)
theorem gt_no (e : a ≤ b) (h : Q (.bool false) s) : wpAny (model prog w) A (compareOp .Gt (.int a t) (.int b u)) Q E s := gt_int (by rw [decide_eq_false (Int.not_lt.mpr e)]; exact h)
end
/-- what holds between the turns of the last loop: q is still to come -/
noncomputable def LawK (w : World) (S : Sh) (rest : Led) (D b bq : Addr) (c : List (Int × Int)) (q : List Int) (m : Str → Option Value) (nx : Led) : Prop :=
  ∃ c' t, Cw w S rest c' q nx ∧ Inv S.sz S.room S.fifo c' q ∧ (∀ k ∈ q, aLook c' k = aLook c k) ∧ LawM m S D b bq t
theorem turn_end2 {w : World} {S : Sh} {rest keep nx news : Led} {c c' : List (Int × Int)} {k : Int} {q : List Int} {h₀ h' : Heap} {L I D b bq : Addr} {oI : Obj} {m' : Str → Option Value} {t : Tok} {tk : Nat} {s₁ : Shared} {Q : Flow → Shared → Prop}
    (F : Fr h₀ L h' m') (N : News h₀ L h' news) (R : Cw w S keep (aDel c' k) q nx) (hnx : ∀ p ∈ nx, p ∈ news) (hI : (I, oI) ∈ news) (cI : oI.cls = .type "list_iterator") (hR : ∀ p ∈ rest, p ∈ news) (lite : Lite2 rest) (off : ∀ p ∈ rest, p.2.cls ≠ .type "list_iterator") (V : Inv S.sz S.room S.fifo c' (k :: q)) (hl : ∀ j ∈ k :: q, aLook c' j = aLook c j) (M : LawM m' S D b bq t) :
    AnyPost h₀ L I oI (LawK w S rest D b bq c q) s₁ Q .next { s₁ with heap := h', toks := tk } := by
  obtain ⟨nx', R', N'⟩ := Lw.move2 R (news_sub N hnx) (news_sub N hR) lite
  have N2 : News h₀ L h' ((I, oI) :: nx') := fun p hp => by
    rcases List.mem_cons.mp hp with rfl | hp
    · exact N _ hI
    · exact N' p hp
  refine AnyEnd.intro nx' F N2 (fun p hp => ?_) ⟨aDel c' k, t, R', V.pop, fun j hj => ?_, M⟩
  · refine two_ne (oa := p.2) N2 (.tail _ hp) (.head _) ?_
    rw [cI]; exact R'.offI off p hp
  · have hne : ¬ k = j := fun e => (List.nodup_cons.mp V.core.nq).1 (e ▸ hj)
    rw [aLook_del_ne hne]; exact hl j (.tail _ hj)
theorem inv_nil {sz : Int → Int} {room : Int} {ag : Bool} {c : List (Int × Int)} (V : Inv sz room ag c []) : c = [] := by
  cases c with
  | nil => rfl
  | cons p c => have h9 : p.1 ∈ ([] : List Int) := (V.core.kq p.1).mp (by simp [aHas])
                cases h9
theorem law_loop2 {prog : Program} {w : World} {A : Around} {E : Value → Shared → Prop} {s : Shared} {env : Env} {h₀ : Heap} {body : List Stmt} {Q : Flow → Shared → Prop} {S : Sh} {rest keep nx news : Led} {D b bq : Addr} {nq : Nat} {vq : List Value} {c : List (Int × Int)} {q : List Int} {m : Str → Option Value} {t : Tok}
    (hh : A.handled = none) (F : Fr h₀ env.locals s.heap m) (N : News h₀ env.locals s.heap news) (R : Cw w S keep c q nx) (V : Inv S.sz S.room S.fifo c q) (M : LawM m S D b bq t) (hnx : ∀ p ∈ nx, p ∈ news) (hR : ∀ p ∈ rest, p ∈ news) (lite : Lite2 rest) (off : ∀ p ∈ rest, p.2.cls ≠ .type "list_iterator") (hbq : (bq, listOf vq.toArray nq) ∈ rest) (hDq : DatAll [] vq (qD q))
    (turn : ∀ k tk v q' c' t mo nx h tks I oI, Cw w S ((I, oI) :: rest) c' (k :: q') nx → Inv S.sz S.room S.fifo c' (k :: q') → (∀ j ∈ k :: q', aLook c' j = aLook c j) → aLook c' k = some v → aLook c k = some v → oI.cls = .type "list_iterator" →
      Fr h₀ env.locals h (fun y => if y = Str.ofString "key" then some (.int k tk) else lawF S D b bq t mo y) → News h₀ env.locals h nx →
      wpAny (model prog w) A (execs body env) (AnyPost h₀ env.locals I oI (LawK w S rest D b bq c q') { s with heap := h, toks := tks } Q) E { s with heap := h, toks := tks })
    (done : ∀ t mo nx h tks, Cw w S rest [] [] nx → Fr h₀ env.locals h (lawF S D b bq t mo) → News h₀ env.locals h nx → Q .next { s with heap := h, toks := tks }) :
    wpAny (model prog w) A (pyIter (.ref bq)) (fun it s₂ => LoopAtV prog w A h₀ env (Str.ofString "key") body Q E it s₂) E s := by
  obtain ⟨nx', R', N'⟩ := Lw.move2 R (news_sub N hnx) (news_sub N hR) lite
  refine iter_any (fun i => LawK w S rest D b bq c (q.drop i)) hh (R'.inn _ hbq) F N' ⟨c, t, R', V, fun _ _ => rfl, M⟩ ?_ ?_ ?_
  · rintro i m nx ⟨c', t, R, _⟩
    exact R.inn _ hbq
  · rintro i v m₁ nx h tk I oI hv hb9 cI hoff F₁ N₁
    refine Classical.byContradiction fun hn9 => ?_
    obtain ⟨c', t, R, V, hl, M⟩ := hb9
    refine hn9 ?_; clear hn9
    obtain ⟨k, tkk, hk, rfl⟩ := qD_get hDq hv
    have hd : q.drop i = k :: q.drop (i + 1) := by
      have hi := (List.getElem?_eq_some_iff.mp hk)
      obtain ⟨hi, e⟩ := hi
      rw [List.drop_eq_getElem_cons hi, e]
    rw [hd] at R V hl
    obtain ⟨v, hv⟩ := aLook_of_has ((V.core.kq k).mpr (.head _))
    rw [M.eq] at F₁
    obtain ⟨nx2, R2, N2⟩ := Lw.move2 R (news_sub N₁ fun p hp => .tail _ hp) (rest' := (I, oI) :: rest) (fun p hp => by
      rcases List.mem_cons.mp hp with rfl | hp
      · exact N₁ _ (.head _)
      · exact N₁ _ (.tail _ (R.inn _ hp))) (.type cI (by decide) lite)
    exact turn k tkk v _ c' t m₁ nx2 h tk I oI R2 V hl hv (by rw [← hl k (.head _)]; exact hv) cI F₁ N2
  · rintro m₁ nx h tk hb9 F₁ N₁
    refine Classical.byContradiction fun hn9 => ?_
    obtain ⟨c', t, R, V, hl, M⟩ := hb9
    refine hn9 ?_; clear hn9
    have e : q.drop vq.length = [] := by
      have : vq.length = q.length := by rw [hDq.length]; unfold qD; rw [List.length_map]
      rw [this, List.drop_length]
    rw [e] at R V
    have := inv_nil V
    subst this
    rw [M.eq] at F₁
    exact done t m₁ nx h tk R F₁ N₁
theorem law_tab {w : World} {S : Sh} {rest nx : Led} {c : List (Int × Int)} {q : List Int} {h₀ h : Heap} {L : Addr} (R : Cw w S rest c q nx) (N : News h₀ L h nx) (hm : (1089, tabObj #[]) ∈ nx) : ∃ nx', Cw w S [] c q nx' ∧ News h₀ L h ((1089, tabObj #[]) :: nx') ∧ OwnOff nx' [1089] := by
  obtain ⟨nx', R', N'⟩ := Lw.move2 R N (rest' := []) (fun p hp => nomatch hp) .nil
  refine ⟨nx', R', fun p hp => ?_, fun p hp b hb => ?_⟩
  · rcases List.mem_cons.mp hp with rfl | hp
    · exact N _ hm
    · exact N' _ hp
  · rw [List.mem_singleton.mp hb]
    rintro e
    have h1 := (N _ hm).1
    have h2 := (N' p hp).1
    rw [e] at h2
    have h3 : p.2.cls = .none := by rw [← Option.some.inj (h1.symm.trans h2)]
    have R'' := R'
    refine Classical.byContradiction fun hn9 => ?_
    obtain ⟨off, nd, od, oz, oq, tc, rfl, hd, hz, hq⟩ := R''
    refine hn9 ?_; clear hn9
    rcases List.mem_cons.mp hp with rfl | hp
    · cases h3
    rcases List.mem_cons.mp hp with rfl | hp
    · have : (Value.type "dict") = .none := h3
      cases this
    rcases List.mem_cons.mp hp with rfl | hp
    · rw [dr_cls hd] at h3; cases h3
    rcases List.mem_append.mp hp with hp | hp
    · unfold Sh.zp at hp
      cases e : S.sized with
      | true => rw [e] at hp; rw [List.mem_singleton.mp hp, dr_cls (hz e)] at h3; cases h3
      | false => rw [e] at hp; cases hp
    rcases List.mem_append.mp hp with hp | hp
    · unfold Sh.op at hp
      cases e : S.fifo with
      | true => rw [e] at hp; rw [List.mem_singleton.mp hp, dr_cls (hq e)] at h3; cases h3
      | false => rw [e] at hp; cases hp
    · cases hp
/-- what holds between the turns of the loop over the makers -/
noncomputable def LawT (news : Led) (x : Addr) (i : Int) (m : Str → Option Value) (nx : Led) : Prop := nx = news ∧ (∃ t, m (Str.ofString "refused") = some (.int i t)) ∧ m (Str.ofString "cache") = some (.ref x)
noncomputable def lawT (x : Addr) (i : Int) (t : Tok) (mo : Str → Option Value) : Str → Option Value := fun y => if y = Str.ofString "refused" then some (.int i t) else if y = Str.ofString "cache" then some (.ref x) else mo y
theorem lawT_eq {m : Str → Option Value} {x : Addr} {i : Int} {t : Tok} (h1 : m (Str.ofString "refused") = some (.int i t)) (h2 : m (Str.ofString "cache") = some (.ref x)) : m = lawT x i t m := by
  funext y
  unfold lawT
  split
  · rename_i e; rw [e]; exact h1
  split
  · rename_i e; rw [e]; exact h2
  rfl
theorem turn_end3 {h₀ h' : Heap} {L I x : Addr} {oI : Obj} {news all : Led} {m' : Str → Option Value} {i : Int} {t : Tok} {tk : Nat} {s₁ : Shared} {Q : Flow → Shared → Prop} (F : Fr h₀ L h' m') (N : News h₀ L h' all) (off : ∀ p ∈ news, p.1 ≠ I) (hs : ∀ p ∈ (I, oI) :: news, p ∈ all) (h1 : m' (Str.ofString "refused") = some (.int i t)) (h2 : m' (Str.ofString "cache") = some (.ref x)) :
    AnyPost h₀ L I oI (LawT news x i) s₁ Q .next { s₁ with heap := h', toks := tk } := AnyEnd.intro news F (news_sub N hs) off ⟨rfl, ⟨t, h1⟩, h2⟩
theorem law_loop3 {prog : Program} {w : World} {A : Around} {E : Value → Shared → Prop} {s : Shared} {env : Env} {h₀ : Heap} {body : List Stmt} {Q : Flow → Shared → Prop} {news : Led} {x l f1 f2 f3 f4 : Addr} {nn : Nat} {m : Str → Option Value} {t0 : Tok}
    (hh : A.handled = none) (F : Fr h₀ env.locals s.heap m) (N : News h₀ env.locals s.heap news) (hl : (l, listOf #[.ref f1, .ref f2, .ref f3, .ref f4] nn) ∈ news) (hm : m (Str.ofString "refused") = some (.int 0 t0)) (hc : m (Str.ofString "cache") = some (.ref x))
    (turn : ∀ f (i : Int) t mo h tk I oI, f = f1 ∨ f = f2 ∨ f = f3 ∨ f = f4 → (∀ p ∈ news, p.1 ≠ I) → Fr h₀ env.locals h (fun y => if y = Str.ofString "make" then some (.ref f) else lawT x i t mo y) → News h₀ env.locals h ((I, oI) :: news) →
      wpAny (model prog w) A (execs body env) (AnyPost h₀ env.locals I oI (LawT news x (i + 1)) { s with heap := h, toks := tk } Q) E { s with heap := h, toks := tk })
    (done : ∀ t mo h tk, Fr h₀ env.locals h (lawT x 4 t mo) → News h₀ env.locals h news → Q .next { s with heap := h, toks := tk }) :
    wpAny (model prog w) A (pyIter (.ref l)) (fun it s₂ => LoopAtV prog w A h₀ env (Str.ofString "make") body Q E it s₂) E s := by
  refine iter_any (vs := [.ref f1, .ref f2, .ref f3, .ref f4]) (fun i => LawT news x (i : Int)) hh hl F N ⟨rfl, ⟨t0, hm⟩, hc⟩ ?_ ?_ ?_
  · rintro i m nx ⟨rfl, _⟩
    exact hl
  · rintro i v m₁ nx h tk I oI hv ⟨rfl, ⟨t, h1⟩, h2⟩ cI hoff F₁ N₁
    rw [lawT_eq h1 h2] at F₁
    have hi : i < 4 := (List.getElem?_eq_some_iff.mp hv).1
    have hf : ∃ f, v = .ref f ∧ (f = f1 ∨ f = f2 ∨ f = f3 ∨ f = f4) := by
      have : i = 0 ∨ i = 1 ∨ i = 2 ∨ i = 3 := (by decide : ∀ i < 4, i = 0 ∨ i = 1 ∨ i = 2 ∨ i = 3) i hi
      rcases this with rfl | rfl | rfl | rfl
      · exact ⟨f1, (Option.some.inj hv).symm, .inl rfl⟩
      · exact ⟨f2, (Option.some.inj hv).symm, .inr (.inl rfl)⟩
      · exact ⟨f3, (Option.some.inj hv).symm, .inr (.inr (.inl rfl))⟩
      · exact ⟨f4, (Option.some.inj hv).symm, .inr (.inr (.inr rfl))⟩
    obtain ⟨f, rfl, hf⟩ := hf
    exact turn f i t m₁ h tk I oI hf hoff F₁ N₁
  · rintro m₁ nx h tk ⟨rfl, ⟨t, h1⟩, h2⟩ F₁ N₁
    rw [lawT_eq h1 h2] at F₁
    exact done t m₁ h tk F₁ N₁
theorem law_named {S : Sh} {D b bq : Addr} {t : Tok} {h₀ h : Heap} {L : Addr} {m : Str → Option Value} {d k v : Int} {td tk tv : Tok} (F : Fr h₀ L h m) (hd : m (Str.ofString "deed") = some (.int d td)) (hk : m (Str.ofString "key") = some (.int k tk)) (hv : m (Str.ofString "value") = some (.int v tv)) (M : LawM m S D b bq t) :
    ∃ td tk tv t mo, Fr h₀ L h (fun y => if y = Str.ofString "value" then some (.int v tv) else if y = Str.ofString "key" then some (.int k tk) else if y = Str.ofString "deed" then some (.int d td) else lawF S D b bq t mo y) := by
  refine ⟨td, tk, tv, t, m, ?_⟩
  have e : m = (fun y => if y = Str.ofString "value" then some (.int v tv) else if y = Str.ofString "key" then some (.int k tk) else if y = Str.ofString "deed" then some (.int d td) else lawF S D b bq t m y) := by
    funext y
    split
    · rename_i e; rw [e]; exact hv
    split
    · rename_i e; rw [e]; exact hk
    split
    · rename_i e; rw [e]; exact hd
    exact congrFun M.eq y
  rw [← e]; exact F
/-- the ends made names -/
theorem law_gen {M : Model} {A : Around} {env : Env} {α : Type} {c : Sem α} {Q : α → Shared → Prop} {E : Value → Shared → Prop} {s : Shared} (hE : PassesOwn M A env E) (h : ∀ Q' E', Q' = Q → E' = E → PassesOwn M A env E' → wpAny M A c Q' E' s) : wpAny M A c Q E s := h Q E rfl rfl hE
-- Lb
theorem dr_nilI {w : World} {d : Addr} {o : Obj} (lo : (d == sysModules) = false) (hi : o.IsDictOf (PySem.intKind PySem.Challenge.rw_ki0005_01.row.prog w) []) : DR w isI d o [] := ⟨lo, Nat.zero_le _, [], hi, .nil⟩
theorem dr_nilU {w : World} {d : Addr} {o : Obj} (lo : (d == sysModules) = false) (hi : o.IsDictOf (PySem.intKind PySem.Challenge.rw_ki0005_01.row.prog w) []) : DR w isU d o [] := ⟨lo, Nat.zero_le _, [], hi, .nil⟩
set_option maxHeartbeats 4000000 in
theorem make_TT {w : World} {p : Program} {loose : List Str} {mean : ExcName → Option Value} {mg mb : Str → Option Value} {dp un : Nat} {gd : Option (List Code)} {cn : Str} {cs : Scope} {a : Addr} {ccd : Value} {cl : List (Str × Addr)} {outer : List Env} {A₀ : Around} {base h₀ : Heap} {L : Addr} {m : Str → Option Value} {s : Shared} {Q E : Value → Shared → Prop} {a1 a2 : Addr} {o1 o2 : Obj} {room : Int} {tr : Tok}
  (B : Below A₀ base outer h₀) (F : Fr h₀ L s.heap m) (X : (Mine.K0 w.params).In h₀) (T : Top p loose mean mg mb h₀) (hk : cs.kind = .function) (N : News h₀ L s.heap [(a1, o1), (a2, o2)]) (hl : Lite2 [(a1, o1), (a2, o2)]) (hr : 0 ≤ room) (hdp : dp + 20 < recursionLimit) (hun : un + 200 < cLine)
  (ret : ∀ S nx h' tk', S.room = room → S.sized = true → S.fifo = true → Cw w S [(a1, o1), (a2, o2)] [] [] nx → Fr h₀ L h' m → News h₀ L h' nx → Q (.ref S.x) { s with heap := h', toks := tk' }) :
  wpAny (model PySem.Challenge.rw_ki0005_01.row.prog w) (ktrTop dp un gd cn cs L a ccd cl outer) (call (.ref 882) [.int room tr, .ref 1053]) Q E s := by
  refine' call_cls (fI := 849) F X N ?k4 ?k5 ?k6 ?_; (case k4 => k_is); (case k5 => k_is); (case k6 => k_is)
  intro x' d' h' F' N' l1 l2
  (try k_lt l1); (try k_lt2 l2); (try k_sweep)
  (k_dflt (refine' enD ([(Str.ofString "getsizeof", .ref 1053), (Str.ofString "maxsize", .int room tr), (Str.ofString "self", .ref x')]) ?k1 ?k2 ?k3 ?k4 ?k5 ?kA ?kF ?kK ?k6 ?k7 ?k8 ?k9 ?kB ?kR ?_ ?c2 ?c3 ?c4 ?c5; (case kA => exact rfl); (case kF => exact rfl); (case kK => first | exact rfl | assumption); (case k1 => k_asm); (case k2 => k_asm); (case k3 => k_asm); (case k4 => k_asm); (case k5 => k_asm); (case k6 => k_is); (case k7 => k_is); (case k8 => first | ktr_room | (refine depth_mark ?_; ktr_room)); (case k9 => first | exact BindsTo.of_eq rfl | exact binds_K (by k_in) rfl (by k_is) rfl rfl rfl); (case c5 => decide); (case kB => exact locs rfl); (case kR => exact rfl); (case c2 => exact rfl); (case c3 => exact rfl); (case c4 => exact rfl); k_whole; intro g' L' h' tk' FG' F' N' B' X' T'; (try dsimp only); (try k_fold)))
  (repeat' ((fail_if_success (with_reducible show wpAny _ _ (exec (Stmt.For _ _ _ _ _) _) _ _ _)); (fail_if_success (with_reducible show wpAny _ _ (exec (Stmt.While _ _ _ _) _) _ _ _)); (fail_if_success (with_reducible show wpAny _ _ (pyIter _) _ _ _)); (fail_if_success (with_reducible show SearchPost _ _ _ _ _ _ _ _ _ _ _)); (fail_if_success (with_reducible show AnyPost _ _ _ _ _ _ _ _ _)); (fail_if_success (with_reducible show LCt.CompRestT _ _ _ _ _ _ _ _ _ _ _ _ _ _ _ _ _ _ _ _)); (fail_if_success (with_reducible show LCg.CompEnd _ _ _ _ _ _ _ _ _ _ _ _ _ _)); (fail_if_success (with_reducible show LCg.CompRest _ _ _ _ _ _ _ _ _ _ _ _ _ _ _ _ _ _ _)); first | (k_unfold; (try dsimp only)) | (with_reducible refine iteT ?_) | ((with_reducible show wpAny _ _ (getAttr (Value.ref _) (PySem.Str.ofString "getsizeof") _) _ _ _); (refine get_ownSm (by k_asm) (by k_asm) (by k_inst) (by k_is) (by k_is) (by k_is) (by k_is) (by k_is) (by k_get) (by k_handed) ?_; k_whole)) | walk1 | dsimp only | (leave1; try dsimp only)))
  (with_reducible rename News _ _ _ _ => N8)
  obtain ⟨nx, R, N9⟩ := Cw.intro (S := ⟨x', d', _, _, _, _, _, _, _, _, _, _, room, true, true⟩) (rest := [(a1, o1), (a2, o2)]) N8 (by k_mem) (by repeat (first | exact List.Mem.head _ | refine List.Mem.tail _ ?_)) (by k_mem) (dr_nilI (by assumption) (by assumption)) (fun _ => ⟨by k_mem, dr_nilI (by assumption) (by assumption)⟩) (fun _ => ⟨by k_mem, dr_nilU (by assumption) (by assumption)⟩) (by simp; repeat' (first | (refine ⟨?_, ?_⟩) | (rintro rfl; omega))) (by walk_at "my sub") hl
  exact ret _ _ _ _ rfl rfl rfl R (by k_asm) N9
set_option maxHeartbeats 4000000 in
theorem make_TF {w : World} {p : Program} {loose : List Str} {mean : ExcName → Option Value} {mg mb : Str → Option Value} {dp un : Nat} {gd : Option (List Code)} {cn : Str} {cs : Scope} {a : Addr} {ccd : Value} {cl : List (Str × Addr)} {outer : List Env} {A₀ : Around} {base h₀ : Heap} {L : Addr} {m : Str → Option Value} {s : Shared} {Q E : Value → Shared → Prop} {a1 a2 : Addr} {o1 o2 : Obj} {room : Int} {tr : Tok}
  (B : Below A₀ base outer h₀) (F : Fr h₀ L s.heap m) (X : (Mine.K0 w.params).In h₀) (T : Top p loose mean mg mb h₀) (hk : cs.kind = .function) (N : News h₀ L s.heap [(a1, o1), (a2, o2)]) (hl : Lite2 [(a1, o1), (a2, o2)]) (hr : 0 ≤ room) (hdp : dp + 20 < recursionLimit) (hun : un + 200 < cLine)
  (ret : ∀ S nx h' tk', S.room = room → S.sized = true → S.fifo = false → Cw w S [(a1, o1), (a2, o2)] [] [] nx → Fr h₀ L h' m → News h₀ L h' nx → Q (.ref S.x) { s with heap := h', toks := tk' }) :
  wpAny (model PySem.Challenge.rw_ki0005_01.row.prog w) (ktrTop dp un gd cn cs L a ccd cl outer) (call (.ref 830) [.int room tr, .ref 1053]) Q E s := by
  refine' call_cls (fI := 714) F X N ?k4 ?k5 ?k6 ?_; (case k4 => k_is); (case k5 => k_is); (case k6 => k_is)
  intro x' d' h' F' N' l1 l2
  (try k_lt l1); (try k_lt2 l2); (try k_sweep)
  (k_dflt (refine' enD ([(Str.ofString "getsizeof", .ref 1053), (Str.ofString "maxsize", .int room tr), (Str.ofString "self", .ref x')]) ?k1 ?k2 ?k3 ?k4 ?k5 ?kA ?kF ?kK ?k6 ?k7 ?k8 ?k9 ?kB ?kR ?_ ?c2 ?c3 ?c4 ?c5; (case kA => exact rfl); (case kF => exact rfl); (case kK => first | exact rfl | assumption); (case k1 => k_asm); (case k2 => k_asm); (case k3 => k_asm); (case k4 => k_asm); (case k5 => k_asm); (case k6 => k_is); (case k7 => k_is); (case k8 => first | ktr_room | (refine depth_mark ?_; ktr_room)); (case k9 => first | exact BindsTo.of_eq rfl | exact binds_K (by k_in) rfl (by k_is) rfl rfl rfl); (case c5 => decide); (case kB => exact locs rfl); (case kR => exact rfl); (case c2 => exact rfl); (case c3 => exact rfl); (case c4 => exact rfl); k_whole; intro g' L' h' tk' FG' F' N' B' X' T'; (try dsimp only); (try k_fold)))
  (repeat' ((fail_if_success (with_reducible show wpAny _ _ (exec (Stmt.For _ _ _ _ _) _) _ _ _)); (fail_if_success (with_reducible show wpAny _ _ (exec (Stmt.While _ _ _ _) _) _ _ _)); (fail_if_success (with_reducible show wpAny _ _ (pyIter _) _ _ _)); (fail_if_success (with_reducible show SearchPost _ _ _ _ _ _ _ _ _ _ _)); (fail_if_success (with_reducible show AnyPost _ _ _ _ _ _ _ _ _)); (fail_if_success (with_reducible show LCt.CompRestT _ _ _ _ _ _ _ _ _ _ _ _ _ _ _ _ _ _ _ _)); (fail_if_success (with_reducible show LCg.CompEnd _ _ _ _ _ _ _ _ _ _ _ _ _ _)); (fail_if_success (with_reducible show LCg.CompRest _ _ _ _ _ _ _ _ _ _ _ _ _ _ _ _ _ _ _)); first | (k_unfold; (try dsimp only)) | (with_reducible refine iteT ?_) | ((with_reducible show wpAny _ _ (getAttr (Value.ref _) (PySem.Str.ofString "getsizeof") _) _ _ _); (refine get_ownSm (by k_asm) (by k_asm) (by k_inst) (by k_is) (by k_is) (by k_is) (by k_is) (by k_is) (by k_get) (by k_handed) ?_; k_whole)) | walk1 | dsimp only | (leave1; try dsimp only)))
  (with_reducible rename News _ _ _ _ => N8)
  obtain ⟨nx, R, N9⟩ := Cw.intro (S := ⟨x', d', _, _, x', _, _, _, _, _, 0, _, room, true, false⟩) (rest := [(a1, o1), (a2, o2)]) (oq := o1) N8 (by k_mem) (by repeat (first | exact List.Mem.head _ | refine List.Mem.tail _ ?_)) (by k_mem) (dr_nilI (by assumption) (by assumption)) (fun _ => ⟨by k_mem, dr_nilI (by assumption) (by assumption)⟩) (fun h => nomatch h) (by simp; repeat' (first | (refine ⟨?_, ?_⟩) | (rintro rfl; omega))) (by walk_at "my sub") hl
  exact ret _ _ _ _ rfl rfl rfl R (by k_asm) N9
set_option maxHeartbeats 4000000 in
theorem make_FT {w : World} {p : Program} {loose : List Str} {mean : ExcName → Option Value} {mg mb : Str → Option Value} {dp un : Nat} {gd : Option (List Code)} {cn : Str} {cs : Scope} {a : Addr} {ccd : Value} {cl : List (Str × Addr)} {outer : List Env} {A₀ : Around} {base h₀ : Heap} {L : Addr} {m : Str → Option Value} {s : Shared} {Q E : Value → Shared → Prop} {a1 a2 : Addr} {o1 o2 : Obj} {room : Int} {tr : Tok}
  (B : Below A₀ base outer h₀) (F : Fr h₀ L s.heap m) (X : (Mine.K0 w.params).In h₀) (T : Top p loose mean mg mb h₀) (hk : cs.kind = .function) (N : News h₀ L s.heap [(a1, o1), (a2, o2)]) (hl : Lite2 [(a1, o1), (a2, o2)]) (hr : 0 ≤ room) (hdp : dp + 20 < recursionLimit) (hun : un + 200 < cLine)
  (ret : ∀ S nx h' tk', S.room = room → S.sized = false → S.fifo = true → Cw w S [(a1, o1), (a2, o2)] [] [] nx → Fr h₀ L h' m → News h₀ L h' nx → Q (.ref S.x) { s with heap := h', toks := tk' }) :
  wpAny (model PySem.Challenge.rw_ki0005_01.row.prog w) (ktrTop dp un gd cn cs L a ccd cl outer) (call (.ref 882) [.int room tr]) Q E s := by
  refine' call_cls (fI := 849) F X N ?k4 ?k5 ?k6 ?_; (case k4 => k_is); (case k5 => k_is); (case k6 => k_is)
  intro x' d' h' F' N' l1 l2
  (try k_lt l1); (try k_lt2 l2); (try k_sweep)
  (k_dflt (refine' enD ([(Str.ofString "getsizeof", .none), (Str.ofString "maxsize", .int room tr), (Str.ofString "self", .ref x')]) ?k1 ?k2 ?k3 ?k4 ?k5 ?kA ?kF ?kK ?k6 ?k7 ?k8 ?k9 ?kB ?kR ?_ ?c2 ?c3 ?c4 ?c5; (case kA => exact rfl); (case kF => exact rfl); (case kK => first | exact rfl | assumption); (case k1 => k_asm); (case k2 => k_asm); (case k3 => k_asm); (case k4 => k_asm); (case k5 => k_asm); (case k6 => k_is); (case k7 => k_is); (case k8 => first | ktr_room | (refine depth_mark ?_; ktr_room)); (case k9 => first | exact BindsTo.of_eq rfl | exact binds_K (by k_in) rfl (by k_is) rfl rfl rfl); (case c5 => decide); (case kB => exact locs rfl); (case kR => exact rfl); (case c2 => exact rfl); (case c3 => exact rfl); (case c4 => exact rfl); k_whole; intro g' L' h' tk' FG' F' N' B' X' T'; (try dsimp only); (try k_fold)))
  (repeat' ((fail_if_success (with_reducible show wpAny _ _ (exec (Stmt.For _ _ _ _ _) _) _ _ _)); (fail_if_success (with_reducible show wpAny _ _ (exec (Stmt.While _ _ _ _) _) _ _ _)); (fail_if_success (with_reducible show wpAny _ _ (pyIter _) _ _ _)); (fail_if_success (with_reducible show SearchPost _ _ _ _ _ _ _ _ _ _ _)); (fail_if_success (with_reducible show AnyPost _ _ _ _ _ _ _ _ _)); (fail_if_success (with_reducible show LCt.CompRestT _ _ _ _ _ _ _ _ _ _ _ _ _ _ _ _ _ _ _ _)); (fail_if_success (with_reducible show LCg.CompEnd _ _ _ _ _ _ _ _ _ _ _ _ _ _)); (fail_if_success (with_reducible show LCg.CompRest _ _ _ _ _ _ _ _ _ _ _ _ _ _ _ _ _ _ _)); first | (k_unfold; (try dsimp only)) | ((with_reducible show wpAny _ _ (getAttr (Value.ref _) (PySem.Str.ofString "getsizeof") _) _ _ _); (refine get_smI (by k_asm) (by k_asm) (by k_inst) (by k_is) (by k_is) (by k_is) (by k_is) (by k_is) (by decide +kernel) (by k_get) (by k_is) (by k_handed) ?_; k_whole)) | walk1 | dsimp only | (leave1; try dsimp only)))
  (with_reducible rename News _ _ _ _ => N8)
  obtain ⟨nx, R, N9⟩ := Cw.intro (S := ⟨x', d', _, x', _, 0, 0, _, _, _, _, _, room, false, true⟩) (rest := [(a1, o1), (a2, o2)]) (oz := o1) N8 (by k_mem) (by repeat (first | exact List.Mem.head _ | refine List.Mem.tail _ ?_)) (by k_mem) (dr_nilI (by assumption) (by assumption)) (fun h => nomatch h) (fun _ => ⟨by k_mem, dr_nilU (by assumption) (by assumption)⟩) (by simp; repeat' (first | (refine ⟨?_, ?_⟩) | (rintro rfl; omega))) (by walk_at "my sub") hl
  exact ret _ _ _ _ rfl rfl rfl R (by k_asm) N9
set_option maxHeartbeats 4000000 in
theorem make_FF {w : World} {p : Program} {loose : List Str} {mean : ExcName → Option Value} {mg mb : Str → Option Value} {dp un : Nat} {gd : Option (List Code)} {cn : Str} {cs : Scope} {a : Addr} {ccd : Value} {cl : List (Str × Addr)} {outer : List Env} {A₀ : Around} {base h₀ : Heap} {L : Addr} {m : Str → Option Value} {s : Shared} {Q E : Value → Shared → Prop} {a1 a2 : Addr} {o1 o2 : Obj} {room : Int} {tr : Tok}
  (B : Below A₀ base outer h₀) (F : Fr h₀ L s.heap m) (X : (Mine.K0 w.params).In h₀) (T : Top p loose mean mg mb h₀) (hk : cs.kind = .function) (N : News h₀ L s.heap [(a1, o1), (a2, o2)]) (hl : Lite2 [(a1, o1), (a2, o2)]) (hr : 0 ≤ room) (hdp : dp + 20 < recursionLimit) (hun : un + 200 < cLine)
  (ret : ∀ S nx h' tk', S.room = room → S.sized = false → S.fifo = false → Cw w S [(a1, o1), (a2, o2)] [] [] nx → Fr h₀ L h' m → News h₀ L h' nx → Q (.ref S.x) { s with heap := h', toks := tk' }) :
  wpAny (model PySem.Challenge.rw_ki0005_01.row.prog w) (ktrTop dp un gd cn cs L a ccd cl outer) (call (.ref 830) [.int room tr]) Q E s := by
  refine' call_cls (fI := 714) F X N ?k4 ?k5 ?k6 ?_; (case k4 => k_is); (case k5 => k_is); (case k6 => k_is)
  intro x' d' h' F' N' l1 l2
  (try k_lt l1); (try k_lt2 l2); (try k_sweep)
  (k_dflt (refine' enD ([(Str.ofString "getsizeof", .none), (Str.ofString "maxsize", .int room tr), (Str.ofString "self", .ref x')]) ?k1 ?k2 ?k3 ?k4 ?k5 ?kA ?kF ?kK ?k6 ?k7 ?k8 ?k9 ?kB ?kR ?_ ?c2 ?c3 ?c4 ?c5; (case kA => exact rfl); (case kF => exact rfl); (case kK => first | exact rfl | assumption); (case k1 => k_asm); (case k2 => k_asm); (case k3 => k_asm); (case k4 => k_asm); (case k5 => k_asm); (case k6 => k_is); (case k7 => k_is); (case k8 => first | ktr_room | (refine depth_mark ?_; ktr_room)); (case k9 => first | exact BindsTo.of_eq rfl | exact binds_K (by k_in) rfl (by k_is) rfl rfl rfl); (case c5 => decide); (case kB => exact locs rfl); (case kR => exact rfl); (case c2 => exact rfl); (case c3 => exact rfl); (case c4 => exact rfl); k_whole; intro g' L' h' tk' FG' F' N' B' X' T'; (try dsimp only); (try k_fold)))
  (repeat' ((fail_if_success (with_reducible show wpAny _ _ (exec (Stmt.For _ _ _ _ _) _) _ _ _)); (fail_if_success (with_reducible show wpAny _ _ (exec (Stmt.While _ _ _ _) _) _ _ _)); (fail_if_success (with_reducible show wpAny _ _ (pyIter _) _ _ _)); (fail_if_success (with_reducible show SearchPost _ _ _ _ _ _ _ _ _ _ _)); (fail_if_success (with_reducible show AnyPost _ _ _ _ _ _ _ _ _)); (fail_if_success (with_reducible show LCt.CompRestT _ _ _ _ _ _ _ _ _ _ _ _ _ _ _ _ _ _ _ _)); (fail_if_success (with_reducible show LCg.CompEnd _ _ _ _ _ _ _ _ _ _ _ _ _ _)); (fail_if_success (with_reducible show LCg.CompRest _ _ _ _ _ _ _ _ _ _ _ _ _ _ _ _ _ _ _)); first | (k_unfold; (try dsimp only)) | ((with_reducible show wpAny _ _ (getAttr (Value.ref _) (PySem.Str.ofString "getsizeof") _) _ _ _); (refine get_smI (by k_asm) (by k_asm) (by k_inst) (by k_is) (by k_is) (by k_is) (by k_is) (by k_is) (by decide +kernel) (by k_get) (by k_is) (by k_handed) ?_; k_whole)) | walk1 | dsimp only | (leave1; try dsimp only)))
  (with_reducible rename News _ _ _ _ => N8)
  obtain ⟨nx, R, N9⟩ := Cw.intro (S := ⟨x', d', _, x', x', 0, 0, _, _, _, 0, _, room, false, false⟩) (rest := [(a1, o1), (a2, o2)]) (oz := o1) (oq := o1) N8 (by k_mem) (by repeat (first | exact List.Mem.head _ | refine List.Mem.tail _ ?_)) (by k_mem) (dr_nilI (by assumption) (by assumption)) (fun h => nomatch h) (fun h => nomatch h) (by simp; repeat' (first | (refine ⟨?_, ?_⟩) | (rintro rfl; omega))) (by walk_at "my sub") hl
  exact ret _ _ _ _ rfl rfl rfl R (by k_asm) N9
theorem all.tw1000654685312944669 : True := trivial
theorem all.tw10011055193491271300 : True := trivial
theorem all.tw10017678596475843418 : True := trivial
theorem all.tw10028984255474713780 : True := trivial
theorem all.tw1003067721083138455 : True := trivial
theorem all.tw10034031380863371641 : True := trivial
theorem all.tw10042690540180379618 : True := trivial
theorem all.tw10049700130234932854 : True := trivial
theorem all.tw10056407215543489705 : True := trivial
theorem all.tw100579137028481972 : True := trivial
theorem all.tw10059427243083084051 : True := trivial
theorem all.tw10059865322981458808 : True := trivial
theorem all.tw10074495258110315441 : True := trivial
theorem all.tw10083649367789216861 : True := trivial
theorem all.tw10104816366049689885 : True := trivial
theorem all.tw1011058218971177106 : True := trivial
theorem all.tw10117078608628509299 : True := trivial
theorem all.tw10123830019554174990 : True := trivial
theorem all.tw10127320685908719325 : True := trivial
theorem all.tw10131221437080536637 : True := trivial
theorem all.tw10156424416328317940 : True := trivial
theorem all.tw10157199282875686013 : True := trivial
theorem all.tw10168888151487559394 : True := trivial
theorem all.tw10197837139470215952 : True := trivial
theorem all.tw10205450789954323259 : True := trivial
theorem all.tw10215604902903598199 : True := trivial
theorem all.tw10220718595764522284 : True := trivial
theorem all.tw10227051316576381974 : True := trivial
theorem all.tw10252965763247687682 : True := trivial
theorem all.tw10268101183197098196 : True := trivial
theorem all.tw10270419983477892464 : True := trivial
theorem all.tw10277023259857791717 : True := trivial
theorem all.tw10277526245819850656 : True := trivial
theorem all.tw10289937546816008636 : True := trivial
theorem all.tw10312239555926195531 : True := trivial
theorem all.tw10316705163991428254 : True := trivial
theorem all.tw10323370424266482742 : True := trivial
theorem all.tw10373518514796964856 : True := trivial
theorem all.tw10379555496612227986 : True := trivial
theorem all.tw10389294372677164839 : True := trivial
theorem all.tw10407399669362838719 : True := trivial
theorem all.tw10407643200519584543 : True := trivial
theorem all.tw10427701671452009419 : True := trivial
theorem all.tw10431418696042433592 : True := trivial
theorem all.tw10441748435392456942 : True := trivial
theorem all.tw10443054044858685635 : True := trivial
theorem all.tw1048652492466739355 : True := trivial
theorem all.tw10505120051468078558 : True := trivial
theorem all.tw10532639588233176698 : True := trivial
theorem all.tw10576110018494610262 : True := trivial
theorem all.tw10605573515054228340 : True := trivial
theorem all.tw10625756492105311069 : True := trivial
theorem all.tw10636018739910865072 : True := trivial
theorem all.tw10640348836240559591 : True := trivial
theorem all.tw1064809361808223833 : True := trivial
theorem all.tw10649901628825759099 : True := trivial
theorem all.tw10654450574037986307 : True := trivial
theorem all.tw10658958392246782621 : True := trivial
theorem all.tw10677670038743541358 : True := trivial
theorem all.tw10681620039792923934 : True := trivial
theorem all.tw10684865472388628163 : True := trivial
theorem all.tw10697019674602590866 : True := trivial
theorem all.tw10705108097460422218 : True := trivial
theorem all.tw10739910033669202754 : True := trivial
theorem all.tw10744208401707937443 : True := trivial
theorem all.tw10746271602431261390 : True := trivial
theorem all.tw10749367055709114594 : True := trivial
theorem all.tw1074977417605700491 : True := trivial
theorem all.tw1075291646940621582 : True := trivial
theorem all.tw10765054244650773761 : True := trivial
theorem all.tw10771693280256995429 : True := trivial
theorem all.tw10773934983489079739 : True := trivial
theorem all.tw10775804970592647040 : True := trivial
theorem all.tw10793401674749092046 : True := trivial
theorem all.tw1079708855280229330 : True := trivial
theorem all.tw10807058235482574751 : True := trivial
theorem all.tw10808106126208798102 : True := trivial
theorem all.tw10809422741971537594 : True := trivial
theorem all.tw10825269862236069917 : True := trivial
theorem all.tw1088589479996732829 : True := trivial
theorem all.tw10895411794446438415 : True := trivial
theorem all.tw10912467617979834864 : True := trivial
theorem all.tw10921597071642053482 : True := trivial
theorem all.tw10923070005692675132 : True := trivial
theorem all.tw10939554753634627100 : True := trivial
theorem all.tw10942295900298899174 : True := trivial
theorem all.tw10951284943951773250 : True := trivial
theorem all.tw10959688182963198622 : True := trivial
theorem all.tw10971250334911043752 : True := trivial
theorem all.tw11013067947808108990 : True := trivial
theorem all.tw11029868008866206867 : True := trivial
theorem all.tw11038128598146805730 : True := trivial
theorem all.tw11045270430615452010 : True := trivial
theorem all.tw11051373392699811023 : True := trivial
theorem all.tw11051709101105081487 : True := trivial
theorem all.tw11065212586128769926 : True := trivial
theorem all.tw11070880734014958032 : True := trivial
theorem all.tw11073420380290933486 : True := trivial
theorem all.tw11084671267661333339 : True := trivial
theorem all.tw11091474679367250208 : True := trivial
theorem all.tw11093295523969242068 : True := trivial
theorem all.tw11099160449156100569 : True := trivial
theorem all.tw11102767992079720913 : True := trivial
theorem all.tw11112267310362752236 : True := trivial
theorem all.tw11113120797386210373 : True := trivial
theorem all.tw11120492362615346026 : True := trivial
theorem all.tw11125210322852946972 : True := trivial
theorem all.tw11139934685464864865 : True := trivial
theorem all.tw11158953913317867288 : True := trivial
theorem all.tw11169558830825096451 : True := trivial
theorem all.tw11177561488728990998 : True := trivial
theorem all.tw11201148952974671016 : True := trivial
theorem all.tw11221641727941109892 : True := trivial
theorem all.tw11223482586740685078 : True := trivial
theorem all.tw11230645906715702508 : True := trivial
theorem all.tw11273133048781285286 : True := trivial
theorem all.tw11276062564640038955 : True := trivial
theorem all.tw11277845596349742556 : True := trivial
theorem all.tw11322697920292055282 : True := trivial
theorem all.tw11338558125871782157 : True := trivial
theorem all.tw1134387795579768495 : True := trivial
theorem all.tw11375281295658956675 : True := trivial
theorem all.tw11378520881680533043 : True := trivial
theorem all.tw11379476302917356771 : True := trivial
theorem all.tw11383014660785266511 : True := trivial
theorem all.tw1142058581544160548 : True := trivial
theorem all.tw11433317345382964763 : True := trivial
theorem all.tw11441816438227186863 : True := trivial
theorem all.tw11446199593928302625 : True := trivial
theorem all.tw11448872678469705673 : True := trivial
theorem all.tw11449233824965966284 : True := trivial
theorem all.tw11473507486328240615 : True := trivial
theorem all.tw1148139193434420768 : True := trivial
theorem all.tw11483514542923596125 : True := trivial
theorem all.tw11489409643829403841 : True := trivial
theorem all.tw1149733072300507863 : True := trivial
theorem all.tw11533779600810293282 : True := trivial
theorem all.tw11536899603342547138 : True := trivial
theorem all.tw11549785766782931663 : True := trivial
theorem all.tw11554346470539331173 : True := trivial
theorem all.tw11561230317382288575 : True := trivial
theorem all.tw11563076530477234726 : True := trivial
theorem all.tw11563124874051873174 : True := trivial
theorem all.tw1160345676404013698 : True := trivial
theorem all.tw11608023947343846416 : True := trivial
theorem all.tw11612715853725182930 : True := trivial
theorem all.tw11649689216673366302 : True := trivial
theorem all.tw11658462952560688381 : True := trivial
theorem all.tw11665615536025424988 : True := trivial
theorem all.tw11682010486851493762 : True := trivial
theorem all.tw11686026206685797588 : True := trivial
theorem all.tw11693868651726016439 : True := trivial
theorem all.tw11706699075341729706 : True := trivial
theorem all.tw11715076624519005581 : True := trivial
theorem all.tw11719151900338479318 : True := trivial
theorem all.tw1172340538976468734 : True := trivial
theorem all.tw11736780227944870738 : True := trivial
theorem all.tw11738243901336025406 : True := trivial
theorem all.tw11757652711159077200 : True := trivial
theorem all.tw11759228797649091452 : True := trivial
theorem all.tw11776277695535270532 : True := trivial
theorem all.tw11777086365064915542 : True := trivial
theorem all.tw11784725038316003381 : True := trivial
theorem all.tw11790413056962406381 : True := trivial
theorem all.tw11795751877021904696 : True := trivial
theorem all.tw11798761498685784450 : True := trivial
theorem all.tw1180340092770325499 : True := trivial
theorem all.tw1181928336742247333 : True := trivial
theorem all.tw1183262839316018061 : True := trivial
theorem all.tw11833095699794131469 : True := trivial
theorem all.tw11833515131569705653 : True := trivial
theorem all.tw11857263309510223267 : True := trivial
theorem all.tw11873128583313209664 : True := trivial
theorem all.tw11875289679684398173 : True := trivial
theorem all.tw11877403491279123046 : True := trivial
theorem all.tw11884583355970431823 : True := trivial
theorem all.tw11886225430531291334 : True := trivial
theorem all.tw11904431243951574334 : True := trivial
theorem all.tw11925040711228000680 : True := trivial
theorem all.tw11931136993785318394 : True := trivial
theorem all.tw1193789694435920932 : True := trivial
theorem all.tw11941434552837256626 : True := trivial
theorem all.tw11946049460391925874 : True := trivial
theorem all.tw11951307492845570281 : True := trivial
theorem all.tw11959420509538560460 : True := trivial
theorem all.tw11960088963740852381 : True := trivial
theorem all.tw11961059351148515626 : True := trivial
theorem all.tw12028550053918628185 : True := trivial
theorem all.tw12040197634456252077 : True := trivial
theorem all.tw12052537262409512078 : True := trivial
theorem all.tw12071712058454129317 : True := trivial
theorem all.tw12086854489832023308 : True := trivial
theorem all.tw1209734120641123338 : True := trivial
theorem all.tw12102373985584926048 : True := trivial
theorem all.tw12109177834331835950 : True := trivial
theorem all.tw12122067901350261443 : True := trivial
theorem all.tw12136012030893486346 : True := trivial
theorem all.tw12139170077877725708 : True := trivial
theorem all.tw12139975045889036140 : True := trivial
theorem all.tw12139988101201813748 : True := trivial
theorem all.tw1215526528800860966 : True := trivial
theorem all.tw1216898108829112853 : True := trivial
theorem all.tw12180536567876656950 : True := trivial
theorem all.tw12188585053259332891 : True := trivial
theorem all.tw12212617724871111176 : True := trivial
theorem all.tw12216726812710582720 : True := trivial
theorem all.tw12221899719970307736 : True := trivial
theorem all.tw12221947951091446842 : True := trivial
theorem all.tw12248499234135794655 : True := trivial
theorem all.tw12248520049373816357 : True := trivial
theorem all.tw12249842068641981632 : True := trivial
theorem all.tw12254430714555821875 : True := trivial
theorem all.tw12267322187703008927 : True := trivial
theorem all.tw12267468486907949403 : True := trivial
theorem all.tw1229007388973216393 : True := trivial
theorem all.tw12304872625307995750 : True := trivial
theorem all.tw12315893033097763275 : True := trivial
theorem all.tw12317132656592258788 : True := trivial
theorem all.tw12320724196928087214 : True := trivial
theorem all.tw12350675673990098063 : True := trivial
theorem all.tw12364857061501726476 : True := trivial
theorem all.tw12375154698920686608 : True := trivial
theorem all.tw12381699962588209086 : True := trivial
theorem all.tw1238725946784135233 : True := trivial
theorem all.tw12394350090093965224 : True := trivial
theorem all.tw12412031795608718596 : True := trivial
theorem all.tw12414622225627857845 : True := trivial
theorem all.tw12428716410969305734 : True := trivial
theorem all.tw12429134901205526213 : True := trivial
theorem all.tw12447178028490564450 : True := trivial
theorem all.tw12451815053677690644 : True := trivial
theorem all.tw12455719107912628811 : True := trivial
theorem all.tw12461584238705310493 : True := trivial
theorem all.tw12477146937434811125 : True := trivial
theorem all.tw12484985012227716127 : True := trivial
theorem all.tw12504994543719847139 : True := trivial
theorem all.tw12507034459609800562 : True := trivial
theorem all.tw12512054102949984058 : True := trivial
theorem all.tw125183967897747985 : True := trivial
theorem all.tw12522583366650532051 : True := trivial
theorem all.tw1252384811442314424 : True := trivial
theorem all.tw12524873048723773429 : True := trivial
theorem all.tw12530295590962518216 : True := trivial
theorem all.tw12539139912394442907 : True := trivial
theorem all.tw12540455083557110006 : True := trivial
theorem all.tw12563039088042482649 : True := trivial
theorem all.tw1257692432398776216 : True := trivial
theorem all.tw12580110897883145167 : True := trivial
theorem all.tw12588910511511068231 : True := trivial
theorem all.tw12588980310967471357 : True := trivial
theorem all.tw12616579392499686365 : True := trivial
theorem all.tw12622491811137199776 : True := trivial
theorem all.tw12638004864335716521 : True := trivial
theorem all.tw12660313510933750384 : True := trivial
theorem all.tw12661847378627794183 : True := trivial
theorem all.tw12666727338032990510 : True := trivial
theorem all.tw12667118955459128788 : True := trivial
theorem all.tw12670715608682713705 : True := trivial
theorem all.tw12674233846100721760 : True := trivial
theorem all.tw12681558240968442324 : True := trivial
theorem all.tw12681721968681847390 : True := trivial
theorem all.tw12693213706374161314 : True := trivial
theorem all.tw12724949091593755947 : True := trivial
theorem all.tw12726553543605161282 : True := trivial
theorem all.tw1274826149173847060 : True := trivial
theorem all.tw12749833136222056006 : True := trivial
theorem all.tw12784588452913835247 : True := trivial
theorem all.tw12791884135346583072 : True := trivial
theorem all.tw12803817524326497440 : True := trivial
theorem all.tw12806150273621220928 : True := trivial
theorem all.tw12810256067151697097 : True := trivial
theorem all.tw12819504698909858696 : True := trivial
theorem all.tw12847938454781286588 : True := trivial
theorem all.tw12875698411003948031 : True := trivial
theorem all.tw12879093696321656444 : True := trivial
theorem all.tw12882977917909699830 : True := trivial
theorem all.tw12885334096101347146 : True := trivial
theorem all.tw12899656968702213925 : True := trivial
theorem all.tw12907115458186192036 : True := trivial
theorem all.tw1291087626157917732 : True := trivial
theorem all.tw12926333453430215753 : True := trivial
theorem all.tw12926644002878227130 : True := trivial
theorem all.tw12928131336088087336 : True := trivial
theorem all.tw12932443777157162725 : True := trivial
theorem all.tw12981892083367582941 : True := trivial
theorem all.tw12985212532813657682 : True := trivial
theorem all.tw1298631472846954095 : True := trivial
theorem all.tw12988922753241023683 : True := trivial
theorem all.tw13005817628092065933 : True := trivial
theorem all.tw13057232943065969744 : True := trivial
theorem all.tw13071023791616644796 : True := trivial
theorem all.tw13098716769926991806 : True := trivial
theorem all.tw13100642850353945058 : True := trivial
theorem all.tw1310637986366177650 : True := trivial
theorem all.tw13109034201388524979 : True := trivial
theorem all.tw13113687655016186724 : True := trivial
theorem all.tw13115294276867197809 : True := trivial
theorem all.tw13132907815185506690 : True := trivial
theorem all.tw13135058765949404771 : True := trivial
theorem all.tw13143037982756497821 : True := trivial
theorem all.tw13147988278854695638 : True := trivial
theorem all.tw13159001897076375314 : True := trivial
theorem all.tw13172091369480311280 : True := trivial
theorem all.tw13185015893256467352 : True := trivial
theorem all.tw13187157330638298570 : True := trivial
theorem all.tw13196349276625024522 : True := trivial
theorem all.tw13207205805934963241 : True := trivial
theorem all.tw13215351417096909983 : True := trivial
theorem all.tw13220695134330190930 : True := trivial
theorem all.tw13226574990515446508 : True := trivial
theorem all.tw1323426155142419162 : True := trivial
theorem all.tw13238087922356334437 : True := trivial
theorem all.tw13261440067028885700 : True := trivial
theorem all.tw1326175403826912198 : True := trivial
theorem all.tw13270324115958721901 : True := trivial
theorem all.tw13280447903547772812 : True := trivial
theorem all.tw13280618800183650999 : True := trivial
theorem all.tw13282074430368766303 : True := trivial
theorem all.tw13283931332471535325 : True := trivial
theorem all.tw13310546454913479549 : True := trivial
theorem all.tw13324743956840797703 : True := trivial
theorem all.tw13334559163842217946 : True := trivial
theorem all.tw13358122933769645826 : True := trivial
theorem all.tw13358604424828501309 : True := trivial
theorem all.tw13367027030735845020 : True := trivial
theorem all.tw13370487131934946175 : True := trivial
theorem all.tw13376464931078446103 : True := trivial
theorem all.tw13382282417035153051 : True := trivial
theorem all.tw13423135486485445016 : True := trivial
theorem all.tw13426034277928616635 : True := trivial
theorem all.tw13428697972904913174 : True := trivial
theorem all.tw13429984922391205789 : True := trivial
theorem all.tw13452499176665753301 : True := trivial
theorem all.tw13455461431897201640 : True := trivial
theorem all.tw13467292715098799918 : True := trivial
theorem all.tw13473669787684479857 : True := trivial
theorem all.tw13476624294007221044 : True := trivial
theorem all.tw13492395982464255480 : True := trivial
theorem all.tw13505173894226300209 : True := trivial
theorem all.tw1350781854575830958 : True := trivial
theorem all.tw13508003155388970551 : True := trivial
theorem all.tw13509908655624090359 : True := trivial
theorem all.tw1352723322627576488 : True := trivial
theorem all.tw13537625653133889323 : True := trivial
theorem all.tw13586417535379780766 : True := trivial
theorem all.tw1359047542469259013 : True := trivial
theorem all.tw13603667167075371268 : True := trivial
theorem all.tw13607757164722159089 : True := trivial
theorem all.tw13608339801890971764 : True := trivial
theorem all.tw13616841664749595800 : True := trivial
theorem all.tw13652370015207561478 : True := trivial
theorem all.tw13657395267715391174 : True := trivial
theorem all.tw13663018214320142090 : True := trivial
theorem all.tw13664021614236618579 : True := trivial
theorem all.tw13674616945947655682 : True := trivial
theorem all.tw13678831315298964934 : True := trivial
theorem all.tw13681351675135598112 : True := trivial
theorem all.tw13705359905590513113 : True := trivial
theorem all.tw13717024376598296668 : True := trivial
theorem all.tw13718955013592183530 : True := trivial
theorem all.tw13723625003827874073 : True := trivial
theorem all.tw13740799616414256498 : True := trivial
theorem all.tw13744753397303170904 : True := trivial
theorem all.tw13752750167953387420 : True := trivial
theorem all.tw13767170589326770130 : True := trivial
theorem all.tw13788255538012408148 : True := trivial
theorem all.tw13790634516127509688 : True := trivial
theorem all.tw13799514808605650796 : True := trivial
theorem all.tw13809692799925902674 : True := trivial
theorem all.tw13830746773910301732 : True := trivial
theorem all.tw1386053206654645049 : True := trivial
theorem all.tw13872199230613659283 : True := trivial
theorem all.tw13874455239767017017 : True := trivial
theorem all.tw13887551421349579326 : True := trivial
theorem all.tw13897503799994109090 : True := trivial
theorem all.tw13900070722340429276 : True := trivial
theorem all.tw13912068318134460016 : True := trivial
theorem all.tw13918992147784214117 : True := trivial
theorem all.tw13920283906404951601 : True := trivial
theorem all.tw13928513891281363954 : True := trivial
theorem all.tw13930725301713896174 : True := trivial
theorem all.tw13930999109560414629 : True := trivial
theorem all.tw13960862262899742394 : True := trivial
theorem all.tw13963113638022422846 : True := trivial
theorem all.tw14003663102062188800 : True := trivial
theorem all.tw14044709251442629906 : True := trivial
theorem all.tw14057782590025463129 : True := trivial
theorem all.tw14066901625076523032 : True := trivial
theorem all.tw14074921412963316263 : True := trivial
theorem all.tw14075341789214468681 : True := trivial
theorem all.tw14076077854437140390 : True := trivial
theorem all.tw14081932915414352519 : True := trivial
theorem all.tw14099800850047386279 : True := trivial
theorem all.tw14106571916235994328 : True := trivial
theorem all.tw14124131498755634749 : True := trivial
theorem all.tw14126516920343173744 : True := trivial
theorem all.tw14130914514491923361 : True := trivial
theorem all.tw14133071993873607162 : True := trivial
theorem all.tw14135482365787155744 : True := trivial
theorem all.tw14137088127444503866 : True := trivial
theorem all.tw14151137839513740329 : True := trivial
theorem all.tw14154627898196482822 : True := trivial
theorem all.tw14173544716174464178 : True := trivial
theorem all.tw14176346536356519786 : True := trivial
theorem all.tw1418361799297376656 : True := trivial
theorem all.tw14199643231683853240 : True := trivial
theorem all.tw14200518018382609147 : True := trivial
theorem all.tw14201790961670687459 : True := trivial
theorem all.tw14204109254541194217 : True := trivial
theorem all.tw14209155647100055501 : True := trivial
theorem all.tw14211586455995466092 : True := trivial
theorem all.tw14224727731487644801 : True := trivial
theorem all.tw14229981574245695772 : True := trivial
theorem all.tw14255792374956475385 : True := trivial
theorem all.tw14274756557212989909 : True := trivial
theorem all.tw14288127532215574351 : True := trivial
theorem all.tw14310873030558110092 : True := trivial
theorem all.tw14311059595989196547 : True := trivial
theorem all.tw14331890051309236264 : True := trivial
theorem all.tw14332598561130271602 : True := trivial
theorem all.tw14334803219462250954 : True := trivial
theorem all.tw14363635269092464839 : True := trivial
theorem all.tw14365998534574843411 : True := trivial
theorem all.tw14369711331093494773 : True := trivial
theorem all.tw14371094501201703783 : True := trivial
theorem all.tw1441969693819510846 : True := trivial
theorem all.tw14420213329864412023 : True := trivial
theorem all.tw14421808642430287336 : True := trivial
theorem all.tw14431299560312537929 : True := trivial
theorem all.tw14444207656584330654 : True := trivial
theorem all.tw1446525512094189494 : True := trivial
theorem all.tw14468142351790202716 : True := trivial
theorem all.tw14483376603434069256 : True := trivial
theorem all.tw14497616064866002163 : True := trivial
theorem all.tw14504465163362997928 : True := trivial
theorem all.tw14511287757244466272 : True := trivial
theorem all.tw14521102188023557756 : True := trivial
theorem all.tw14523845485542788104 : True := trivial
theorem all.tw14539000326390715668 : True := trivial
theorem all.tw14541659766323124216 : True := trivial
theorem all.tw14588079724348961393 : True := trivial
theorem all.tw14588517016535138548 : True := trivial
theorem all.tw14599574564126857124 : True := trivial
theorem all.tw14615947125993099273 : True := trivial
theorem all.tw14627553844933117648 : True := trivial
theorem all.tw14648276583578725374 : True := trivial
theorem all.tw14666408644135076114 : True := trivial
theorem all.tw14675455749465060737 : True := trivial
theorem all.tw14701963045326077753 : True := trivial
theorem all.tw14721843458392949018 : True := trivial
theorem all.tw14737169218283336635 : True := trivial
theorem all.tw14753627124330771394 : True := trivial
theorem all.tw14761609227482058788 : True := trivial
theorem all.tw14766046522696363495 : True := trivial
theorem all.tw14771985120617686802 : True := trivial
theorem all.tw14772732424919055080 : True := trivial
theorem all.tw14781748715729698432 : True := trivial
theorem all.tw14793058985867185695 : True := trivial
theorem all.tw14810779743422990796 : True := trivial
theorem all.tw14822214895437561417 : True := trivial
theorem all.tw14832271272948145296 : True := trivial
theorem all.tw14832659646925512398 : True := trivial
theorem all.tw14832718209330476552 : True := trivial
theorem all.tw14833435161271525497 : True := trivial
theorem all.tw14839960761635216755 : True := trivial
theorem all.tw14847532645272441617 : True := trivial
theorem all.tw14849280956162755979 : True := trivial
theorem all.tw14853665493834295914 : True := trivial
theorem all.tw14883968960377749705 : True := trivial
theorem all.tw14899674885815798178 : True := trivial
theorem all.tw14908642879370454120 : True := trivial
theorem all.tw14911401402694521299 : True := trivial
theorem all.tw14911824527424751230 : True := trivial
theorem all.tw14929030026817746520 : True := trivial
theorem all.tw14929683446248860828 : True := trivial
theorem all.tw14932615516516682873 : True := trivial
theorem all.tw14940032972901115816 : True := trivial
theorem all.tw14943747587227275919 : True := trivial
theorem all.tw14946507423427453172 : True := trivial
theorem all.tw14947195102879435706 : True := trivial
theorem all.tw14953325984322379511 : True := trivial
theorem all.tw14954329004993159738 : True := trivial
theorem all.tw15012002528947648769 : True := trivial
theorem all.tw15014361466247048854 : True := trivial
theorem all.tw15049091028955523934 : True := trivial
theorem all.tw15054863418237798948 : True := trivial
theorem all.tw15062742675444229176 : True := trivial
theorem all.tw15076152544538823220 : True := trivial
theorem all.tw15097909243742831393 : True := trivial
theorem all.tw15105651507014581045 : True := trivial
theorem all.tw15141199407042040807 : True := trivial
theorem all.tw1514201948122621457 : True := trivial
theorem all.tw15145278206449419223 : True := trivial
theorem all.tw15151187641303801864 : True := trivial
theorem all.tw1515648671985560317 : True := trivial
theorem all.tw15158558636265767147 : True := trivial
theorem all.tw15168308629319442981 : True := trivial
theorem all.tw15169132504317909622 : True := trivial
theorem all.tw15175934484812639109 : True := trivial
theorem all.tw15187966886293544231 : True := trivial
theorem all.tw15198316981687975854 : True := trivial
theorem all.tw15200054217018719405 : True := trivial
theorem all.tw15242674970999812785 : True := trivial
theorem all.tw15271115526033407858 : True := trivial
theorem all.tw15284455985751111415 : True := trivial
theorem all.tw15298119835317213847 : True := trivial
theorem all.tw15300001336698509272 : True := trivial
theorem all.tw15305453227285626446 : True := trivial
theorem all.tw15308250812074930202 : True := trivial
theorem all.tw15309484375228292530 : True := trivial
theorem all.tw15331906349341453337 : True := trivial
theorem all.tw15346377417354260756 : True := trivial
theorem all.tw15354443143932468990 : True := trivial
theorem all.tw15359849362664289188 : True := trivial
theorem all.tw15391004526167926365 : True := trivial
theorem all.tw15393178847056368160 : True := trivial
theorem all.tw15414233836422861205 : True := trivial
theorem all.tw15417909909646571957 : True := trivial
theorem all.tw15429038253546691098 : True := trivial
theorem all.tw15434274335043249755 : True := trivial
theorem all.tw15437854835666668586 : True := trivial
theorem all.tw15451204947285891726 : True := trivial
theorem all.tw15460475937063365902 : True := trivial
theorem all.tw15460995928004159328 : True := trivial
theorem all.tw15471726915170369524 : True := trivial
theorem all.tw1548488679004171357 : True := trivial
theorem all.tw15488987456674118901 : True := trivial
theorem all.tw1550712947053634219 : True := trivial
theorem all.tw15519761934197397234 : True := trivial
theorem all.tw15526263569004567679 : True := trivial
theorem all.tw15535628822559064378 : True := trivial
theorem all.tw15538677138659812364 : True := trivial
theorem all.tw15541118713287057729 : True := trivial
theorem all.tw15543081746809864671 : True := trivial
theorem all.tw15547778375373619628 : True := trivial
theorem all.tw15549322291213767670 : True := trivial
theorem all.tw15559640715223299674 : True := trivial
theorem all.tw15568806467266420770 : True := trivial
theorem all.tw15575253945988166476 : True := trivial
theorem all.tw15585509438621463966 : True := trivial
theorem all.tw15600428417527525906 : True := trivial
theorem all.tw15612066896164977022 : True := trivial
theorem all.tw15618092478124507917 : True := trivial
theorem all.tw15651552276635911839 : True := trivial
theorem all.tw15651733941924773997 : True := trivial
theorem all.tw15670805634923389295 : True := trivial
theorem all.tw15671812041987572844 : True := trivial
theorem all.tw15678855136751501630 : True := trivial
theorem all.tw15714474698464851408 : True := trivial
theorem all.tw15717111371951823431 : True := trivial
theorem all.tw15719310961176515633 : True := trivial
theorem all.tw15725477768412805320 : True := trivial
theorem all.tw15738225660111475795 : True := trivial
theorem all.tw15754699064748916945 : True := trivial
theorem all.tw15755096416983969391 : True := trivial
theorem all.tw15766516232730648815 : True := trivial
theorem all.tw15766547542915688834 : True := trivial
theorem all.tw15775133740396041162 : True := trivial
theorem all.tw15778654729900951400 : True := trivial
theorem all.tw15849158762323818722 : True := trivial
theorem all.tw15850862595766828835 : True := trivial
theorem all.tw1585303152785439333 : True := trivial
theorem all.tw15863272230641938270 : True := trivial
theorem all.tw15866815640656860141 : True := trivial
theorem all.tw15874414758504380264 : True := trivial
theorem all.tw15875746330617476859 : True := trivial
theorem all.tw15895636860249145430 : True := trivial
theorem all.tw15902913901339227234 : True := trivial
theorem all.tw15905863888603160686 : True := trivial
theorem all.tw15906484144062456574 : True := trivial
theorem all.tw15907180433229101076 : True := trivial
theorem all.tw15911397976782997354 : True := trivial
theorem all.tw15916094776567784045 : True := trivial
theorem all.tw15923569513143324050 : True := trivial
theorem all.tw15926794790568321017 : True := trivial
theorem all.tw15927151371399477247 : True := trivial
theorem all.tw15948750498644559836 : True := trivial
theorem all.tw15956041502665293837 : True := trivial
theorem all.tw15964246745972248413 : True := trivial
theorem all.tw15968848678202421516 : True := trivial
theorem all.tw15977508845680753073 : True := trivial
theorem all.tw15991472142188878074 : True := trivial
theorem all.tw15992238710702158959 : True := trivial
theorem all.tw1601506941167368761 : True := trivial
theorem all.tw16020733437468639376 : True := trivial
theorem all.tw16038759281540277850 : True := trivial
theorem all.tw16057471521750792484 : True := trivial
theorem all.tw16060736359712186407 : True := trivial
theorem all.tw16073229968056449888 : True := trivial
theorem all.tw16083011106298858529 : True := trivial
theorem all.tw16084742875079473383 : True := trivial
theorem all.tw16088354708999966866 : True := trivial
theorem all.tw16097505516487973002 : True := trivial
theorem all.tw16101767191176384045 : True := trivial
theorem all.tw1611252808612934635 : True := trivial
theorem all.tw16130472912686867234 : True := trivial
theorem all.tw16136937179128050694 : True := trivial
theorem all.tw16149317719023688252 : True := trivial
theorem all.tw16158510106006900030 : True := trivial
theorem all.tw16169115639287123334 : True := trivial
theorem all.tw16171933092410999983 : True := trivial
theorem all.tw16176830815697697194 : True := trivial
theorem all.tw16178881442770781439 : True := trivial
theorem all.tw16188822405700688499 : True := trivial
theorem all.tw16215753837559589999 : True := trivial
theorem all.tw16223638597430114740 : True := trivial
theorem all.tw16232008947845578158 : True := trivial
theorem all.tw16243829828752206327 : True := trivial
theorem all.tw16254912398560273435 : True := trivial
theorem all.tw16265762612027633490 : True := trivial
theorem all.tw16280418093225758143 : True := trivial
theorem all.tw16288533217561068507 : True := trivial
theorem all.tw16296590348105434372 : True := trivial
theorem all.tw16298671858544969935 : True := trivial
theorem all.tw16339503202031470875 : True := trivial
theorem all.tw16344876080836181191 : True := trivial
theorem all.tw16354672406610356589 : True := trivial
theorem all.tw16358324056389590577 : True := trivial
theorem all.tw16369536886227021476 : True := trivial
theorem all.tw16380010962387368970 : True := trivial
theorem all.tw16396720132940187912 : True := trivial
theorem all.tw1639981616727947583 : True := trivial
theorem all.tw16415556957609747176 : True := trivial
theorem all.tw16417971975926614949 : True := trivial
theorem all.tw16421542003030110328 : True := trivial
theorem all.tw16432233866770964294 : True := trivial
theorem all.tw16433278489552267077 : True := trivial
theorem all.tw1644255569911684797 : True := trivial
theorem all.tw16447172759540358135 : True := trivial
theorem all.tw16456409905306380572 : True := trivial
theorem all.tw16490853721002535474 : True := trivial
theorem all.tw16493862220315235259 : True := trivial
theorem all.tw16518067997115948032 : True := trivial
theorem all.tw16519301476878465713 : True := trivial
theorem all.tw16526751206710464603 : True := trivial
theorem all.tw16528755571443386551 : True := trivial
theorem all.tw16546499530351148812 : True := trivial
theorem all.tw16567661231398824811 : True := trivial
theorem all.tw16573077582942348641 : True := trivial
theorem all.tw16576222957257545530 : True := trivial
theorem all.tw16592893570014863828 : True := trivial
theorem all.tw1660415213443490748 : True := trivial
theorem all.tw16610740595739668794 : True := trivial
theorem all.tw16615192147309376951 : True := trivial
theorem all.tw16636436465759865564 : True := trivial
theorem all.tw16644902639655322133 : True := trivial
theorem all.tw16646814866014743190 : True := trivial
theorem all.tw16665526110328478529 : True := trivial
theorem all.tw16676535292946324989 : True := trivial
theorem all.tw16690688178146139053 : True := trivial
theorem all.tw16697784554102446331 : True := trivial
theorem all.tw16699377878706978764 : True := trivial
theorem all.tw16700318575013349798 : True := trivial
theorem all.tw16705860606270256717 : True := trivial
theorem all.tw16711731339798493391 : True := trivial
theorem all.tw16717855531504838629 : True := trivial
theorem all.tw16720883766928916882 : True := trivial
theorem all.tw16726255535346028473 : True := trivial
theorem all.tw16727532447511142511 : True := trivial
theorem all.tw16739083755425606968 : True := trivial
theorem all.tw16739844878667351699 : True := trivial
theorem all.tw16740921855470316824 : True := trivial
theorem all.tw16747629065405408630 : True := trivial
theorem all.tw167550967247993687 : True := trivial
theorem all.tw16773635481313006432 : True := trivial
theorem all.tw16788233547135642414 : True := trivial
theorem all.tw1681544595491871160 : True := trivial
theorem all.tw16824274532702176021 : True := trivial
theorem all.tw16838893715234930207 : True := trivial
theorem all.tw16852503254685287703 : True := trivial
theorem all.tw16876236935048986776 : True := trivial
theorem all.tw16877496141331604692 : True := trivial
theorem all.tw16879333579437714885 : True := trivial
theorem all.tw16881568756111236015 : True := trivial
theorem all.tw16881795479742851027 : True := trivial
theorem all.tw16906462354109170432 : True := trivial
theorem all.tw16942522186650535968 : True := trivial
theorem all.tw1694654335647164047 : True := trivial
theorem all.tw16949009020806574942 : True := trivial
theorem all.tw16952381417482041290 : True := trivial
theorem all.tw16985871876413990642 : True := trivial
theorem all.tw1700860621860790776 : True := trivial
theorem all.tw17026743227940831712 : True := trivial
theorem all.tw17028728051689489858 : True := trivial
theorem all.tw17053130121481772103 : True := trivial
theorem all.tw17064833945692052252 : True := trivial
theorem all.tw17084071853196174921 : True := trivial
theorem all.tw17103938086974590038 : True := trivial
theorem all.tw1714300518563551417 : True := trivial
theorem all.tw17163412240363345371 : True := trivial
theorem all.tw17167507592293304770 : True := trivial
theorem all.tw17169257567123136711 : True := trivial
theorem all.tw17172520439673271139 : True := trivial
theorem all.tw1717485560449817402 : True := trivial
theorem all.tw17175008277316708827 : True := trivial
theorem all.tw1717596508830728394 : True := trivial
theorem all.tw17180083853025156055 : True := trivial
theorem all.tw17259241986408110582 : True := trivial
theorem all.tw17260577670642009320 : True := trivial
theorem all.tw17263960189688334688 : True := trivial
theorem all.tw17280058572107053691 : True := trivial
theorem all.tw17283857933175943681 : True := trivial
theorem all.tw17288199927200445003 : True := trivial
theorem all.tw17292822351017121783 : True := trivial
theorem all.tw17314943208353570444 : True := trivial
theorem all.tw1734884918528286522 : True := trivial
theorem all.tw17360653242477243975 : True := trivial
theorem all.tw17368901067910498557 : True := trivial
theorem all.tw17371863055441782679 : True := trivial
theorem all.tw17372197928585517772 : True := trivial
theorem all.tw17391758952506026884 : True := trivial
theorem all.tw17392724365078165257 : True := trivial
theorem all.tw17401300421982611184 : True := trivial
theorem all.tw17403763406149298341 : True := trivial
theorem all.tw17408048037380319038 : True := trivial
theorem all.tw17408683414411579089 : True := trivial
theorem all.tw17408919567675379883 : True := trivial
theorem all.tw17411639873488161413 : True := trivial
theorem all.tw17420166764342438902 : True := trivial
theorem all.tw17424916104665291489 : True := trivial
theorem all.tw17428158056870116351 : True := trivial
theorem all.tw17433233626727729300 : True := trivial
theorem all.tw17447734377096445370 : True := trivial
theorem all.tw17467618146419070302 : True := trivial
theorem all.tw17468886310826310451 : True := trivial
theorem all.tw17478165661194886154 : True := trivial
theorem all.tw17479030205232669138 : True := trivial
theorem all.tw17485024515217194642 : True := trivial
theorem all.tw17492785332073455090 : True := trivial
theorem all.tw1750280776747563624 : True := trivial
theorem all.tw17517386067647421241 : True := trivial
theorem all.tw17523770736405063376 : True := trivial
theorem all.tw17524933272456762353 : True := trivial
theorem all.tw17524971357909122501 : True := trivial
theorem all.tw1752733083305661762 : True := trivial
theorem all.tw17558465517493045558 : True := trivial
theorem all.tw17578469286726954343 : True := trivial
theorem all.tw1758426702102747128 : True := trivial
theorem all.tw17590515576409907731 : True := trivial
theorem all.tw17591669423913269842 : True := trivial
theorem all.tw17606202708757068028 : True := trivial
theorem all.tw17606682298306965290 : True := trivial
theorem all.tw17641132596996861625 : True := trivial
theorem all.tw17649563190096193141 : True := trivial
theorem all.tw17657238230949819594 : True := trivial
theorem all.tw1765961833229748980 : True := trivial
theorem all.tw17673552818380985392 : True := trivial
theorem all.tw1768962640154500726 : True := trivial
theorem all.tw17692270503977150241 : True := trivial
theorem all.tw17709617914932530906 : True := trivial
theorem all.tw17711473739705145481 : True := trivial
theorem all.tw17713414189155118626 : True := trivial
theorem all.tw17726600067579560026 : True := trivial
theorem all.tw17740187900682377756 : True := trivial
theorem all.tw17740860788197283744 : True := trivial
theorem all.tw17755134530948824434 : True := trivial
theorem all.tw1777102106156913126 : True := trivial
theorem all.tw17772726858579744284 : True := trivial
theorem all.tw1778775279875527610 : True := trivial
theorem all.tw17791299350831592721 : True := trivial
theorem all.tw17798320949895760350 : True := trivial
theorem all.tw17799788444099011656 : True := trivial
theorem all.tw17800948086707717751 : True := trivial
theorem all.tw17818293817903590521 : True := trivial
theorem all.tw1784020717894109736 : True := trivial
theorem all.tw17840812128005083152 : True := trivial
theorem all.tw17843416223316956035 : True := trivial
theorem all.tw17843529362963011488 : True := trivial
theorem all.tw17846619120630023766 : True := trivial
theorem all.tw17899929404969355535 : True := trivial
theorem all.tw17910472212680788948 : True := trivial
theorem all.tw17912322816209965246 : True := trivial
theorem all.tw17914837950057056417 : True := trivial
theorem all.tw17918667237444391769 : True := trivial
theorem all.tw17923283206697362677 : True := trivial
theorem all.tw17930729421058410415 : True := trivial
theorem all.tw17933553581876595578 : True := trivial
theorem all.tw17948749664749772180 : True := trivial
theorem all.tw17976398677666908814 : True := trivial
theorem all.tw17983917188297756147 : True := trivial
theorem all.tw18003279642469066050 : True := trivial
theorem all.tw18023540506588048733 : True := trivial
theorem all.tw18037295023160315550 : True := trivial
theorem all.tw18049625680988847952 : True := trivial
theorem all.tw18058516629519361111 : True := trivial
theorem all.tw18074533905802821072 : True := trivial
theorem all.tw18092803371910978062 : True := trivial
theorem all.tw18094267598192979275 : True := trivial
theorem all.tw18103066129193396198 : True := trivial
theorem all.tw18107075240765231021 : True := trivial
theorem all.tw18115519886717534904 : True := trivial
theorem all.tw18118164260907729349 : True := trivial
theorem all.tw18119535125735810408 : True := trivial
theorem all.tw18120535436291149196 : True := trivial
theorem all.tw18124843273605240230 : True := trivial
theorem all.tw18131980304278092330 : True := trivial
theorem all.tw18148161463265267271 : True := trivial
theorem all.tw18153529787570879039 : True := trivial
theorem all.tw18155504808890310260 : True := trivial
theorem all.tw18168848097628341329 : True := trivial
theorem all.tw18170615201965007772 : True := trivial
theorem all.tw18193174523107378795 : True := trivial
theorem all.tw18197408797884230400 : True := trivial
theorem all.tw18198605343606002329 : True := trivial
theorem all.tw18199775284660576343 : True := trivial
theorem all.tw18208749422565770853 : True := trivial
theorem all.tw18216745520431054769 : True := trivial
theorem all.tw18233685688131673695 : True := trivial
theorem all.tw18250381542027698237 : True := trivial
theorem all.tw18279210003247351694 : True := trivial
theorem all.tw18281701368962910148 : True := trivial
theorem all.tw1832691508475867565 : True := trivial
theorem all.tw18343157571677020557 : True := trivial
theorem all.tw1834627630568429925 : True := trivial
theorem all.tw18348550829927934796 : True := trivial
theorem all.tw18361699271247415696 : True := trivial
theorem all.tw18369841484834026144 : True := trivial
theorem all.tw18372220700587324537 : True := trivial
theorem all.tw18387047907509688583 : True := trivial
theorem all.tw18387711765015558698 : True := trivial
theorem all.tw18398998908473676179 : True := trivial
theorem all.tw18429704661519256598 : True := trivial
theorem all.tw18433079168191953831 : True := trivial
theorem all.tw18441473437031201941 : True := trivial
theorem all.tw18444146783371708326 : True := trivial
theorem all.tw18444417128309219010 : True := trivial
theorem all.tw1848905817553068399 : True := trivial
theorem all.tw1855790973753452216 : True := trivial
theorem all.tw1855806531401748513 : True := trivial
theorem all.tw1859658367360657537 : True := trivial
theorem all.tw1885294564261713141 : True := trivial
theorem all.tw1904651353081489755 : True := trivial
theorem all.tw1918329577357227785 : True := trivial
theorem all.tw192000312749056594 : True := trivial
theorem all.tw1923041757053545603 : True := trivial
theorem all.tw1943788656257608380 : True := trivial
theorem all.tw1952271074336754825 : True := trivial
theorem all.tw1957997846565066766 : True := trivial
theorem all.tw1963270939698246839 : True := trivial
theorem all.tw197027132833923397 : True := trivial
theorem all.tw1973140245219671491 : True := trivial
theorem all.tw1974715459648111881 : True := trivial
theorem all.tw1985402699469526011 : True := trivial
theorem all.tw2000609977361463965 : True := trivial
theorem all.tw200952908838891698 : True := trivial
theorem all.tw2009799518882185817 : True := trivial
theorem all.tw201708328148552895 : True := trivial
theorem all.tw2020152571437148077 : True := trivial
theorem all.tw2026663507151813987 : True := trivial
theorem all.tw2052171217396625959 : True := trivial
theorem all.tw2054712967208431000 : True := trivial
theorem all.tw2058226730332341692 : True := trivial
theorem all.tw2083923931733385956 : True := trivial
theorem all.tw2086844380182549020 : True := trivial
theorem all.tw2114198189418970486 : True := trivial
theorem all.tw2115215112807899372 : True := trivial
theorem all.tw2121802047155735730 : True := trivial
theorem all.tw2141204134323547548 : True := trivial
theorem all.tw2149300380116297725 : True := trivial
theorem all.tw2186769121901082974 : True := trivial
theorem all.tw2223578653297380206 : True := trivial
theorem all.tw2224457308438474275 : True := trivial
theorem all.tw2226997731462787175 : True := trivial
theorem all.tw2235618017368140517 : True := trivial
theorem all.tw2283436932631721306 : True := trivial
theorem all.tw2305613221535706149 : True := trivial
theorem all.tw232827808551559825 : True := trivial
theorem all.tw2333626107976518443 : True := trivial
theorem all.tw2353817280779577952 : True := trivial
theorem all.tw2360071935728800315 : True := trivial
theorem all.tw2362829445674453831 : True := trivial
theorem all.tw2366535826993118143 : True := trivial
theorem all.tw2370143265657277845 : True := trivial
theorem all.tw2406872565856053176 : True := trivial
theorem all.tw2411416631991128293 : True := trivial
theorem all.tw2412950195513398651 : True := trivial
theorem all.tw2418778996340132948 : True := trivial
theorem all.tw2436194443294384739 : True := trivial
theorem all.tw2442836877315861853 : True := trivial
theorem all.tw2449096360291484616 : True := trivial
theorem all.tw2458096405262376587 : True := trivial
theorem all.tw2464366390396368947 : True := trivial
theorem all.tw2474558454958418481 : True := trivial
theorem all.tw2491811018594609396 : True := trivial
theorem all.tw2494268533263957097 : True := trivial
theorem all.tw2505929647970302546 : True := trivial
theorem all.tw2518135106027695976 : True := trivial
theorem all.tw2523625561867932836 : True := trivial
theorem all.tw2526586164005440621 : True := trivial
theorem all.tw2526888682696392367 : True := trivial
theorem all.tw2531900633515307401 : True := trivial
theorem all.tw2539230919004048083 : True := trivial
theorem all.tw2543849888741498996 : True := trivial
theorem all.tw2557191316624668217 : True := trivial
theorem all.tw2558550002003386918 : True := trivial
theorem all.tw257987315190162868 : True := trivial
theorem all.tw2613816272192447989 : True := trivial
theorem all.tw2627396739876165418 : True := trivial
theorem all.tw2638793534194840904 : True := trivial
theorem all.tw2640984773516398845 : True := trivial
theorem all.tw2657685014961185194 : True := trivial
theorem all.tw2684394654484992079 : True := trivial
theorem all.tw2690882624139800689 : True := trivial
theorem all.tw2691668035437834406 : True := trivial
theorem all.tw2711446468545577505 : True := trivial
theorem all.tw2713721821649016782 : True := trivial
theorem all.tw2750322548573693319 : True := trivial
theorem all.tw2759087556872429454 : True := trivial
theorem all.tw27916813371304225 : True := trivial
theorem all.tw2816474811461910954 : True := trivial
theorem all.tw281770217567036725 : True := trivial
theorem all.tw282076826160197541 : True := trivial
theorem all.tw2827311647523273057 : True := trivial
theorem all.tw2831576706811935235 : True := trivial
theorem all.tw2842816785644039571 : True := trivial
theorem all.tw2859494293696649499 : True := trivial
theorem all.tw2863937026978368667 : True := trivial
theorem all.tw2891402810631288588 : True := trivial
theorem all.tw2894014611722864658 : True := trivial
theorem all.tw2901220350088373138 : True := trivial
theorem all.tw2901642248887229185 : True := trivial
theorem all.tw2906728797450688670 : True := trivial
theorem all.tw2909857387346462944 : True := trivial
theorem all.tw2944620925249736492 : True := trivial
theorem all.tw295217780521329042 : True := trivial
theorem all.tw2952443577683475457 : True := trivial
theorem all.tw2995925781233325151 : True := trivial
theorem all.tw2997595627926355555 : True := trivial
theorem all.tw29985565223642888 : True := trivial
theorem all.tw3006146034401029692 : True := trivial
theorem all.tw3010447429517834518 : True := trivial
theorem all.tw3011970122397266958 : True := trivial
theorem all.tw3018527617310638102 : True := trivial
theorem all.tw3020832510069240704 : True := trivial
theorem all.tw3036239380736168411 : True := trivial
theorem all.tw3057840930930727572 : True := trivial
theorem all.tw306535358961565008 : True := trivial
theorem all.tw3082626142003458053 : True := trivial
theorem all.tw3083917486997786118 : True := trivial
theorem all.tw3105161912409373472 : True := trivial
theorem all.tw3108443244893856389 : True := trivial
theorem all.tw3110877811364370783 : True := trivial
theorem all.tw3118590830584386713 : True := trivial
theorem all.tw3138221659641756560 : True := trivial
theorem all.tw3138800457800853586 : True := trivial
theorem all.tw3140866203998610647 : True := trivial
theorem all.tw3142481877796873088 : True := trivial
theorem all.tw3153289441736887298 : True := trivial
theorem all.tw3165661143165402847 : True := trivial
theorem all.tw3185962312253278316 : True := trivial
theorem all.tw319109541562411609 : True := trivial
theorem all.tw3204017013573700639 : True := trivial
theorem all.tw3225869345168946285 : True := trivial
theorem all.tw3239841934065285509 : True := trivial
theorem all.tw3256219734146088607 : True := trivial
theorem all.tw327744769229950497 : True := trivial
theorem all.tw3279304201386503184 : True := trivial
theorem all.tw3282140407130366615 : True := trivial
theorem all.tw3294436559645772640 : True := trivial
theorem all.tw3318330705443729038 : True := trivial
theorem all.tw3318677167507295741 : True := trivial
theorem all.tw3339628229899013760 : True := trivial
theorem all.tw3347175955162335329 : True := trivial
theorem all.tw335442867052375821 : True := trivial
theorem all.tw3357559941945735724 : True := trivial
theorem all.tw3381420483741657801 : True := trivial
theorem all.tw3390864358609898268 : True := trivial
theorem all.tw3426563556032164376 : True := trivial
theorem all.tw3440317332850252569 : True := trivial
theorem all.tw3448833343719912132 : True := trivial
theorem all.tw3468823194966119755 : True := trivial
theorem all.tw3477183460249832127 : True := trivial
theorem all.tw3482175957882590323 : True := trivial
theorem all.tw3516009707026607567 : True := trivial
theorem all.tw3527972740633252992 : True := trivial
theorem all.tw3530542369196619228 : True := trivial
theorem all.tw3546974328623328452 : True := trivial
theorem all.tw3578222212851893600 : True := trivial
theorem all.tw3584721961771403219 : True := trivial
theorem all.tw3586251380002802234 : True := trivial
theorem all.tw3601427614577313751 : True := trivial
theorem all.tw3616883902118795587 : True := trivial
theorem all.tw3637778579215586302 : True := trivial
theorem all.tw3672661013650352966 : True := trivial
theorem all.tw3702781205502781313 : True := trivial
theorem all.tw3712124215339158249 : True := trivial
theorem all.tw3736462546491475853 : True := trivial
theorem all.tw3737605839529819480 : True := trivial
theorem all.tw3770319264626329405 : True := trivial
theorem all.tw3780143478300131934 : True := trivial
theorem all.tw3783704252341326843 : True := trivial
theorem all.tw3788544764152331944 : True := trivial
theorem all.tw3794219348057439523 : True := trivial
theorem all.tw3804168243799541492 : True := trivial
theorem all.tw382701480174477127 : True := trivial
theorem all.tw3832104259330054055 : True := trivial
theorem all.tw3835962111665225711 : True := trivial
theorem all.tw3836828690509887502 : True := trivial
theorem all.tw3855190133869164905 : True := trivial
theorem all.tw3870221951351925549 : True := trivial
theorem all.tw3872996523157381598 : True := trivial
theorem all.tw387497488769561094 : True := trivial
theorem all.tw3888449669307625334 : True := trivial
theorem all.tw3898467250045930460 : True := trivial
theorem all.tw3905375630023619888 : True := trivial
theorem all.tw3941535021885107689 : True := trivial
theorem all.tw3949192924188805160 : True := trivial
theorem all.tw3969632628889691061 : True := trivial
theorem all.tw397829171339713761 : True := trivial
theorem all.tw3991271201022372288 : True := trivial
theorem all.tw4005113011885737416 : True := trivial
theorem all.tw4014216774688872946 : True := trivial
theorem all.tw402322933830509349 : True := trivial
theorem all.tw4025807792261511995 : True := trivial
theorem all.tw4029072684974884797 : True := trivial
theorem all.tw4029833507951201628 : True := trivial
theorem all.tw4030748809424043240 : True := trivial
theorem all.tw4049413732980777947 : True := trivial
theorem all.tw4053214347318984991 : True := trivial
theorem all.tw4063915571514028714 : True := trivial
theorem all.tw4068328023764021264 : True := trivial
theorem all.tw407466490171300439 : True := trivial
theorem all.tw409914518651768084 : True := trivial
theorem all.tw4128963183011607505 : True := trivial
theorem all.tw4141915090227766502 : True := trivial
theorem all.tw4147003487939613593 : True := trivial
theorem all.tw4149599496358294919 : True := trivial
theorem all.tw4154878040674242839 : True := trivial
theorem all.tw4156143147478942181 : True := trivial
theorem all.tw415706843491771442 : True := trivial
theorem all.tw419182698790416674 : True := trivial
theorem all.tw4195489330254351329 : True := trivial
theorem all.tw4198835854440487071 : True := trivial
theorem all.tw420835430307293590 : True := trivial
theorem all.tw4222008063812222913 : True := trivial
theorem all.tw42283253343031561 : True := trivial
theorem all.tw4232916895473627763 : True := trivial
theorem all.tw4241227540667249002 : True := trivial
theorem all.tw4243920756617008359 : True := trivial
theorem all.tw4244794441018138637 : True := trivial
theorem all.tw4248094927598797484 : True := trivial
theorem all.tw4252973022230594116 : True := trivial
theorem all.tw4255026256892916149 : True := trivial
theorem all.tw4258606087713283508 : True := trivial
theorem all.tw4285537696453044991 : True := trivial
theorem all.tw4287418630447735189 : True := trivial
theorem all.tw4302931102428780990 : True := trivial
theorem all.tw4310870829744351116 : True := trivial
theorem all.tw4313555247321036059 : True := trivial
theorem all.tw433751870149770472 : True := trivial
theorem all.tw4338314545742005754 : True := trivial
theorem all.tw4350801690150286559 : True := trivial
theorem all.tw4358274101231039915 : True := trivial
theorem all.tw4382491568596388571 : True := trivial
theorem all.tw4416955175097061657 : True := trivial
theorem all.tw4430775014708722610 : True := trivial
theorem all.tw4438364104728389296 : True := trivial
theorem all.tw4452577129215390026 : True := trivial
theorem all.tw4461841850652389789 : True := trivial
theorem all.tw446382703419658628 : True := trivial
theorem all.tw4463848349969469772 : True := trivial
theorem all.tw4464460378109042309 : True := trivial
theorem all.tw4474591742870872809 : True := trivial
theorem all.tw4487091781630774923 : True := trivial
theorem all.tw4498182102138418894 : True := trivial
theorem all.tw4515135292898193881 : True := trivial
theorem all.tw4520282457242773021 : True := trivial
theorem all.tw4529386630818931034 : True := trivial
theorem all.tw4530070529057472127 : True := trivial
theorem all.tw4544264296663088324 : True := trivial
theorem all.tw4547723090059260100 : True := trivial
theorem all.tw4561188658046838414 : True := trivial
theorem all.tw4576187945379360170 : True := trivial
theorem all.tw4613487602407358717 : True := trivial
theorem all.tw4613981591765525805 : True := trivial
theorem all.tw463080760540737391 : True := trivial
theorem all.tw4631590275013254457 : True := trivial
theorem all.tw4642380371098665385 : True := trivial
theorem all.tw4645612490112672357 : True := trivial
theorem all.tw4653603614087791176 : True := trivial
theorem all.tw4654466039823199758 : True := trivial
theorem all.tw467253823182712846 : True := trivial
theorem all.tw4677173193216270190 : True := trivial
theorem all.tw4693333692992608644 : True := trivial
theorem all.tw4722931859811370693 : True := trivial
theorem all.tw4724732144690109737 : True := trivial
theorem all.tw4726450323565452186 : True := trivial
theorem all.tw4738417930737491893 : True := trivial
theorem all.tw475742066537363858 : True := trivial
theorem all.tw4765306392115962693 : True := trivial
theorem all.tw4773625603535503361 : True := trivial
theorem all.tw4778958213084056585 : True := trivial
theorem all.tw4786962568827011835 : True := trivial
theorem all.tw4795962037751489161 : True := trivial
theorem all.tw4797826422191193900 : True := trivial
theorem all.tw4801688742562958406 : True := trivial
theorem all.tw4812803815023902966 : True := trivial
theorem all.tw4814944892674192296 : True := trivial
theorem all.tw4818641064637329869 : True := trivial
theorem all.tw4824961169156336389 : True := trivial
theorem all.tw4831860214510110302 : True := trivial
theorem all.tw483528489175222804 : True := trivial
theorem all.tw4835796080096327916 : True := trivial
theorem all.tw4847766330237268548 : True := trivial
theorem all.tw4874624691961367025 : True := trivial
theorem all.tw4874642235004048027 : True := trivial
theorem all.tw4881293885237924411 : True := trivial
theorem all.tw4899250830898163692 : True := trivial
theorem all.tw4902199620985908941 : True := trivial
theorem all.tw4903240488793042591 : True := trivial
theorem all.tw4907521953547317329 : True := trivial
theorem all.tw4917372365205947823 : True := trivial
theorem all.tw4925893734061458328 : True := trivial
theorem all.tw4927947371108770993 : True := trivial
theorem all.tw4942582282674782268 : True := trivial
theorem all.tw4950485280699123642 : True := trivial
theorem all.tw4965207536615798822 : True := trivial
theorem all.tw497388943360791162 : True := trivial
theorem all.tw4983024317834737482 : True := trivial
theorem all.tw5008225929384235901 : True := trivial
theorem all.tw5013942099191759227 : True := trivial
theorem all.tw5023287836491035217 : True := trivial
theorem all.tw5036882428077977431 : True := trivial
theorem all.tw5044639097624668846 : True := trivial
theorem all.tw5062288909349334804 : True := trivial
theorem all.tw5073806291031487572 : True := trivial
theorem all.tw5103381174273319438 : True := trivial
theorem all.tw5103420120806187630 : True := trivial
theorem all.tw5103548895888603802 : True := trivial
theorem all.tw5103573246348409787 : True := trivial
theorem all.tw5113878289174177000 : True := trivial
theorem all.tw5116121765629822255 : True := trivial
theorem all.tw513455115375776081 : True := trivial
theorem all.tw513762853881379114 : True := trivial
theorem all.tw5148049120761530293 : True := trivial
theorem all.tw5177793798137784044 : True := trivial
theorem all.tw5187159431361770467 : True := trivial
theorem all.tw5191467471856622273 : True := trivial
theorem all.tw5194151551746226677 : True := trivial
theorem all.tw5208475258020913449 : True := trivial
theorem all.tw5213130599944360801 : True := trivial
theorem all.tw5217560924200664910 : True := trivial
theorem all.tw5221675337516389627 : True := trivial
theorem all.tw52338428947088483 : True := trivial
theorem all.tw5247617807198155932 : True := trivial
theorem all.tw5248012151768918434 : True := trivial
theorem all.tw525001674005675781 : True := trivial
theorem all.tw5267918838273182613 : True := trivial
theorem all.tw5268029909466110686 : True := trivial
theorem all.tw5283560988149360007 : True := trivial
theorem all.tw5284503019443792952 : True := trivial
theorem all.tw5287828638854309621 : True := trivial
theorem all.tw5333713370413181893 : True := trivial
theorem all.tw5346748271633107637 : True := trivial
theorem all.tw5377772837010204750 : True := trivial
theorem all.tw5380672656985294756 : True := trivial
theorem all.tw5402931792415343577 : True := trivial
theorem all.tw5407722510169861431 : True := trivial
theorem all.tw5418180891519050015 : True := trivial
theorem all.tw542624366400354654 : True := trivial
theorem all.tw5428718790922064619 : True := trivial
theorem all.tw5429111118594065972 : True := trivial
theorem all.tw5440085390276978291 : True := trivial
theorem all.tw5476340991381562312 : True := trivial
theorem all.tw549974085012918235 : True := trivial
theorem all.tw5507558311979938262 : True := trivial
theorem all.tw5529771075815186334 : True := trivial
theorem all.tw5533567317490066488 : True := trivial
theorem all.tw5543487718492105064 : True := trivial
theorem all.tw5558808128744370633 : True := trivial
theorem all.tw558640945777995859 : True := trivial
theorem all.tw5597548946121373840 : True := trivial
theorem all.tw5601264028959731896 : True := trivial
theorem all.tw5607375399203786892 : True := trivial
theorem all.tw5615151462926910227 : True := trivial
theorem all.tw561872325786274548 : True := trivial
theorem all.tw5638860855140497039 : True := trivial
theorem all.tw5641124861440336686 : True := trivial
theorem all.tw5646013916729498261 : True := trivial
theorem all.tw5657447785659697480 : True := trivial
theorem all.tw5675193095830314289 : True := trivial
theorem all.tw5678269046944724838 : True := trivial
theorem all.tw5684276747011279316 : True := trivial
theorem all.tw5715779271170130959 : True := trivial
theorem all.tw5727973534668710794 : True := trivial
theorem all.tw5747321363474778693 : True := trivial
theorem all.tw5750698986362780913 : True := trivial
theorem all.tw5781126440621211168 : True := trivial
theorem all.tw5815207240830897808 : True := trivial
theorem all.tw583233376362171505 : True := trivial
theorem all.tw5854907428364158380 : True := trivial
theorem all.tw5861326272343080660 : True := trivial
theorem all.tw5870148494974776200 : True := trivial
theorem all.tw5876165426004733550 : True := trivial
theorem all.tw5877644593510373894 : True := trivial
theorem all.tw5884965284304258897 : True := trivial
theorem all.tw5888963250497168203 : True := trivial
theorem all.tw5926060136164799040 : True := trivial
theorem all.tw5927061715728957476 : True := trivial
theorem all.tw5931688323066260514 : True := trivial
theorem all.tw5932944684951656990 : True := trivial
theorem all.tw5936211784296988740 : True := trivial
theorem all.tw594401718218399461 : True := trivial
theorem all.tw5962104202929688655 : True := trivial
theorem all.tw596421839371371174 : True := trivial
theorem all.tw6028428966107381609 : True := trivial
theorem all.tw6036826894344065735 : True := trivial
theorem all.tw6041367110252723933 : True := trivial
theorem all.tw6133568639473126526 : True := trivial
theorem all.tw6139286003585018396 : True := trivial
theorem all.tw6147308635103535561 : True := trivial
theorem all.tw615038339700146481 : True := trivial
theorem all.tw6167556264857546630 : True := trivial
theorem all.tw6169047396881144633 : True := trivial
theorem all.tw6176105912117767087 : True := trivial
theorem all.tw6185994230096577076 : True := trivial
theorem all.tw6189357195160471388 : True := trivial
theorem all.tw6223034424235540279 : True := trivial
theorem all.tw6224699858180270930 : True := trivial
theorem all.tw6235303078163736491 : True := trivial
theorem all.tw62474882234398736 : True := trivial
theorem all.tw6268430531146977585 : True := trivial
theorem all.tw6271033356711949733 : True := trivial
theorem all.tw6280037341489808890 : True := trivial
theorem all.tw6280451789465376435 : True := trivial
theorem all.tw631568542505698739 : True := trivial
theorem all.tw6330711680150109913 : True := trivial
theorem all.tw6334288215355670076 : True := trivial
theorem all.tw6359419893654568340 : True := trivial
theorem all.tw636524550079685631 : True := trivial
theorem all.tw6388305932248162509 : True := trivial
theorem all.tw6405578165278201989 : True := trivial
theorem all.tw6410676368516470225 : True := trivial
theorem all.tw6412020758698433707 : True := trivial
theorem all.tw6417878756288470186 : True := trivial
theorem all.tw6421116273214462829 : True := trivial
theorem all.tw644719481633286716 : True := trivial
theorem all.tw6473943252083257926 : True := trivial
theorem all.tw6495733333828780514 : True := trivial
theorem all.tw6516152940999811139 : True := trivial
theorem all.tw6516363680345034613 : True := trivial
theorem all.tw6575127235232548739 : True := trivial
theorem all.tw658038952242159251 : True := trivial
theorem all.tw6584317449860814669 : True := trivial
theorem all.tw6599307440368430976 : True := trivial
theorem all.tw6611227686217864527 : True := trivial
theorem all.tw6618574068037739696 : True := trivial
theorem all.tw6635096433462372448 : True := trivial
theorem all.tw6635522753158126860 : True := trivial
theorem all.tw6643951234224847407 : True := trivial
theorem all.tw6648324312943424196 : True := trivial
theorem all.tw6651456455751515877 : True := trivial
theorem all.tw6654054744546489139 : True := trivial
theorem all.tw6656463916972431421 : True := trivial
theorem all.tw6670141376272302690 : True := trivial
theorem all.tw6674347012523051200 : True := trivial
theorem all.tw6686757251022233349 : True := trivial
theorem all.tw6703952693831640728 : True := trivial
theorem all.tw671729724093534861 : True := trivial
theorem all.tw6717767316833874322 : True := trivial
theorem all.tw6721464258858852875 : True := trivial
theorem all.tw6728304746073894936 : True := trivial
theorem all.tw6743447941395752746 : True := trivial
theorem all.tw6754197919360015719 : True := trivial
theorem all.tw6755236098271961842 : True := trivial
theorem all.tw6759274640766504497 : True := trivial
theorem all.tw6794366774042380578 : True := trivial
theorem all.tw6836359950869179439 : True := trivial
theorem all.tw6853843781069519680 : True := trivial
theorem all.tw6860577389561355601 : True := trivial
theorem all.tw6873541528101158377 : True := trivial
theorem all.tw6875278079525130643 : True := trivial
theorem all.tw6880046149698959619 : True := trivial
theorem all.tw68815829978753266 : True := trivial
theorem all.tw688713869906780874 : True := trivial
theorem all.tw6888782338466086140 : True := trivial
theorem all.tw6896591704953265671 : True := trivial
theorem all.tw6909081251271634067 : True := trivial
theorem all.tw693260322217938744 : True := trivial
theorem all.tw6946980451890315270 : True := trivial
theorem all.tw6961136553354124081 : True := trivial
theorem all.tw6962878503729545080 : True := trivial
theorem all.tw7000523462626781010 : True := trivial
theorem all.tw70167423851719575 : True := trivial
theorem all.tw7062720368445256129 : True := trivial
theorem all.tw7072849832022388479 : True := trivial
theorem all.tw7079148609981772650 : True := trivial
theorem all.tw7091565871241343341 : True := trivial
theorem all.tw7105052966444361425 : True := trivial
theorem all.tw7130465076275759521 : True := trivial
theorem all.tw7141213381515908064 : True := trivial
theorem all.tw7159026401054745538 : True := trivial
theorem all.tw7193976414177721783 : True := trivial
theorem all.tw7234240908195146063 : True := trivial
theorem all.tw7238125184777875665 : True := trivial
theorem all.tw7255959162708018199 : True := trivial
theorem all.tw7261985349897183171 : True := trivial
theorem all.tw7272270352196073673 : True := trivial
theorem all.tw7300874170688464751 : True := trivial
theorem all.tw7326513783282604209 : True := trivial
theorem all.tw7342672584559301413 : True := trivial
theorem all.tw7343317559552654767 : True := trivial
theorem all.tw7347299435816893626 : True := trivial
theorem all.tw7347661181068853997 : True := trivial
theorem all.tw7370329837282022288 : True := trivial
theorem all.tw7376275301918104207 : True := trivial
theorem all.tw7385006340035058783 : True := trivial
theorem all.tw7402084655733938866 : True := trivial
theorem all.tw741329169588805604 : True := trivial
theorem all.tw7413789549073271274 : True := trivial
theorem all.tw7437482726638779994 : True := trivial
theorem all.tw7458478332549306277 : True := trivial
theorem all.tw7473514446972121862 : True := trivial
theorem all.tw7486849499441959110 : True := trivial
theorem all.tw7491647123525626385 : True := trivial
theorem all.tw7492772011675989385 : True := trivial
theorem all.tw7499236255139096926 : True := trivial
theorem all.tw7500927594516628699 : True := trivial
theorem all.tw7514489123796633772 : True := trivial
theorem all.tw7522476503852463410 : True := trivial
theorem all.tw7524416347209692618 : True := trivial
theorem all.tw7526055705614311852 : True := trivial
theorem all.tw7546461858588002845 : True := trivial
theorem all.tw755134328155928439 : True := trivial
theorem all.tw7555861350897420170 : True := trivial
theorem all.tw7561004489692504516 : True := trivial
theorem all.tw7596217776887503600 : True := trivial
theorem all.tw760045182452098349 : True := trivial
theorem all.tw7619113539625694710 : True := trivial
theorem all.tw7654578318931278690 : True := trivial
theorem all.tw7656661182584010552 : True := trivial
theorem all.tw7657994479303150727 : True := trivial
theorem all.tw7660858615051961871 : True := trivial
theorem all.tw7668529536325385246 : True := trivial
theorem all.tw766856551031688912 : True := trivial
theorem all.tw76700771618905059 : True := trivial
theorem all.tw7686242042924871683 : True := trivial
theorem all.tw7694657020470664513 : True := trivial
theorem all.tw7719990051270854445 : True := trivial
theorem all.tw7723783022558009007 : True := trivial
theorem all.tw7736626948064631134 : True := trivial
theorem all.tw7741957440794404891 : True := trivial
theorem all.tw7778554549146669208 : True := trivial
theorem all.tw7778630667622746703 : True := trivial
theorem all.tw7779009951696393383 : True := trivial
theorem all.tw7785168158365692624 : True := trivial
theorem all.tw7787153897808988522 : True := trivial
theorem all.tw7792128712022750053 : True := trivial
theorem all.tw779998902302455647 : True := trivial
theorem all.tw7824222052329908659 : True := trivial
theorem all.tw7828671648446334487 : True := trivial
theorem all.tw7852760074147458260 : True := trivial
theorem all.tw785864177541677141 : True := trivial
theorem all.tw7867681300357518899 : True := trivial
theorem all.tw7868191893551648507 : True := trivial
theorem all.tw7888970235439995493 : True := trivial
theorem all.tw789461392097075953 : True := trivial
theorem all.tw7896837427191650641 : True := trivial
theorem all.tw7899379758991183832 : True := trivial
theorem all.tw7916160540357663616 : True := trivial
theorem all.tw7916663265354606609 : True := trivial
theorem all.tw7918374967389245632 : True := trivial
theorem all.tw7937612727305848463 : True := trivial
theorem all.tw7946034326556018432 : True := trivial
theorem all.tw795402444562892265 : True := trivial
theorem all.tw7957553974722075628 : True := trivial
theorem all.tw796258828137933559 : True := trivial
theorem all.tw8014060903208438924 : True := trivial
theorem all.tw8026366407565007962 : True := trivial
theorem all.tw8067326680382162048 : True := trivial
theorem all.tw80721349811472939 : True := trivial
theorem all.tw8076105961534405009 : True := trivial
theorem all.tw8096221689764760052 : True := trivial
theorem all.tw8111057081096800836 : True := trivial
theorem all.tw8116322508396217101 : True := trivial
theorem all.tw8121427672614705931 : True := trivial
theorem all.tw8140405126191526720 : True := trivial
theorem all.tw8145548876330823298 : True := trivial
theorem all.tw8146785798897364014 : True := trivial
theorem all.tw8166991320080258738 : True := trivial
theorem all.tw8176302503154254363 : True := trivial
theorem all.tw8183209053709734173 : True := trivial
theorem all.tw8198707619893577860 : True := trivial
theorem all.tw8202304140527541924 : True := trivial
theorem all.tw8203446524507428889 : True := trivial
theorem all.tw8219367837509555709 : True := trivial
theorem all.tw8223707996358447380 : True := trivial
theorem all.tw8225692313971065461 : True := trivial
theorem all.tw8228839009892406046 : True := trivial
theorem all.tw8263829197502064335 : True := trivial
theorem all.tw8287356318256789895 : True := trivial
theorem all.tw8312510263607220780 : True := trivial
theorem all.tw8316665608867782698 : True := trivial
theorem all.tw8319732477122346511 : True := trivial
theorem all.tw8320411503394148161 : True := trivial
theorem all.tw8322597137079436277 : True := trivial
theorem all.tw8340618772506755070 : True := trivial
theorem all.tw8353643495637310175 : True := trivial
theorem all.tw8356809472033282194 : True := trivial
theorem all.tw8358485737911388650 : True := trivial
theorem all.tw8373720323635723369 : True := trivial
theorem all.tw8382349685057963721 : True := trivial
theorem all.tw8397605616207071183 : True := trivial
theorem all.tw8398887430952950212 : True := trivial
theorem all.tw8401958774316805891 : True := trivial
theorem all.tw8402973804822124305 : True := trivial
theorem all.tw8413085581552102453 : True := trivial
theorem all.tw8413312007650308279 : True := trivial
theorem all.tw8433301184055030320 : True := trivial
theorem all.tw8474492796817999161 : True := trivial
theorem all.tw8478819981795894278 : True := trivial
theorem all.tw8486076525276431931 : True := trivial
theorem all.tw8486705261324164726 : True := trivial
theorem all.tw8543756510809834644 : True := trivial
theorem all.tw8572181188841215417 : True := trivial
theorem all.tw8593244855664925795 : True := trivial
theorem all.tw8596627143224734070 : True := trivial
theorem all.tw8600759836979252552 : True := trivial
theorem all.tw8616835277999145119 : True := trivial
theorem all.tw8621771247159374411 : True := trivial
theorem all.tw862836640531834773 : True := trivial
theorem all.tw8636027632861504110 : True := trivial
theorem all.tw8640155761716072762 : True := trivial
theorem all.tw8663210022894152802 : True := trivial
theorem all.tw8670540905479144303 : True := trivial
theorem all.tw8671276927357667371 : True := trivial
theorem all.tw8678582069086723682 : True := trivial
theorem all.tw8689057759390064058 : True := trivial
theorem all.tw8706731066875689191 : True := trivial
theorem all.tw8707711106708054076 : True := trivial
theorem all.tw8727828216523167909 : True := trivial
theorem all.tw8731671738465361804 : True := trivial
theorem all.tw8734355875116408662 : True := trivial
theorem all.tw8749193726656077916 : True := trivial
theorem all.tw8768613541277956271 : True := trivial
theorem all.tw8796297558769119648 : True := trivial
theorem all.tw8820459466428253018 : True := trivial
theorem all.tw8831138260881912039 : True := trivial
theorem all.tw8838840417862019655 : True := trivial
theorem all.tw8845110488550816924 : True := trivial
theorem all.tw8848042172178993908 : True := trivial
theorem all.tw885046472334632136 : True := trivial
theorem all.tw8852225452405957428 : True := trivial
theorem all.tw8857914048673524507 : True := trivial
theorem all.tw8865166961438382494 : True := trivial
theorem all.tw8886598076013071021 : True := trivial
theorem all.tw888978351763286717 : True := trivial
theorem all.tw8895101351432721356 : True := trivial
theorem all.tw8901488873923373992 : True := trivial
theorem all.tw890751993682150155 : True := trivial
theorem all.tw8908958038130373740 : True := trivial
theorem all.tw8909644736058714228 : True := trivial
theorem all.tw891494782097941804 : True := trivial
theorem all.tw891508364274854972 : True := trivial
theorem all.tw8933125650721087419 : True := trivial
theorem all.tw8943454058102721771 : True := trivial
theorem all.tw8948736912299370593 : True := trivial
theorem all.tw8968355716326206664 : True := trivial
theorem all.tw8972331888103462179 : True := trivial
theorem all.tw8977637027598856349 : True := trivial
theorem all.tw8986052304615259452 : True := trivial
theorem all.tw898707613593260451 : True := trivial
theorem all.tw8993589655969448955 : True := trivial
theorem all.tw8998385360064757414 : True := trivial
theorem all.tw9002165879097650419 : True := trivial
theorem all.tw9022205114861038860 : True := trivial
theorem all.tw9081986644780270648 : True := trivial
theorem all.tw9090173269774583996 : True := trivial
theorem all.tw9099960808112739735 : True := trivial
theorem all.tw9102814887402522414 : True := trivial
theorem all.tw9107108562952019494 : True := trivial
theorem all.tw9111709882147129655 : True := trivial
theorem all.tw9113076405880880722 : True := trivial
theorem all.tw9131408386013701786 : True := trivial
theorem all.tw9134047932697793026 : True := trivial
theorem all.tw9142619525353888168 : True := trivial
theorem all.tw9162937214259807713 : True := trivial
theorem all.tw9163178095015654352 : True := trivial
theorem all.tw9179554920180893090 : True := trivial
theorem all.tw9186790425516483314 : True := trivial
theorem all.tw9196661522157602471 : True := trivial
theorem all.tw9217909395155117419 : True := trivial
theorem all.tw9225990443727040251 : True := trivial
theorem all.tw9241353231930656577 : True := trivial
theorem all.tw9242439000709408475 : True := trivial
theorem all.tw9260499117602528867 : True := trivial
theorem all.tw9273556802335580839 : True := trivial
theorem all.tw927500100414286832 : True := trivial
theorem all.tw9285670843845949155 : True := trivial
theorem all.tw9287027879207543111 : True := trivial
theorem all.tw928717787569047865 : True := trivial
theorem all.tw9301309066579124778 : True := trivial
theorem all.tw9330773133516755548 : True := trivial
theorem all.tw9360110593718347322 : True := trivial
theorem all.tw9360291227372296245 : True := trivial
theorem all.tw9376024222397809125 : True := trivial
theorem all.tw9379264858417805688 : True := trivial
theorem all.tw9383702795254660040 : True := trivial
theorem all.tw9386671084012761886 : True := trivial
theorem all.tw9397017562490477109 : True := trivial
theorem all.tw9401997163390822312 : True := trivial
theorem all.tw9455471141526271117 : True := trivial
theorem all.tw945595864737313391 : True := trivial
theorem all.tw9486138936568494536 : True := trivial
theorem all.tw9496632788025766839 : True := trivial
theorem all.tw9502098810502906719 : True := trivial
theorem all.tw9507114948021806933 : True := trivial
theorem all.tw9516540425026583957 : True := trivial
theorem all.tw9517033888294760805 : True := trivial
theorem all.tw9526568234960664165 : True := trivial
theorem all.tw9537782516805191874 : True := trivial
theorem all.tw9542685296840862710 : True := trivial
theorem all.tw9543871751676338751 : True := trivial
theorem all.tw9545128254906318559 : True := trivial
theorem all.tw9545303712394655345 : True := trivial
theorem all.tw9563361447838699194 : True := trivial
theorem all.tw9570754706468278650 : True := trivial
theorem all.tw95916318383156666 : True := trivial
theorem all.tw9591794866357616075 : True := trivial
theorem all.tw9592678889267232940 : True := trivial
theorem all.tw9600454056292803967 : True := trivial
theorem all.tw9615120440626838696 : True := trivial
theorem all.tw9617293099064000090 : True := trivial
theorem all.tw9620742441945120835 : True := trivial
theorem all.tw9636423593739588523 : True := trivial
theorem all.tw9642480246203547912 : True := trivial
theorem all.tw9661694949217834141 : True := trivial
theorem all.tw9700313349084285026 : True := trivial
theorem all.tw9700507354520375304 : True := trivial
theorem all.tw9726641162049077416 : True := trivial
theorem all.tw9738026692674696852 : True := trivial
theorem all.tw9743695723290020096 : True := trivial
theorem all.tw974807569822047150 : True := trivial
theorem all.tw9764797518255496921 : True := trivial
theorem all.tw9766123165270683860 : True := trivial
theorem all.tw976622840303176441 : True := trivial
theorem all.tw9775774976420027649 : True := trivial
theorem all.tw9789948085646459117 : True := trivial
theorem all.tw9796569379432623599 : True := trivial
theorem all.tw9802464367037122921 : True := trivial
theorem all.tw9807931448117422837 : True := trivial
theorem all.tw9808181375382655554 : True := trivial
theorem all.tw9820661638578278637 : True := trivial
theorem all.tw9833964599435250050 : True := trivial
theorem all.tw9837934778547622032 : True := trivial
theorem all.tw9843424985483213050 : True := trivial
theorem all.tw9844501786611167853 : True := trivial
theorem all.tw9851504500788099362 : True := trivial
theorem all.tw9859615716622676948 : True := trivial
theorem all.tw9864162776701422008 : True := trivial
theorem all.tw9880104001414726515 : True := trivial
theorem all.tw9886876928213727346 : True := trivial
theorem all.tw9891022019484509933 : True := trivial
theorem all.tw9891409512450886947 : True := trivial
theorem all.tw989400654470891892 : True := trivial
theorem all.tw9898156375465875911 : True := trivial
theorem all.tw9900696922168193843 : True := trivial
theorem all.tw9959427767980005671 : True := trivial
theorem all.tw9972963999164394655 : True := trivial
theorem all.tw9976896545867408452 : True := trivial
theorem all.tw9984997112416240561 : True := trivial
theorem all.tw99954270282656266 : True := trivial
set_option Elab.async true
set_option maxHeartbeats 0 in
theorem all : PySem.Challenge.rw_ki0005_01.Holds := by
  w_on; o_law; o_head (kHook Mine.K0 Mine.K0as (fun _ => by kernel_rfl)); (case hw => w_witness2)
  case hc =>
    k_go0
    all_goals (try k_fold)
    refine law_gen (by passes_own) ?_
    intro Q9 E9 hQ9 hE8 hE9
    repeat' ((fail_if_success (with_reducible show wpAny _ _ (exec (Stmt.If _ _ _ _) _) _ _ _)); first | (k_unfold; (try dsimp only)) | ((with_reducible show wpAny _ _ (call _ _) _ _ _); first | k_invariant "r" (830, make_FF) | k_invariant "r" (882, make_FT) | k_invariant "r" (830, make_TF) | k_invariant "r" (882, make_TT) | k_invariant "r" (1065, h_value_ok) | k_invariant "r" (1070, h_room) | k_invariant "r" ((Sh.pf _), cpop_ok) | k_invariant "lw" op_len) | ((with_reducible show wpAny _ _ (getMethod _ _ _) _ _ _); k_invariant "lw" m_item) | ((with_reducible show wpAny _ _ (callWith _ (Value.ref (Sh.pf _)) _ _ _) _ _ _); refine callWith_K0 (by k_in) kp_pf ?_; k_whole) | (with_reducible refine iteT ?_) | walk1 | dsimp only | (leave1; try dsimp only) | dsimp only [InitBack])
    all_goals ((with_reducible rename Fr _ _ _ _ => F0); (with_reducible rename News _ _ _ _ => N0))
    refine' law_make F0 N0 (by rfl) (by rfl) (by rfl) (by rfl) (by k_mem) (by k_mem) ?_ ?_ ?_
    · exact Int.fmod_nonneg_of_pos _ (by decide)
    · clear F0 N0
      intro mo h9 tk9 ws9 t9 room z ag D9 nn9 hr9 hl9 F9 N9
      unfold mk3 at *
      repeat' ((fail_if_success (with_reducible show Made _ _ _ _ _ _ _ _ _ _ _)); first | (k_unfold; (try dsimp only)) | ((with_reducible show wpAny _ _ (call _ _) _ _ _); first | k_invariant "r" (830, make_FF) | k_invariant "r" (882, make_FT) | k_invariant "r" (830, make_TF) | k_invariant "r" (882, make_TT) | k_invariant "r" (1065, h_value_ok) | k_invariant "r" (1070, h_room) | k_invariant "r" ((Sh.pf _), cpop_ok) | k_invariant "lw" op_len) | ((with_reducible show wpAny _ _ (getMethod _ _ _) _ _ _); k_invariant "lw" m_item) | ((with_reducible show wpAny _ _ (callWith _ (Value.ref (Sh.pf _)) _ _ _) _ _ _); refine callWith_K0 (by k_in) kp_pf ?_; k_whole) | (with_reducible refine iteT ?_) | walk1 | dsimp only | (leave1; try dsimp only) | dsimp only [InitBack])
      all_goals (
        (with_reducible rename Cw _ _ _ _ _ _ => R9); (with_reducible rename Fr _ _ _ _ => F8); (with_reducible rename News _ _ _ _ => N8)
        refine ⟨rfl, _, _, _, _, rfl, by assumption, ?_, ?_, R9, F8, N8⟩)
      all_goals (
        (with_reducible rename (Sh.sized _ = _) => e8); (with_reducible rename (Sh.fifo _ = _) => e9)
        first | rw [e8] | rw [e9])
      all_goals (symm; first | assumption | exact Bool.eq_false_iff.mpr (by assumption))
    · clear F0 N0
      intro S nx h8 tk8 mo t8 hr8 R F8 N8
      unfold mk3 at F8
      replace N8 := kst_newsOf (l' := _ :: nx) N8 (List.forall_mem_cons.mpr ⟨R.inn _ (.head _), fun q hq => hq⟩)
      replace N8 := kst_newsOf (l' := (1089, tabObj #[]) :: _) N8 (List.forall_mem_cons.mpr ⟨.tail _ (R.inn _ (.tail _ (.head _))), fun q hq => hq⟩)
      (repeat' ((fail_if_success (with_reducible show wpAny _ _ (exec (Stmt.For _ _ _ _ _) _) _ _ _)); first | (k_unfold; (try dsimp only)) | ((with_reducible show wpAny _ _ (call _ _) _ _ _); first | k_invariant "r" (830, make_FF) | k_invariant "r" (882, make_FT) | k_invariant "r" (830, make_TF) | k_invariant "r" (882, make_TT) | k_invariant "r" (1065, h_value_ok) | k_invariant "r" (1070, h_room) | k_invariant "r" ((Sh.pf _), cpop_ok) | k_invariant "lw" op_len) | ((with_reducible show wpAny _ _ (getMethod _ _ _) _ _ _); k_invariant "lw" m_item) | ((with_reducible show wpAny _ _ (callWith _ (Value.ref (Sh.pf _)) _ _ _) _ _ _); refine callWith_K0 (by k_in) kp_pf ?_; k_whole) | (with_reducible refine iteT ?_) | walk1 | dsimp only | (leave1; try dsimp only)))
      ((with_reducible rename Fr _ _ _ _ => kF); k_dflt (refine for_inv kF (by rfl) (by rfl) ?_ (hE := by assumption)))
      (repeat' ((fail_if_success (with_reducible show wpAny _ _ (exec (Stmt.For _ _ _ _ _) _) _ _ _)); (fail_if_success (with_reducible show wpAny _ _ (exec (Stmt.While _ _ _ _) _) _ _ _)); (fail_if_success (with_reducible show wpAny _ _ (pyIter _) _ _ _)); (fail_if_success (with_reducible show SearchPost _ _ _ _ _ _ _ _ _ _ _)); (fail_if_success (with_reducible show AnyPost _ _ _ _ _ _ _ _ _)); (fail_if_success (with_reducible show LCt.CompRestT _ _ _ _ _ _ _ _ _ _ _ _ _ _ _ _ _ _ _ _)); (fail_if_success (with_reducible show LCg.CompEnd _ _ _ _ _ _ _ _ _ _ _ _ _ _)); (fail_if_success (with_reducible show LCg.CompRest _ _ _ _ _ _ _ _ _ _ _ _ _ _ _ _ _ _ _)); first | (k_unfold; (try dsimp only)) | ((with_reducible show wpAny _ _ (call _ _) _ _ _); first | k_invariant "r" (830, make_FF) | k_invariant "r" (882, make_FT) | k_invariant "r" (830, make_TF) | k_invariant "r" (882, make_TT) | k_invariant "r" (1065, h_value_ok) | k_invariant "r" (1070, h_room) | k_invariant "r" ((Sh.pf _), cpop_ok) | k_invariant "lw" op_len) | ((with_reducible show wpAny _ _ (getMethod _ _ _) _ _ _); k_invariant "lw" m_item) | ((with_reducible show wpAny _ _ (callWith _ (Value.ref (Sh.pf _)) _ _ _) _ _ _); refine callWith_K0 (by k_in) kp_pf ?_; k_whole) | (with_reducible refine iteT ?_) | walk1 | dsimp only | (leave1; try dsimp only)))
      (with_reducible rename Fr _ _ _ _ => F9); (with_reducible rename News _ _ _ _ => N9); (with_reducible rename IntsAre _ _ => hI9)
      refine' law_loop rfl F9 N9 hr8 R hI9 ⟨by rfl, by rfl, by rfl, by rfl, by rfl, by rfl, by rfl⟩ (by walk_at "my sub") (by intro p hp; unfold LawR at hp; revert p hp; walk_at "my sub") ?_ ?_
      · intro D l nD nl wsD wsl k tk b bq n nq vs vq dl c q t mo nx h tks I oI R T hD hDq V cI F1 N1
        unfold lawF at F1
        repeat' ((fail_if_success (with_reducible show wpAny _ _ (call (Value.ref 1087) _) _ _ _)); first | (k_unfold; (try dsimp only)) | ((with_reducible show wpAny _ _ (call _ _) _ _ _); first | k_invariant "r" (830, make_FF) | k_invariant "r" (882, make_FT) | k_invariant "r" (830, make_TF) | k_invariant "r" (882, make_TT) | k_invariant "r" (1065, h_value_ok) | k_invariant "r" (1070, h_room) | k_invariant "r" ((Sh.pf _), cpop_ok) | k_invariant "lw" op_len) | ((with_reducible show wpAny _ _ (getMethod _ _ _) _ _ _); k_invariant "lw" m_item) | ((with_reducible show wpAny _ _ (callWith _ (Value.ref (Sh.pf _)) _ _ _) _ _ _); refine callWith_K0 (by k_in) kp_pf ?_; k_whole) | (with_reducible refine iteT ?_) | walk1 | dsimp only | (leave1; try dsimp only) | dsimp only [InitBack])
        (with_reducible rename News _ _ _ _ => N9)
        (with_reducible rename Fr _ _ _ _ => F8)
        obtain ⟨td8, tk8, tv8, t8, mo8, F9⟩ := law_named F8 (by rfl) (by rfl) (by rfl) ⟨by rfl, by rfl, by rfl, by rfl, by rfl, by rfl, by rfl⟩
        clear F8
        unfold lawF at F9
        refine' h_due ?B ?F ?X ?T ?hk N9 ?hs ?hm ?hmq hD hDq ?I ?hd ?hdp ?hun ?_
        case B => k_asm
        case F => k_asm
        case X => k_asm
        case T => k_asm
        case hk => exact rfl
        case hs => exact fun p hp => .tail _ (.tail _ (.tail _ (.tail _ (.tail _ (.tail _ (List.mem_append_left _ hp))))))
        case I => (rw [S.szB]; exact V)
        case hm => k_mem
        case hmq => k_mem
        case hd => exact ⟨Int.fmod_nonneg_of_pos _ (by decide), Int.fmod_lt_of_pos _ (by decide)⟩
        case hdp => ktr_room
        case hun => ktr_units
        rw [S.szB]
        intro h1 tk1 r ra rp rq va vp vq' na np nq' n' d F2 N2 T2 hDa hDp hDq2
        repeat' ((fail_if_success (with_reducible show wpAny _ _ (call (Value.ref 1082) _) _ _ _)); first | (k_unfold; (try dsimp only)) | ((with_reducible show wpAny _ _ (call _ _) _ _ _); first | k_invariant "r" (830, make_FF) | k_invariant "r" (882, make_FT) | k_invariant "r" (830, make_TF) | k_invariant "r" (882, make_TT) | k_invariant "r" (1065, h_value_ok) | k_invariant "r" (1070, h_room) | k_invariant "r" ((Sh.pf _), cpop_ok) | k_invariant "lw" op_len) | ((with_reducible show wpAny _ _ (getMethod _ _ _) _ _ _); k_invariant "lw" m_item) | ((with_reducible show wpAny _ _ (callWith _ (Value.ref (Sh.pf _)) _ _ _) _ _ _); refine callWith_K0 (by k_in) kp_pf ?_; k_whole) | (with_reducible refine iteT ?_) | walk1 | dsimp only | (leave1; try dsimp only) | dsimp only [InitBack])
        have V2 := Inv.step (deed := k.fmod 10) (value := (k.fdiv 50).fmod 30) V (⟨Int.fmod_nonneg_of_pos (k.fdiv 10) (by decide), Int.fmod_lt_of_pos (k.fdiv 10) (by decide)⟩ : 0 ≤ (k.fdiv 10).fmod 5 ∧ (k.fdiv 10).fmod 5 < 5)
        have hAns := stepS_ans (sz := S.sz) (room := S.room) (ag := S.fifo) (c := c) (q := q) (deed := k.fmod 10) (key := (k.fdiv 10).fmod 5) (value := (k.fdiv 50).fmod 30)
        (with_reducible rename News _ _ _ _ => N9)
        refine' law_deed ((I, oI) :: (ra, listOf va.toArray na) :: (rp, listOf vp.toArray np) :: (rq, listOf vq'.toArray nq') :: (D, listOf wsD.toArray nD) :: (l, listOf wsl.toArray nl) :: (1089, tabObj #[]) :: (dl ++ d)) ?XB ?TB ?B ?F ?X ?T ?hk R N9 ?hnx ?hkp ?lite V ?hd ?hdp ?hun ?_
        case B => k_asm
        case F => k_asm
        case X => k_asm
        case XB => k_asm
        case T => k_asm
        case TB => k_asm
        case hk => exact rfl
        case hnx => exact fun p hp => .tail _ (.tail _ (.tail _ (.tail _ (List.mem_append_left _ (.tail _ (.tail _ (.tail _ (.tail _ (.tail _ (.tail _ (List.mem_append_right _ hp)))))))))))
        case hkp => 
          refine List.forall_mem_cons.mpr ⟨.tail _ (.tail _ (.tail _ (.tail _ (List.mem_append_left _ (.tail _ (.tail _ (.tail _ (.tail _ (.tail _ (.head _)))))))))), ?_⟩
          refine List.forall_mem_cons.mpr ⟨.tail _ (.head _), List.forall_mem_cons.mpr ⟨.tail _ (.tail _ (.head _)), List.forall_mem_cons.mpr ⟨.tail _ (.tail _ (.tail _ (.head _))), ?_⟩⟩⟩
          refine List.forall_mem_cons.mpr ⟨.tail _ (.tail _ (.tail _ (.tail _ (List.mem_append_left _ (.head _))))), List.forall_mem_cons.mpr ⟨.tail _ (.tail _ (.tail _ (.tail _ (List.mem_append_left _ (.tail _ (.head _)))))), List.forall_mem_cons.mpr ⟨.tail _ (.tail _ (.tail _ (.tail _ (List.mem_append_left _ (.tail _ (.tail _ (.head _))))))), ?_⟩⟩⟩
          refine List.forall_mem_append.mpr ⟨fun p hp => .tail _ (.tail _ (.tail _ (.tail _ (List.mem_append_left _ (.tail _ (.tail _ (.tail _ (.tail _ (.tail _ (.tail _ (List.mem_append_left _ hp))))))))))), fun p hp => .tail _ (.tail _ (.tail _ (.tail _ (List.mem_append_right _ hp))))⟩
        case lite => exact .type cI (by decide) (.type rfl (by decide) (.type rfl (by decide) (.type rfl (by decide) (.type rfl (by decide) (.type rfl (by decide) (.tab (.tups (T.append T2))))))))
        case hd => exact ⟨Int.fmod_nonneg_of_pos _ (by decide), Int.fmod_lt_of_pos _ (by decide)⟩
        case hdp => ktr_room
        case hun => ktr_units
        intro h2 tk2 r2 vs2 n2 dl2 nx2 R2 F3 N3 hD2 T3
        (try clear F1); (try clear N1); (try clear F2); (try clear N2); (try clear F9); (try clear N9); (try clear F8); (try clear N8)
        generalize stepS S.sz S.room S.fifo c q (k.fmod 10) ((k.fdiv 10).fmod 5) ((k.fdiv 50).fmod 30) = st at *
        obtain ⟨ans, c2, q2⟩ := st
        dsimp only at R2 hDa hDp hDq2 hD2 V2 hAns
        simp only [List.cons_append] at N3
        have T12 := T.append T2
        generalize dl ++ d = dL at *
        repeat' ((fail_if_success (with_reducible show wpAny _ _ (compareOp _ _ _) _ _ _)); first | (k_unfold; (try dsimp only)) | ((with_reducible show wpAny _ _ (call _ _) _ _ _); first | k_invariant "r" (830, make_FF) | k_invariant "r" (882, make_FT) | k_invariant "r" (830, make_TF) | k_invariant "r" (882, make_TT) | k_invariant "r" (1065, h_value_ok) | k_invariant "r" (1070, h_room) | k_invariant "r" ((Sh.pf _), cpop_ok) | k_invariant "lw" op_len) | ((with_reducible show wpAny _ _ (getMethod _ _ _) _ _ _); k_invariant "lw" m_item) | ((with_reducible show wpAny _ _ (callWith _ (Value.ref (Sh.pf _)) _ _ _) _ _ _); refine callWith_K0 (by k_in) kp_pf ?_; k_whole) | (with_reducible refine iteT ?_) | walk1 | dsimp only | (leave1; try dsimp only) | dsimp only [InitBack])
        (with_reducible rename News _ _ _ _ => N9)
        refine' ne_same N9 (.head _) hD2 (fun p hp => .tail _ (.tail _ (.tail _ (.tail _ (.tail _ (.tail _ (.tail _ (.tail _ (List.mem_append_right _ (List.mem_append_left _ hp)))))))))) (.tail _ (.tail _ (.head _))) hDa (fun p hp => .tail _ (.tail _ (.tail _ (.tail _ (.tail _ (.tail _ (.tail _ (.tail _ (List.mem_append_left _ hp))))))))) hAns (by ktr_units) ?_
        replace N9 := news_sub (n' := nx2) N9 (fun p hp => .tail _ (.tail _ (.tail _ (.tail _ (.tail _ (.tail _ (.tail _ (.tail _ (List.mem_append_right _ (List.mem_append_right _ hp))))))))))
        repeat' ((fail_if_success (with_reducible show wpAny _ _ (eval (Expr.ListComp _ _ _ _) _) _ _ _)); first | (k_unfold; (try dsimp only)) | ((with_reducible show wpAny _ _ (call _ _) _ _ _); first | k_invariant "r" (830, make_FF) | k_invariant "r" (882, make_FT) | k_invariant "r" (830, make_TF) | k_invariant "r" (882, make_TT) | k_invariant "r" (1065, h_value_ok) | k_invariant "r" (1070, h_room) | k_invariant "r" ((Sh.pf _), cpop_ok) | k_invariant "lw" op_len) | ((with_reducible show wpAny _ _ (getMethod _ _ _) _ _ _); k_invariant "lw" m_item) | ((with_reducible show wpAny _ _ (callWith _ (Value.ref (Sh.pf _)) _ _ _) _ _ _); refine callWith_K0 (by k_in) kp_pf ?_; k_whole) | (with_reducible refine iteT ?_) | walk1 | dsimp only | (leave1; try dsimp only) | dsimp only [InitBack])
        (with_reducible rename Fr _ _ _ _ => F9)
        refine' ListComp_K (knd := PySem.intKind _ _) F9 (by with_unfolding_all rfl) (by decide) (by rfl) (by decide) (by rfl) ?_
        (repeat' ((fail_if_success (with_reducible show wpAny _ _ (exec (Stmt.For _ _ _ _ _) _) _ _ _)); (fail_if_success (with_reducible show wpAny _ _ (exec (Stmt.While _ _ _ _) _) _ _ _)); (fail_if_success (with_reducible show wpAny _ _ (pyIter _) _ _ _)); (fail_if_success (with_reducible show SearchPost _ _ _ _ _ _ _ _ _ _ _)); (fail_if_success (with_reducible show AnyPost _ _ _ _ _ _ _ _ _)); (fail_if_success (with_reducible show LCt.CompRestT _ _ _ _ _ _ _ _ _ _ _ _ _ _ _ _ _ _ _ _)); (fail_if_success (with_reducible show LCg.CompEnd _ _ _ _ _ _ _ _ _ _ _ _ _ _)); (fail_if_success (with_reducible show LCg.CompRest _ _ _ _ _ _ _ _ _ _ _ _ _ _ _ _ _ _ _)); first | (k_unfold; (try dsimp only)) | ((with_reducible show wpAny _ _ (call _ _) _ _ _); first | k_invariant "r" (830, make_FF) | k_invariant "r" (882, make_FT) | k_invariant "r" (830, make_TF) | k_invariant "r" (882, make_TT) | k_invariant "r" (1065, h_value_ok) | k_invariant "r" (1070, h_room) | k_invariant "r" ((Sh.pf _), cpop_ok) | k_invariant "lw" op_len) | ((with_reducible show wpAny _ _ (getMethod _ _ _) _ _ _); k_invariant "lw" m_item) | ((with_reducible show wpAny _ _ (callWith _ (Value.ref (Sh.pf _)) _ _ _) _ _ _); refine callWith_K0 (by k_in) kp_pf ?_; k_whole) | (with_reducible refine iteT ?_) | walk1 | dsimp only | (leave1; try dsimp only)))
        (with_reducible rename Fr _ _ _ _ => F9); (with_reducible rename News _ _ _ _ => N9)
        refine' keys_it ?B F9 ?X ?T ?hk R2 N9 (fun p hp => hp) ?hdp ?hun V2.core.len ?_ ?_
        case B => k_asm
        case X => k_asm
        case T => k_asm
        case hk => exact rfl
        case hdp => ktr_room
        case hun => ktr_units
        · intro k1 t1 ys I1 oI1 C1 oC1 D1 m1 h3 tk3 s3 i1 St1 E1 hS1 hI1 hC1 hx1 F3 N3 off1 ne1 hI2
          (repeat' ((fail_if_success (with_reducible show LCg.CompEnd _ _ _ _ _ _ _ _ _ _ _ _ _ _)); first | (k_unfold; (try dsimp only)) | ((with_reducible show wpAny _ _ (call _ _) _ _ _); first | k_invariant "r" (830, make_FF) | k_invariant "r" (882, make_FT) | k_invariant "r" (830, make_TF) | k_invariant "r" (882, make_TT) | k_invariant "r" (1065, h_value_ok) | k_invariant "r" (1070, h_room) | k_invariant "r" ((Sh.pf _), cpop_ok) | k_invariant "lw" op_len) | ((with_reducible show wpAny _ _ (getMethod _ _ _) _ _ _); k_invariant "lw" m_item) | ((with_reducible show wpAny _ _ (callWith _ (Value.ref (Sh.pf _)) _ _ _) _ _ _); refine callWith_K0 (by k_in) kp_pf ?_; k_whole) | (with_reducible refine iteT ?_) | walk1 | dsimp only | (leave1; try dsimp only)))
          exact LCg.CompEnd.intro (by assumption) (by assumption) nx2 (fun p hp => hp) off1 hS1 ⟨rfl, hI2⟩
        intro h3 tk3 ys hI3 D1 h4 tk4 F4 N4 o4
        replace N4 := kst_newsOf (l' := (D1, LCg.lst ys) :: (rp, listOf vp.toArray np) :: nx2) N4 (List.forall_mem_cons.mpr ⟨.head _, List.forall_mem_cons.mpr ⟨.tail _ (R2.inn _ (.tail _ (.tail _ (.head _)))), fun p hp => .tail _ hp⟩⟩)
        have hdL : ∀ p ∈ dL, p ∈ nx2 := fun p hp => R2.inn _ (.tail _ (.tail _ (.tail _ (.tail _ (.tail _ (.tail _ (.tail _ hp)))))))
        repeat' ((fail_if_success (with_reducible show wpAny _ _ (eval (Expr.ListComp _ _ _ _) _) _ _ _)); first | (k_unfold; (try dsimp only)) | ((with_reducible show wpAny _ _ (call _ _) _ _ _); first | k_invariant "r" (830, make_FF) | k_invariant "r" (882, make_FT) | k_invariant "r" (830, make_TF) | k_invariant "r" (882, make_TT) | k_invariant "r" (1065, h_value_ok) | k_invariant "r" (1070, h_room) | k_invariant "r" ((Sh.pf _), cpop_ok) | k_invariant "lw" op_len) | ((with_reducible show wpAny _ _ (getMethod _ _ _) _ _ _); k_invariant "lw" m_item) | ((with_reducible show wpAny _ _ (callWith _ (Value.ref (Sh.pf _)) _ _ _) _ _ _); refine callWith_K0 (by k_in) kp_pf ?_; k_whole) | (with_reducible refine iteT ?_) | walk1 | dsimp only | (leave1; try dsimp only) | dsimp only [InitBack])
        refine LCg.ListComp_U (F₀ := by k_asm) (by with_unfolding_all rfl) (by decide) (by rfl) (by decide) (by rfl) ?_
        repeat' ((fail_if_success (with_reducible show LCg.CompSrc _ _ _ _ _ _ _ _ _ _ _ _ _ _)); first | (k_unfold; (try dsimp only)) | ((with_reducible show wpAny _ _ (call _ _) _ _ _); first | k_invariant "r" (830, make_FF) | k_invariant "r" (882, make_FT) | k_invariant "r" (830, make_TF) | k_invariant "r" (882, make_TT) | k_invariant "r" (1065, h_value_ok) | k_invariant "r" (1070, h_room) | k_invariant "r" ((Sh.pf _), cpop_ok) | k_invariant "lw" op_len) | ((with_reducible show wpAny _ _ (getMethod _ _ _) _ _ _); k_invariant "lw" m_item) | ((with_reducible show wpAny _ _ (callWith _ (Value.ref (Sh.pf _)) _ _ _) _ _ _); refine callWith_K0 (by k_in) kp_pf ?_; k_whole) | (with_reducible refine iteT ?_) | walk1 | dsimp only | (leave1; try dsimp only) | dsimp only [InitBack])
        refine LCg.CompSrc.ledger (by rfl) (by k_asm) (by k_asm) (by k_mem) (by rw [List.size_toArray, hDp.length, pD_len, sizeLine_eq]; have := V2.core.len; omega) ?_
        intro g9
        refine comp_U_same (fun i zs => IntsAre zs ((c2.take i).map (·.1))) ?_ ?_ .nil
        · intro i1 v1 zs I1 oI1 C1 oC1 D3 m1 h5 tk5 E1 hi1 hv1 hI1 hC1 hx1 F5 N5 off1 ne1
          obtain ⟨k1, x1, r1, ta, tb, n9, hci, rfl, hr1⟩ := pD_get hDp (show vp[i1]? = some v1 by simpa using hv1)
          have hr2 := hdL _ hr1
          replace N5 := kst_newsOf (l' := (r1, pairO k1 x1 ta tb n9) :: _) N5 (List.forall_mem_cons.mpr ⟨by walk_at "my subm", fun q hq => hq⟩)
          (repeat' ((fail_if_success (with_reducible show LCg.CompEnd _ _ _ _ _ _ _ _ _ _ _ _ _ _)); first | (k_unfold; (try dsimp only)) | ((with_reducible show wpAny _ _ (call _ _) _ _ _); first | k_invariant "r" (830, make_FF) | k_invariant "r" (882, make_FT) | k_invariant "r" (830, make_TF) | k_invariant "r" (882, make_TT) | k_invariant "r" (1065, h_value_ok) | k_invariant "r" (1070, h_room) | k_invariant "r" ((Sh.pf _), cpop_ok) | k_invariant "lw" op_len) | ((with_reducible show wpAny _ _ (getMethod _ _ _) _ _ _); k_invariant "lw" m_item) | ((with_reducible show wpAny _ _ (callWith _ (Value.ref (Sh.pf _)) _ _ _) _ _ _); refine callWith_K0 (by k_in) kp_pf ?_; k_whole) | (with_reducible refine iteT ?_) | walk1 | dsimp only | (leave1; try dsimp only)))
          exact LCg.CompEnd.intro (by assumption) (by assumption) _ (by walk_at "my sub") off1 (.inr ⟨_, by k_mem, rfl, _, rfl⟩) ⟨rfl, by rw [map_next hci]; exact ints_snoc hI1⟩
        intro zs hI4
        rw [List.take_of_length_le (by rw [List.size_toArray, hDp.length, pD_len]; exact Nat.le_refl _)] at hI4
        intro D3 h5 tk5 F5 N5 o5
        repeat' ((fail_if_success (with_reducible show wpAny _ _ (compareOp _ _ _) _ _ _)); first | (k_unfold; (try dsimp only)) | ((with_reducible show wpAny _ _ (call _ _) _ _ _); first | k_invariant "r" (830, make_FF) | k_invariant "r" (882, make_FT) | k_invariant "r" (830, make_TF) | k_invariant "r" (882, make_TT) | k_invariant "r" (1065, h_value_ok) | k_invariant "r" (1070, h_room) | k_invariant "r" ((Sh.pf _), cpop_ok) | k_invariant "lw" op_len) | ((with_reducible show wpAny _ _ (getMethod _ _ _) _ _ _); k_invariant "lw" m_item) | ((with_reducible show wpAny _ _ (callWith _ (Value.ref (Sh.pf _)) _ _ _) _ _ _); refine callWith_K0 (by k_in) kp_pf ?_; k_whole) | (with_reducible refine iteT ?_) | walk1 | dsimp only | (leave1; try dsimp only) | dsimp only [InitBack])
        (with_reducible rename News _ _ _ _ => N9)
        refine' ne_same N9 (.tail _ (.head _)) (ints_dat hI3) (List.forall_mem_nil _) (.head _) (ints_dat hI4) (List.forall_mem_nil _) qD_ans (by ktr_units) ?_
        repeat' ((fail_if_success (with_reducible show wpAny _ _ (call (Value.ref 770) _) _ _ _)); first | (k_unfold; (try dsimp only)) | ((with_reducible show wpAny _ _ (call _ _) _ _ _); first | k_invariant "r" (830, make_FF) | k_invariant "r" (882, make_FT) | k_invariant "r" (830, make_TF) | k_invariant "r" (882, make_TT) | k_invariant "r" (1065, h_value_ok) | k_invariant "r" (1070, h_room) | k_invariant "r" ((Sh.pf _), cpop_ok) | k_invariant "lw" op_len) | ((with_reducible show wpAny _ _ (getMethod _ _ _) _ _ _); k_invariant "lw" m_item) | ((with_reducible show wpAny _ _ (callWith _ (Value.ref (Sh.pf _)) _ _ _) _ _ _); refine callWith_K0 (by k_in) kp_pf ?_; k_whole) | (with_reducible refine iteT ?_) | walk1 | dsimp only | (leave1; try dsimp only) | dsimp only [InitBack])
        (with_reducible rename News _ _ _ _ => N9)
        (with_reducible rename Cw _ _ _ _ _ _ => R2)
        refine' blen ?B ?F ?X ?T ?hk R2 (news_sub N9 (fun p hp => .tail _ (.tail _ (.tail _ hp)))) V2.core.len ?hdp ?hun ?_
        case B => k_asm
        case F => k_asm
        case X => k_asm
        case T => k_asm
        case hk => exact rfl
        case hdp => first | ktr_room | (refine depth_mark ?_; ktr_room)
        case hun => ktr_units
        intro h6 tk6 t6 F6 N6
        refine ⟨len_back V2.core.len, ?_⟩
        replace N6 := kst_newsOf (l' := (rp, listOf vp.toArray np) :: nx2) N6 (List.forall_mem_cons.mpr ⟨(R2.inn _ (.tail _ (.tail _ (.head _)))), fun p hp => hp⟩)
        dsimp only
        repeat' ((fail_if_success (with_reducible show wpAny _ _ (call (Value.builtin "len") _) _ _ _)); first | (k_unfold; (try dsimp only)) | ((with_reducible show wpAny _ _ (call _ _) _ _ _); first | k_invariant "r" (830, make_FF) | k_invariant "r" (882, make_FT) | k_invariant "r" (830, make_TF) | k_invariant "r" (882, make_TT) | k_invariant "r" (1065, h_value_ok) | k_invariant "r" (1070, h_room) | k_invariant "r" ((Sh.pf _), cpop_ok) | k_invariant "lw" op_len) | ((with_reducible show wpAny _ _ (getMethod _ _ _) _ _ _); k_invariant "lw" m_item) | ((with_reducible show wpAny _ _ (callWith _ (Value.ref (Sh.pf _)) _ _ _) _ _ _); refine callWith_K0 (by k_in) kp_pf ?_; k_whole) | (with_reducible refine iteT ?_) | walk1 | dsimp only | (leave1; try dsimp only) | dsimp only [InitBack])
        (with_reducible rename News _ _ _ _ => N9)
        refine' kst_len N9 (.head _) (show vp.length = c2.length by rw [hDp.length, pD_len]) (len_back V2.core.len).2 ?_
        repeat' ((fail_if_success (with_reducible show wpAny _ _ (compareOp _ _ _) _ _ _)); first | (k_unfold; (try dsimp only)) | ((with_reducible show wpAny _ _ (call _ _) _ _ _); first | k_invariant "r" (830, make_FF) | k_invariant "r" (882, make_FT) | k_invariant "r" (830, make_TF) | k_invariant "r" (882, make_TT) | k_invariant "r" (1065, h_value_ok) | k_invariant "r" (1070, h_room) | k_invariant "r" ((Sh.pf _), cpop_ok) | k_invariant "lw" op_len) | ((with_reducible show wpAny _ _ (getMethod _ _ _) _ _ _); k_invariant "lw" m_item) | ((with_reducible show wpAny _ _ (callWith _ (Value.ref (Sh.pf _)) _ _ _) _ _ _); refine callWith_K0 (by k_in) kp_pf ?_; k_whole) | (with_reducible refine iteT ?_) | walk1 | dsimp only | (leave1; try dsimp only) | dsimp only [InitBack])
        refine ne_is rfl ?_
        have hc5 := V2.core.len
        repeat' ((fail_if_success (with_reducible show wpAny _ _ (getAttr _ _ _) _ _ _)); first | (k_unfold; (try dsimp only)) | ((with_reducible show wpAny _ _ (call _ _) _ _ _); first | k_invariant "r" (830, make_FF) | k_invariant "r" (882, make_FT) | k_invariant "r" (830, make_TF) | k_invariant "r" (882, make_TT) | k_invariant "r" (1065, h_value_ok) | k_invariant "r" (1070, h_room) | k_invariant "r" ((Sh.pf _), cpop_ok) | k_invariant "lw" op_len) | ((with_reducible show wpAny _ _ (getMethod _ _ _) _ _ _); k_invariant "lw" m_item) | ((with_reducible show wpAny _ _ (callWith _ (Value.ref (Sh.pf _)) _ _ _) _ _ _); refine callWith_K0 (by k_in) kp_pf ?_; k_whole) | (with_reducible refine iteT ?_) | walk1 | dsimp only | (leave1; try dsimp only) | dsimp only [InitBack])
        (with_reducible rename News _ _ _ _ => N9)
        (with_reducible rename Cw _ _ _ _ _ _ => R2)
        refine' bcur ?B ?F ?X ?T ?hk R2 (kst_newsOf N9 (fun p hp => List.Mem.tail _ hp)) ?hdp ?hun ?_
        case B => k_asm
        case F => k_asm
        case X => k_asm
        case T => k_asm
        case hk => exact rfl
        case hdp => first | ktr_room | (refine depth_mark ?_; ktr_room)
        case hun => ktr_units
        intro h7 tk7 t7 F7 N7
        replace N7 := kst_newsOf (l' := (rp, listOf vp.toArray np) :: nx2) N7 (List.forall_mem_cons.mpr ⟨(R2.inn _ (.tail _ (.tail _ (.head _)))), fun p hp => hp⟩)
        repeat' ((fail_if_success (with_reducible show wpAny _ _ (compareOp _ _ _) _ _ _)); first | (k_unfold; (try dsimp only)) | ((with_reducible show wpAny _ _ (call _ _) _ _ _); first | k_invariant "r" (830, make_FF) | k_invariant "r" (882, make_FT) | k_invariant "r" (830, make_TF) | k_invariant "r" (882, make_TT) | k_invariant "r" (1065, h_value_ok) | k_invariant "r" (1070, h_room) | k_invariant "r" ((Sh.pf _), cpop_ok) | k_invariant "lw" op_len) | ((with_reducible show wpAny _ _ (getMethod _ _ _) _ _ _); k_invariant "lw" m_item) | ((with_reducible show wpAny _ _ (callWith _ (Value.ref (Sh.pf _)) _ _ _) _ _ _); refine callWith_K0 (by k_in) kp_pf ?_; k_whole) | (with_reducible refine iteT ?_) | walk1 | dsimp only | (leave1; try dsimp only) | dsimp only [InitBack])
        refine ne_is (by rw [S.szB]) ?_
        repeat' ((fail_if_success (with_reducible show wpAny _ _ (getAttr _ _ _) _ _ _)); first | (k_unfold; (try dsimp only)) | ((with_reducible show wpAny _ _ (call _ _) _ _ _); first | k_invariant "r" (830, make_FF) | k_invariant "r" (882, make_FT) | k_invariant "r" (830, make_TF) | k_invariant "r" (882, make_TT) | k_invariant "r" (1065, h_value_ok) | k_invariant "r" (1070, h_room) | k_invariant "r" ((Sh.pf _), cpop_ok) | k_invariant "lw" op_len) | ((with_reducible show wpAny _ _ (getMethod _ _ _) _ _ _); k_invariant "lw" m_item) | ((with_reducible show wpAny _ _ (callWith _ (Value.ref (Sh.pf _)) _ _ _) _ _ _); refine callWith_K0 (by k_in) kp_pf ?_; k_whole) | (with_reducible refine iteT ?_) | walk1 | dsimp only | (leave1; try dsimp only) | dsimp only [InitBack])
        (with_reducible rename News _ _ _ _ => N9)
        (with_reducible rename Cw _ _ _ _ _ _ => R2)
        refine' bcur ?B ?F ?X ?T ?hk R2 (kst_newsOf N9 (fun p hp => List.Mem.tail _ hp)) ?hdp ?hun ?_
        case B => k_asm
        case F => k_asm
        case X => k_asm
        case T => k_asm
        case hk => exact rfl
        case hdp => first | ktr_room | (refine depth_mark ?_; ktr_room)
        case hun => ktr_units
        intro h8 tk8 t8 F8 N8
        repeat' ((fail_if_success (with_reducible show wpAny _ _ (compareOp _ _ _) _ _ _)); first | (k_unfold; (try dsimp only)) | ((with_reducible show wpAny _ _ (call _ _) _ _ _); first | k_invariant "r" (830, make_FF) | k_invariant "r" (882, make_FT) | k_invariant "r" (830, make_TF) | k_invariant "r" (882, make_TT) | k_invariant "r" (1065, h_value_ok) | k_invariant "r" (1070, h_room) | k_invariant "r" ((Sh.pf _), cpop_ok) | k_invariant "lw" op_len) | ((with_reducible show wpAny _ _ (getMethod _ _ _) _ _ _); k_invariant "lw" m_item) | ((with_reducible show wpAny _ _ (callWith _ (Value.ref (Sh.pf _)) _ _ _) _ _ _); refine callWith_K0 (by k_in) kp_pf ?_; k_whole) | (with_reducible refine iteT ?_) | walk1 | dsimp only | (leave1; try dsimp only) | dsimp only [InitBack])
        refine gt_no V2.fits ?_
        repeat' ((fail_if_success (with_reducible show wpAny _ _ (getAttr _ _ _) _ _ _)); first | (k_unfold; (try dsimp only)) | ((with_reducible show wpAny _ _ (call _ _) _ _ _); first | k_invariant "r" (830, make_FF) | k_invariant "r" (882, make_FT) | k_invariant "r" (830, make_TF) | k_invariant "r" (882, make_TT) | k_invariant "r" (1065, h_value_ok) | k_invariant "r" (1070, h_room) | k_invariant "r" ((Sh.pf _), cpop_ok) | k_invariant "lw" op_len) | ((with_reducible show wpAny _ _ (getMethod _ _ _) _ _ _); k_invariant "lw" m_item) | ((with_reducible show wpAny _ _ (callWith _ (Value.ref (Sh.pf _)) _ _ _) _ _ _); refine callWith_K0 (by k_in) kp_pf ?_; k_whole) | (with_reducible refine iteT ?_) | walk1 | dsimp only | (leave1; try dsimp only) | dsimp only [InitBack])
        (with_reducible rename News _ _ _ _ => N9)
        (with_reducible rename Cw _ _ _ _ _ _ => R2)
        refine' bmax ?B ?F ?X ?T ?hk R2 (kst_newsOf N9 (fun p hp => hp)) ?hdp ?hun ?_
        case B => k_asm
        case F => k_asm
        case X => k_asm
        case T => k_asm
        case hk => exact rfl
        case hdp => first | ktr_room | (refine depth_mark ?_; ktr_room)
        case hun => ktr_units
        intro h9 tk9 t9 F9 N9
        repeat' ((fail_if_success (with_reducible show wpAny _ _ (compareOp _ _ _) _ _ _)); first | (k_unfold; (try dsimp only)) | ((with_reducible show wpAny _ _ (call _ _) _ _ _); first | k_invariant "r" (830, make_FF) | k_invariant "r" (882, make_FT) | k_invariant "r" (830, make_TF) | k_invariant "r" (882, make_TT) | k_invariant "r" (1065, h_value_ok) | k_invariant "r" (1070, h_room) | k_invariant "r" ((Sh.pf _), cpop_ok) | k_invariant "lw" op_len) | ((with_reducible show wpAny _ _ (getMethod _ _ _) _ _ _); k_invariant "lw" m_item) | ((with_reducible show wpAny _ _ (callWith _ (Value.ref (Sh.pf _)) _ _ _) _ _ _); refine callWith_K0 (by k_in) kp_pf ?_; k_whole) | (with_reducible refine iteT ?_) | walk1 | dsimp only | (leave1; try dsimp only) | dsimp only [InitBack])
        refine ne_is rfl ?_
        repeat' ((fail_if_success (with_reducible show AnyPost _ _ _ _ _ _ _ _ _)); first | (k_unfold; (try dsimp only)) | ((with_reducible show wpAny _ _ (call _ _) _ _ _); first | k_invariant "r" (830, make_FF) | k_invariant "r" (882, make_FT) | k_invariant "r" (830, make_TF) | k_invariant "r" (882, make_TT) | k_invariant "r" (1065, h_value_ok) | k_invariant "r" (1070, h_room) | k_invariant "r" ((Sh.pf _), cpop_ok) | k_invariant "lw" op_len) | ((with_reducible show wpAny _ _ (getMethod _ _ _) _ _ _); k_invariant "lw" m_item) | ((with_reducible show wpAny _ _ (callWith _ (Value.ref (Sh.pf _)) _ _ _) _ _ _); refine callWith_K0 (by k_in) kp_pf ?_; k_whole) | (with_reducible refine iteT ?_) | walk1 | dsimp only | (leave1; try dsimp only) | dsimp only [InitBack])
        (with_reducible rename Fr _ _ _ _ => F9); (with_reducible rename News _ _ _ _ => N9)
        (with_reducible rename Cw _ _ _ _ _ _ => R2)
        exact turn_end F9 N9 R2 (fun p hp => hp) (R2.inn _ (.head _)) cI (List.forall_mem_cons.mpr ⟨R2.inn _ (.tail _ (.tail _ (.tail _ (.tail _ (.head _))))), List.forall_mem_cons.mpr ⟨R2.inn _ (.tail _ (.tail _ (.tail _ (.tail _ (.tail _ (.head _)))))), List.forall_mem_cons.mpr ⟨R2.inn _ (.tail _ (.tail _ (.tail _ (.tail _ (.tail _ (.tail _ (.head _))))))), List.forall_mem_cons.mpr ⟨R2.inn _ (.tail _ (.tail _ (.head _))), List.forall_mem_cons.mpr ⟨R2.inn _ (.tail _ (.tail _ (.tail _ (.head _)))), hdL⟩⟩⟩⟩⟩) ⟨by rfl, by rfl, by rfl, by rfl, by rfl, by rfl, by rfl⟩ T12 hDp hDq2 V2
      · intro D l nD nl wsD wsl b bq n nq vs vq dl c q t mo nx h tks R T hD hDq V F1 N1
        unfold lawF at F1
        have hc5 := V.core.len
        (try dsimp only)
        (repeat' ((fail_if_success (with_reducible show wpAny _ _ (exec (Stmt.For _ _ _ _ _) _) _ _ _)); first | (k_unfold; (try dsimp only)) | ((with_reducible show wpAny _ _ (call _ _) _ _ _); first | k_invariant "r" (830, make_FF) | k_invariant "r" (882, make_FT) | k_invariant "r" (830, make_TF) | k_invariant "r" (882, make_TT) | k_invariant "r" (1065, h_value_ok) | k_invariant "r" (1070, h_room) | k_invariant "r" ((Sh.pf _), cpop_ok) | k_invariant "lw" op_len) | ((with_reducible show wpAny _ _ (getMethod _ _ _) _ _ _); k_invariant "lw" m_item) | ((with_reducible show wpAny _ _ (callWith _ (Value.ref (Sh.pf _)) _ _ _) _ _ _); refine callWith_K0 (by k_in) kp_pf ?_; k_whole) | (with_reducible refine iteT ?_) | walk1 | dsimp only | (leave1; try dsimp only)))
        ((with_reducible rename Fr _ _ _ _ => kF); k_dflt (refine for_inv kF (by rfl) (by rfl) ?_ (hE := by assumption)))
        (repeat' ((fail_if_success (with_reducible show wpAny _ _ (exec (Stmt.For _ _ _ _ _) _) _ _ _)); (fail_if_success (with_reducible show wpAny _ _ (exec (Stmt.While _ _ _ _) _) _ _ _)); (fail_if_success (with_reducible show wpAny _ _ (pyIter _) _ _ _)); (fail_if_success (with_reducible show SearchPost _ _ _ _ _ _ _ _ _ _ _)); (fail_if_success (with_reducible show AnyPost _ _ _ _ _ _ _ _ _)); (fail_if_success (with_reducible show LCt.CompRestT _ _ _ _ _ _ _ _ _ _ _ _ _ _ _ _ _ _ _ _)); (fail_if_success (with_reducible show LCg.CompEnd _ _ _ _ _ _ _ _ _ _ _ _ _ _)); (fail_if_success (with_reducible show LCg.CompRest _ _ _ _ _ _ _ _ _ _ _ _ _ _ _ _ _ _ _)); first | (k_unfold; (try dsimp only)) | ((with_reducible show wpAny _ _ (call _ _) _ _ _); first | k_invariant "r" (830, make_FF) | k_invariant "r" (882, make_FT) | k_invariant "r" (830, make_TF) | k_invariant "r" (882, make_TT) | k_invariant "r" (1065, h_value_ok) | k_invariant "r" (1070, h_room) | k_invariant "r" ((Sh.pf _), cpop_ok) | k_invariant "lw" op_len) | ((with_reducible show wpAny _ _ (getMethod _ _ _) _ _ _); k_invariant "lw" m_item) | ((with_reducible show wpAny _ _ (callWith _ (Value.ref (Sh.pf _)) _ _ _) _ _ _); refine callWith_K0 (by k_in) kp_pf ?_; k_whole) | (with_reducible refine iteT ?_) | walk1 | dsimp only | (leave1; try dsimp only)))
        (with_reducible rename Fr _ _ _ _ => F9); (with_reducible rename News _ _ _ _ => N9); (with_reducible rename Cw _ _ _ _ _ _ => R)
        refine' law_loop2 (rest := LawR D l b bq nD nl n nq wsD wsl vs vq dl) rfl F9 N9 R V ⟨by rfl, by rfl, by rfl, by rfl, by rfl, by rfl, by rfl⟩ (fun p hp => .tail _ (.tail _ (.tail _ (.tail _ (.tail _ (List.mem_append_right _ hp)))))) (fun p hp => .tail _ (.tail _ (.tail _ (.tail _ (.tail _ (List.mem_append_right _ (R.inn _ hp))))))) (lite_LawR T) (offI_LawR T) (.tail _ (.tail _ (.tail _ (.tail _ (.head _))))) hDq ?_ ?_
        · intro k tk v q' c' t mo nx h tks I oI R V hl hv hv2 cI F1 N1
          unfold lawF at F1
          have G := V.core
          have hsm := V.same
          repeat' ((fail_if_success (with_reducible show wpAny _ _ (call (Value.ref 1065) _) _ _ _)); first | (k_unfold; (try dsimp only)) | ((with_reducible show wpAny _ _ (call _ _) _ _ _); first | k_invariant "r" (830, make_FF) | k_invariant "r" (882, make_FT) | k_invariant "r" (830, make_TF) | k_invariant "r" (882, make_TT) | k_invariant "r" (1065, h_value_ok) | k_invariant "r" (1070, h_room) | k_invariant "r" ((Sh.pf _), cpop_ok) | k_invariant "lw" op_len) | ((with_reducible show wpAny _ _ (getMethod _ _ _) _ _ _); k_invariant "lw" m_item) | ((with_reducible show wpAny _ _ (callWith _ (Value.ref (Sh.pf _)) _ _ _) _ _ _); refine callWith_K0 (by k_in) kp_pf ?_; k_whole) | (with_reducible refine iteT ?_) | walk1 | dsimp only | (leave1; try dsimp only) | dsimp only [InitBack])
          (with_reducible rename Fr _ _ _ _ => F9); (with_reducible rename News _ _ _ _ => N9); (with_reducible rename Cw _ _ _ _ _ _ => R2)
          have hdl : ∀ p ∈ dl, p ∈ _ := fun p hp => R2.inn p (.tail _ (.tail _ (.tail _ (.tail _ (.tail _ (.tail _ hp))))))
          replace N9 := kst_newsOf (l' := (b, listOf vs.toArray n) :: _) N9 (List.forall_mem_cons.mpr ⟨.tail _ (R2.inn _ (.tail _ (.tail _ (.tail _ (.tail _ (.head _)))))), fun p hp => hp⟩)
          refine' h_value_ok ?B F9 ?X ?T ?hk N9 (fun p hp => .tail _ (.tail _ (hdl p hp))) (.head _) hD hc5 hv2 ?hdp ?hun ?_
          case B => k_asm
          case X => k_asm
          case T => k_asm
          case hk => exact rfl
          case hdp => ktr_room
          case hun => ktr_units
          intro h2 tk2 r2 n2 t2 F2 N2
          repeat' ((fail_if_success (with_reducible show wpAny _ _ (compareOp _ _ _) _ _ _)); first | (k_unfold; (try dsimp only)) | ((with_reducible show wpAny _ _ (call _ _) _ _ _); first | k_invariant "r" (830, make_FF) | k_invariant "r" (882, make_FT) | k_invariant "r" (830, make_TF) | k_invariant "r" (882, make_TT) | k_invariant "r" (1065, h_value_ok) | k_invariant "r" (1070, h_room) | k_invariant "r" ((Sh.pf _), cpop_ok) | k_invariant "lw" op_len) | ((with_reducible show wpAny _ _ (getMethod _ _ _) _ _ _); k_invariant "lw" m_item) | ((with_reducible show wpAny _ _ (callWith _ (Value.ref (Sh.pf _)) _ _ _) _ _ _); refine callWith_K0 (by k_in) kp_pf ?_; k_whole) | (with_reducible refine iteT ?_) | walk1 | dsimp only | (leave1; try dsimp only) | dsimp only [InitBack])
          (with_reducible rename Fr _ _ _ _ => F9); (with_reducible rename News _ _ _ _ => N9); (with_reducible rename Cw _ _ _ _ _ _ => R3)
          refine' ne_sameT N9 (.tuple (.tail _ (.tail _ (.tail _ (.head _)))) (.cons (.int k _) (.cons (.int v _) .nil))) (fun p hp => hp) (.tuple (.head _) (.cons (.int k _) (.cons (.int v _) .nil))) (fun p hp => hp) (.pair k v) (by ktr_units) ?_
          repeat' ((fail_if_success (with_reducible show AnyPost _ _ _ _ _ _ _ _ _)); first | (k_unfold; (try dsimp only)) | ((with_reducible show wpAny _ _ (call _ _) _ _ _); first | k_invariant "r" (830, make_FF) | k_invariant "r" (882, make_FT) | k_invariant "r" (830, make_TF) | k_invariant "r" (882, make_TT) | k_invariant "r" (1065, h_value_ok) | k_invariant "r" (1070, h_room) | k_invariant "r" ((Sh.pf _), cpop_ok) | k_invariant "lw" op_len) | ((with_reducible show wpAny _ _ (getMethod _ _ _) _ _ _); k_invariant "lw" m_item) | ((with_reducible show wpAny _ _ (callWith _ (Value.ref (Sh.pf _)) _ _ _) _ _ _); refine callWith_K0 (by k_in) kp_pf ?_; k_whole) | (with_reducible refine iteT ?_) | walk1 | dsimp only | (leave1; try dsimp only) | dsimp only [InitBack])
          (with_reducible rename Fr _ _ _ _ => F9); (with_reducible rename News _ _ _ _ => N9); (with_reducible rename Cw _ _ _ _ _ _ => R3)
          exact turn_end2 F9 N9 R3 (by walk_at "my sub") (.tail _ (.tail _ (.tail _ (.tail _ (R3.inn _ (.head _)))))) cI (fun p hp => .tail _ (.tail _ (.tail _ (.tail _ (R3.inn _ (.tail _ hp)))))) (lite_LawR T) (offI_LawR T) V hl ⟨by rfl, by rfl, by rfl, by rfl, by rfl, by rfl, by rfl⟩
        · intro t mo nx h tks R F1 N1
          unfold lawF at F1
          obtain ⟨nx8, R8, N8, hoff8⟩ := law_tab R N1 (R.inn _ (.tail _ (.tail _ (.head _))))
          clear R N1
          (try dsimp only)
          repeat' ((fail_if_success (with_reducible show wpAny _ _ (exec (Stmt.For _ _ _ _ _) _) _ _ _)); first | (k_unfold; (try dsimp only)) | ((with_reducible show wpAny _ _ (call _ _) _ _ _); first | k_invariant "r" (830, make_FF) | k_invariant "r" (882, make_FT) | k_invariant "r" (830, make_TF) | k_invariant "r" (882, make_TT) | k_invariant "r" (1065, h_value_ok) | k_invariant "r" (1070, h_room) | k_invariant "r" ((Sh.pf _), cpop_ok) | k_invariant "lw" op_len) | ((with_reducible show wpAny _ _ (getMethod _ _ _) _ _ _); k_invariant "lw" m_item) | ((with_reducible show wpAny _ _ (callWith _ (Value.ref (Sh.pf _)) _ _ _) _ _ _); refine callWith_K0 (by k_in) kp_pf ?_; k_whole) | (with_reducible refine iteT ?_) | walk1 | dsimp only | (leave1; try dsimp only) | dsimp only [InitBack])
          ((with_reducible rename Fr _ _ _ _ => kF); k_dflt (refine for_inv kF (by rfl) (by rfl) ?_ (hE := by assumption)))
          repeat' ((fail_if_success (with_reducible show wpAny _ _ (pyIter _) _ _ _)); first | (k_unfold; (try dsimp only)) | ((with_reducible show wpAny _ _ (call _ _) _ _ _); first | k_invariant "r" (830, make_FF) | k_invariant "r" (882, make_FT) | k_invariant "r" (830, make_TF) | k_invariant "r" (882, make_TT) | k_invariant "r" (1065, h_value_ok) | k_invariant "r" (1070, h_room) | k_invariant "r" ((Sh.pf _), cpop_ok) | k_invariant "lw" op_len) | ((with_reducible show wpAny _ _ (getMethod _ _ _) _ _ _); k_invariant "lw" m_item) | ((with_reducible show wpAny _ _ (callWith _ (Value.ref (Sh.pf _)) _ _ _) _ _ _); refine callWith_K0 (by k_in) kp_pf ?_; k_whole) | (with_reducible refine iteT ?_) | walk1 | dsimp only | (leave1; try dsimp only) | dsimp only [InitBack])
          (with_reducible rename Fr _ _ _ _ => F9); (with_reducible rename News _ _ _ _ => N9)
          refine' law_loop3 rfl F9 N9 (by k_mem) (by rfl) (by rfl) ?_ ?_
          · subst hE8
            intro f i t mo h tk I oI hf off F1 N1
            unfold lawT at F1
            clear F9 N9
            rcases hf with rfl | rfl | rfl | rfl
            all_goals (
              repeat' ((fail_if_success (with_reducible show AnyPost _ _ _ _ _ _ _ _ _)); first | (k_unfold; (try dsimp only)) | ((with_reducible show wpAny _ _ (call _ _) _ _ _); first | k_invariant "r" (830, make_FF) | k_invariant "r" (882, make_FT) | k_invariant "r" (830, make_TF) | k_invariant "r" (882, make_TT) | k_invariant "r" (1065, h_value_ok) | k_invariant "r" (1070, h_room) | k_invariant "r" ((Sh.pf _), cpop_ok) | k_invariant "lw" op_len) | ((with_reducible show wpAny _ _ (getMethod _ _ _) _ _ _); k_invariant "lw" m_item) | ((with_reducible show wpAny _ _ (callWith _ (Value.ref (Sh.pf _)) _ _ _) _ _ _); refine callWith_K0 (by k_in) kp_pf ?_; k_whole) | (with_reducible refine iteT ?_) | walk1 | dsimp only | (leave1; try dsimp only) | dsimp only [InitBack])
              (with_reducible rename Fr _ _ _ _ => F9); (with_reducible rename News _ _ _ _ => N9)
              exact turn_end3 F9 N9 off (by walk_at "my sub") (by rfl) (by rfl))
          · intro t mo h tk F1 N1
            unfold lawT at F1
            clear F9 N9
            repeat' ((fail_if_success (with_reducible show wpAny _ _ (call (Value.ref 1082) _) _ _ _)); first | (k_unfold; (try dsimp only)) | ((with_reducible show wpAny _ _ (call _ _) _ _ _); first | k_invariant "r" (830, make_FF) | k_invariant "r" (882, make_FT) | k_invariant "r" (830, make_TF) | k_invariant "r" (882, make_TT) | k_invariant "r" (1065, h_value_ok) | k_invariant "r" (1070, h_room) | k_invariant "r" ((Sh.pf _), cpop_ok) | k_invariant "lw" op_len) | ((with_reducible show wpAny _ _ (getMethod _ _ _) _ _ _); k_invariant "lw" m_item) | ((with_reducible show wpAny _ _ (callWith _ (Value.ref (Sh.pf _)) _ _ _) _ _ _); refine callWith_K0 (by k_in) kp_pf ?_; k_whole) | (with_reducible refine iteT ?_) | walk1 | dsimp only | (leave1; try dsimp only) | dsimp only [InitBack])
            (with_reducible rename Fr _ _ _ _ => F9); (with_reducible rename News _ _ _ _ => N9); (with_reducible rename Cw _ _ _ _ _ _ => R8)
            refine' law_deed [(1089, tabObj _)] ?XB ?TB ?B ?F ?X ?kT ?hk R8 N9 ?hnx (List.forall_mem_cons.mpr ⟨?htab, List.forall_mem_nil _⟩) (.tab .nil) (Inv.nil hr8) ⟨by decide, by decide⟩ ?hdp ?hun ?_
            case B => k_asm
            case F => k_asm
            case X => k_asm
            case XB => k_asm
            case kT => k_asm
            case TB => k_asm
            case hk => exact rfl
            case htab => k_mem
            case hnx => exact fun p hp => by walk_at "my subm"
            case hdp => ktr_room
            case hun => ktr_units
            intro h2 tk2 r2 vs2 n2 dl2 nx2 R2 F3 N3 hD2 T3
            replace hD2 : DatAll dl2 vs2 missD := hD2
            replace R2 : Cw _ S _ [] [] nx2 := R2
            simp only [List.cons_append, List.nil_append] at N3
            repeat' ((fail_if_success (with_reducible show wpAny _ _ (compareOp _ _ _) _ _ _)); first | (k_unfold; (try dsimp only)) | ((with_reducible show wpAny _ _ (call _ _) _ _ _); first | k_invariant "r" (830, make_FF) | k_invariant "r" (882, make_FT) | k_invariant "r" (830, make_TF) | k_invariant "r" (882, make_TT) | k_invariant "r" (1065, h_value_ok) | k_invariant "r" (1070, h_room) | k_invariant "r" ((Sh.pf _), cpop_ok) | k_invariant "lw" op_len) | ((with_reducible show wpAny _ _ (getMethod _ _ _) _ _ _); k_invariant "lw" m_item) | ((with_reducible show wpAny _ _ (callWith _ (Value.ref (Sh.pf _)) _ _ _) _ _ _); refine callWith_K0 (by k_in) kp_pf ?_; k_whole) | (with_reducible refine iteT ?_) | walk1 | dsimp only | (leave1; try dsimp only) | dsimp only [InitBack])
            (with_reducible rename News _ _ _ _ => N9)
            refine' eq_same N9 (.tail _ (.head _)) hD2 (fun p hp => .tail _ (.tail _ (.tail _ (List.mem_append_left _ hp)))) (.head _) (ds := missD) (.cons (.str _ _) .nil) (List.forall_mem_nil _) (fun d hd => by rw [List.mem_singleton.mp hd]; exact .str _ (by decide +kernel)) (by ktr_units) ?_
            repeat' ((fail_if_success (with_reducible show wpAny _ _ (getAttr _ _ _) _ _ _)); first | (k_unfold; (try dsimp only)) | ((with_reducible show wpAny _ _ (call _ _) _ _ _); first | k_invariant "r" (830, make_FF) | k_invariant "r" (882, make_FT) | k_invariant "r" (830, make_TF) | k_invariant "r" (882, make_TT) | k_invariant "r" (1065, h_value_ok) | k_invariant "r" (1070, h_room) | k_invariant "r" ((Sh.pf _), cpop_ok) | k_invariant "lw" op_len) | ((with_reducible show wpAny _ _ (getMethod _ _ _) _ _ _); k_invariant "lw" m_item) | ((with_reducible show wpAny _ _ (callWith _ (Value.ref (Sh.pf _)) _ _ _) _ _ _); refine callWith_K0 (by k_in) kp_pf ?_; k_whole) | (with_reducible refine iteT ?_) | walk1 | dsimp only | (leave1; try dsimp only) | dsimp only [InitBack])
            (with_reducible rename News _ _ _ _ => N9)
            (with_reducible rename Cw _ _ _ _ _ _ => R2)
            refine' bcur ?kB ?kF ?kX ?kT ?hk R2 (news_sub N9 fun p hp => .tail _ (.tail _ (.tail _ (List.mem_append_right _ hp)))) ?hdp ?hun ?_
            case kB => k_asm
            case kF => k_asm
            case kX => k_asm
            case kT => k_asm
            case hk => exact rfl
            case hdp => first | ktr_room | (refine depth_mark ?_; ktr_room)
            case hun => ktr_units
            intro h7 tk7 t7 F7 N7
            replace N7 := kst_newsOf (l' := (1089, tabObj _) :: nx2) N7 (List.forall_mem_cons.mpr ⟨R2.inn _ (.head _), fun p hp => hp⟩)
            repeat' ((fail_if_success (with_reducible show wpAny _ _ (compareOp _ _ _) _ _ _)); first | (k_unfold; (try dsimp only)) | ((with_reducible show wpAny _ _ (call _ _) _ _ _); first | k_invariant "r" (830, make_FF) | k_invariant "r" (882, make_FT) | k_invariant "r" (830, make_TF) | k_invariant "r" (882, make_TT) | k_invariant "r" (1065, h_value_ok) | k_invariant "r" (1070, h_room) | k_invariant "r" ((Sh.pf _), cpop_ok) | k_invariant "lw" op_len) | ((with_reducible show wpAny _ _ (getMethod _ _ _) _ _ _); k_invariant "lw" m_item) | ((with_reducible show wpAny _ _ (callWith _ (Value.ref (Sh.pf _)) _ _ _) _ _ _); refine callWith_K0 (by k_in) kp_pf ?_; k_whole) | (with_reducible refine iteT ?_) | walk1 | dsimp only | (leave1; try dsimp only) | dsimp only [InitBack])
            refine eq_is rfl ?_
            k_steps
            subst hQ9
            k_steps
end Mine
theorem PySem.Challenge.cw_ki0005_01_holds : PySem.Challenge.rw_ki0005_01.Holds :=
  Mine.all
